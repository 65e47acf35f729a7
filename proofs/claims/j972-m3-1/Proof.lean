import JvmDerived
import JvmDerived.Pilot.@@N@@Statement
import JvmDerived.Pilot.@@N@@Code
set_option linter.unusedVariables false
set_option linter.unusedSimpArgs false

namespace Jvm.Pilot.@@N@@
open Jvm Jvm.ClassFile Sem Op Lib Jvm.Free Jvm.Stand Jvm.LawKit Jvm.RoadKit Bundle Jvm.Pilot.@@N@@.Jvm.D
/-! own kit: the walk's goal carried forward, arrays as functions -/
def own_Fin (below : List Frame) (s : State) (Q : Option Value → Heap → List Loc → Prop) (k n : Nat) (t : State) : Prop :=
  ∃ o, t.status = .running ∧ Ended t below o ∧ ∃ v L, o = .returned v ∧ Q v t.heap L ∧ FrameEnd s o t L k n
def own_Go (tb : Tables) (e : Env) (below : List Frame) (S : State) (P : State → Prop) : Prop := ∃ t, Steps tb e below S t ∧ P t
theorem own_by {tb : Tables} {e : Env} {below : List Frame} {S S' : State} {P : State → Prop} (k : ∀ t, Steps tb e below S' t → Steps tb e below S t) (h : own_Go tb e below S' P) : own_Go tb e below S P := by
  obtain ⟨t, a, b⟩ := h
  exact ⟨t, k t a, b⟩
theorem own_tr {tb : Tables} {e : Env} {below : List Frame} {S S' : State} {P : State → Prop} (k : Steps tb e below S S') (h : own_Go tb e below S' P) : own_Go tb e below S P := by
  obtain ⟨t, a, b⟩ := h
  exact ⟨t, k.trans a, b⟩
theorem own_out {tb : Tables} {e : Env} {below : List Frame} {S s : State} {Q : Option Value → Heap → List Loc → Prop} {k n : Nat} (h : own_Go tb e below S (own_Fin below s Q k n)) :
    ∃ s₂ o, Steps tb e below S s₂ ∧ s₂.status = .running ∧ Ended s₂ below o ∧ ∃ v L, o = .returned v ∧ Q v s₂.heap L ∧ FrameEnd s o s₂ L k n := by
  obtain ⟨t, a, o, b, c, d⟩ := h
  exact ⟨t, o, a, b, c, d⟩
theorem own_cast {tb : Tables} {e : Env} {below : List Frame} {T : State} {g g' : JFrame} {P : State → Prop} (q : g = g') (h : own_Go tb e below (T.setTop g') P) : own_Go tb e below (T.setTop g) P := q ▸ h
section OwnEnd
variable {p : Program} {l : Launch} {e : Env} {R : Room} {s : State} {m : MethodId} {args : Array Value} {below : List Frame} {meth : Method} {c : Code} {T : State} {locs : List Loc} {cells slots : Nat} {Q : Option Value → Heap → List Loc → Prop} {k n : Nat}
theorem own_ret (X : Stand p l e R s m args below meth c T locs cells slots) (hx : p.tables.exec = Jvm.exec) (hlocks : meth.locks = false) {pc : Nat} {Ls : Array Slot} {w : Value} {t : FieldType} {i : Instr} {rest : List Value} (hret : meth.sig.returnType = some t) (hn : narrow t w = w)
    (hi : (i = .ireturn ∧ (t = .int ∨ t = .boolean ∨ t = .byte ∨ t = .char ∨ t = .short) ∧ ∃ z, w = .int z) ∨ (i = .lreturn ∧ t = .long ∧ ∃ z, w = .long z) ∨ (i = .dreturn ∧ t = .double ∧ ∃ z, w = .double z) ∨ (i = .freturn ∧ t = .float ∧ ∃ z, w = .float z) ∨ (i = .areturn ∧ t.isReference = true ∧ w.isRef = true))
    (hd : decode c.code pc = .ok (i, 1)) (hQ : Q (some w) T.heap locs) (h1 : cells ≤ k) (h2 : slots ≤ n) :
    own_Go p.tables e below (T.setTop (mkF m pc Ls (w :: rest))) (own_Fin below s Q k n) := by
  obtain ⟨fs, hr, hrun, hended, hW, hsame⟩ := X.leave (v := some w) (fun h => by rw [hret] at h; cases h) hlocks
  exact ⟨_, retOut X hx hret hn hi hd hr, _, hrun, hended, _, _, rfl, hQ, ⟨_, rfl⟩, hW, hsame.mono h1 h2⟩
theorem own_retI (X : Stand p l e R s m args below meth c T locs cells slots) (hx : p.tables.exec = Jvm.exec) (hlocks : meth.locks = false) {pc : Nat} {Ls : Array Slot} {z : Int32} {rest : List Value} (hret : meth.sig.returnType = some .int)
    (hd : decode c.code pc = .ok (.ireturn, 1)) (hQ : Q (some (.int z)) T.heap locs) (h1 : cells ≤ k) (h2 : slots ≤ n) :
    own_Go p.tables e below (T.setTop (mkF m pc Ls (.int z :: rest))) (own_Fin below s Q k n) :=
  own_ret X hx hlocks hret rfl (Or.inl ⟨rfl, Or.inl rfl, _, rfl⟩) hd hQ h1 h2
theorem own_retJ (X : Stand p l e R s m args below meth c T locs cells slots) (hx : p.tables.exec = Jvm.exec) (hlocks : meth.locks = false) {pc : Nat} {Ls : Array Slot} {z : Int64} {rest : List Value} (hret : meth.sig.returnType = some .long)
    (hd : decode c.code pc = .ok (.lreturn, 1)) (hQ : Q (some (.long z)) T.heap locs) (h1 : cells ≤ k) (h2 : slots ≤ n) :
    own_Go p.tables e below (T.setTop (mkF m pc Ls (.long z :: rest))) (own_Fin below s Q k n) :=
  own_ret X hx hlocks hret rfl (Or.inr (Or.inl ⟨rfl, rfl, _, rfl⟩)) hd hQ h1 h2
theorem own_retA (X : Stand p l e R s m args below meth c T locs cells slots) (hx : p.tables.exec = Jvm.exec) (hlocks : meth.locks = false) {pc : Nat} {Ls : Array Slot} {w : Value} {t : FieldType} {rest : List Value} (hret : meth.sig.returnType = some t) (ht : t.isReference = true) (hw : w.isRef = true) (hn : narrow t w = w)
    (hd : decode c.code pc = .ok (.areturn, 1)) (hQ : Q (some w) T.heap locs) (h1 : cells ≤ k) (h2 : slots ≤ n) :
    own_Go p.tables e below (T.setTop (mkF m pc Ls (w :: rest))) (own_Fin below s Q k n) :=
  own_ret X hx hlocks hret hn (Or.inr (Or.inr (Or.inr (Or.inr ⟨rfl, ht, hw⟩)))) hd hQ h1 h2
theorem own_retN (X : Stand p l e R s m args below meth c T locs cells slots) (hx : p.tables.exec = Jvm.exec) (hlocks : meth.locks = false) {pc : Nat} {Ls : Array Slot} {z : Int32} {t : FieldType} {rest : List Value} (hret : meth.sig.returnType = some t) (ht : t = .boolean ∨ t = .byte ∨ t = .char ∨ t = .short) (hn : nar t z = z)
    (hd : decode c.code pc = .ok (.ireturn, 1)) (hQ : Q (some (.int z)) T.heap locs) (h1 : cells ≤ k) (h2 : slots ≤ n) :
    own_Go p.tables e below (T.setTop (mkF m pc Ls (.int z :: rest))) (own_Fin below s Q k n) := by
  obtain ⟨fs, hr, hrun, hended, hW, hsame⟩ := X.leave (v := some (.int (nar t z))) (fun h => by rw [hret] at h; cases h) hlocks
  exact ⟨_, retN X hx hret ht hd hr, _, hrun, hended, _, _, rfl, (by rw [hn]; exact hQ), ⟨_, rfl⟩, hW, hsame.mono h1 h2⟩
theorem own_retV (X : Stand p l e R s m args below meth c T locs cells slots) (hx : p.tables.exec = Jvm.exec) (hlocks : meth.locks = false) {pc : Nat} {Ls : Array Slot} (hret : meth.sig.returnType = none)
    (hd : decode c.code pc = .ok (.return_, 1)) (hQ : Q none T.heap locs) (h1 : cells ≤ k) (h2 : slots ≤ n) :
    own_Go p.tables e below (T.setTop (mkF m pc Ls [])) (own_Fin below s Q k n) := by
  obtain ⟨fs, hr, hrun, hended, hW, hsame⟩ := X.leave (v := none) (fun _ => rfl) hlocks
  exact ⟨_, X.returnOut hx hret hd hr, _, hrun, hended, _, _, rfl, hQ, ⟨_, rfl⟩, hW, hsame.mono h1 h2⟩
end OwnEnd
/-- one place of a function changed -/
def own_upd {α : Type} (f : Nat → α) (k : Nat) (x : α) : Nat → α := fun i => if i = k then x else f i
theorem own_upd_at {α : Type} (f : Nat → α) (k : Nat) (x : α) : own_upd f k x k = x := by simp [own_upd]
theorem own_upd_ne {α : Type} (f : Nat → α) {k i : Nat} (x : α) (h : i ≠ k) : own_upd f k x i = f i := by simp [own_upd, h]
/-- an array: its length, and what each place holds -/
def own_AF (Z : State) (h : Heap) (a : Addr) (ty : FieldType) (n : Nat) (f : Nat → Value) : Prop := ∃ c : Cell, Arr Z h a c ty ∧ c.slots.size = n ∧ ∀ i, i < n → c.slots[i]? = some (f i)
def own_AI (Z : State) (h : Heap) (a : Addr) (ty : FieldType) (n : Nat) (b : Nat → Int32) : Prop := own_AF Z h a ty n (fun i => .int (b i))
def own_AJ (Z : State) (h : Heap) (a : Addr) (n : Nat) (b : Nat → Int64) : Prop := own_AF Z h a .long n (fun i => .long (b i))
section OwnArr
variable {Z : State} {h h' : Heap} {a b : Addr} {ty : FieldType} {n : Nat} {f : Nat → Value} {ws : List Addr} {sl : Nat} {v : Value} {bi : Nat → Int32} {bj : Nat → Int64}
theorem own_AF.lt (F : own_AF Z h a ty n f) : a < h.size := by obtain ⟨c, A, -⟩ := F; exact A.lt
theorem own_AF.ext (F : own_AF Z h a ty n f) (E : Ext h h') : own_AF Z h' a ty n f := by obtain ⟨c, A, r⟩ := F; exact ⟨c, A.ext E, r⟩
theorem own_AF.other (F : own_AF Z h b ty n f) (W : Wr h h' a sl v) (q : b ≠ a) : own_AF Z h' b ty n f := by obtain ⟨c, A, r⟩ := F; exact ⟨c, A.other W q, r⟩
theorem own_AF.keep (F : own_AF Z h a ty n f) (K : Keep h h' ws) (q : a ∉ ws) : own_AF Z h' a ty n f := by obtain ⟨c, A, r⟩ := F; exact ⟨c, ⟨K.2.1 a c A.1 q, A.2⟩, r⟩
theorem own_AF.congr (F : own_AF Z h a ty n f) {f' : Nat → Value} (q : ∀ i, i < n → f i = f' i) : own_AF Z h a ty n f' := by obtain ⟨c, A, S, r⟩ := F; exact ⟨c, A, S, fun i hi => by rw [← q i hi]; exact r i hi⟩
theorem own_AF.new {k : ClassId} {z : Int32} (A : Arr Z h a (newA k ty z) ty) (hz : z.toNatClampNeg = n) : own_AF Z h a ty n (fun _ => defaultValue ty) := by
  subst hz
  exact ⟨_, A, sz_new _ _ _, fun i hi => by simp [newA, hi]⟩
theorem own_AF.st (F : own_AF Z h a ty n f) (W : Wr h h' a sl v) : own_AF Z h' a ty n (own_upd f sl v) := by
  obtain ⟨c, A, S, r⟩ := F
  refine ⟨_, A.same W, by rw [sz_set]; exact S, fun i hi => ?_⟩
  by_cases u : i = sl
  · subst u; rw [own_upd_at]; simp [Cell.setSlot, S, hi]
  · rw [own_upd_ne _ _ u]
    simp only [Cell.setSlot]
    rw [Array.getElem?_setIfInBounds_ne (fun q => u q.symm)]; exact r i hi
theorem own_AI.st {x : Int32} (F : own_AI Z h a ty n bi) (W : Wr h h' a sl (.int x)) : own_AI Z h' a ty n (own_upd bi sl x) :=
  (own_AF.st F W).congr fun i _ => by by_cases u : i = sl <;> simp [own_upd, u]
theorem own_AJ.st {x : Int64} (F : own_AJ Z h a n bj) (W : Wr h h' a sl (.long x)) : own_AJ Z h' a n (own_upd bj sl x) :=
  (own_AF.st F W).congr fun i _ => by by_cases u : i = sl <;> simp [own_upd, u]
theorem own_AI.lt (F : own_AI Z h a ty n bi) : a < h.size := own_AF.lt F
theorem own_AI.ext (F : own_AI Z h a ty n bi) (E : Ext h h') : own_AI Z h' a ty n bi := own_AF.ext F E
theorem own_AI.other (F : own_AI Z h b ty n bi) (W : Wr h h' a sl v) (q : b ≠ a) : own_AI Z h' b ty n bi := own_AF.other F W q
theorem own_AI.keep (F : own_AI Z h a ty n bi) (K : Keep h h' ws) (q : a ∉ ws) : own_AI Z h' a ty n bi := own_AF.keep F K q
theorem own_AI.congr (F : own_AI Z h a ty n bi) {b' : Nat → Int32} (q : ∀ i, i < n → bi i = b' i) : own_AI Z h a ty n b' := own_AF.congr F fun i hi => by rw [q i hi]
theorem own_AJ.lt (F : own_AJ Z h a n bj) : a < h.size := own_AF.lt F
theorem own_AJ.ext (F : own_AJ Z h a n bj) (E : Ext h h') : own_AJ Z h' a n bj := own_AF.ext F E
theorem own_AJ.other (F : own_AJ Z h b n bj) (W : Wr h h' a sl v) (q : b ≠ a) : own_AJ Z h' b n bj := own_AF.other F W q
theorem own_AJ.keep (F : own_AJ Z h a n bj) (K : Keep h h' ws) (q : a ∉ ws) : own_AJ Z h' a n bj := own_AF.keep F K q
theorem own_AJ.congr (F : own_AJ Z h a n bj) {b' : Nat → Int64} (q : ∀ i, i < n → bj i = b' i) : own_AJ Z h a n b' := own_AF.congr F fun i hi => by rw [q i hi]
variable {p : Program} {l : Launch} {e : Env} {R : Room} {s : State} {m : MethodId} {args : Array Value} {below : List Frame} {meth : Method} {c : Code} {T : State} {locs : List Loc} {cells slots : Nat} {j : Int32} {k : Nat} {g : JFrame} {rest : List Value}
theorem own_in {cl : Cell} (S : cl.slots.size = n) (h0 : ¬ j < 0) (hk : j.toNatClampNeg = k) (hlt : k < n) : ¬ (j < 0 ∨ cl.slots.size ≤ j.toNatClampNeg) := by
  rintro (q | q)
  · exact h0 q
  · rw [S, hk] at q; omega
theorem own_ldB (X : Stand p l e R s m args below meth c T locs cells slots) (hx : p.tables.exec = Jvm.exec) (hZ : Z.Warmed39 s.vm) (eT : T.heap = h) (A : own_AI Z h a .byte n bi) (h0 : ¬ j < 0) (hk : j.toNatClampNeg = k) (hlt : k < n) (hg : g.method = m) (hs : g.stack = .int j :: .ref a :: rest) (hd : decode c.code g.pc = .ok (.baload, 1)) :
    ∀ target, Steps p.tables e below (T.setTop { g with pc := g.pc + 1, stack := .int (bi k) :: rest }) target → Steps p.tables e below (T.setTop g) target := by
  obtain ⟨cl, Ar, S, H⟩ := A
  exact X.baloadBytes hx (v := .int (bi k)) (by rw [eT]; exact Ar.1) (State.isArrayOf_alike hZ.alike Ar.2.1) Ar.2.2 (own_in S h0 hk hlt) (by rw [hk]; exact H k hlt) hg hs hd
theorem own_ldI (X : Stand p l e R s m args below meth c T locs cells slots) (hx : p.tables.exec = Jvm.exec) (hZ : Z.Warmed39 s.vm) (eT : T.heap = h) (A : own_AI Z h a .int n bi) (h0 : ¬ j < 0) (hk : j.toNatClampNeg = k) (hlt : k < n) (hg : g.method = m) (hs : g.stack = .int j :: .ref a :: rest) (hd : decode c.code g.pc = .ok (.iaload, 1)) :
    ∀ target, Steps p.tables e below (T.setTop { g with pc := g.pc + 1, stack := .int (bi k) :: rest }) target → Steps p.tables e below (T.setTop g) target := by
  obtain ⟨cl, Ar, S, H⟩ := A
  exact X.iaload hx (v := .int (bi k)) (by rw [eT]; exact Ar.1) (State.isArrayOf_alike hZ.alike Ar.2.1) Ar.2.2 (own_in S h0 hk hlt) (by rw [hk]; exact H k hlt) hg hs hd
theorem own_ldJ (X : Stand p l e R s m args below meth c T locs cells slots) (hx : p.tables.exec = Jvm.exec) (hZ : Z.Warmed39 s.vm) (eT : T.heap = h) (A : own_AJ Z h a n bj) (h0 : ¬ j < 0) (hk : j.toNatClampNeg = k) (hlt : k < n) (hg : g.method = m) (hs : g.stack = .int j :: .ref a :: rest) (hd : decode c.code g.pc = .ok (.laload, 1)) :
    ∀ target, Steps p.tables e below (T.setTop { g with pc := g.pc + 1, stack := .long (bj k) :: rest }) target → Steps p.tables e below (T.setTop g) target := by
  obtain ⟨cl, Ar, S, H⟩ := A
  exact X.laload hx (v := .long (bj k)) (by rw [eT]; exact Ar.1) (State.isArrayOf_alike hZ.alike Ar.2.1) Ar.2.2 (own_in S h0 hk hlt) (by rw [hk]; exact H k hlt) hg hs hd
theorem own_len (X : Stand p l e R s m args below meth c T locs cells slots) (hx : p.tables.exec = Jvm.exec) (hZ : Z.Warmed39 s.vm) (eT : T.heap = h) (A : own_AF Z h a ty n f) {z : Int32} (hz : n.toInt32 = z) (hg : g.method = m) (hs : g.stack = .ref a :: rest) (hd : decode c.code g.pc = .ok (.arraylength, 1)) :
    ∀ target, Steps p.tables e below (T.setTop { g with pc := g.pc + 1, stack := .int z :: rest }) target → Steps p.tables e below (T.setTop g) target := by
  obtain ⟨cl, Ar, S, H⟩ := A
  intro t hr
  refine X.arraylength hx (by rw [eT]; exact Ar.1) (State.isArrayOf_alike hZ.alike Ar.2.1) hg hs hd t ?_
  rw [S, hz]; exact hr
theorem own_stB (X : Stand p l e R s m args below meth c T locs cells slots) (hx : p.tables.exec = Jvm.exec) (hZ : Z.Warmed39 s.vm) (eT : T.heap = h) (A : own_AI Z h a .byte n bi) {x : Int32} (h0 : ¬ j < 0) (hk : j.toNatClampNeg = k) (hlt : k < n) (hg : g.method = m) (hs : g.stack = .int x :: .int j :: .ref a :: rest) (hd : decode c.code g.pc = .ok (.bastore, 1)) :
    ∃ T' h', Stand p l e R s m args below meth c T' (locs ++ [⟨a, k⟩]) cells slots ∧ T'.heap = h' ∧ Wr h h' a k (.int (x.toInt8.toInt32)) ∧ own_AI Z h' a .byte n (own_upd bi k (x.toInt8.toInt32)) ∧ ∀ target, Steps p.tables e below (T'.setTop { g with pc := g.pc + 1, stack := rest }) target → Steps p.tables e below (T.setTop g) target := by
  obtain ⟨cl, Ar, S, H⟩ := id A
  obtain ⟨T', h', X', e', W, st⟩ := stB X hx hZ eT Ar (own_in S h0 hk hlt) hg hs hd
  rw [hk] at X' W
  exact ⟨T', h', X', e', W, A.st W, st⟩
theorem own_stI (X : Stand p l e R s m args below meth c T locs cells slots) (hx : p.tables.exec = Jvm.exec) (hZ : Z.Warmed39 s.vm) (eT : T.heap = h) (A : own_AI Z h a .int n bi) {x : Int32} (h0 : ¬ j < 0) (hk : j.toNatClampNeg = k) (hlt : k < n) (hg : g.method = m) (hs : g.stack = .int x :: .int j :: .ref a :: rest) (hd : decode c.code g.pc = .ok (.iastore, 1)) :
    ∃ T' h', Stand p l e R s m args below meth c T' (locs ++ [⟨a, k⟩]) cells slots ∧ T'.heap = h' ∧ Wr h h' a k (.int x) ∧ own_AI Z h' a .int n (own_upd bi k x) ∧ ∀ target, Steps p.tables e below (T'.setTop { g with pc := g.pc + 1, stack := rest }) target → Steps p.tables e below (T.setTop g) target := by
  obtain ⟨cl, Ar, S, H⟩ := id A
  obtain ⟨T', h', X', e', W, st⟩ := stI X hx hZ eT Ar (own_in S h0 hk hlt) hg hs hd
  rw [hk] at X' W
  exact ⟨T', h', X', e', W, A.st W, st⟩
theorem own_stJ (X : Stand p l e R s m args below meth c T locs cells slots) (hx : p.tables.exec = Jvm.exec) (hZ : Z.Warmed39 s.vm) (eT : T.heap = h) (A : own_AJ Z h a n bj) {x : Int64} (h0 : ¬ j < 0) (hk : j.toNatClampNeg = k) (hlt : k < n) (hg : g.method = m) (hs : g.stack = .long x :: .int j :: .ref a :: rest) (hd : decode c.code g.pc = .ok (.lastore, 1)) :
    ∃ T' h', Stand p l e R s m args below meth c T' (locs ++ [⟨a, k⟩]) cells slots ∧ T'.heap = h' ∧ Wr h h' a k (.long x) ∧ own_AJ Z h' a n (own_upd bj k x) ∧ ∀ target, Steps p.tables e below (T'.setTop { g with pc := g.pc + 1, stack := rest }) target → Steps p.tables e below (T.setTop g) target := by
  obtain ⟨cl, Ar, S, H⟩ := id A
  obtain ⟨T', h', X', e', W, st⟩ := stJ X hx hZ eT Ar (own_in S h0 hk hlt) hg hs hd
  rw [hk] at X' W
  exact ⟨T', h', X', e', W, A.st W, st⟩
end OwnArr
/-- what a body leaves that returns an int (a long) and writes nothing -/
def own_QI (h0 : Heap) (n0 : Nat) (f : Int32) (v : Option Value) (h : Heap) (L : List Loc) : Prop := ∃ r : Int32, v = some (.int r) ∧ Fr n0 L ∧ h = h0 ∧ r = f
def own_QJ (h0 : Heap) (n0 : Nat) (f : Int64) (v : Option Value) (h : Heap) (L : List Loc) : Prop := ∃ r : Int64, v = some (.long r) ∧ Fr n0 L ∧ h = h0 ∧ r = f
theorem own_nb {z : Int32} (h : z = 0 ∨ z = 1) : nar .boolean z = z := by rcases h with rfl | rfl <;> decide
/-! sums, differences and products that don't wrap -/
theorem own_add {x y : Int32} (h1 : -2147483648 ≤ x.toInt + y.toInt) (h2 : x.toInt + y.toInt < 2147483648) : (x + y).toInt = x.toInt + y.toInt := by
  have a := c_iadd x y; have b := (x + y).toInt_lt; have c := (x + y).le_toInt; omega
theorem own_sub' {x y : Int32} (h1 : -2147483648 ≤ x.toInt - y.toInt) (h2 : x.toInt - y.toInt < 2147483648) : (x - y).toInt = x.toInt - y.toInt := by
  have a := c_isub x y; have b := (x - y).toInt_lt; have c := (x - y).le_toInt; omega
theorem own_mul {x y : Int32} {t : Int} (ht : x.toInt * y.toInt = t) (h1 : -2147483648 ≤ t) (h2 : t < 2147483648) : (x * y).toInt = t := by
  have a := c_imul x y; rw [ht] at a; have b := (x * y).toInt_lt; have c := (x * y).le_toInt; omega
theorem own_addL {x y : Int64} (h1 : -9223372036854775808 ≤ x.toInt + y.toInt) (h2 : x.toInt + y.toInt < 9223372036854775808) : (x + y).toInt = x.toInt + y.toInt := by
  have a := c_ladd x y; have b := (x + y).toInt_lt; have c := (x + y).le_toInt; omega
theorem own_subL {x y : Int64} (h1 : -9223372036854775808 ≤ x.toInt - y.toInt) (h2 : x.toInt - y.toInt < 9223372036854775808) : (x - y).toInt = x.toInt - y.toInt := by
  have a := c_lsub x y; have b := (x - y).toInt_lt; have c := (x - y).le_toInt; omega
theorem own_mulL {x y : Int64} {t : Int} (ht : x.toInt * y.toInt = t) (h1 : -9223372036854775808 ≤ t) (h2 : t < 9223372036854775808) : (x * y).toInt = t := by
  have a := c_lmul x y; rw [ht] at a; have b := (x * y).toInt_lt; have c := (x * y).le_toInt; omega
theorem own_lowbyte (x : Int32) : (x.toInt8.toInt32.toInt8.toInt32 &&& (255 : Int32)).toInt = x.toInt % 256 := by
  have m := c_mask x.toInt8.toInt32.toInt8.toInt32 255 8 (by decide) (by decide)
  have b1 := c_i2b x.toInt8.toInt32; have b2 := c_i2b x
  rw [m]; omega
theorem own_sub (a b : Int32) : (a + b) - a = b := by
  rw [Int32.add_comm, Int32.add_sub_cancel]
theorem own_ob {r o : Int32} (ho : o = (r &&& (65535 : Int32))) : 0 ≤ o.toInt ∧ o.toInt < 65536 := by
  have m := c_mask r 65535 16 (by decide) (by decide)
  rw [ho, m]; omega
theorem own_o0 {r o : Int32} (ho : o = (r &&& (65535 : Int32))) : ¬ o < (0 : Int32) := by
  have := own_ob ho; have e : (0 : Int32).toInt = 0 := by decide
  rw [Int32.lt_iff_toInt_lt, e]; omega
theorem own_o1 {r o : Int32} (ho : o = (r &&& (65535 : Int32))) : ¬ (65535 : Int32) < o := by
  have := own_ob ho; have e : (65535 : Int32).toInt = 65535 := by decide
  rw [Int32.lt_iff_toInt_lt, e]; omega
theorem own_hi {r d z : Int32} (ho : d = (r &&& (65535 : Int32))) (hz : z = (((d >>> ((8 : Int32) &&& 31)).toInt8.toInt32).toInt8.toInt32 &&& (255 : Int32))) : z = (d / (256 : Int32)) := by
  have b := own_ob ho
  have s := c_ishr d 8 8 (by decide)
  have q := (c_idiv d 256 256 (by decide) (by decide)).1 (by omega)
  apply Int32.toInt_inj.mp
  rw [hz, own_lowbyte, q]; omega
theorem own_lo {r d z : Int32} (ho : d = (r &&& (65535 : Int32))) (hz : z = ((d.toInt8.toInt32).toInt8.toInt32 &&& (255 : Int32))) : z = (d % (256 : Int32)) := by
  have b := own_ob ho
  have q := (c_irem d 256 256 (by decide)).1 (by omega)
  apply Int32.toInt_inj.mp
  rw [hz, own_lowbyte, q]
theorem own_rt {lw r d lb va hi lo : Int32} (ho : d = (r &&& (65535 : Int32))) (hlb : lb = (if ((2147483647 : Int32) - d) < lw then ((2147483647 : Int32) - d) else lw)) (hva : va = (lb + d))
    (hhi : hi = (((d >>> ((8 : Int32) &&& 31)).toInt8.toInt32).toInt8.toInt32 &&& (255 : Int32))) (hlo : lo = ((d.toInt8.toInt32).toInt8.toInt32 &&& (255 : Int32))) :
    ((lb.toInt64) + (((hi * (256 : Int32)) + lo).toInt64)) = (va.toInt64) := by
  have b := own_ob ho
  have s := c_ishr d 8 8 (by decide)
  have h1 : hi.toInt = d.toInt / 256 := by rw [hhi, own_lowbyte]; omega
  have h2 : lo.toInt = d.toInt % 256 := by rw [hlo, own_lowbyte]
  have e : (256 : Int32).toInt = 256 := by decide
  have e2 : (2147483647 : Int32).toInt = 2147483647 := by decide
  clear hhi hlo s
  have k0 : ((2147483647 : Int32) - d).toInt = 2147483647 - d.toInt := by
    rw [own_sub' (by omega) (by omega), e2]
  have k1 : lb.toInt ≤ 2147483647 - d.toInt := by
    rw [hlb]; split
    · rw [k0]; exact Int.le_refl _
    · rename_i q; rw [Int32.lt_iff_toInt_lt, k0] at q; omega
  clear hlb k0
  have r9 := lb.le_toInt
  have p1 : (hi * 256).toInt = hi.toInt * 256 := own_mul (by rw [e]) (by omega) (by omega)
  have p2 : (hi * 256 + lo).toInt = d.toInt := by rw [own_add (by omega) (by omega), p1]; omega
  have p3 : va.toInt = lb.toInt + d.toInt := by rw [hva]; exact own_add (by omega) (by omega)
  apply Int64.toInt_inj.mp
  rw [own_addL (by rw [c_i2l, c_i2l]; omega) (by rw [c_i2l, c_i2l]; omega), c_i2l, c_i2l, c_i2l, p2, p3]
theorem d_jdk_29_method_69_0 : decode jdk_29_method_69_code 0 = .ok (.iload_n 0, 1) := by decide +kernel
theorem d_jdk_29_method_69_1 : decode jdk_29_method_69_code 1 = .ok (.iload_n 1, 1) := by decide +kernel
theorem d_jdk_29_method_69_2 : decode jdk_29_method_69_code 2 = .ok (.if_icmp .gt 7, 3) := by decide +kernel
theorem d_jdk_29_method_69_9 : decode jdk_29_method_69_code 9 = .ok (.iload_n 1, 1) := by decide +kernel
theorem d_jdk_29_method_69_5 : decode jdk_29_method_69_code 5 = .ok (.iload_n 0, 1) := by decide +kernel
theorem d_jdk_29_method_69_6 : decode jdk_29_method_69_code 6 = .ok (.goto 4, 3) := by decide +kernel
theorem d_jdk_29_method_69_10 : decode jdk_29_method_69_code 10 = .ok (.ireturn, 1) := by decide +kernel
theorem ef_rm_min (m : MethodId) (p1 : Int32) (p2 : Int32) : entryFrame m #[(.int p1), (.int p2)] 2 = mkF m 0 #[.val (.int p1), .val (.int p2)] [] := by first | (simp [entryFrame, mkF, argsToLocals, Value.category]; done) | rfl
set_option maxRecDepth 65536 in
set_option maxHeartbeats 40000000 in
theorem rm_min (l : Launch) (Z : State) (a0 : Array Value) (hw : ∀ d ∈ tables_1, d.before a0 Z = true) (ws : List Jvm.Cond) (p1 : Int32) (p2 : Int32) (h0 : Heap) (n0 : Nat) (Z0 : n0 ≤ h0.size)  :
    MetFree l (⟨"java/lang/Math", "min", "(II)I"⟩ : MethodName) (head1 (Jvm.Cond.code (⟨"java/lang/Math", "min", "(II)I"⟩ : MethodName) jdk_29_method_69_code 2 (some .int) :: ws) ({ frames := 0, cells := 0, slots := 0, locals := 0 } : Room)) (fun zA zU => zA = #[(.int p1), (.int p2)] ∧ Z.Warmed39 zU.vm ∧ zU.heap = h0) (fun _ _ _ _ _ => True) (fun _ zU zo zW => ∃ zv zL, zo = .returned zv ∧ (own_QI h0 n0 (if p2 < p1 then p2 else p1)) zv zW.heap zL ∧ FrameEnd zU zo zW zL ({ frames := 0, cells := 0, slots := 0, locals := 0 } : Room).cells ({ frames := 0, cells := 0, slots := 0, locals := 0 } : Room).slots) := by
  refine MetFree.of_bodySF (Jvm.Free.JP.mathPlain rfl (by decide +kernel)) hisR ?_
  intro p e s m args below meth c s₁ Bd hml0 hP hK
  obtain ⟨rfl, hZ, hh⟩ := hP
  have hx := Bd.exec
  have hby := Bd.bytes
  have hml : c.maxLocals = 2 := hml0
  have hown : s.vm.findClass "java/lang/Math" = some m.cls := findClass_of_methodNamed Bd.named
  have hnm := (name_of_methodNamed Bd.named Bd.method).1
  have X0 : Stand p l e ({ frames := 0, cells := 0, slots := 0, locals := 0 } : Room) s m #[(.int p1), (.int p2)] below meth c s₁ [] 0 0 := Stand.of_body Bd
  have e0 : s₁.heap = h0 := by rw [← hh, Bd.state]; rfl
  have N0 := Fr.nil n0
  refine own_out (Q := own_QI h0 n0 (if p2 < p1 then p2 else p1)) ?_
  refine own_cast (ef_rm_min m p1 p2) ?_
  show own_Go p.tables e below (s₁.setTop (mkF m 0 #[.val (.int p1), .val (.int p2)] [])) _
  obtain ⟨q, hq, sj2⟩ : ∃ (q : Int32), q = (if p2 < p1 then p2 else p1) ∧ ∀ t, Steps p.tables e below (s₁.setTop (mkF m 10 #[.val (.int p1), .val (.int p2)] [(.int q)])) t → Steps p.tables e below (s₁.setTop (mkF m 0 #[.val (.int p1), .val (.int p2)] [])) t := by
    by_cases j1 : p2 < p1
    · refine ⟨(p2), (if_pos j1).symm, fun t k => ?_⟩
      show Steps p.tables e below (s₁.setTop (mkF m 0 #[.val (.int p1), .val (.int p2)] [])) _
      refine XS.iloadN X0.here hx rfl (hb hby d_jdk_29_method_69_0) rfl ?_
      show Steps p.tables e below (s₁.setTop (mkF m 1 #[.val (.int p1), .val (.int p2)] [(.int p1)])) _
      refine XS.iloadN X0.here hx rfl (hb hby d_jdk_29_method_69_1) rfl ?_
      show Steps p.tables e below (s₁.setTop (mkF m 2 #[.val (.int p1), .val (.int p2)] [(.int p2), (.int p1)])) _
      refine XS.icmpYes X0.here hx rfl (pc0 := 2) (pc' := 9) rfl (hb hby d_jdk_29_method_69_2) rfl (tlt j1).2.2.1 (by decide) (by decide) ?_
      show Steps p.tables e below (s₁.setTop (mkF m 9 #[.val (.int p1), .val (.int p2)] [])) _
      refine XS.iloadN X0.here hx rfl (hb hby d_jdk_29_method_69_9) rfl ?_
      show Steps p.tables e below (s₁.setTop (mkF m 10 #[.val (.int p1), .val (.int p2)] [(.int p2)])) _
      exact k
    · refine ⟨(p1), (if_neg j1).symm, fun t k => ?_⟩
      show Steps p.tables e below (s₁.setTop (mkF m 0 #[.val (.int p1), .val (.int p2)] [])) _
      refine XS.iloadN X0.here hx rfl (hb hby d_jdk_29_method_69_0) rfl ?_
      show Steps p.tables e below (s₁.setTop (mkF m 1 #[.val (.int p1), .val (.int p2)] [(.int p1)])) _
      refine XS.iloadN X0.here hx rfl (hb hby d_jdk_29_method_69_1) rfl ?_
      show Steps p.tables e below (s₁.setTop (mkF m 2 #[.val (.int p1), .val (.int p2)] [(.int p2), (.int p1)])) _
      refine XS.icmpNo X0.here hx rfl (hb hby d_jdk_29_method_69_2) rfl (flt j1).2.2.1 ?_
      show Steps p.tables e below (s₁.setTop (mkF m 5 #[.val (.int p1), .val (.int p2)] [])) _
      refine XS.iloadN X0.here hx rfl (hb hby d_jdk_29_method_69_5) rfl ?_
      show Steps p.tables e below (s₁.setTop (mkF m 6 #[.val (.int p1), .val (.int p2)] [(.int p1)])) _
      refine XS.goto X0.here hx rfl (pc0 := 6) (pc' := 10) rfl (hb hby d_jdk_29_method_69_6) (by decide) (by decide) ?_
      show Steps p.tables e below (s₁.setTop (mkF m 10 #[.val (.int p1), .val (.int p2)] [(.int p1)])) _
      exact k
  refine own_by (sj2) ?_
  show own_Go p.tables e below (s₁.setTop (mkF m 10 #[.val (.int p1), .val (.int p2)] [(.int q)])) _
  exact own_retI X0 hx Bd.notSynchronized Bd.returns (hb hby d_jdk_29_method_69_10) (by (try rw [e0]); exact ⟨_, rfl, N0, rfl, hq⟩) (by decide) (by decide)
theorem d_prog_46_method_7_0 : decode prog_46_method_7_code 0 = .ok (.iload_n 0, 1) := by decide +kernel
theorem d_prog_46_method_7_1 : decode prog_46_method_7_code 1 = .ok (.iload_n 1, 1) := by decide +kernel
theorem d_prog_46_method_7_2 : decode prog_46_method_7_code 2 = .ok (.isub, 1) := by decide +kernel
theorem d_prog_46_method_7_3 : decode prog_46_method_7_code 3 = .ok (.istore_n 2, 1) := by decide +kernel
theorem d_prog_46_method_7_4 : decode prog_46_method_7_code 4 = .ok (.iload_n 2, 1) := by decide +kernel
theorem d_prog_46_method_7_5 : decode prog_46_method_7_code 5 = .ok (.ifCond .lt 9, 3) := by decide +kernel
theorem d_prog_46_method_7_8 : decode prog_46_method_7_code 8 = .ok (.iload_n 2, 1) := by decide +kernel
theorem d_prog_46_method_7_9 : decode prog_46_method_7_code 9 = .ok (.ldc 73, 2) := by decide +kernel
theorem d_prog_46_method_7_11 : decode prog_46_method_7_code 11 = .ok (.if_icmp .le 18, 3) := by decide +kernel
theorem d_prog_46_method_7_29 : decode prog_46_method_7_code 29 = .ok (.iconst 2, 1) := by decide +kernel
theorem d_prog_46_method_7_30 : decode prog_46_method_7_code 30 = .ok (.newarray .byte, 2) := by decide +kernel
theorem d_prog_46_method_7_32 : decode prog_46_method_7_code 32 = .ok (.dup, 1) := by decide +kernel
theorem d_prog_46_method_7_33 : decode prog_46_method_7_code 33 = .ok (.iconst 0, 1) := by decide +kernel
theorem d_prog_46_method_7_34 : decode prog_46_method_7_code 34 = .ok (.iload_n 2, 1) := by decide +kernel
theorem d_prog_46_method_7_35 : decode prog_46_method_7_code 35 = .ok (.bipush 8, 2) := by decide +kernel
theorem d_prog_46_method_7_37 : decode prog_46_method_7_code 37 = .ok (.ishr, 1) := by decide +kernel
theorem d_prog_46_method_7_38 : decode prog_46_method_7_code 38 = .ok (.i2b, 1) := by decide +kernel
theorem d_prog_46_method_7_39 : decode prog_46_method_7_code 39 = .ok (.bastore, 1) := by decide +kernel
theorem d_prog_46_method_7_40 : decode prog_46_method_7_code 40 = .ok (.dup, 1) := by decide +kernel
theorem d_prog_46_method_7_41 : decode prog_46_method_7_code 41 = .ok (.iconst 1, 1) := by decide +kernel
theorem d_prog_46_method_7_42 : decode prog_46_method_7_code 42 = .ok (.iload_n 2, 1) := by decide +kernel
theorem d_prog_46_method_7_43 : decode prog_46_method_7_code 43 = .ok (.i2b, 1) := by decide +kernel
theorem d_prog_46_method_7_44 : decode prog_46_method_7_code 44 = .ok (.bastore, 1) := by decide +kernel
theorem d_prog_46_method_7_45 : decode prog_46_method_7_code 45 = .ok (.areturn, 1) := by decide +kernel
def Q_rm_two (Z : State) (p1 : Int32) (p2 : Int32) (h0 : Heap) (n0 : Nat) (v : Option Value) (h : Heap) (L : List Loc) : Prop := ∃ b : Addr, v = some (.ref b) ∧ Fr n0 L ∧ Keep h0 h [] ∧ h0.size ≤ b ∧ ∃ d : Int32, d = (p1 - p2) ∧ own_AI Z h b .byte 2 (own_upd (own_upd (fun _ => (0 : Int32)) 0 (((d >>> ((8 : Int32) &&& 31)).toInt8.toInt32).toInt8.toInt32)) 1 ((d.toInt8.toInt32).toInt8.toInt32))
theorem ef_rm_two (m : MethodId) (p1 : Int32) (p2 : Int32) : entryFrame m #[(.int p1), (.int p2)] 3 = mkF m 0 #[.val (.int p1), .val (.int p2), .unset] [] := by first | (simp [entryFrame, mkF, argsToLocals, Value.category]; done) | rfl
theorem pn_31 : plainName "com/example/parley/parley/Per" = true := by first | (simp [plainName, overriddenIn]; done) | decide +kernel
set_option maxRecDepth 65536 in
set_option maxHeartbeats 40000000 in
theorem rm_two (l : Launch) (Z : State) (a0 : Array Value) (hw : ∀ d ∈ tables_1, d.before a0 Z = true) (ws : List Jvm.Cond) (p1 : Int32) (p2 : Int32) (h0 : Heap) (n0 : Nat) (Z0 : n0 ≤ h0.size) (hp0 : ¬ (p1 - p2) < (0 : Int32)) (hp1 : ¬ (65535 : Int32) < (p1 - p2)) :
    MetFree l (⟨"com/example/parley/parley/Per", "twoByteNumber", "(II)[B"⟩ : MethodName) (head1 (Jvm.Cond.code (⟨"com/example/parley/parley/Per", "twoByteNumber", "(II)[B"⟩ : MethodName) prog_46_method_7_code 3 (some (.array .byte)) :: ws) ({ frames := 0, cells := 1, slots := 2, locals := 0 } : Room)) (fun zA zU => zA = #[(.int p1), (.int p2)] ∧ Z.Warmed39 zU.vm ∧ zU.heap = h0) (fun _ _ _ _ _ => True) (fun _ zU zo zW => ∃ zv zL, zo = .returned zv ∧ (Q_rm_two Z p1 p2 h0 n0) zv zW.heap zL ∧ FrameEnd zU zo zW zL ({ frames := 0, cells := 1, slots := 2, locals := 0 } : Room).cells ({ frames := 0, cells := 1, slots := 2, locals := 0 } : Room).slots) := by
  refine MetFree.of_bodySF (plainFor_of_name pn_31) hisR ?_
  intro p e s m args below meth c s₁ Bd hml0 hP hK
  obtain ⟨rfl, hZ, hh⟩ := hP
  have hx := Bd.exec
  have hby := Bd.bytes
  have hml : c.maxLocals = 3 := hml0
  have hown : s.vm.findClass "com/example/parley/parley/Per" = some m.cls := findClass_of_methodNamed Bd.named
  have hnm := (name_of_methodNamed Bd.named Bd.method).1
  have X0 : Stand p l e ({ frames := 0, cells := 1, slots := 2, locals := 0 } : Room) s m #[(.int p1), (.int p2)] below meth c s₁ [] 0 0 := Stand.of_body Bd
  have e0 : s₁.heap = h0 := by rw [← hh, Bd.state]; rfl
  have N0 := Fr.nil n0
  refine own_out (Q := Q_rm_two Z p1 p2 h0 n0) ?_
  refine own_cast (ef_rm_two m p1 p2) ?_
  show own_Go p.tables e below (s₁.setTop (mkF m 0 #[.val (.int p1), .val (.int p2), .unset] [])) _
  refine own_by (fun t k => XS.iloadN X0.here hx rfl (hb hby d_prog_46_method_7_0) rfl k) ?_
  show own_Go p.tables e below (s₁.setTop (mkF m 1 #[.val (.int p1), .val (.int p2), .unset] [(.int p1)])) _
  refine own_by (fun t k => XS.iloadN X0.here hx rfl (hb hby d_prog_46_method_7_1) rfl k) ?_
  show own_Go p.tables e below (s₁.setTop (mkF m 2 #[.val (.int p1), .val (.int p2), .unset] [(.int p2), (.int p1)])) _
  refine own_by (fun t k => XS.isub X0.here hx rfl (hb hby d_prog_46_method_7_2) rfl k) ?_
  show own_Go p.tables e below (s₁.setTop (mkF m 3 #[.val (.int p1), .val (.int p2), .unset] [(.int (p1 - p2))])) _
  obtain ⟨d, hd⟩ : ∃ z, z = (p1 - p2) := ⟨_, rfl⟩
  rw [← hd]
  show own_Go p.tables e below (s₁.setTop (mkF m 3 #[.val (.int p1), .val (.int p2), .unset] [(.int d)])) _
  refine own_by (fun t k => XS.istoreN X0.here hx rfl (hb hby d_prog_46_method_7_3) rfl (l' := #[.val (.int p1), .val (.int p2), .val (.int d)]) rfl k) ?_
  show own_Go p.tables e below (s₁.setTop (mkF m 4 #[.val (.int p1), .val (.int p2), .val (.int d)] [])) _
  refine own_by (fun t k => XS.iloadN X0.here hx rfl (hb hby d_prog_46_method_7_4) rfl k) ?_
  show own_Go p.tables e below (s₁.setTop (mkF m 5 #[.val (.int p1), .val (.int p2), .val (.int d)] [(.int d)])) _
  have hd0 : ¬ d < (0 : Int32) := hd ▸ hp0
  have hd1 : ¬ (65535 : Int32) < d := hd ▸ hp1
  refine own_by (fun t k => XS.ifNo X0.here hx rfl (hb hby d_prog_46_method_7_5) rfl ((if0 _ _).trans (flt hd0).1) k) ?_
  show own_Go p.tables e below (s₁.setTop (mkF m 8 #[.val (.int p1), .val (.int p2), .val (.int d)] [])) _
  refine own_by (fun t k => XS.iloadN X0.here hx rfl (hb hby d_prog_46_method_7_8) rfl k) ?_
  show own_Go p.tables e below (s₁.setTop (mkF m 9 #[.val (.int p1), .val (.int p2), .val (.int d)] [(.int d)])) _
  refine own_by (X0.ldcInt hx hown (mvT hZ (hw _ (List.mem_of_getElem? (i := 10) rfl))) (g := (mkF m 9 #[.val (.int p1), .val (.int p2), .val (.int d)] [(.int d)])) rfl (hb hby d_prog_46_method_7_9)) ?_
  show own_Go p.tables e below (s₁.setTop (mkF m 11 #[.val (.int p1), .val (.int p2), .val (.int d)] [(.int (65535 : Int32)), (.int d)])) _
  refine own_by (fun t k => XS.icmpYes X0.here hx rfl (pc0 := 11) (pc' := 29) rfl (hb hby d_prog_46_method_7_11) rfl (flt hd1).2.2.2 (by decide) (by decide) k) ?_
  show own_Go p.tables e below (s₁.setTop (mkF m 29 #[.val (.int p1), .val (.int p2), .val (.int d)] [])) _
  refine own_by (fun t k => XS.iconst X0.here hx rfl (hb hby d_prog_46_method_7_29) k) ?_
  show own_Go p.tables e below (s₁.setTop (mkF m 30 #[.val (.int p1), .val (.int p2), .val (.int d)] [(.int (2 : Int32))])) _
  obtain ⟨T1, hea1, k1, X1, e1, E1, A1, st1⟩ := newP X0 hx hZ (hw _ (List.mem_of_getElem? (i := 11) rfl)) e0 (g := (mkF m 30 #[.val (.int p1), .val (.int p2), .val (.int d)] [(.int (2 : Int32))])) rfl (hb hby d_prog_46_method_7_30) rfl (by decide) (cap := 2) (by decide) (by decide) (by decide) (by decide)
  obtain ⟨b, g1⟩ : ∃ z, z = h0.size := ⟨_, rfl⟩
  rw [← g1] at A1 st1
  have sz_b : h0.size ≤ b := Nat.le_trans (Keep.refl h0 []).1 (Nat.le_of_eq g1.symm)
  have K1 : Keep h0 hea1 [] := (Keep.refl h0 []).ext E1
  refine own_by (st1) ?_
  have V1 : own_AI Z hea1 b .byte 2 (fun _ => (0 : Int32)) := own_AF.new A1 rfl
  show own_Go p.tables e below (T1.setTop (mkF m 32 #[.val (.int p1), .val (.int p2), .val (.int d)] [(.ref b)])) _
  refine own_by (fun t k => XS.dup X1.here hx rfl (hb hby d_prog_46_method_7_32) rfl rfl k) ?_
  show own_Go p.tables e below (T1.setTop (mkF m 33 #[.val (.int p1), .val (.int p2), .val (.int d)] [(.ref b), (.ref b)])) _
  refine own_by (fun t k => XS.iconst X1.here hx rfl (hb hby d_prog_46_method_7_33) k) ?_
  show own_Go p.tables e below (T1.setTop (mkF m 34 #[.val (.int p1), .val (.int p2), .val (.int d)] [(.int (0 : Int32)), (.ref b), (.ref b)])) _
  refine own_by (fun t k => XS.iloadN X1.here hx rfl (hb hby d_prog_46_method_7_34) rfl k) ?_
  show own_Go p.tables e below (T1.setTop (mkF m 35 #[.val (.int p1), .val (.int p2), .val (.int d)] [(.int d), (.int (0 : Int32)), (.ref b), (.ref b)])) _
  refine own_by (fun t k => XS.bipush X1.here hx rfl (hb hby d_prog_46_method_7_35) k) ?_
  show own_Go p.tables e below (T1.setTop (mkF m 37 #[.val (.int p1), .val (.int p2), .val (.int d)] [(.int (8 : Int32)), (.int d), (.int (0 : Int32)), (.ref b), (.ref b)])) _
  refine own_by (fun t k => XS.ishr X1.here hx rfl (hb hby d_prog_46_method_7_37) rfl k) ?_
  show own_Go p.tables e below (T1.setTop (mkF m 38 #[.val (.int p1), .val (.int p2), .val (.int d)] [(.int (d >>> ((8 : Int32) &&& 31))), (.int (0 : Int32)), (.ref b), (.ref b)])) _
  refine own_by (fun t k => XS.i2b X1.here hx rfl (hb hby d_prog_46_method_7_38) rfl k) ?_
  show own_Go p.tables e below (T1.setTop (mkF m 39 #[.val (.int p1), .val (.int p2), .val (.int d)] [(.int ((d >>> ((8 : Int32) &&& 31)).toInt8.toInt32)), (.int (0 : Int32)), (.ref b), (.ref b)])) _
  obtain ⟨T2, hea2, X2, e2, W2, V2, st2⟩ := own_stB X1 hx hZ e1 V1 (j := (0 : Int32)) (k := 0) (by decide) rfl (by decide) (g := (mkF m 39 #[.val (.int p1), .val (.int p2), .val (.int d)] [(.int ((d >>> ((8 : Int32) &&& 31)).toInt8.toInt32)), (.int (0 : Int32)), (.ref b), (.ref b)])) rfl rfl (hb hby d_prog_46_method_7_39)
  have N2 := Fr.snoc X2 N0 (Nat.le_trans Z0 sz_b)
  have K2 : Keep h0 hea2 [] := K1.wr W2 (Or.inr sz_b)
  refine own_by (st2) ?_
  show own_Go p.tables e below (T2.setTop (mkF m 40 #[.val (.int p1), .val (.int p2), .val (.int d)] [(.ref b)])) _
  refine own_by (fun t k => XS.dup X2.here hx rfl (hb hby d_prog_46_method_7_40) rfl rfl k) ?_
  show own_Go p.tables e below (T2.setTop (mkF m 41 #[.val (.int p1), .val (.int p2), .val (.int d)] [(.ref b), (.ref b)])) _
  refine own_by (fun t k => XS.iconst X2.here hx rfl (hb hby d_prog_46_method_7_41) k) ?_
  show own_Go p.tables e below (T2.setTop (mkF m 42 #[.val (.int p1), .val (.int p2), .val (.int d)] [(.int (1 : Int32)), (.ref b), (.ref b)])) _
  refine own_by (fun t k => XS.iloadN X2.here hx rfl (hb hby d_prog_46_method_7_42) rfl k) ?_
  show own_Go p.tables e below (T2.setTop (mkF m 43 #[.val (.int p1), .val (.int p2), .val (.int d)] [(.int d), (.int (1 : Int32)), (.ref b), (.ref b)])) _
  refine own_by (fun t k => XS.i2b X2.here hx rfl (hb hby d_prog_46_method_7_43) rfl k) ?_
  show own_Go p.tables e below (T2.setTop (mkF m 44 #[.val (.int p1), .val (.int p2), .val (.int d)] [(.int (d.toInt8.toInt32)), (.int (1 : Int32)), (.ref b), (.ref b)])) _
  obtain ⟨T3, hea3, X3, e3, W3, V3, st3⟩ := own_stB X2 hx hZ e2 V2 (j := (1 : Int32)) (k := 1) (by decide) rfl (by decide) (g := (mkF m 44 #[.val (.int p1), .val (.int p2), .val (.int d)] [(.int (d.toInt8.toInt32)), (.int (1 : Int32)), (.ref b), (.ref b)])) rfl rfl (hb hby d_prog_46_method_7_44)
  have N3 := Fr.snoc X3 N2 (Nat.le_trans Z0 sz_b)
  have K3 : Keep h0 hea3 [] := K2.wr W3 (Or.inr sz_b)
  refine own_by (st3) ?_
  show own_Go p.tables e below (T3.setTop (mkF m 45 #[.val (.int p1), .val (.int p2), .val (.int d)] [(.ref b)])) _
  exact own_retA X3 hx Bd.notSynchronized Bd.returns rfl rfl rfl (hb hby d_prog_46_method_7_45) (by (try rw [e3]); exact ⟨_, rfl, N3, K3, sz_b, d, hd, V3⟩) (by decide) (by decide)
theorem pd_32 : parseMethodDescriptor "(II)I" = some ⟨[.int, .int], some .int⟩ := by decide +kernel
theorem pd_33 : parseMethodDescriptor "(II)[B" = some ⟨[.int, .int], some (.array .byte)⟩ := by decide +kernel
theorem ef_rm_law (m : MethodId) (lw : Int32) (ro : Int32) : entryFrame m #[(.int lw), (.int ro)] maxLocals = mkF m 0 #[.val (.int lw), .val (.int ro), .unset, .unset, .unset, .unset, .unset, .unset, .unset, .unset] [] := by first | (simp [entryFrame, mkF, argsToLocals, Value.category, maxLocals]; done) | rfl
theorem pn_34 : plainName "com/example/parley/parley/PerTwoByteNumberPinLaw" = true := by first | (simp [plainName, overriddenIn]; done) | decide +kernel
set_option maxRecDepth 65536 in
set_option maxHeartbeats 40000000 in
theorem rm_law (l : Launch) (Z : State) (a0 : Array Value) (hw : ∀ d ∈ tables_1, d.before a0 Z = true) (ws : List Jvm.Cond) (lw : Int32) (ro : Int32) (h0 : Heap) (n0 : Nat) (Z0 : n0 ≤ h0.size)  :
    MetFree l x (head1 (Jvm.Cond.code x code maxLocals ret :: ws) room_1) (fun zA zU => zA = #[(.int lw), (.int ro)] ∧ Z.Warmed39 zU.vm ∧ zU.heap = h0) (fun _ _ _ _ _ => True) (fun _ zU zo zW => ∃ zv zL, zo = .returned zv ∧ (fun v h L => v = some (.int 1) ∧ Fr n0 L) zv zW.heap zL ∧ FrameEnd zU zo zW zL 1 2) := by
  refine MetFree.of_bodySF (plainFor_of_name pn_34) hisR ?_
  intro p e s m args below meth c s₁ Bd hml0 hP hK
  obtain ⟨rfl, hZ, hh⟩ := hP
  have hx := Bd.exec
  have hby := Bd.bytes
  have hml : c.maxLocals = 10 := hml0
  have hown : s.vm.findClass "com/example/parley/parley/PerTwoByteNumberPinLaw" = some m.cls := findClass_of_methodNamed Bd.named
  have hnm := (name_of_methodNamed Bd.named Bd.method).1
  have X0 : Stand p l e room_1 s m #[(.int lw), (.int ro)] below meth c s₁ [] 0 0 := Stand.of_body Bd
  have e0 : s₁.heap = h0 := by rw [← hh, Bd.state]; rfl
  have N0 := Fr.nil n0
  refine own_out (Q := fun v h L => v = some (.int 1) ∧ Fr n0 L) ?_
  refine own_cast (ef_rm_law m lw ro) ?_
  show own_Go p.tables e below (s₁.setTop (mkF m 0 #[.val (.int lw), .val (.int ro), .unset, .unset, .unset, .unset, .unset, .unset, .unset, .unset] [])) _
  refine own_by (fun t k => XS.iloadN X0.here hx rfl (hb hby at_0) rfl k) ?_
  show own_Go p.tables e below (s₁.setTop (mkF m 1 #[.val (.int lw), .val (.int ro), .unset, .unset, .unset, .unset, .unset, .unset, .unset, .unset] [(.int ro)])) _
  refine own_by (X0.ldcInt hx hown (mvT hZ (hw _ (List.mem_of_getElem? (i := 0) rfl))) (g := (mkF m 1 #[.val (.int lw), .val (.int ro), .unset, .unset, .unset, .unset, .unset, .unset, .unset, .unset] [(.int ro)])) rfl (hb hby at_1)) ?_
  show own_Go p.tables e below (s₁.setTop (mkF m 3 #[.val (.int lw), .val (.int ro), .unset, .unset, .unset, .unset, .unset, .unset, .unset, .unset] [(.int (65535 : Int32)), (.int ro)])) _
  refine own_by (fun t k => XS.iand X0.here hx rfl (hb hby at_3) rfl k) ?_
  show own_Go p.tables e below (s₁.setTop (mkF m 4 #[.val (.int lw), .val (.int ro), .unset, .unset, .unset, .unset, .unset, .unset, .unset, .unset] [(.int (ro &&& (65535 : Int32)))])) _
  obtain ⟨o, ho⟩ : ∃ z, z = (ro &&& (65535 : Int32)) := ⟨_, rfl⟩
  rw [← ho]
  show own_Go p.tables e below (s₁.setTop (mkF m 4 #[.val (.int lw), .val (.int ro), .unset, .unset, .unset, .unset, .unset, .unset, .unset, .unset] [(.int o)])) _
  refine own_by (fun t k => XS.istoreN X0.here hx rfl (hb hby at_4) rfl (l' := #[.val (.int lw), .val (.int ro), .val (.int o), .unset, .unset, .unset, .unset, .unset, .unset, .unset]) rfl k) ?_
  show own_Go p.tables e below (s₁.setTop (mkF m 5 #[.val (.int lw), .val (.int ro), .val (.int o), .unset, .unset, .unset, .unset, .unset, .unset, .unset] [])) _
  refine own_by (fun t k => XS.iloadN X0.here hx rfl (hb hby at_5) rfl k) ?_
  show own_Go p.tables e below (s₁.setTop (mkF m 6 #[.val (.int lw), .val (.int ro), .val (.int o), .unset, .unset, .unset, .unset, .unset, .unset, .unset] [(.int lw)])) _
  refine own_by (X0.ldcInt hx hown (mvT hZ (hw _ (List.mem_of_getElem? (i := 1) rfl))) (g := (mkF m 6 #[.val (.int lw), .val (.int ro), .val (.int o), .unset, .unset, .unset, .unset, .unset, .unset, .unset] [(.int lw)])) rfl (hb hby at_6)) ?_
  show own_Go p.tables e below (s₁.setTop (mkF m 8 #[.val (.int lw), .val (.int ro), .val (.int o), .unset, .unset, .unset, .unset, .unset, .unset, .unset] [(.int (2147483647 : Int32)), (.int lw)])) _
  refine own_by (fun t k => XS.iloadN X0.here hx rfl (hb hby at_8) rfl k) ?_
  show own_Go p.tables e below (s₁.setTop (mkF m 9 #[.val (.int lw), .val (.int ro), .val (.int o), .unset, .unset, .unset, .unset, .unset, .unset, .unset] [(.int o), (.int (2147483647 : Int32)), (.int lw)])) _
  refine own_by (fun t k => XS.isub X0.here hx rfl (hb hby at_9) rfl k) ?_
  show own_Go p.tables e below (s₁.setTop (mkF m 10 #[.val (.int lw), .val (.int ro), .val (.int o), .unset, .unset, .unset, .unset, .unset, .unset, .unset] [(.int ((2147483647 : Int32) - o)), (.int lw)])) _
  obtain ⟨_, _, ⟨T1, L1, k1, n1⟩, -, X1, ⟨Lc1, hQ1, l1, y1, z1⟩, st1⟩ := Jvm.LawKit.callS X0 hx (y := (⟨"java/lang/Math", "min", "(II)I"⟩ : MethodName)) hown (mvT hZ (hw _ (List.mem_of_getElem? (i := 2) rfl))) (mvT hZ (hw _ (List.mem_of_getElem? (i := 3) rfl))) (mvT hZ (hw _ (List.mem_of_getElem? (i := 4) rfl))) (mvT hZ (hw _ (List.mem_of_getElem? (i := 5) rfl))) (by decide) (backOf (W := 0) (rm_min l Z a0 hw [] lw ((2147483647 : Int32) - o)  h0 n0 (Nat.le_trans Z0 (Keep.refl h0 []).1) ) hZ (hw _ (List.mem_of_getElem? (i := 5) rfl)) (hw _ (List.mem_of_getElem? (i := 4) rfl)) (by decide) (by decide)) (g := (mkF m 10 #[.val (.int lw), .val (.int ro), .val (.int o), .unset, .unset, .unset, .unset, .unset, .unset, .unset] [(.int ((2147483647 : Int32) - o)), (.int lw)])) rfl (by rw [hml]; rfl) (argsL := [(.int lw), (.int ((2147483647 : Int32) - o))]) (rest := []) (lenOf pd_32 rfl) rfl (by show 2 * 0 + _ ≤ _; exact Nat.le_of_eq rfl) (hb hby at_10) (fun _ _ => ⟨rfl, e0, (by decide : 0 + 0 ≤ _), (by decide : 0 + 0 ≤ _)⟩)
  dsimp only [Pt.U, Pt.locs, Pt.cells, Pt.slots] at X1 l1 y1 z1 st1 hQ1
  subst l1 y1 z1
  obtain ⟨lb, rfl, N1q, eh1, hlb⟩ := hQ1
  have N1 := Fr.app N0 N1q
  refine own_by (st1) ?_
  show own_Go p.tables e below (T1.setTop (mkF m 13 #[.val (.int lw), .val (.int ro), .val (.int o), .unset, .unset, .unset, .unset, .unset, .unset, .unset] [(.int lb)])) _
  refine own_by (fun t k => XS.istoreN X1.here hx rfl (hb hby at_13) rfl (l' := #[.val (.int lw), .val (.int ro), .val (.int o), .val (.int lb), .unset, .unset, .unset, .unset, .unset, .unset]) rfl k) ?_
  show own_Go p.tables e below (T1.setTop (mkF m 14 #[.val (.int lw), .val (.int ro), .val (.int o), .val (.int lb), .unset, .unset, .unset, .unset, .unset, .unset] [])) _
  refine own_by (fun t k => XS.iloadN X1.here hx rfl (hb hby at_14) rfl k) ?_
  show own_Go p.tables e below (T1.setTop (mkF m 15 #[.val (.int lw), .val (.int ro), .val (.int o), .val (.int lb), .unset, .unset, .unset, .unset, .unset, .unset] [(.int lb)])) _
  refine own_by (fun t k => XS.iloadN X1.here hx rfl (hb hby at_15) rfl k) ?_
  show own_Go p.tables e below (T1.setTop (mkF m 16 #[.val (.int lw), .val (.int ro), .val (.int o), .val (.int lb), .unset, .unset, .unset, .unset, .unset, .unset] [(.int o), (.int lb)])) _
  refine own_by (fun t k => XS.iadd X1.here hx rfl (hb hby at_16) rfl k) ?_
  show own_Go p.tables e below (T1.setTop (mkF m 17 #[.val (.int lw), .val (.int ro), .val (.int o), .val (.int lb), .unset, .unset, .unset, .unset, .unset, .unset] [(.int (lb + o))])) _
  obtain ⟨va, hva⟩ : ∃ z, z = (lb + o) := ⟨_, rfl⟩
  rw [← hva]
  show own_Go p.tables e below (T1.setTop (mkF m 17 #[.val (.int lw), .val (.int ro), .val (.int o), .val (.int lb), .unset, .unset, .unset, .unset, .unset, .unset] [(.int va)])) _
  refine own_by (fun t k => XS.istore X1.here hx rfl (hb hby at_17) rfl (l' := #[.val (.int lw), .val (.int ro), .val (.int o), .val (.int lb), .val (.int va), .unset, .unset, .unset, .unset, .unset]) rfl k) ?_
  show own_Go p.tables e below (T1.setTop (mkF m 19 #[.val (.int lw), .val (.int ro), .val (.int o), .val (.int lb), .val (.int va), .unset, .unset, .unset, .unset, .unset] [])) _
  refine own_by (fun t k => XS.iload X1.here hx rfl (hb hby at_19) rfl k) ?_
  show own_Go p.tables e below (T1.setTop (mkF m 21 #[.val (.int lw), .val (.int ro), .val (.int o), .val (.int lb), .val (.int va), .unset, .unset, .unset, .unset, .unset] [(.int va)])) _
  refine own_by (fun t k => XS.iloadN X1.here hx rfl (hb hby at_21) rfl k) ?_
  show own_Go p.tables e below (T1.setTop (mkF m 22 #[.val (.int lw), .val (.int ro), .val (.int o), .val (.int lb), .val (.int va), .unset, .unset, .unset, .unset, .unset] [(.int lb), (.int va)])) _
  have hd : va - lb = o := by rw [hva]; exact own_sub lb o
  have q0 : ¬ (va - lb) < (0 : Int32) := by rw [hd]; exact own_o0 ho
  have q1 : ¬ (65535 : Int32) < (va - lb) := by rw [hd]; exact own_o1 ho
  obtain ⟨_, _, ⟨T2, L2, k2, n2⟩, -, X2, ⟨Lc2, hQ2, l2, y2, z2⟩, st2⟩ := Jvm.LawKit.callS X1 hx (y := (⟨"com/example/parley/parley/Per", "twoByteNumber", "(II)[B"⟩ : MethodName)) hown (mvT hZ (hw _ (List.mem_of_getElem? (i := 6) rfl))) (mvT hZ (hw _ (List.mem_of_getElem? (i := 7) rfl))) (mvT hZ (hw _ (List.mem_of_getElem? (i := 8) rfl))) (mvT hZ (hw _ (List.mem_of_getElem? (i := 9) rfl))) (by decide) (backOf (W := 0) (rm_two l Z a0 hw [] va lb  h0 n0 (Nat.le_trans Z0 (Keep.refl h0 []).1) q0 q1) hZ (hw _ (List.mem_of_getElem? (i := 9) rfl)) (hw _ (List.mem_of_getElem? (i := 8) rfl)) (by decide) (by decide)) (g := (mkF m 22 #[.val (.int lw), .val (.int ro), .val (.int o), .val (.int lb), .val (.int va), .unset, .unset, .unset, .unset, .unset] [(.int lb), (.int va)])) rfl (by rw [hml]; rfl) (argsL := [(.int va), (.int lb)]) (rest := []) (lenOf pd_33 rfl) rfl (by show 2 * 0 + _ ≤ _; exact Nat.le_of_eq rfl) (hb hby at_22) (fun _ _ => ⟨rfl, eh1, (by decide : 0 + 1 ≤ _), (by decide : 0 + 2 ≤ _)⟩)
  dsimp only [Pt.U, Pt.locs, Pt.cells, Pt.slots] at X2 l2 y2 z2 st2 hQ2
  subst l2 y2 z2
  obtain ⟨b, rfl, N2q, Kc2, sz_b, d, hdd, V2⟩ := hQ2
  have N2 := Fr.app N1 N2q
  have K2 : Keep h0 T2.heap [] := (Keep.refl h0 []).trans Kc2 all0
  refine own_by (st2) ?_
  show own_Go p.tables e below (T2.setTop (mkF m 25 #[.val (.int lw), .val (.int ro), .val (.int o), .val (.int lb), .val (.int va), .unset, .unset, .unset, .unset, .unset] [(.ref b)])) _
  rw [hd] at hdd
  subst hdd
  show own_Go p.tables e below (T2.setTop (mkF m 25 #[.val (.int lw), .val (.int ro), .val (.int d), .val (.int lb), .val (.int va), .unset, .unset, .unset, .unset, .unset] [(.ref b)])) _
  refine own_by (fun t k => XS.astore X2.here hx rfl (hb hby at_25) rfl rfl (l' := #[.val (.int lw), .val (.int ro), .val (.int d), .val (.int lb), .val (.int va), .val (.ref b), .unset, .unset, .unset, .unset]) rfl k) ?_
  show own_Go p.tables e below (T2.setTop (mkF m 27 #[.val (.int lw), .val (.int ro), .val (.int d), .val (.int lb), .val (.int va), .val (.ref b), .unset, .unset, .unset, .unset] [])) _
  refine own_by (fun t k => XS.aload X2.here hx rfl (hb hby at_27) rfl rfl k) ?_
  show own_Go p.tables e below (T2.setTop (mkF m 29 #[.val (.int lw), .val (.int ro), .val (.int d), .val (.int lb), .val (.int va), .val (.ref b), .unset, .unset, .unset, .unset] [(.ref b)])) _
  refine own_by (fun t k => XS.ifnullNo X2.here hx rfl (hb hby at_29) rfl k) ?_
  show own_Go p.tables e below (T2.setTop (mkF m 32 #[.val (.int lw), .val (.int ro), .val (.int d), .val (.int lb), .val (.int va), .val (.ref b), .unset, .unset, .unset, .unset] [])) _
  refine own_by (fun t k => XS.aload X2.here hx rfl (hb hby at_32) rfl rfl k) ?_
  show own_Go p.tables e below (T2.setTop (mkF m 34 #[.val (.int lw), .val (.int ro), .val (.int d), .val (.int lb), .val (.int va), .val (.ref b), .unset, .unset, .unset, .unset] [(.ref b)])) _
  refine own_by (own_len X2 hx hZ rfl V2 (z := (2 : Int32)) rfl (g := (mkF m 34 #[.val (.int lw), .val (.int ro), .val (.int d), .val (.int lb), .val (.int va), .val (.ref b), .unset, .unset, .unset, .unset] [(.ref b)])) rfl rfl (hb hby at_34)) ?_
  show own_Go p.tables e below (T2.setTop (mkF m 35 #[.val (.int lw), .val (.int ro), .val (.int d), .val (.int lb), .val (.int va), .val (.ref b), .unset, .unset, .unset, .unset] [(.int (2 : Int32))])) _
  refine own_by (fun t k => XS.iconst X2.here hx rfl (hb hby at_35) k) ?_
  show own_Go p.tables e below (T2.setTop (mkF m 36 #[.val (.int lw), .val (.int ro), .val (.int d), .val (.int lb), .val (.int va), .val (.ref b), .unset, .unset, .unset, .unset] [(.int (2 : Int32)), (.int (2 : Int32))])) _
  refine own_by (fun t k => XS.icmpYes X2.here hx rfl (pc0 := 36) (pc' := 41) rfl (hb hby at_36) rfl (teq rfl).1 (by decide) (by decide) k) ?_
  show own_Go p.tables e below (T2.setTop (mkF m 41 #[.val (.int lw), .val (.int ro), .val (.int d), .val (.int lb), .val (.int va), .val (.ref b), .unset, .unset, .unset, .unset] [])) _
  refine own_by (fun t k => XS.aload X2.here hx rfl (hb hby at_41) rfl rfl k) ?_
  show own_Go p.tables e below (T2.setTop (mkF m 43 #[.val (.int lw), .val (.int ro), .val (.int d), .val (.int lb), .val (.int va), .val (.ref b), .unset, .unset, .unset, .unset] [(.ref b)])) _
  refine own_by (fun t k => XS.iconst X2.here hx rfl (hb hby at_43) k) ?_
  show own_Go p.tables e below (T2.setTop (mkF m 44 #[.val (.int lw), .val (.int ro), .val (.int d), .val (.int lb), .val (.int va), .val (.ref b), .unset, .unset, .unset, .unset] [(.int (0 : Int32)), (.ref b)])) _
  refine own_by (own_ldB X2 hx hZ rfl V2 (j := (0 : Int32)) (k := 0) (by decide) rfl (by decide) (g := (mkF m 44 #[.val (.int lw), .val (.int ro), .val (.int d), .val (.int lb), .val (.int va), .val (.ref b), .unset, .unset, .unset, .unset] [(.int (0 : Int32)), (.ref b)])) rfl rfl (hb hby at_44)) ?_
  show own_Go p.tables e below (T2.setTop (mkF m 45 #[.val (.int lw), .val (.int ro), .val (.int d), .val (.int lb), .val (.int va), .val (.ref b), .unset, .unset, .unset, .unset] [(.int ((d >>> ((8 : Int32) &&& 31)).toInt8.toInt32).toInt8.toInt32)])) _
  refine own_by (fun t k => XS.sipush X2.here hx rfl (hb hby at_45) k) ?_
  show own_Go p.tables e below (T2.setTop (mkF m 48 #[.val (.int lw), .val (.int ro), .val (.int d), .val (.int lb), .val (.int va), .val (.ref b), .unset, .unset, .unset, .unset] [(.int (255 : Int32)), (.int ((d >>> ((8 : Int32) &&& 31)).toInt8.toInt32).toInt8.toInt32)])) _
  refine own_by (fun t k => XS.iand X2.here hx rfl (hb hby at_48) rfl k) ?_
  show own_Go p.tables e below (T2.setTop (mkF m 49 #[.val (.int lw), .val (.int ro), .val (.int d), .val (.int lb), .val (.int va), .val (.ref b), .unset, .unset, .unset, .unset] [(.int (((d >>> ((8 : Int32) &&& 31)).toInt8.toInt32).toInt8.toInt32 &&& (255 : Int32)))])) _
  obtain ⟨hi, hhi⟩ : ∃ z, z = (((d >>> ((8 : Int32) &&& 31)).toInt8.toInt32).toInt8.toInt32 &&& (255 : Int32)) := ⟨_, rfl⟩
  rw [← hhi]
  show own_Go p.tables e below (T2.setTop (mkF m 49 #[.val (.int lw), .val (.int ro), .val (.int d), .val (.int lb), .val (.int va), .val (.ref b), .unset, .unset, .unset, .unset] [(.int hi)])) _
  refine own_by (fun t k => XS.istore X2.here hx rfl (hb hby at_49) rfl (l' := #[.val (.int lw), .val (.int ro), .val (.int d), .val (.int lb), .val (.int va), .val (.ref b), .val (.int hi), .unset, .unset, .unset]) rfl k) ?_
  show own_Go p.tables e below (T2.setTop (mkF m 51 #[.val (.int lw), .val (.int ro), .val (.int d), .val (.int lb), .val (.int va), .val (.ref b), .val (.int hi), .unset, .unset, .unset] [])) _
  refine own_by (fun t k => XS.aload X2.here hx rfl (hb hby at_51) rfl rfl k) ?_
  show own_Go p.tables e below (T2.setTop (mkF m 53 #[.val (.int lw), .val (.int ro), .val (.int d), .val (.int lb), .val (.int va), .val (.ref b), .val (.int hi), .unset, .unset, .unset] [(.ref b)])) _
  refine own_by (fun t k => XS.iconst X2.here hx rfl (hb hby at_53) k) ?_
  show own_Go p.tables e below (T2.setTop (mkF m 54 #[.val (.int lw), .val (.int ro), .val (.int d), .val (.int lb), .val (.int va), .val (.ref b), .val (.int hi), .unset, .unset, .unset] [(.int (1 : Int32)), (.ref b)])) _
  refine own_by (own_ldB X2 hx hZ rfl V2 (j := (1 : Int32)) (k := 1) (by decide) rfl (by decide) (g := (mkF m 54 #[.val (.int lw), .val (.int ro), .val (.int d), .val (.int lb), .val (.int va), .val (.ref b), .val (.int hi), .unset, .unset, .unset] [(.int (1 : Int32)), (.ref b)])) rfl rfl (hb hby at_54)) ?_
  show own_Go p.tables e below (T2.setTop (mkF m 55 #[.val (.int lw), .val (.int ro), .val (.int d), .val (.int lb), .val (.int va), .val (.ref b), .val (.int hi), .unset, .unset, .unset] [(.int (d.toInt8.toInt32).toInt8.toInt32)])) _
  refine own_by (fun t k => XS.sipush X2.here hx rfl (hb hby at_55) k) ?_
  show own_Go p.tables e below (T2.setTop (mkF m 58 #[.val (.int lw), .val (.int ro), .val (.int d), .val (.int lb), .val (.int va), .val (.ref b), .val (.int hi), .unset, .unset, .unset] [(.int (255 : Int32)), (.int (d.toInt8.toInt32).toInt8.toInt32)])) _
  refine own_by (fun t k => XS.iand X2.here hx rfl (hb hby at_58) rfl k) ?_
  show own_Go p.tables e below (T2.setTop (mkF m 59 #[.val (.int lw), .val (.int ro), .val (.int d), .val (.int lb), .val (.int va), .val (.ref b), .val (.int hi), .unset, .unset, .unset] [(.int ((d.toInt8.toInt32).toInt8.toInt32 &&& (255 : Int32)))])) _
  obtain ⟨lo, hlo⟩ : ∃ z, z = ((d.toInt8.toInt32).toInt8.toInt32 &&& (255 : Int32)) := ⟨_, rfl⟩
  rw [← hlo]
  show own_Go p.tables e below (T2.setTop (mkF m 59 #[.val (.int lw), .val (.int ro), .val (.int d), .val (.int lb), .val (.int va), .val (.ref b), .val (.int hi), .unset, .unset, .unset] [(.int lo)])) _
  refine own_by (fun t k => XS.istore X2.here hx rfl (hb hby at_59) rfl (l' := #[.val (.int lw), .val (.int ro), .val (.int d), .val (.int lb), .val (.int va), .val (.ref b), .val (.int hi), .val (.int lo), .unset, .unset]) rfl k) ?_
  show own_Go p.tables e below (T2.setTop (mkF m 61 #[.val (.int lw), .val (.int ro), .val (.int d), .val (.int lb), .val (.int va), .val (.ref b), .val (.int hi), .val (.int lo), .unset, .unset] [])) _
  refine own_by (fun t k => XS.iload X2.here hx rfl (hb hby at_61) rfl k) ?_
  show own_Go p.tables e below (T2.setTop (mkF m 63 #[.val (.int lw), .val (.int ro), .val (.int d), .val (.int lb), .val (.int va), .val (.ref b), .val (.int hi), .val (.int lo), .unset, .unset] [(.int hi)])) _
  refine own_by (fun t k => XS.iloadN X2.here hx rfl (hb hby at_63) rfl k) ?_
  show own_Go p.tables e below (T2.setTop (mkF m 64 #[.val (.int lw), .val (.int ro), .val (.int d), .val (.int lb), .val (.int va), .val (.ref b), .val (.int hi), .val (.int lo), .unset, .unset] [(.int d), (.int hi)])) _
  refine own_by (fun t k => XS.sipush X2.here hx rfl (hb hby at_64) k) ?_
  show own_Go p.tables e below (T2.setTop (mkF m 67 #[.val (.int lw), .val (.int ro), .val (.int d), .val (.int lb), .val (.int va), .val (.ref b), .val (.int hi), .val (.int lo), .unset, .unset] [(.int (256 : Int32)), (.int d), (.int hi)])) _
  refine own_by (fun t k => XS.idiv X2.here hx rfl (hb hby at_67) rfl (by decide) k) ?_
  show own_Go p.tables e below (T2.setTop (mkF m 68 #[.val (.int lw), .val (.int ro), .val (.int d), .val (.int lb), .val (.int va), .val (.ref b), .val (.int hi), .val (.int lo), .unset, .unset] [(.int (d / (256 : Int32))), (.int hi)])) _
  refine own_by (fun t k => XS.icmpNo X2.here hx rfl (hb hby at_68) rfl (teq (own_hi ho hhi)).2 k) ?_
  show own_Go p.tables e below (T2.setTop (mkF m 71 #[.val (.int lw), .val (.int ro), .val (.int d), .val (.int lb), .val (.int va), .val (.ref b), .val (.int hi), .val (.int lo), .unset, .unset] [])) _
  refine own_by (fun t k => XS.iload X2.here hx rfl (hb hby at_71) rfl k) ?_
  show own_Go p.tables e below (T2.setTop (mkF m 73 #[.val (.int lw), .val (.int ro), .val (.int d), .val (.int lb), .val (.int va), .val (.ref b), .val (.int hi), .val (.int lo), .unset, .unset] [(.int lo)])) _
  refine own_by (fun t k => XS.iloadN X2.here hx rfl (hb hby at_73) rfl k) ?_
  show own_Go p.tables e below (T2.setTop (mkF m 74 #[.val (.int lw), .val (.int ro), .val (.int d), .val (.int lb), .val (.int va), .val (.ref b), .val (.int hi), .val (.int lo), .unset, .unset] [(.int d), (.int lo)])) _
  refine own_by (fun t k => XS.sipush X2.here hx rfl (hb hby at_74) k) ?_
  show own_Go p.tables e below (T2.setTop (mkF m 77 #[.val (.int lw), .val (.int ro), .val (.int d), .val (.int lb), .val (.int va), .val (.ref b), .val (.int hi), .val (.int lo), .unset, .unset] [(.int (256 : Int32)), (.int d), (.int lo)])) _
  refine own_by (fun t k => Jvm.RoadKit.iremM X2 hx rfl (hb hby at_77) rfl (by decide) k) ?_
  show own_Go p.tables e below (T2.setTop (mkF m 78 #[.val (.int lw), .val (.int ro), .val (.int d), .val (.int lb), .val (.int va), .val (.ref b), .val (.int hi), .val (.int lo), .unset, .unset] [(.int (d % (256 : Int32))), (.int lo)])) _
  refine own_by (fun t k => XS.icmpNo X2.here hx rfl (hb hby at_78) rfl (teq (own_lo ho hlo)).2 k) ?_
  show own_Go p.tables e below (T2.setTop (mkF m 81 #[.val (.int lw), .val (.int ro), .val (.int d), .val (.int lb), .val (.int va), .val (.ref b), .val (.int hi), .val (.int lo), .unset, .unset] [])) _
  refine own_by (fun t k => XS.iconst X2.here hx rfl (hb hby at_81) k) ?_
  show own_Go p.tables e below (T2.setTop (mkF m 82 #[.val (.int lw), .val (.int ro), .val (.int d), .val (.int lb), .val (.int va), .val (.ref b), .val (.int hi), .val (.int lo), .unset, .unset] [(.int (1 : Int32))])) _
  refine own_by (fun t k => XS.goto X2.here hx rfl (pc0 := 82) (pc' := 86) rfl (hb hby at_82) (by decide) (by decide) k) ?_
  show own_Go p.tables e below (T2.setTop (mkF m 86 #[.val (.int lw), .val (.int ro), .val (.int d), .val (.int lb), .val (.int va), .val (.ref b), .val (.int hi), .val (.int lo), .unset, .unset] [(.int (1 : Int32))])) _
  refine own_by (fun t k => XS.istore X2.here hx rfl (hb hby at_86) rfl (l' := #[.val (.int lw), .val (.int ro), .val (.int d), .val (.int lb), .val (.int va), .val (.ref b), .val (.int hi), .val (.int lo), .val (.int (1 : Int32)), .unset]) rfl k) ?_
  show own_Go p.tables e below (T2.setTop (mkF m 88 #[.val (.int lw), .val (.int ro), .val (.int d), .val (.int lb), .val (.int va), .val (.ref b), .val (.int hi), .val (.int lo), .val (.int (1 : Int32)), .unset] [])) _
  refine own_by (fun t k => XS.iloadN X2.here hx rfl (hb hby at_88) rfl k) ?_
  show own_Go p.tables e below (T2.setTop (mkF m 89 #[.val (.int lw), .val (.int ro), .val (.int d), .val (.int lb), .val (.int va), .val (.ref b), .val (.int hi), .val (.int lo), .val (.int (1 : Int32)), .unset] [(.int lb)])) _
  refine own_by (fun t k => XS.i2l X2.here hx rfl (hb hby at_89) rfl k) ?_
  show own_Go p.tables e below (T2.setTop (mkF m 90 #[.val (.int lw), .val (.int ro), .val (.int d), .val (.int lb), .val (.int va), .val (.ref b), .val (.int hi), .val (.int lo), .val (.int (1 : Int32)), .unset] [(.long (lb.toInt64))])) _
  refine own_by (fun t k => XS.iload X2.here hx rfl (hb hby at_90) rfl k) ?_
  show own_Go p.tables e below (T2.setTop (mkF m 92 #[.val (.int lw), .val (.int ro), .val (.int d), .val (.int lb), .val (.int va), .val (.ref b), .val (.int hi), .val (.int lo), .val (.int (1 : Int32)), .unset] [(.int hi), (.long (lb.toInt64))])) _
  refine own_by (fun t k => XS.sipush X2.here hx rfl (hb hby at_92) k) ?_
  show own_Go p.tables e below (T2.setTop (mkF m 95 #[.val (.int lw), .val (.int ro), .val (.int d), .val (.int lb), .val (.int va), .val (.ref b), .val (.int hi), .val (.int lo), .val (.int (1 : Int32)), .unset] [(.int (256 : Int32)), (.int hi), (.long (lb.toInt64))])) _
  refine own_by (fun t k => XS.imul X2.here hx rfl (hb hby at_95) rfl k) ?_
  show own_Go p.tables e below (T2.setTop (mkF m 96 #[.val (.int lw), .val (.int ro), .val (.int d), .val (.int lb), .val (.int va), .val (.ref b), .val (.int hi), .val (.int lo), .val (.int (1 : Int32)), .unset] [(.int (hi * (256 : Int32))), (.long (lb.toInt64))])) _
  refine own_by (fun t k => XS.iload X2.here hx rfl (hb hby at_96) rfl k) ?_
  show own_Go p.tables e below (T2.setTop (mkF m 98 #[.val (.int lw), .val (.int ro), .val (.int d), .val (.int lb), .val (.int va), .val (.ref b), .val (.int hi), .val (.int lo), .val (.int (1 : Int32)), .unset] [(.int lo), (.int (hi * (256 : Int32))), (.long (lb.toInt64))])) _
  refine own_by (fun t k => XS.iadd X2.here hx rfl (hb hby at_98) rfl k) ?_
  show own_Go p.tables e below (T2.setTop (mkF m 99 #[.val (.int lw), .val (.int ro), .val (.int d), .val (.int lb), .val (.int va), .val (.ref b), .val (.int hi), .val (.int lo), .val (.int (1 : Int32)), .unset] [(.int ((hi * (256 : Int32)) + lo)), (.long (lb.toInt64))])) _
  refine own_by (fun t k => XS.i2l X2.here hx rfl (hb hby at_99) rfl k) ?_
  show own_Go p.tables e below (T2.setTop (mkF m 100 #[.val (.int lw), .val (.int ro), .val (.int d), .val (.int lb), .val (.int va), .val (.ref b), .val (.int hi), .val (.int lo), .val (.int (1 : Int32)), .unset] [(.long (((hi * (256 : Int32)) + lo).toInt64)), (.long (lb.toInt64))])) _
  refine own_by (fun t k => XS.ladd X2.here hx rfl (hb hby at_100) rfl k) ?_
  show own_Go p.tables e below (T2.setTop (mkF m 101 #[.val (.int lw), .val (.int ro), .val (.int d), .val (.int lb), .val (.int va), .val (.ref b), .val (.int hi), .val (.int lo), .val (.int (1 : Int32)), .unset] [(.long ((lb.toInt64) + (((hi * (256 : Int32)) + lo).toInt64)))])) _
  refine own_by (fun t k => XS.iload X2.here hx rfl (hb hby at_101) rfl k) ?_
  show own_Go p.tables e below (T2.setTop (mkF m 103 #[.val (.int lw), .val (.int ro), .val (.int d), .val (.int lb), .val (.int va), .val (.ref b), .val (.int hi), .val (.int lo), .val (.int (1 : Int32)), .unset] [(.int va), (.long ((lb.toInt64) + (((hi * (256 : Int32)) + lo).toInt64)))])) _
  refine own_by (fun t k => XS.i2l X2.here hx rfl (hb hby at_103) rfl k) ?_
  show own_Go p.tables e below (T2.setTop (mkF m 104 #[.val (.int lw), .val (.int ro), .val (.int d), .val (.int lb), .val (.int va), .val (.ref b), .val (.int hi), .val (.int lo), .val (.int (1 : Int32)), .unset] [(.long (va.toInt64)), (.long ((lb.toInt64) + (((hi * (256 : Int32)) + lo).toInt64)))])) _
  refine own_by (fun t k => XS.lcmp X2.here hx rfl (hb hby at_104) rfl k) ?_
  show own_Go p.tables e below (T2.setTop (mkF m 105 #[.val (.int lw), .val (.int ro), .val (.int d), .val (.int lb), .val (.int va), .val (.ref b), .val (.int hi), .val (.int lo), .val (.int (1 : Int32)), .unset] [(.int (lcmpW ((lb.toInt64) + (((hi * (256 : Int32)) + lo).toInt64)) (va.toInt64)))])) _
  refine own_by (fun t k => XS.ifNo X2.here hx rfl (hb hby at_105) rfl ((if0 _ _).trans (teq ((lw_eq ((lb.toInt64) + (((hi * (256 : Int32)) + lo).toInt64)) (va.toInt64)).mpr (own_rt ho hlb hva hhi hlo))).2) k) ?_
  show own_Go p.tables e below (T2.setTop (mkF m 108 #[.val (.int lw), .val (.int ro), .val (.int d), .val (.int lb), .val (.int va), .val (.ref b), .val (.int hi), .val (.int lo), .val (.int (1 : Int32)), .unset] [])) _
  refine own_by (fun t k => XS.iconst X2.here hx rfl (hb hby at_108) k) ?_
  show own_Go p.tables e below (T2.setTop (mkF m 109 #[.val (.int lw), .val (.int ro), .val (.int d), .val (.int lb), .val (.int va), .val (.ref b), .val (.int hi), .val (.int lo), .val (.int (1 : Int32)), .unset] [(.int (1 : Int32))])) _
  refine own_by (fun t k => XS.goto X2.here hx rfl (pc0 := 109) (pc' := 113) rfl (hb hby at_109) (by decide) (by decide) k) ?_
  show own_Go p.tables e below (T2.setTop (mkF m 113 #[.val (.int lw), .val (.int ro), .val (.int d), .val (.int lb), .val (.int va), .val (.ref b), .val (.int hi), .val (.int lo), .val (.int (1 : Int32)), .unset] [(.int (1 : Int32))])) _
  refine own_by (fun t k => XS.istore X2.here hx rfl (hb hby at_113) rfl (l' := #[.val (.int lw), .val (.int ro), .val (.int d), .val (.int lb), .val (.int va), .val (.ref b), .val (.int hi), .val (.int lo), .val (.int (1 : Int32)), .val (.int (1 : Int32))]) rfl k) ?_
  show own_Go p.tables e below (T2.setTop (mkF m 115 #[.val (.int lw), .val (.int ro), .val (.int d), .val (.int lb), .val (.int va), .val (.ref b), .val (.int hi), .val (.int lo), .val (.int (1 : Int32)), .val (.int (1 : Int32))] [])) _
  refine own_by (fun t k => XS.iload X2.here hx rfl (hb hby at_115) rfl k) ?_
  show own_Go p.tables e below (T2.setTop (mkF m 117 #[.val (.int lw), .val (.int ro), .val (.int d), .val (.int lb), .val (.int va), .val (.ref b), .val (.int hi), .val (.int lo), .val (.int (1 : Int32)), .val (.int (1 : Int32))] [(.int (1 : Int32))])) _
  refine own_by (fun t k => XS.ifNo X2.here hx rfl (hb hby at_117) rfl ((if0 _ _).trans (feq (by decide)).1) k) ?_
  show own_Go p.tables e below (T2.setTop (mkF m 120 #[.val (.int lw), .val (.int ro), .val (.int d), .val (.int lb), .val (.int va), .val (.ref b), .val (.int hi), .val (.int lo), .val (.int (1 : Int32)), .val (.int (1 : Int32))] [])) _
  refine own_by (fun t k => XS.iload X2.here hx rfl (hb hby at_120) rfl k) ?_
  show own_Go p.tables e below (T2.setTop (mkF m 122 #[.val (.int lw), .val (.int ro), .val (.int d), .val (.int lb), .val (.int va), .val (.ref b), .val (.int hi), .val (.int lo), .val (.int (1 : Int32)), .val (.int (1 : Int32))] [(.int (1 : Int32))])) _
  refine own_by (fun t k => XS.ifNo X2.here hx rfl (hb hby at_122) rfl ((if0 _ _).trans (feq (by decide)).1) k) ?_
  show own_Go p.tables e below (T2.setTop (mkF m 125 #[.val (.int lw), .val (.int ro), .val (.int d), .val (.int lb), .val (.int va), .val (.ref b), .val (.int hi), .val (.int lo), .val (.int (1 : Int32)), .val (.int (1 : Int32))] [])) _
  refine own_by (fun t k => XS.iconst X2.here hx rfl (hb hby at_125) k) ?_
  show own_Go p.tables e below (T2.setTop (mkF m 126 #[.val (.int lw), .val (.int ro), .val (.int d), .val (.int lb), .val (.int va), .val (.ref b), .val (.int hi), .val (.int lo), .val (.int (1 : Int32)), .val (.int (1 : Int32))] [(.int (1 : Int32))])) _
  refine own_by (fun t k => XS.goto X2.here hx rfl (pc0 := 126) (pc' := 130) rfl (hb hby at_126) (by decide) (by decide) k) ?_
  show own_Go p.tables e below (T2.setTop (mkF m 130 #[.val (.int lw), .val (.int ro), .val (.int d), .val (.int lb), .val (.int va), .val (.ref b), .val (.int hi), .val (.int lo), .val (.int (1 : Int32)), .val (.int (1 : Int32))] [(.int (1 : Int32))])) _
  exact own_retN X2 hx Bd.notSynchronized (t := .boolean) Bd.returns (by simp) (by decide) (hb hby at_130) ⟨rfl, N2⟩ (by decide) (by decide)
set_option maxRecDepth 65536 in
set_option maxHeartbeats 40000000 in
theorem comes_1 {Post : Tables → Env → Array Value → State → Outcome → State → Prop} (hpost : ∀ tb e args s v u, (limb_1_1.after args s (.returned v) u = true ∧ limb_1_2.after args s (.returned v) u = true ∧ True) → FrameEnd s (.returned v) u (Jvm.fieldLocs frame_1_writes args s ++ Jvm.arrayLocs frame_1_arrays args s ++ Jvm.staticLocs frame_1_statics s) 16 128 → Post tb e args s (.returned v) u) :
    ArmFor flags0 classFile x code maxLocals ret World_1 tables_1 room_1 Calls_1 rest_1 Pre_1 Post := by
  intro l hfl _ _ p e ha hc hk s m args below hf hA hF happ hP
  obtain ⟨hcalls, hrest, hpre⟩ := hP
  obtain ⟨-, -, -, hnamed, -, -, -, hat⟩ := (Spec.applies_iff hf).mp happ
  obtain ⟨hg, hn⟩ := and_e (Cond.before_iff.mp (show (Jvm.Cond.and given_1 narrow_1).before args s = true from hpre))
  obtain ⟨hcount, t0⟩ := and_e hg
  obtain ⟨g0, t1⟩ := and_e t0
  obtain ⟨w0, w1, rfl⟩ : ∃ w0 w1 : Value, args = #[w0, w1] := by
    have hs : args.size = 2 := by simpa [Cond.value, given_1] using hcount
    obtain ⟨L⟩ := args
    match L, hs with
    | [w0, w1], _ => exact ⟨w0, w1, rfl⟩
  have hw := fun d (hd : d ∈ tables_1) => atoms_spec (ws := Jvm.Cond.code x code maxLocals ret :: tables_1) hat d (List.mem_cons_of_mem _ hd)
  obtain ⟨i0, ei0⟩ := is_v g0
  obtain rfl : w0 = (.int i0) := Option.some.inj ei0
  obtain ⟨i1, ei1⟩ := is_v t1
  obtain rfl : w1 = (.int i1) := Option.some.inj ei1
  obtain ⟨n, o, h1, h2, h3, _, L, rfl, ⟨rfl, N⟩, hq⟩ := rm_law l s _ hw tables_1 i0 i1 s.heap s.heap.size (Nat.le_refl _) p e ha hc hk s m _ below hf ((Spec.applies_iff_loose hf).mp happ).1 ⟨rfl, State.Warmed39.refl s, rfl⟩ trivial
  refine ⟨n, _, h1, h2, h3, hpost _ _ _ _ _ _ ⟨Cond.after_iff.mpr rfl, Cond.after_iff.mpr (eq_i res_at (Term.int_eval (1)) rfl), trivial⟩ ⟨hq.1, hq.2.1, (hq.2.2.sift fun y hy => Or.inr (N y hy)).mono (by decide) (by decide)⟩⟩
theorem main_1_1 : Claimed_1_1 := comes_1 fun _ _ _ _ _ _ h hF => ⟨h.1, hF⟩
theorem main_1_2 : Claimed_1_2 := comes_1 fun _ _ _ _ _ _ h hF => ⟨h.2.1, hF⟩
end Jvm.Pilot.@@N@@
namespace Jvm.Pilot.@@N@@
open Jvm Jvm.ClassFile Sem Op Lib Jvm.Free Jvm.Stand Jvm.Pilot.@@N@@.Jvm.D
/-! MADE BY PROGRAM (witnessworld.py) out of the Statement's table words and the real class files: 10 classes; the members and pool entries that the words name. The judged class is class 1, her method 1. -/
namespace start1
open Jvm.ClassFile
def u (s : String) : CpInfo := .utf8 (stringToUtf16 s)
/-- a pool by its gaps: so many unusable entries, then the entry; so many at the end -/
def gap : Nat → List CpInfo → List CpInfo
  | 0, r => r
  | n + 1, r => .unusable :: gap n r
def poolList (es : List (Nat × CpInfo)) (last : Nat) : List CpInfo := es.foldr (fun e r => gap e.1 (e.2 :: r)) (gap last [])
def pool (es : List (Nat × CpInfo)) (last : Nat) : Array CpInfo := ⟨poolList es last⟩
def fileOf (pool : Array CpInfo) (this : Nat) (attrs : Array Attribute := #[]) (ms : Array MethodInfo := #[]) (fl : Nat := 33) (sup : Nat := 0) (ifs : Array Nat := #[]) (fds : Array FieldInfo := #[]) : ClassFile where
  minorVersion := 0
  majorVersion := 65
  constantPool := pool
  accessFlags := fl
  thisClass := this
  superClass := sup
  interfaces := ifs
  fields := fds
  methods := ms
  attributes := attrs
def plain (name : String) (sup : Option ClassId) : Class where
  name := name
  kind := .ordinary
  loader := none
  accessFlags := 33
  super := sup
  interfaces := #[]
  cf := none
  fields := #[]
  methods := #[]
  instanceTypes := #[]
  staticTypes := #[]
  resolved := #[]
  callSites := []
  init := .initialized
  statics := none
  mirror := none

def pool0 : Array CpInfo := pool [(5, u "<init>"), (0, u "()V"), (1, .class_ 10), (1, u "java/lang/Object")] 113

def k0m0 : Method := { name := "<init>", desc := "()V", sig := { parameters := [], returnType := none }, accessFlags := 1, code := none }
/-- java/lang/Object -/
def k0 : Class := { plain "java/lang/Object" none with
  accessFlags := 33
  interfaces := #[]
  cf := some (fileOf pool0 8 #[] #[{ accessFlags := 1, nameIndex := 5, descriptorIndex := 6, attributes := #[] }] 33 0 #[] #[])
  fields := #[]
  methods := #[k0m0]
  instanceTypes := #[]
  staticTypes := #[]
  resolved := Array.replicate 124 none
  statics := none }

def pool1 : Array CpInfo := pool [(2, .class_ 4), (1, u "java/lang/Object"), (0, u "<init>"), (0, u "()V"), (0, .integer 65535), (0, .integer 2147483647), (0, .methodref 10 11), (0, .class_ 12), (0, .nameAndType 13 14), (0, u "java/lang/Math"), (0, u "min"), (0, u "(II)I"), (0, .methodref 16 17), (0, .class_ 18), (0, .nameAndType 19 20), (0, u "com/example/parley/parley/Per"), (0, u "twoByteNumber"), (0, u "(II)[B"), (0, .class_ 22), (0, u "com/example/parley/parley/PerTwoByteNumberPinLaw"), (2, u "law"), (0, u "(II)Z")] 5

def k1m0 : Method := { name := "<init>", desc := "()V", sig := { parameters := [], returnType := none }, accessFlags := 2, code := none }
def k1c1 : Code := { maxStack := 4, maxLocals := 10, code := code, exceptionTable := #[], attributes := #[] }
def k1m1 : Method := { name := "law", desc := "(II)Z", sig := { parameters := [.int, .int], returnType := some .boolean }, accessFlags := 9, code := some k1c1 }
/-- com/example/parley/parley/PerTwoByteNumberPinLaw -/
def k1 : Class := { plain "com/example/parley/parley/PerTwoByteNumberPinLaw" (some 0) with
  accessFlags := 49
  interfaces := #[]
  cf := some (fileOf pool1 21 #[] #[{ accessFlags := 2, nameIndex := 5, descriptorIndex := 6, attributes := #[] }, { accessFlags := 9, nameIndex := 25, descriptorIndex := 26, attributes := #[] }] 49 2 #[] #[])
  fields := #[]
  methods := #[k1m0, k1m1]
  instanceTypes := #[]
  staticTypes := #[]
  resolved := Array.replicate 32 none
  statics := none }

def pool2 : Array CpInfo := pool [(1, .class_ 2), (0, u "java/lang/Math"), (1, .class_ 6), (1, u "java/lang/Object"), (0, u "<init>"), (0, u "()V"), (89, .class_ 100), (1, u "java/lang/Math$RandomNumberGeneratorHolder"), (71, u "negativeZeroFloatBits"), (0, u "J"), (2, u "negativeZeroDoubleBits"), (24, u "min"), (43, u "$assertionsDisabled"), (0, u "Z"), (88, u "(II)I"), (2, u "twoToTheDoubleScaleDown"), (0, u "D"), (4, u "twoToTheDoubleScaleUp"), (9, u "E"), (3, u "PI"), (2, u "TAU"), (2, u "DEGREES_TO_RADIANS"), (0, u "RADIANS_TO_DEGREES")] 94

def k2m0 : Method := { name := "<init>", desc := "()V", sig := { parameters := [], returnType := none }, accessFlags := 2, code := none }
def k2c1 : Code := { maxStack := 2, maxLocals := 2, code := jdk_29_method_69_code, exceptionTable := #[], attributes := #[] }
def k2m1 : Method := { name := "min", desc := "(II)I", sig := { parameters := [.int, .int], returnType := some .int }, accessFlags := 9, code := some k2c1 }
/-- java/lang/Math -/
def k2 : Class := { plain "java/lang/Math" (some 0) with
  accessFlags := 49
  interfaces := #[]
  cf := some (fileOf pool2 1 #[.nestMembers #[98]] #[{ accessFlags := 2, nameIndex := 7, descriptorIndex := 8, attributes := #[] }, { accessFlags := 9, nameIndex := 201, descriptorIndex := 335, attributes := #[] }] 49 4 #[] #[{ accessFlags := 25, nameIndex := 354, descriptorIndex := 339, attributes := #[] }, { accessFlags := 25, nameIndex := 358, descriptorIndex := 339, attributes := #[] }, { accessFlags := 25, nameIndex := 361, descriptorIndex := 339, attributes := #[] }, { accessFlags := 26, nameIndex := 364, descriptorIndex := 339, attributes := #[] }, { accessFlags := 26, nameIndex := 365, descriptorIndex := 339, attributes := #[] }, { accessFlags := 26, nameIndex := 172, descriptorIndex := 173, attributes := #[] }, { accessFlags := 26, nameIndex := 176, descriptorIndex := 173, attributes := #[] }, { accessFlags := 8, nameIndex := 344, descriptorIndex := 339, attributes := #[] }, { accessFlags := 8, nameIndex := 338, descriptorIndex := 339, attributes := #[] }, { accessFlags := 4120, nameIndex := 245, descriptorIndex := 246, attributes := #[] }])
  fields := #[{ name := "E", type := .double, accessFlags := 25, slot := 0, constantValue := 0 }, { name := "PI", type := .double, accessFlags := 25, slot := 1, constantValue := 0 }, { name := "TAU", type := .double, accessFlags := 25, slot := 2, constantValue := 0 }, { name := "DEGREES_TO_RADIANS", type := .double, accessFlags := 26, slot := 3, constantValue := 0 }, { name := "RADIANS_TO_DEGREES", type := .double, accessFlags := 26, slot := 4, constantValue := 0 }, { name := "negativeZeroFloatBits", type := .long, accessFlags := 26, slot := 5, constantValue := 0 }, { name := "negativeZeroDoubleBits", type := .long, accessFlags := 26, slot := 6, constantValue := 0 }, { name := "twoToTheDoubleScaleUp", type := .double, accessFlags := 8, slot := 7, constantValue := 0 }, { name := "twoToTheDoubleScaleDown", type := .double, accessFlags := 8, slot := 8, constantValue := 0 }, { name := "$assertionsDisabled", type := .boolean, accessFlags := 4120, slot := 9, constantValue := 0 }]
  methods := #[k2m0, k2m1]
  instanceTypes := #[]
  staticTypes := #[.double, .double, .double, .double, .double, .long, .long, .double, .double, .boolean]
  resolved := Array.replicate 460 none
  statics := none }

def pool3 : Array CpInfo := pool [(2, .class_ 4), (1, u "java/lang/Object"), (0, u "<init>"), (0, u "()V"), (42, .class_ 51), (1, u "com/example/parley/parley/Per"), (21, .integer 65535), (14, u "twoByteNumber"), (0, u "(II)[B")] 23

def k3m0 : Method := { name := "<init>", desc := "()V", sig := { parameters := [], returnType := none }, accessFlags := 2, code := none }
def k3c1 : Code := { maxStack := 5, maxLocals := 3, code := prog_46_method_7_code, exceptionTable := #[], attributes := #[] }
def k3m1 : Method := { name := "twoByteNumber", desc := "(II)[B", sig := { parameters := [.int, .int], returnType := some (.array .byte) }, accessFlags := 8, code := some k3c1 }
/-- com/example/parley/parley/Per -/
def k3 : Class := { plain "com/example/parley/parley/Per" (some 0) with
  accessFlags := 48
  interfaces := #[]
  cf := some (fileOf pool3 49 #[] #[{ accessFlags := 2, nameIndex := 5, descriptorIndex := 6, attributes := #[] }, { accessFlags := 8, nameIndex := 88, descriptorIndex := 89, attributes := #[] }] 48 2 #[] #[])
  fields := #[]
  methods := #[k3m0, k3m1]
  instanceTypes := #[]
  staticTypes := #[]
  resolved := Array.replicate 113 none
  statics := none }

def pool4 : Array CpInfo := pool [(1, u "java/lang/Cloneable"), (0, .class_ 1), (0, u "java/lang/Object"), (0, .class_ 3)] 3

/-- java/lang/Cloneable -/
def k4 : Class := { plain "java/lang/Cloneable" (some 0) with
  accessFlags := 1537
  interfaces := #[]
  cf := some (fileOf pool4 2 #[] #[] 1537 4 #[] #[])
  fields := #[]
  methods := #[]
  instanceTypes := #[]
  staticTypes := #[]
  resolved := Array.replicate 8 none
  statics := none }

def pool5 : Array CpInfo := pool [(1, u "java/io/Serializable"), (0, .class_ 1), (0, u "java/lang/Object"), (0, .class_ 3)] 3

/-- java/io/Serializable -/
def k5 : Class := { plain "java/io/Serializable" (some 0) with
  accessFlags := 1537
  interfaces := #[]
  cf := some (fileOf pool5 2 #[] #[] 1537 4 #[] #[])
  fields := #[]
  methods := #[]
  instanceTypes := #[]
  staticTypes := #[]
  resolved := Array.replicate 8 none
  statics := none }

/-- the primitive byte -/
def k6 : Class := { plain "byte" none with kind := .primitive 'B', accessFlags := 0x411 }
/-- [B -/
def k7 : Class := { plain "[B" (some 0) with kind := .array 6 .byte, interfaces := #[4, 5], accessFlags := 1041 }

/-- the primitive int -/
def k8 : Class := { plain "int" none with kind := .primitive 'I', accessFlags := 0x411 }
/-- [I -/
def k9 : Class := { plain "[I" (some 0) with kind := .array 8 .int, interfaces := #[4, 5], accessFlags := 1041 }

def heap : Heap := #[]
def classes : Array Class := #[k0, k1, k2, k3, k4, k5, k6, k7, k8, k9]
def interned : List (Array UInt16 × Addr) := []
def slotsUsed : Nat := 0
def theMethod : MethodId := ⟨1, 1⟩
def args0 : Array Value := #[.int 5, .int 5]
def aboutOver (below : List Frame) : State where
  vm := { classes := classes, interned := interned.toArray }
  heap := heap
  slotsUsed := slotsUsed
  threads := #[{ frames := .invoking theMethod args0 :: below }]
def below0 : List Frame := [.native { method := ⟨0, 0⟩, args := #[] }]
def about1 : State := aboutOver below0
def p0 : Program := .bare "" "" ""
def e0 : Env := launch0.env 0 0 0
theorem w_frames : about1.frames = Frame.invoking theMethod args0 :: below0 := rfl
set_option maxRecDepth 65536 in
theorem w_args : argsFit about1.vm theMethod args0 = true := by decide +kernel
set_option maxRecDepth 65536 in
theorem w_heap : heapFits about1 = true := by decide +kernel
set_option maxRecDepth 65536 in
theorem w_runnable : about1.curStatus? = some .runnable := by decide +kernel
set_option maxRecDepth 65536 in
theorem w_alone : about1.alone = true := by decide +kernel
set_option maxRecDepth 65536 in
theorem w_named : about1.methodNamed? x = some theMethod := by decide +kernel
set_option maxRecDepth 65536 in
theorem w_hears : about1.hears theMethod below0 = true := by decide +kernel
set_option maxRecDepth 65536 in
theorem w_ripe : about1.ripe theMethod args0 below0 = true := by decide +kernel
theorem w_running : about1.status = .running := rfl
set_option maxRecDepth 65536 in
theorem w_room : about1.hasRoom e0.platform room_1 = true :=
  launch0.hasRoom_least _ room_1 (by decide +kernel) (by decide +kernel) (by decide +kernel) (by decide +kernel) (by decide +kernel) (by decide +kernel)
theorem allAtoms_all (ts : List Jvm.Cond) (a : Array Jvm.Value) (st : Jvm.State) : (allAtoms ts).before a st = ts.all (fun c => c.before a st) := by
  induction ts with
  | nil => rfl
  | cons c t ih =>
    show (Jvm.Cond.and c (allAtoms t)).before a st = _
    rw [Jvm.Cond.before_and, ih, List.all_cons]
def words1 : List Jvm.Cond := Jvm.Cond.code x code maxLocals ret :: tables_1
/-- a 'code' word, met by the world's own term for the bytes: nothing is compared byte by byte -/
theorem code_word {y : MethodName} {bytes : ByteArray} {mx : Nat} {rt : Option FieldType} {a : Array Value} {s : State} {m : MethodId} {meth : Method} {c : Code} (h1 : s.methodNamed? y = some m) (h2 : s.vm.method? m = some meth) (h3 : meth.code = some c) (h4 : c.code = bytes)
    (h5 : (c.maxLocals == mx && c.exceptionTable.isEmpty && decide (c.maxStack ≤ mostOperands) && decide (meth.sig.returnType = rt) && !meth.locks && decide (parseMethodDescriptor y.desc = some meth.sig)) = true) : (Jvm.Cond.code y bytes mx rt).before a s = true := by
  simp only [Bool.and_eq_true, beq_iff_eq, Bool.not_eq_true', decide_eq_true_eq] at h5
  obtain ⟨⟨⟨⟨⟨g1, g2⟩, g3⟩, g4⟩, g5⟩, g6⟩ := h5
  simp [Cond.before, Cond.holds, Cond.value, h1, h2, h3, h4, g1, g2, g3, g4, g5, g6]
def isCode : Jvm.Cond → Bool
  | .code _ _ _ _ => true
  | _ => false
theorem all_split {L : List Jvm.Cond} {P : Jvm.Cond → Bool} (h1 : L.all (fun c => isCode c || P c) = true) (h2 : ∀ c ∈ L.filter isCode, P c = true) : L.all P = true := by
  refine List.all_eq_true.mpr fun c hc => ?_
  have h := List.all_eq_true.mp h1 c hc
  rcases Bool.eq_false_or_eq_true (isCode c) with hi | hi
  · exact h2 c (List.mem_filter.mpr ⟨hc, hi⟩)
  · simpa [hi] using h
set_option maxRecDepth 65536 in
theorem w_c0 : (Jvm.Cond.code x code maxLocals ret).before args0 about1 = true := code_word (m := ⟨1, 1⟩) (meth := k1m1) (c := k1c1) (by decide +kernel) rfl rfl rfl (by decide +kernel)
set_option maxRecDepth 65536 in
theorem w_c1 : (Jvm.Cond.code ({ cls := "java/lang/Math", name := "min", desc := "(II)I" } : Jvm.MethodName) jdk_29_method_69_code (2 : Nat) (Option.some Jvm.ClassFile.FieldType.int)).before args0 about1 = true := code_word (m := ⟨2, 1⟩) (meth := k2m1) (c := k2c1) (by decide +kernel) rfl rfl rfl (by decide +kernel)
set_option maxRecDepth 65536 in
theorem w_c2 : (Jvm.Cond.code ({ cls := "com/example/parley/parley/Per", name := "twoByteNumber", desc := "(II)[B" } : Jvm.MethodName) prog_46_method_7_code (3 : Nat) (Option.some (Jvm.ClassFile.FieldType.array Jvm.ClassFile.FieldType.byte))).before args0 about1 = true := code_word (m := ⟨3, 1⟩) (meth := k3m1) (c := k3c1) (by decide +kernel) rfl rfl rfl (by decide +kernel)
def codes1 : List Jvm.Cond := [Jvm.Cond.code x code maxLocals ret, Jvm.Cond.code ({ cls := "java/lang/Math", name := "min", desc := "(II)I" } : Jvm.MethodName) jdk_29_method_69_code (2 : Nat) (Option.some Jvm.ClassFile.FieldType.int), Jvm.Cond.code ({ cls := "com/example/parley/parley/Per", name := "twoByteNumber", desc := "(II)[B" } : Jvm.MethodName) prog_46_method_7_code (3 : Nat) (Option.some (Jvm.ClassFile.FieldType.array Jvm.ClassFile.FieldType.byte))]
set_option maxRecDepth 65536 in
theorem codes_eq : words1.filter isCode = codes1 := rfl
theorem w_codes : ∀ c ∈ words1.filter isCode, c.before args0 about1 = true := by
  rw [codes_eq]
  intro c hc
  simp only [codes1, List.mem_cons, List.not_mem_nil, or_false] at hc
  rcases hc with rfl | rfl | rfl
  · exact w_c0
  · exact w_c1
  · exact w_c2
set_option maxRecDepth 65536 in
theorem w_t1 : words1.all (fun c => isCode c || c.before args0 about1) = true := by decide +kernel
theorem w_tables : (allAtoms (Jvm.Cond.code x code maxLocals ret :: tables_1)).before args0 about1 = true := by
  rw [allAtoms_all]
  show words1.all (fun c => c.before args0 about1) = true
  refine all_split ?_ w_codes
  rw [w_t1]
set_option maxRecDepth 65536 in
theorem w_case : (Jvm.Cond.and given_1 narrow_1).before args0 about1 = true := by decide +kernel
theorem w_applies : (headSpec (Jvm.Cond.code x code maxLocals ret :: tables_1) room_1).applies x e0.platform about1 = true :=
  (Spec.applies_iff w_frames).mpr ⟨w_running, w_runnable, w_alone, w_named, w_hears, w_ripe, w_room, w_tables⟩
theorem atStart : AtStart classFile x code maxLocals ret World_1 tables_1 room_1 Calls_1 rest_1 Pre_1 launch0 p0 e0 about1 theMethod args0 below0 :=
  ⟨lists_1, trivial, launch0.admits_env _ _ _, launch0.least_env, fairChoices_fair.cas, fairChoices_fair.clock, w_frames, w_args, w_heap, w_applies, trivial, trivial, w_case⟩
end start1
theorem witness_1 : WitnessClaimed_1 := ⟨start1.p0, start1.e0, start1.about1, start1.theMethod, start1.args0, start1.below0, start1.atStart⟩
end Jvm.Pilot.@@N@@
