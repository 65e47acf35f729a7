import JvmDerived
import JvmDerived.Pilot.@@N@@Statement
import JvmDerived.Pilot.@@N@@Code
set_option linter.unusedVariables false
set_option linter.unusedSimpArgs false

namespace Jvm.Pilot.@@N@@
open Jvm Jvm.ClassFile Sem Op Lib Jvm.Free Jvm.Stand Jvm.LawKit Jvm.RoadKit Bundle Jvm.Pilot.@@N@@.Jvm.D
/-! own kit: the walk's goal carried forward, arrays as functions -/
def own_Fin (below : List Frame) (s : State) (Q : Option Value → Heap → List Loc → Prop) (k n : Nat) (t : State) : Prop :=
  ∃ o, t.status = .running ∧ Ended t below o ∧ ∃ v L, o = .returned v ∧ Q v t.heap L ∧ FrameEnd s o t L k n
def own_Go (tb : Tables) (e : Env) (below : List Frame) (S : State) (P : State → Prop) : Prop := ∃ t, Steps tb e below S t ∧ P t
theorem own_by {tb : Tables} {e : Env} {below : List Frame} {S S' : State} {P : State → Prop} (k : ∀ t, Steps tb e below S' t → Steps tb e below S t) (h : own_Go tb e below S' P) : own_Go tb e below S P := by
  obtain ⟨t, a, b⟩ := h
  exact ⟨t, k t a, b⟩
theorem own_tr {tb : Tables} {e : Env} {below : List Frame} {S S' : State} {P : State → Prop} (k : Steps tb e below S S') (h : own_Go tb e below S' P) : own_Go tb e below S P := by
  obtain ⟨t, a, b⟩ := h
  exact ⟨t, k.trans a, b⟩
theorem own_out {tb : Tables} {e : Env} {below : List Frame} {S s : State} {Q : Option Value → Heap → List Loc → Prop} {k n : Nat} (h : own_Go tb e below S (own_Fin below s Q k n)) :
    ∃ s₂ o, Steps tb e below S s₂ ∧ s₂.status = .running ∧ Ended s₂ below o ∧ ∃ v L, o = .returned v ∧ Q v s₂.heap L ∧ FrameEnd s o s₂ L k n := by
  obtain ⟨t, a, o, b, c, d⟩ := h
  exact ⟨t, o, a, b, c, d⟩
theorem own_cast {tb : Tables} {e : Env} {below : List Frame} {T : State} {g g' : JFrame} {P : State → Prop} (q : g = g') (h : own_Go tb e below (T.setTop g') P) : own_Go tb e below (T.setTop g) P := q ▸ h
section OwnEnd
variable {p : Program} {l : Launch} {e : Env} {R : Room} {s : State} {m : MethodId} {args : Array Value} {below : List Frame} {meth : Method} {c : Code} {T : State} {locs : List Loc} {cells slots : Nat} {Q : Option Value → Heap → List Loc → Prop} {k n : Nat}
theorem own_ret (X : Stand p l e R s m args below meth c T locs cells slots) (hx : p.tables.exec = Jvm.exec) (hlocks : meth.locks = false) {pc : Nat} {Ls : Array Slot} {w : Value} {t : FieldType} {i : Instr} {rest : List Value} (hret : meth.sig.returnType = some t) (hn : narrow t w = w)
    (hi : (i = .ireturn ∧ (t = .int ∨ t = .boolean ∨ t = .byte ∨ t = .char ∨ t = .short) ∧ ∃ z, w = .int z) ∨ (i = .lreturn ∧ t = .long ∧ ∃ z, w = .long z) ∨ (i = .dreturn ∧ t = .double ∧ ∃ z, w = .double z) ∨ (i = .freturn ∧ t = .float ∧ ∃ z, w = .float z) ∨ (i = .areturn ∧ t.isReference = true ∧ w.isRef = true))
    (hd : decode c.code pc = .ok (i, 1)) (hQ : Q (some w) T.heap locs) (h1 : cells ≤ k) (h2 : slots ≤ n) :
    own_Go p.tables e below (T.setTop (mkF m pc Ls (w :: rest))) (own_Fin below s Q k n) := by
  obtain ⟨fs, hr, hrun, hended, hW, hsame⟩ := X.leave (v := some w) (fun h => by rw [hret] at h; cases h) hlocks
  exact ⟨_, retOut X hx hret hn hi hd hr, _, hrun, hended, _, _, rfl, hQ, ⟨_, rfl⟩, hW, hsame.mono h1 h2⟩
theorem own_retI (X : Stand p l e R s m args below meth c T locs cells slots) (hx : p.tables.exec = Jvm.exec) (hlocks : meth.locks = false) {pc : Nat} {Ls : Array Slot} {z : Int32} {rest : List Value} (hret : meth.sig.returnType = some .int)
    (hd : decode c.code pc = .ok (.ireturn, 1)) (hQ : Q (some (.int z)) T.heap locs) (h1 : cells ≤ k) (h2 : slots ≤ n) :
    own_Go p.tables e below (T.setTop (mkF m pc Ls (.int z :: rest))) (own_Fin below s Q k n) :=
  own_ret X hx hlocks hret rfl (Or.inl ⟨rfl, Or.inl rfl, _, rfl⟩) hd hQ h1 h2
theorem own_retJ (X : Stand p l e R s m args below meth c T locs cells slots) (hx : p.tables.exec = Jvm.exec) (hlocks : meth.locks = false) {pc : Nat} {Ls : Array Slot} {z : Int64} {rest : List Value} (hret : meth.sig.returnType = some .long)
    (hd : decode c.code pc = .ok (.lreturn, 1)) (hQ : Q (some (.long z)) T.heap locs) (h1 : cells ≤ k) (h2 : slots ≤ n) :
    own_Go p.tables e below (T.setTop (mkF m pc Ls (.long z :: rest))) (own_Fin below s Q k n) :=
  own_ret X hx hlocks hret rfl (Or.inr (Or.inl ⟨rfl, rfl, _, rfl⟩)) hd hQ h1 h2
theorem own_retA (X : Stand p l e R s m args below meth c T locs cells slots) (hx : p.tables.exec = Jvm.exec) (hlocks : meth.locks = false) {pc : Nat} {Ls : Array Slot} {w : Value} {t : FieldType} {rest : List Value} (hret : meth.sig.returnType = some t) (ht : t.isReference = true) (hw : w.isRef = true) (hn : narrow t w = w)
    (hd : decode c.code pc = .ok (.areturn, 1)) (hQ : Q (some w) T.heap locs) (h1 : cells ≤ k) (h2 : slots ≤ n) :
    own_Go p.tables e below (T.setTop (mkF m pc Ls (w :: rest))) (own_Fin below s Q k n) :=
  own_ret X hx hlocks hret hn (Or.inr (Or.inr (Or.inr (Or.inr ⟨rfl, ht, hw⟩)))) hd hQ h1 h2
theorem own_retN (X : Stand p l e R s m args below meth c T locs cells slots) (hx : p.tables.exec = Jvm.exec) (hlocks : meth.locks = false) {pc : Nat} {Ls : Array Slot} {z : Int32} {t : FieldType} {rest : List Value} (hret : meth.sig.returnType = some t) (ht : t = .boolean ∨ t = .byte ∨ t = .char ∨ t = .short) (hn : nar t z = z)
    (hd : decode c.code pc = .ok (.ireturn, 1)) (hQ : Q (some (.int z)) T.heap locs) (h1 : cells ≤ k) (h2 : slots ≤ n) :
    own_Go p.tables e below (T.setTop (mkF m pc Ls (.int z :: rest))) (own_Fin below s Q k n) := by
  obtain ⟨fs, hr, hrun, hended, hW, hsame⟩ := X.leave (v := some (.int (nar t z))) (fun h => by rw [hret] at h; cases h) hlocks
  exact ⟨_, retN X hx hret ht hd hr, _, hrun, hended, _, _, rfl, (by rw [hn]; exact hQ), ⟨_, rfl⟩, hW, hsame.mono h1 h2⟩
theorem own_retV (X : Stand p l e R s m args below meth c T locs cells slots) (hx : p.tables.exec = Jvm.exec) (hlocks : meth.locks = false) {pc : Nat} {Ls : Array Slot} (hret : meth.sig.returnType = none)
    (hd : decode c.code pc = .ok (.return_, 1)) (hQ : Q none T.heap locs) (h1 : cells ≤ k) (h2 : slots ≤ n) :
    own_Go p.tables e below (T.setTop (mkF m pc Ls [])) (own_Fin below s Q k n) := by
  obtain ⟨fs, hr, hrun, hended, hW, hsame⟩ := X.leave (v := none) (fun _ => rfl) hlocks
  exact ⟨_, X.returnOut hx hret hd hr, _, hrun, hended, _, _, rfl, hQ, ⟨_, rfl⟩, hW, hsame.mono h1 h2⟩
end OwnEnd
/-- one place of a function changed -/
def own_upd {α : Type} (f : Nat → α) (k : Nat) (x : α) : Nat → α := fun i => if i = k then x else f i
theorem own_upd_at {α : Type} (f : Nat → α) (k : Nat) (x : α) : own_upd f k x k = x := by simp [own_upd]
theorem own_upd_ne {α : Type} (f : Nat → α) {k i : Nat} (x : α) (h : i ≠ k) : own_upd f k x i = f i := by simp [own_upd, h]
/-- an array: its length, and what each place holds -/
def own_AF (Z : State) (h : Heap) (a : Addr) (ty : FieldType) (n : Nat) (f : Nat → Value) : Prop := ∃ c : Cell, Arr Z h a c ty ∧ c.slots.size = n ∧ ∀ i, i < n → c.slots[i]? = some (f i)
def own_AI (Z : State) (h : Heap) (a : Addr) (ty : FieldType) (n : Nat) (b : Nat → Int32) : Prop := own_AF Z h a ty n (fun i => .int (b i))
def own_AJ (Z : State) (h : Heap) (a : Addr) (n : Nat) (b : Nat → Int64) : Prop := own_AF Z h a .long n (fun i => .long (b i))
section OwnArr
variable {Z : State} {h h' : Heap} {a b : Addr} {ty : FieldType} {n : Nat} {f : Nat → Value} {ws : List Addr} {sl : Nat} {v : Value} {bi : Nat → Int32} {bj : Nat → Int64}
theorem own_AF.lt (F : own_AF Z h a ty n f) : a < h.size := by obtain ⟨c, A, -⟩ := F; exact A.lt
theorem own_AF.ext (F : own_AF Z h a ty n f) (E : Ext h h') : own_AF Z h' a ty n f := by obtain ⟨c, A, r⟩ := F; exact ⟨c, A.ext E, r⟩
theorem own_AF.other (F : own_AF Z h b ty n f) (W : Wr h h' a sl v) (q : b ≠ a) : own_AF Z h' b ty n f := by obtain ⟨c, A, r⟩ := F; exact ⟨c, A.other W q, r⟩
theorem own_AF.keep (F : own_AF Z h a ty n f) (K : Keep h h' ws) (q : a ∉ ws) : own_AF Z h' a ty n f := by obtain ⟨c, A, r⟩ := F; exact ⟨c, ⟨K.2.1 a c A.1 q, A.2⟩, r⟩
theorem own_AF.congr (F : own_AF Z h a ty n f) {f' : Nat → Value} (q : ∀ i, i < n → f i = f' i) : own_AF Z h a ty n f' := by obtain ⟨c, A, S, r⟩ := F; exact ⟨c, A, S, fun i hi => by rw [← q i hi]; exact r i hi⟩
theorem own_AF.new {k : ClassId} {z : Int32} (A : Arr Z h a (newA k ty z) ty) (hz : z.toNatClampNeg = n) : own_AF Z h a ty n (fun _ => defaultValue ty) := by
  subst hz
  exact ⟨_, A, sz_new _ _ _, fun i hi => by simp [newA, hi]⟩
theorem own_AF.st (F : own_AF Z h a ty n f) (W : Wr h h' a sl v) : own_AF Z h' a ty n (own_upd f sl v) := by
  obtain ⟨c, A, S, r⟩ := F
  refine ⟨_, A.same W, by rw [sz_set]; exact S, fun i hi => ?_⟩
  by_cases u : i = sl
  · subst u; rw [own_upd_at]; simp [Cell.setSlot, S, hi]
  · rw [own_upd_ne _ _ u]
    simp only [Cell.setSlot]
    rw [Array.getElem?_setIfInBounds_ne (fun q => u q.symm)]; exact r i hi
theorem own_AI.st {x : Int32} (F : own_AI Z h a ty n bi) (W : Wr h h' a sl (.int x)) : own_AI Z h' a ty n (own_upd bi sl x) :=
  (own_AF.st F W).congr fun i _ => by by_cases u : i = sl <;> simp [own_upd, u]
theorem own_AJ.st {x : Int64} (F : own_AJ Z h a n bj) (W : Wr h h' a sl (.long x)) : own_AJ Z h' a n (own_upd bj sl x) :=
  (own_AF.st F W).congr fun i _ => by by_cases u : i = sl <;> simp [own_upd, u]
theorem own_AI.lt (F : own_AI Z h a ty n bi) : a < h.size := own_AF.lt F
theorem own_AI.ext (F : own_AI Z h a ty n bi) (E : Ext h h') : own_AI Z h' a ty n bi := own_AF.ext F E
theorem own_AI.other (F : own_AI Z h b ty n bi) (W : Wr h h' a sl v) (q : b ≠ a) : own_AI Z h' b ty n bi := own_AF.other F W q
theorem own_AI.keep (F : own_AI Z h a ty n bi) (K : Keep h h' ws) (q : a ∉ ws) : own_AI Z h' a ty n bi := own_AF.keep F K q
theorem own_AI.congr (F : own_AI Z h a ty n bi) {b' : Nat → Int32} (q : ∀ i, i < n → bi i = b' i) : own_AI Z h a ty n b' := own_AF.congr F fun i hi => by rw [q i hi]
theorem own_AJ.lt (F : own_AJ Z h a n bj) : a < h.size := own_AF.lt F
theorem own_AJ.ext (F : own_AJ Z h a n bj) (E : Ext h h') : own_AJ Z h' a n bj := own_AF.ext F E
theorem own_AJ.other (F : own_AJ Z h b n bj) (W : Wr h h' a sl v) (q : b ≠ a) : own_AJ Z h' b n bj := own_AF.other F W q
theorem own_AJ.keep (F : own_AJ Z h a n bj) (K : Keep h h' ws) (q : a ∉ ws) : own_AJ Z h' a n bj := own_AF.keep F K q
theorem own_AJ.congr (F : own_AJ Z h a n bj) {b' : Nat → Int64} (q : ∀ i, i < n → bj i = b' i) : own_AJ Z h a n b' := own_AF.congr F fun i hi => by rw [q i hi]
variable {p : Program} {l : Launch} {e : Env} {R : Room} {s : State} {m : MethodId} {args : Array Value} {below : List Frame} {meth : Method} {c : Code} {T : State} {locs : List Loc} {cells slots : Nat} {j : Int32} {k : Nat} {g : JFrame} {rest : List Value}
theorem own_in {cl : Cell} (S : cl.slots.size = n) (h0 : ¬ j < 0) (hk : j.toNatClampNeg = k) (hlt : k < n) : ¬ (j < 0 ∨ cl.slots.size ≤ j.toNatClampNeg) := by
  rintro (q | q)
  · exact h0 q
  · rw [S, hk] at q; omega
theorem own_ldB (X : Stand p l e R s m args below meth c T locs cells slots) (hx : p.tables.exec = Jvm.exec) (hZ : Z.Warmed39 s.vm) (eT : T.heap = h) (A : own_AI Z h a .byte n bi) (h0 : ¬ j < 0) (hk : j.toNatClampNeg = k) (hlt : k < n) (hg : g.method = m) (hs : g.stack = .int j :: .ref a :: rest) (hd : decode c.code g.pc = .ok (.baload, 1)) :
    ∀ target, Steps p.tables e below (T.setTop { g with pc := g.pc + 1, stack := .int (bi k) :: rest }) target → Steps p.tables e below (T.setTop g) target := by
  obtain ⟨cl, Ar, S, H⟩ := A
  exact X.baloadBytes hx (v := .int (bi k)) (by rw [eT]; exact Ar.1) (State.isArrayOf_alike hZ.alike Ar.2.1) Ar.2.2 (own_in S h0 hk hlt) (by rw [hk]; exact H k hlt) hg hs hd
theorem own_ldI (X : Stand p l e R s m args below meth c T locs cells slots) (hx : p.tables.exec = Jvm.exec) (hZ : Z.Warmed39 s.vm) (eT : T.heap = h) (A : own_AI Z h a .int n bi) (h0 : ¬ j < 0) (hk : j.toNatClampNeg = k) (hlt : k < n) (hg : g.method = m) (hs : g.stack = .int j :: .ref a :: rest) (hd : decode c.code g.pc = .ok (.iaload, 1)) :
    ∀ target, Steps p.tables e below (T.setTop { g with pc := g.pc + 1, stack := .int (bi k) :: rest }) target → Steps p.tables e below (T.setTop g) target := by
  obtain ⟨cl, Ar, S, H⟩ := A
  exact X.iaload hx (v := .int (bi k)) (by rw [eT]; exact Ar.1) (State.isArrayOf_alike hZ.alike Ar.2.1) Ar.2.2 (own_in S h0 hk hlt) (by rw [hk]; exact H k hlt) hg hs hd
theorem own_ldJ (X : Stand p l e R s m args below meth c T locs cells slots) (hx : p.tables.exec = Jvm.exec) (hZ : Z.Warmed39 s.vm) (eT : T.heap = h) (A : own_AJ Z h a n bj) (h0 : ¬ j < 0) (hk : j.toNatClampNeg = k) (hlt : k < n) (hg : g.method = m) (hs : g.stack = .int j :: .ref a :: rest) (hd : decode c.code g.pc = .ok (.laload, 1)) :
    ∀ target, Steps p.tables e below (T.setTop { g with pc := g.pc + 1, stack := .long (bj k) :: rest }) target → Steps p.tables e below (T.setTop g) target := by
  obtain ⟨cl, Ar, S, H⟩ := A
  exact X.laload hx (v := .long (bj k)) (by rw [eT]; exact Ar.1) (State.isArrayOf_alike hZ.alike Ar.2.1) Ar.2.2 (own_in S h0 hk hlt) (by rw [hk]; exact H k hlt) hg hs hd
theorem own_len (X : Stand p l e R s m args below meth c T locs cells slots) (hx : p.tables.exec = Jvm.exec) (hZ : Z.Warmed39 s.vm) (eT : T.heap = h) (A : own_AF Z h a ty n f) {z : Int32} (hz : n.toInt32 = z) (hg : g.method = m) (hs : g.stack = .ref a :: rest) (hd : decode c.code g.pc = .ok (.arraylength, 1)) :
    ∀ target, Steps p.tables e below (T.setTop { g with pc := g.pc + 1, stack := .int z :: rest }) target → Steps p.tables e below (T.setTop g) target := by
  obtain ⟨cl, Ar, S, H⟩ := A
  intro t hr
  refine X.arraylength hx (by rw [eT]; exact Ar.1) (State.isArrayOf_alike hZ.alike Ar.2.1) hg hs hd t ?_
  rw [S, hz]; exact hr
theorem own_stB (X : Stand p l e R s m args below meth c T locs cells slots) (hx : p.tables.exec = Jvm.exec) (hZ : Z.Warmed39 s.vm) (eT : T.heap = h) (A : own_AI Z h a .byte n bi) {x : Int32} (h0 : ¬ j < 0) (hk : j.toNatClampNeg = k) (hlt : k < n) (hg : g.method = m) (hs : g.stack = .int x :: .int j :: .ref a :: rest) (hd : decode c.code g.pc = .ok (.bastore, 1)) :
    ∃ T' h', Stand p l e R s m args below meth c T' (locs ++ [⟨a, k⟩]) cells slots ∧ T'.heap = h' ∧ Wr h h' a k (.int (x.toInt8.toInt32)) ∧ own_AI Z h' a .byte n (own_upd bi k (x.toInt8.toInt32)) ∧ ∀ target, Steps p.tables e below (T'.setTop { g with pc := g.pc + 1, stack := rest }) target → Steps p.tables e below (T.setTop g) target := by
  obtain ⟨cl, Ar, S, H⟩ := id A
  obtain ⟨T', h', X', e', W, st⟩ := stB X hx hZ eT Ar (own_in S h0 hk hlt) hg hs hd
  rw [hk] at X' W
  exact ⟨T', h', X', e', W, A.st W, st⟩
theorem own_stI (X : Stand p l e R s m args below meth c T locs cells slots) (hx : p.tables.exec = Jvm.exec) (hZ : Z.Warmed39 s.vm) (eT : T.heap = h) (A : own_AI Z h a .int n bi) {x : Int32} (h0 : ¬ j < 0) (hk : j.toNatClampNeg = k) (hlt : k < n) (hg : g.method = m) (hs : g.stack = .int x :: .int j :: .ref a :: rest) (hd : decode c.code g.pc = .ok (.iastore, 1)) :
    ∃ T' h', Stand p l e R s m args below meth c T' (locs ++ [⟨a, k⟩]) cells slots ∧ T'.heap = h' ∧ Wr h h' a k (.int x) ∧ own_AI Z h' a .int n (own_upd bi k x) ∧ ∀ target, Steps p.tables e below (T'.setTop { g with pc := g.pc + 1, stack := rest }) target → Steps p.tables e below (T.setTop g) target := by
  obtain ⟨cl, Ar, S, H⟩ := id A
  obtain ⟨T', h', X', e', W, st⟩ := stI X hx hZ eT Ar (own_in S h0 hk hlt) hg hs hd
  rw [hk] at X' W
  exact ⟨T', h', X', e', W, A.st W, st⟩
theorem own_stJ (X : Stand p l e R s m args below meth c T locs cells slots) (hx : p.tables.exec = Jvm.exec) (hZ : Z.Warmed39 s.vm) (eT : T.heap = h) (A : own_AJ Z h a n bj) {x : Int64} (h0 : ¬ j < 0) (hk : j.toNatClampNeg = k) (hlt : k < n) (hg : g.method = m) (hs : g.stack = .long x :: .int j :: .ref a :: rest) (hd : decode c.code g.pc = .ok (.lastore, 1)) :
    ∃ T' h', Stand p l e R s m args below meth c T' (locs ++ [⟨a, k⟩]) cells slots ∧ T'.heap = h' ∧ Wr h h' a k (.long x) ∧ own_AJ Z h' a n (own_upd bj k x) ∧ ∀ target, Steps p.tables e below (T'.setTop { g with pc := g.pc + 1, stack := rest }) target → Steps p.tables e below (T.setTop g) target := by
  obtain ⟨cl, Ar, S, H⟩ := id A
  obtain ⟨T', h', X', e', W, st⟩ := stJ X hx hZ eT Ar (own_in S h0 hk hlt) hg hs hd
  rw [hk] at X' W
  exact ⟨T', h', X', e', W, A.st W, st⟩
end OwnArr
/-- what a body leaves that returns an int (a long) and writes nothing -/
def own_QI (h0 : Heap) (n0 : Nat) (f : Int32) (v : Option Value) (h : Heap) (L : List Loc) : Prop := ∃ r : Int32, v = some (.int r) ∧ Fr n0 L ∧ h = h0 ∧ r = f
def own_QJ (h0 : Heap) (n0 : Nat) (f : Int64) (v : Option Value) (h : Heap) (L : List Loc) : Prop := ∃ r : Int64, v = some (.long r) ∧ Fr n0 L ∧ h = h0 ∧ r = f
theorem own_nb {z : Int32} (h : z = 0 ∨ z = 1) : nar .boolean z = z := by rcases h with rfl | rfl <;> decide
/-! sums, differences and products that don't wrap -/
theorem own_add {x y : Int32} (h1 : -2147483648 ≤ x.toInt + y.toInt) (h2 : x.toInt + y.toInt < 2147483648) : (x + y).toInt = x.toInt + y.toInt := by
  have a := c_iadd x y; have b := (x + y).toInt_lt; have c := (x + y).le_toInt; omega
theorem own_sub' {x y : Int32} (h1 : -2147483648 ≤ x.toInt - y.toInt) (h2 : x.toInt - y.toInt < 2147483648) : (x - y).toInt = x.toInt - y.toInt := by
  have a := c_isub x y; have b := (x - y).toInt_lt; have c := (x - y).le_toInt; omega
theorem own_mul {x y : Int32} {t : Int} (ht : x.toInt * y.toInt = t) (h1 : -2147483648 ≤ t) (h2 : t < 2147483648) : (x * y).toInt = t := by
  have a := c_imul x y; rw [ht] at a; have b := (x * y).toInt_lt; have c := (x * y).le_toInt; omega
theorem own_addL {x y : Int64} (h1 : -9223372036854775808 ≤ x.toInt + y.toInt) (h2 : x.toInt + y.toInt < 9223372036854775808) : (x + y).toInt = x.toInt + y.toInt := by
  have a := c_ladd x y; have b := (x + y).toInt_lt; have c := (x + y).le_toInt; omega
theorem own_subL {x y : Int64} (h1 : -9223372036854775808 ≤ x.toInt - y.toInt) (h2 : x.toInt - y.toInt < 9223372036854775808) : (x - y).toInt = x.toInt - y.toInt := by
  have a := c_lsub x y; have b := (x - y).toInt_lt; have c := (x - y).le_toInt; omega
theorem own_mulL {x y : Int64} {t : Int} (ht : x.toInt * y.toInt = t) (h1 : -9223372036854775808 ≤ t) (h2 : t < 9223372036854775808) : (x * y).toInt = t := by
  have a := c_lmul x y; rw [ht] at a; have b := (x * y).toInt_lt; have c := (x * y).le_toInt; omega
theorem own_rank {p q : Int32} {r : Int64} (h : 0 ≤ q.toInt) (hr : r = ((p.toInt64 <<< ((32 : Int32) &&& 0x3f).toInt64) ||| ((2147483647 : Int32) - q).toInt64)) : r.toInt = p.toInt * 4294967296 + (2147483647 - q.toInt) := by
  have l1 := p.toInt_lt; have l2 := p.le_toInt; have l3 := q.toInt_lt
  have a1 := c_lshl p.toInt64 32 32 (by decide)
  rw [c_i2l] at a1
  have a2 := c_isub 2147483647 q
  have a3 : (2147483647 : Int32).toInt = 2147483647 := by decide
  rw [a3] at a2
  have a4 := ((2147483647 : Int32) - q).toInt_lt
  have a5 := ((2147483647 : Int32) - q).le_toInt
  have b1 := (p.toInt64 <<< ((32 : Int32) &&& 0x3f).toInt64).toInt_lt
  have b2 := (p.toInt64 <<< ((32 : Int32) &&& 0x3f).toInt64).le_toInt
  have a6 := c_orL (p.toInt64 <<< ((32 : Int32) &&& 0x3f).toInt64) ((2147483647 : Int32) - q).toInt64 32 (by decide) 4294967296 (by decide)
  rw [c_i2l, ← hr] at a6
  have b3 := r.toInt_lt; have b4 := r.le_toInt
  have a7 := a6 (by omega) (by omega) (by omega)
  omega
theorem own_main {p1 q1 q2 sel A B pb ex ac : Int32} {ra rb : Int64} (hA : A = (q1 &&& (2147483647 : Int32))) (hB : B = (if (sel &&& (2 : Int32)) = (0 : Int32) then (q2 &&& (2147483647 : Int32)) else A))
    (hra : ra = ((p1.toInt64 <<< ((32 : Int32) &&& 0x3f).toInt64) ||| ((2147483647 : Int32) - A).toInt64)) (hrb : rb = ((pb.toInt64 <<< ((32 : Int32) &&& 0x3f).toInt64) ||| ((2147483647 : Int32) - B).toInt64))
    (hex : ex = (if pb < p1 then (1 : Int32) else (if p1 < pb then (-1 : Int32) else (if A < B then (1 : Int32) else (if B < A then (-1 : Int32) else (0 : Int32))))))
    (hac : ac = (if rb < ra then (1 : Int32) else (if ra < rb then (-1 : Int32) else (0 : Int32)))) : ex = ac := by
  have m1 := c_mask q1 2147483647 31 (by decide) (by decide)
  have m2 := c_mask q2 2147483647 31 (by decide) (by decide)
  have A0 : 0 ≤ A.toInt := by rw [hA, m1]; omega
  have B0 : 0 ≤ B.toInt := by
    rw [hB]; split
    · rw [m2]; omega
    · exact A0
  have r1 := own_rank A0 hra
  have r2 := own_rank B0 hrb
  have l1 := A.toInt_lt; have l2 := B.toInt_lt
  rw [hex, hac]
  simp only [Int32.lt_iff_toInt_lt, Int64.lt_iff_toInt_lt]
  repeat' split
  all_goals first | rfl | (exfalso; omega)
theorem d_prog_96_method_2_0 : decode prog_96_method_2_code 0 = .ok (.iload_n 0, 1) := by decide +kernel
theorem d_prog_96_method_2_1 : decode prog_96_method_2_code 1 = .ok (.i2l, 1) := by decide +kernel
theorem d_prog_96_method_2_2 : decode prog_96_method_2_code 2 = .ok (.bipush 32, 2) := by decide +kernel
theorem d_prog_96_method_2_4 : decode prog_96_method_2_code 4 = .ok (.lshl, 1) := by decide +kernel
theorem d_prog_96_method_2_5 : decode prog_96_method_2_code 5 = .ok (.ldc 103, 2) := by decide +kernel
theorem d_prog_96_method_2_7 : decode prog_96_method_2_code 7 = .ok (.iload_n 1, 1) := by decide +kernel
theorem d_prog_96_method_2_8 : decode prog_96_method_2_code 8 = .ok (.isub, 1) := by decide +kernel
theorem d_prog_96_method_2_9 : decode prog_96_method_2_code 9 = .ok (.i2l, 1) := by decide +kernel
theorem d_prog_96_method_2_10 : decode prog_96_method_2_code 10 = .ok (.lor, 1) := by decide +kernel
theorem d_prog_96_method_2_11 : decode prog_96_method_2_code 11 = .ok (.lreturn, 1) := by decide +kernel
theorem ef_rm_rank (m : MethodId) (p1 : Int32) (p2 : Int32) : entryFrame m #[(.int p1), (.int p2)] 2 = mkF m 0 #[.val (.int p1), .val (.int p2)] [] := by first | (simp [entryFrame, mkF, argsToLocals, Value.category]; done) | rfl
theorem pn_10 : plainName "com/example/cutset/cutset/search/NogoodStore" = true := by first | (simp [plainName, overriddenIn]; done) | decide +kernel
set_option maxRecDepth 65536 in
set_option maxHeartbeats 40000000 in
theorem rm_rank (l : Launch) (Z : State) (a0 : Array Value) (hw : ∀ d ∈ tables_1, d.before a0 Z = true) (ws : List Jvm.Cond) (p1 : Int32) (p2 : Int32) (h0 : Heap) (n0 : Nat) (Z0 : n0 ≤ h0.size)  :
    MetFree l (⟨"com/example/cutset/cutset/search/NogoodStore", "rank", "(II)J"⟩ : MethodName) (head1 (Jvm.Cond.code (⟨"com/example/cutset/cutset/search/NogoodStore", "rank", "(II)J"⟩ : MethodName) prog_96_method_2_code 2 (some .long) :: ws) ({ frames := 0, cells := 0, slots := 0, locals := 0 } : Room)) (fun zA zU => zA = #[(.int p1), (.int p2)] ∧ Z.Warmed39 zU.vm ∧ zU.heap = h0) (fun _ _ _ _ _ => True) (fun _ zU zo zW => ∃ zv zL, zo = .returned zv ∧ (own_QJ h0 n0 (((p1.toInt64) <<< ((32 : Int32) &&& 0x3f).toInt64) ||| (((2147483647 : Int32) - p2).toInt64))) zv zW.heap zL ∧ FrameEnd zU zo zW zL ({ frames := 0, cells := 0, slots := 0, locals := 0 } : Room).cells ({ frames := 0, cells := 0, slots := 0, locals := 0 } : Room).slots) := by
  refine MetFree.of_bodySF (plainFor_of_name pn_10) hisR ?_
  intro p e s m args below meth c s₁ Bd hml0 hP hK
  obtain ⟨rfl, hZ, hh⟩ := hP
  have hx := Bd.exec
  have hby := Bd.bytes
  have hml : c.maxLocals = 2 := hml0
  have hown : s.vm.findClass "com/example/cutset/cutset/search/NogoodStore" = some m.cls := findClass_of_methodNamed Bd.named
  have hnm := (name_of_methodNamed Bd.named Bd.method).1
  have X0 : Stand p l e ({ frames := 0, cells := 0, slots := 0, locals := 0 } : Room) s m #[(.int p1), (.int p2)] below meth c s₁ [] 0 0 := Stand.of_body Bd
  have e0 : s₁.heap = h0 := by rw [← hh, Bd.state]; rfl
  have N0 := Fr.nil n0
  refine own_out (Q := own_QJ h0 n0 (((p1.toInt64) <<< ((32 : Int32) &&& 0x3f).toInt64) ||| (((2147483647 : Int32) - p2).toInt64))) ?_
  refine own_cast (ef_rm_rank m p1 p2) ?_
  show own_Go p.tables e below (s₁.setTop (mkF m 0 #[.val (.int p1), .val (.int p2)] [])) _
  refine own_by (fun t k => XS.iloadN X0.here hx rfl (hb hby d_prog_96_method_2_0) rfl k) ?_
  show own_Go p.tables e below (s₁.setTop (mkF m 1 #[.val (.int p1), .val (.int p2)] [(.int p1)])) _
  refine own_by (fun t k => XS.i2l X0.here hx rfl (hb hby d_prog_96_method_2_1) rfl k) ?_
  show own_Go p.tables e below (s₁.setTop (mkF m 2 #[.val (.int p1), .val (.int p2)] [(.long (p1.toInt64))])) _
  refine own_by (fun t k => XS.bipush X0.here hx rfl (hb hby d_prog_96_method_2_2) k) ?_
  show own_Go p.tables e below (s₁.setTop (mkF m 4 #[.val (.int p1), .val (.int p2)] [(.int (32 : Int32)), (.long (p1.toInt64))])) _
  refine own_by (fun t k => XS.lshl X0.here hx rfl (hb hby d_prog_96_method_2_4) rfl k) ?_
  show own_Go p.tables e below (s₁.setTop (mkF m 5 #[.val (.int p1), .val (.int p2)] [(.long ((p1.toInt64) <<< ((32 : Int32) &&& 0x3f).toInt64))])) _
  refine own_by (X0.ldcInt hx hown (mvT hZ (hw _ (List.mem_of_getElem? (i := 5) rfl))) (g := (mkF m 5 #[.val (.int p1), .val (.int p2)] [(.long ((p1.toInt64) <<< ((32 : Int32) &&& 0x3f).toInt64))])) rfl (hb hby d_prog_96_method_2_5)) ?_
  show own_Go p.tables e below (s₁.setTop (mkF m 7 #[.val (.int p1), .val (.int p2)] [(.int (2147483647 : Int32)), (.long ((p1.toInt64) <<< ((32 : Int32) &&& 0x3f).toInt64))])) _
  refine own_by (fun t k => XS.iloadN X0.here hx rfl (hb hby d_prog_96_method_2_7) rfl k) ?_
  show own_Go p.tables e below (s₁.setTop (mkF m 8 #[.val (.int p1), .val (.int p2)] [(.int p2), (.int (2147483647 : Int32)), (.long ((p1.toInt64) <<< ((32 : Int32) &&& 0x3f).toInt64))])) _
  refine own_by (fun t k => XS.isub X0.here hx rfl (hb hby d_prog_96_method_2_8) rfl k) ?_
  show own_Go p.tables e below (s₁.setTop (mkF m 9 #[.val (.int p1), .val (.int p2)] [(.int ((2147483647 : Int32) - p2)), (.long ((p1.toInt64) <<< ((32 : Int32) &&& 0x3f).toInt64))])) _
  refine own_by (fun t k => XS.i2l X0.here hx rfl (hb hby d_prog_96_method_2_9) rfl k) ?_
  show own_Go p.tables e below (s₁.setTop (mkF m 10 #[.val (.int p1), .val (.int p2)] [(.long (((2147483647 : Int32) - p2).toInt64)), (.long ((p1.toInt64) <<< ((32 : Int32) &&& 0x3f).toInt64))])) _
  refine own_by (fun t k => XS.lor X0.here hx rfl (hb hby d_prog_96_method_2_10) rfl k) ?_
  show own_Go p.tables e below (s₁.setTop (mkF m 11 #[.val (.int p1), .val (.int p2)] [(.long (((p1.toInt64) <<< ((32 : Int32) &&& 0x3f).toInt64) ||| (((2147483647 : Int32) - p2).toInt64)))])) _
  exact own_retJ X0 hx Bd.notSynchronized Bd.returns (hb hby d_prog_96_method_2_11) (by (try rw [e0]); exact ⟨_, rfl, N0, rfl, rfl⟩) (by decide) (by decide)
theorem pd_11 : parseMethodDescriptor "(II)J" = some ⟨[.int, .int], some .long⟩ := by decide +kernel
theorem ef_rm_law (m : MethodId) (p1 : Int32) (q1 : Int32) (p2 : Int32) (q2 : Int32) (sel : Int32) : entryFrame m #[(.int p1), (.int q1), (.int p2), (.int q2), (.int sel)] maxLocals = mkF m 0 #[.val (.int p1), .val (.int q1), .val (.int p2), .val (.int q2), .val (.int sel), .unset, .unset, .unset, .unset, .unset, .unset, .unset, .unset, .unset] [] := by first | (simp [entryFrame, mkF, argsToLocals, Value.category, maxLocals]; done) | rfl
theorem pn_12 : plainName "com/example/cutset/cutset/search/NogoodStoreRankPinLaw" = true := by first | (simp [plainName, overriddenIn]; done) | decide +kernel
set_option maxRecDepth 65536 in
set_option maxHeartbeats 40000000 in
theorem rm_law (l : Launch) (Z : State) (a0 : Array Value) (hw : ∀ d ∈ tables_1, d.before a0 Z = true) (ws : List Jvm.Cond) (p1 : Int32) (q1 : Int32) (p2 : Int32) (q2 : Int32) (sel : Int32) (h0 : Heap) (n0 : Nat) (Z0 : n0 ≤ h0.size)  :
    MetFree l x (head1 (Jvm.Cond.code x code maxLocals ret :: ws) room_1) (fun zA zU => zA = #[(.int p1), (.int q1), (.int p2), (.int q2), (.int sel)] ∧ Z.Warmed39 zU.vm ∧ zU.heap = h0) (fun _ _ _ _ _ => True) (fun _ zU zo zW => ∃ zv zL, zo = .returned zv ∧ (fun v h L => v = some (.int 1) ∧ Fr n0 L) zv zW.heap zL ∧ FrameEnd zU zo zW zL 0 0) := by
  refine MetFree.of_bodySF (plainFor_of_name pn_12) hisR ?_
  intro p e s m args below meth c s₁ Bd hml0 hP hK
  obtain ⟨rfl, hZ, hh⟩ := hP
  have hx := Bd.exec
  have hby := Bd.bytes
  have hml : c.maxLocals = 14 := hml0
  have hown : s.vm.findClass "com/example/cutset/cutset/search/NogoodStoreRankPinLaw" = some m.cls := findClass_of_methodNamed Bd.named
  have hnm := (name_of_methodNamed Bd.named Bd.method).1
  have X0 : Stand p l e room_1 s m #[(.int p1), (.int q1), (.int p2), (.int q2), (.int sel)] below meth c s₁ [] 0 0 := Stand.of_body Bd
  have e0 : s₁.heap = h0 := by rw [← hh, Bd.state]; rfl
  have N0 := Fr.nil n0
  refine own_out (Q := fun v h L => v = some (.int 1) ∧ Fr n0 L) ?_
  refine own_cast (ef_rm_law m p1 q1 p2 q2 sel) ?_
  show own_Go p.tables e below (s₁.setTop (mkF m 0 #[.val (.int p1), .val (.int q1), .val (.int p2), .val (.int q2), .val (.int sel), .unset, .unset, .unset, .unset, .unset, .unset, .unset, .unset, .unset] [])) _
  refine own_by (fun t k => XS.iloadN X0.here hx rfl (hb hby at_0) rfl k) ?_
  show own_Go p.tables e below (s₁.setTop (mkF m 1 #[.val (.int p1), .val (.int q1), .val (.int p2), .val (.int q2), .val (.int sel), .unset, .unset, .unset, .unset, .unset, .unset, .unset, .unset, .unset] [(.int q1)])) _
  refine own_by (X0.ldcInt hx hown (mvT hZ (hw _ (List.mem_of_getElem? (i := 0) rfl))) (g := (mkF m 1 #[.val (.int p1), .val (.int q1), .val (.int p2), .val (.int q2), .val (.int sel), .unset, .unset, .unset, .unset, .unset, .unset, .unset, .unset, .unset] [(.int q1)])) rfl (hb hby at_1)) ?_
  show own_Go p.tables e below (s₁.setTop (mkF m 3 #[.val (.int p1), .val (.int q1), .val (.int p2), .val (.int q2), .val (.int sel), .unset, .unset, .unset, .unset, .unset, .unset, .unset, .unset, .unset] [(.int (2147483647 : Int32)), (.int q1)])) _
  refine own_by (fun t k => XS.iand X0.here hx rfl (hb hby at_3) rfl k) ?_
  show own_Go p.tables e below (s₁.setTop (mkF m 4 #[.val (.int p1), .val (.int q1), .val (.int p2), .val (.int q2), .val (.int sel), .unset, .unset, .unset, .unset, .unset, .unset, .unset, .unset, .unset] [(.int (q1 &&& (2147483647 : Int32)))])) _
  obtain ⟨A, hA⟩ : ∃ z, z = (q1 &&& (2147483647 : Int32)) := ⟨_, rfl⟩
  rw [← hA]
  show own_Go p.tables e below (s₁.setTop (mkF m 4 #[.val (.int p1), .val (.int q1), .val (.int p2), .val (.int q2), .val (.int sel), .unset, .unset, .unset, .unset, .unset, .unset, .unset, .unset, .unset] [(.int A)])) _
  refine own_by (fun t k => XS.istore X0.here hx rfl (hb hby at_4) rfl (l' := #[.val (.int p1), .val (.int q1), .val (.int p2), .val (.int q2), .val (.int sel), .val (.int A), .unset, .unset, .unset, .unset, .unset, .unset, .unset, .unset]) rfl k) ?_
  show own_Go p.tables e below (s₁.setTop (mkF m 6 #[.val (.int p1), .val (.int q1), .val (.int p2), .val (.int q2), .val (.int sel), .val (.int A), .unset, .unset, .unset, .unset, .unset, .unset, .unset, .unset] [])) _
  obtain ⟨B, hB, sj2⟩ : ∃ (B : Int32), B = (if (sel &&& (2 : Int32)) = (0 : Int32) then (q2 &&& (2147483647 : Int32)) else A) ∧ ∀ t, Steps p.tables e below (s₁.setTop (mkF m 22 #[.val (.int p1), .val (.int q1), .val (.int p2), .val (.int q2), .val (.int sel), .val (.int A), .unset, .unset, .unset, .unset, .unset, .unset, .unset, .unset] [(.int B)])) t → Steps p.tables e below (s₁.setTop (mkF m 6 #[.val (.int p1), .val (.int q1), .val (.int p2), .val (.int q2), .val (.int sel), .val (.int A), .unset, .unset, .unset, .unset, .unset, .unset, .unset, .unset] [])) t := by
    by_cases j1 : (sel &&& (2 : Int32)) = (0 : Int32)
    · refine ⟨((q2 &&& (2147483647 : Int32))), (if_pos j1).symm, fun t k => ?_⟩
      show Steps p.tables e below (s₁.setTop (mkF m 6 #[.val (.int p1), .val (.int q1), .val (.int p2), .val (.int q2), .val (.int sel), .val (.int A), .unset, .unset, .unset, .unset, .unset, .unset, .unset, .unset] [])) _
      refine XS.iload X0.here hx rfl (hb hby at_6) rfl ?_
      show Steps p.tables e below (s₁.setTop (mkF m 8 #[.val (.int p1), .val (.int q1), .val (.int p2), .val (.int q2), .val (.int sel), .val (.int A), .unset, .unset, .unset, .unset, .unset, .unset, .unset, .unset] [(.int sel)])) _
      refine XS.iconst X0.here hx rfl (hb hby at_8) ?_
      show Steps p.tables e below (s₁.setTop (mkF m 9 #[.val (.int p1), .val (.int q1), .val (.int p2), .val (.int q2), .val (.int sel), .val (.int A), .unset, .unset, .unset, .unset, .unset, .unset, .unset, .unset] [(.int (2 : Int32)), (.int sel)])) _
      refine XS.iand X0.here hx rfl (hb hby at_9) rfl ?_
      show Steps p.tables e below (s₁.setTop (mkF m 10 #[.val (.int p1), .val (.int q1), .val (.int p2), .val (.int q2), .val (.int sel), .val (.int A), .unset, .unset, .unset, .unset, .unset, .unset, .unset, .unset] [(.int (sel &&& (2 : Int32)))])) _
      refine XS.ifYes X0.here hx rfl (pc0 := 10) (pc' := 18) rfl (hb hby at_10) rfl ((if0 _ _).trans (teq j1).1) (by decide) (by decide) ?_
      show Steps p.tables e below (s₁.setTop (mkF m 18 #[.val (.int p1), .val (.int q1), .val (.int p2), .val (.int q2), .val (.int sel), .val (.int A), .unset, .unset, .unset, .unset, .unset, .unset, .unset, .unset] [])) _
      refine XS.iloadN X0.here hx rfl (hb hby at_18) rfl ?_
      show Steps p.tables e below (s₁.setTop (mkF m 19 #[.val (.int p1), .val (.int q1), .val (.int p2), .val (.int q2), .val (.int sel), .val (.int A), .unset, .unset, .unset, .unset, .unset, .unset, .unset, .unset] [(.int q2)])) _
      refine X0.ldcInt hx hown (mvT hZ (hw _ (List.mem_of_getElem? (i := 0) rfl))) (g := (mkF m 19 #[.val (.int p1), .val (.int q1), .val (.int p2), .val (.int q2), .val (.int sel), .val (.int A), .unset, .unset, .unset, .unset, .unset, .unset, .unset, .unset] [(.int q2)])) rfl (hb hby at_19) _ ?_
      show Steps p.tables e below (s₁.setTop (mkF m 21 #[.val (.int p1), .val (.int q1), .val (.int p2), .val (.int q2), .val (.int sel), .val (.int A), .unset, .unset, .unset, .unset, .unset, .unset, .unset, .unset] [(.int (2147483647 : Int32)), (.int q2)])) _
      refine XS.iand X0.here hx rfl (hb hby at_21) rfl ?_
      show Steps p.tables e below (s₁.setTop (mkF m 22 #[.val (.int p1), .val (.int q1), .val (.int p2), .val (.int q2), .val (.int sel), .val (.int A), .unset, .unset, .unset, .unset, .unset, .unset, .unset, .unset] [(.int (q2 &&& (2147483647 : Int32)))])) _
      exact k
    · refine ⟨(A), (if_neg j1).symm, fun t k => ?_⟩
      show Steps p.tables e below (s₁.setTop (mkF m 6 #[.val (.int p1), .val (.int q1), .val (.int p2), .val (.int q2), .val (.int sel), .val (.int A), .unset, .unset, .unset, .unset, .unset, .unset, .unset, .unset] [])) _
      refine XS.iload X0.here hx rfl (hb hby at_6) rfl ?_
      show Steps p.tables e below (s₁.setTop (mkF m 8 #[.val (.int p1), .val (.int q1), .val (.int p2), .val (.int q2), .val (.int sel), .val (.int A), .unset, .unset, .unset, .unset, .unset, .unset, .unset, .unset] [(.int sel)])) _
      refine XS.iconst X0.here hx rfl (hb hby at_8) ?_
      show Steps p.tables e below (s₁.setTop (mkF m 9 #[.val (.int p1), .val (.int q1), .val (.int p2), .val (.int q2), .val (.int sel), .val (.int A), .unset, .unset, .unset, .unset, .unset, .unset, .unset, .unset] [(.int (2 : Int32)), (.int sel)])) _
      refine XS.iand X0.here hx rfl (hb hby at_9) rfl ?_
      show Steps p.tables e below (s₁.setTop (mkF m 10 #[.val (.int p1), .val (.int q1), .val (.int p2), .val (.int q2), .val (.int sel), .val (.int A), .unset, .unset, .unset, .unset, .unset, .unset, .unset, .unset] [(.int (sel &&& (2 : Int32)))])) _
      refine XS.ifNo X0.here hx rfl (hb hby at_10) rfl ((if0 _ _).trans (feq j1).1) ?_
      show Steps p.tables e below (s₁.setTop (mkF m 13 #[.val (.int p1), .val (.int q1), .val (.int p2), .val (.int q2), .val (.int sel), .val (.int A), .unset, .unset, .unset, .unset, .unset, .unset, .unset, .unset] [])) _
      refine XS.iload X0.here hx rfl (hb hby at_13) rfl ?_
      show Steps p.tables e below (s₁.setTop (mkF m 15 #[.val (.int p1), .val (.int q1), .val (.int p2), .val (.int q2), .val (.int sel), .val (.int A), .unset, .unset, .unset, .unset, .unset, .unset, .unset, .unset] [(.int A)])) _
      refine XS.goto X0.here hx rfl (pc0 := 15) (pc' := 22) rfl (hb hby at_15) (by decide) (by decide) ?_
      show Steps p.tables e below (s₁.setTop (mkF m 22 #[.val (.int p1), .val (.int q1), .val (.int p2), .val (.int q2), .val (.int sel), .val (.int A), .unset, .unset, .unset, .unset, .unset, .unset, .unset, .unset] [(.int A)])) _
      exact k
  refine own_by (sj2) ?_
  show own_Go p.tables e below (s₁.setTop (mkF m 22 #[.val (.int p1), .val (.int q1), .val (.int p2), .val (.int q2), .val (.int sel), .val (.int A), .unset, .unset, .unset, .unset, .unset, .unset, .unset, .unset] [(.int B)])) _
  obtain ⟨pb, hpb, sj4⟩ : ∃ (pb : Int32), pb = (if (sel &&& (1 : Int32)) = (0 : Int32) then p2 else p1) ∧ ∀ t, Steps p.tables e below (s₁.setTop (mkF m 36 #[.val (.int p1), .val (.int q1), .val (.int p2), .val (.int q2), .val (.int sel), .val (.int A), .val (.int B), .unset, .unset, .unset, .unset, .unset, .unset, .unset] [(.int pb)])) t → Steps p.tables e below (s₁.setTop (mkF m 22 #[.val (.int p1), .val (.int q1), .val (.int p2), .val (.int q2), .val (.int sel), .val (.int A), .unset, .unset, .unset, .unset, .unset, .unset, .unset, .unset] [(.int B)])) t := by
    by_cases j3 : (sel &&& (1 : Int32)) = (0 : Int32)
    · refine ⟨(p2), (if_pos j3).symm, fun t k => ?_⟩
      show Steps p.tables e below (s₁.setTop (mkF m 22 #[.val (.int p1), .val (.int q1), .val (.int p2), .val (.int q2), .val (.int sel), .val (.int A), .unset, .unset, .unset, .unset, .unset, .unset, .unset, .unset] [(.int B)])) _
      refine XS.istore X0.here hx rfl (hb hby at_22) rfl (l' := #[.val (.int p1), .val (.int q1), .val (.int p2), .val (.int q2), .val (.int sel), .val (.int A), .val (.int B), .unset, .unset, .unset, .unset, .unset, .unset, .unset]) rfl ?_
      show Steps p.tables e below (s₁.setTop (mkF m 24 #[.val (.int p1), .val (.int q1), .val (.int p2), .val (.int q2), .val (.int sel), .val (.int A), .val (.int B), .unset, .unset, .unset, .unset, .unset, .unset, .unset] [])) _
      refine XS.iload X0.here hx rfl (hb hby at_24) rfl ?_
      show Steps p.tables e below (s₁.setTop (mkF m 26 #[.val (.int p1), .val (.int q1), .val (.int p2), .val (.int q2), .val (.int sel), .val (.int A), .val (.int B), .unset, .unset, .unset, .unset, .unset, .unset, .unset] [(.int sel)])) _
      refine XS.iconst X0.here hx rfl (hb hby at_26) ?_
      show Steps p.tables e below (s₁.setTop (mkF m 27 #[.val (.int p1), .val (.int q1), .val (.int p2), .val (.int q2), .val (.int sel), .val (.int A), .val (.int B), .unset, .unset, .unset, .unset, .unset, .unset, .unset] [(.int (1 : Int32)), (.int sel)])) _
      refine XS.iand X0.here hx rfl (hb hby at_27) rfl ?_
      show Steps p.tables e below (s₁.setTop (mkF m 28 #[.val (.int p1), .val (.int q1), .val (.int p2), .val (.int q2), .val (.int sel), .val (.int A), .val (.int B), .unset, .unset, .unset, .unset, .unset, .unset, .unset] [(.int (sel &&& (1 : Int32)))])) _
      refine XS.ifYes X0.here hx rfl (pc0 := 28) (pc' := 35) rfl (hb hby at_28) rfl ((if0 _ _).trans (teq j3).1) (by decide) (by decide) ?_
      show Steps p.tables e below (s₁.setTop (mkF m 35 #[.val (.int p1), .val (.int q1), .val (.int p2), .val (.int q2), .val (.int sel), .val (.int A), .val (.int B), .unset, .unset, .unset, .unset, .unset, .unset, .unset] [])) _
      refine XS.iloadN X0.here hx rfl (hb hby at_35) rfl ?_
      show Steps p.tables e below (s₁.setTop (mkF m 36 #[.val (.int p1), .val (.int q1), .val (.int p2), .val (.int q2), .val (.int sel), .val (.int A), .val (.int B), .unset, .unset, .unset, .unset, .unset, .unset, .unset] [(.int p2)])) _
      exact k
    · refine ⟨(p1), (if_neg j3).symm, fun t k => ?_⟩
      show Steps p.tables e below (s₁.setTop (mkF m 22 #[.val (.int p1), .val (.int q1), .val (.int p2), .val (.int q2), .val (.int sel), .val (.int A), .unset, .unset, .unset, .unset, .unset, .unset, .unset, .unset] [(.int B)])) _
      refine XS.istore X0.here hx rfl (hb hby at_22) rfl (l' := #[.val (.int p1), .val (.int q1), .val (.int p2), .val (.int q2), .val (.int sel), .val (.int A), .val (.int B), .unset, .unset, .unset, .unset, .unset, .unset, .unset]) rfl ?_
      show Steps p.tables e below (s₁.setTop (mkF m 24 #[.val (.int p1), .val (.int q1), .val (.int p2), .val (.int q2), .val (.int sel), .val (.int A), .val (.int B), .unset, .unset, .unset, .unset, .unset, .unset, .unset] [])) _
      refine XS.iload X0.here hx rfl (hb hby at_24) rfl ?_
      show Steps p.tables e below (s₁.setTop (mkF m 26 #[.val (.int p1), .val (.int q1), .val (.int p2), .val (.int q2), .val (.int sel), .val (.int A), .val (.int B), .unset, .unset, .unset, .unset, .unset, .unset, .unset] [(.int sel)])) _
      refine XS.iconst X0.here hx rfl (hb hby at_26) ?_
      show Steps p.tables e below (s₁.setTop (mkF m 27 #[.val (.int p1), .val (.int q1), .val (.int p2), .val (.int q2), .val (.int sel), .val (.int A), .val (.int B), .unset, .unset, .unset, .unset, .unset, .unset, .unset] [(.int (1 : Int32)), (.int sel)])) _
      refine XS.iand X0.here hx rfl (hb hby at_27) rfl ?_
      show Steps p.tables e below (s₁.setTop (mkF m 28 #[.val (.int p1), .val (.int q1), .val (.int p2), .val (.int q2), .val (.int sel), .val (.int A), .val (.int B), .unset, .unset, .unset, .unset, .unset, .unset, .unset] [(.int (sel &&& (1 : Int32)))])) _
      refine XS.ifNo X0.here hx rfl (hb hby at_28) rfl ((if0 _ _).trans (feq j3).1) ?_
      show Steps p.tables e below (s₁.setTop (mkF m 31 #[.val (.int p1), .val (.int q1), .val (.int p2), .val (.int q2), .val (.int sel), .val (.int A), .val (.int B), .unset, .unset, .unset, .unset, .unset, .unset, .unset] [])) _
      refine XS.iloadN X0.here hx rfl (hb hby at_31) rfl ?_
      show Steps p.tables e below (s₁.setTop (mkF m 32 #[.val (.int p1), .val (.int q1), .val (.int p2), .val (.int q2), .val (.int sel), .val (.int A), .val (.int B), .unset, .unset, .unset, .unset, .unset, .unset, .unset] [(.int p1)])) _
      refine XS.goto X0.here hx rfl (pc0 := 32) (pc' := 36) rfl (hb hby at_32) (by decide) (by decide) ?_
      show Steps p.tables e below (s₁.setTop (mkF m 36 #[.val (.int p1), .val (.int q1), .val (.int p2), .val (.int q2), .val (.int sel), .val (.int A), .val (.int B), .unset, .unset, .unset, .unset, .unset, .unset, .unset] [(.int p1)])) _
      exact k
  refine own_by (sj4) ?_
  show own_Go p.tables e below (s₁.setTop (mkF m 36 #[.val (.int p1), .val (.int q1), .val (.int p2), .val (.int q2), .val (.int sel), .val (.int A), .val (.int B), .unset, .unset, .unset, .unset, .unset, .unset, .unset] [(.int pb)])) _
  refine own_by (fun t k => XS.istore X0.here hx rfl (hb hby at_36) rfl (l' := #[.val (.int p1), .val (.int q1), .val (.int p2), .val (.int q2), .val (.int sel), .val (.int A), .val (.int B), .val (.int pb), .unset, .unset, .unset, .unset, .unset, .unset]) rfl k) ?_
  show own_Go p.tables e below (s₁.setTop (mkF m 38 #[.val (.int p1), .val (.int q1), .val (.int p2), .val (.int q2), .val (.int sel), .val (.int A), .val (.int B), .val (.int pb), .unset, .unset, .unset, .unset, .unset, .unset] [])) _
  refine own_by (fun t k => XS.iloadN X0.here hx rfl (hb hby at_38) rfl k) ?_
  show own_Go p.tables e below (s₁.setTop (mkF m 39 #[.val (.int p1), .val (.int q1), .val (.int p2), .val (.int q2), .val (.int sel), .val (.int A), .val (.int B), .val (.int pb), .unset, .unset, .unset, .unset, .unset, .unset] [(.int p1)])) _
  refine own_by (fun t k => XS.iload X0.here hx rfl (hb hby at_39) rfl k) ?_
  show own_Go p.tables e below (s₁.setTop (mkF m 41 #[.val (.int p1), .val (.int q1), .val (.int p2), .val (.int q2), .val (.int sel), .val (.int A), .val (.int B), .val (.int pb), .unset, .unset, .unset, .unset, .unset, .unset] [(.int A), (.int p1)])) _
  obtain ⟨_, _, ⟨T5, L5, k5, n5⟩, -, X5, ⟨Lc5, hQ5, l5, y5, z5⟩, st5⟩ := Jvm.LawKit.callS X0 hx (y := (⟨"com/example/cutset/cutset/search/NogoodStore", "rank", "(II)J"⟩ : MethodName)) hown (mvT hZ (hw _ (List.mem_of_getElem? (i := 1) rfl))) (mvT hZ (hw _ (List.mem_of_getElem? (i := 2) rfl))) (mvT hZ (hw _ (List.mem_of_getElem? (i := 3) rfl))) (mvT hZ (hw _ (List.mem_of_getElem? (i := 4) rfl))) (by decide) (backOf (W := 0) (rm_rank l Z a0 hw [] p1 A  h0 n0 (Nat.le_trans Z0 (Keep.refl h0 []).1) ) hZ (hw _ (List.mem_of_getElem? (i := 4) rfl)) (hw _ (List.mem_of_getElem? (i := 3) rfl)) (by decide) (by decide)) (g := (mkF m 41 #[.val (.int p1), .val (.int q1), .val (.int p2), .val (.int q2), .val (.int sel), .val (.int A), .val (.int B), .val (.int pb), .unset, .unset, .unset, .unset, .unset, .unset] [(.int A), (.int p1)])) rfl (by rw [hml]; rfl) (argsL := [(.int p1), (.int A)]) (rest := []) (lenOf pd_11 rfl) rfl (by show 2 * 0 + _ ≤ _; exact Nat.le_of_eq rfl) (hb hby at_41) (fun _ _ => ⟨rfl, e0, (by decide : 0 + 0 ≤ _), (by decide : 0 + 0 ≤ _)⟩)
  dsimp only [Pt.U, Pt.locs, Pt.cells, Pt.slots] at X5 l5 y5 z5 st5 hQ5
  subst l5 y5 z5
  obtain ⟨ra, rfl, N5q, eh5, hra⟩ := hQ5
  have N5 := Fr.app N0 N5q
  refine own_by (st5) ?_
  show own_Go p.tables e below (T5.setTop (mkF m 44 #[.val (.int p1), .val (.int q1), .val (.int p2), .val (.int q2), .val (.int sel), .val (.int A), .val (.int B), .val (.int pb), .unset, .unset, .unset, .unset, .unset, .unset] [(.long ra)])) _
  refine own_by (fun t k => XS.lstore X5.here hx rfl (hb hby at_44) rfl (l' := #[.val (.int p1), .val (.int q1), .val (.int p2), .val (.int q2), .val (.int sel), .val (.int A), .val (.int B), .val (.int pb), .val (.long ra), .second, .unset, .unset, .unset, .unset]) rfl k) ?_
  show own_Go p.tables e below (T5.setTop (mkF m 46 #[.val (.int p1), .val (.int q1), .val (.int p2), .val (.int q2), .val (.int sel), .val (.int A), .val (.int B), .val (.int pb), .val (.long ra), .second, .unset, .unset, .unset, .unset] [])) _
  refine own_by (fun t k => XS.iload X5.here hx rfl (hb hby at_46) rfl k) ?_
  show own_Go p.tables e below (T5.setTop (mkF m 48 #[.val (.int p1), .val (.int q1), .val (.int p2), .val (.int q2), .val (.int sel), .val (.int A), .val (.int B), .val (.int pb), .val (.long ra), .second, .unset, .unset, .unset, .unset] [(.int pb)])) _
  refine own_by (fun t k => XS.iload X5.here hx rfl (hb hby at_48) rfl k) ?_
  show own_Go p.tables e below (T5.setTop (mkF m 50 #[.val (.int p1), .val (.int q1), .val (.int p2), .val (.int q2), .val (.int sel), .val (.int A), .val (.int B), .val (.int pb), .val (.long ra), .second, .unset, .unset, .unset, .unset] [(.int B), (.int pb)])) _
  obtain ⟨_, _, ⟨T6, L6, k6, n6⟩, -, X6, ⟨Lc6, hQ6, l6, y6, z6⟩, st6⟩ := Jvm.LawKit.callS X5 hx (y := (⟨"com/example/cutset/cutset/search/NogoodStore", "rank", "(II)J"⟩ : MethodName)) hown (mvT hZ (hw _ (List.mem_of_getElem? (i := 1) rfl))) (mvT hZ (hw _ (List.mem_of_getElem? (i := 2) rfl))) (mvT hZ (hw _ (List.mem_of_getElem? (i := 3) rfl))) (mvT hZ (hw _ (List.mem_of_getElem? (i := 4) rfl))) (by decide) (backOf (W := 0) (rm_rank l Z a0 hw [] pb B  h0 n0 (Nat.le_trans Z0 (Keep.refl h0 []).1) ) hZ (hw _ (List.mem_of_getElem? (i := 4) rfl)) (hw _ (List.mem_of_getElem? (i := 3) rfl)) (by decide) (by decide)) (g := (mkF m 50 #[.val (.int p1), .val (.int q1), .val (.int p2), .val (.int q2), .val (.int sel), .val (.int A), .val (.int B), .val (.int pb), .val (.long ra), .second, .unset, .unset, .unset, .unset] [(.int B), (.int pb)])) rfl (by rw [hml]; rfl) (argsL := [(.int pb), (.int B)]) (rest := []) (lenOf pd_11 rfl) rfl (by show 2 * 0 + _ ≤ _; exact Nat.le_of_eq rfl) (hb hby at_50) (fun _ _ => ⟨rfl, eh5, (by decide : 0 + 0 ≤ _), (by decide : 0 + 0 ≤ _)⟩)
  dsimp only [Pt.U, Pt.locs, Pt.cells, Pt.slots] at X6 l6 y6 z6 st6 hQ6
  subst l6 y6 z6
  obtain ⟨rb, rfl, N6q, eh6, hrb⟩ := hQ6
  have N6 := Fr.app N5 N6q
  refine own_by (st6) ?_
  show own_Go p.tables e below (T6.setTop (mkF m 53 #[.val (.int p1), .val (.int q1), .val (.int p2), .val (.int q2), .val (.int sel), .val (.int A), .val (.int B), .val (.int pb), .val (.long ra), .second, .unset, .unset, .unset, .unset] [(.long rb)])) _
  refine own_by (fun t k => XS.lstore X6.here hx rfl (hb hby at_53) rfl (l' := #[.val (.int p1), .val (.int q1), .val (.int p2), .val (.int q2), .val (.int sel), .val (.int A), .val (.int B), .val (.int pb), .val (.long ra), .second, .val (.long rb), .second, .unset, .unset]) rfl k) ?_
  show own_Go p.tables e below (T6.setTop (mkF m 55 #[.val (.int p1), .val (.int q1), .val (.int p2), .val (.int q2), .val (.int sel), .val (.int A), .val (.int B), .val (.int pb), .val (.long ra), .second, .val (.long rb), .second, .unset, .unset] [])) _
  obtain ⟨ex, hex, sj11⟩ : ∃ (ex : Int32), ex = (if pb < p1 then (1 : Int32) else (if p1 < pb then (-1 : Int32) else (if A < B then (1 : Int32) else (if B < A then (-1 : Int32) else (0 : Int32))))) ∧ ∀ t, Steps p.tables e below (T6.setTop (mkF m 108 #[.val (.int p1), .val (.int q1), .val (.int p2), .val (.int q2), .val (.int sel), .val (.int A), .val (.int B), .val (.int pb), .val (.long ra), .second, .val (.long rb), .second, .val (.int ex), .unset] [])) t → Steps p.tables e below (T6.setTop (mkF m 55 #[.val (.int p1), .val (.int q1), .val (.int p2), .val (.int q2), .val (.int sel), .val (.int A), .val (.int B), .val (.int pb), .val (.long ra), .second, .val (.long rb), .second, .unset, .unset] [])) t := by
    by_cases j7 : pb < p1
    · refine ⟨((1 : Int32)), (if_pos j7).symm, fun t k => ?_⟩
      show Steps p.tables e below (T6.setTop (mkF m 55 #[.val (.int p1), .val (.int q1), .val (.int p2), .val (.int q2), .val (.int sel), .val (.int A), .val (.int B), .val (.int pb), .val (.long ra), .second, .val (.long rb), .second, .unset, .unset] [])) _
      refine XS.iloadN X6.here hx rfl (hb hby at_55) rfl ?_
      show Steps p.tables e below (T6.setTop (mkF m 56 #[.val (.int p1), .val (.int q1), .val (.int p2), .val (.int q2), .val (.int sel), .val (.int A), .val (.int B), .val (.int pb), .val (.long ra), .second, .val (.long rb), .second, .unset, .unset] [(.int p1)])) _
      refine XS.iload X6.here hx rfl (hb hby at_56) rfl ?_
      show Steps p.tables e below (T6.setTop (mkF m 58 #[.val (.int p1), .val (.int q1), .val (.int p2), .val (.int q2), .val (.int sel), .val (.int A), .val (.int B), .val (.int pb), .val (.long ra), .second, .val (.long rb), .second, .unset, .unset] [(.int pb), (.int p1)])) _
      refine XS.icmpNo X6.here hx rfl (hb hby at_58) rfl (tlt j7).2.2.2 ?_
      show Steps p.tables e below (T6.setTop (mkF m 61 #[.val (.int p1), .val (.int q1), .val (.int p2), .val (.int q2), .val (.int sel), .val (.int A), .val (.int B), .val (.int pb), .val (.long ra), .second, .val (.long rb), .second, .unset, .unset] [])) _
      refine XS.iconst X6.here hx rfl (hb hby at_61) ?_
      show Steps p.tables e below (T6.setTop (mkF m 62 #[.val (.int p1), .val (.int q1), .val (.int p2), .val (.int q2), .val (.int sel), .val (.int A), .val (.int B), .val (.int pb), .val (.long ra), .second, .val (.long rb), .second, .unset, .unset] [(.int (1 : Int32))])) _
      refine XS.istore X6.here hx rfl (hb hby at_62) rfl (l' := #[.val (.int p1), .val (.int q1), .val (.int p2), .val (.int q2), .val (.int sel), .val (.int A), .val (.int B), .val (.int pb), .val (.long ra), .second, .val (.long rb), .second, .val (.int (1 : Int32)), .unset]) rfl ?_
      show Steps p.tables e below (T6.setTop (mkF m 64 #[.val (.int p1), .val (.int q1), .val (.int p2), .val (.int q2), .val (.int sel), .val (.int A), .val (.int B), .val (.int pb), .val (.long ra), .second, .val (.long rb), .second, .val (.int (1 : Int32)), .unset] [])) _
      refine XS.goto X6.here hx rfl (pc0 := 64) (pc' := 108) rfl (hb hby at_64) (by decide) (by decide) ?_
      show Steps p.tables e below (T6.setTop (mkF m 108 #[.val (.int p1), .val (.int q1), .val (.int p2), .val (.int q2), .val (.int sel), .val (.int A), .val (.int B), .val (.int pb), .val (.long ra), .second, .val (.long rb), .second, .val (.int (1 : Int32)), .unset] [])) _
      exact k
    · by_cases j8 : p1 < pb
      · refine ⟨((-1 : Int32)), ((if_neg j7).trans (if_pos j8)).symm, fun t k => ?_⟩
        show Steps p.tables e below (T6.setTop (mkF m 55 #[.val (.int p1), .val (.int q1), .val (.int p2), .val (.int q2), .val (.int sel), .val (.int A), .val (.int B), .val (.int pb), .val (.long ra), .second, .val (.long rb), .second, .unset, .unset] [])) _
        refine XS.iloadN X6.here hx rfl (hb hby at_55) rfl ?_
        show Steps p.tables e below (T6.setTop (mkF m 56 #[.val (.int p1), .val (.int q1), .val (.int p2), .val (.int q2), .val (.int sel), .val (.int A), .val (.int B), .val (.int pb), .val (.long ra), .second, .val (.long rb), .second, .unset, .unset] [(.int p1)])) _
        refine XS.iload X6.here hx rfl (hb hby at_56) rfl ?_
        show Steps p.tables e below (T6.setTop (mkF m 58 #[.val (.int p1), .val (.int q1), .val (.int p2), .val (.int q2), .val (.int sel), .val (.int A), .val (.int B), .val (.int pb), .val (.long ra), .second, .val (.long rb), .second, .unset, .unset] [(.int pb), (.int p1)])) _
        refine XS.icmpYes X6.here hx rfl (pc0 := 58) (pc' := 67) rfl (hb hby at_58) rfl (flt j7).2.2.2 (by decide) (by decide) ?_
        show Steps p.tables e below (T6.setTop (mkF m 67 #[.val (.int p1), .val (.int q1), .val (.int p2), .val (.int q2), .val (.int sel), .val (.int A), .val (.int B), .val (.int pb), .val (.long ra), .second, .val (.long rb), .second, .unset, .unset] [])) _
        refine XS.iloadN X6.here hx rfl (hb hby at_67) rfl ?_
        show Steps p.tables e below (T6.setTop (mkF m 68 #[.val (.int p1), .val (.int q1), .val (.int p2), .val (.int q2), .val (.int sel), .val (.int A), .val (.int B), .val (.int pb), .val (.long ra), .second, .val (.long rb), .second, .unset, .unset] [(.int p1)])) _
        refine XS.iload X6.here hx rfl (hb hby at_68) rfl ?_
        show Steps p.tables e below (T6.setTop (mkF m 70 #[.val (.int p1), .val (.int q1), .val (.int p2), .val (.int q2), .val (.int sel), .val (.int A), .val (.int B), .val (.int pb), .val (.long ra), .second, .val (.long rb), .second, .unset, .unset] [(.int pb), (.int p1)])) _
        refine XS.icmpNo X6.here hx rfl (hb hby at_70) rfl (tlt j8).2.1 ?_
        show Steps p.tables e below (T6.setTop (mkF m 73 #[.val (.int p1), .val (.int q1), .val (.int p2), .val (.int q2), .val (.int sel), .val (.int A), .val (.int B), .val (.int pb), .val (.long ra), .second, .val (.long rb), .second, .unset, .unset] [])) _
        refine XS.iconst X6.here hx rfl (hb hby at_73) ?_
        show Steps p.tables e below (T6.setTop (mkF m 74 #[.val (.int p1), .val (.int q1), .val (.int p2), .val (.int q2), .val (.int sel), .val (.int A), .val (.int B), .val (.int pb), .val (.long ra), .second, .val (.long rb), .second, .unset, .unset] [(.int (-1 : Int32))])) _
        refine XS.istore X6.here hx rfl (hb hby at_74) rfl (l' := #[.val (.int p1), .val (.int q1), .val (.int p2), .val (.int q2), .val (.int sel), .val (.int A), .val (.int B), .val (.int pb), .val (.long ra), .second, .val (.long rb), .second, .val (.int (-1 : Int32)), .unset]) rfl ?_
        show Steps p.tables e below (T6.setTop (mkF m 76 #[.val (.int p1), .val (.int q1), .val (.int p2), .val (.int q2), .val (.int sel), .val (.int A), .val (.int B), .val (.int pb), .val (.long ra), .second, .val (.long rb), .second, .val (.int (-1 : Int32)), .unset] [])) _
        refine XS.goto X6.here hx rfl (pc0 := 76) (pc' := 108) rfl (hb hby at_76) (by decide) (by decide) ?_
        show Steps p.tables e below (T6.setTop (mkF m 108 #[.val (.int p1), .val (.int q1), .val (.int p2), .val (.int q2), .val (.int sel), .val (.int A), .val (.int B), .val (.int pb), .val (.long ra), .second, .val (.long rb), .second, .val (.int (-1 : Int32)), .unset] [])) _
        exact k
      · by_cases j9 : A < B
        · refine ⟨((1 : Int32)), ((if_neg j7).trans ((if_neg j8).trans (if_pos j9))).symm, fun t k => ?_⟩
          show Steps p.tables e below (T6.setTop (mkF m 55 #[.val (.int p1), .val (.int q1), .val (.int p2), .val (.int q2), .val (.int sel), .val (.int A), .val (.int B), .val (.int pb), .val (.long ra), .second, .val (.long rb), .second, .unset, .unset] [])) _
          refine XS.iloadN X6.here hx rfl (hb hby at_55) rfl ?_
          show Steps p.tables e below (T6.setTop (mkF m 56 #[.val (.int p1), .val (.int q1), .val (.int p2), .val (.int q2), .val (.int sel), .val (.int A), .val (.int B), .val (.int pb), .val (.long ra), .second, .val (.long rb), .second, .unset, .unset] [(.int p1)])) _
          refine XS.iload X6.here hx rfl (hb hby at_56) rfl ?_
          show Steps p.tables e below (T6.setTop (mkF m 58 #[.val (.int p1), .val (.int q1), .val (.int p2), .val (.int q2), .val (.int sel), .val (.int A), .val (.int B), .val (.int pb), .val (.long ra), .second, .val (.long rb), .second, .unset, .unset] [(.int pb), (.int p1)])) _
          refine XS.icmpYes X6.here hx rfl (pc0 := 58) (pc' := 67) rfl (hb hby at_58) rfl (flt j7).2.2.2 (by decide) (by decide) ?_
          show Steps p.tables e below (T6.setTop (mkF m 67 #[.val (.int p1), .val (.int q1), .val (.int p2), .val (.int q2), .val (.int sel), .val (.int A), .val (.int B), .val (.int pb), .val (.long ra), .second, .val (.long rb), .second, .unset, .unset] [])) _
          refine XS.iloadN X6.here hx rfl (hb hby at_67) rfl ?_
          show Steps p.tables e below (T6.setTop (mkF m 68 #[.val (.int p1), .val (.int q1), .val (.int p2), .val (.int q2), .val (.int sel), .val (.int A), .val (.int B), .val (.int pb), .val (.long ra), .second, .val (.long rb), .second, .unset, .unset] [(.int p1)])) _
          refine XS.iload X6.here hx rfl (hb hby at_68) rfl ?_
          show Steps p.tables e below (T6.setTop (mkF m 70 #[.val (.int p1), .val (.int q1), .val (.int p2), .val (.int q2), .val (.int sel), .val (.int A), .val (.int B), .val (.int pb), .val (.long ra), .second, .val (.long rb), .second, .unset, .unset] [(.int pb), (.int p1)])) _
          refine XS.icmpYes X6.here hx rfl (pc0 := 70) (pc' := 79) rfl (hb hby at_70) rfl (flt j8).2.1 (by decide) (by decide) ?_
          show Steps p.tables e below (T6.setTop (mkF m 79 #[.val (.int p1), .val (.int q1), .val (.int p2), .val (.int q2), .val (.int sel), .val (.int A), .val (.int B), .val (.int pb), .val (.long ra), .second, .val (.long rb), .second, .unset, .unset] [])) _
          refine XS.iload X6.here hx rfl (hb hby at_79) rfl ?_
          show Steps p.tables e below (T6.setTop (mkF m 81 #[.val (.int p1), .val (.int q1), .val (.int p2), .val (.int q2), .val (.int sel), .val (.int A), .val (.int B), .val (.int pb), .val (.long ra), .second, .val (.long rb), .second, .unset, .unset] [(.int A)])) _
          refine XS.iload X6.here hx rfl (hb hby at_81) rfl ?_
          show Steps p.tables e below (T6.setTop (mkF m 83 #[.val (.int p1), .val (.int q1), .val (.int p2), .val (.int q2), .val (.int sel), .val (.int A), .val (.int B), .val (.int pb), .val (.long ra), .second, .val (.long rb), .second, .unset, .unset] [(.int B), (.int A)])) _
          refine XS.icmpNo X6.here hx rfl (hb hby at_83) rfl (tlt j9).2.1 ?_
          show Steps p.tables e below (T6.setTop (mkF m 86 #[.val (.int p1), .val (.int q1), .val (.int p2), .val (.int q2), .val (.int sel), .val (.int A), .val (.int B), .val (.int pb), .val (.long ra), .second, .val (.long rb), .second, .unset, .unset] [])) _
          refine XS.iconst X6.here hx rfl (hb hby at_86) ?_
          show Steps p.tables e below (T6.setTop (mkF m 87 #[.val (.int p1), .val (.int q1), .val (.int p2), .val (.int q2), .val (.int sel), .val (.int A), .val (.int B), .val (.int pb), .val (.long ra), .second, .val (.long rb), .second, .unset, .unset] [(.int (1 : Int32))])) _
          refine XS.istore X6.here hx rfl (hb hby at_87) rfl (l' := #[.val (.int p1), .val (.int q1), .val (.int p2), .val (.int q2), .val (.int sel), .val (.int A), .val (.int B), .val (.int pb), .val (.long ra), .second, .val (.long rb), .second, .val (.int (1 : Int32)), .unset]) rfl ?_
          show Steps p.tables e below (T6.setTop (mkF m 89 #[.val (.int p1), .val (.int q1), .val (.int p2), .val (.int q2), .val (.int sel), .val (.int A), .val (.int B), .val (.int pb), .val (.long ra), .second, .val (.long rb), .second, .val (.int (1 : Int32)), .unset] [])) _
          refine XS.goto X6.here hx rfl (pc0 := 89) (pc' := 108) rfl (hb hby at_89) (by decide) (by decide) ?_
          show Steps p.tables e below (T6.setTop (mkF m 108 #[.val (.int p1), .val (.int q1), .val (.int p2), .val (.int q2), .val (.int sel), .val (.int A), .val (.int B), .val (.int pb), .val (.long ra), .second, .val (.long rb), .second, .val (.int (1 : Int32)), .unset] [])) _
          exact k
        · by_cases j10 : B < A
          · refine ⟨((-1 : Int32)), ((if_neg j7).trans ((if_neg j8).trans ((if_neg j9).trans (if_pos j10)))).symm, fun t k => ?_⟩
            show Steps p.tables e below (T6.setTop (mkF m 55 #[.val (.int p1), .val (.int q1), .val (.int p2), .val (.int q2), .val (.int sel), .val (.int A), .val (.int B), .val (.int pb), .val (.long ra), .second, .val (.long rb), .second, .unset, .unset] [])) _
            refine XS.iloadN X6.here hx rfl (hb hby at_55) rfl ?_
            show Steps p.tables e below (T6.setTop (mkF m 56 #[.val (.int p1), .val (.int q1), .val (.int p2), .val (.int q2), .val (.int sel), .val (.int A), .val (.int B), .val (.int pb), .val (.long ra), .second, .val (.long rb), .second, .unset, .unset] [(.int p1)])) _
            refine XS.iload X6.here hx rfl (hb hby at_56) rfl ?_
            show Steps p.tables e below (T6.setTop (mkF m 58 #[.val (.int p1), .val (.int q1), .val (.int p2), .val (.int q2), .val (.int sel), .val (.int A), .val (.int B), .val (.int pb), .val (.long ra), .second, .val (.long rb), .second, .unset, .unset] [(.int pb), (.int p1)])) _
            refine XS.icmpYes X6.here hx rfl (pc0 := 58) (pc' := 67) rfl (hb hby at_58) rfl (flt j7).2.2.2 (by decide) (by decide) ?_
            show Steps p.tables e below (T6.setTop (mkF m 67 #[.val (.int p1), .val (.int q1), .val (.int p2), .val (.int q2), .val (.int sel), .val (.int A), .val (.int B), .val (.int pb), .val (.long ra), .second, .val (.long rb), .second, .unset, .unset] [])) _
            refine XS.iloadN X6.here hx rfl (hb hby at_67) rfl ?_
            show Steps p.tables e below (T6.setTop (mkF m 68 #[.val (.int p1), .val (.int q1), .val (.int p2), .val (.int q2), .val (.int sel), .val (.int A), .val (.int B), .val (.int pb), .val (.long ra), .second, .val (.long rb), .second, .unset, .unset] [(.int p1)])) _
            refine XS.iload X6.here hx rfl (hb hby at_68) rfl ?_
            show Steps p.tables e below (T6.setTop (mkF m 70 #[.val (.int p1), .val (.int q1), .val (.int p2), .val (.int q2), .val (.int sel), .val (.int A), .val (.int B), .val (.int pb), .val (.long ra), .second, .val (.long rb), .second, .unset, .unset] [(.int pb), (.int p1)])) _
            refine XS.icmpYes X6.here hx rfl (pc0 := 70) (pc' := 79) rfl (hb hby at_70) rfl (flt j8).2.1 (by decide) (by decide) ?_
            show Steps p.tables e below (T6.setTop (mkF m 79 #[.val (.int p1), .val (.int q1), .val (.int p2), .val (.int q2), .val (.int sel), .val (.int A), .val (.int B), .val (.int pb), .val (.long ra), .second, .val (.long rb), .second, .unset, .unset] [])) _
            refine XS.iload X6.here hx rfl (hb hby at_79) rfl ?_
            show Steps p.tables e below (T6.setTop (mkF m 81 #[.val (.int p1), .val (.int q1), .val (.int p2), .val (.int q2), .val (.int sel), .val (.int A), .val (.int B), .val (.int pb), .val (.long ra), .second, .val (.long rb), .second, .unset, .unset] [(.int A)])) _
            refine XS.iload X6.here hx rfl (hb hby at_81) rfl ?_
            show Steps p.tables e below (T6.setTop (mkF m 83 #[.val (.int p1), .val (.int q1), .val (.int p2), .val (.int q2), .val (.int sel), .val (.int A), .val (.int B), .val (.int pb), .val (.long ra), .second, .val (.long rb), .second, .unset, .unset] [(.int B), (.int A)])) _
            refine XS.icmpYes X6.here hx rfl (pc0 := 83) (pc' := 92) rfl (hb hby at_83) rfl (flt j9).2.1 (by decide) (by decide) ?_
            show Steps p.tables e below (T6.setTop (mkF m 92 #[.val (.int p1), .val (.int q1), .val (.int p2), .val (.int q2), .val (.int sel), .val (.int A), .val (.int B), .val (.int pb), .val (.long ra), .second, .val (.long rb), .second, .unset, .unset] [])) _
            refine XS.iload X6.here hx rfl (hb hby at_92) rfl ?_
            show Steps p.tables e below (T6.setTop (mkF m 94 #[.val (.int p1), .val (.int q1), .val (.int p2), .val (.int q2), .val (.int sel), .val (.int A), .val (.int B), .val (.int pb), .val (.long ra), .second, .val (.long rb), .second, .unset, .unset] [(.int A)])) _
            refine XS.iload X6.here hx rfl (hb hby at_94) rfl ?_
            show Steps p.tables e below (T6.setTop (mkF m 96 #[.val (.int p1), .val (.int q1), .val (.int p2), .val (.int q2), .val (.int sel), .val (.int A), .val (.int B), .val (.int pb), .val (.long ra), .second, .val (.long rb), .second, .unset, .unset] [(.int B), (.int A)])) _
            refine XS.icmpNo X6.here hx rfl (hb hby at_96) rfl (tlt j10).2.2.2 ?_
            show Steps p.tables e below (T6.setTop (mkF m 99 #[.val (.int p1), .val (.int q1), .val (.int p2), .val (.int q2), .val (.int sel), .val (.int A), .val (.int B), .val (.int pb), .val (.long ra), .second, .val (.long rb), .second, .unset, .unset] [])) _
            refine XS.iconst X6.here hx rfl (hb hby at_99) ?_
            show Steps p.tables e below (T6.setTop (mkF m 100 #[.val (.int p1), .val (.int q1), .val (.int p2), .val (.int q2), .val (.int sel), .val (.int A), .val (.int B), .val (.int pb), .val (.long ra), .second, .val (.long rb), .second, .unset, .unset] [(.int (-1 : Int32))])) _
            refine XS.istore X6.here hx rfl (hb hby at_100) rfl (l' := #[.val (.int p1), .val (.int q1), .val (.int p2), .val (.int q2), .val (.int sel), .val (.int A), .val (.int B), .val (.int pb), .val (.long ra), .second, .val (.long rb), .second, .val (.int (-1 : Int32)), .unset]) rfl ?_
            show Steps p.tables e below (T6.setTop (mkF m 102 #[.val (.int p1), .val (.int q1), .val (.int p2), .val (.int q2), .val (.int sel), .val (.int A), .val (.int B), .val (.int pb), .val (.long ra), .second, .val (.long rb), .second, .val (.int (-1 : Int32)), .unset] [])) _
            refine XS.goto X6.here hx rfl (pc0 := 102) (pc' := 108) rfl (hb hby at_102) (by decide) (by decide) ?_
            show Steps p.tables e below (T6.setTop (mkF m 108 #[.val (.int p1), .val (.int q1), .val (.int p2), .val (.int q2), .val (.int sel), .val (.int A), .val (.int B), .val (.int pb), .val (.long ra), .second, .val (.long rb), .second, .val (.int (-1 : Int32)), .unset] [])) _
            exact k
          · refine ⟨((0 : Int32)), ((if_neg j7).trans ((if_neg j8).trans ((if_neg j9).trans (if_neg j10)))).symm, fun t k => ?_⟩
            show Steps p.tables e below (T6.setTop (mkF m 55 #[.val (.int p1), .val (.int q1), .val (.int p2), .val (.int q2), .val (.int sel), .val (.int A), .val (.int B), .val (.int pb), .val (.long ra), .second, .val (.long rb), .second, .unset, .unset] [])) _
            refine XS.iloadN X6.here hx rfl (hb hby at_55) rfl ?_
            show Steps p.tables e below (T6.setTop (mkF m 56 #[.val (.int p1), .val (.int q1), .val (.int p2), .val (.int q2), .val (.int sel), .val (.int A), .val (.int B), .val (.int pb), .val (.long ra), .second, .val (.long rb), .second, .unset, .unset] [(.int p1)])) _
            refine XS.iload X6.here hx rfl (hb hby at_56) rfl ?_
            show Steps p.tables e below (T6.setTop (mkF m 58 #[.val (.int p1), .val (.int q1), .val (.int p2), .val (.int q2), .val (.int sel), .val (.int A), .val (.int B), .val (.int pb), .val (.long ra), .second, .val (.long rb), .second, .unset, .unset] [(.int pb), (.int p1)])) _
            refine XS.icmpYes X6.here hx rfl (pc0 := 58) (pc' := 67) rfl (hb hby at_58) rfl (flt j7).2.2.2 (by decide) (by decide) ?_
            show Steps p.tables e below (T6.setTop (mkF m 67 #[.val (.int p1), .val (.int q1), .val (.int p2), .val (.int q2), .val (.int sel), .val (.int A), .val (.int B), .val (.int pb), .val (.long ra), .second, .val (.long rb), .second, .unset, .unset] [])) _
            refine XS.iloadN X6.here hx rfl (hb hby at_67) rfl ?_
            show Steps p.tables e below (T6.setTop (mkF m 68 #[.val (.int p1), .val (.int q1), .val (.int p2), .val (.int q2), .val (.int sel), .val (.int A), .val (.int B), .val (.int pb), .val (.long ra), .second, .val (.long rb), .second, .unset, .unset] [(.int p1)])) _
            refine XS.iload X6.here hx rfl (hb hby at_68) rfl ?_
            show Steps p.tables e below (T6.setTop (mkF m 70 #[.val (.int p1), .val (.int q1), .val (.int p2), .val (.int q2), .val (.int sel), .val (.int A), .val (.int B), .val (.int pb), .val (.long ra), .second, .val (.long rb), .second, .unset, .unset] [(.int pb), (.int p1)])) _
            refine XS.icmpYes X6.here hx rfl (pc0 := 70) (pc' := 79) rfl (hb hby at_70) rfl (flt j8).2.1 (by decide) (by decide) ?_
            show Steps p.tables e below (T6.setTop (mkF m 79 #[.val (.int p1), .val (.int q1), .val (.int p2), .val (.int q2), .val (.int sel), .val (.int A), .val (.int B), .val (.int pb), .val (.long ra), .second, .val (.long rb), .second, .unset, .unset] [])) _
            refine XS.iload X6.here hx rfl (hb hby at_79) rfl ?_
            show Steps p.tables e below (T6.setTop (mkF m 81 #[.val (.int p1), .val (.int q1), .val (.int p2), .val (.int q2), .val (.int sel), .val (.int A), .val (.int B), .val (.int pb), .val (.long ra), .second, .val (.long rb), .second, .unset, .unset] [(.int A)])) _
            refine XS.iload X6.here hx rfl (hb hby at_81) rfl ?_
            show Steps p.tables e below (T6.setTop (mkF m 83 #[.val (.int p1), .val (.int q1), .val (.int p2), .val (.int q2), .val (.int sel), .val (.int A), .val (.int B), .val (.int pb), .val (.long ra), .second, .val (.long rb), .second, .unset, .unset] [(.int B), (.int A)])) _
            refine XS.icmpYes X6.here hx rfl (pc0 := 83) (pc' := 92) rfl (hb hby at_83) rfl (flt j9).2.1 (by decide) (by decide) ?_
            show Steps p.tables e below (T6.setTop (mkF m 92 #[.val (.int p1), .val (.int q1), .val (.int p2), .val (.int q2), .val (.int sel), .val (.int A), .val (.int B), .val (.int pb), .val (.long ra), .second, .val (.long rb), .second, .unset, .unset] [])) _
            refine XS.iload X6.here hx rfl (hb hby at_92) rfl ?_
            show Steps p.tables e below (T6.setTop (mkF m 94 #[.val (.int p1), .val (.int q1), .val (.int p2), .val (.int q2), .val (.int sel), .val (.int A), .val (.int B), .val (.int pb), .val (.long ra), .second, .val (.long rb), .second, .unset, .unset] [(.int A)])) _
            refine XS.iload X6.here hx rfl (hb hby at_94) rfl ?_
            show Steps p.tables e below (T6.setTop (mkF m 96 #[.val (.int p1), .val (.int q1), .val (.int p2), .val (.int q2), .val (.int sel), .val (.int A), .val (.int B), .val (.int pb), .val (.long ra), .second, .val (.long rb), .second, .unset, .unset] [(.int B), (.int A)])) _
            refine XS.icmpYes X6.here hx rfl (pc0 := 96) (pc' := 105) rfl (hb hby at_96) rfl (flt j10).2.2.2 (by decide) (by decide) ?_
            show Steps p.tables e below (T6.setTop (mkF m 105 #[.val (.int p1), .val (.int q1), .val (.int p2), .val (.int q2), .val (.int sel), .val (.int A), .val (.int B), .val (.int pb), .val (.long ra), .second, .val (.long rb), .second, .unset, .unset] [])) _
            refine XS.iconst X6.here hx rfl (hb hby at_105) ?_
            show Steps p.tables e below (T6.setTop (mkF m 106 #[.val (.int p1), .val (.int q1), .val (.int p2), .val (.int q2), .val (.int sel), .val (.int A), .val (.int B), .val (.int pb), .val (.long ra), .second, .val (.long rb), .second, .unset, .unset] [(.int (0 : Int32))])) _
            refine XS.istore X6.here hx rfl (hb hby at_106) rfl (l' := #[.val (.int p1), .val (.int q1), .val (.int p2), .val (.int q2), .val (.int sel), .val (.int A), .val (.int B), .val (.int pb), .val (.long ra), .second, .val (.long rb), .second, .val (.int (0 : Int32)), .unset]) rfl ?_
            show Steps p.tables e below (T6.setTop (mkF m 108 #[.val (.int p1), .val (.int q1), .val (.int p2), .val (.int q2), .val (.int sel), .val (.int A), .val (.int B), .val (.int pb), .val (.long ra), .second, .val (.long rb), .second, .val (.int (0 : Int32)), .unset] [])) _
            exact k
  refine own_by (sj11) ?_
  show own_Go p.tables e below (T6.setTop (mkF m 108 #[.val (.int p1), .val (.int q1), .val (.int p2), .val (.int q2), .val (.int sel), .val (.int A), .val (.int B), .val (.int pb), .val (.long ra), .second, .val (.long rb), .second, .val (.int ex), .unset] [])) _
  obtain ⟨ac, hac, sj14⟩ : ∃ (ac : Int32), ac = (if rb < ra then (1 : Int32) else (if ra < rb then (-1 : Int32) else (0 : Int32))) ∧ ∀ t, Steps p.tables e below (T6.setTop (mkF m 133 #[.val (.int p1), .val (.int q1), .val (.int p2), .val (.int q2), .val (.int sel), .val (.int A), .val (.int B), .val (.int pb), .val (.long ra), .second, .val (.long rb), .second, .val (.int ex), .unset] [(.int ac)])) t → Steps p.tables e below (T6.setTop (mkF m 108 #[.val (.int p1), .val (.int q1), .val (.int p2), .val (.int q2), .val (.int sel), .val (.int A), .val (.int B), .val (.int pb), .val (.long ra), .second, .val (.long rb), .second, .val (.int ex), .unset] [])) t := by
    by_cases j12 : rb < ra
    · refine ⟨((1 : Int32)), (if_pos j12).symm, fun t k => ?_⟩
      show Steps p.tables e below (T6.setTop (mkF m 108 #[.val (.int p1), .val (.int q1), .val (.int p2), .val (.int q2), .val (.int sel), .val (.int A), .val (.int B), .val (.int pb), .val (.long ra), .second, .val (.long rb), .second, .val (.int ex), .unset] [])) _
      refine XS.lload X6.here hx rfl (hb hby at_108) rfl ?_
      show Steps p.tables e below (T6.setTop (mkF m 110 #[.val (.int p1), .val (.int q1), .val (.int p2), .val (.int q2), .val (.int sel), .val (.int A), .val (.int B), .val (.int pb), .val (.long ra), .second, .val (.long rb), .second, .val (.int ex), .unset] [(.long ra)])) _
      refine XS.lload X6.here hx rfl (hb hby at_110) rfl ?_
      show Steps p.tables e below (T6.setTop (mkF m 112 #[.val (.int p1), .val (.int q1), .val (.int p2), .val (.int q2), .val (.int sel), .val (.int A), .val (.int B), .val (.int pb), .val (.long ra), .second, .val (.long rb), .second, .val (.int ex), .unset] [(.long rb), (.long ra)])) _
      refine XS.lcmp X6.here hx rfl (hb hby at_112) rfl ?_
      show Steps p.tables e below (T6.setTop (mkF m 113 #[.val (.int p1), .val (.int q1), .val (.int p2), .val (.int q2), .val (.int sel), .val (.int A), .val (.int B), .val (.int pb), .val (.long ra), .second, .val (.long rb), .second, .val (.int ex), .unset] [(.int (lcmpW ra rb))])) _
      refine XS.ifNo X6.here hx rfl (hb hby at_113) rfl ((if0 _ _).trans (tlt ((lw_gt ra rb).mpr j12)).2.2.2) ?_
      show Steps p.tables e below (T6.setTop (mkF m 116 #[.val (.int p1), .val (.int q1), .val (.int p2), .val (.int q2), .val (.int sel), .val (.int A), .val (.int B), .val (.int pb), .val (.long ra), .second, .val (.long rb), .second, .val (.int ex), .unset] [])) _
      refine XS.iconst X6.here hx rfl (hb hby at_116) ?_
      show Steps p.tables e below (T6.setTop (mkF m 117 #[.val (.int p1), .val (.int q1), .val (.int p2), .val (.int q2), .val (.int sel), .val (.int A), .val (.int B), .val (.int pb), .val (.long ra), .second, .val (.long rb), .second, .val (.int ex), .unset] [(.int (1 : Int32))])) _
      refine XS.goto X6.here hx rfl (pc0 := 117) (pc' := 133) rfl (hb hby at_117) (by decide) (by decide) ?_
      show Steps p.tables e below (T6.setTop (mkF m 133 #[.val (.int p1), .val (.int q1), .val (.int p2), .val (.int q2), .val (.int sel), .val (.int A), .val (.int B), .val (.int pb), .val (.long ra), .second, .val (.long rb), .second, .val (.int ex), .unset] [(.int (1 : Int32))])) _
      exact k
    · by_cases j13 : ra < rb
      · refine ⟨((-1 : Int32)), ((if_neg j12).trans (if_pos j13)).symm, fun t k => ?_⟩
        show Steps p.tables e below (T6.setTop (mkF m 108 #[.val (.int p1), .val (.int q1), .val (.int p2), .val (.int q2), .val (.int sel), .val (.int A), .val (.int B), .val (.int pb), .val (.long ra), .second, .val (.long rb), .second, .val (.int ex), .unset] [])) _
        refine XS.lload X6.here hx rfl (hb hby at_108) rfl ?_
        show Steps p.tables e below (T6.setTop (mkF m 110 #[.val (.int p1), .val (.int q1), .val (.int p2), .val (.int q2), .val (.int sel), .val (.int A), .val (.int B), .val (.int pb), .val (.long ra), .second, .val (.long rb), .second, .val (.int ex), .unset] [(.long ra)])) _
        refine XS.lload X6.here hx rfl (hb hby at_110) rfl ?_
        show Steps p.tables e below (T6.setTop (mkF m 112 #[.val (.int p1), .val (.int q1), .val (.int p2), .val (.int q2), .val (.int sel), .val (.int A), .val (.int B), .val (.int pb), .val (.long ra), .second, .val (.long rb), .second, .val (.int ex), .unset] [(.long rb), (.long ra)])) _
        refine XS.lcmp X6.here hx rfl (hb hby at_112) rfl ?_
        show Steps p.tables e below (T6.setTop (mkF m 113 #[.val (.int p1), .val (.int q1), .val (.int p2), .val (.int q2), .val (.int sel), .val (.int A), .val (.int B), .val (.int pb), .val (.long ra), .second, .val (.long rb), .second, .val (.int ex), .unset] [(.int (lcmpW ra rb))])) _
        refine XS.ifYes X6.here hx rfl (pc0 := 113) (pc' := 120) rfl (hb hby at_113) rfl ((if0 _ _).trans (flt (fun q => j12 ((lw_gt ra rb).mp q))).2.2.2) (by decide) (by decide) ?_
        show Steps p.tables e below (T6.setTop (mkF m 120 #[.val (.int p1), .val (.int q1), .val (.int p2), .val (.int q2), .val (.int sel), .val (.int A), .val (.int B), .val (.int pb), .val (.long ra), .second, .val (.long rb), .second, .val (.int ex), .unset] [])) _
        refine XS.lload X6.here hx rfl (hb hby at_120) rfl ?_
        show Steps p.tables e below (T6.setTop (mkF m 122 #[.val (.int p1), .val (.int q1), .val (.int p2), .val (.int q2), .val (.int sel), .val (.int A), .val (.int B), .val (.int pb), .val (.long ra), .second, .val (.long rb), .second, .val (.int ex), .unset] [(.long ra)])) _
        refine XS.lload X6.here hx rfl (hb hby at_122) rfl ?_
        show Steps p.tables e below (T6.setTop (mkF m 124 #[.val (.int p1), .val (.int q1), .val (.int p2), .val (.int q2), .val (.int sel), .val (.int A), .val (.int B), .val (.int pb), .val (.long ra), .second, .val (.long rb), .second, .val (.int ex), .unset] [(.long rb), (.long ra)])) _
        refine XS.lcmp X6.here hx rfl (hb hby at_124) rfl ?_
        show Steps p.tables e below (T6.setTop (mkF m 125 #[.val (.int p1), .val (.int q1), .val (.int p2), .val (.int q2), .val (.int sel), .val (.int A), .val (.int B), .val (.int pb), .val (.long ra), .second, .val (.long rb), .second, .val (.int ex), .unset] [(.int (lcmpW ra rb))])) _
        refine XS.ifNo X6.here hx rfl (hb hby at_125) rfl ((if0 _ _).trans (tlt ((lw_lt ra rb).mpr j13)).2.1) ?_
        show Steps p.tables e below (T6.setTop (mkF m 128 #[.val (.int p1), .val (.int q1), .val (.int p2), .val (.int q2), .val (.int sel), .val (.int A), .val (.int B), .val (.int pb), .val (.long ra), .second, .val (.long rb), .second, .val (.int ex), .unset] [])) _
        refine XS.iconst X6.here hx rfl (hb hby at_128) ?_
        show Steps p.tables e below (T6.setTop (mkF m 129 #[.val (.int p1), .val (.int q1), .val (.int p2), .val (.int q2), .val (.int sel), .val (.int A), .val (.int B), .val (.int pb), .val (.long ra), .second, .val (.long rb), .second, .val (.int ex), .unset] [(.int (-1 : Int32))])) _
        refine XS.goto X6.here hx rfl (pc0 := 129) (pc' := 133) rfl (hb hby at_129) (by decide) (by decide) ?_
        show Steps p.tables e below (T6.setTop (mkF m 133 #[.val (.int p1), .val (.int q1), .val (.int p2), .val (.int q2), .val (.int sel), .val (.int A), .val (.int B), .val (.int pb), .val (.long ra), .second, .val (.long rb), .second, .val (.int ex), .unset] [(.int (-1 : Int32))])) _
        exact k
      · refine ⟨((0 : Int32)), ((if_neg j12).trans (if_neg j13)).symm, fun t k => ?_⟩
        show Steps p.tables e below (T6.setTop (mkF m 108 #[.val (.int p1), .val (.int q1), .val (.int p2), .val (.int q2), .val (.int sel), .val (.int A), .val (.int B), .val (.int pb), .val (.long ra), .second, .val (.long rb), .second, .val (.int ex), .unset] [])) _
        refine XS.lload X6.here hx rfl (hb hby at_108) rfl ?_
        show Steps p.tables e below (T6.setTop (mkF m 110 #[.val (.int p1), .val (.int q1), .val (.int p2), .val (.int q2), .val (.int sel), .val (.int A), .val (.int B), .val (.int pb), .val (.long ra), .second, .val (.long rb), .second, .val (.int ex), .unset] [(.long ra)])) _
        refine XS.lload X6.here hx rfl (hb hby at_110) rfl ?_
        show Steps p.tables e below (T6.setTop (mkF m 112 #[.val (.int p1), .val (.int q1), .val (.int p2), .val (.int q2), .val (.int sel), .val (.int A), .val (.int B), .val (.int pb), .val (.long ra), .second, .val (.long rb), .second, .val (.int ex), .unset] [(.long rb), (.long ra)])) _
        refine XS.lcmp X6.here hx rfl (hb hby at_112) rfl ?_
        show Steps p.tables e below (T6.setTop (mkF m 113 #[.val (.int p1), .val (.int q1), .val (.int p2), .val (.int q2), .val (.int sel), .val (.int A), .val (.int B), .val (.int pb), .val (.long ra), .second, .val (.long rb), .second, .val (.int ex), .unset] [(.int (lcmpW ra rb))])) _
        refine XS.ifYes X6.here hx rfl (pc0 := 113) (pc' := 120) rfl (hb hby at_113) rfl ((if0 _ _).trans (flt (fun q => j12 ((lw_gt ra rb).mp q))).2.2.2) (by decide) (by decide) ?_
        show Steps p.tables e below (T6.setTop (mkF m 120 #[.val (.int p1), .val (.int q1), .val (.int p2), .val (.int q2), .val (.int sel), .val (.int A), .val (.int B), .val (.int pb), .val (.long ra), .second, .val (.long rb), .second, .val (.int ex), .unset] [])) _
        refine XS.lload X6.here hx rfl (hb hby at_120) rfl ?_
        show Steps p.tables e below (T6.setTop (mkF m 122 #[.val (.int p1), .val (.int q1), .val (.int p2), .val (.int q2), .val (.int sel), .val (.int A), .val (.int B), .val (.int pb), .val (.long ra), .second, .val (.long rb), .second, .val (.int ex), .unset] [(.long ra)])) _
        refine XS.lload X6.here hx rfl (hb hby at_122) rfl ?_
        show Steps p.tables e below (T6.setTop (mkF m 124 #[.val (.int p1), .val (.int q1), .val (.int p2), .val (.int q2), .val (.int sel), .val (.int A), .val (.int B), .val (.int pb), .val (.long ra), .second, .val (.long rb), .second, .val (.int ex), .unset] [(.long rb), (.long ra)])) _
        refine XS.lcmp X6.here hx rfl (hb hby at_124) rfl ?_
        show Steps p.tables e below (T6.setTop (mkF m 125 #[.val (.int p1), .val (.int q1), .val (.int p2), .val (.int q2), .val (.int sel), .val (.int A), .val (.int B), .val (.int pb), .val (.long ra), .second, .val (.long rb), .second, .val (.int ex), .unset] [(.int (lcmpW ra rb))])) _
        refine XS.ifYes X6.here hx rfl (pc0 := 125) (pc' := 132) rfl (hb hby at_125) rfl ((if0 _ _).trans (flt (fun q => j13 ((lw_lt ra rb).mp q))).2.1) (by decide) (by decide) ?_
        show Steps p.tables e below (T6.setTop (mkF m 132 #[.val (.int p1), .val (.int q1), .val (.int p2), .val (.int q2), .val (.int sel), .val (.int A), .val (.int B), .val (.int pb), .val (.long ra), .second, .val (.long rb), .second, .val (.int ex), .unset] [])) _
        refine XS.iconst X6.here hx rfl (hb hby at_132) ?_
        show Steps p.tables e below (T6.setTop (mkF m 133 #[.val (.int p1), .val (.int q1), .val (.int p2), .val (.int q2), .val (.int sel), .val (.int A), .val (.int B), .val (.int pb), .val (.long ra), .second, .val (.long rb), .second, .val (.int ex), .unset] [(.int (0 : Int32))])) _
        exact k
  refine own_by (sj14) ?_
  show own_Go p.tables e below (T6.setTop (mkF m 133 #[.val (.int p1), .val (.int q1), .val (.int p2), .val (.int q2), .val (.int sel), .val (.int A), .val (.int B), .val (.int pb), .val (.long ra), .second, .val (.long rb), .second, .val (.int ex), .unset] [(.int ac)])) _
  have eq : ex = ac := own_main hA hB hra hrb hex hac
  refine own_by (fun t k => XS.istore X6.here hx rfl (hb hby at_133) rfl (l' := #[.val (.int p1), .val (.int q1), .val (.int p2), .val (.int q2), .val (.int sel), .val (.int A), .val (.int B), .val (.int pb), .val (.long ra), .second, .val (.long rb), .second, .val (.int ex), .val (.int ac)]) rfl k) ?_
  show own_Go p.tables e below (T6.setTop (mkF m 135 #[.val (.int p1), .val (.int q1), .val (.int p2), .val (.int q2), .val (.int sel), .val (.int A), .val (.int B), .val (.int pb), .val (.long ra), .second, .val (.long rb), .second, .val (.int ex), .val (.int ac)] [])) _
  refine own_by (fun t k => XS.iload X6.here hx rfl (hb hby at_135) rfl k) ?_
  show own_Go p.tables e below (T6.setTop (mkF m 137 #[.val (.int p1), .val (.int q1), .val (.int p2), .val (.int q2), .val (.int sel), .val (.int A), .val (.int B), .val (.int pb), .val (.long ra), .second, .val (.long rb), .second, .val (.int ex), .val (.int ac)] [(.int ex)])) _
  refine own_by (fun t k => XS.iload X6.here hx rfl (hb hby at_137) rfl k) ?_
  show own_Go p.tables e below (T6.setTop (mkF m 139 #[.val (.int p1), .val (.int q1), .val (.int p2), .val (.int q2), .val (.int sel), .val (.int A), .val (.int B), .val (.int pb), .val (.long ra), .second, .val (.long rb), .second, .val (.int ex), .val (.int ac)] [(.int ac), (.int ex)])) _
  refine own_by (fun t k => XS.icmpNo X6.here hx rfl (hb hby at_139) rfl (teq eq).2 k) ?_
  show own_Go p.tables e below (T6.setTop (mkF m 142 #[.val (.int p1), .val (.int q1), .val (.int p2), .val (.int q2), .val (.int sel), .val (.int A), .val (.int B), .val (.int pb), .val (.long ra), .second, .val (.long rb), .second, .val (.int ex), .val (.int ac)] [])) _
  refine own_by (fun t k => XS.iconst X6.here hx rfl (hb hby at_142) k) ?_
  show own_Go p.tables e below (T6.setTop (mkF m 143 #[.val (.int p1), .val (.int q1), .val (.int p2), .val (.int q2), .val (.int sel), .val (.int A), .val (.int B), .val (.int pb), .val (.long ra), .second, .val (.long rb), .second, .val (.int ex), .val (.int ac)] [(.int (1 : Int32))])) _
  refine own_by (fun t k => XS.goto X6.here hx rfl (pc0 := 143) (pc' := 147) rfl (hb hby at_143) (by decide) (by decide) k) ?_
  show own_Go p.tables e below (T6.setTop (mkF m 147 #[.val (.int p1), .val (.int q1), .val (.int p2), .val (.int q2), .val (.int sel), .val (.int A), .val (.int B), .val (.int pb), .val (.long ra), .second, .val (.long rb), .second, .val (.int ex), .val (.int ac)] [(.int (1 : Int32))])) _
  exact own_retN X6 hx Bd.notSynchronized (t := .boolean) Bd.returns (by simp) (by decide) (hb hby at_147) (by (try rw [eh6]); exact ⟨rfl, N6⟩) (by decide) (by decide)
set_option maxRecDepth 65536 in
set_option maxHeartbeats 40000000 in
theorem comes_1 {Post : Tables → Env → Array Value → State → Outcome → State → Prop} (hpost : ∀ tb e args s v u, (limb_1_1.after args s (.returned v) u = true ∧ limb_1_2.after args s (.returned v) u = true ∧ True) → FrameEnd s (.returned v) u (Jvm.fieldLocs frame_1_writes args s ++ Jvm.arrayLocs frame_1_arrays args s ++ Jvm.staticLocs frame_1_statics s) 0 0 → Post tb e args s (.returned v) u) :
    ArmFor flags0 classFile x code maxLocals ret World_1 tables_1 room_1 Calls_1 rest_1 Pre_1 Post := by
  intro l hfl _ _ p e ha hc hk s m args below hf hA hF happ hP
  obtain ⟨hcalls, hrest, hpre⟩ := hP
  obtain ⟨-, -, -, hnamed, -, -, -, hat⟩ := (Spec.applies_iff hf).mp happ
  obtain ⟨hg, hn⟩ := and_e (Cond.before_iff.mp (show (Jvm.Cond.and given_1 narrow_1).before args s = true from hpre))
  obtain ⟨hcount, t0⟩ := and_e hg
  obtain ⟨g0, t1⟩ := and_e t0
  obtain ⟨g1, t2⟩ := and_e t1
  obtain ⟨g2, t3⟩ := and_e t2
  obtain ⟨g3, t4⟩ := and_e t3
  obtain ⟨w0, w1, w2, w3, w4, rfl⟩ : ∃ w0 w1 w2 w3 w4 : Value, args = #[w0, w1, w2, w3, w4] := by
    have hs : args.size = 5 := by simpa [Cond.value, given_1] using hcount
    obtain ⟨L⟩ := args
    match L, hs with
    | [w0, w1, w2, w3, w4], _ => exact ⟨w0, w1, w2, w3, w4, rfl⟩
  have hw := fun d (hd : d ∈ tables_1) => atoms_spec (ws := Jvm.Cond.code x code maxLocals ret :: tables_1) hat d (List.mem_cons_of_mem _ hd)
  obtain ⟨i0, ei0⟩ := is_v g0
  obtain rfl : w0 = (.int i0) := Option.some.inj ei0
  obtain ⟨i1, ei1⟩ := is_v g1
  obtain rfl : w1 = (.int i1) := Option.some.inj ei1
  obtain ⟨i2, ei2⟩ := is_v g2
  obtain rfl : w2 = (.int i2) := Option.some.inj ei2
  obtain ⟨i3, ei3⟩ := is_v g3
  obtain rfl : w3 = (.int i3) := Option.some.inj ei3
  obtain ⟨i4, ei4⟩ := is_v t4
  obtain rfl : w4 = (.int i4) := Option.some.inj ei4
  obtain ⟨n, o, h1, h2, h3, _, L, rfl, ⟨rfl, N⟩, hq⟩ := rm_law l s _ hw tables_1 i0 i1 i2 i3 i4 s.heap s.heap.size (Nat.le_refl _) p e ha hc hk s m _ below hf ((Spec.applies_iff_loose hf).mp happ).1 ⟨rfl, State.Warmed39.refl s, rfl⟩ trivial
  refine ⟨n, _, h1, h2, h3, hpost _ _ _ _ _ _ ⟨Cond.after_iff.mpr rfl, Cond.after_iff.mpr (eq_i res_at (Term.int_eval (1)) rfl), trivial⟩ ⟨hq.1, hq.2.1, (hq.2.2.sift fun y hy => Or.inr (N y hy)).mono (by decide) (by decide)⟩⟩
theorem main_1_1 : Claimed_1_1 := comes_1 fun _ _ _ _ _ _ h hF => ⟨h.1, hF⟩
theorem main_1_2 : Claimed_1_2 := comes_1 fun _ _ _ _ _ _ h hF => ⟨h.2.1, hF⟩
end Jvm.Pilot.@@N@@
namespace Jvm.Pilot.@@N@@
open Jvm Jvm.ClassFile Sem Op Lib Jvm.Free Jvm.Stand Jvm.Pilot.@@N@@.Jvm.D
/-! MADE BY PROGRAM (witnessworld.py) out of the Statement's table words and the real class files: 9 classes; the members and pool entries that the words name. The judged class is class 1, her method 1. -/
namespace start1
open Jvm.ClassFile
def u (s : String) : CpInfo := .utf8 (stringToUtf16 s)
/-- a pool by its gaps: so many unusable entries, then the entry; so many at the end -/
def gap : Nat → List CpInfo → List CpInfo
  | 0, r => r
  | n + 1, r => .unusable :: gap n r
def poolList (es : List (Nat × CpInfo)) (last : Nat) : List CpInfo := es.foldr (fun e r => gap e.1 (e.2 :: r)) (gap last [])
def pool (es : List (Nat × CpInfo)) (last : Nat) : Array CpInfo := ⟨poolList es last⟩
def fileOf (pool : Array CpInfo) (this : Nat) (attrs : Array Attribute := #[]) (ms : Array MethodInfo := #[]) (fl : Nat := 33) (sup : Nat := 0) (ifs : Array Nat := #[]) (fds : Array FieldInfo := #[]) : ClassFile where
  minorVersion := 0
  majorVersion := 65
  constantPool := pool
  accessFlags := fl
  thisClass := this
  superClass := sup
  interfaces := ifs
  fields := fds
  methods := ms
  attributes := attrs
def plain (name : String) (sup : Option ClassId) : Class where
  name := name
  kind := .ordinary
  loader := none
  accessFlags := 33
  super := sup
  interfaces := #[]
  cf := none
  fields := #[]
  methods := #[]
  instanceTypes := #[]
  staticTypes := #[]
  resolved := #[]
  callSites := []
  init := .initialized
  statics := none
  mirror := none

def pool0 : Array CpInfo := pool [(5, u "<init>"), (0, u "()V"), (1, .class_ 10), (1, u "java/lang/Object")] 113

def k0m0 : Method := { name := "<init>", desc := "()V", sig := { parameters := [], returnType := none }, accessFlags := 1, code := none }
/-- java/lang/Object -/
def k0 : Class := { plain "java/lang/Object" none with
  accessFlags := 33
  interfaces := #[]
  cf := some (fileOf pool0 8 #[] #[{ accessFlags := 1, nameIndex := 5, descriptorIndex := 6, attributes := #[] }] 33 0 #[] #[])
  fields := #[]
  methods := #[k0m0]
  instanceTypes := #[]
  staticTypes := #[]
  resolved := Array.replicate 124 none
  statics := none }

def pool1 : Array CpInfo := pool [(2, .class_ 4), (1, u "java/lang/Object"), (0, u "<init>"), (0, u "()V"), (0, .integer 2147483647), (0, .methodref 9 10), (0, .class_ 11), (0, .nameAndType 12 13), (0, u "com/example/cutset/cutset/search/NogoodStore"), (0, u "rank"), (0, u "(II)J"), (0, .class_ 15), (0, u "com/example/cutset/cutset/search/NogoodStoreRankPinLaw"), (2, u "law"), (0, u "(IIIII)Z")] 3

def k1m0 : Method := { name := "<init>", desc := "()V", sig := { parameters := [], returnType := none }, accessFlags := 1, code := none }
def k1c1 : Code := { maxStack := 4, maxLocals := 14, code := code, exceptionTable := #[], attributes := #[] }
def k1m1 : Method := { name := "law", desc := "(IIIII)Z", sig := { parameters := [.int, .int, .int, .int, .int], returnType := some .boolean }, accessFlags := 9, code := some k1c1 }
/-- com/example/cutset/cutset/search/NogoodStoreRankPinLaw -/
def k1 : Class := { plain "com/example/cutset/cutset/search/NogoodStoreRankPinLaw" (some 0) with
  accessFlags := 49
  interfaces := #[]
  cf := some (fileOf pool1 14 #[] #[{ accessFlags := 1, nameIndex := 5, descriptorIndex := 6, attributes := #[] }, { accessFlags := 9, nameIndex := 18, descriptorIndex := 19, attributes := #[] }] 49 2 #[] #[])
  fields := #[]
  methods := #[k1m0, k1m1]
  instanceTypes := #[]
  staticTypes := #[]
  resolved := Array.replicate 23 none
  statics := none }

def pool2 : Array CpInfo := pool [(1, .class_ 2), (0, u "com/example/cutset/cutset/search/NogoodStore"), (1, .class_ 6), (1, u "java/lang/Object"), (2, .class_ 10), (0, u "com/example/cutset/cutset/search/NogoodStore$Groups"), (3, u "groups"), (0, u "Lcom/example/cutset/cutset/search/NogoodStore$Groups;"), (0, .class_ 17), (0, u "com/example/cutset/cutset/search/NogoodStore$Slots"), (3, u "slotOf"), (0, u "Lcom/example/cutset/cutset/search/NogoodStore$Slots;"), (5, u "formed"), (0, u "Ljava/util/List;"), (4, u "groupsBySlot"), (0, u "[Lcom/example/cutset/cutset/search/NumberSet;"), (2, u "keptOutBy"), (2, u "named"), (0, u "[I"), (3, u "applyingGroups"), (0, u "Lcom/example/cutset/cutset/search/NumberSet;"), (2, u "plural"), (2, u "matchingGroups"), (2, u "grown"), (2, u "reprobed"), (2, u "stopped"), (2, u "released"), (2, u "rulingOut"), (2, u "revalued"), (2, u "large"), (2, u "seenValues"), (2, u "seenAbove"), (0, u "[Z"), (0, .class_ 83), (0, u "com/example/cutset/cutset/search/NogoodStore$Group"), (2, u "groupOf"), (0, u "[Lcom/example/cutset/cutset/search/NogoodStore$Group;"), (2, u "own"), (2, u "matching"), (2, u "marked"), (2, u "self"), (0, u "I"), (2, .integer 2147483647), (29, .class_ 134), (0, u "com/example/cutset/cutset/search/NogoodStore$Entry"), (17, u "version"), (2, u "stored"), (29, u "applying"), (46, u "namedCount"), (25, .class_ 259), (0, u "com/example/cutset/cutset/search/NogoodStore$Applicable"), (34, u "VALUE_BITS"), (2, u "SLOT_BITS"), (1, u "UNNAMED"), (1, u "LARGE"), (1, u "FEW"), (5, u "rank"), (0, u "(II)J"), (10, .class_ 322), (0, u "com/example/cutset/cutset/search/NogoodStore$Stored"), (0, .class_ 324), (0, u "com/example/cutset/cutset/search/NogoodStore$Key")] 8

def k2c0 : Code := { maxStack := 4, maxLocals := 2, code := prog_96_method_2_code, exceptionTable := #[], attributes := #[] }
def k2m0 : Method := { name := "rank", desc := "(II)J", sig := { parameters := [.int, .int], returnType := some .long }, accessFlags := 8, code := some k2c0 }
/-- com/example/cutset/cutset/search/NogoodStore -/
def k2 : Class := { plain "com/example/cutset/cutset/search/NogoodStore" (some 0) with
  accessFlags := 48
  interfaces := #[]
  cf := some (fileOf pool2 1 #[.nestMembers #[16, 82, 133, 321, 9, 323, 258]] #[{ accessFlags := 8, nameIndex := 309, descriptorIndex := 310, attributes := #[] }] 48 4 #[] #[{ accessFlags := 26, nameIndex := 294, descriptorIndex := 100, attributes := #[] }, { accessFlags := 26, nameIndex := 297, descriptorIndex := 100, attributes := #[] }, { accessFlags := 26, nameIndex := 299, descriptorIndex := 100, attributes := #[] }, { accessFlags := 26, nameIndex := 301, descriptorIndex := 100, attributes := #[] }, { accessFlags := 26, nameIndex := 303, descriptorIndex := 100, attributes := #[] }, { accessFlags := 18, nameIndex := 99, descriptorIndex := 100, attributes := #[] }, { accessFlags := 18, nameIndex := 14, descriptorIndex := 15, attributes := #[] }, { accessFlags := 18, nameIndex := 21, descriptorIndex := 22, attributes := #[] }, { accessFlags := 18, nameIndex := 28, descriptorIndex := 29, attributes := #[] }, { accessFlags := 2, nameIndex := 34, descriptorIndex := 35, attributes := #[] }, { accessFlags := 2, nameIndex := 38, descriptorIndex := 35, attributes := #[] }, { accessFlags := 2, nameIndex := 41, descriptorIndex := 42, attributes := #[] }, { accessFlags := 2, nameIndex := 232, descriptorIndex := 100, attributes := #[] }, { accessFlags := 18, nameIndex := 46, descriptorIndex := 47, attributes := #[] }, { accessFlags := 18, nameIndex := 50, descriptorIndex := 47, attributes := #[] }, { accessFlags := 18, nameIndex := 53, descriptorIndex := 47, attributes := #[] }, { accessFlags := 18, nameIndex := 56, descriptorIndex := 47, attributes := #[] }, { accessFlags := 18, nameIndex := 59, descriptorIndex := 47, attributes := #[] }, { accessFlags := 18, nameIndex := 62, descriptorIndex := 47, attributes := #[] }, { accessFlags := 18, nameIndex := 65, descriptorIndex := 47, attributes := #[] }, { accessFlags := 2, nameIndex := 68, descriptorIndex := 42, attributes := #[] }, { accessFlags := 2, nameIndex := 71, descriptorIndex := 42, attributes := #[] }, { accessFlags := 18, nameIndex := 74, descriptorIndex := 29, attributes := #[] }, { accessFlags := 2, nameIndex := 77, descriptorIndex := 42, attributes := #[] }, { accessFlags := 2, nameIndex := 80, descriptorIndex := 81, attributes := #[] }, { accessFlags := 2, nameIndex := 86, descriptorIndex := 87, attributes := #[] }, { accessFlags := 2, nameIndex := 90, descriptorIndex := 42, attributes := #[] }, { accessFlags := 2, nameIndex := 155, descriptorIndex := 100, attributes := #[] }, { accessFlags := 18, nameIndex := 93, descriptorIndex := 47, attributes := #[] }, { accessFlags := 18, nameIndex := 96, descriptorIndex := 47, attributes := #[] }, { accessFlags := 2, nameIndex := 185, descriptorIndex := 100, attributes := #[] }, { accessFlags := 2, nameIndex := 152, descriptorIndex := 100, attributes := #[] }])
  fields := #[{ name := "VALUE_BITS", type := .int, accessFlags := 26, slot := 0, constantValue := 0 }, { name := "SLOT_BITS", type := .int, accessFlags := 26, slot := 1, constantValue := 0 }, { name := "UNNAMED", type := .int, accessFlags := 26, slot := 2, constantValue := 0 }, { name := "LARGE", type := .int, accessFlags := 26, slot := 3, constantValue := 0 }, { name := "FEW", type := .int, accessFlags := 26, slot := 4, constantValue := 0 }, { name := "self", type := .int, accessFlags := 18, slot := 0, constantValue := 0 }, { name := "groups", type := (.object "com/example/cutset/cutset/search/NogoodStore$Groups"), accessFlags := 18, slot := 1, constantValue := 0 }, { name := "slotOf", type := (.object "com/example/cutset/cutset/search/NogoodStore$Slots"), accessFlags := 18, slot := 2, constantValue := 0 }, { name := "formed", type := (.object "java/util/List"), accessFlags := 18, slot := 3, constantValue := 0 }, { name := "groupsBySlot", type := (.array (.object "com/example/cutset/cutset/search/NumberSet")), accessFlags := 2, slot := 4, constantValue := 0 }, { name := "keptOutBy", type := (.array (.object "com/example/cutset/cutset/search/NumberSet")), accessFlags := 2, slot := 5, constantValue := 0 }, { name := "named", type := (.array .int), accessFlags := 2, slot := 6, constantValue := 0 }, { name := "namedCount", type := .int, accessFlags := 2, slot := 7, constantValue := 0 }, { name := "applyingGroups", type := (.object "com/example/cutset/cutset/search/NumberSet"), accessFlags := 18, slot := 8, constantValue := 0 }, { name := "plural", type := (.object "com/example/cutset/cutset/search/NumberSet"), accessFlags := 18, slot := 9, constantValue := 0 }, { name := "matchingGroups", type := (.object "com/example/cutset/cutset/search/NumberSet"), accessFlags := 18, slot := 10, constantValue := 0 }, { name := "grown", type := (.object "com/example/cutset/cutset/search/NumberSet"), accessFlags := 18, slot := 11, constantValue := 0 }, { name := "reprobed", type := (.object "com/example/cutset/cutset/search/NumberSet"), accessFlags := 18, slot := 12, constantValue := 0 }, { name := "stopped", type := (.object "com/example/cutset/cutset/search/NumberSet"), accessFlags := 18, slot := 13, constantValue := 0 }, { name := "released", type := (.object "com/example/cutset/cutset/search/NumberSet"), accessFlags := 18, slot := 14, constantValue := 0 }, { name := "rulingOut", type := (.array .int), accessFlags := 2, slot := 15, constantValue := 0 }, { name := "revalued", type := (.array .int), accessFlags := 2, slot := 16, constantValue := 0 }, { name := "large", type := (.object "java/util/List"), accessFlags := 18, slot := 17, constantValue := 0 }, { name := "seenValues", type := (.array .int), accessFlags := 2, slot := 18, constantValue := 0 }, { name := "seenAbove", type := (.array .boolean), accessFlags := 2, slot := 19, constantValue := 0 }, { name := "groupOf", type := (.array (.object "com/example/cutset/cutset/search/NogoodStore$Group")), accessFlags := 2, slot := 20, constantValue := 0 }, { name := "own", type := (.array .int), accessFlags := 2, slot := 21, constantValue := 0 }, { name := "stored", type := .int, accessFlags := 2, slot := 22, constantValue := 0 }, { name := "matching", type := (.object "com/example/cutset/cutset/search/NumberSet"), accessFlags := 18, slot := 23, constantValue := 0 }, { name := "marked", type := (.object "com/example/cutset/cutset/search/NumberSet"), accessFlags := 18, slot := 24, constantValue := 0 }, { name := "applying", type := .int, accessFlags := 2, slot := 25, constantValue := 0 }, { name := "version", type := .int, accessFlags := 2, slot := 26, constantValue := 0 }]
  methods := #[k2m0]
  instanceTypes := #[.int, (.object "com/example/cutset/cutset/search/NogoodStore$Groups"), (.object "com/example/cutset/cutset/search/NogoodStore$Slots"), (.object "java/util/List"), (.array (.object "com/example/cutset/cutset/search/NumberSet")), (.array (.object "com/example/cutset/cutset/search/NumberSet")), (.array .int), .int, (.object "com/example/cutset/cutset/search/NumberSet"), (.object "com/example/cutset/cutset/search/NumberSet"), (.object "com/example/cutset/cutset/search/NumberSet"), (.object "com/example/cutset/cutset/search/NumberSet"), (.object "com/example/cutset/cutset/search/NumberSet"), (.object "com/example/cutset/cutset/search/NumberSet"), (.object "com/example/cutset/cutset/search/NumberSet"), (.array .int), (.array .int), (.object "java/util/List"), (.array .int), (.array .boolean), (.array (.object "com/example/cutset/cutset/search/NogoodStore$Group")), (.array .int), .int, (.object "com/example/cutset/cutset/search/NumberSet"), (.object "com/example/cutset/cutset/search/NumberSet"), .int, .int]
  staticTypes := #[.int, .int, .int, .int, .int]
  resolved := Array.replicate 333 none
  statics := none }

def pool3 : Array CpInfo := pool [(1, u "java/lang/Cloneable"), (0, .class_ 1), (0, u "java/lang/Object"), (0, .class_ 3)] 3

/-- java/lang/Cloneable -/
def k3 : Class := { plain "java/lang/Cloneable" (some 0) with
  accessFlags := 1537
  interfaces := #[]
  cf := some (fileOf pool3 2 #[] #[] 1537 4 #[] #[])
  fields := #[]
  methods := #[]
  instanceTypes := #[]
  staticTypes := #[]
  resolved := Array.replicate 8 none
  statics := none }

def pool4 : Array CpInfo := pool [(1, u "java/io/Serializable"), (0, .class_ 1), (0, u "java/lang/Object"), (0, .class_ 3)] 3

/-- java/io/Serializable -/
def k4 : Class := { plain "java/io/Serializable" (some 0) with
  accessFlags := 1537
  interfaces := #[]
  cf := some (fileOf pool4 2 #[] #[] 1537 4 #[] #[])
  fields := #[]
  methods := #[]
  instanceTypes := #[]
  staticTypes := #[]
  resolved := Array.replicate 8 none
  statics := none }

/-- the primitive byte -/
def k5 : Class := { plain "byte" none with kind := .primitive 'B', accessFlags := 0x411 }
/-- [B -/
def k6 : Class := { plain "[B" (some 0) with kind := .array 5 .byte, interfaces := #[3, 4], accessFlags := 1041 }

/-- the primitive int -/
def k7 : Class := { plain "int" none with kind := .primitive 'I', accessFlags := 0x411 }
/-- [I -/
def k8 : Class := { plain "[I" (some 0) with kind := .array 7 .int, interfaces := #[3, 4], accessFlags := 1041 }

def heap : Heap := #[]
def classes : Array Class := #[k0, k1, k2, k3, k4, k5, k6, k7, k8]
def interned : List (Array UInt16 × Addr) := []
def slotsUsed : Nat := 0
def theMethod : MethodId := ⟨1, 1⟩
def args0 : Array Value := #[.int 5, .int 5, .int 5, .int 5, .int 5]
def aboutOver (below : List Frame) : State where
  vm := { classes := classes, interned := interned.toArray }
  heap := heap
  slotsUsed := slotsUsed
  threads := #[{ frames := .invoking theMethod args0 :: below }]
def below0 : List Frame := [.native { method := ⟨0, 0⟩, args := #[] }]
def about1 : State := aboutOver below0
def p0 : Program := .bare "" "" ""
def e0 : Env := launch0.env 0 0 0
theorem w_frames : about1.frames = Frame.invoking theMethod args0 :: below0 := rfl
set_option maxRecDepth 65536 in
theorem w_args : argsFit about1.vm theMethod args0 = true := by decide +kernel
set_option maxRecDepth 65536 in
theorem w_heap : heapFits about1 = true := by decide +kernel
set_option maxRecDepth 65536 in
theorem w_runnable : about1.curStatus? = some .runnable := by decide +kernel
set_option maxRecDepth 65536 in
theorem w_alone : about1.alone = true := by decide +kernel
set_option maxRecDepth 65536 in
theorem w_named : about1.methodNamed? x = some theMethod := by decide +kernel
set_option maxRecDepth 65536 in
theorem w_hears : about1.hears theMethod below0 = true := by decide +kernel
set_option maxRecDepth 65536 in
theorem w_ripe : about1.ripe theMethod args0 below0 = true := by decide +kernel
theorem w_running : about1.status = .running := rfl
set_option maxRecDepth 65536 in
theorem w_room : about1.hasRoom e0.platform room_1 = true :=
  launch0.hasRoom_least _ room_1 (by decide +kernel) (by decide +kernel) (by decide +kernel) (by decide +kernel) (by decide +kernel) (by decide +kernel)
theorem allAtoms_all (ts : List Jvm.Cond) (a : Array Jvm.Value) (st : Jvm.State) : (allAtoms ts).before a st = ts.all (fun c => c.before a st) := by
  induction ts with
  | nil => rfl
  | cons c t ih =>
    show (Jvm.Cond.and c (allAtoms t)).before a st = _
    rw [Jvm.Cond.before_and, ih, List.all_cons]
def words1 : List Jvm.Cond := Jvm.Cond.code x code maxLocals ret :: tables_1
/-- a 'code' word, met by the world's own term for the bytes: nothing is compared byte by byte -/
theorem code_word {y : MethodName} {bytes : ByteArray} {mx : Nat} {rt : Option FieldType} {a : Array Value} {s : State} {m : MethodId} {meth : Method} {c : Code} (h1 : s.methodNamed? y = some m) (h2 : s.vm.method? m = some meth) (h3 : meth.code = some c) (h4 : c.code = bytes)
    (h5 : (c.maxLocals == mx && c.exceptionTable.isEmpty && decide (c.maxStack ≤ mostOperands) && decide (meth.sig.returnType = rt) && !meth.locks && decide (parseMethodDescriptor y.desc = some meth.sig)) = true) : (Jvm.Cond.code y bytes mx rt).before a s = true := by
  simp only [Bool.and_eq_true, beq_iff_eq, Bool.not_eq_true', decide_eq_true_eq] at h5
  obtain ⟨⟨⟨⟨⟨g1, g2⟩, g3⟩, g4⟩, g5⟩, g6⟩ := h5
  simp [Cond.before, Cond.holds, Cond.value, h1, h2, h3, h4, g1, g2, g3, g4, g5, g6]
def isCode : Jvm.Cond → Bool
  | .code _ _ _ _ => true
  | _ => false
theorem all_split {L : List Jvm.Cond} {P : Jvm.Cond → Bool} (h1 : L.all (fun c => isCode c || P c) = true) (h2 : ∀ c ∈ L.filter isCode, P c = true) : L.all P = true := by
  refine List.all_eq_true.mpr fun c hc => ?_
  have h := List.all_eq_true.mp h1 c hc
  rcases Bool.eq_false_or_eq_true (isCode c) with hi | hi
  · exact h2 c (List.mem_filter.mpr ⟨hc, hi⟩)
  · simpa [hi] using h
set_option maxRecDepth 65536 in
theorem w_c0 : (Jvm.Cond.code x code maxLocals ret).before args0 about1 = true := code_word (m := ⟨1, 1⟩) (meth := k1m1) (c := k1c1) (by decide +kernel) rfl rfl rfl (by decide +kernel)
set_option maxRecDepth 65536 in
theorem w_c1 : (Jvm.Cond.code ({ cls := "com/example/cutset/cutset/search/NogoodStore", name := "rank", desc := "(II)J" } : Jvm.MethodName) prog_96_method_2_code (2 : Nat) (Option.some Jvm.ClassFile.FieldType.long)).before args0 about1 = true := code_word (m := ⟨2, 0⟩) (meth := k2m0) (c := k2c0) (by decide +kernel) rfl rfl rfl (by decide +kernel)
def codes1 : List Jvm.Cond := [Jvm.Cond.code x code maxLocals ret, Jvm.Cond.code ({ cls := "com/example/cutset/cutset/search/NogoodStore", name := "rank", desc := "(II)J" } : Jvm.MethodName) prog_96_method_2_code (2 : Nat) (Option.some Jvm.ClassFile.FieldType.long)]
set_option maxRecDepth 65536 in
theorem codes_eq : words1.filter isCode = codes1 := rfl
theorem w_codes : ∀ c ∈ words1.filter isCode, c.before args0 about1 = true := by
  rw [codes_eq]
  intro c hc
  simp only [codes1, List.mem_cons, List.not_mem_nil, or_false] at hc
  rcases hc with rfl | rfl
  · exact w_c0
  · exact w_c1
set_option maxRecDepth 65536 in
theorem w_t1 : words1.all (fun c => isCode c || c.before args0 about1) = true := by decide +kernel
theorem w_tables : (allAtoms (Jvm.Cond.code x code maxLocals ret :: tables_1)).before args0 about1 = true := by
  rw [allAtoms_all]
  show words1.all (fun c => c.before args0 about1) = true
  refine all_split ?_ w_codes
  rw [w_t1]
set_option maxRecDepth 65536 in
theorem w_case : (Jvm.Cond.and given_1 narrow_1).before args0 about1 = true := by decide +kernel
theorem w_applies : (headSpec (Jvm.Cond.code x code maxLocals ret :: tables_1) room_1).applies x e0.platform about1 = true :=
  (Spec.applies_iff w_frames).mpr ⟨w_running, w_runnable, w_alone, w_named, w_hears, w_ripe, w_room, w_tables⟩
theorem atStart : AtStart classFile x code maxLocals ret World_1 tables_1 room_1 Calls_1 rest_1 Pre_1 launch0 p0 e0 about1 theMethod args0 below0 :=
  ⟨lists_1, trivial, launch0.admits_env _ _ _, launch0.least_env, fairChoices_fair.cas, fairChoices_fair.clock, w_frames, w_args, w_heap, w_applies, trivial, trivial, w_case⟩
end start1
theorem witness_1 : WitnessClaimed_1 := ⟨start1.p0, start1.e0, start1.about1, start1.theMethod, start1.args0, start1.below0, start1.atStart⟩
end Jvm.Pilot.@@N@@
