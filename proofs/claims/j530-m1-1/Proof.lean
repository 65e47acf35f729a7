import JvmDerived
import JvmDerived.Pilot.@@N@@Statement
import JvmDerived.Pilot.@@N@@Code
set_option linter.unusedVariables false
set_option linter.unusedSimpArgs false

namespace Jvm.Pilot.@@N@@
open Jvm Jvm.ClassFile Sem Op Lib Jvm.Free Jvm.Stand Jvm.LawKit Jvm.RoadKit Bundle Jvm.Pilot.@@N@@.Jvm.D
/-! own kit: the walk's goal carried forward, arrays as functions -/
def own_Fin (below : List Frame) (s : State) (Q : Option Value → Heap → List Loc → Prop) (k n : Nat) (t : State) : Prop :=
  ∃ o, t.status = .running ∧ Ended t below o ∧ ∃ v L, o = .returned v ∧ Q v t.heap L ∧ FrameEnd s o t L k n
def own_Go (tb : Tables) (e : Env) (below : List Frame) (S : State) (P : State → Prop) : Prop := ∃ t, Steps tb e below S t ∧ P t
theorem own_by {tb : Tables} {e : Env} {below : List Frame} {S S' : State} {P : State → Prop} (k : ∀ t, Steps tb e below S' t → Steps tb e below S t) (h : own_Go tb e below S' P) : own_Go tb e below S P := by
  obtain ⟨t, a, b⟩ := h
  exact ⟨t, k t a, b⟩
theorem own_tr {tb : Tables} {e : Env} {below : List Frame} {S S' : State} {P : State → Prop} (k : Steps tb e below S S') (h : own_Go tb e below S' P) : own_Go tb e below S P := by
  obtain ⟨t, a, b⟩ := h
  exact ⟨t, k.trans a, b⟩
theorem own_out {tb : Tables} {e : Env} {below : List Frame} {S s : State} {Q : Option Value → Heap → List Loc → Prop} {k n : Nat} (h : own_Go tb e below S (own_Fin below s Q k n)) :
    ∃ s₂ o, Steps tb e below S s₂ ∧ s₂.status = .running ∧ Ended s₂ below o ∧ ∃ v L, o = .returned v ∧ Q v s₂.heap L ∧ FrameEnd s o s₂ L k n := by
  obtain ⟨t, a, o, b, c, d⟩ := h
  exact ⟨t, o, a, b, c, d⟩
theorem own_cast {tb : Tables} {e : Env} {below : List Frame} {T : State} {g g' : JFrame} {P : State → Prop} (q : g = g') (h : own_Go tb e below (T.setTop g') P) : own_Go tb e below (T.setTop g) P := q ▸ h
section OwnEnd
variable {p : Program} {l : Launch} {e : Env} {R : Room} {s : State} {m : MethodId} {args : Array Value} {below : List Frame} {meth : Method} {c : Code} {T : State} {locs : List Loc} {cells slots : Nat} {Q : Option Value → Heap → List Loc → Prop} {k n : Nat}
theorem own_ret (X : Stand p l e R s m args below meth c T locs cells slots) (hx : p.tables.exec = Jvm.exec) (hlocks : meth.locks = false) {pc : Nat} {Ls : Array Slot} {w : Value} {t : FieldType} {i : Instr} {rest : List Value} (hret : meth.sig.returnType = some t) (hn : narrow t w = w)
    (hi : (i = .ireturn ∧ (t = .int ∨ t = .boolean ∨ t = .byte ∨ t = .char ∨ t = .short) ∧ ∃ z, w = .int z) ∨ (i = .lreturn ∧ t = .long ∧ ∃ z, w = .long z) ∨ (i = .dreturn ∧ t = .double ∧ ∃ z, w = .double z) ∨ (i = .freturn ∧ t = .float ∧ ∃ z, w = .float z) ∨ (i = .areturn ∧ t.isReference = true ∧ w.isRef = true))
    (hd : decode c.code pc = .ok (i, 1)) (hQ : Q (some w) T.heap locs) (h1 : cells ≤ k) (h2 : slots ≤ n) :
    own_Go p.tables e below (T.setTop (mkF m pc Ls (w :: rest))) (own_Fin below s Q k n) := by
  obtain ⟨fs, hr, hrun, hended, hW, hsame⟩ := X.leave (v := some w) (fun h => by rw [hret] at h; cases h) hlocks
  exact ⟨_, retOut X hx hret hn hi hd hr, _, hrun, hended, _, _, rfl, hQ, ⟨_, rfl⟩, hW, hsame.mono h1 h2⟩
theorem own_retI (X : Stand p l e R s m args below meth c T locs cells slots) (hx : p.tables.exec = Jvm.exec) (hlocks : meth.locks = false) {pc : Nat} {Ls : Array Slot} {z : Int32} {rest : List Value} (hret : meth.sig.returnType = some .int)
    (hd : decode c.code pc = .ok (.ireturn, 1)) (hQ : Q (some (.int z)) T.heap locs) (h1 : cells ≤ k) (h2 : slots ≤ n) :
    own_Go p.tables e below (T.setTop (mkF m pc Ls (.int z :: rest))) (own_Fin below s Q k n) :=
  own_ret X hx hlocks hret rfl (Or.inl ⟨rfl, Or.inl rfl, _, rfl⟩) hd hQ h1 h2
theorem own_retJ (X : Stand p l e R s m args below meth c T locs cells slots) (hx : p.tables.exec = Jvm.exec) (hlocks : meth.locks = false) {pc : Nat} {Ls : Array Slot} {z : Int64} {rest : List Value} (hret : meth.sig.returnType = some .long)
    (hd : decode c.code pc = .ok (.lreturn, 1)) (hQ : Q (some (.long z)) T.heap locs) (h1 : cells ≤ k) (h2 : slots ≤ n) :
    own_Go p.tables e below (T.setTop (mkF m pc Ls (.long z :: rest))) (own_Fin below s Q k n) :=
  own_ret X hx hlocks hret rfl (Or.inr (Or.inl ⟨rfl, rfl, _, rfl⟩)) hd hQ h1 h2
theorem own_retA (X : Stand p l e R s m args below meth c T locs cells slots) (hx : p.tables.exec = Jvm.exec) (hlocks : meth.locks = false) {pc : Nat} {Ls : Array Slot} {w : Value} {t : FieldType} {rest : List Value} (hret : meth.sig.returnType = some t) (ht : t.isReference = true) (hw : w.isRef = true) (hn : narrow t w = w)
    (hd : decode c.code pc = .ok (.areturn, 1)) (hQ : Q (some w) T.heap locs) (h1 : cells ≤ k) (h2 : slots ≤ n) :
    own_Go p.tables e below (T.setTop (mkF m pc Ls (w :: rest))) (own_Fin below s Q k n) :=
  own_ret X hx hlocks hret hn (Or.inr (Or.inr (Or.inr (Or.inr ⟨rfl, ht, hw⟩)))) hd hQ h1 h2
theorem own_retN (X : Stand p l e R s m args below meth c T locs cells slots) (hx : p.tables.exec = Jvm.exec) (hlocks : meth.locks = false) {pc : Nat} {Ls : Array Slot} {z : Int32} {t : FieldType} {rest : List Value} (hret : meth.sig.returnType = some t) (ht : t = .boolean ∨ t = .byte ∨ t = .char ∨ t = .short) (hn : nar t z = z)
    (hd : decode c.code pc = .ok (.ireturn, 1)) (hQ : Q (some (.int z)) T.heap locs) (h1 : cells ≤ k) (h2 : slots ≤ n) :
    own_Go p.tables e below (T.setTop (mkF m pc Ls (.int z :: rest))) (own_Fin below s Q k n) := by
  obtain ⟨fs, hr, hrun, hended, hW, hsame⟩ := X.leave (v := some (.int (nar t z))) (fun h => by rw [hret] at h; cases h) hlocks
  exact ⟨_, retN X hx hret ht hd hr, _, hrun, hended, _, _, rfl, (by rw [hn]; exact hQ), ⟨_, rfl⟩, hW, hsame.mono h1 h2⟩
theorem own_retV (X : Stand p l e R s m args below meth c T locs cells slots) (hx : p.tables.exec = Jvm.exec) (hlocks : meth.locks = false) {pc : Nat} {Ls : Array Slot} (hret : meth.sig.returnType = none)
    (hd : decode c.code pc = .ok (.return_, 1)) (hQ : Q none T.heap locs) (h1 : cells ≤ k) (h2 : slots ≤ n) :
    own_Go p.tables e below (T.setTop (mkF m pc Ls [])) (own_Fin below s Q k n) := by
  obtain ⟨fs, hr, hrun, hended, hW, hsame⟩ := X.leave (v := none) (fun _ => rfl) hlocks
  exact ⟨_, X.returnOut hx hret hd hr, _, hrun, hended, _, _, rfl, hQ, ⟨_, rfl⟩, hW, hsame.mono h1 h2⟩
end OwnEnd
/-- one place of a function changed -/
def own_upd {α : Type} (f : Nat → α) (k : Nat) (x : α) : Nat → α := fun i => if i = k then x else f i
theorem own_upd_at {α : Type} (f : Nat → α) (k : Nat) (x : α) : own_upd f k x k = x := by simp [own_upd]
theorem own_upd_ne {α : Type} (f : Nat → α) {k i : Nat} (x : α) (h : i ≠ k) : own_upd f k x i = f i := by simp [own_upd, h]
/-- an array: its length, and what each place holds -/
def own_AF (Z : State) (h : Heap) (a : Addr) (ty : FieldType) (n : Nat) (f : Nat → Value) : Prop := ∃ c : Cell, Arr Z h a c ty ∧ c.slots.size = n ∧ ∀ i, i < n → c.slots[i]? = some (f i)
def own_AI (Z : State) (h : Heap) (a : Addr) (ty : FieldType) (n : Nat) (b : Nat → Int32) : Prop := own_AF Z h a ty n (fun i => .int (b i))
def own_AJ (Z : State) (h : Heap) (a : Addr) (n : Nat) (b : Nat → Int64) : Prop := own_AF Z h a .long n (fun i => .long (b i))
section OwnArr
variable {Z : State} {h h' : Heap} {a b : Addr} {ty : FieldType} {n : Nat} {f : Nat → Value} {ws : List Addr} {sl : Nat} {v : Value} {bi : Nat → Int32} {bj : Nat → Int64}
theorem own_AF.lt (F : own_AF Z h a ty n f) : a < h.size := by obtain ⟨c, A, -⟩ := F; exact A.lt
theorem own_AF.ext (F : own_AF Z h a ty n f) (E : Ext h h') : own_AF Z h' a ty n f := by obtain ⟨c, A, r⟩ := F; exact ⟨c, A.ext E, r⟩
theorem own_AF.other (F : own_AF Z h b ty n f) (W : Wr h h' a sl v) (q : b ≠ a) : own_AF Z h' b ty n f := by obtain ⟨c, A, r⟩ := F; exact ⟨c, A.other W q, r⟩
theorem own_AF.keep (F : own_AF Z h a ty n f) (K : Keep h h' ws) (q : a ∉ ws) : own_AF Z h' a ty n f := by obtain ⟨c, A, r⟩ := F; exact ⟨c, ⟨K.2.1 a c A.1 q, A.2⟩, r⟩
theorem own_AF.congr (F : own_AF Z h a ty n f) {f' : Nat → Value} (q : ∀ i, i < n → f i = f' i) : own_AF Z h a ty n f' := by obtain ⟨c, A, S, r⟩ := F; exact ⟨c, A, S, fun i hi => by rw [← q i hi]; exact r i hi⟩
theorem own_AF.new {k : ClassId} {z : Int32} (A : Arr Z h a (newA k ty z) ty) (hz : z.toNatClampNeg = n) : own_AF Z h a ty n (fun _ => defaultValue ty) := by
  subst hz
  exact ⟨_, A, sz_new _ _ _, fun i hi => by simp [newA, hi]⟩
theorem own_AF.st (F : own_AF Z h a ty n f) (W : Wr h h' a sl v) : own_AF Z h' a ty n (own_upd f sl v) := by
  obtain ⟨c, A, S, r⟩ := F
  refine ⟨_, A.same W, by rw [sz_set]; exact S, fun i hi => ?_⟩
  by_cases u : i = sl
  · subst u; rw [own_upd_at]; simp [Cell.setSlot, S, hi]
  · rw [own_upd_ne _ _ u]
    simp only [Cell.setSlot]
    rw [Array.getElem?_setIfInBounds_ne (fun q => u q.symm)]; exact r i hi
theorem own_AI.st {x : Int32} (F : own_AI Z h a ty n bi) (W : Wr h h' a sl (.int x)) : own_AI Z h' a ty n (own_upd bi sl x) :=
  (own_AF.st F W).congr fun i _ => by by_cases u : i = sl <;> simp [own_upd, u]
theorem own_AJ.st {x : Int64} (F : own_AJ Z h a n bj) (W : Wr h h' a sl (.long x)) : own_AJ Z h' a n (own_upd bj sl x) :=
  (own_AF.st F W).congr fun i _ => by by_cases u : i = sl <;> simp [own_upd, u]
theorem own_AI.lt (F : own_AI Z h a ty n bi) : a < h.size := own_AF.lt F
theorem own_AI.ext (F : own_AI Z h a ty n bi) (E : Ext h h') : own_AI Z h' a ty n bi := own_AF.ext F E
theorem own_AI.other (F : own_AI Z h b ty n bi) (W : Wr h h' a sl v) (q : b ≠ a) : own_AI Z h' b ty n bi := own_AF.other F W q
theorem own_AI.keep (F : own_AI Z h a ty n bi) (K : Keep h h' ws) (q : a ∉ ws) : own_AI Z h' a ty n bi := own_AF.keep F K q
theorem own_AI.congr (F : own_AI Z h a ty n bi) {b' : Nat → Int32} (q : ∀ i, i < n → bi i = b' i) : own_AI Z h a ty n b' := own_AF.congr F fun i hi => by rw [q i hi]
theorem own_AJ.lt (F : own_AJ Z h a n bj) : a < h.size := own_AF.lt F
theorem own_AJ.ext (F : own_AJ Z h a n bj) (E : Ext h h') : own_AJ Z h' a n bj := own_AF.ext F E
theorem own_AJ.other (F : own_AJ Z h b n bj) (W : Wr h h' a sl v) (q : b ≠ a) : own_AJ Z h' b n bj := own_AF.other F W q
theorem own_AJ.keep (F : own_AJ Z h a n bj) (K : Keep h h' ws) (q : a ∉ ws) : own_AJ Z h' a n bj := own_AF.keep F K q
theorem own_AJ.congr (F : own_AJ Z h a n bj) {b' : Nat → Int64} (q : ∀ i, i < n → bj i = b' i) : own_AJ Z h a n b' := own_AF.congr F fun i hi => by rw [q i hi]
variable {p : Program} {l : Launch} {e : Env} {R : Room} {s : State} {m : MethodId} {args : Array Value} {below : List Frame} {meth : Method} {c : Code} {T : State} {locs : List Loc} {cells slots : Nat} {j : Int32} {k : Nat} {g : JFrame} {rest : List Value}
theorem own_in {cl : Cell} (S : cl.slots.size = n) (h0 : ¬ j < 0) (hk : j.toNatClampNeg = k) (hlt : k < n) : ¬ (j < 0 ∨ cl.slots.size ≤ j.toNatClampNeg) := by
  rintro (q | q)
  · exact h0 q
  · rw [S, hk] at q; omega
theorem own_ldB (X : Stand p l e R s m args below meth c T locs cells slots) (hx : p.tables.exec = Jvm.exec) (hZ : Z.Warmed39 s.vm) (eT : T.heap = h) (A : own_AI Z h a .byte n bi) (h0 : ¬ j < 0) (hk : j.toNatClampNeg = k) (hlt : k < n) (hg : g.method = m) (hs : g.stack = .int j :: .ref a :: rest) (hd : decode c.code g.pc = .ok (.baload, 1)) :
    ∀ target, Steps p.tables e below (T.setTop { g with pc := g.pc + 1, stack := .int (bi k) :: rest }) target → Steps p.tables e below (T.setTop g) target := by
  obtain ⟨cl, Ar, S, H⟩ := A
  exact X.baloadBytes hx (v := .int (bi k)) (by rw [eT]; exact Ar.1) (State.isArrayOf_alike hZ.alike Ar.2.1) Ar.2.2 (own_in S h0 hk hlt) (by rw [hk]; exact H k hlt) hg hs hd
theorem own_ldI (X : Stand p l e R s m args below meth c T locs cells slots) (hx : p.tables.exec = Jvm.exec) (hZ : Z.Warmed39 s.vm) (eT : T.heap = h) (A : own_AI Z h a .int n bi) (h0 : ¬ j < 0) (hk : j.toNatClampNeg = k) (hlt : k < n) (hg : g.method = m) (hs : g.stack = .int j :: .ref a :: rest) (hd : decode c.code g.pc = .ok (.iaload, 1)) :
    ∀ target, Steps p.tables e below (T.setTop { g with pc := g.pc + 1, stack := .int (bi k) :: rest }) target → Steps p.tables e below (T.setTop g) target := by
  obtain ⟨cl, Ar, S, H⟩ := A
  exact X.iaload hx (v := .int (bi k)) (by rw [eT]; exact Ar.1) (State.isArrayOf_alike hZ.alike Ar.2.1) Ar.2.2 (own_in S h0 hk hlt) (by rw [hk]; exact H k hlt) hg hs hd
theorem own_ldJ (X : Stand p l e R s m args below meth c T locs cells slots) (hx : p.tables.exec = Jvm.exec) (hZ : Z.Warmed39 s.vm) (eT : T.heap = h) (A : own_AJ Z h a n bj) (h0 : ¬ j < 0) (hk : j.toNatClampNeg = k) (hlt : k < n) (hg : g.method = m) (hs : g.stack = .int j :: .ref a :: rest) (hd : decode c.code g.pc = .ok (.laload, 1)) :
    ∀ target, Steps p.tables e below (T.setTop { g with pc := g.pc + 1, stack := .long (bj k) :: rest }) target → Steps p.tables e below (T.setTop g) target := by
  obtain ⟨cl, Ar, S, H⟩ := A
  exact X.laload hx (v := .long (bj k)) (by rw [eT]; exact Ar.1) (State.isArrayOf_alike hZ.alike Ar.2.1) Ar.2.2 (own_in S h0 hk hlt) (by rw [hk]; exact H k hlt) hg hs hd
theorem own_len (X : Stand p l e R s m args below meth c T locs cells slots) (hx : p.tables.exec = Jvm.exec) (hZ : Z.Warmed39 s.vm) (eT : T.heap = h) (A : own_AF Z h a ty n f) {z : Int32} (hz : n.toInt32 = z) (hg : g.method = m) (hs : g.stack = .ref a :: rest) (hd : decode c.code g.pc = .ok (.arraylength, 1)) :
    ∀ target, Steps p.tables e below (T.setTop { g with pc := g.pc + 1, stack := .int z :: rest }) target → Steps p.tables e below (T.setTop g) target := by
  obtain ⟨cl, Ar, S, H⟩ := A
  intro t hr
  refine X.arraylength hx (by rw [eT]; exact Ar.1) (State.isArrayOf_alike hZ.alike Ar.2.1) hg hs hd t ?_
  rw [S, hz]; exact hr
theorem own_stB (X : Stand p l e R s m args below meth c T locs cells slots) (hx : p.tables.exec = Jvm.exec) (hZ : Z.Warmed39 s.vm) (eT : T.heap = h) (A : own_AI Z h a .byte n bi) {x : Int32} (h0 : ¬ j < 0) (hk : j.toNatClampNeg = k) (hlt : k < n) (hg : g.method = m) (hs : g.stack = .int x :: .int j :: .ref a :: rest) (hd : decode c.code g.pc = .ok (.bastore, 1)) :
    ∃ T' h', Stand p l e R s m args below meth c T' (locs ++ [⟨a, k⟩]) cells slots ∧ T'.heap = h' ∧ Wr h h' a k (.int (x.toInt8.toInt32)) ∧ own_AI Z h' a .byte n (own_upd bi k (x.toInt8.toInt32)) ∧ ∀ target, Steps p.tables e below (T'.setTop { g with pc := g.pc + 1, stack := rest }) target → Steps p.tables e below (T.setTop g) target := by
  obtain ⟨cl, Ar, S, H⟩ := id A
  obtain ⟨T', h', X', e', W, st⟩ := stB X hx hZ eT Ar (own_in S h0 hk hlt) hg hs hd
  rw [hk] at X' W
  exact ⟨T', h', X', e', W, A.st W, st⟩
theorem own_stI (X : Stand p l e R s m args below meth c T locs cells slots) (hx : p.tables.exec = Jvm.exec) (hZ : Z.Warmed39 s.vm) (eT : T.heap = h) (A : own_AI Z h a .int n bi) {x : Int32} (h0 : ¬ j < 0) (hk : j.toNatClampNeg = k) (hlt : k < n) (hg : g.method = m) (hs : g.stack = .int x :: .int j :: .ref a :: rest) (hd : decode c.code g.pc = .ok (.iastore, 1)) :
    ∃ T' h', Stand p l e R s m args below meth c T' (locs ++ [⟨a, k⟩]) cells slots ∧ T'.heap = h' ∧ Wr h h' a k (.int x) ∧ own_AI Z h' a .int n (own_upd bi k x) ∧ ∀ target, Steps p.tables e below (T'.setTop { g with pc := g.pc + 1, stack := rest }) target → Steps p.tables e below (T.setTop g) target := by
  obtain ⟨cl, Ar, S, H⟩ := id A
  obtain ⟨T', h', X', e', W, st⟩ := stI X hx hZ eT Ar (own_in S h0 hk hlt) hg hs hd
  rw [hk] at X' W
  exact ⟨T', h', X', e', W, A.st W, st⟩
theorem own_stJ (X : Stand p l e R s m args below meth c T locs cells slots) (hx : p.tables.exec = Jvm.exec) (hZ : Z.Warmed39 s.vm) (eT : T.heap = h) (A : own_AJ Z h a n bj) {x : Int64} (h0 : ¬ j < 0) (hk : j.toNatClampNeg = k) (hlt : k < n) (hg : g.method = m) (hs : g.stack = .long x :: .int j :: .ref a :: rest) (hd : decode c.code g.pc = .ok (.lastore, 1)) :
    ∃ T' h', Stand p l e R s m args below meth c T' (locs ++ [⟨a, k⟩]) cells slots ∧ T'.heap = h' ∧ Wr h h' a k (.long x) ∧ own_AJ Z h' a n (own_upd bj k x) ∧ ∀ target, Steps p.tables e below (T'.setTop { g with pc := g.pc + 1, stack := rest }) target → Steps p.tables e below (T.setTop g) target := by
  obtain ⟨cl, Ar, S, H⟩ := id A
  obtain ⟨T', h', X', e', W, st⟩ := stJ X hx hZ eT Ar (own_in S h0 hk hlt) hg hs hd
  rw [hk] at X' W
  exact ⟨T', h', X', e', W, A.st W, st⟩
end OwnArr
/-- what a body leaves that returns an int (a long) and writes nothing -/
def own_QI (h0 : Heap) (n0 : Nat) (f : Int32) (v : Option Value) (h : Heap) (L : List Loc) : Prop := ∃ r : Int32, v = some (.int r) ∧ Fr n0 L ∧ h = h0 ∧ r = f
def own_QJ (h0 : Heap) (n0 : Nat) (f : Int64) (v : Option Value) (h : Heap) (L : List Loc) : Prop := ∃ r : Int64, v = some (.long r) ∧ Fr n0 L ∧ h = h0 ∧ r = f
theorem own_nb {z : Int32} (h : z = 0 ∨ z = 1) : nar .boolean z = z := by rcases h with rfl | rfl <;> decide
/-! sums, differences and products that don't wrap -/
theorem own_add {x y : Int32} (h1 : -2147483648 ≤ x.toInt + y.toInt) (h2 : x.toInt + y.toInt < 2147483648) : (x + y).toInt = x.toInt + y.toInt := by
  have a := c_iadd x y; have b := (x + y).toInt_lt; have c := (x + y).le_toInt; omega
theorem own_sub' {x y : Int32} (h1 : -2147483648 ≤ x.toInt - y.toInt) (h2 : x.toInt - y.toInt < 2147483648) : (x - y).toInt = x.toInt - y.toInt := by
  have a := c_isub x y; have b := (x - y).toInt_lt; have c := (x - y).le_toInt; omega
theorem own_mul {x y : Int32} {t : Int} (ht : x.toInt * y.toInt = t) (h1 : -2147483648 ≤ t) (h2 : t < 2147483648) : (x * y).toInt = t := by
  have a := c_imul x y; rw [ht] at a; have b := (x * y).toInt_lt; have c := (x * y).le_toInt; omega
theorem own_addL {x y : Int64} (h1 : -9223372036854775808 ≤ x.toInt + y.toInt) (h2 : x.toInt + y.toInt < 9223372036854775808) : (x + y).toInt = x.toInt + y.toInt := by
  have a := c_ladd x y; have b := (x + y).toInt_lt; have c := (x + y).le_toInt; omega
theorem own_subL {x y : Int64} (h1 : -9223372036854775808 ≤ x.toInt - y.toInt) (h2 : x.toInt - y.toInt < 9223372036854775808) : (x - y).toInt = x.toInt - y.toInt := by
  have a := c_lsub x y; have b := (x - y).toInt_lt; have c := (x - y).le_toInt; omega
theorem own_mulL {x y : Int64} {t : Int} (ht : x.toInt * y.toInt = t) (h1 : -9223372036854775808 ≤ t) (h2 : t < 9223372036854775808) : (x * y).toInt = t := by
  have a := c_lmul x y; rw [ht] at a; have b := (x * y).toInt_lt; have c := (x * y).le_toInt; omega
def own_tm (f : Nat → Int32) (PP N : Nat) (i k : Int32) : Int64 := if i < k then ((((f (PP + N)) &&& (127 : Int32)).toInt64) <<< (((7 : Int32) * i) &&& 0x3f).toInt64) else (0 : Int64)
def own_rd (f : Nat → Int32) : Nat → Nat → Int64 → Int32 → Int64
  | p, 0, va, sh => va ||| ((f p).toInt64 <<< (sh &&& 0x3f).toInt64)
  | p, k + 1, va, sh => own_rd f (p + 1) k (va ||| ((f p &&& (127 : Int32)).toInt64 <<< (sh &&& 0x3f).toInt64)) (sh + (7 : Int32))
theorem own_i2b {x y : Int32} (h : (x.toInt - y.toInt) % 256 = 0) : x.toInt8.toInt32 = y.toInt8.toInt32 := by
  have a := c_i2b x; have b := c_i2b y
  apply Int32.toInt_inj.mp
  omega
theorem own_bb (x : Int32) : x.toInt8.toInt32.toInt8.toInt32 = x.toInt8.toInt32 := own_i2b (by have := c_i2b x; omega)
theorem own_nat {n : Nat} (h : n < 1000) : (Int32.ofNat n).toInt = n := Int32.toInt_ofNat_small (by omega)
theorem own_ixN {i : Int32} {j : Nat} (hi : i = Int32.ofNat j) (h : j < 16) : (¬ i < 0) ∧ i.toNatClampNeg = j := by
  have e : i.toInt = j := by rw [hi]; exact own_nat (by omega)
  have z : (0 : Int32).toInt = 0 := by decide
  refine ⟨by rw [Int32.lt_iff_toInt_lt, e, z]; omega, ?_⟩
  show i.toInt.toNat = j
  rw [e]; omega
theorem own_succN {i : Int32} {j : Nat} (hi : i = Int32.ofNat j) : (i + (1 : Int32)) = Int32.ofNat (j + 1) := by rw [hi]; exact (Int32.ofNat_add j 1).symm
theorem own_addN {i c : Int32} {j k : Nat} (hi : i = Int32.ofNat j) (hc : c = Int32.ofNat k) : (i + c) = Int32.ofNat (j + k) := by rw [hi, hc]; exact (Int32.ofNat_add j k).symm
theorem own_subN {i fr : Int32} {j F : Nat} (hi : i = Int32.ofNat j) (hfr : fr = Int32.ofNat F) (h : F ≤ j) (hj : j < 1000) : (i - fr) = Int32.ofNat (j - F) := by
  have a := c_isub i fr
  have e1 : i.toInt = j := by rw [hi]; exact own_nat hj
  have e2 : fr.toInt = F := by rw [hfr]; exact own_nat (by omega)
  rw [e1, e2] at a
  have b1 := (i - fr).toInt_lt; have b2 := (i - fr).le_toInt
  apply Int32.toInt_inj.mp
  rw [own_nat (by omega)]; omega
theorem own_P {ps p : Int32} (h : p = (ps &&& (3 : Int32))) : ∃ PP : Nat, PP ≤ 3 ∧ p = Int32.ofNat PP := by
  have m := c_mask ps 3 2 (by decide) (by decide)
  rw [← h] at m
  refine ⟨p.toInt.toNat, by omega, ?_⟩
  apply Int32.toInt_inj.mp
  rw [own_nat (by omega)]; omega
theorem own_K {ks k : Int32} (h : k = ((1 : Int32) + ((ks &&& (2147483647 : Int32)) % (10 : Int32)))) : ∃ K : Nat, 1 ≤ K ∧ K ≤ 10 ∧ k = Int32.ofNat K := by
  have m := c_mask ks 2147483647 31 (by decide) (by decide)
  have r := (c_irem (ks &&& 2147483647) 10 10 (by decide)).1 (by rw [m]; omega)
  have a := c_iadd 1 ((ks &&& 2147483647) % 10)
  rw [← h, show (1 : Int32).toInt = 1 by decide] at a
  have b1 := k.toInt_lt; have b2 := k.le_toInt
  refine ⟨k.toInt.toNat, by omega, by omega, ?_⟩
  apply Int32.toInt_inj.mp
  rw [own_nat (by omega)]; omega
/-- a byte of the law's: its sign by its place -/
def own_Ad (r j p0 k : Int32) : Prop := r.toInt8.toInt32 = r ∧ ((¬ (j - p0) < (0 : Int32)) → (j - p0) < (k - (1 : Int32)) → r < (0 : Int32)) ∧ ((¬ (j - p0) < (0 : Int32)) → (j - p0) = (k - (1 : Int32)) → ¬ r < (0 : Int32))
set_option maxRecDepth 100000 in
theorem own_256 : ∀ n : Fin 256, 128 ≤ (Int32.ofNat n.val ||| (128 : Int32)).toInt ∧ (Int32.ofNat n.val ||| (128 : Int32)).toInt < 256 := by decide +kernel
theorem own_oa (a b c : Int32) : (a ||| b) &&& c = (a &&& c) ||| (b &&& c) := by
  apply Int32.toBitVec_inj.mp
  simp only [Int32.toBitVec_or, Int32.toBitVec_and]
  exact BitVec.and_or_distrib_right
theorem own_or (r : Int32) : (r ||| (128 : Int32)).toInt8.toInt32 < (0 : Int32) := by
  have m := c_mask (r ||| 128) 255 8 (by decide) (by decide)
  have m2 := c_mask r 255 8 (by decide) (by decide)
  have e : ((r ||| (128 : Int32)) &&& (255 : Int32)) = ((r &&& 255) ||| 128) := by
    rw [own_oa]; rfl
  have t : (r &&& 255) = Int32.ofNat (r &&& 255).toInt.toNat := by
    apply Int32.toInt_inj.mp
    rw [own_nat (by omega)]; omega
  have u := own_256 ⟨(r &&& 255).toInt.toNat, by omega⟩
  simp only [] at u
  rw [← t, ← e, m] at u
  have b := c_i2b (r ||| 128)
  rw [Int32.lt_iff_toInt_lt, show (0 : Int32).toInt = 0 by decide]; omega
theorem own_an (r : Int32) : ¬ (r &&& (127 : Int32)).toInt8.toInt32 < (0 : Int32) := by
  have m := c_mask r 127 7 (by decide) (by decide)
  have b := c_i2b (r &&& 127)
  rw [Int32.lt_iff_toInt_lt, show (0 : Int32).toInt = 0 by decide]; omega
theorem own_ad1 {q r j p0 k : Int32} (hq : q = (if (j - p0) < (0 : Int32) then (if (j - p0) = (k - (1 : Int32)) then (r &&& (127 : Int32)) else r) else (if (j - p0) < (k - (1 : Int32)) then (r ||| (128 : Int32)) else (if (j - p0) = (k - (1 : Int32)) then (r &&& (127 : Int32)) else r)))) : ((¬ (j - p0) < (0 : Int32)) → (j - p0) < (k - (1 : Int32)) → q.toInt8.toInt32 < (0 : Int32)) := fun h1 h2 => by
  rw [hq, if_neg h1, if_pos h2]; exact own_or r
theorem own_ad2 {q r j p0 k : Int32} (hq : q = (if (j - p0) < (0 : Int32) then (if (j - p0) = (k - (1 : Int32)) then (r &&& (127 : Int32)) else r) else (if (j - p0) < (k - (1 : Int32)) then (r ||| (128 : Int32)) else (if (j - p0) = (k - (1 : Int32)) then (r &&& (127 : Int32)) else r)))) : ((¬ (j - p0) < (0 : Int32)) → (j - p0) = (k - (1 : Int32)) → ¬ q.toInt8.toInt32 < (0 : Int32)) := fun h1 h2 => by
  rw [hq, if_neg h1, if_neg (by rw [h2]; exact Int32.lt_irrefl), if_pos h2]; exact own_an r
theorem own_16 {Q : Nat → Prop} (h0 : Q 0) (h1 : Q 1) (h2 : Q 2) (h3 : Q 3) (h4 : Q 4) (h5 : Q 5) (h6 : Q 6) (h7 : Q 7) (h8 : Q 8) (h9 : Q 9) (h10 : Q 10) (h11 : Q 11) (h12 : Q 12) (h13 : Q 13) (h14 : Q 14) (h15 : Q 15) : ∀ i, i < 16 → Q i := fun i hi => by
  have q : i = 0 ∨ i = 1 ∨ i = 2 ∨ i = 3 ∨ i = 4 ∨ i = 5 ∨ i = 6 ∨ i = 7 ∨ i = 8 ∨ i = 9 ∨ i = 10 ∨ i = 11 ∨ i = 12 ∨ i = 13 ∨ i = 14 ∨ i = 15 := by omega
  rcases q with rfl | rfl | rfl | rfl | rfl | rfl | rfl | rfl | rfl | rfl | rfl | rfl | rfl | rfl | rfl | rfl
  · exact h0
  · exact h1
  · exact h2
  · exact h3
  · exact h4
  · exact h5
  · exact h6
  · exact h7
  · exact h8
  · exact h9
  · exact h10
  · exact h11
  · exact h12
  · exact h13
  · exact h14
  · exact h15
section OwnB
variable {ff : Nat → Int32} {p k : Int32} {PP K : Nat}
theorem own_ng (h : ∀ i, i < 16 → own_Ad (ff i) (Int32.ofNat i) p k) (hp : p = Int32.ofNat PP) (hk : k = Int32.ofNat K) (h1 : PP ≤ 3) (h2 : 1 ≤ K ∧ K ≤ 10) : ∀ i, i < K - 1 → ff (PP + i) < (0 : Int32) := fun i hi => by
  obtain ⟨-, a, -⟩ := h (PP + i) (by omega)
  have e1 := own_subN (i := Int32.ofNat (PP + i)) rfl hp (by omega) (by omega)
  have e2 := own_subN (fr := (1 : Int32)) (F := 1) hk rfl (by omega) (by omega)
  rw [e1, e2] at a
  refine a ?_ ?_
  · rw [Int32.lt_iff_toInt_lt, own_nat (by omega), show (0 : Int32).toInt = 0 by decide]; omega
  · rw [Int32.lt_iff_toInt_lt, own_nat (by omega), own_nat (by omega)]; omega
theorem own_ps (h : ∀ i, i < 16 → own_Ad (ff i) (Int32.ofNat i) p k) (hp : p = Int32.ofNat PP) (hk : k = Int32.ofNat K) (h1 : PP ≤ 3) (h2 : 1 ≤ K ∧ K ≤ 10) : ¬ ff (PP + (K - 1)) < (0 : Int32) := by
  obtain ⟨-, -, a⟩ := h (PP + (K - 1)) (by omega)
  have e1 := own_subN (i := Int32.ofNat (PP + (K - 1))) rfl hp (by omega) (by omega)
  have e2 := own_subN (fr := (1 : Int32)) (F := 1) hk rfl (by omega) (by omega)
  rw [e1, e2] at a
  refine a ?_ ?_
  · rw [Int32.lt_iff_toInt_lt, own_nat (by omega), show (0 : Int32).toInt = 0 by decide]; omega
  · rw [show PP + (K - 1) - PP = K - 1 by omega]
theorem own_127 (h : ∀ i, i < 16 → own_Ad (ff i) (Int32.ofNat i) p k) (hp : p = Int32.ofNat PP) (hk : k = Int32.ofNat K) (h1 : PP ≤ 3) (h2 : 1 ≤ K ∧ K ≤ 10) : (ff (PP + (K - 1)) &&& (127 : Int32)) = ff (PP + (K - 1)) := by
  have a := own_ps h hp hk h1 h2
  have b := (h (PP + (K - 1)) (by omega)).1
  have c := c_i2b (ff (PP + (K - 1)))
  rw [b] at c
  rw [Int32.lt_iff_toInt_lt, show (0 : Int32).toInt = 0 by decide] at a
  apply Int32.toInt_inj.mp
  rw [c_mask _ 127 7 (by decide) (by decide)]; omega
end OwnB
theorem own_tot1 (f : Nat → Int32) (PP : Nat) (hl : (f (PP + 0) &&& (127 : Int32)) = f (PP + 0)) : own_rd f PP 0 0 0 = ((((((((((own_tm f PP 0 (0 : Int32) (Int32.ofNat 1) ||| own_tm f PP 1 (1 : Int32) (Int32.ofNat 1)) ||| own_tm f PP 2 (2 : Int32) (Int32.ofNat 1)) ||| own_tm f PP 3 (3 : Int32) (Int32.ofNat 1)) ||| own_tm f PP 4 (4 : Int32) (Int32.ofNat 1)) ||| own_tm f PP 5 (5 : Int32) (Int32.ofNat 1)) ||| own_tm f PP 6 (6 : Int32) (Int32.ofNat 1)) ||| own_tm f PP 7 (7 : Int32) (Int32.ofNat 1)) ||| own_tm f PP 8 (8 : Int32) (Int32.ofNat 1)) ||| own_tm f PP 9 (9 : Int32) (Int32.ofNat 1))) := by
  have t0 : own_tm f PP 0 (0 : Int32) (Int32.ofNat 1) = ((f (PP + 0) &&& (127 : Int32)).toInt64 <<< (((7 : Int32) * (0 : Int32)) &&& 0x3f).toInt64) := if_pos (by decide)
  have t1 : own_tm f PP 1 (1 : Int32) (Int32.ofNat 1) = 0 := if_neg (by decide)
  have t2 : own_tm f PP 2 (2 : Int32) (Int32.ofNat 1) = 0 := if_neg (by decide)
  have t3 : own_tm f PP 3 (3 : Int32) (Int32.ofNat 1) = 0 := if_neg (by decide)
  have t4 : own_tm f PP 4 (4 : Int32) (Int32.ofNat 1) = 0 := if_neg (by decide)
  have t5 : own_tm f PP 5 (5 : Int32) (Int32.ofNat 1) = 0 := if_neg (by decide)
  have t6 : own_tm f PP 6 (6 : Int32) (Int32.ofNat 1) = 0 := if_neg (by decide)
  have t7 : own_tm f PP 7 (7 : Int32) (Int32.ofNat 1) = 0 := if_neg (by decide)
  have t8 : own_tm f PP 8 (8 : Int32) (Int32.ofNat 1) = 0 := if_neg (by decide)
  have t9 : own_tm f PP 9 (9 : Int32) (Int32.ofNat 1) = 0 := if_neg (by decide)
  rw [t0, t1, t2, t3, t4, t5, t6, t7, t8, t9]
  simp only [Int64.or_zero]
  show ((0 : Int64) ||| ((f (PP + 0)).toInt64 <<< ((0 : Int32) &&& 0x3f).toInt64)) = _
  rw [Int64.zero_or, hl]
  rw [show ((0 : Int32) &&& 0x3f).toInt64 = (((7 : Int32) * (0 : Int32)) &&& 0x3f).toInt64 by decide]
theorem own_tot2 (f : Nat → Int32) (PP : Nat) (hl : (f (PP + 1) &&& (127 : Int32)) = f (PP + 1)) : own_rd f PP 1 0 0 = ((((((((((own_tm f PP 0 (0 : Int32) (Int32.ofNat 2) ||| own_tm f PP 1 (1 : Int32) (Int32.ofNat 2)) ||| own_tm f PP 2 (2 : Int32) (Int32.ofNat 2)) ||| own_tm f PP 3 (3 : Int32) (Int32.ofNat 2)) ||| own_tm f PP 4 (4 : Int32) (Int32.ofNat 2)) ||| own_tm f PP 5 (5 : Int32) (Int32.ofNat 2)) ||| own_tm f PP 6 (6 : Int32) (Int32.ofNat 2)) ||| own_tm f PP 7 (7 : Int32) (Int32.ofNat 2)) ||| own_tm f PP 8 (8 : Int32) (Int32.ofNat 2)) ||| own_tm f PP 9 (9 : Int32) (Int32.ofNat 2))) := by
  have t0 : own_tm f PP 0 (0 : Int32) (Int32.ofNat 2) = ((f (PP + 0) &&& (127 : Int32)).toInt64 <<< (((7 : Int32) * (0 : Int32)) &&& 0x3f).toInt64) := if_pos (by decide)
  have t1 : own_tm f PP 1 (1 : Int32) (Int32.ofNat 2) = ((f (PP + 1) &&& (127 : Int32)).toInt64 <<< (((7 : Int32) * (1 : Int32)) &&& 0x3f).toInt64) := if_pos (by decide)
  have t2 : own_tm f PP 2 (2 : Int32) (Int32.ofNat 2) = 0 := if_neg (by decide)
  have t3 : own_tm f PP 3 (3 : Int32) (Int32.ofNat 2) = 0 := if_neg (by decide)
  have t4 : own_tm f PP 4 (4 : Int32) (Int32.ofNat 2) = 0 := if_neg (by decide)
  have t5 : own_tm f PP 5 (5 : Int32) (Int32.ofNat 2) = 0 := if_neg (by decide)
  have t6 : own_tm f PP 6 (6 : Int32) (Int32.ofNat 2) = 0 := if_neg (by decide)
  have t7 : own_tm f PP 7 (7 : Int32) (Int32.ofNat 2) = 0 := if_neg (by decide)
  have t8 : own_tm f PP 8 (8 : Int32) (Int32.ofNat 2) = 0 := if_neg (by decide)
  have t9 : own_tm f PP 9 (9 : Int32) (Int32.ofNat 2) = 0 := if_neg (by decide)
  rw [t0, t1, t2, t3, t4, t5, t6, t7, t8, t9]
  simp only [Int64.or_zero]
  show (((0 : Int64) ||| ((f (PP + 0) &&& (127 : Int32)).toInt64 <<< ((0 : Int32) &&& 0x3f).toInt64)) ||| ((f (PP + 1)).toInt64 <<< (((0 : Int32) + (7 : Int32)) &&& 0x3f).toInt64)) = _
  rw [Int64.zero_or, hl]
  rw [show ((0 : Int32) &&& 0x3f).toInt64 = (((7 : Int32) * (0 : Int32)) &&& 0x3f).toInt64 by decide]
  rw [show (((0 : Int32) + (7 : Int32)) &&& 0x3f).toInt64 = (((7 : Int32) * (1 : Int32)) &&& 0x3f).toInt64 by decide]
theorem own_tot3 (f : Nat → Int32) (PP : Nat) (hl : (f (PP + 2) &&& (127 : Int32)) = f (PP + 2)) : own_rd f PP 2 0 0 = ((((((((((own_tm f PP 0 (0 : Int32) (Int32.ofNat 3) ||| own_tm f PP 1 (1 : Int32) (Int32.ofNat 3)) ||| own_tm f PP 2 (2 : Int32) (Int32.ofNat 3)) ||| own_tm f PP 3 (3 : Int32) (Int32.ofNat 3)) ||| own_tm f PP 4 (4 : Int32) (Int32.ofNat 3)) ||| own_tm f PP 5 (5 : Int32) (Int32.ofNat 3)) ||| own_tm f PP 6 (6 : Int32) (Int32.ofNat 3)) ||| own_tm f PP 7 (7 : Int32) (Int32.ofNat 3)) ||| own_tm f PP 8 (8 : Int32) (Int32.ofNat 3)) ||| own_tm f PP 9 (9 : Int32) (Int32.ofNat 3))) := by
  have t0 : own_tm f PP 0 (0 : Int32) (Int32.ofNat 3) = ((f (PP + 0) &&& (127 : Int32)).toInt64 <<< (((7 : Int32) * (0 : Int32)) &&& 0x3f).toInt64) := if_pos (by decide)
  have t1 : own_tm f PP 1 (1 : Int32) (Int32.ofNat 3) = ((f (PP + 1) &&& (127 : Int32)).toInt64 <<< (((7 : Int32) * (1 : Int32)) &&& 0x3f).toInt64) := if_pos (by decide)
  have t2 : own_tm f PP 2 (2 : Int32) (Int32.ofNat 3) = ((f (PP + 2) &&& (127 : Int32)).toInt64 <<< (((7 : Int32) * (2 : Int32)) &&& 0x3f).toInt64) := if_pos (by decide)
  have t3 : own_tm f PP 3 (3 : Int32) (Int32.ofNat 3) = 0 := if_neg (by decide)
  have t4 : own_tm f PP 4 (4 : Int32) (Int32.ofNat 3) = 0 := if_neg (by decide)
  have t5 : own_tm f PP 5 (5 : Int32) (Int32.ofNat 3) = 0 := if_neg (by decide)
  have t6 : own_tm f PP 6 (6 : Int32) (Int32.ofNat 3) = 0 := if_neg (by decide)
  have t7 : own_tm f PP 7 (7 : Int32) (Int32.ofNat 3) = 0 := if_neg (by decide)
  have t8 : own_tm f PP 8 (8 : Int32) (Int32.ofNat 3) = 0 := if_neg (by decide)
  have t9 : own_tm f PP 9 (9 : Int32) (Int32.ofNat 3) = 0 := if_neg (by decide)
  rw [t0, t1, t2, t3, t4, t5, t6, t7, t8, t9]
  simp only [Int64.or_zero]
  show ((((0 : Int64) ||| ((f (PP + 0) &&& (127 : Int32)).toInt64 <<< ((0 : Int32) &&& 0x3f).toInt64)) ||| ((f (PP + 1) &&& (127 : Int32)).toInt64 <<< (((0 : Int32) + (7 : Int32)) &&& 0x3f).toInt64)) ||| ((f (PP + 2)).toInt64 <<< ((((0 : Int32) + (7 : Int32)) + (7 : Int32)) &&& 0x3f).toInt64)) = _
  rw [Int64.zero_or, hl]
  rw [show ((0 : Int32) &&& 0x3f).toInt64 = (((7 : Int32) * (0 : Int32)) &&& 0x3f).toInt64 by decide]
  rw [show (((0 : Int32) + (7 : Int32)) &&& 0x3f).toInt64 = (((7 : Int32) * (1 : Int32)) &&& 0x3f).toInt64 by decide]
  rw [show ((((0 : Int32) + (7 : Int32)) + (7 : Int32)) &&& 0x3f).toInt64 = (((7 : Int32) * (2 : Int32)) &&& 0x3f).toInt64 by decide]
theorem own_tot4 (f : Nat → Int32) (PP : Nat) (hl : (f (PP + 3) &&& (127 : Int32)) = f (PP + 3)) : own_rd f PP 3 0 0 = ((((((((((own_tm f PP 0 (0 : Int32) (Int32.ofNat 4) ||| own_tm f PP 1 (1 : Int32) (Int32.ofNat 4)) ||| own_tm f PP 2 (2 : Int32) (Int32.ofNat 4)) ||| own_tm f PP 3 (3 : Int32) (Int32.ofNat 4)) ||| own_tm f PP 4 (4 : Int32) (Int32.ofNat 4)) ||| own_tm f PP 5 (5 : Int32) (Int32.ofNat 4)) ||| own_tm f PP 6 (6 : Int32) (Int32.ofNat 4)) ||| own_tm f PP 7 (7 : Int32) (Int32.ofNat 4)) ||| own_tm f PP 8 (8 : Int32) (Int32.ofNat 4)) ||| own_tm f PP 9 (9 : Int32) (Int32.ofNat 4))) := by
  have t0 : own_tm f PP 0 (0 : Int32) (Int32.ofNat 4) = ((f (PP + 0) &&& (127 : Int32)).toInt64 <<< (((7 : Int32) * (0 : Int32)) &&& 0x3f).toInt64) := if_pos (by decide)
  have t1 : own_tm f PP 1 (1 : Int32) (Int32.ofNat 4) = ((f (PP + 1) &&& (127 : Int32)).toInt64 <<< (((7 : Int32) * (1 : Int32)) &&& 0x3f).toInt64) := if_pos (by decide)
  have t2 : own_tm f PP 2 (2 : Int32) (Int32.ofNat 4) = ((f (PP + 2) &&& (127 : Int32)).toInt64 <<< (((7 : Int32) * (2 : Int32)) &&& 0x3f).toInt64) := if_pos (by decide)
  have t3 : own_tm f PP 3 (3 : Int32) (Int32.ofNat 4) = ((f (PP + 3) &&& (127 : Int32)).toInt64 <<< (((7 : Int32) * (3 : Int32)) &&& 0x3f).toInt64) := if_pos (by decide)
  have t4 : own_tm f PP 4 (4 : Int32) (Int32.ofNat 4) = 0 := if_neg (by decide)
  have t5 : own_tm f PP 5 (5 : Int32) (Int32.ofNat 4) = 0 := if_neg (by decide)
  have t6 : own_tm f PP 6 (6 : Int32) (Int32.ofNat 4) = 0 := if_neg (by decide)
  have t7 : own_tm f PP 7 (7 : Int32) (Int32.ofNat 4) = 0 := if_neg (by decide)
  have t8 : own_tm f PP 8 (8 : Int32) (Int32.ofNat 4) = 0 := if_neg (by decide)
  have t9 : own_tm f PP 9 (9 : Int32) (Int32.ofNat 4) = 0 := if_neg (by decide)
  rw [t0, t1, t2, t3, t4, t5, t6, t7, t8, t9]
  simp only [Int64.or_zero]
  show (((((0 : Int64) ||| ((f (PP + 0) &&& (127 : Int32)).toInt64 <<< ((0 : Int32) &&& 0x3f).toInt64)) ||| ((f (PP + 1) &&& (127 : Int32)).toInt64 <<< (((0 : Int32) + (7 : Int32)) &&& 0x3f).toInt64)) ||| ((f (PP + 2) &&& (127 : Int32)).toInt64 <<< ((((0 : Int32) + (7 : Int32)) + (7 : Int32)) &&& 0x3f).toInt64)) ||| ((f (PP + 3)).toInt64 <<< (((((0 : Int32) + (7 : Int32)) + (7 : Int32)) + (7 : Int32)) &&& 0x3f).toInt64)) = _
  rw [Int64.zero_or, hl]
  rw [show ((0 : Int32) &&& 0x3f).toInt64 = (((7 : Int32) * (0 : Int32)) &&& 0x3f).toInt64 by decide]
  rw [show (((0 : Int32) + (7 : Int32)) &&& 0x3f).toInt64 = (((7 : Int32) * (1 : Int32)) &&& 0x3f).toInt64 by decide]
  rw [show ((((0 : Int32) + (7 : Int32)) + (7 : Int32)) &&& 0x3f).toInt64 = (((7 : Int32) * (2 : Int32)) &&& 0x3f).toInt64 by decide]
  rw [show (((((0 : Int32) + (7 : Int32)) + (7 : Int32)) + (7 : Int32)) &&& 0x3f).toInt64 = (((7 : Int32) * (3 : Int32)) &&& 0x3f).toInt64 by decide]
theorem own_tot5 (f : Nat → Int32) (PP : Nat) (hl : (f (PP + 4) &&& (127 : Int32)) = f (PP + 4)) : own_rd f PP 4 0 0 = ((((((((((own_tm f PP 0 (0 : Int32) (Int32.ofNat 5) ||| own_tm f PP 1 (1 : Int32) (Int32.ofNat 5)) ||| own_tm f PP 2 (2 : Int32) (Int32.ofNat 5)) ||| own_tm f PP 3 (3 : Int32) (Int32.ofNat 5)) ||| own_tm f PP 4 (4 : Int32) (Int32.ofNat 5)) ||| own_tm f PP 5 (5 : Int32) (Int32.ofNat 5)) ||| own_tm f PP 6 (6 : Int32) (Int32.ofNat 5)) ||| own_tm f PP 7 (7 : Int32) (Int32.ofNat 5)) ||| own_tm f PP 8 (8 : Int32) (Int32.ofNat 5)) ||| own_tm f PP 9 (9 : Int32) (Int32.ofNat 5))) := by
  have t0 : own_tm f PP 0 (0 : Int32) (Int32.ofNat 5) = ((f (PP + 0) &&& (127 : Int32)).toInt64 <<< (((7 : Int32) * (0 : Int32)) &&& 0x3f).toInt64) := if_pos (by decide)
  have t1 : own_tm f PP 1 (1 : Int32) (Int32.ofNat 5) = ((f (PP + 1) &&& (127 : Int32)).toInt64 <<< (((7 : Int32) * (1 : Int32)) &&& 0x3f).toInt64) := if_pos (by decide)
  have t2 : own_tm f PP 2 (2 : Int32) (Int32.ofNat 5) = ((f (PP + 2) &&& (127 : Int32)).toInt64 <<< (((7 : Int32) * (2 : Int32)) &&& 0x3f).toInt64) := if_pos (by decide)
  have t3 : own_tm f PP 3 (3 : Int32) (Int32.ofNat 5) = ((f (PP + 3) &&& (127 : Int32)).toInt64 <<< (((7 : Int32) * (3 : Int32)) &&& 0x3f).toInt64) := if_pos (by decide)
  have t4 : own_tm f PP 4 (4 : Int32) (Int32.ofNat 5) = ((f (PP + 4) &&& (127 : Int32)).toInt64 <<< (((7 : Int32) * (4 : Int32)) &&& 0x3f).toInt64) := if_pos (by decide)
  have t5 : own_tm f PP 5 (5 : Int32) (Int32.ofNat 5) = 0 := if_neg (by decide)
  have t6 : own_tm f PP 6 (6 : Int32) (Int32.ofNat 5) = 0 := if_neg (by decide)
  have t7 : own_tm f PP 7 (7 : Int32) (Int32.ofNat 5) = 0 := if_neg (by decide)
  have t8 : own_tm f PP 8 (8 : Int32) (Int32.ofNat 5) = 0 := if_neg (by decide)
  have t9 : own_tm f PP 9 (9 : Int32) (Int32.ofNat 5) = 0 := if_neg (by decide)
  rw [t0, t1, t2, t3, t4, t5, t6, t7, t8, t9]
  simp only [Int64.or_zero]
  show ((((((0 : Int64) ||| ((f (PP + 0) &&& (127 : Int32)).toInt64 <<< ((0 : Int32) &&& 0x3f).toInt64)) ||| ((f (PP + 1) &&& (127 : Int32)).toInt64 <<< (((0 : Int32) + (7 : Int32)) &&& 0x3f).toInt64)) ||| ((f (PP + 2) &&& (127 : Int32)).toInt64 <<< ((((0 : Int32) + (7 : Int32)) + (7 : Int32)) &&& 0x3f).toInt64)) ||| ((f (PP + 3) &&& (127 : Int32)).toInt64 <<< (((((0 : Int32) + (7 : Int32)) + (7 : Int32)) + (7 : Int32)) &&& 0x3f).toInt64)) ||| ((f (PP + 4)).toInt64 <<< ((((((0 : Int32) + (7 : Int32)) + (7 : Int32)) + (7 : Int32)) + (7 : Int32)) &&& 0x3f).toInt64)) = _
  rw [Int64.zero_or, hl]
  rw [show ((0 : Int32) &&& 0x3f).toInt64 = (((7 : Int32) * (0 : Int32)) &&& 0x3f).toInt64 by decide]
  rw [show (((0 : Int32) + (7 : Int32)) &&& 0x3f).toInt64 = (((7 : Int32) * (1 : Int32)) &&& 0x3f).toInt64 by decide]
  rw [show ((((0 : Int32) + (7 : Int32)) + (7 : Int32)) &&& 0x3f).toInt64 = (((7 : Int32) * (2 : Int32)) &&& 0x3f).toInt64 by decide]
  rw [show (((((0 : Int32) + (7 : Int32)) + (7 : Int32)) + (7 : Int32)) &&& 0x3f).toInt64 = (((7 : Int32) * (3 : Int32)) &&& 0x3f).toInt64 by decide]
  rw [show ((((((0 : Int32) + (7 : Int32)) + (7 : Int32)) + (7 : Int32)) + (7 : Int32)) &&& 0x3f).toInt64 = (((7 : Int32) * (4 : Int32)) &&& 0x3f).toInt64 by decide]
theorem own_tot6 (f : Nat → Int32) (PP : Nat) (hl : (f (PP + 5) &&& (127 : Int32)) = f (PP + 5)) : own_rd f PP 5 0 0 = ((((((((((own_tm f PP 0 (0 : Int32) (Int32.ofNat 6) ||| own_tm f PP 1 (1 : Int32) (Int32.ofNat 6)) ||| own_tm f PP 2 (2 : Int32) (Int32.ofNat 6)) ||| own_tm f PP 3 (3 : Int32) (Int32.ofNat 6)) ||| own_tm f PP 4 (4 : Int32) (Int32.ofNat 6)) ||| own_tm f PP 5 (5 : Int32) (Int32.ofNat 6)) ||| own_tm f PP 6 (6 : Int32) (Int32.ofNat 6)) ||| own_tm f PP 7 (7 : Int32) (Int32.ofNat 6)) ||| own_tm f PP 8 (8 : Int32) (Int32.ofNat 6)) ||| own_tm f PP 9 (9 : Int32) (Int32.ofNat 6))) := by
  have t0 : own_tm f PP 0 (0 : Int32) (Int32.ofNat 6) = ((f (PP + 0) &&& (127 : Int32)).toInt64 <<< (((7 : Int32) * (0 : Int32)) &&& 0x3f).toInt64) := if_pos (by decide)
  have t1 : own_tm f PP 1 (1 : Int32) (Int32.ofNat 6) = ((f (PP + 1) &&& (127 : Int32)).toInt64 <<< (((7 : Int32) * (1 : Int32)) &&& 0x3f).toInt64) := if_pos (by decide)
  have t2 : own_tm f PP 2 (2 : Int32) (Int32.ofNat 6) = ((f (PP + 2) &&& (127 : Int32)).toInt64 <<< (((7 : Int32) * (2 : Int32)) &&& 0x3f).toInt64) := if_pos (by decide)
  have t3 : own_tm f PP 3 (3 : Int32) (Int32.ofNat 6) = ((f (PP + 3) &&& (127 : Int32)).toInt64 <<< (((7 : Int32) * (3 : Int32)) &&& 0x3f).toInt64) := if_pos (by decide)
  have t4 : own_tm f PP 4 (4 : Int32) (Int32.ofNat 6) = ((f (PP + 4) &&& (127 : Int32)).toInt64 <<< (((7 : Int32) * (4 : Int32)) &&& 0x3f).toInt64) := if_pos (by decide)
  have t5 : own_tm f PP 5 (5 : Int32) (Int32.ofNat 6) = ((f (PP + 5) &&& (127 : Int32)).toInt64 <<< (((7 : Int32) * (5 : Int32)) &&& 0x3f).toInt64) := if_pos (by decide)
  have t6 : own_tm f PP 6 (6 : Int32) (Int32.ofNat 6) = 0 := if_neg (by decide)
  have t7 : own_tm f PP 7 (7 : Int32) (Int32.ofNat 6) = 0 := if_neg (by decide)
  have t8 : own_tm f PP 8 (8 : Int32) (Int32.ofNat 6) = 0 := if_neg (by decide)
  have t9 : own_tm f PP 9 (9 : Int32) (Int32.ofNat 6) = 0 := if_neg (by decide)
  rw [t0, t1, t2, t3, t4, t5, t6, t7, t8, t9]
  simp only [Int64.or_zero]
  show (((((((0 : Int64) ||| ((f (PP + 0) &&& (127 : Int32)).toInt64 <<< ((0 : Int32) &&& 0x3f).toInt64)) ||| ((f (PP + 1) &&& (127 : Int32)).toInt64 <<< (((0 : Int32) + (7 : Int32)) &&& 0x3f).toInt64)) ||| ((f (PP + 2) &&& (127 : Int32)).toInt64 <<< ((((0 : Int32) + (7 : Int32)) + (7 : Int32)) &&& 0x3f).toInt64)) ||| ((f (PP + 3) &&& (127 : Int32)).toInt64 <<< (((((0 : Int32) + (7 : Int32)) + (7 : Int32)) + (7 : Int32)) &&& 0x3f).toInt64)) ||| ((f (PP + 4) &&& (127 : Int32)).toInt64 <<< ((((((0 : Int32) + (7 : Int32)) + (7 : Int32)) + (7 : Int32)) + (7 : Int32)) &&& 0x3f).toInt64)) ||| ((f (PP + 5)).toInt64 <<< (((((((0 : Int32) + (7 : Int32)) + (7 : Int32)) + (7 : Int32)) + (7 : Int32)) + (7 : Int32)) &&& 0x3f).toInt64)) = _
  rw [Int64.zero_or, hl]
  rw [show ((0 : Int32) &&& 0x3f).toInt64 = (((7 : Int32) * (0 : Int32)) &&& 0x3f).toInt64 by decide]
  rw [show (((0 : Int32) + (7 : Int32)) &&& 0x3f).toInt64 = (((7 : Int32) * (1 : Int32)) &&& 0x3f).toInt64 by decide]
  rw [show ((((0 : Int32) + (7 : Int32)) + (7 : Int32)) &&& 0x3f).toInt64 = (((7 : Int32) * (2 : Int32)) &&& 0x3f).toInt64 by decide]
  rw [show (((((0 : Int32) + (7 : Int32)) + (7 : Int32)) + (7 : Int32)) &&& 0x3f).toInt64 = (((7 : Int32) * (3 : Int32)) &&& 0x3f).toInt64 by decide]
  rw [show ((((((0 : Int32) + (7 : Int32)) + (7 : Int32)) + (7 : Int32)) + (7 : Int32)) &&& 0x3f).toInt64 = (((7 : Int32) * (4 : Int32)) &&& 0x3f).toInt64 by decide]
  rw [show (((((((0 : Int32) + (7 : Int32)) + (7 : Int32)) + (7 : Int32)) + (7 : Int32)) + (7 : Int32)) &&& 0x3f).toInt64 = (((7 : Int32) * (5 : Int32)) &&& 0x3f).toInt64 by decide]
theorem own_tot7 (f : Nat → Int32) (PP : Nat) (hl : (f (PP + 6) &&& (127 : Int32)) = f (PP + 6)) : own_rd f PP 6 0 0 = ((((((((((own_tm f PP 0 (0 : Int32) (Int32.ofNat 7) ||| own_tm f PP 1 (1 : Int32) (Int32.ofNat 7)) ||| own_tm f PP 2 (2 : Int32) (Int32.ofNat 7)) ||| own_tm f PP 3 (3 : Int32) (Int32.ofNat 7)) ||| own_tm f PP 4 (4 : Int32) (Int32.ofNat 7)) ||| own_tm f PP 5 (5 : Int32) (Int32.ofNat 7)) ||| own_tm f PP 6 (6 : Int32) (Int32.ofNat 7)) ||| own_tm f PP 7 (7 : Int32) (Int32.ofNat 7)) ||| own_tm f PP 8 (8 : Int32) (Int32.ofNat 7)) ||| own_tm f PP 9 (9 : Int32) (Int32.ofNat 7))) := by
  have t0 : own_tm f PP 0 (0 : Int32) (Int32.ofNat 7) = ((f (PP + 0) &&& (127 : Int32)).toInt64 <<< (((7 : Int32) * (0 : Int32)) &&& 0x3f).toInt64) := if_pos (by decide)
  have t1 : own_tm f PP 1 (1 : Int32) (Int32.ofNat 7) = ((f (PP + 1) &&& (127 : Int32)).toInt64 <<< (((7 : Int32) * (1 : Int32)) &&& 0x3f).toInt64) := if_pos (by decide)
  have t2 : own_tm f PP 2 (2 : Int32) (Int32.ofNat 7) = ((f (PP + 2) &&& (127 : Int32)).toInt64 <<< (((7 : Int32) * (2 : Int32)) &&& 0x3f).toInt64) := if_pos (by decide)
  have t3 : own_tm f PP 3 (3 : Int32) (Int32.ofNat 7) = ((f (PP + 3) &&& (127 : Int32)).toInt64 <<< (((7 : Int32) * (3 : Int32)) &&& 0x3f).toInt64) := if_pos (by decide)
  have t4 : own_tm f PP 4 (4 : Int32) (Int32.ofNat 7) = ((f (PP + 4) &&& (127 : Int32)).toInt64 <<< (((7 : Int32) * (4 : Int32)) &&& 0x3f).toInt64) := if_pos (by decide)
  have t5 : own_tm f PP 5 (5 : Int32) (Int32.ofNat 7) = ((f (PP + 5) &&& (127 : Int32)).toInt64 <<< (((7 : Int32) * (5 : Int32)) &&& 0x3f).toInt64) := if_pos (by decide)
  have t6 : own_tm f PP 6 (6 : Int32) (Int32.ofNat 7) = ((f (PP + 6) &&& (127 : Int32)).toInt64 <<< (((7 : Int32) * (6 : Int32)) &&& 0x3f).toInt64) := if_pos (by decide)
  have t7 : own_tm f PP 7 (7 : Int32) (Int32.ofNat 7) = 0 := if_neg (by decide)
  have t8 : own_tm f PP 8 (8 : Int32) (Int32.ofNat 7) = 0 := if_neg (by decide)
  have t9 : own_tm f PP 9 (9 : Int32) (Int32.ofNat 7) = 0 := if_neg (by decide)
  rw [t0, t1, t2, t3, t4, t5, t6, t7, t8, t9]
  simp only [Int64.or_zero]
  show ((((((((0 : Int64) ||| ((f (PP + 0) &&& (127 : Int32)).toInt64 <<< ((0 : Int32) &&& 0x3f).toInt64)) ||| ((f (PP + 1) &&& (127 : Int32)).toInt64 <<< (((0 : Int32) + (7 : Int32)) &&& 0x3f).toInt64)) ||| ((f (PP + 2) &&& (127 : Int32)).toInt64 <<< ((((0 : Int32) + (7 : Int32)) + (7 : Int32)) &&& 0x3f).toInt64)) ||| ((f (PP + 3) &&& (127 : Int32)).toInt64 <<< (((((0 : Int32) + (7 : Int32)) + (7 : Int32)) + (7 : Int32)) &&& 0x3f).toInt64)) ||| ((f (PP + 4) &&& (127 : Int32)).toInt64 <<< ((((((0 : Int32) + (7 : Int32)) + (7 : Int32)) + (7 : Int32)) + (7 : Int32)) &&& 0x3f).toInt64)) ||| ((f (PP + 5) &&& (127 : Int32)).toInt64 <<< (((((((0 : Int32) + (7 : Int32)) + (7 : Int32)) + (7 : Int32)) + (7 : Int32)) + (7 : Int32)) &&& 0x3f).toInt64)) ||| ((f (PP + 6)).toInt64 <<< ((((((((0 : Int32) + (7 : Int32)) + (7 : Int32)) + (7 : Int32)) + (7 : Int32)) + (7 : Int32)) + (7 : Int32)) &&& 0x3f).toInt64)) = _
  rw [Int64.zero_or, hl]
  rw [show ((0 : Int32) &&& 0x3f).toInt64 = (((7 : Int32) * (0 : Int32)) &&& 0x3f).toInt64 by decide]
  rw [show (((0 : Int32) + (7 : Int32)) &&& 0x3f).toInt64 = (((7 : Int32) * (1 : Int32)) &&& 0x3f).toInt64 by decide]
  rw [show ((((0 : Int32) + (7 : Int32)) + (7 : Int32)) &&& 0x3f).toInt64 = (((7 : Int32) * (2 : Int32)) &&& 0x3f).toInt64 by decide]
  rw [show (((((0 : Int32) + (7 : Int32)) + (7 : Int32)) + (7 : Int32)) &&& 0x3f).toInt64 = (((7 : Int32) * (3 : Int32)) &&& 0x3f).toInt64 by decide]
  rw [show ((((((0 : Int32) + (7 : Int32)) + (7 : Int32)) + (7 : Int32)) + (7 : Int32)) &&& 0x3f).toInt64 = (((7 : Int32) * (4 : Int32)) &&& 0x3f).toInt64 by decide]
  rw [show (((((((0 : Int32) + (7 : Int32)) + (7 : Int32)) + (7 : Int32)) + (7 : Int32)) + (7 : Int32)) &&& 0x3f).toInt64 = (((7 : Int32) * (5 : Int32)) &&& 0x3f).toInt64 by decide]
  rw [show ((((((((0 : Int32) + (7 : Int32)) + (7 : Int32)) + (7 : Int32)) + (7 : Int32)) + (7 : Int32)) + (7 : Int32)) &&& 0x3f).toInt64 = (((7 : Int32) * (6 : Int32)) &&& 0x3f).toInt64 by decide]
theorem own_tot8 (f : Nat → Int32) (PP : Nat) (hl : (f (PP + 7) &&& (127 : Int32)) = f (PP + 7)) : own_rd f PP 7 0 0 = ((((((((((own_tm f PP 0 (0 : Int32) (Int32.ofNat 8) ||| own_tm f PP 1 (1 : Int32) (Int32.ofNat 8)) ||| own_tm f PP 2 (2 : Int32) (Int32.ofNat 8)) ||| own_tm f PP 3 (3 : Int32) (Int32.ofNat 8)) ||| own_tm f PP 4 (4 : Int32) (Int32.ofNat 8)) ||| own_tm f PP 5 (5 : Int32) (Int32.ofNat 8)) ||| own_tm f PP 6 (6 : Int32) (Int32.ofNat 8)) ||| own_tm f PP 7 (7 : Int32) (Int32.ofNat 8)) ||| own_tm f PP 8 (8 : Int32) (Int32.ofNat 8)) ||| own_tm f PP 9 (9 : Int32) (Int32.ofNat 8))) := by
  have t0 : own_tm f PP 0 (0 : Int32) (Int32.ofNat 8) = ((f (PP + 0) &&& (127 : Int32)).toInt64 <<< (((7 : Int32) * (0 : Int32)) &&& 0x3f).toInt64) := if_pos (by decide)
  have t1 : own_tm f PP 1 (1 : Int32) (Int32.ofNat 8) = ((f (PP + 1) &&& (127 : Int32)).toInt64 <<< (((7 : Int32) * (1 : Int32)) &&& 0x3f).toInt64) := if_pos (by decide)
  have t2 : own_tm f PP 2 (2 : Int32) (Int32.ofNat 8) = ((f (PP + 2) &&& (127 : Int32)).toInt64 <<< (((7 : Int32) * (2 : Int32)) &&& 0x3f).toInt64) := if_pos (by decide)
  have t3 : own_tm f PP 3 (3 : Int32) (Int32.ofNat 8) = ((f (PP + 3) &&& (127 : Int32)).toInt64 <<< (((7 : Int32) * (3 : Int32)) &&& 0x3f).toInt64) := if_pos (by decide)
  have t4 : own_tm f PP 4 (4 : Int32) (Int32.ofNat 8) = ((f (PP + 4) &&& (127 : Int32)).toInt64 <<< (((7 : Int32) * (4 : Int32)) &&& 0x3f).toInt64) := if_pos (by decide)
  have t5 : own_tm f PP 5 (5 : Int32) (Int32.ofNat 8) = ((f (PP + 5) &&& (127 : Int32)).toInt64 <<< (((7 : Int32) * (5 : Int32)) &&& 0x3f).toInt64) := if_pos (by decide)
  have t6 : own_tm f PP 6 (6 : Int32) (Int32.ofNat 8) = ((f (PP + 6) &&& (127 : Int32)).toInt64 <<< (((7 : Int32) * (6 : Int32)) &&& 0x3f).toInt64) := if_pos (by decide)
  have t7 : own_tm f PP 7 (7 : Int32) (Int32.ofNat 8) = ((f (PP + 7) &&& (127 : Int32)).toInt64 <<< (((7 : Int32) * (7 : Int32)) &&& 0x3f).toInt64) := if_pos (by decide)
  have t8 : own_tm f PP 8 (8 : Int32) (Int32.ofNat 8) = 0 := if_neg (by decide)
  have t9 : own_tm f PP 9 (9 : Int32) (Int32.ofNat 8) = 0 := if_neg (by decide)
  rw [t0, t1, t2, t3, t4, t5, t6, t7, t8, t9]
  simp only [Int64.or_zero]
  show (((((((((0 : Int64) ||| ((f (PP + 0) &&& (127 : Int32)).toInt64 <<< ((0 : Int32) &&& 0x3f).toInt64)) ||| ((f (PP + 1) &&& (127 : Int32)).toInt64 <<< (((0 : Int32) + (7 : Int32)) &&& 0x3f).toInt64)) ||| ((f (PP + 2) &&& (127 : Int32)).toInt64 <<< ((((0 : Int32) + (7 : Int32)) + (7 : Int32)) &&& 0x3f).toInt64)) ||| ((f (PP + 3) &&& (127 : Int32)).toInt64 <<< (((((0 : Int32) + (7 : Int32)) + (7 : Int32)) + (7 : Int32)) &&& 0x3f).toInt64)) ||| ((f (PP + 4) &&& (127 : Int32)).toInt64 <<< ((((((0 : Int32) + (7 : Int32)) + (7 : Int32)) + (7 : Int32)) + (7 : Int32)) &&& 0x3f).toInt64)) ||| ((f (PP + 5) &&& (127 : Int32)).toInt64 <<< (((((((0 : Int32) + (7 : Int32)) + (7 : Int32)) + (7 : Int32)) + (7 : Int32)) + (7 : Int32)) &&& 0x3f).toInt64)) ||| ((f (PP + 6) &&& (127 : Int32)).toInt64 <<< ((((((((0 : Int32) + (7 : Int32)) + (7 : Int32)) + (7 : Int32)) + (7 : Int32)) + (7 : Int32)) + (7 : Int32)) &&& 0x3f).toInt64)) ||| ((f (PP + 7)).toInt64 <<< (((((((((0 : Int32) + (7 : Int32)) + (7 : Int32)) + (7 : Int32)) + (7 : Int32)) + (7 : Int32)) + (7 : Int32)) + (7 : Int32)) &&& 0x3f).toInt64)) = _
  rw [Int64.zero_or, hl]
  rw [show ((0 : Int32) &&& 0x3f).toInt64 = (((7 : Int32) * (0 : Int32)) &&& 0x3f).toInt64 by decide]
  rw [show (((0 : Int32) + (7 : Int32)) &&& 0x3f).toInt64 = (((7 : Int32) * (1 : Int32)) &&& 0x3f).toInt64 by decide]
  rw [show ((((0 : Int32) + (7 : Int32)) + (7 : Int32)) &&& 0x3f).toInt64 = (((7 : Int32) * (2 : Int32)) &&& 0x3f).toInt64 by decide]
  rw [show (((((0 : Int32) + (7 : Int32)) + (7 : Int32)) + (7 : Int32)) &&& 0x3f).toInt64 = (((7 : Int32) * (3 : Int32)) &&& 0x3f).toInt64 by decide]
  rw [show ((((((0 : Int32) + (7 : Int32)) + (7 : Int32)) + (7 : Int32)) + (7 : Int32)) &&& 0x3f).toInt64 = (((7 : Int32) * (4 : Int32)) &&& 0x3f).toInt64 by decide]
  rw [show (((((((0 : Int32) + (7 : Int32)) + (7 : Int32)) + (7 : Int32)) + (7 : Int32)) + (7 : Int32)) &&& 0x3f).toInt64 = (((7 : Int32) * (5 : Int32)) &&& 0x3f).toInt64 by decide]
  rw [show ((((((((0 : Int32) + (7 : Int32)) + (7 : Int32)) + (7 : Int32)) + (7 : Int32)) + (7 : Int32)) + (7 : Int32)) &&& 0x3f).toInt64 = (((7 : Int32) * (6 : Int32)) &&& 0x3f).toInt64 by decide]
  rw [show (((((((((0 : Int32) + (7 : Int32)) + (7 : Int32)) + (7 : Int32)) + (7 : Int32)) + (7 : Int32)) + (7 : Int32)) + (7 : Int32)) &&& 0x3f).toInt64 = (((7 : Int32) * (7 : Int32)) &&& 0x3f).toInt64 by decide]
theorem own_tot9 (f : Nat → Int32) (PP : Nat) (hl : (f (PP + 8) &&& (127 : Int32)) = f (PP + 8)) : own_rd f PP 8 0 0 = ((((((((((own_tm f PP 0 (0 : Int32) (Int32.ofNat 9) ||| own_tm f PP 1 (1 : Int32) (Int32.ofNat 9)) ||| own_tm f PP 2 (2 : Int32) (Int32.ofNat 9)) ||| own_tm f PP 3 (3 : Int32) (Int32.ofNat 9)) ||| own_tm f PP 4 (4 : Int32) (Int32.ofNat 9)) ||| own_tm f PP 5 (5 : Int32) (Int32.ofNat 9)) ||| own_tm f PP 6 (6 : Int32) (Int32.ofNat 9)) ||| own_tm f PP 7 (7 : Int32) (Int32.ofNat 9)) ||| own_tm f PP 8 (8 : Int32) (Int32.ofNat 9)) ||| own_tm f PP 9 (9 : Int32) (Int32.ofNat 9))) := by
  have t0 : own_tm f PP 0 (0 : Int32) (Int32.ofNat 9) = ((f (PP + 0) &&& (127 : Int32)).toInt64 <<< (((7 : Int32) * (0 : Int32)) &&& 0x3f).toInt64) := if_pos (by decide)
  have t1 : own_tm f PP 1 (1 : Int32) (Int32.ofNat 9) = ((f (PP + 1) &&& (127 : Int32)).toInt64 <<< (((7 : Int32) * (1 : Int32)) &&& 0x3f).toInt64) := if_pos (by decide)
  have t2 : own_tm f PP 2 (2 : Int32) (Int32.ofNat 9) = ((f (PP + 2) &&& (127 : Int32)).toInt64 <<< (((7 : Int32) * (2 : Int32)) &&& 0x3f).toInt64) := if_pos (by decide)
  have t3 : own_tm f PP 3 (3 : Int32) (Int32.ofNat 9) = ((f (PP + 3) &&& (127 : Int32)).toInt64 <<< (((7 : Int32) * (3 : Int32)) &&& 0x3f).toInt64) := if_pos (by decide)
  have t4 : own_tm f PP 4 (4 : Int32) (Int32.ofNat 9) = ((f (PP + 4) &&& (127 : Int32)).toInt64 <<< (((7 : Int32) * (4 : Int32)) &&& 0x3f).toInt64) := if_pos (by decide)
  have t5 : own_tm f PP 5 (5 : Int32) (Int32.ofNat 9) = ((f (PP + 5) &&& (127 : Int32)).toInt64 <<< (((7 : Int32) * (5 : Int32)) &&& 0x3f).toInt64) := if_pos (by decide)
  have t6 : own_tm f PP 6 (6 : Int32) (Int32.ofNat 9) = ((f (PP + 6) &&& (127 : Int32)).toInt64 <<< (((7 : Int32) * (6 : Int32)) &&& 0x3f).toInt64) := if_pos (by decide)
  have t7 : own_tm f PP 7 (7 : Int32) (Int32.ofNat 9) = ((f (PP + 7) &&& (127 : Int32)).toInt64 <<< (((7 : Int32) * (7 : Int32)) &&& 0x3f).toInt64) := if_pos (by decide)
  have t8 : own_tm f PP 8 (8 : Int32) (Int32.ofNat 9) = ((f (PP + 8) &&& (127 : Int32)).toInt64 <<< (((7 : Int32) * (8 : Int32)) &&& 0x3f).toInt64) := if_pos (by decide)
  have t9 : own_tm f PP 9 (9 : Int32) (Int32.ofNat 9) = 0 := if_neg (by decide)
  rw [t0, t1, t2, t3, t4, t5, t6, t7, t8, t9]
  simp only [Int64.or_zero]
  show ((((((((((0 : Int64) ||| ((f (PP + 0) &&& (127 : Int32)).toInt64 <<< ((0 : Int32) &&& 0x3f).toInt64)) ||| ((f (PP + 1) &&& (127 : Int32)).toInt64 <<< (((0 : Int32) + (7 : Int32)) &&& 0x3f).toInt64)) ||| ((f (PP + 2) &&& (127 : Int32)).toInt64 <<< ((((0 : Int32) + (7 : Int32)) + (7 : Int32)) &&& 0x3f).toInt64)) ||| ((f (PP + 3) &&& (127 : Int32)).toInt64 <<< (((((0 : Int32) + (7 : Int32)) + (7 : Int32)) + (7 : Int32)) &&& 0x3f).toInt64)) ||| ((f (PP + 4) &&& (127 : Int32)).toInt64 <<< ((((((0 : Int32) + (7 : Int32)) + (7 : Int32)) + (7 : Int32)) + (7 : Int32)) &&& 0x3f).toInt64)) ||| ((f (PP + 5) &&& (127 : Int32)).toInt64 <<< (((((((0 : Int32) + (7 : Int32)) + (7 : Int32)) + (7 : Int32)) + (7 : Int32)) + (7 : Int32)) &&& 0x3f).toInt64)) ||| ((f (PP + 6) &&& (127 : Int32)).toInt64 <<< ((((((((0 : Int32) + (7 : Int32)) + (7 : Int32)) + (7 : Int32)) + (7 : Int32)) + (7 : Int32)) + (7 : Int32)) &&& 0x3f).toInt64)) ||| ((f (PP + 7) &&& (127 : Int32)).toInt64 <<< (((((((((0 : Int32) + (7 : Int32)) + (7 : Int32)) + (7 : Int32)) + (7 : Int32)) + (7 : Int32)) + (7 : Int32)) + (7 : Int32)) &&& 0x3f).toInt64)) ||| ((f (PP + 8)).toInt64 <<< ((((((((((0 : Int32) + (7 : Int32)) + (7 : Int32)) + (7 : Int32)) + (7 : Int32)) + (7 : Int32)) + (7 : Int32)) + (7 : Int32)) + (7 : Int32)) &&& 0x3f).toInt64)) = _
  rw [Int64.zero_or, hl]
  rw [show ((0 : Int32) &&& 0x3f).toInt64 = (((7 : Int32) * (0 : Int32)) &&& 0x3f).toInt64 by decide]
  rw [show (((0 : Int32) + (7 : Int32)) &&& 0x3f).toInt64 = (((7 : Int32) * (1 : Int32)) &&& 0x3f).toInt64 by decide]
  rw [show ((((0 : Int32) + (7 : Int32)) + (7 : Int32)) &&& 0x3f).toInt64 = (((7 : Int32) * (2 : Int32)) &&& 0x3f).toInt64 by decide]
  rw [show (((((0 : Int32) + (7 : Int32)) + (7 : Int32)) + (7 : Int32)) &&& 0x3f).toInt64 = (((7 : Int32) * (3 : Int32)) &&& 0x3f).toInt64 by decide]
  rw [show ((((((0 : Int32) + (7 : Int32)) + (7 : Int32)) + (7 : Int32)) + (7 : Int32)) &&& 0x3f).toInt64 = (((7 : Int32) * (4 : Int32)) &&& 0x3f).toInt64 by decide]
  rw [show (((((((0 : Int32) + (7 : Int32)) + (7 : Int32)) + (7 : Int32)) + (7 : Int32)) + (7 : Int32)) &&& 0x3f).toInt64 = (((7 : Int32) * (5 : Int32)) &&& 0x3f).toInt64 by decide]
  rw [show ((((((((0 : Int32) + (7 : Int32)) + (7 : Int32)) + (7 : Int32)) + (7 : Int32)) + (7 : Int32)) + (7 : Int32)) &&& 0x3f).toInt64 = (((7 : Int32) * (6 : Int32)) &&& 0x3f).toInt64 by decide]
  rw [show (((((((((0 : Int32) + (7 : Int32)) + (7 : Int32)) + (7 : Int32)) + (7 : Int32)) + (7 : Int32)) + (7 : Int32)) + (7 : Int32)) &&& 0x3f).toInt64 = (((7 : Int32) * (7 : Int32)) &&& 0x3f).toInt64 by decide]
  rw [show ((((((((((0 : Int32) + (7 : Int32)) + (7 : Int32)) + (7 : Int32)) + (7 : Int32)) + (7 : Int32)) + (7 : Int32)) + (7 : Int32)) + (7 : Int32)) &&& 0x3f).toInt64 = (((7 : Int32) * (8 : Int32)) &&& 0x3f).toInt64 by decide]
theorem own_tot10 (f : Nat → Int32) (PP : Nat) (hl : (f (PP + 9) &&& (127 : Int32)) = f (PP + 9)) : own_rd f PP 9 0 0 = ((((((((((own_tm f PP 0 (0 : Int32) (Int32.ofNat 10) ||| own_tm f PP 1 (1 : Int32) (Int32.ofNat 10)) ||| own_tm f PP 2 (2 : Int32) (Int32.ofNat 10)) ||| own_tm f PP 3 (3 : Int32) (Int32.ofNat 10)) ||| own_tm f PP 4 (4 : Int32) (Int32.ofNat 10)) ||| own_tm f PP 5 (5 : Int32) (Int32.ofNat 10)) ||| own_tm f PP 6 (6 : Int32) (Int32.ofNat 10)) ||| own_tm f PP 7 (7 : Int32) (Int32.ofNat 10)) ||| own_tm f PP 8 (8 : Int32) (Int32.ofNat 10)) ||| own_tm f PP 9 (9 : Int32) (Int32.ofNat 10))) := by
  have t0 : own_tm f PP 0 (0 : Int32) (Int32.ofNat 10) = ((f (PP + 0) &&& (127 : Int32)).toInt64 <<< (((7 : Int32) * (0 : Int32)) &&& 0x3f).toInt64) := if_pos (by decide)
  have t1 : own_tm f PP 1 (1 : Int32) (Int32.ofNat 10) = ((f (PP + 1) &&& (127 : Int32)).toInt64 <<< (((7 : Int32) * (1 : Int32)) &&& 0x3f).toInt64) := if_pos (by decide)
  have t2 : own_tm f PP 2 (2 : Int32) (Int32.ofNat 10) = ((f (PP + 2) &&& (127 : Int32)).toInt64 <<< (((7 : Int32) * (2 : Int32)) &&& 0x3f).toInt64) := if_pos (by decide)
  have t3 : own_tm f PP 3 (3 : Int32) (Int32.ofNat 10) = ((f (PP + 3) &&& (127 : Int32)).toInt64 <<< (((7 : Int32) * (3 : Int32)) &&& 0x3f).toInt64) := if_pos (by decide)
  have t4 : own_tm f PP 4 (4 : Int32) (Int32.ofNat 10) = ((f (PP + 4) &&& (127 : Int32)).toInt64 <<< (((7 : Int32) * (4 : Int32)) &&& 0x3f).toInt64) := if_pos (by decide)
  have t5 : own_tm f PP 5 (5 : Int32) (Int32.ofNat 10) = ((f (PP + 5) &&& (127 : Int32)).toInt64 <<< (((7 : Int32) * (5 : Int32)) &&& 0x3f).toInt64) := if_pos (by decide)
  have t6 : own_tm f PP 6 (6 : Int32) (Int32.ofNat 10) = ((f (PP + 6) &&& (127 : Int32)).toInt64 <<< (((7 : Int32) * (6 : Int32)) &&& 0x3f).toInt64) := if_pos (by decide)
  have t7 : own_tm f PP 7 (7 : Int32) (Int32.ofNat 10) = ((f (PP + 7) &&& (127 : Int32)).toInt64 <<< (((7 : Int32) * (7 : Int32)) &&& 0x3f).toInt64) := if_pos (by decide)
  have t8 : own_tm f PP 8 (8 : Int32) (Int32.ofNat 10) = ((f (PP + 8) &&& (127 : Int32)).toInt64 <<< (((7 : Int32) * (8 : Int32)) &&& 0x3f).toInt64) := if_pos (by decide)
  have t9 : own_tm f PP 9 (9 : Int32) (Int32.ofNat 10) = ((f (PP + 9) &&& (127 : Int32)).toInt64 <<< (((7 : Int32) * (9 : Int32)) &&& 0x3f).toInt64) := if_pos (by decide)
  rw [t0, t1, t2, t3, t4, t5, t6, t7, t8, t9]
  show (((((((((((0 : Int64) ||| ((f (PP + 0) &&& (127 : Int32)).toInt64 <<< ((0 : Int32) &&& 0x3f).toInt64)) ||| ((f (PP + 1) &&& (127 : Int32)).toInt64 <<< (((0 : Int32) + (7 : Int32)) &&& 0x3f).toInt64)) ||| ((f (PP + 2) &&& (127 : Int32)).toInt64 <<< ((((0 : Int32) + (7 : Int32)) + (7 : Int32)) &&& 0x3f).toInt64)) ||| ((f (PP + 3) &&& (127 : Int32)).toInt64 <<< (((((0 : Int32) + (7 : Int32)) + (7 : Int32)) + (7 : Int32)) &&& 0x3f).toInt64)) ||| ((f (PP + 4) &&& (127 : Int32)).toInt64 <<< ((((((0 : Int32) + (7 : Int32)) + (7 : Int32)) + (7 : Int32)) + (7 : Int32)) &&& 0x3f).toInt64)) ||| ((f (PP + 5) &&& (127 : Int32)).toInt64 <<< (((((((0 : Int32) + (7 : Int32)) + (7 : Int32)) + (7 : Int32)) + (7 : Int32)) + (7 : Int32)) &&& 0x3f).toInt64)) ||| ((f (PP + 6) &&& (127 : Int32)).toInt64 <<< ((((((((0 : Int32) + (7 : Int32)) + (7 : Int32)) + (7 : Int32)) + (7 : Int32)) + (7 : Int32)) + (7 : Int32)) &&& 0x3f).toInt64)) ||| ((f (PP + 7) &&& (127 : Int32)).toInt64 <<< (((((((((0 : Int32) + (7 : Int32)) + (7 : Int32)) + (7 : Int32)) + (7 : Int32)) + (7 : Int32)) + (7 : Int32)) + (7 : Int32)) &&& 0x3f).toInt64)) ||| ((f (PP + 8) &&& (127 : Int32)).toInt64 <<< ((((((((((0 : Int32) + (7 : Int32)) + (7 : Int32)) + (7 : Int32)) + (7 : Int32)) + (7 : Int32)) + (7 : Int32)) + (7 : Int32)) + (7 : Int32)) &&& 0x3f).toInt64)) ||| ((f (PP + 9)).toInt64 <<< (((((((((((0 : Int32) + (7 : Int32)) + (7 : Int32)) + (7 : Int32)) + (7 : Int32)) + (7 : Int32)) + (7 : Int32)) + (7 : Int32)) + (7 : Int32)) + (7 : Int32)) &&& 0x3f).toInt64)) = _
  rw [Int64.zero_or, hl]
  rw [show ((0 : Int32) &&& 0x3f).toInt64 = (((7 : Int32) * (0 : Int32)) &&& 0x3f).toInt64 by decide]
  rw [show (((0 : Int32) + (7 : Int32)) &&& 0x3f).toInt64 = (((7 : Int32) * (1 : Int32)) &&& 0x3f).toInt64 by decide]
  rw [show ((((0 : Int32) + (7 : Int32)) + (7 : Int32)) &&& 0x3f).toInt64 = (((7 : Int32) * (2 : Int32)) &&& 0x3f).toInt64 by decide]
  rw [show (((((0 : Int32) + (7 : Int32)) + (7 : Int32)) + (7 : Int32)) &&& 0x3f).toInt64 = (((7 : Int32) * (3 : Int32)) &&& 0x3f).toInt64 by decide]
  rw [show ((((((0 : Int32) + (7 : Int32)) + (7 : Int32)) + (7 : Int32)) + (7 : Int32)) &&& 0x3f).toInt64 = (((7 : Int32) * (4 : Int32)) &&& 0x3f).toInt64 by decide]
  rw [show (((((((0 : Int32) + (7 : Int32)) + (7 : Int32)) + (7 : Int32)) + (7 : Int32)) + (7 : Int32)) &&& 0x3f).toInt64 = (((7 : Int32) * (5 : Int32)) &&& 0x3f).toInt64 by decide]
  rw [show ((((((((0 : Int32) + (7 : Int32)) + (7 : Int32)) + (7 : Int32)) + (7 : Int32)) + (7 : Int32)) + (7 : Int32)) &&& 0x3f).toInt64 = (((7 : Int32) * (6 : Int32)) &&& 0x3f).toInt64 by decide]
  rw [show (((((((((0 : Int32) + (7 : Int32)) + (7 : Int32)) + (7 : Int32)) + (7 : Int32)) + (7 : Int32)) + (7 : Int32)) + (7 : Int32)) &&& 0x3f).toInt64 = (((7 : Int32) * (7 : Int32)) &&& 0x3f).toInt64 by decide]
  rw [show ((((((((((0 : Int32) + (7 : Int32)) + (7 : Int32)) + (7 : Int32)) + (7 : Int32)) + (7 : Int32)) + (7 : Int32)) + (7 : Int32)) + (7 : Int32)) &&& 0x3f).toInt64 = (((7 : Int32) * (8 : Int32)) &&& 0x3f).toInt64 by decide]
  rw [show (((((((((((0 : Int32) + (7 : Int32)) + (7 : Int32)) + (7 : Int32)) + (7 : Int32)) + (7 : Int32)) + (7 : Int32)) + (7 : Int32)) + (7 : Int32)) + (7 : Int32)) &&& 0x3f).toInt64 = (((7 : Int32) * (9 : Int32)) &&& 0x3f).toInt64 by decide]
theorem own_tot (f : Nat → Int32) (PP K : Nat) {k : Int32} (hk : k = Int32.ofNat K) (h1 : 1 ≤ K) (h2 : K ≤ 10) (hl : (f (PP + (K - 1)) &&& (127 : Int32)) = f (PP + (K - 1))) : own_rd f PP (K - 1) 0 0 = ((((((((((own_tm f PP 0 (0 : Int32) k ||| own_tm f PP 1 (1 : Int32) k) ||| own_tm f PP 2 (2 : Int32) k) ||| own_tm f PP 3 (3 : Int32) k) ||| own_tm f PP 4 (4 : Int32) k) ||| own_tm f PP 5 (5 : Int32) k) ||| own_tm f PP 6 (6 : Int32) k) ||| own_tm f PP 7 (7 : Int32) k) ||| own_tm f PP 8 (8 : Int32) k) ||| own_tm f PP 9 (9 : Int32) k)) := by
  subst hk
  match K, h1, h2, hl with
  | 1, _, _, hl => exact own_tot1 f PP hl
  | 2, _, _, hl => exact own_tot2 f PP hl
  | 3, _, _, hl => exact own_tot3 f PP hl
  | 4, _, _, hl => exact own_tot4 f PP hl
  | 5, _, _, hl => exact own_tot5 f PP hl
  | 6, _, _, hl => exact own_tot6 f PP hl
  | 7, _, _, hl => exact own_tot7 f PP hl
  | 8, _, _, hl => exact own_tot8 f PP hl
  | 9, _, _, hl => exact own_tot9 f PP hl
  | 10, _, _, hl => exact own_tot10 f PP hl
theorem d_method_2_0 : decode method_2_code 0 = .ok (.iload 4, 2) := by decide +kernel
theorem d_method_2_2 : decode method_2_code 2 = .ok (.bipush 8, 2) := by decide +kernel
theorem d_method_2_4 : decode method_2_code 4 = .ok (.if_icmp .ge 16, 3) := by decide +kernel
theorem d_method_2_7 : decode method_2_code 7 = .ok (.lload_n 0, 1) := by decide +kernel
theorem d_method_2_8 : decode method_2_code 8 = .ok (.bipush 8, 2) := by decide +kernel
theorem d_method_2_10 : decode method_2_code 10 = .ok (.iload 4, 2) := by decide +kernel
theorem d_method_2_12 : decode method_2_code 12 = .ok (.imul, 1) := by decide +kernel
theorem d_method_2_13 : decode method_2_code 13 = .ok (.lushr, 1) := by decide +kernel
theorem d_method_2_14 : decode method_2_code 14 = .ok (.ldc2_w 7, 3) := by decide +kernel
theorem d_method_2_17 : decode method_2_code 17 = .ok (.land, 1) := by decide +kernel
theorem d_method_2_18 : decode method_2_code 18 = .ok (.l2i, 1) := by decide +kernel
theorem d_method_2_19 : decode method_2_code 19 = .ok (.ireturn, 1) := by decide +kernel
theorem d_method_2_20 : decode method_2_code 20 = .ok (.lload_n 2, 1) := by decide +kernel
theorem d_method_2_21 : decode method_2_code 21 = .ok (.bipush 8, 2) := by decide +kernel
theorem d_method_2_23 : decode method_2_code 23 = .ok (.iload 4, 2) := by decide +kernel
theorem d_method_2_25 : decode method_2_code 25 = .ok (.bipush 8, 2) := by decide +kernel
theorem d_method_2_27 : decode method_2_code 27 = .ok (.isub, 1) := by decide +kernel
theorem d_method_2_28 : decode method_2_code 28 = .ok (.imul, 1) := by decide +kernel
theorem d_method_2_29 : decode method_2_code 29 = .ok (.lushr, 1) := by decide +kernel
theorem d_method_2_30 : decode method_2_code 30 = .ok (.ldc2_w 7, 3) := by decide +kernel
theorem d_method_2_33 : decode method_2_code 33 = .ok (.land, 1) := by decide +kernel
theorem d_method_2_34 : decode method_2_code 34 = .ok (.l2i, 1) := by decide +kernel
theorem d_method_2_35 : decode method_2_code 35 = .ok (.ireturn, 1) := by decide +kernel
def Q_rm_raw (Z : State) (a : Int64) (cc : Int64) (j : Int32) (h0 : Heap) (n0 : Nat) (v : Option Value) (h : Heap) (L : List Loc) : Prop := ∃ r : Int32, v = some (.int r) ∧ Fr n0 L ∧ h = h0
theorem ef_rm_raw (m : MethodId) (a : Int64) (cc : Int64) (j : Int32) : entryFrame m #[(.long a), (.long cc), (.int j)] 5 = mkF m 0 #[.val (.long a), .second, .val (.long cc), .second, .val (.int j)] [] := by first | (simp [entryFrame, mkF, argsToLocals, Value.category]; done) | rfl
theorem pn_23 : plainName "com/example/aprox/aprox/ByteReaderReadVLongPinLaw" = true := by first | (simp [plainName, overriddenIn]; done) | decide +kernel
set_option maxRecDepth 65536 in
set_option maxHeartbeats 40000000 in
theorem rm_raw (l : Launch) (Z : State) (a0 : Array Value) (hw : ∀ d ∈ tables_1, d.before a0 Z = true) (zws : List Jvm.Cond) (a : Int64) (cc : Int64) (j : Int32) (h0 : Heap) (n0 : Nat) (Z0 : n0 ≤ h0.size)  :
    MetFree l (⟨"com/example/aprox/aprox/ByteReaderReadVLongPinLaw", "raw", "(JJI)I"⟩ : MethodName) (head1 (Jvm.Cond.code (⟨"com/example/aprox/aprox/ByteReaderReadVLongPinLaw", "raw", "(JJI)I"⟩ : MethodName) method_2_code 5 (some .int) :: zws) ({ frames := 0, cells := 0, slots := 0, locals := 0 } : Room)) (fun zA zU => zA = #[(.long a), (.long cc), (.int j)] ∧ Z.Warmed39 zU.vm ∧ zU.heap = h0) (fun _ _ _ _ _ => True) (fun _ zU zo zW => ∃ zv zL, zo = .returned zv ∧ (Q_rm_raw Z a cc j h0 n0) zv zW.heap zL ∧ FrameEnd zU zo zW zL ({ frames := 0, cells := 0, slots := 0, locals := 0 } : Room).cells ({ frames := 0, cells := 0, slots := 0, locals := 0 } : Room).slots) := by
  refine MetFree.of_bodySF (plainFor_of_name pn_23) hisR ?_
  intro p e s m args below meth c s₁ Bd hml0 hP hK
  obtain ⟨rfl, hZ, hh⟩ := hP
  have hx := Bd.exec
  have hby := Bd.bytes
  have hml : c.maxLocals = 5 := hml0
  have hown : s.vm.findClass "com/example/aprox/aprox/ByteReaderReadVLongPinLaw" = some m.cls := findClass_of_methodNamed Bd.named
  have hnm := (name_of_methodNamed Bd.named Bd.method).1
  have X0 : Stand p l e ({ frames := 0, cells := 0, slots := 0, locals := 0 } : Room) s m #[(.long a), (.long cc), (.int j)] below meth c s₁ [] 0 0 := Stand.of_body Bd
  have e0 : s₁.heap = h0 := by rw [← hh, Bd.state]; rfl
  have N0 := Fr.nil n0
  refine own_out (Q := Q_rm_raw Z a cc j h0 n0) ?_
  refine own_cast (ef_rm_raw m a cc j) ?_
  show own_Go p.tables e below (s₁.setTop (mkF m 0 #[.val (.long a), .second, .val (.long cc), .second, .val (.int j)] [])) _
  refine own_by (fun zt zk => XS.iload X0.here hx rfl (hb hby d_method_2_0) rfl zk) ?_
  show own_Go p.tables e below (s₁.setTop (mkF m 2 #[.val (.long a), .second, .val (.long cc), .second, .val (.int j)] [(.int j)])) _
  refine own_by (fun zt zk => XS.bipush X0.here hx rfl (hb hby d_method_2_2) zk) ?_
  show own_Go p.tables e below (s₁.setTop (mkF m 4 #[.val (.long a), .second, .val (.long cc), .second, .val (.int j)] [(.int (8 : Int32)), (.int j)])) _
  by_cases c1 : j < (8 : Int32)
  · refine own_by (fun zt zk => XS.icmpNo X0.here hx rfl (hb hby d_method_2_4) rfl (tlt c1).2.1 zk) ?_
    show own_Go p.tables e below (s₁.setTop (mkF m 7 #[.val (.long a), .second, .val (.long cc), .second, .val (.int j)] [])) _
    refine own_by (fun zt zk => XS.lloadN X0.here hx rfl (hb hby d_method_2_7) rfl zk) ?_
    show own_Go p.tables e below (s₁.setTop (mkF m 8 #[.val (.long a), .second, .val (.long cc), .second, .val (.int j)] [(.long a)])) _
    refine own_by (fun zt zk => XS.bipush X0.here hx rfl (hb hby d_method_2_8) zk) ?_
    show own_Go p.tables e below (s₁.setTop (mkF m 10 #[.val (.long a), .second, .val (.long cc), .second, .val (.int j)] [(.int (8 : Int32)), (.long a)])) _
    refine own_by (fun zt zk => XS.iload X0.here hx rfl (hb hby d_method_2_10) rfl zk) ?_
    show own_Go p.tables e below (s₁.setTop (mkF m 12 #[.val (.long a), .second, .val (.long cc), .second, .val (.int j)] [(.int j), (.int (8 : Int32)), (.long a)])) _
    refine own_by (fun zt zk => XS.imul X0.here hx rfl (hb hby d_method_2_12) rfl zk) ?_
    show own_Go p.tables e below (s₁.setTop (mkF m 13 #[.val (.long a), .second, .val (.long cc), .second, .val (.int j)] [(.int ((8 : Int32) * j)), (.long a)])) _
    refine own_by (fun zt zk => XS.lushr X0.here hx rfl (hb hby d_method_2_13) rfl zk) ?_
    show own_Go p.tables e below (s₁.setTop (mkF m 14 #[.val (.long a), .second, .val (.long cc), .second, .val (.int j)] [(.long ((a.toUInt64 >>> (((8 : Int32) * j) &&& 0x3f).toInt64.toUInt64).toInt64))])) _
    refine own_by (X0.ldc2Long hx hown (mvT hZ (hw _ (List.mem_of_getElem? (i := 9) rfl))) (g := (mkF m 14 #[.val (.long a), .second, .val (.long cc), .second, .val (.int j)] [(.long ((a.toUInt64 >>> (((8 : Int32) * j) &&& 0x3f).toInt64.toUInt64).toInt64))])) rfl (hb hby d_method_2_14)) ?_
    show own_Go p.tables e below (s₁.setTop (mkF m 17 #[.val (.long a), .second, .val (.long cc), .second, .val (.int j)] [(.long (255 : Int64)), (.long ((a.toUInt64 >>> (((8 : Int32) * j) &&& 0x3f).toInt64.toUInt64).toInt64))])) _
    refine own_by (fun zt zk => XS.land X0.here hx rfl (hb hby d_method_2_17) rfl zk) ?_
    show own_Go p.tables e below (s₁.setTop (mkF m 18 #[.val (.long a), .second, .val (.long cc), .second, .val (.int j)] [(.long (((a.toUInt64 >>> (((8 : Int32) * j) &&& 0x3f).toInt64.toUInt64).toInt64) &&& (255 : Int64)))])) _
    refine own_by (fun zt zk => XS.l2i X0.here hx rfl (hb hby d_method_2_18) rfl zk) ?_
    show own_Go p.tables e below (s₁.setTop (mkF m 19 #[.val (.long a), .second, .val (.long cc), .second, .val (.int j)] [(.int ((((a.toUInt64 >>> (((8 : Int32) * j) &&& 0x3f).toInt64.toUInt64).toInt64) &&& (255 : Int64)).toInt32))])) _
    exact own_retI X0 hx Bd.notSynchronized Bd.returns (hb hby d_method_2_19) (by (try rw [e0]); exact ⟨_, rfl, N0, rfl⟩) (by decide) (by decide)
  · refine own_by (fun zt zk => XS.icmpYes X0.here hx rfl (pc0 := 4) (pc' := 20) rfl (hb hby d_method_2_4) rfl (flt c1).2.1 (by decide) (by decide) zk) ?_
    show own_Go p.tables e below (s₁.setTop (mkF m 20 #[.val (.long a), .second, .val (.long cc), .second, .val (.int j)] [])) _
    refine own_by (fun zt zk => XS.lloadN X0.here hx rfl (hb hby d_method_2_20) rfl zk) ?_
    show own_Go p.tables e below (s₁.setTop (mkF m 21 #[.val (.long a), .second, .val (.long cc), .second, .val (.int j)] [(.long cc)])) _
    refine own_by (fun zt zk => XS.bipush X0.here hx rfl (hb hby d_method_2_21) zk) ?_
    show own_Go p.tables e below (s₁.setTop (mkF m 23 #[.val (.long a), .second, .val (.long cc), .second, .val (.int j)] [(.int (8 : Int32)), (.long cc)])) _
    refine own_by (fun zt zk => XS.iload X0.here hx rfl (hb hby d_method_2_23) rfl zk) ?_
    show own_Go p.tables e below (s₁.setTop (mkF m 25 #[.val (.long a), .second, .val (.long cc), .second, .val (.int j)] [(.int j), (.int (8 : Int32)), (.long cc)])) _
    refine own_by (fun zt zk => XS.bipush X0.here hx rfl (hb hby d_method_2_25) zk) ?_
    show own_Go p.tables e below (s₁.setTop (mkF m 27 #[.val (.long a), .second, .val (.long cc), .second, .val (.int j)] [(.int (8 : Int32)), (.int j), (.int (8 : Int32)), (.long cc)])) _
    refine own_by (fun zt zk => XS.isub X0.here hx rfl (hb hby d_method_2_27) rfl zk) ?_
    show own_Go p.tables e below (s₁.setTop (mkF m 28 #[.val (.long a), .second, .val (.long cc), .second, .val (.int j)] [(.int (j - (8 : Int32))), (.int (8 : Int32)), (.long cc)])) _
    refine own_by (fun zt zk => XS.imul X0.here hx rfl (hb hby d_method_2_28) rfl zk) ?_
    show own_Go p.tables e below (s₁.setTop (mkF m 29 #[.val (.long a), .second, .val (.long cc), .second, .val (.int j)] [(.int ((8 : Int32) * (j - (8 : Int32)))), (.long cc)])) _
    refine own_by (fun zt zk => XS.lushr X0.here hx rfl (hb hby d_method_2_29) rfl zk) ?_
    show own_Go p.tables e below (s₁.setTop (mkF m 30 #[.val (.long a), .second, .val (.long cc), .second, .val (.int j)] [(.long ((cc.toUInt64 >>> (((8 : Int32) * (j - (8 : Int32))) &&& 0x3f).toInt64.toUInt64).toInt64))])) _
    refine own_by (X0.ldc2Long hx hown (mvT hZ (hw _ (List.mem_of_getElem? (i := 9) rfl))) (g := (mkF m 30 #[.val (.long a), .second, .val (.long cc), .second, .val (.int j)] [(.long ((cc.toUInt64 >>> (((8 : Int32) * (j - (8 : Int32))) &&& 0x3f).toInt64.toUInt64).toInt64))])) rfl (hb hby d_method_2_30)) ?_
    show own_Go p.tables e below (s₁.setTop (mkF m 33 #[.val (.long a), .second, .val (.long cc), .second, .val (.int j)] [(.long (255 : Int64)), (.long ((cc.toUInt64 >>> (((8 : Int32) * (j - (8 : Int32))) &&& 0x3f).toInt64.toUInt64).toInt64))])) _
    refine own_by (fun zt zk => XS.land X0.here hx rfl (hb hby d_method_2_33) rfl zk) ?_
    show own_Go p.tables e below (s₁.setTop (mkF m 34 #[.val (.long a), .second, .val (.long cc), .second, .val (.int j)] [(.long (((cc.toUInt64 >>> (((8 : Int32) * (j - (8 : Int32))) &&& 0x3f).toInt64.toUInt64).toInt64) &&& (255 : Int64)))])) _
    refine own_by (fun zt zk => XS.l2i X0.here hx rfl (hb hby d_method_2_34) rfl zk) ?_
    show own_Go p.tables e below (s₁.setTop (mkF m 35 #[.val (.long a), .second, .val (.long cc), .second, .val (.int j)] [(.int ((((cc.toUInt64 >>> (((8 : Int32) * (j - (8 : Int32))) &&& 0x3f).toInt64.toUInt64).toInt64) &&& (255 : Int64)).toInt32))])) _
    exact own_retI X0 hx Bd.notSynchronized Bd.returns (hb hby d_method_2_35) (by (try rw [e0]); exact ⟨_, rfl, N0, rfl⟩) (by decide) (by decide)
theorem d_method_3_0 : decode method_3_code 0 = .ok (.lload_n 0, 1) := by decide +kernel
theorem d_method_3_1 : decode method_3_code 1 = .ok (.lload_n 2, 1) := by decide +kernel
theorem d_method_3_2 : decode method_3_code 2 = .ok (.iload 4, 2) := by decide +kernel
theorem d_method_3_4 : decode method_3_code 4 = .ok (.invokestatic 9, 3) := by decide +kernel
theorem pd_28 : parseMethodDescriptor "(JJI)I" = some ⟨[.long, .long, .int], some .int⟩ := by decide +kernel
theorem d_method_3_7 : decode method_3_code 7 = .ok (.istore 7, 2) := by decide +kernel
theorem d_method_3_9 : decode method_3_code 9 = .ok (.iload 4, 2) := by decide +kernel
theorem d_method_3_11 : decode method_3_code 11 = .ok (.iload 5, 2) := by decide +kernel
theorem d_method_3_13 : decode method_3_code 13 = .ok (.isub, 1) := by decide +kernel
theorem d_method_3_14 : decode method_3_code 14 = .ok (.istore 8, 2) := by decide +kernel
theorem d_method_3_16 : decode method_3_code 16 = .ok (.iload 8, 2) := by decide +kernel
theorem d_method_3_18 : decode method_3_code 18 = .ok (.ifCond .lt 23, 3) := by decide +kernel
theorem d_method_3_41 : decode method_3_code 41 = .ok (.iload 8, 2) := by decide +kernel
theorem d_method_3_43 : decode method_3_code 43 = .ok (.iload 6, 2) := by decide +kernel
theorem d_method_3_45 : decode method_3_code 45 = .ok (.iconst 1, 1) := by decide +kernel
theorem d_method_3_46 : decode method_3_code 46 = .ok (.isub, 1) := by decide +kernel
theorem d_method_3_47 : decode method_3_code 47 = .ok (.if_icmp .ne 10, 3) := by decide +kernel
theorem d_method_3_50 : decode method_3_code 50 = .ok (.iload 7, 2) := by decide +kernel
theorem d_method_3_52 : decode method_3_code 52 = .ok (.bipush 127, 2) := by decide +kernel
theorem d_method_3_54 : decode method_3_code 54 = .ok (.iand, 1) := by decide +kernel
theorem d_method_3_55 : decode method_3_code 55 = .ok (.istore 7, 2) := by decide +kernel
theorem d_method_3_21 : decode method_3_code 21 = .ok (.iload 8, 2) := by decide +kernel
theorem d_method_3_23 : decode method_3_code 23 = .ok (.iload 6, 2) := by decide +kernel
theorem d_method_3_25 : decode method_3_code 25 = .ok (.iconst 1, 1) := by decide +kernel
theorem d_method_3_26 : decode method_3_code 26 = .ok (.isub, 1) := by decide +kernel
theorem d_method_3_27 : decode method_3_code 27 = .ok (.if_icmp .ge 14, 3) := by decide +kernel
theorem d_method_3_30 : decode method_3_code 30 = .ok (.iload 7, 2) := by decide +kernel
theorem d_method_3_32 : decode method_3_code 32 = .ok (.sipush 128, 3) := by decide +kernel
theorem d_method_3_35 : decode method_3_code 35 = .ok (.ior, 1) := by decide +kernel
theorem d_method_3_36 : decode method_3_code 36 = .ok (.istore 7, 2) := by decide +kernel
theorem d_method_3_38 : decode method_3_code 38 = .ok (.goto 19, 3) := by decide +kernel
theorem d_method_3_57 : decode method_3_code 57 = .ok (.iload 7, 2) := by decide +kernel
theorem d_method_3_59 : decode method_3_code 59 = .ok (.i2b, 1) := by decide +kernel
theorem d_method_3_60 : decode method_3_code 60 = .ok (.ireturn, 1) := by decide +kernel
def Q_rm_adj (Z : State) (a : Int64) (cc : Int64) (j : Int32) (p0 : Int32) (k : Int32) (h0 : Heap) (n0 : Nat) (v : Option Value) (h : Heap) (L : List Loc) : Prop := ∃ r : Int32, v = some (.int r) ∧ Fr n0 L ∧ h = h0 ∧ own_Ad r j p0 k
theorem ef_rm_adj (m : MethodId) (a : Int64) (cc : Int64) (j : Int32) (p0 : Int32) (k : Int32) : entryFrame m #[(.long a), (.long cc), (.int j), (.int p0), (.int k)] 9 = mkF m 0 #[.val (.long a), .second, .val (.long cc), .second, .val (.int j), .val (.int p0), .val (.int k), .unset, .unset] [] := by first | (simp [entryFrame, mkF, argsToLocals, Value.category]; done) | rfl
set_option maxRecDepth 65536 in
set_option maxHeartbeats 40000000 in
theorem rm_adj (l : Launch) (Z : State) (a0 : Array Value) (hw : ∀ d ∈ tables_1, d.before a0 Z = true) (zws : List Jvm.Cond) (a : Int64) (cc : Int64) (j : Int32) (p0 : Int32) (k : Int32) (h0 : Heap) (n0 : Nat) (Z0 : n0 ≤ h0.size)  :
    MetFree l (⟨"com/example/aprox/aprox/ByteReaderReadVLongPinLaw", "adj", "(JJIII)B"⟩ : MethodName) (head1 (Jvm.Cond.code (⟨"com/example/aprox/aprox/ByteReaderReadVLongPinLaw", "adj", "(JJIII)B"⟩ : MethodName) method_3_code 9 (some .byte) :: zws) ({ frames := 1, cells := 0, slots := 0, locals := 16 } : Room)) (fun zA zU => zA = #[(.long a), (.long cc), (.int j), (.int p0), (.int k)] ∧ Z.Warmed39 zU.vm ∧ zU.heap = h0) (fun _ _ _ _ _ => True) (fun _ zU zo zW => ∃ zv zL, zo = .returned zv ∧ (Q_rm_adj Z a cc j p0 k h0 n0) zv zW.heap zL ∧ FrameEnd zU zo zW zL ({ frames := 1, cells := 0, slots := 0, locals := 16 } : Room).cells ({ frames := 1, cells := 0, slots := 0, locals := 16 } : Room).slots) := by
  refine MetFree.of_bodySF (plainFor_of_name pn_23) hisR ?_
  intro p e s m args below meth c s₁ Bd hml0 hP hK
  obtain ⟨rfl, hZ, hh⟩ := hP
  have hx := Bd.exec
  have hby := Bd.bytes
  have hml : c.maxLocals = 9 := hml0
  have hown : s.vm.findClass "com/example/aprox/aprox/ByteReaderReadVLongPinLaw" = some m.cls := findClass_of_methodNamed Bd.named
  have hnm := (name_of_methodNamed Bd.named Bd.method).1
  have X0 : Stand p l e ({ frames := 1, cells := 0, slots := 0, locals := 16 } : Room) s m #[(.long a), (.long cc), (.int j), (.int p0), (.int k)] below meth c s₁ [] 0 0 := Stand.of_body Bd
  have e0 : s₁.heap = h0 := by rw [← hh, Bd.state]; rfl
  have N0 := Fr.nil n0
  refine own_out (Q := Q_rm_adj Z a cc j p0 k h0 n0) ?_
  refine own_cast (ef_rm_adj m a cc j p0 k) ?_
  show own_Go p.tables e below (s₁.setTop (mkF m 0 #[.val (.long a), .second, .val (.long cc), .second, .val (.int j), .val (.int p0), .val (.int k), .unset, .unset] [])) _
  refine own_by (fun zt zk => XS.lloadN X0.here hx rfl (hb hby d_method_3_0) rfl zk) ?_
  show own_Go p.tables e below (s₁.setTop (mkF m 1 #[.val (.long a), .second, .val (.long cc), .second, .val (.int j), .val (.int p0), .val (.int k), .unset, .unset] [(.long a)])) _
  refine own_by (fun zt zk => XS.lloadN X0.here hx rfl (hb hby d_method_3_1) rfl zk) ?_
  show own_Go p.tables e below (s₁.setTop (mkF m 2 #[.val (.long a), .second, .val (.long cc), .second, .val (.int j), .val (.int p0), .val (.int k), .unset, .unset] [(.long cc), (.long a)])) _
  refine own_by (fun zt zk => XS.iload X0.here hx rfl (hb hby d_method_3_2) rfl zk) ?_
  show own_Go p.tables e below (s₁.setTop (mkF m 4 #[.val (.long a), .second, .val (.long cc), .second, .val (.int j), .val (.int p0), .val (.int k), .unset, .unset] [(.int j), (.long cc), (.long a)])) _
  obtain ⟨_, _, ⟨T1, L1, k1, n1⟩, -, X1, ⟨Lc1, hQ1, l1, y1, z1⟩, st1⟩ := Jvm.LawKit.callS X0 hx (y := (⟨"com/example/aprox/aprox/ByteReaderReadVLongPinLaw", "raw", "(JJI)I"⟩ : MethodName)) hown (mvT hZ (hw _ (List.mem_of_getElem? (i := 6) rfl))) (mvT hZ (hw _ (List.mem_of_getElem? (i := 7) rfl))) (mvT hZ (hw _ (List.mem_of_getElem? (i := 4) rfl))) (mvT hZ (hw _ (List.mem_of_getElem? (i := 8) rfl))) (by decide) (backOf (W := 0) (rm_raw l Z a0 hw [] a cc j  h0 n0 (Nat.le_trans Z0 (Keep.refl h0 []).1) ) hZ (hw _ (List.mem_of_getElem? (i := 8) rfl)) (hw _ (List.mem_of_getElem? (i := 4) rfl)) (by decide) (by decide)) (g := (mkF m 4 #[.val (.long a), .second, .val (.long cc), .second, .val (.int j), .val (.int p0), .val (.int k), .unset, .unset] [(.int j), (.long cc), (.long a)])) rfl (by rw [hml]; rfl) (argsL := [(.long a), (.long cc), (.int j)]) (rest := []) (lenOf pd_28 rfl) rfl (by show 2 * 0 + _ ≤ _; exact Nat.le_of_eq rfl) (hb hby d_method_3_4) (fun _ _ => ⟨rfl, e0, (by decide : 0 + 0 ≤ _), (by decide : 0 + 0 ≤ _)⟩)
  dsimp only [Pt.U, Pt.locs, Pt.cells, Pt.slots] at X1 l1 y1 z1 st1 hQ1
  replace l1 := l1.symm
  replace y1 := y1.symm
  replace z1 := z1.symm
  subst l1 y1 z1
  obtain ⟨r, rfl, N1q, eh1⟩ := hQ1
  have N1 := Fr.app N0 N1q
  refine own_by (st1) ?_
  show own_Go p.tables e below (T1.setTop (mkF m 7 #[.val (.long a), .second, .val (.long cc), .second, .val (.int j), .val (.int p0), .val (.int k), .unset, .unset] [(.int r)])) _
  refine own_by (fun zt zk => XS.istore X1.here hx rfl (hb hby d_method_3_7) rfl (l' := #[.val (.long a), .second, .val (.long cc), .second, .val (.int j), .val (.int p0), .val (.int k), .val (.int r), .unset]) rfl zk) ?_
  show own_Go p.tables e below (T1.setTop (mkF m 9 #[.val (.long a), .second, .val (.long cc), .second, .val (.int j), .val (.int p0), .val (.int k), .val (.int r), .unset] [])) _
  refine own_by (fun zt zk => XS.iload X1.here hx rfl (hb hby d_method_3_9) rfl zk) ?_
  show own_Go p.tables e below (T1.setTop (mkF m 11 #[.val (.long a), .second, .val (.long cc), .second, .val (.int j), .val (.int p0), .val (.int k), .val (.int r), .unset] [(.int j)])) _
  refine own_by (fun zt zk => XS.iload X1.here hx rfl (hb hby d_method_3_11) rfl zk) ?_
  show own_Go p.tables e below (T1.setTop (mkF m 13 #[.val (.long a), .second, .val (.long cc), .second, .val (.int j), .val (.int p0), .val (.int k), .val (.int r), .unset] [(.int p0), (.int j)])) _
  refine own_by (fun zt zk => XS.isub X1.here hx rfl (hb hby d_method_3_13) rfl zk) ?_
  show own_Go p.tables e below (T1.setTop (mkF m 14 #[.val (.long a), .second, .val (.long cc), .second, .val (.int j), .val (.int p0), .val (.int k), .val (.int r), .unset] [(.int (j - p0))])) _
  refine own_by (fun zt zk => XS.istore X1.here hx rfl (hb hby d_method_3_14) rfl (l' := #[.val (.long a), .second, .val (.long cc), .second, .val (.int j), .val (.int p0), .val (.int k), .val (.int r), .val (.int (j - p0))]) rfl zk) ?_
  show own_Go p.tables e below (T1.setTop (mkF m 16 #[.val (.long a), .second, .val (.long cc), .second, .val (.int j), .val (.int p0), .val (.int k), .val (.int r), .val (.int (j - p0))] [])) _
  refine own_by (fun zt zk => XS.iload X1.here hx rfl (hb hby d_method_3_16) rfl zk) ?_
  show own_Go p.tables e below (T1.setTop (mkF m 18 #[.val (.long a), .second, .val (.long cc), .second, .val (.int j), .val (.int p0), .val (.int k), .val (.int r), .val (.int (j - p0))] [(.int (j - p0))])) _
  obtain ⟨q, hq, sj6⟩ : ∃ (q : Int32), q = (if (j - p0) < (0 : Int32) then (if (j - p0) = (k - (1 : Int32)) then (r &&& (127 : Int32)) else r) else (if (j - p0) < (k - (1 : Int32)) then (r ||| (128 : Int32)) else (if (j - p0) = (k - (1 : Int32)) then (r &&& (127 : Int32)) else r))) ∧ ∀ zt, Steps p.tables e below (T1.setTop (mkF m 57 #[.val (.long a), .second, .val (.long cc), .second, .val (.int j), .val (.int p0), .val (.int k), .val (.int q), .val (.int (j - p0))] [])) zt → Steps p.tables e below (T1.setTop (mkF m 18 #[.val (.long a), .second, .val (.long cc), .second, .val (.int j), .val (.int p0), .val (.int k), .val (.int r), .val (.int (j - p0))] [(.int (j - p0))])) zt := by
    by_cases j2 : (j - p0) < (0 : Int32)
    · by_cases j3 : (j - p0) = (k - (1 : Int32))
      · refine ⟨((r &&& (127 : Int32))), ((if_pos j2).trans (if_pos j3)).symm, fun zt zk => ?_⟩
        show Steps p.tables e below (T1.setTop (mkF m 18 #[.val (.long a), .second, .val (.long cc), .second, .val (.int j), .val (.int p0), .val (.int k), .val (.int r), .val (.int (j - p0))] [(.int (j - p0))])) _
        refine XS.ifYes X1.here hx rfl (pc0 := 18) (pc' := 41) rfl (hb hby d_method_3_18) rfl ((if0 _ _).trans (tlt j2).1) (by decide) (by decide) ?_
        show Steps p.tables e below (T1.setTop (mkF m 41 #[.val (.long a), .second, .val (.long cc), .second, .val (.int j), .val (.int p0), .val (.int k), .val (.int r), .val (.int (j - p0))] [])) _
        refine XS.iload X1.here hx rfl (hb hby d_method_3_41) rfl ?_
        show Steps p.tables e below (T1.setTop (mkF m 43 #[.val (.long a), .second, .val (.long cc), .second, .val (.int j), .val (.int p0), .val (.int k), .val (.int r), .val (.int (j - p0))] [(.int (j - p0))])) _
        refine XS.iload X1.here hx rfl (hb hby d_method_3_43) rfl ?_
        show Steps p.tables e below (T1.setTop (mkF m 45 #[.val (.long a), .second, .val (.long cc), .second, .val (.int j), .val (.int p0), .val (.int k), .val (.int r), .val (.int (j - p0))] [(.int k), (.int (j - p0))])) _
        refine XS.iconst X1.here hx rfl (hb hby d_method_3_45) ?_
        show Steps p.tables e below (T1.setTop (mkF m 46 #[.val (.long a), .second, .val (.long cc), .second, .val (.int j), .val (.int p0), .val (.int k), .val (.int r), .val (.int (j - p0))] [(.int (1 : Int32)), (.int k), (.int (j - p0))])) _
        refine XS.isub X1.here hx rfl (hb hby d_method_3_46) rfl ?_
        show Steps p.tables e below (T1.setTop (mkF m 47 #[.val (.long a), .second, .val (.long cc), .second, .val (.int j), .val (.int p0), .val (.int k), .val (.int r), .val (.int (j - p0))] [(.int (k - (1 : Int32))), (.int (j - p0))])) _
        refine XS.icmpNo X1.here hx rfl (hb hby d_method_3_47) rfl (teq j3).2 ?_
        show Steps p.tables e below (T1.setTop (mkF m 50 #[.val (.long a), .second, .val (.long cc), .second, .val (.int j), .val (.int p0), .val (.int k), .val (.int r), .val (.int (j - p0))] [])) _
        refine XS.iload X1.here hx rfl (hb hby d_method_3_50) rfl ?_
        show Steps p.tables e below (T1.setTop (mkF m 52 #[.val (.long a), .second, .val (.long cc), .second, .val (.int j), .val (.int p0), .val (.int k), .val (.int r), .val (.int (j - p0))] [(.int r)])) _
        refine XS.bipush X1.here hx rfl (hb hby d_method_3_52) ?_
        show Steps p.tables e below (T1.setTop (mkF m 54 #[.val (.long a), .second, .val (.long cc), .second, .val (.int j), .val (.int p0), .val (.int k), .val (.int r), .val (.int (j - p0))] [(.int (127 : Int32)), (.int r)])) _
        refine XS.iand X1.here hx rfl (hb hby d_method_3_54) rfl ?_
        show Steps p.tables e below (T1.setTop (mkF m 55 #[.val (.long a), .second, .val (.long cc), .second, .val (.int j), .val (.int p0), .val (.int k), .val (.int r), .val (.int (j - p0))] [(.int (r &&& (127 : Int32)))])) _
        refine XS.istore X1.here hx rfl (hb hby d_method_3_55) rfl (l' := #[.val (.long a), .second, .val (.long cc), .second, .val (.int j), .val (.int p0), .val (.int k), .val (.int (r &&& (127 : Int32))), .val (.int (j - p0))]) rfl ?_
        show Steps p.tables e below (T1.setTop (mkF m 57 #[.val (.long a), .second, .val (.long cc), .second, .val (.int j), .val (.int p0), .val (.int k), .val (.int (r &&& (127 : Int32))), .val (.int (j - p0))] [])) _
        exact zk
      · refine ⟨(r), ((if_pos j2).trans (if_neg j3)).symm, fun zt zk => ?_⟩
        show Steps p.tables e below (T1.setTop (mkF m 18 #[.val (.long a), .second, .val (.long cc), .second, .val (.int j), .val (.int p0), .val (.int k), .val (.int r), .val (.int (j - p0))] [(.int (j - p0))])) _
        refine XS.ifYes X1.here hx rfl (pc0 := 18) (pc' := 41) rfl (hb hby d_method_3_18) rfl ((if0 _ _).trans (tlt j2).1) (by decide) (by decide) ?_
        show Steps p.tables e below (T1.setTop (mkF m 41 #[.val (.long a), .second, .val (.long cc), .second, .val (.int j), .val (.int p0), .val (.int k), .val (.int r), .val (.int (j - p0))] [])) _
        refine XS.iload X1.here hx rfl (hb hby d_method_3_41) rfl ?_
        show Steps p.tables e below (T1.setTop (mkF m 43 #[.val (.long a), .second, .val (.long cc), .second, .val (.int j), .val (.int p0), .val (.int k), .val (.int r), .val (.int (j - p0))] [(.int (j - p0))])) _
        refine XS.iload X1.here hx rfl (hb hby d_method_3_43) rfl ?_
        show Steps p.tables e below (T1.setTop (mkF m 45 #[.val (.long a), .second, .val (.long cc), .second, .val (.int j), .val (.int p0), .val (.int k), .val (.int r), .val (.int (j - p0))] [(.int k), (.int (j - p0))])) _
        refine XS.iconst X1.here hx rfl (hb hby d_method_3_45) ?_
        show Steps p.tables e below (T1.setTop (mkF m 46 #[.val (.long a), .second, .val (.long cc), .second, .val (.int j), .val (.int p0), .val (.int k), .val (.int r), .val (.int (j - p0))] [(.int (1 : Int32)), (.int k), (.int (j - p0))])) _
        refine XS.isub X1.here hx rfl (hb hby d_method_3_46) rfl ?_
        show Steps p.tables e below (T1.setTop (mkF m 47 #[.val (.long a), .second, .val (.long cc), .second, .val (.int j), .val (.int p0), .val (.int k), .val (.int r), .val (.int (j - p0))] [(.int (k - (1 : Int32))), (.int (j - p0))])) _
        refine XS.icmpYes X1.here hx rfl (pc0 := 47) (pc' := 57) rfl (hb hby d_method_3_47) rfl (feq j3).2 (by decide) (by decide) ?_
        show Steps p.tables e below (T1.setTop (mkF m 57 #[.val (.long a), .second, .val (.long cc), .second, .val (.int j), .val (.int p0), .val (.int k), .val (.int r), .val (.int (j - p0))] [])) _
        exact zk
    · by_cases j4 : (j - p0) < (k - (1 : Int32))
      · refine ⟨((r ||| (128 : Int32))), ((if_neg j2).trans (if_pos j4)).symm, fun zt zk => ?_⟩
        show Steps p.tables e below (T1.setTop (mkF m 18 #[.val (.long a), .second, .val (.long cc), .second, .val (.int j), .val (.int p0), .val (.int k), .val (.int r), .val (.int (j - p0))] [(.int (j - p0))])) _
        refine XS.ifNo X1.here hx rfl (hb hby d_method_3_18) rfl ((if0 _ _).trans (flt j2).1) ?_
        show Steps p.tables e below (T1.setTop (mkF m 21 #[.val (.long a), .second, .val (.long cc), .second, .val (.int j), .val (.int p0), .val (.int k), .val (.int r), .val (.int (j - p0))] [])) _
        refine XS.iload X1.here hx rfl (hb hby d_method_3_21) rfl ?_
        show Steps p.tables e below (T1.setTop (mkF m 23 #[.val (.long a), .second, .val (.long cc), .second, .val (.int j), .val (.int p0), .val (.int k), .val (.int r), .val (.int (j - p0))] [(.int (j - p0))])) _
        refine XS.iload X1.here hx rfl (hb hby d_method_3_23) rfl ?_
        show Steps p.tables e below (T1.setTop (mkF m 25 #[.val (.long a), .second, .val (.long cc), .second, .val (.int j), .val (.int p0), .val (.int k), .val (.int r), .val (.int (j - p0))] [(.int k), (.int (j - p0))])) _
        refine XS.iconst X1.here hx rfl (hb hby d_method_3_25) ?_
        show Steps p.tables e below (T1.setTop (mkF m 26 #[.val (.long a), .second, .val (.long cc), .second, .val (.int j), .val (.int p0), .val (.int k), .val (.int r), .val (.int (j - p0))] [(.int (1 : Int32)), (.int k), (.int (j - p0))])) _
        refine XS.isub X1.here hx rfl (hb hby d_method_3_26) rfl ?_
        show Steps p.tables e below (T1.setTop (mkF m 27 #[.val (.long a), .second, .val (.long cc), .second, .val (.int j), .val (.int p0), .val (.int k), .val (.int r), .val (.int (j - p0))] [(.int (k - (1 : Int32))), (.int (j - p0))])) _
        refine XS.icmpNo X1.here hx rfl (hb hby d_method_3_27) rfl (tlt j4).2.1 ?_
        show Steps p.tables e below (T1.setTop (mkF m 30 #[.val (.long a), .second, .val (.long cc), .second, .val (.int j), .val (.int p0), .val (.int k), .val (.int r), .val (.int (j - p0))] [])) _
        refine XS.iload X1.here hx rfl (hb hby d_method_3_30) rfl ?_
        show Steps p.tables e below (T1.setTop (mkF m 32 #[.val (.long a), .second, .val (.long cc), .second, .val (.int j), .val (.int p0), .val (.int k), .val (.int r), .val (.int (j - p0))] [(.int r)])) _
        refine XS.sipush X1.here hx rfl (hb hby d_method_3_32) ?_
        show Steps p.tables e below (T1.setTop (mkF m 35 #[.val (.long a), .second, .val (.long cc), .second, .val (.int j), .val (.int p0), .val (.int k), .val (.int r), .val (.int (j - p0))] [(.int (128 : Int32)), (.int r)])) _
        refine XS.ior X1.here hx rfl (hb hby d_method_3_35) rfl ?_
        show Steps p.tables e below (T1.setTop (mkF m 36 #[.val (.long a), .second, .val (.long cc), .second, .val (.int j), .val (.int p0), .val (.int k), .val (.int r), .val (.int (j - p0))] [(.int (r ||| (128 : Int32)))])) _
        refine XS.istore X1.here hx rfl (hb hby d_method_3_36) rfl (l' := #[.val (.long a), .second, .val (.long cc), .second, .val (.int j), .val (.int p0), .val (.int k), .val (.int (r ||| (128 : Int32))), .val (.int (j - p0))]) rfl ?_
        show Steps p.tables e below (T1.setTop (mkF m 38 #[.val (.long a), .second, .val (.long cc), .second, .val (.int j), .val (.int p0), .val (.int k), .val (.int (r ||| (128 : Int32))), .val (.int (j - p0))] [])) _
        refine XS.goto X1.here hx rfl (pc0 := 38) (pc' := 57) rfl (hb hby d_method_3_38) (by decide) (by decide) ?_
        show Steps p.tables e below (T1.setTop (mkF m 57 #[.val (.long a), .second, .val (.long cc), .second, .val (.int j), .val (.int p0), .val (.int k), .val (.int (r ||| (128 : Int32))), .val (.int (j - p0))] [])) _
        exact zk
      · by_cases j5 : (j - p0) = (k - (1 : Int32))
        · refine ⟨((r &&& (127 : Int32))), ((if_neg j2).trans ((if_neg j4).trans (if_pos j5))).symm, fun zt zk => ?_⟩
          show Steps p.tables e below (T1.setTop (mkF m 18 #[.val (.long a), .second, .val (.long cc), .second, .val (.int j), .val (.int p0), .val (.int k), .val (.int r), .val (.int (j - p0))] [(.int (j - p0))])) _
          refine XS.ifNo X1.here hx rfl (hb hby d_method_3_18) rfl ((if0 _ _).trans (flt j2).1) ?_
          show Steps p.tables e below (T1.setTop (mkF m 21 #[.val (.long a), .second, .val (.long cc), .second, .val (.int j), .val (.int p0), .val (.int k), .val (.int r), .val (.int (j - p0))] [])) _
          refine XS.iload X1.here hx rfl (hb hby d_method_3_21) rfl ?_
          show Steps p.tables e below (T1.setTop (mkF m 23 #[.val (.long a), .second, .val (.long cc), .second, .val (.int j), .val (.int p0), .val (.int k), .val (.int r), .val (.int (j - p0))] [(.int (j - p0))])) _
          refine XS.iload X1.here hx rfl (hb hby d_method_3_23) rfl ?_
          show Steps p.tables e below (T1.setTop (mkF m 25 #[.val (.long a), .second, .val (.long cc), .second, .val (.int j), .val (.int p0), .val (.int k), .val (.int r), .val (.int (j - p0))] [(.int k), (.int (j - p0))])) _
          refine XS.iconst X1.here hx rfl (hb hby d_method_3_25) ?_
          show Steps p.tables e below (T1.setTop (mkF m 26 #[.val (.long a), .second, .val (.long cc), .second, .val (.int j), .val (.int p0), .val (.int k), .val (.int r), .val (.int (j - p0))] [(.int (1 : Int32)), (.int k), (.int (j - p0))])) _
          refine XS.isub X1.here hx rfl (hb hby d_method_3_26) rfl ?_
          show Steps p.tables e below (T1.setTop (mkF m 27 #[.val (.long a), .second, .val (.long cc), .second, .val (.int j), .val (.int p0), .val (.int k), .val (.int r), .val (.int (j - p0))] [(.int (k - (1 : Int32))), (.int (j - p0))])) _
          refine XS.icmpYes X1.here hx rfl (pc0 := 27) (pc' := 41) rfl (hb hby d_method_3_27) rfl (flt j4).2.1 (by decide) (by decide) ?_
          show Steps p.tables e below (T1.setTop (mkF m 41 #[.val (.long a), .second, .val (.long cc), .second, .val (.int j), .val (.int p0), .val (.int k), .val (.int r), .val (.int (j - p0))] [])) _
          refine XS.iload X1.here hx rfl (hb hby d_method_3_41) rfl ?_
          show Steps p.tables e below (T1.setTop (mkF m 43 #[.val (.long a), .second, .val (.long cc), .second, .val (.int j), .val (.int p0), .val (.int k), .val (.int r), .val (.int (j - p0))] [(.int (j - p0))])) _
          refine XS.iload X1.here hx rfl (hb hby d_method_3_43) rfl ?_
          show Steps p.tables e below (T1.setTop (mkF m 45 #[.val (.long a), .second, .val (.long cc), .second, .val (.int j), .val (.int p0), .val (.int k), .val (.int r), .val (.int (j - p0))] [(.int k), (.int (j - p0))])) _
          refine XS.iconst X1.here hx rfl (hb hby d_method_3_45) ?_
          show Steps p.tables e below (T1.setTop (mkF m 46 #[.val (.long a), .second, .val (.long cc), .second, .val (.int j), .val (.int p0), .val (.int k), .val (.int r), .val (.int (j - p0))] [(.int (1 : Int32)), (.int k), (.int (j - p0))])) _
          refine XS.isub X1.here hx rfl (hb hby d_method_3_46) rfl ?_
          show Steps p.tables e below (T1.setTop (mkF m 47 #[.val (.long a), .second, .val (.long cc), .second, .val (.int j), .val (.int p0), .val (.int k), .val (.int r), .val (.int (j - p0))] [(.int (k - (1 : Int32))), (.int (j - p0))])) _
          refine XS.icmpNo X1.here hx rfl (hb hby d_method_3_47) rfl (teq j5).2 ?_
          show Steps p.tables e below (T1.setTop (mkF m 50 #[.val (.long a), .second, .val (.long cc), .second, .val (.int j), .val (.int p0), .val (.int k), .val (.int r), .val (.int (j - p0))] [])) _
          refine XS.iload X1.here hx rfl (hb hby d_method_3_50) rfl ?_
          show Steps p.tables e below (T1.setTop (mkF m 52 #[.val (.long a), .second, .val (.long cc), .second, .val (.int j), .val (.int p0), .val (.int k), .val (.int r), .val (.int (j - p0))] [(.int r)])) _
          refine XS.bipush X1.here hx rfl (hb hby d_method_3_52) ?_
          show Steps p.tables e below (T1.setTop (mkF m 54 #[.val (.long a), .second, .val (.long cc), .second, .val (.int j), .val (.int p0), .val (.int k), .val (.int r), .val (.int (j - p0))] [(.int (127 : Int32)), (.int r)])) _
          refine XS.iand X1.here hx rfl (hb hby d_method_3_54) rfl ?_
          show Steps p.tables e below (T1.setTop (mkF m 55 #[.val (.long a), .second, .val (.long cc), .second, .val (.int j), .val (.int p0), .val (.int k), .val (.int r), .val (.int (j - p0))] [(.int (r &&& (127 : Int32)))])) _
          refine XS.istore X1.here hx rfl (hb hby d_method_3_55) rfl (l' := #[.val (.long a), .second, .val (.long cc), .second, .val (.int j), .val (.int p0), .val (.int k), .val (.int (r &&& (127 : Int32))), .val (.int (j - p0))]) rfl ?_
          show Steps p.tables e below (T1.setTop (mkF m 57 #[.val (.long a), .second, .val (.long cc), .second, .val (.int j), .val (.int p0), .val (.int k), .val (.int (r &&& (127 : Int32))), .val (.int (j - p0))] [])) _
          exact zk
        · refine ⟨(r), ((if_neg j2).trans ((if_neg j4).trans (if_neg j5))).symm, fun zt zk => ?_⟩
          show Steps p.tables e below (T1.setTop (mkF m 18 #[.val (.long a), .second, .val (.long cc), .second, .val (.int j), .val (.int p0), .val (.int k), .val (.int r), .val (.int (j - p0))] [(.int (j - p0))])) _
          refine XS.ifNo X1.here hx rfl (hb hby d_method_3_18) rfl ((if0 _ _).trans (flt j2).1) ?_
          show Steps p.tables e below (T1.setTop (mkF m 21 #[.val (.long a), .second, .val (.long cc), .second, .val (.int j), .val (.int p0), .val (.int k), .val (.int r), .val (.int (j - p0))] [])) _
          refine XS.iload X1.here hx rfl (hb hby d_method_3_21) rfl ?_
          show Steps p.tables e below (T1.setTop (mkF m 23 #[.val (.long a), .second, .val (.long cc), .second, .val (.int j), .val (.int p0), .val (.int k), .val (.int r), .val (.int (j - p0))] [(.int (j - p0))])) _
          refine XS.iload X1.here hx rfl (hb hby d_method_3_23) rfl ?_
          show Steps p.tables e below (T1.setTop (mkF m 25 #[.val (.long a), .second, .val (.long cc), .second, .val (.int j), .val (.int p0), .val (.int k), .val (.int r), .val (.int (j - p0))] [(.int k), (.int (j - p0))])) _
          refine XS.iconst X1.here hx rfl (hb hby d_method_3_25) ?_
          show Steps p.tables e below (T1.setTop (mkF m 26 #[.val (.long a), .second, .val (.long cc), .second, .val (.int j), .val (.int p0), .val (.int k), .val (.int r), .val (.int (j - p0))] [(.int (1 : Int32)), (.int k), (.int (j - p0))])) _
          refine XS.isub X1.here hx rfl (hb hby d_method_3_26) rfl ?_
          show Steps p.tables e below (T1.setTop (mkF m 27 #[.val (.long a), .second, .val (.long cc), .second, .val (.int j), .val (.int p0), .val (.int k), .val (.int r), .val (.int (j - p0))] [(.int (k - (1 : Int32))), (.int (j - p0))])) _
          refine XS.icmpYes X1.here hx rfl (pc0 := 27) (pc' := 41) rfl (hb hby d_method_3_27) rfl (flt j4).2.1 (by decide) (by decide) ?_
          show Steps p.tables e below (T1.setTop (mkF m 41 #[.val (.long a), .second, .val (.long cc), .second, .val (.int j), .val (.int p0), .val (.int k), .val (.int r), .val (.int (j - p0))] [])) _
          refine XS.iload X1.here hx rfl (hb hby d_method_3_41) rfl ?_
          show Steps p.tables e below (T1.setTop (mkF m 43 #[.val (.long a), .second, .val (.long cc), .second, .val (.int j), .val (.int p0), .val (.int k), .val (.int r), .val (.int (j - p0))] [(.int (j - p0))])) _
          refine XS.iload X1.here hx rfl (hb hby d_method_3_43) rfl ?_
          show Steps p.tables e below (T1.setTop (mkF m 45 #[.val (.long a), .second, .val (.long cc), .second, .val (.int j), .val (.int p0), .val (.int k), .val (.int r), .val (.int (j - p0))] [(.int k), (.int (j - p0))])) _
          refine XS.iconst X1.here hx rfl (hb hby d_method_3_45) ?_
          show Steps p.tables e below (T1.setTop (mkF m 46 #[.val (.long a), .second, .val (.long cc), .second, .val (.int j), .val (.int p0), .val (.int k), .val (.int r), .val (.int (j - p0))] [(.int (1 : Int32)), (.int k), (.int (j - p0))])) _
          refine XS.isub X1.here hx rfl (hb hby d_method_3_46) rfl ?_
          show Steps p.tables e below (T1.setTop (mkF m 47 #[.val (.long a), .second, .val (.long cc), .second, .val (.int j), .val (.int p0), .val (.int k), .val (.int r), .val (.int (j - p0))] [(.int (k - (1 : Int32))), (.int (j - p0))])) _
          refine XS.icmpYes X1.here hx rfl (pc0 := 47) (pc' := 57) rfl (hb hby d_method_3_47) rfl (feq j5).2 (by decide) (by decide) ?_
          show Steps p.tables e below (T1.setTop (mkF m 57 #[.val (.long a), .second, .val (.long cc), .second, .val (.int j), .val (.int p0), .val (.int k), .val (.int r), .val (.int (j - p0))] [])) _
          exact zk
  refine own_by (sj6) ?_
  show own_Go p.tables e below (T1.setTop (mkF m 57 #[.val (.long a), .second, .val (.long cc), .second, .val (.int j), .val (.int p0), .val (.int k), .val (.int q), .val (.int (j - p0))] [])) _
  refine own_by (fun zt zk => XS.iload X1.here hx rfl (hb hby d_method_3_57) rfl zk) ?_
  show own_Go p.tables e below (T1.setTop (mkF m 59 #[.val (.long a), .second, .val (.long cc), .second, .val (.int j), .val (.int p0), .val (.int k), .val (.int q), .val (.int (j - p0))] [(.int q)])) _
  refine own_by (fun zt zk => XS.i2b X1.here hx rfl (hb hby d_method_3_59) rfl zk) ?_
  show own_Go p.tables e below (T1.setTop (mkF m 60 #[.val (.long a), .second, .val (.long cc), .second, .val (.int j), .val (.int p0), .val (.int k), .val (.int q), .val (.int (j - p0))] [(.int (q.toInt8.toInt32))])) _
  exact own_retN X1 hx Bd.notSynchronized (t := .byte) Bd.returns (by simp) (own_bb _) (hb hby d_method_3_60) (by (try rw [eh1]); exact ⟨_, rfl, N1, rfl, own_bb _, own_ad1 hq, own_ad2 hq⟩) (by decide) (by decide)
theorem d_method_4_0 : decode method_4_code 0 = .ok (.iload_n 2, 1) := by decide +kernel
theorem d_method_4_1 : decode method_4_code 1 = .ok (.iload_n 3, 1) := by decide +kernel
theorem d_method_4_2 : decode method_4_code 2 = .ok (.if_icmp .lt 5, 3) := by decide +kernel
theorem d_method_4_7 : decode method_4_code 7 = .ok (.aload_n 0, 1) := by decide +kernel
theorem d_method_4_8 : decode method_4_code 8 = .ok (.iload_n 1, 1) := by decide +kernel
theorem d_method_4_9 : decode method_4_code 9 = .ok (.iload_n 2, 1) := by decide +kernel
theorem d_method_4_10 : decode method_4_code 10 = .ok (.iadd, 1) := by decide +kernel
theorem d_method_4_11 : decode method_4_code 11 = .ok (.baload, 1) := by decide +kernel
theorem d_method_4_12 : decode method_4_code 12 = .ok (.bipush 127, 2) := by decide +kernel
theorem d_method_4_14 : decode method_4_code 14 = .ok (.iand, 1) := by decide +kernel
theorem d_method_4_15 : decode method_4_code 15 = .ok (.i2l, 1) := by decide +kernel
theorem d_method_4_16 : decode method_4_code 16 = .ok (.bipush 7, 2) := by decide +kernel
theorem d_method_4_18 : decode method_4_code 18 = .ok (.iload_n 2, 1) := by decide +kernel
theorem d_method_4_19 : decode method_4_code 19 = .ok (.imul, 1) := by decide +kernel
theorem d_method_4_20 : decode method_4_code 20 = .ok (.lshl, 1) := by decide +kernel
theorem d_method_4_21 : decode method_4_code 21 = .ok (.lreturn, 1) := by decide +kernel
theorem d_method_4_5 : decode method_4_code 5 = .ok (.lconst 0, 1) := by decide +kernel
theorem d_method_4_6 : decode method_4_code 6 = .ok (.lreturn, 1) := by decide +kernel
theorem ef_rm_term (m : MethodId) (d : Addr) (p0 : Int32) (i : Int32) (k : Int32) : entryFrame m #[(.ref d), (.int p0), (.int i), (.int k)] 4 = mkF m 0 #[.val (.ref d), .val (.int p0), .val (.int i), .val (.int k)] [] := by first | (simp [entryFrame, mkF, argsToLocals, Value.category]; done) | rfl
set_option maxRecDepth 65536 in
set_option maxHeartbeats 40000000 in
theorem rm_term (l : Launch) (Z : State) (a0 : Array Value) (hw : ∀ d ∈ tables_1, d.before a0 Z = true) (zws : List Jvm.Cond) (d : Addr) (p0 i k : Int32) (PP N : Nat) (f : Nat → Int32) (h0 : Heap) (n0 : Nat) (Z0 : n0 ≤ h0.size) (A_d : own_AI Z h0 d .byte 16 f) (hp : p0 = Int32.ofNat PP) (hi : i = Int32.ofNat N) (hb' : PP + N < 16) :
    MetFree l (⟨"com/example/aprox/aprox/ByteReaderReadVLongPinLaw", "term", "([BIII)J"⟩ : MethodName) (head1 (Jvm.Cond.code (⟨"com/example/aprox/aprox/ByteReaderReadVLongPinLaw", "term", "([BIII)J"⟩ : MethodName) method_4_code 4 (some .long) :: zws) ({ frames := 0, cells := 0, slots := 0, locals := 0 } : Room)) (fun zA zU => zA = #[(.ref d), (.int p0), (.int i), (.int k)] ∧ Z.Warmed39 zU.vm ∧ zU.heap = h0) (fun _ _ _ _ _ => True) (fun _ zU zo zW => ∃ zv zL, zo = .returned zv ∧ (own_QJ h0 n0 (own_tm f PP N i k)) zv zW.heap zL ∧ FrameEnd zU zo zW zL ({ frames := 0, cells := 0, slots := 0, locals := 0 } : Room).cells ({ frames := 0, cells := 0, slots := 0, locals := 0 } : Room).slots) := by
  refine MetFree.of_bodySF (plainFor_of_name pn_23) hisR ?_
  intro p e s m args below meth c s₁ Bd hml0 hP hK
  obtain ⟨rfl, hZ, hh⟩ := hP
  have hx := Bd.exec
  have hby := Bd.bytes
  have hml : c.maxLocals = 4 := hml0
  have hown : s.vm.findClass "com/example/aprox/aprox/ByteReaderReadVLongPinLaw" = some m.cls := findClass_of_methodNamed Bd.named
  have hnm := (name_of_methodNamed Bd.named Bd.method).1
  have X0 : Stand p l e ({ frames := 0, cells := 0, slots := 0, locals := 0 } : Room) s m #[(.ref d), (.int p0), (.int i), (.int k)] below meth c s₁ [] 0 0 := Stand.of_body Bd
  have e0 : s₁.heap = h0 := by rw [← hh, Bd.state]; rfl
  have N0 := Fr.nil n0
  refine own_out (Q := own_QJ h0 n0 (own_tm f PP N i k)) ?_
  refine own_cast (ef_rm_term m d p0 i k) ?_
  show own_Go p.tables e below (s₁.setTop (mkF m 0 #[.val (.ref d), .val (.int p0), .val (.int i), .val (.int k)] [])) _
  refine own_by (fun zt zk => XS.iloadN X0.here hx rfl (hb hby d_method_4_0) rfl zk) ?_
  show own_Go p.tables e below (s₁.setTop (mkF m 1 #[.val (.ref d), .val (.int p0), .val (.int i), .val (.int k)] [(.int i)])) _
  refine own_by (fun zt zk => XS.iloadN X0.here hx rfl (hb hby d_method_4_1) rfl zk) ?_
  show own_Go p.tables e below (s₁.setTop (mkF m 2 #[.val (.ref d), .val (.int p0), .val (.int i), .val (.int k)] [(.int k), (.int i)])) _
  by_cases c1 : i < k
  · refine own_by (fun zt zk => XS.icmpYes X0.here hx rfl (pc0 := 2) (pc' := 7) rfl (hb hby d_method_4_2) rfl (tlt c1).1 (by decide) (by decide) zk) ?_
    show own_Go p.tables e below (s₁.setTop (mkF m 7 #[.val (.ref d), .val (.int p0), .val (.int i), .val (.int k)] [])) _
    refine own_by (fun zt zk => XS.aloadN X0.here hx rfl (hb hby d_method_4_7) rfl rfl zk) ?_
    show own_Go p.tables e below (s₁.setTop (mkF m 8 #[.val (.ref d), .val (.int p0), .val (.int i), .val (.int k)] [(.ref d)])) _
    refine own_by (fun zt zk => XS.iloadN X0.here hx rfl (hb hby d_method_4_8) rfl zk) ?_
    show own_Go p.tables e below (s₁.setTop (mkF m 9 #[.val (.ref d), .val (.int p0), .val (.int i), .val (.int k)] [(.int p0), (.ref d)])) _
    refine own_by (fun zt zk => XS.iloadN X0.here hx rfl (hb hby d_method_4_9) rfl zk) ?_
    show own_Go p.tables e below (s₁.setTop (mkF m 10 #[.val (.ref d), .val (.int p0), .val (.int i), .val (.int k)] [(.int i), (.int p0), (.ref d)])) _
    refine own_by (fun zt zk => XS.iadd X0.here hx rfl (hb hby d_method_4_10) rfl zk) ?_
    show own_Go p.tables e below (s₁.setTop (mkF m 11 #[.val (.ref d), .val (.int p0), .val (.int i), .val (.int k)] [(.int (p0 + i)), (.ref d)])) _
    obtain ⟨i0, ik⟩ := own_ixN (own_addN hp hi) hb'
    refine own_by (own_ldB X0 hx hZ e0 A_d (j := (p0 + i)) (k := (PP + N)) i0 ik hb' (g := (mkF m 11 #[.val (.ref d), .val (.int p0), .val (.int i), .val (.int k)] [(.int (p0 + i)), (.ref d)])) rfl rfl (hb hby d_method_4_11)) ?_
    show own_Go p.tables e below (s₁.setTop (mkF m 12 #[.val (.ref d), .val (.int p0), .val (.int i), .val (.int k)] [(.int (f (PP + N)))])) _
    refine own_by (fun zt zk => XS.bipush X0.here hx rfl (hb hby d_method_4_12) zk) ?_
    show own_Go p.tables e below (s₁.setTop (mkF m 14 #[.val (.ref d), .val (.int p0), .val (.int i), .val (.int k)] [(.int (127 : Int32)), (.int (f (PP + N)))])) _
    refine own_by (fun zt zk => XS.iand X0.here hx rfl (hb hby d_method_4_14) rfl zk) ?_
    show own_Go p.tables e below (s₁.setTop (mkF m 15 #[.val (.ref d), .val (.int p0), .val (.int i), .val (.int k)] [(.int ((f (PP + N)) &&& (127 : Int32)))])) _
    refine own_by (fun zt zk => XS.i2l X0.here hx rfl (hb hby d_method_4_15) rfl zk) ?_
    show own_Go p.tables e below (s₁.setTop (mkF m 16 #[.val (.ref d), .val (.int p0), .val (.int i), .val (.int k)] [(.long (((f (PP + N)) &&& (127 : Int32)).toInt64))])) _
    refine own_by (fun zt zk => XS.bipush X0.here hx rfl (hb hby d_method_4_16) zk) ?_
    show own_Go p.tables e below (s₁.setTop (mkF m 18 #[.val (.ref d), .val (.int p0), .val (.int i), .val (.int k)] [(.int (7 : Int32)), (.long (((f (PP + N)) &&& (127 : Int32)).toInt64))])) _
    refine own_by (fun zt zk => XS.iloadN X0.here hx rfl (hb hby d_method_4_18) rfl zk) ?_
    show own_Go p.tables e below (s₁.setTop (mkF m 19 #[.val (.ref d), .val (.int p0), .val (.int i), .val (.int k)] [(.int i), (.int (7 : Int32)), (.long (((f (PP + N)) &&& (127 : Int32)).toInt64))])) _
    refine own_by (fun zt zk => XS.imul X0.here hx rfl (hb hby d_method_4_19) rfl zk) ?_
    show own_Go p.tables e below (s₁.setTop (mkF m 20 #[.val (.ref d), .val (.int p0), .val (.int i), .val (.int k)] [(.int ((7 : Int32) * i)), (.long (((f (PP + N)) &&& (127 : Int32)).toInt64))])) _
    refine own_by (fun zt zk => XS.lshl X0.here hx rfl (hb hby d_method_4_20) rfl zk) ?_
    show own_Go p.tables e below (s₁.setTop (mkF m 21 #[.val (.ref d), .val (.int p0), .val (.int i), .val (.int k)] [(.long ((((f (PP + N)) &&& (127 : Int32)).toInt64) <<< (((7 : Int32) * i) &&& 0x3f).toInt64))])) _
    exact own_retJ X0 hx Bd.notSynchronized Bd.returns (hb hby d_method_4_21) (by (try rw [e0]); exact ⟨_, rfl, N0, rfl, (if_pos c1).symm⟩) (by decide) (by decide)
  · refine own_by (fun zt zk => XS.icmpNo X0.here hx rfl (hb hby d_method_4_2) rfl (flt c1).1 zk) ?_
    show own_Go p.tables e below (s₁.setTop (mkF m 5 #[.val (.ref d), .val (.int p0), .val (.int i), .val (.int k)] [])) _
    refine own_by (fun zt zk => XS.lconst X0.here hx rfl (hb hby d_method_4_5) zk) ?_
    show own_Go p.tables e below (s₁.setTop (mkF m 6 #[.val (.ref d), .val (.int p0), .val (.int i), .val (.int k)] [(.long (0 : Int64))])) _
    exact own_retJ X0 hx Bd.notSynchronized Bd.returns (hb hby d_method_4_6) (by (try rw [e0]); exact ⟨_, rfl, N0, rfl, (if_neg c1).symm⟩) (by decide) (by decide)
theorem d_prog_5_method_1_0 : decode prog_5_method_1_code 0 = .ok (.aload_n 0, 1) := by decide +kernel
theorem d_prog_5_method_1_1 : decode prog_5_method_1_code 1 = .ok (.invokespecial 1, 3) := by decide +kernel
theorem d_prog_5_method_1_4 : decode prog_5_method_1_code 4 = .ok (.aload_n 0, 1) := by decide +kernel
theorem d_prog_5_method_1_5 : decode prog_5_method_1_code 5 = .ok (.aload_n 1, 1) := by decide +kernel
theorem d_prog_5_method_1_6 : decode prog_5_method_1_code 6 = .ok (.putfield 7, 3) := by decide +kernel
theorem d_prog_5_method_1_9 : decode prog_5_method_1_code 9 = .ok (.aload_n 0, 1) := by decide +kernel
theorem d_prog_5_method_1_10 : decode prog_5_method_1_code 10 = .ok (.iload_n 2, 1) := by decide +kernel
theorem d_prog_5_method_1_11 : decode prog_5_method_1_code 11 = .ok (.putfield 13, 3) := by decide +kernel
theorem d_prog_5_method_1_14 : decode prog_5_method_1_code 14 = .ok (.return_, 1) := by decide +kernel
def Q_rm_new (Z : State) (a : Addr) (d : Addr) (p0 : Int32) (h0 : Heap) (n0 : Nat) (v : Option Value) (h : Heap) (L : List Loc) : Prop := v = none ∧ Fr n0 L ∧ Keep h0 h [a] ∧ Fld Z h a "com/example/aprox/aprox/ByteReader" "bytes" "[B" (.ref d) ∧ Fld Z h a "com/example/aprox/aprox/ByteReader" "position" "I" (.int p0)
theorem ef_rm_new (m : MethodId) (a : Addr) (d : Addr) (p0 : Int32) : entryFrame m #[(.ref a), (.ref d), (.int p0)] 3 = mkF m 0 #[.val (.ref a), .val (.ref d), .val (.int p0)] [] := by first | (simp [entryFrame, mkF, argsToLocals, Value.category]; done) | rfl
theorem pn_85 : plainName "com/example/aprox/aprox/ByteReader" = true := by first | (simp [plainName, overriddenIn]; done) | decide +kernel
set_option maxRecDepth 65536 in
set_option maxHeartbeats 40000000 in
theorem rm_new (l : Launch) (Z : State) (a0 : Array Value) (hw : ∀ d ∈ tables_1, d.before a0 Z = true) (zws : List Jvm.Cond) (a : Addr) (d : Addr) (p0 : Int32) (h0 : Heap) (n0 : Nat) (Z0 : n0 ≤ h0.size) (E_a : Exa Z h0 a "com/example/aprox/aprox/ByteReader") (g_a : n0 ≤ a) (F_b : Fld Z h0 a "com/example/aprox/aprox/ByteReader" "bytes" "[B" .null) (F_p : Fld Z h0 a "com/example/aprox/aprox/ByteReader" "position" "I" (.int (0 : Int32))) :
    MetFree l (⟨"com/example/aprox/aprox/ByteReader", "<init>", "([BI)V"⟩ : MethodName) (head1 (Jvm.Cond.code (⟨"com/example/aprox/aprox/ByteReader", "<init>", "([BI)V"⟩ : MethodName) prog_5_method_1_code 3 none :: zws) ({ frames := 1, cells := 0, slots := 0, locals := 12 } : Room)) (fun zA zU => zA = #[(.ref a), (.ref d), (.int p0)] ∧ Z.Warmed39 zU.vm ∧ zU.heap = h0) (fun _ _ _ _ _ => True) (fun _ zU zo zW => ∃ zv zL, zo = .returned zv ∧ (Q_rm_new Z a d p0 h0 n0) zv zW.heap zL ∧ FrameEnd zU zo zW zL ({ frames := 1, cells := 0, slots := 0, locals := 12 } : Room).cells ({ frames := 1, cells := 0, slots := 0, locals := 12 } : Room).slots) := by
  refine MetFree.of_bodySF (plainFor_of_name pn_85) hisR ?_
  intro p e s m args below meth c s₁ Bd hml0 hP hK
  obtain ⟨rfl, hZ, hh⟩ := hP
  have hx := Bd.exec
  have hby := Bd.bytes
  have hml : c.maxLocals = 3 := hml0
  have hown : s.vm.findClass "com/example/aprox/aprox/ByteReader" = some m.cls := findClass_of_methodNamed Bd.named
  have hnm := (name_of_methodNamed Bd.named Bd.method).1
  have X0 : Stand p l e ({ frames := 1, cells := 0, slots := 0, locals := 12 } : Room) s m #[(.ref a), (.ref d), (.int p0)] below meth c s₁ [] 0 0 := Stand.of_body Bd
  have e0 : s₁.heap = h0 := by rw [← hh, Bd.state]; rfl
  have N0 := Fr.nil n0
  refine own_out (Q := Q_rm_new Z a d p0 h0 n0) ?_
  refine own_cast (ef_rm_new m a d p0) ?_
  show own_Go p.tables e below (s₁.setTop (mkF m 0 #[.val (.ref a), .val (.ref d), .val (.int p0)] [])) _
  refine own_by (fun zt zk => XS.aloadN X0.here hx rfl (hb hby d_prog_5_method_1_0) rfl rfl zk) ?_
  show own_Go p.tables e below (s₁.setTop (mkF m 1 #[.val (.ref a), .val (.ref d), .val (.int p0)] [(.ref a)])) _
  obtain ⟨T1, X1, e1, st1⟩ := initO X0 hx hZ hown (hw _ (List.mem_of_getElem? (i := 19) rfl)) (hw _ (List.mem_of_getElem? (i := 20) rfl)) (hw _ (List.mem_of_getElem? (i := 21) rfl)) e0 (g := (mkF m 1 #[.val (.ref a), .val (.ref d), .val (.int p0)] [(.ref a)])) rfl (by rw [hml]; rfl) rfl (hb hby d_prog_5_method_1_1) (by decide) (W := 0) (by show 2 * 0 + _ ≤ _; exact Nat.le_of_eq rfl) (by decide)
  refine own_by (st1) ?_
  show own_Go p.tables e below (T1.setTop (mkF m 4 #[.val (.ref a), .val (.ref d), .val (.int p0)] [])) _
  refine own_by (fun zt zk => XS.aloadN X1.here hx rfl (hb hby d_prog_5_method_1_4) rfl rfl zk) ?_
  show own_Go p.tables e below (T1.setTop (mkF m 5 #[.val (.ref a), .val (.ref d), .val (.int p0)] [(.ref a)])) _
  refine own_by (fun zt zk => XS.aloadN X1.here hx rfl (hb hby d_prog_5_method_1_5) rfl rfl zk) ?_
  show own_Go p.tables e below (T1.setTop (mkF m 6 #[.val (.ref a), .val (.ref d), .val (.int p0)] [(.ref d), (.ref a)])) _
  obtain ⟨T2, hea2, X2, e2, W2, st2⟩ := putF X1 hx hZ hown (host := "") (Or.inl (hw _ (List.mem_of_getElem? (i := 22) rfl))) Via.refl e1 F_b E_a (Or.inr ⟨(hw _ (List.mem_of_getElem? (i := 23) rfl)), rfl, hnm⟩) (hw _ (List.mem_of_getElem? (i := 14) rfl)) (ty := (.array .byte)) (by decide) rfl rfl (g := (mkF m 6 #[.val (.ref a), .val (.ref d), .val (.int p0)] [(.ref d), (.ref a)])) rfl rfl (hb hby d_prog_5_method_1_6)
  have Fw2 := (F_b).same W2
  have N2 := Fr.snoc X2 N0 g_a
  have K2 : Keep h0 hea2 [a] := (Keep.refl h0 [a]).wr W2 (Or.inl (List.mem_of_getElem? (i := 0) rfl))
  refine own_by (st2) ?_
  show own_Go p.tables e below (T2.setTop (mkF m 9 #[.val (.ref a), .val (.ref d), .val (.int p0)] [])) _
  refine own_by (fun zt zk => XS.aloadN X2.here hx rfl (hb hby d_prog_5_method_1_9) rfl rfl zk) ?_
  show own_Go p.tables e below (T2.setTop (mkF m 10 #[.val (.ref a), .val (.ref d), .val (.int p0)] [(.ref a)])) _
  refine own_by (fun zt zk => XS.iloadN X2.here hx rfl (hb hby d_prog_5_method_1_10) rfl zk) ?_
  show own_Go p.tables e below (T2.setTop (mkF m 11 #[.val (.ref a), .val (.ref d), .val (.int p0)] [(.int p0), (.ref a)])) _
  have c4 := (F_p.other W2 (Or.inr (slot_ne (Or.inl (hw _ (List.mem_of_getElem? (i := 25) rfl))) (Or.inr (hw _ (List.mem_of_getElem? (i := 23) rfl))) (by decide) (t := .int) (t' := (.array .byte)) (by decide) (by decide))))
  obtain ⟨T3, hea3, X3, e3, W3, st3⟩ := putF X2 hx hZ hown (host := "") (Or.inl (hw _ (List.mem_of_getElem? (i := 24) rfl))) Via.refl e2 c4 (E_a.wr W2) (Or.inl (hw _ (List.mem_of_getElem? (i := 25) rfl))) (hw _ (List.mem_of_getElem? (i := 14) rfl)) (ty := .int) (by decide) rfl rfl (g := (mkF m 11 #[.val (.ref a), .val (.ref d), .val (.int p0)] [(.int p0), (.ref a)])) rfl rfl (hb hby d_prog_5_method_1_11)
  have Fw3 := (c4).same W3
  have N3 := Fr.snoc X3 N2 g_a
  have K3 : Keep h0 hea3 [a] := K2.wr W3 (Or.inl (List.mem_of_getElem? (i := 0) rfl))
  refine own_by (st3) ?_
  show own_Go p.tables e below (T3.setTop (mkF m 14 #[.val (.ref a), .val (.ref d), .val (.int p0)] [])) _
  have c5 := (Fw2.other W3 (Or.inr (slot_ne (Or.inr (hw _ (List.mem_of_getElem? (i := 23) rfl))) (Or.inl (hw _ (List.mem_of_getElem? (i := 25) rfl))) (by decide) (t := (.array .byte)) (t' := .int) (by decide) (by decide))))
  exact own_retV X3 hx Bd.notSynchronized Bd.returns (hb hby d_prog_5_method_1_14) (by (try rw [e3]); exact ⟨rfl, N3, K3, c5, Fw3⟩) (by decide) (by decide)
theorem d_prog_5_method_4_0 : decode prog_5_method_4_code 0 = .ok (.lconst 0, 1) := by decide +kernel
theorem d_prog_5_method_4_1 : decode prog_5_method_4_code 1 = .ok (.lstore_n 1, 1) := by decide +kernel
theorem d_prog_5_method_4_2 : decode prog_5_method_4_code 2 = .ok (.iconst 0, 1) := by decide +kernel
theorem d_prog_5_method_4_3 : decode prog_5_method_4_code 3 = .ok (.istore_n 3, 1) := by decide +kernel
theorem d_prog_5_method_4_4 : decode prog_5_method_4_code 4 = .ok (.aload_n 0, 1) := by decide +kernel
theorem d_prog_5_method_4_5 : decode prog_5_method_4_code 5 = .ok (.getfield 7, 3) := by decide +kernel
theorem d_prog_5_method_4_8 : decode prog_5_method_4_code 8 = .ok (.aload_n 0, 1) := by decide +kernel
theorem d_prog_5_method_4_9 : decode prog_5_method_4_code 9 = .ok (.dup, 1) := by decide +kernel
theorem d_prog_5_method_4_10 : decode prog_5_method_4_code 10 = .ok (.getfield 13, 3) := by decide +kernel
theorem d_prog_5_method_4_13 : decode prog_5_method_4_code 13 = .ok (.dup_x1, 1) := by decide +kernel
theorem d_prog_5_method_4_14 : decode prog_5_method_4_code 14 = .ok (.iconst 1, 1) := by decide +kernel
theorem d_prog_5_method_4_15 : decode prog_5_method_4_code 15 = .ok (.iadd, 1) := by decide +kernel
theorem d_prog_5_method_4_16 : decode prog_5_method_4_code 16 = .ok (.putfield 13, 3) := by decide +kernel
theorem d_prog_5_method_4_19 : decode prog_5_method_4_code 19 = .ok (.baload, 1) := by decide +kernel
theorem d_prog_5_method_4_20 : decode prog_5_method_4_code 20 = .ok (.istore 4, 2) := by decide +kernel
theorem d_prog_5_method_4_22 : decode prog_5_method_4_code 22 = .ok (.iload 4, 2) := by decide +kernel
theorem d_prog_5_method_4_24 : decode prog_5_method_4_code 24 = .ok (.ifCond .ge 38, 3) := by decide +kernel
theorem d_prog_5_method_4_62 : decode prog_5_method_4_code 62 = .ok (.lload_n 1, 1) := by decide +kernel
theorem d_prog_5_method_4_63 : decode prog_5_method_4_code 63 = .ok (.iload 4, 2) := by decide +kernel
theorem d_prog_5_method_4_65 : decode prog_5_method_4_code 65 = .ok (.i2l, 1) := by decide +kernel
theorem d_prog_5_method_4_66 : decode prog_5_method_4_code 66 = .ok (.iload_n 3, 1) := by decide +kernel
theorem d_prog_5_method_4_67 : decode prog_5_method_4_code 67 = .ok (.lshl, 1) := by decide +kernel
theorem d_prog_5_method_4_68 : decode prog_5_method_4_code 68 = .ok (.lor, 1) := by decide +kernel
theorem d_prog_5_method_4_69 : decode prog_5_method_4_code 69 = .ok (.lreturn, 1) := by decide +kernel
theorem d_prog_5_method_4_27 : decode prog_5_method_4_code 27 = .ok (.lload_n 1, 1) := by decide +kernel
theorem d_prog_5_method_4_28 : decode prog_5_method_4_code 28 = .ok (.iload 4, 2) := by decide +kernel
theorem d_prog_5_method_4_30 : decode prog_5_method_4_code 30 = .ok (.bipush 127, 2) := by decide +kernel
theorem d_prog_5_method_4_32 : decode prog_5_method_4_code 32 = .ok (.iand, 1) := by decide +kernel
theorem d_prog_5_method_4_33 : decode prog_5_method_4_code 33 = .ok (.i2l, 1) := by decide +kernel
theorem d_prog_5_method_4_34 : decode prog_5_method_4_code 34 = .ok (.iload_n 3, 1) := by decide +kernel
theorem d_prog_5_method_4_35 : decode prog_5_method_4_code 35 = .ok (.lshl, 1) := by decide +kernel
theorem d_prog_5_method_4_36 : decode prog_5_method_4_code 36 = .ok (.lor, 1) := by decide +kernel
theorem d_prog_5_method_4_37 : decode prog_5_method_4_code 37 = .ok (.lstore_n 1, 1) := by decide +kernel
theorem d_prog_5_method_4_38 : decode prog_5_method_4_code 38 = .ok (.iinc 3 7, 3) := by decide +kernel
theorem d_prog_5_method_4_41 : decode prog_5_method_4_code 41 = .ok (.aload_n 0, 1) := by decide +kernel
theorem d_prog_5_method_4_42 : decode prog_5_method_4_code 42 = .ok (.getfield 7, 3) := by decide +kernel
theorem d_prog_5_method_4_45 : decode prog_5_method_4_code 45 = .ok (.aload_n 0, 1) := by decide +kernel
theorem d_prog_5_method_4_46 : decode prog_5_method_4_code 46 = .ok (.dup, 1) := by decide +kernel
theorem d_prog_5_method_4_47 : decode prog_5_method_4_code 47 = .ok (.getfield 13, 3) := by decide +kernel
theorem d_prog_5_method_4_50 : decode prog_5_method_4_code 50 = .ok (.dup_x1, 1) := by decide +kernel
theorem d_prog_5_method_4_51 : decode prog_5_method_4_code 51 = .ok (.iconst 1, 1) := by decide +kernel
theorem d_prog_5_method_4_52 : decode prog_5_method_4_code 52 = .ok (.iadd, 1) := by decide +kernel
theorem d_prog_5_method_4_53 : decode prog_5_method_4_code 53 = .ok (.putfield 13, 3) := by decide +kernel
theorem d_prog_5_method_4_56 : decode prog_5_method_4_code 56 = .ok (.baload, 1) := by decide +kernel
theorem d_prog_5_method_4_57 : decode prog_5_method_4_code 57 = .ok (.istore 4, 2) := by decide +kernel
theorem d_prog_5_method_4_59 : decode prog_5_method_4_code 59 = .ok (.goto (-37), 3) := by decide +kernel
def Q_rm_rv (Z : State) (a : Addr) (d : Addr) (p0 : Int32) (PP K : Nat) (f : Nat → Int32) (h0 : Heap) (n0 : Nat) (v : Option Value) (h : Heap) (L : List Loc) : Prop := ∃ r : Int64, v = some (.long r) ∧ Fr n0 L ∧ Keep h0 h [a] ∧ Fld Z h a "com/example/aprox/aprox/ByteReader" "position" "I" (.int (Int32.ofNat (PP + K + 1))) ∧ r = own_rd f PP K 0 0
theorem ef_rm_rv (m : MethodId) (a : Addr) : entryFrame m #[(.ref a)] 5 = mkF m 0 #[.val (.ref a), .unset, .unset, .unset, .unset] [] := by first | (simp [entryFrame, mkF, argsToLocals, Value.category]; done) | rfl
set_option maxRecDepth 65536 in
set_option maxHeartbeats 40000000 in
theorem rm_rv (l : Launch) (Z : State) (a0 : Array Value) (hw : ∀ d ∈ tables_1, d.before a0 Z = true) (zws : List Jvm.Cond) (a : Addr) (d : Addr) (p0 : Int32) (PP K : Nat) (f : Nat → Int32) (h0 : Heap) (n0 : Nat) (Z0 : n0 ≤ h0.size) (E_a : Exa Z h0 a "com/example/aprox/aprox/ByteReader") (g_a : n0 ≤ a) (F_b : Fld Z h0 a "com/example/aprox/aprox/ByteReader" "bytes" "[B" (.ref d)) (F_p : Fld Z h0 a "com/example/aprox/aprox/ByteReader" "position" "I" (.int p0)) (A_d : own_AI Z h0 d .byte 16 f) (ne_a_d : a ≠ d) (hp : p0 = Int32.ofNat PP) (hK : PP + K < 16) (hneg : ∀ i, i < K → f (PP + i) < (0 : Int32)) (hpos : ¬ f (PP + K) < (0 : Int32)) :
    MetFree l (⟨"com/example/aprox/aprox/ByteReader", "readVLong", "()J"⟩ : MethodName) (head1 (Jvm.Cond.code (⟨"com/example/aprox/aprox/ByteReader", "readVLong", "()J"⟩ : MethodName) prog_5_method_4_code 5 (some .long) :: zws) ({ frames := 0, cells := 0, slots := 0, locals := 0 } : Room)) (fun zA zU => zA = #[(.ref a)] ∧ Z.Warmed39 zU.vm ∧ zU.heap = h0) (fun _ _ _ _ _ => True) (fun _ zU zo zW => ∃ zv zL, zo = .returned zv ∧ (Q_rm_rv Z a d p0 PP K f h0 n0) zv zW.heap zL ∧ FrameEnd zU zo zW zL ({ frames := 0, cells := 0, slots := 0, locals := 0 } : Room).cells ({ frames := 0, cells := 0, slots := 0, locals := 0 } : Room).slots) := by
  refine MetFree.of_bodySF (plainFor_of_name pn_85) hisR ?_
  intro p e s m args below meth c s₁ Bd hml0 hP hK
  obtain ⟨rfl, hZ, hh⟩ := hP
  have hx := Bd.exec
  have hby := Bd.bytes
  have hml : c.maxLocals = 5 := hml0
  have hown : s.vm.findClass "com/example/aprox/aprox/ByteReader" = some m.cls := findClass_of_methodNamed Bd.named
  have hnm := (name_of_methodNamed Bd.named Bd.method).1
  have X0 : Stand p l e ({ frames := 0, cells := 0, slots := 0, locals := 0 } : Room) s m #[(.ref a)] below meth c s₁ [] 0 0 := Stand.of_body Bd
  have e0 : s₁.heap = h0 := by rw [← hh, Bd.state]; rfl
  have N0 := Fr.nil n0
  refine own_out (Q := Q_rm_rv Z a d p0 PP K f h0 n0) ?_
  refine own_cast (ef_rm_rv m a) ?_
  show own_Go p.tables e below (s₁.setTop (mkF m 0 #[.val (.ref a), .unset, .unset, .unset, .unset] [])) _
  refine own_by (fun zt zk => XS.lconst X0.here hx rfl (hb hby d_prog_5_method_4_0) zk) ?_
  show own_Go p.tables e below (s₁.setTop (mkF m 1 #[.val (.ref a), .unset, .unset, .unset, .unset] [(.long (0 : Int64))])) _
  refine own_by (fun zt zk => XS.lstoreN X0.here hx rfl (hb hby d_prog_5_method_4_1) rfl (l' := #[.val (.ref a), .val (.long (0 : Int64)), .second, .unset, .unset]) rfl zk) ?_
  show own_Go p.tables e below (s₁.setTop (mkF m 2 #[.val (.ref a), .val (.long (0 : Int64)), .second, .unset, .unset] [])) _
  refine own_by (fun zt zk => XS.iconst X0.here hx rfl (hb hby d_prog_5_method_4_2) zk) ?_
  show own_Go p.tables e below (s₁.setTop (mkF m 3 #[.val (.ref a), .val (.long (0 : Int64)), .second, .unset, .unset] [(.int (0 : Int32))])) _
  refine own_by (fun zt zk => XS.istoreN X0.here hx rfl (hb hby d_prog_5_method_4_3) rfl (l' := #[.val (.ref a), .val (.long (0 : Int64)), .second, .val (.int (0 : Int32)), .unset]) rfl zk) ?_
  show own_Go p.tables e below (s₁.setTop (mkF m 4 #[.val (.ref a), .val (.long (0 : Int64)), .second, .val (.int (0 : Int32)), .unset] [])) _
  refine own_by (fun zt zk => XS.aloadN X0.here hx rfl (hb hby d_prog_5_method_4_4) rfl rfl zk) ?_
  show own_Go p.tables e below (s₁.setTop (mkF m 5 #[.val (.ref a), .val (.long (0 : Int64)), .second, .val (.int (0 : Int32)), .unset] [(.ref a)])) _
  obtain ⟨T1, X1, e1, st1⟩ := getF X0 hx hZ hown (host := "") (Or.inl (hw _ (List.mem_of_getElem? (i := 22) rfl))) Via.refl e0 F_b (g := (mkF m 5 #[.val (.ref a), .val (.long (0 : Int64)), .second, .val (.int (0 : Int32)), .unset] [(.ref a)])) rfl rfl (hb hby d_prog_5_method_4_5)
  refine own_by (st1) ?_
  show own_Go p.tables e below (T1.setTop (mkF m 8 #[.val (.ref a), .val (.long (0 : Int64)), .second, .val (.int (0 : Int32)), .unset] [(.ref d)])) _
  refine own_by (fun zt zk => XS.aloadN X1.here hx rfl (hb hby d_prog_5_method_4_8) rfl rfl zk) ?_
  show own_Go p.tables e below (T1.setTop (mkF m 9 #[.val (.ref a), .val (.long (0 : Int64)), .second, .val (.int (0 : Int32)), .unset] [(.ref a), (.ref d)])) _
  refine own_by (fun zt zk => XS.dup X1.here hx rfl (hb hby d_prog_5_method_4_9) rfl rfl zk) ?_
  show own_Go p.tables e below (T1.setTop (mkF m 10 #[.val (.ref a), .val (.long (0 : Int64)), .second, .val (.int (0 : Int32)), .unset] [(.ref a), (.ref a), (.ref d)])) _
  obtain ⟨T2, X2, e2, st2⟩ := getF X1 hx hZ hown (host := "") (Or.inl (hw _ (List.mem_of_getElem? (i := 24) rfl))) Via.refl e1 F_p (g := (mkF m 10 #[.val (.ref a), .val (.long (0 : Int64)), .second, .val (.int (0 : Int32)), .unset] [(.ref a), (.ref a), (.ref d)])) rfl rfl (hb hby d_prog_5_method_4_10)
  refine own_by (st2) ?_
  show own_Go p.tables e below (T2.setTop (mkF m 13 #[.val (.ref a), .val (.long (0 : Int64)), .second, .val (.int (0 : Int32)), .unset] [(.int p0), (.ref a), (.ref d)])) _
  refine own_by (fun zt zk => XS.dupX1 X2.here hx rfl (hb hby d_prog_5_method_4_13) rfl rfl rfl zk) ?_
  show own_Go p.tables e below (T2.setTop (mkF m 14 #[.val (.ref a), .val (.long (0 : Int64)), .second, .val (.int (0 : Int32)), .unset] [(.int p0), (.ref a), (.int p0), (.ref d)])) _
  refine own_by (fun zt zk => XS.iconst X2.here hx rfl (hb hby d_prog_5_method_4_14) zk) ?_
  show own_Go p.tables e below (T2.setTop (mkF m 15 #[.val (.ref a), .val (.long (0 : Int64)), .second, .val (.int (0 : Int32)), .unset] [(.int (1 : Int32)), (.int p0), (.ref a), (.int p0), (.ref d)])) _
  refine own_by (fun zt zk => XS.iadd X2.here hx rfl (hb hby d_prog_5_method_4_15) rfl zk) ?_
  show own_Go p.tables e below (T2.setTop (mkF m 16 #[.val (.ref a), .val (.long (0 : Int64)), .second, .val (.int (0 : Int32)), .unset] [(.int (p0 + (1 : Int32))), (.ref a), (.int p0), (.ref d)])) _
  obtain ⟨T3, hea3, X3, e3, W3, st3⟩ := putF X2 hx hZ hown (host := "") (Or.inl (hw _ (List.mem_of_getElem? (i := 24) rfl))) Via.refl e2 F_p E_a (Or.inl (hw _ (List.mem_of_getElem? (i := 25) rfl))) (hw _ (List.mem_of_getElem? (i := 14) rfl)) (ty := .int) (by decide) rfl rfl (g := (mkF m 16 #[.val (.ref a), .val (.long (0 : Int64)), .second, .val (.int (0 : Int32)), .unset] [(.int (p0 + (1 : Int32))), (.ref a), (.int p0), (.ref d)])) rfl rfl (hb hby d_prog_5_method_4_16)
  have Fw3 := (F_p).same W3
  have N3 := Fr.snoc X3 N0 g_a
  have K3 : Keep h0 hea3 [a] := (Keep.refl h0 [a]).wr W3 (Or.inl (List.mem_of_getElem? (i := 0) rfl))
  refine own_by (st3) ?_
  show own_Go p.tables e below (T3.setTop (mkF m 19 #[.val (.ref a), .val (.long (0 : Int64)), .second, .val (.int (0 : Int32)), .unset] [(.int p0), (.ref d)])) _
  obtain ⟨i0, ik⟩ := own_ixN hp (show PP < 16 by omega)
  refine own_by (own_ldB X3 hx hZ e3 (A_d.other W3 (Ne.symm ne_a_d)) (j := p0) (k := PP) i0 ik (by omega) (g := (mkF m 19 #[.val (.ref a), .val (.long (0 : Int64)), .second, .val (.int (0 : Int32)), .unset] [(.int p0), (.ref d)])) rfl rfl (hb hby d_prog_5_method_4_19)) ?_
  show own_Go p.tables e below (T3.setTop (mkF m 20 #[.val (.ref a), .val (.long (0 : Int64)), .second, .val (.int (0 : Int32)), .unset] [(.int (f PP))])) _
  refine own_by (fun zt zk => XS.istore X3.here hx rfl (hb hby d_prog_5_method_4_20) rfl (l' := #[.val (.ref a), .val (.long (0 : Int64)), .second, .val (.int (0 : Int32)), .val (.int (f PP))]) rfl zk) ?_
  show own_Go p.tables e below (T3.setTop (mkF m 22 #[.val (.ref a), .val (.long (0 : Int64)), .second, .val (.int (0 : Int32)), .val (.int (f PP))] [])) _
  have loop : ∀ (k j : Nat) (va : Int64) (sh nx pv : Int32) (T : State) (h : Heap) (locs : List Loc), j + k = PP + K ∧ PP ≤ j ∧ nx = f j ∧ pv = Int32.ofNat (j + 1) ∧ own_rd f j k va sh = own_rd f PP K 0 0 → Stand p l e ({ frames := 0, cells := 0, slots := 0, locals := 0 } : Room) s m #[(.ref a)] below meth c T locs 0 0 → T.heap = h → Fr n0 locs → Keep h0 h [a] → Exa Z h a "com/example/aprox/aprox/ByteReader" → Fld Z h a "com/example/aprox/aprox/ByteReader" "bytes" "[B" (.ref d) → Fld Z h a "com/example/aprox/aprox/ByteReader" "position" "I" (.int pv) → own_AI Z h d .byte 16 f →  own_Go p.tables e below (T.setTop (mkF m 22 #[.val (.ref a), .val (.long va), .second, .val (.int sh), .val (.int nx)] [])) (own_Fin below s (Q_rm_rv Z a d p0 PP K f h0 n0) ({ frames := 0, cells := 0, slots := 0, locals := 0 } : Room).cells ({ frames := 0, cells := 0, slots := 0, locals := 0 } : Room).slots) := by
    intro k
    induction k with
    | zero =>
      intro j va sh nx pv T h locs ⟨hj, hPj, hnx, hpv, hrd⟩ X eT NF KK EE FB FP AA
      have hge : ¬ nx < (0 : Int32) := by rw [hnx, show j = PP + K by omega]; exact hpos
      refine own_by (fun zt zk => XS.iload X.here hx rfl (hb hby d_prog_5_method_4_22) rfl zk) ?_
      show own_Go p.tables e below (T.setTop (mkF m 24 #[.val (.ref a), .val (.long va), .second, .val (.int sh), .val (.int nx)] [(.int nx)])) _
      refine own_by (fun zt zk => XS.ifYes X.here hx rfl (pc0 := 24) (pc' := 62) rfl (hb hby d_prog_5_method_4_24) rfl ((if0 _ _).trans (flt hge).2.1) (by decide) (by decide) zk) ?_
      show own_Go p.tables e below (T.setTop (mkF m 62 #[.val (.ref a), .val (.long va), .second, .val (.int sh), .val (.int nx)] [])) _
      refine own_by (fun zt zk => XS.lloadN X.here hx rfl (hb hby d_prog_5_method_4_62) rfl zk) ?_
      show own_Go p.tables e below (T.setTop (mkF m 63 #[.val (.ref a), .val (.long va), .second, .val (.int sh), .val (.int nx)] [(.long va)])) _
      refine own_by (fun zt zk => XS.iload X.here hx rfl (hb hby d_prog_5_method_4_63) rfl zk) ?_
      show own_Go p.tables e below (T.setTop (mkF m 65 #[.val (.ref a), .val (.long va), .second, .val (.int sh), .val (.int nx)] [(.int nx), (.long va)])) _
      refine own_by (fun zt zk => XS.i2l X.here hx rfl (hb hby d_prog_5_method_4_65) rfl zk) ?_
      show own_Go p.tables e below (T.setTop (mkF m 66 #[.val (.ref a), .val (.long va), .second, .val (.int sh), .val (.int nx)] [(.long (nx.toInt64)), (.long va)])) _
      refine own_by (fun zt zk => XS.iloadN X.here hx rfl (hb hby d_prog_5_method_4_66) rfl zk) ?_
      show own_Go p.tables e below (T.setTop (mkF m 67 #[.val (.ref a), .val (.long va), .second, .val (.int sh), .val (.int nx)] [(.int sh), (.long (nx.toInt64)), (.long va)])) _
      refine own_by (fun zt zk => XS.lshl X.here hx rfl (hb hby d_prog_5_method_4_67) rfl zk) ?_
      show own_Go p.tables e below (T.setTop (mkF m 68 #[.val (.ref a), .val (.long va), .second, .val (.int sh), .val (.int nx)] [(.long ((nx.toInt64) <<< (sh &&& 0x3f).toInt64)), (.long va)])) _
      refine own_by (fun zt zk => XS.lor X.here hx rfl (hb hby d_prog_5_method_4_68) rfl zk) ?_
      show own_Go p.tables e below (T.setTop (mkF m 69 #[.val (.ref a), .val (.long va), .second, .val (.int sh), .val (.int nx)] [(.long (va ||| ((nx.toInt64) <<< (sh &&& 0x3f).toInt64)))])) _
      exact own_retJ X hx Bd.notSynchronized Bd.returns (hb hby d_prog_5_method_4_69) (by (try rw [eT]); exact ⟨_, rfl, NF, KK, (by rw [show PP + K + 1 = j + 1 by omega, ← hpv]; exact FP), by rw [← hrd, hnx]; rfl⟩) (by decide) (by decide)
    | succ k ih =>
      intro j va sh nx pv T h locs ⟨hj, hPj, hnx, hpv, hrd⟩ X eT NF KK EE FB FP AA
      have hlt : nx < (0 : Int32) := by rw [hnx, show j = PP + (j - PP) by omega]; exact hneg _ (by omega)
      refine own_by (fun zt zk => XS.iload X.here hx rfl (hb hby d_prog_5_method_4_22) rfl zk) ?_
      show own_Go p.tables e below (T.setTop (mkF m 24 #[.val (.ref a), .val (.long va), .second, .val (.int sh), .val (.int nx)] [(.int nx)])) _
      refine own_by (fun zt zk => XS.ifNo X.here hx rfl (hb hby d_prog_5_method_4_24) rfl ((if0 _ _).trans (tlt hlt).2.1) zk) ?_
      show own_Go p.tables e below (T.setTop (mkF m 27 #[.val (.ref a), .val (.long va), .second, .val (.int sh), .val (.int nx)] [])) _
      refine own_by (fun zt zk => XS.lloadN X.here hx rfl (hb hby d_prog_5_method_4_27) rfl zk) ?_
      show own_Go p.tables e below (T.setTop (mkF m 28 #[.val (.ref a), .val (.long va), .second, .val (.int sh), .val (.int nx)] [(.long va)])) _
      refine own_by (fun zt zk => XS.iload X.here hx rfl (hb hby d_prog_5_method_4_28) rfl zk) ?_
      show own_Go p.tables e below (T.setTop (mkF m 30 #[.val (.ref a), .val (.long va), .second, .val (.int sh), .val (.int nx)] [(.int nx), (.long va)])) _
      refine own_by (fun zt zk => XS.bipush X.here hx rfl (hb hby d_prog_5_method_4_30) zk) ?_
      show own_Go p.tables e below (T.setTop (mkF m 32 #[.val (.ref a), .val (.long va), .second, .val (.int sh), .val (.int nx)] [(.int (127 : Int32)), (.int nx), (.long va)])) _
      refine own_by (fun zt zk => XS.iand X.here hx rfl (hb hby d_prog_5_method_4_32) rfl zk) ?_
      show own_Go p.tables e below (T.setTop (mkF m 33 #[.val (.ref a), .val (.long va), .second, .val (.int sh), .val (.int nx)] [(.int (nx &&& (127 : Int32))), (.long va)])) _
      refine own_by (fun zt zk => XS.i2l X.here hx rfl (hb hby d_prog_5_method_4_33) rfl zk) ?_
      show own_Go p.tables e below (T.setTop (mkF m 34 #[.val (.ref a), .val (.long va), .second, .val (.int sh), .val (.int nx)] [(.long ((nx &&& (127 : Int32)).toInt64)), (.long va)])) _
      refine own_by (fun zt zk => XS.iloadN X.here hx rfl (hb hby d_prog_5_method_4_34) rfl zk) ?_
      show own_Go p.tables e below (T.setTop (mkF m 35 #[.val (.ref a), .val (.long va), .second, .val (.int sh), .val (.int nx)] [(.int sh), (.long ((nx &&& (127 : Int32)).toInt64)), (.long va)])) _
      refine own_by (fun zt zk => XS.lshl X.here hx rfl (hb hby d_prog_5_method_4_35) rfl zk) ?_
      show own_Go p.tables e below (T.setTop (mkF m 36 #[.val (.ref a), .val (.long va), .second, .val (.int sh), .val (.int nx)] [(.long (((nx &&& (127 : Int32)).toInt64) <<< (sh &&& 0x3f).toInt64)), (.long va)])) _
      refine own_by (fun zt zk => XS.lor X.here hx rfl (hb hby d_prog_5_method_4_36) rfl zk) ?_
      show own_Go p.tables e below (T.setTop (mkF m 37 #[.val (.ref a), .val (.long va), .second, .val (.int sh), .val (.int nx)] [(.long (va ||| (((nx &&& (127 : Int32)).toInt64) <<< (sh &&& 0x3f).toInt64)))])) _
      refine own_by (fun zt zk => XS.lstoreN X.here hx rfl (hb hby d_prog_5_method_4_37) rfl (l' := #[.val (.ref a), .val (.long (va ||| (((nx &&& (127 : Int32)).toInt64) <<< (sh &&& 0x3f).toInt64))), .second, .val (.int sh), .val (.int nx)]) rfl zk) ?_
      show own_Go p.tables e below (T.setTop (mkF m 38 #[.val (.ref a), .val (.long (va ||| (((nx &&& (127 : Int32)).toInt64) <<< (sh &&& 0x3f).toInt64))), .second, .val (.int sh), .val (.int nx)] [])) _
      refine own_by (fun zt zk => XS.iinc X.here hx rfl (hb hby d_prog_5_method_4_38) rfl (l' := #[.val (.ref a), .val (.long (va ||| (((nx &&& (127 : Int32)).toInt64) <<< (sh &&& 0x3f).toInt64))), .second, .val (.int (sh + (7 : Int32))), .val (.int nx)]) rfl zk) ?_
      show own_Go p.tables e below (T.setTop (mkF m 41 #[.val (.ref a), .val (.long (va ||| (((nx &&& (127 : Int32)).toInt64) <<< (sh &&& 0x3f).toInt64))), .second, .val (.int (sh + (7 : Int32))), .val (.int nx)] [])) _
      refine own_by (fun zt zk => XS.aloadN X.here hx rfl (hb hby d_prog_5_method_4_41) rfl rfl zk) ?_
      show own_Go p.tables e below (T.setTop (mkF m 42 #[.val (.ref a), .val (.long (va ||| (((nx &&& (127 : Int32)).toInt64) <<< (sh &&& 0x3f).toInt64))), .second, .val (.int (sh + (7 : Int32))), .val (.int nx)] [(.ref a)])) _
      obtain ⟨T4, X4, e4, st4⟩ := getF X hx hZ hown (host := "") (Or.inl (hw _ (List.mem_of_getElem? (i := 22) rfl))) Via.refl eT FB (g := (mkF m 42 #[.val (.ref a), .val (.long (va ||| (((nx &&& (127 : Int32)).toInt64) <<< (sh &&& 0x3f).toInt64))), .second, .val (.int (sh + (7 : Int32))), .val (.int nx)] [(.ref a)])) rfl rfl (hb hby d_prog_5_method_4_42)
      refine own_by (st4) ?_
      show own_Go p.tables e below (T4.setTop (mkF m 45 #[.val (.ref a), .val (.long (va ||| (((nx &&& (127 : Int32)).toInt64) <<< (sh &&& 0x3f).toInt64))), .second, .val (.int (sh + (7 : Int32))), .val (.int nx)] [(.ref d)])) _
      refine own_by (fun zt zk => XS.aloadN X4.here hx rfl (hb hby d_prog_5_method_4_45) rfl rfl zk) ?_
      show own_Go p.tables e below (T4.setTop (mkF m 46 #[.val (.ref a), .val (.long (va ||| (((nx &&& (127 : Int32)).toInt64) <<< (sh &&& 0x3f).toInt64))), .second, .val (.int (sh + (7 : Int32))), .val (.int nx)] [(.ref a), (.ref d)])) _
      refine own_by (fun zt zk => XS.dup X4.here hx rfl (hb hby d_prog_5_method_4_46) rfl rfl zk) ?_
      show own_Go p.tables e below (T4.setTop (mkF m 47 #[.val (.ref a), .val (.long (va ||| (((nx &&& (127 : Int32)).toInt64) <<< (sh &&& 0x3f).toInt64))), .second, .val (.int (sh + (7 : Int32))), .val (.int nx)] [(.ref a), (.ref a), (.ref d)])) _
      obtain ⟨T5, X5, e5, st5⟩ := getF X4 hx hZ hown (host := "") (Or.inl (hw _ (List.mem_of_getElem? (i := 24) rfl))) Via.refl e4 FP (g := (mkF m 47 #[.val (.ref a), .val (.long (va ||| (((nx &&& (127 : Int32)).toInt64) <<< (sh &&& 0x3f).toInt64))), .second, .val (.int (sh + (7 : Int32))), .val (.int nx)] [(.ref a), (.ref a), (.ref d)])) rfl rfl (hb hby d_prog_5_method_4_47)
      refine own_by (st5) ?_
      show own_Go p.tables e below (T5.setTop (mkF m 50 #[.val (.ref a), .val (.long (va ||| (((nx &&& (127 : Int32)).toInt64) <<< (sh &&& 0x3f).toInt64))), .second, .val (.int (sh + (7 : Int32))), .val (.int nx)] [(.int pv), (.ref a), (.ref d)])) _
      refine own_by (fun zt zk => XS.dupX1 X5.here hx rfl (hb hby d_prog_5_method_4_50) rfl rfl rfl zk) ?_
      show own_Go p.tables e below (T5.setTop (mkF m 51 #[.val (.ref a), .val (.long (va ||| (((nx &&& (127 : Int32)).toInt64) <<< (sh &&& 0x3f).toInt64))), .second, .val (.int (sh + (7 : Int32))), .val (.int nx)] [(.int pv), (.ref a), (.int pv), (.ref d)])) _
      refine own_by (fun zt zk => XS.iconst X5.here hx rfl (hb hby d_prog_5_method_4_51) zk) ?_
      show own_Go p.tables e below (T5.setTop (mkF m 52 #[.val (.ref a), .val (.long (va ||| (((nx &&& (127 : Int32)).toInt64) <<< (sh &&& 0x3f).toInt64))), .second, .val (.int (sh + (7 : Int32))), .val (.int nx)] [(.int (1 : Int32)), (.int pv), (.ref a), (.int pv), (.ref d)])) _
      refine own_by (fun zt zk => XS.iadd X5.here hx rfl (hb hby d_prog_5_method_4_52) rfl zk) ?_
      show own_Go p.tables e below (T5.setTop (mkF m 53 #[.val (.ref a), .val (.long (va ||| (((nx &&& (127 : Int32)).toInt64) <<< (sh &&& 0x3f).toInt64))), .second, .val (.int (sh + (7 : Int32))), .val (.int nx)] [(.int (pv + (1 : Int32))), (.ref a), (.int pv), (.ref d)])) _
      obtain ⟨T6, hea6, X6, e6, W6, st6⟩ := putF X5 hx hZ hown (host := "") (Or.inl (hw _ (List.mem_of_getElem? (i := 24) rfl))) Via.refl e5 FP EE (Or.inl (hw _ (List.mem_of_getElem? (i := 25) rfl))) (hw _ (List.mem_of_getElem? (i := 14) rfl)) (ty := .int) (by decide) rfl rfl (g := (mkF m 53 #[.val (.ref a), .val (.long (va ||| (((nx &&& (127 : Int32)).toInt64) <<< (sh &&& 0x3f).toInt64))), .second, .val (.int (sh + (7 : Int32))), .val (.int nx)] [(.int (pv + (1 : Int32))), (.ref a), (.int pv), (.ref d)])) rfl rfl (hb hby d_prog_5_method_4_53)
      have Fw6 := (FP).same W6
      have N6 := Fr.snoc X6 NF g_a
      have K6 : Keep h0 hea6 [a] := KK.wr W6 (Or.inl (List.mem_of_getElem? (i := 0) rfl))
      refine own_by (st6) ?_
      show own_Go p.tables e below (T6.setTop (mkF m 56 #[.val (.ref a), .val (.long (va ||| (((nx &&& (127 : Int32)).toInt64) <<< (sh &&& 0x3f).toInt64))), .second, .val (.int (sh + (7 : Int32))), .val (.int nx)] [(.int pv), (.ref d)])) _
      obtain ⟨i0, ik⟩ := own_ixN hpv (show j + 1 < 16 by omega)
      refine own_by (own_ldB X6 hx hZ e6 (AA.other W6 (Ne.symm ne_a_d)) (j := pv) (k := (j + 1)) i0 ik (by omega) (g := (mkF m 56 #[.val (.ref a), .val (.long (va ||| (((nx &&& (127 : Int32)).toInt64) <<< (sh &&& 0x3f).toInt64))), .second, .val (.int (sh + (7 : Int32))), .val (.int nx)] [(.int pv), (.ref d)])) rfl rfl (hb hby d_prog_5_method_4_56)) ?_
      show own_Go p.tables e below (T6.setTop (mkF m 57 #[.val (.ref a), .val (.long (va ||| (((nx &&& (127 : Int32)).toInt64) <<< (sh &&& 0x3f).toInt64))), .second, .val (.int (sh + (7 : Int32))), .val (.int nx)] [(.int (f (j + 1)))])) _
      refine own_by (fun zt zk => XS.istore X6.here hx rfl (hb hby d_prog_5_method_4_57) rfl (l' := #[.val (.ref a), .val (.long (va ||| (((nx &&& (127 : Int32)).toInt64) <<< (sh &&& 0x3f).toInt64))), .second, .val (.int (sh + (7 : Int32))), .val (.int (f (j + 1)))]) rfl zk) ?_
      show own_Go p.tables e below (T6.setTop (mkF m 59 #[.val (.ref a), .val (.long (va ||| (((nx &&& (127 : Int32)).toInt64) <<< (sh &&& 0x3f).toInt64))), .second, .val (.int (sh + (7 : Int32))), .val (.int (f (j + 1)))] [])) _
      refine own_by (fun zt zk => XS.goto X6.here hx rfl (pc0 := 59) (pc' := 22) rfl (hb hby d_prog_5_method_4_59) (by decide) (by decide) zk) ?_
      show own_Go p.tables e below (T6.setTop (mkF m 22 #[.val (.ref a), .val (.long (va ||| (((nx &&& (127 : Int32)).toInt64) <<< (sh &&& 0x3f).toInt64))), .second, .val (.int (sh + (7 : Int32))), .val (.int (f (j + 1)))] [])) _
      have c7 := (FB.other W6 (Or.inr (slot_ne (Or.inr (hw _ (List.mem_of_getElem? (i := 23) rfl))) (Or.inl (hw _ (List.mem_of_getElem? (i := 25) rfl))) (by decide) (t := (.array .byte)) (t' := .int) (by decide) (by decide))))
      exact ih (j + 1) _ _ _ _ _ _ _ ⟨by omega, by omega, rfl, own_succN hpv, by rw [← hrd, hnx]; rfl⟩ X6 e6 N6 K6 (EE.wr W6) c7 Fw6 (AA.other W6 (Ne.symm ne_a_d))
  have c8 := (F_b.other W3 (Or.inr (slot_ne (Or.inr (hw _ (List.mem_of_getElem? (i := 23) rfl))) (Or.inl (hw _ (List.mem_of_getElem? (i := 25) rfl))) (by decide) (t := (.array .byte)) (t' := .int) (by decide) (by decide))))
  exact loop K PP _ _ _ _ _ _ _ ⟨rfl, Nat.le_refl _, rfl, own_succN hp, rfl⟩ X3 e3 N3 K3 (E_a.wr W3) c8 Fw3 (A_d.other W3 (Ne.symm ne_a_d))
theorem d_prog_5_method_2_0 : decode prog_5_method_2_code 0 = .ok (.aload_n 0, 1) := by decide +kernel
theorem d_prog_5_method_2_1 : decode prog_5_method_2_code 1 = .ok (.getfield 13, 3) := by decide +kernel
theorem d_prog_5_method_2_4 : decode prog_5_method_2_code 4 = .ok (.ireturn, 1) := by decide +kernel
theorem ef_rm_po (m : MethodId) (a : Addr) : entryFrame m #[(.ref a)] 1 = mkF m 0 #[.val (.ref a)] [] := by first | (simp [entryFrame, mkF, argsToLocals, Value.category]; done) | rfl
set_option maxRecDepth 65536 in
set_option maxHeartbeats 40000000 in
theorem rm_po (l : Launch) (Z : State) (a0 : Array Value) (hw : ∀ d ∈ tables_1, d.before a0 Z = true) (zws : List Jvm.Cond) (a : Addr) (p0 : Int32) (h0 : Heap) (n0 : Nat) (Z0 : n0 ≤ h0.size) (F_p : Fld Z h0 a "com/example/aprox/aprox/ByteReader" "position" "I" (.int p0)) :
    MetFree l (⟨"com/example/aprox/aprox/ByteReader", "position", "()I"⟩ : MethodName) (head1 (Jvm.Cond.code (⟨"com/example/aprox/aprox/ByteReader", "position", "()I"⟩ : MethodName) prog_5_method_2_code 1 (some .int) :: zws) ({ frames := 0, cells := 0, slots := 0, locals := 0 } : Room)) (fun zA zU => zA = #[(.ref a)] ∧ Z.Warmed39 zU.vm ∧ zU.heap = h0) (fun _ _ _ _ _ => True) (fun _ zU zo zW => ∃ zv zL, zo = .returned zv ∧ (own_QI h0 n0 p0) zv zW.heap zL ∧ FrameEnd zU zo zW zL ({ frames := 0, cells := 0, slots := 0, locals := 0 } : Room).cells ({ frames := 0, cells := 0, slots := 0, locals := 0 } : Room).slots) := by
  refine MetFree.of_bodySF (plainFor_of_name pn_85) hisR ?_
  intro p e s m args below meth c s₁ Bd hml0 hP hK
  obtain ⟨rfl, hZ, hh⟩ := hP
  have hx := Bd.exec
  have hby := Bd.bytes
  have hml : c.maxLocals = 1 := hml0
  have hown : s.vm.findClass "com/example/aprox/aprox/ByteReader" = some m.cls := findClass_of_methodNamed Bd.named
  have hnm := (name_of_methodNamed Bd.named Bd.method).1
  have X0 : Stand p l e ({ frames := 0, cells := 0, slots := 0, locals := 0 } : Room) s m #[(.ref a)] below meth c s₁ [] 0 0 := Stand.of_body Bd
  have e0 : s₁.heap = h0 := by rw [← hh, Bd.state]; rfl
  have N0 := Fr.nil n0
  refine own_out (Q := own_QI h0 n0 p0) ?_
  refine own_cast (ef_rm_po m a) ?_
  show own_Go p.tables e below (s₁.setTop (mkF m 0 #[.val (.ref a)] [])) _
  refine own_by (fun zt zk => XS.aloadN X0.here hx rfl (hb hby d_prog_5_method_2_0) rfl rfl zk) ?_
  show own_Go p.tables e below (s₁.setTop (mkF m 1 #[.val (.ref a)] [(.ref a)])) _
  obtain ⟨T1, X1, e1, st1⟩ := getF X0 hx hZ hown (host := "") (Or.inl (hw _ (List.mem_of_getElem? (i := 24) rfl))) Via.refl e0 F_p (g := (mkF m 1 #[.val (.ref a)] [(.ref a)])) rfl rfl (hb hby d_prog_5_method_2_1)
  refine own_by (st1) ?_
  show own_Go p.tables e below (T1.setTop (mkF m 4 #[.val (.ref a)] [(.int p0)])) _
  exact own_retI X1 hx Bd.notSynchronized Bd.returns (hb hby d_prog_5_method_2_4) (by (try rw [e1]); exact ⟨_, rfl, N0, rfl, rfl⟩) (by decide) (by decide)
theorem pd_135 : parseMethodDescriptor "(JJIII)B" = some ⟨[.long, .long, .int, .int, .int], some .byte⟩ := by decide +kernel
theorem pd_136 : parseMethodDescriptor "([BIII)J" = some ⟨[(.array .byte), .int, .int, .int], some .long⟩ := by decide +kernel
theorem pd_137 : parseMethodDescriptor "([BI)V" = some ⟨[(.array .byte), .int], none⟩ := by decide +kernel
theorem pd_138 : parseMethodDescriptor "()J" = some ⟨[], some .long⟩ := by decide +kernel
theorem pd_139 : parseMethodDescriptor "()I" = some ⟨[], some .int⟩ := by decide +kernel
theorem ef_rm_law (m : MethodId) (a : Int64) (cc : Int64) (ks : Int32) (ps : Int32) : entryFrame m #[(.long a), (.long cc), (.int ks), (.int ps)] maxLocals = mkF m 0 #[.val (.long a), .second, .val (.long cc), .second, .val (.int ks), .val (.int ps), .unset, .unset, .unset, .unset, .unset, .unset, .unset, .unset] [] := by first | (simp [entryFrame, mkF, argsToLocals, Value.category, maxLocals]; done) | rfl
set_option maxRecDepth 65536 in
set_option maxHeartbeats 40000000 in
theorem rm_law (l : Launch) (Z : State) (a0 : Array Value) (hw : ∀ d ∈ tables_1, d.before a0 Z = true) (zws : List Jvm.Cond) (a : Int64) (cc : Int64) (ks : Int32) (ps : Int32) (h0 : Heap) (n0 : Nat) (Z0 : n0 ≤ h0.size)  :
    MetFree l x (head1 (Jvm.Cond.code x code maxLocals ret :: zws) room_1) (fun zA zU => zA = #[(.long a), (.long cc), (.int ks), (.int ps)] ∧ Z.Warmed39 zU.vm ∧ zU.heap = h0) (fun _ _ _ _ _ => True) (fun _ zU zo zW => ∃ zv zL, zo = .returned zv ∧ (fun v h L => v = some (.int 1) ∧ Fr n0 L) zv zW.heap zL ∧ FrameEnd zU zo zW zL 2 18) := by
  refine MetFree.of_bodySF (plainFor_of_name pn_23) hisR ?_
  intro p e s m args below meth c s₁ Bd hml0 hP hK
  obtain ⟨rfl, hZ, hh⟩ := hP
  have hx := Bd.exec
  have hby := Bd.bytes
  have hml : c.maxLocals = 14 := hml0
  have hown : s.vm.findClass "com/example/aprox/aprox/ByteReaderReadVLongPinLaw" = some m.cls := findClass_of_methodNamed Bd.named
  have hnm := (name_of_methodNamed Bd.named Bd.method).1
  have X0 : Stand p l e room_1 s m #[(.long a), (.long cc), (.int ks), (.int ps)] below meth c s₁ [] 0 0 := Stand.of_body Bd
  have e0 : s₁.heap = h0 := by rw [← hh, Bd.state]; rfl
  have N0 := Fr.nil n0
  refine own_out (Q := fun v h L => v = some (.int 1) ∧ Fr n0 L) ?_
  refine own_cast (ef_rm_law m a cc ks ps) ?_
  show own_Go p.tables e below (s₁.setTop (mkF m 0 #[.val (.long a), .second, .val (.long cc), .second, .val (.int ks), .val (.int ps), .unset, .unset, .unset, .unset, .unset, .unset, .unset, .unset] [])) _
  refine own_by (fun zt zk => XS.iconst X0.here hx rfl (hb hby at_0) zk) ?_
  show own_Go p.tables e below (s₁.setTop (mkF m 1 #[.val (.long a), .second, .val (.long cc), .second, .val (.int ks), .val (.int ps), .unset, .unset, .unset, .unset, .unset, .unset, .unset, .unset] [(.int (1 : Int32))])) _
  refine own_by (fun zt zk => XS.iload X0.here hx rfl (hb hby at_1) rfl zk) ?_
  show own_Go p.tables e below (s₁.setTop (mkF m 3 #[.val (.long a), .second, .val (.long cc), .second, .val (.int ks), .val (.int ps), .unset, .unset, .unset, .unset, .unset, .unset, .unset, .unset] [(.int ks), (.int (1 : Int32))])) _
  refine own_by (X0.ldcInt hx hown (mvT hZ (hw _ (List.mem_of_getElem? (i := 0) rfl))) (g := (mkF m 3 #[.val (.long a), .second, .val (.long cc), .second, .val (.int ks), .val (.int ps), .unset, .unset, .unset, .unset, .unset, .unset, .unset, .unset] [(.int ks), (.int (1 : Int32))])) rfl (hb hby at_3)) ?_
  show own_Go p.tables e below (s₁.setTop (mkF m 5 #[.val (.long a), .second, .val (.long cc), .second, .val (.int ks), .val (.int ps), .unset, .unset, .unset, .unset, .unset, .unset, .unset, .unset] [(.int (2147483647 : Int32)), (.int ks), (.int (1 : Int32))])) _
  refine own_by (fun zt zk => XS.iand X0.here hx rfl (hb hby at_5) rfl zk) ?_
  show own_Go p.tables e below (s₁.setTop (mkF m 6 #[.val (.long a), .second, .val (.long cc), .second, .val (.int ks), .val (.int ps), .unset, .unset, .unset, .unset, .unset, .unset, .unset, .unset] [(.int (ks &&& (2147483647 : Int32))), (.int (1 : Int32))])) _
  refine own_by (fun zt zk => XS.bipush X0.here hx rfl (hb hby at_6) zk) ?_
  show own_Go p.tables e below (s₁.setTop (mkF m 8 #[.val (.long a), .second, .val (.long cc), .second, .val (.int ks), .val (.int ps), .unset, .unset, .unset, .unset, .unset, .unset, .unset, .unset] [(.int (10 : Int32)), (.int (ks &&& (2147483647 : Int32))), (.int (1 : Int32))])) _
  refine own_by (fun zt zk => Jvm.RoadKit.iremM X0 hx rfl (hb hby at_8) rfl (by decide) zk) ?_
  show own_Go p.tables e below (s₁.setTop (mkF m 9 #[.val (.long a), .second, .val (.long cc), .second, .val (.int ks), .val (.int ps), .unset, .unset, .unset, .unset, .unset, .unset, .unset, .unset] [(.int ((ks &&& (2147483647 : Int32)) % (10 : Int32))), (.int (1 : Int32))])) _
  refine own_by (fun zt zk => XS.iadd X0.here hx rfl (hb hby at_9) rfl zk) ?_
  show own_Go p.tables e below (s₁.setTop (mkF m 10 #[.val (.long a), .second, .val (.long cc), .second, .val (.int ks), .val (.int ps), .unset, .unset, .unset, .unset, .unset, .unset, .unset, .unset] [(.int ((1 : Int32) + ((ks &&& (2147483647 : Int32)) % (10 : Int32))))])) _
  obtain ⟨k, hk⟩ : ∃ z, z = ((1 : Int32) + ((ks &&& (2147483647 : Int32)) % (10 : Int32))) := ⟨_, rfl⟩
  rw [← hk]
  show own_Go p.tables e below (s₁.setTop (mkF m 10 #[.val (.long a), .second, .val (.long cc), .second, .val (.int ks), .val (.int ps), .unset, .unset, .unset, .unset, .unset, .unset, .unset, .unset] [(.int k)])) _
  obtain ⟨K, hK1, hK9, hk2⟩ : ∃ K : Nat, 1 ≤ K ∧ K ≤ 10 ∧ k = Int32.ofNat K := own_K hk
  refine own_by (fun zt zk => XS.istore X0.here hx rfl (hb hby at_10) rfl (l' := #[.val (.long a), .second, .val (.long cc), .second, .val (.int ks), .val (.int ps), .val (.int k), .unset, .unset, .unset, .unset, .unset, .unset, .unset]) rfl zk) ?_
  show own_Go p.tables e below (s₁.setTop (mkF m 12 #[.val (.long a), .second, .val (.long cc), .second, .val (.int ks), .val (.int ps), .val (.int k), .unset, .unset, .unset, .unset, .unset, .unset, .unset] [])) _
  refine own_by (fun zt zk => XS.iload X0.here hx rfl (hb hby at_12) rfl zk) ?_
  show own_Go p.tables e below (s₁.setTop (mkF m 14 #[.val (.long a), .second, .val (.long cc), .second, .val (.int ks), .val (.int ps), .val (.int k), .unset, .unset, .unset, .unset, .unset, .unset, .unset] [(.int ps)])) _
  refine own_by (fun zt zk => XS.iconst X0.here hx rfl (hb hby at_14) zk) ?_
  show own_Go p.tables e below (s₁.setTop (mkF m 15 #[.val (.long a), .second, .val (.long cc), .second, .val (.int ks), .val (.int ps), .val (.int k), .unset, .unset, .unset, .unset, .unset, .unset, .unset] [(.int (3 : Int32)), (.int ps)])) _
  refine own_by (fun zt zk => XS.iand X0.here hx rfl (hb hby at_15) rfl zk) ?_
  show own_Go p.tables e below (s₁.setTop (mkF m 16 #[.val (.long a), .second, .val (.long cc), .second, .val (.int ks), .val (.int ps), .val (.int k), .unset, .unset, .unset, .unset, .unset, .unset, .unset] [(.int (ps &&& (3 : Int32)))])) _
  obtain ⟨pz, hpz⟩ : ∃ z, z = (ps &&& (3 : Int32)) := ⟨_, rfl⟩
  rw [← hpz]
  show own_Go p.tables e below (s₁.setTop (mkF m 16 #[.val (.long a), .second, .val (.long cc), .second, .val (.int ks), .val (.int ps), .val (.int k), .unset, .unset, .unset, .unset, .unset, .unset, .unset] [(.int pz)])) _
  obtain ⟨PP, hP3, hp2⟩ : ∃ PP : Nat, PP ≤ 3 ∧ pz = Int32.ofNat PP := own_P hpz
  refine own_by (fun zt zk => XS.istore X0.here hx rfl (hb hby at_16) rfl (l' := #[.val (.long a), .second, .val (.long cc), .second, .val (.int ks), .val (.int ps), .val (.int k), .val (.int pz), .unset, .unset, .unset, .unset, .unset, .unset]) rfl zk) ?_
  show own_Go p.tables e below (s₁.setTop (mkF m 18 #[.val (.long a), .second, .val (.long cc), .second, .val (.int ks), .val (.int ps), .val (.int k), .val (.int pz), .unset, .unset, .unset, .unset, .unset, .unset] [])) _
  refine own_by (fun zt zk => XS.bipush X0.here hx rfl (hb hby at_18) zk) ?_
  show own_Go p.tables e below (s₁.setTop (mkF m 20 #[.val (.long a), .second, .val (.long cc), .second, .val (.int ks), .val (.int ps), .val (.int k), .val (.int pz), .unset, .unset, .unset, .unset, .unset, .unset] [(.int (16 : Int32))])) _
  obtain ⟨T1, hea1, k1, X1, e1, E1, A1, st1⟩ := newP X0 hx hZ (hw _ (List.mem_of_getElem? (i := 1) rfl)) e0 (g := (mkF m 20 #[.val (.long a), .second, .val (.long cc), .second, .val (.int ks), .val (.int ps), .val (.int k), .val (.int pz), .unset, .unset, .unset, .unset, .unset, .unset] [(.int (16 : Int32))])) rfl (hb hby at_20) rfl (by decide) (cap := 16) (by decide) (by decide) (by decide) (by decide)
  obtain ⟨d, g1⟩ : ∃ z, z = h0.size := ⟨_, rfl⟩
  rw [← g1] at A1 st1
  have sz_d : h0.size ≤ d := Nat.le_trans (Keep.refl h0 []).1 (Nat.le_of_eq g1.symm)
  have K1 : Keep h0 hea1 [] := (Keep.refl h0 []).ext E1
  refine own_by (st1) ?_
  have V1 : own_AI Z hea1 d .byte 16 (fun _ => (0 : Int32)) := own_AF.new A1 rfl
  show own_Go p.tables e below (T1.setTop (mkF m 22 #[.val (.long a), .second, .val (.long cc), .second, .val (.int ks), .val (.int ps), .val (.int k), .val (.int pz), .unset, .unset, .unset, .unset, .unset, .unset] [(.ref d)])) _
  refine own_by (fun zt zk => XS.astore X1.here hx rfl (hb hby at_22) rfl rfl (l' := #[.val (.long a), .second, .val (.long cc), .second, .val (.int ks), .val (.int ps), .val (.int k), .val (.int pz), .val (.ref d), .unset, .unset, .unset, .unset, .unset]) rfl zk) ?_
  show own_Go p.tables e below (T1.setTop (mkF m 24 #[.val (.long a), .second, .val (.long cc), .second, .val (.int ks), .val (.int ps), .val (.int k), .val (.int pz), .val (.ref d), .unset, .unset, .unset, .unset, .unset] [])) _
  refine own_by (fun zt zk => XS.aload X1.here hx rfl (hb hby at_24) rfl rfl zk) ?_
  show own_Go p.tables e below (T1.setTop (mkF m 26 #[.val (.long a), .second, .val (.long cc), .second, .val (.int ks), .val (.int ps), .val (.int k), .val (.int pz), .val (.ref d), .unset, .unset, .unset, .unset, .unset] [(.ref d)])) _
  refine own_by (fun zt zk => XS.iconst X1.here hx rfl (hb hby at_26) zk) ?_
  show own_Go p.tables e below (T1.setTop (mkF m 27 #[.val (.long a), .second, .val (.long cc), .second, .val (.int ks), .val (.int ps), .val (.int k), .val (.int pz), .val (.ref d), .unset, .unset, .unset, .unset, .unset] [(.int (0 : Int32)), (.ref d)])) _
  refine own_by (fun zt zk => XS.lloadN X1.here hx rfl (hb hby at_27) rfl zk) ?_
  show own_Go p.tables e below (T1.setTop (mkF m 28 #[.val (.long a), .second, .val (.long cc), .second, .val (.int ks), .val (.int ps), .val (.int k), .val (.int pz), .val (.ref d), .unset, .unset, .unset, .unset, .unset] [(.long a), (.int (0 : Int32)), (.ref d)])) _
  refine own_by (fun zt zk => XS.lloadN X1.here hx rfl (hb hby at_28) rfl zk) ?_
  show own_Go p.tables e below (T1.setTop (mkF m 29 #[.val (.long a), .second, .val (.long cc), .second, .val (.int ks), .val (.int ps), .val (.int k), .val (.int pz), .val (.ref d), .unset, .unset, .unset, .unset, .unset] [(.long cc), (.long a), (.int (0 : Int32)), (.ref d)])) _
  refine own_by (fun zt zk => XS.iconst X1.here hx rfl (hb hby at_29) zk) ?_
  show own_Go p.tables e below (T1.setTop (mkF m 30 #[.val (.long a), .second, .val (.long cc), .second, .val (.int ks), .val (.int ps), .val (.int k), .val (.int pz), .val (.ref d), .unset, .unset, .unset, .unset, .unset] [(.int (0 : Int32)), (.long cc), (.long a), (.int (0 : Int32)), (.ref d)])) _
  refine own_by (fun zt zk => XS.iload X1.here hx rfl (hb hby at_30) rfl zk) ?_
  show own_Go p.tables e below (T1.setTop (mkF m 32 #[.val (.long a), .second, .val (.long cc), .second, .val (.int ks), .val (.int ps), .val (.int k), .val (.int pz), .val (.ref d), .unset, .unset, .unset, .unset, .unset] [(.int pz), (.int (0 : Int32)), (.long cc), (.long a), (.int (0 : Int32)), (.ref d)])) _
  refine own_by (fun zt zk => XS.iload X1.here hx rfl (hb hby at_32) rfl zk) ?_
  show own_Go p.tables e below (T1.setTop (mkF m 34 #[.val (.long a), .second, .val (.long cc), .second, .val (.int ks), .val (.int ps), .val (.int k), .val (.int pz), .val (.ref d), .unset, .unset, .unset, .unset, .unset] [(.int k), (.int pz), (.int (0 : Int32)), (.long cc), (.long a), (.int (0 : Int32)), (.ref d)])) _
  obtain ⟨_, _, ⟨T2, L2, k2, n2⟩, -, X2, ⟨Lc2, hQ2, l2, y2, z2⟩, st2⟩ := Jvm.LawKit.callS X1 hx (y := (⟨"com/example/aprox/aprox/ByteReaderReadVLongPinLaw", "adj", "(JJIII)B"⟩ : MethodName)) hown (mvT hZ (hw _ (List.mem_of_getElem? (i := 2) rfl))) (mvT hZ (hw _ (List.mem_of_getElem? (i := 3) rfl))) (mvT hZ (hw _ (List.mem_of_getElem? (i := 4) rfl))) (mvT hZ (hw _ (List.mem_of_getElem? (i := 5) rfl))) (by decide) (backOf (W := 2) (rm_adj l Z a0 hw [] a cc (0 : Int32) pz k  hea1 n0 (Nat.le_trans Z0 K1.1) ) hZ (hw _ (List.mem_of_getElem? (i := 5) rfl)) (hw _ (List.mem_of_getElem? (i := 4) rfl)) (by decide) (by decide)) (g := (mkF m 34 #[.val (.long a), .second, .val (.long cc), .second, .val (.int ks), .val (.int ps), .val (.int k), .val (.int pz), .val (.ref d), .unset, .unset, .unset, .unset, .unset] [(.int k), (.int pz), (.int (0 : Int32)), (.long cc), (.long a), (.int (0 : Int32)), (.ref d)])) rfl (by rw [hml]; rfl) (argsL := [(.long a), (.long cc), (.int (0 : Int32)), (.int pz), (.int k)]) (rest := [(.int (0 : Int32)), (.ref d)]) (lenOf pd_135 rfl) rfl (by show 2 * 0 + _ ≤ _; exact Nat.le_of_eq rfl) (hb hby at_34) (fun _ _ => ⟨rfl, e1, (by decide : 1 + 0 ≤ _), (by decide : 16 + 0 ≤ _)⟩)
  dsimp only [Pt.U, Pt.locs, Pt.cells, Pt.slots] at X2 l2 y2 z2 st2 hQ2
  replace l2 := l2.symm
  replace y2 := y2.symm
  replace z2 := z2.symm
  subst l2 y2 z2
  obtain ⟨r0, rfl, N2q, eh2, hr0⟩ := hQ2
  have N2 := Fr.app N0 N2q
  refine own_by (st2) ?_
  show own_Go p.tables e below (T2.setTop (mkF m 37 #[.val (.long a), .second, .val (.long cc), .second, .val (.int ks), .val (.int ps), .val (.int k), .val (.int pz), .val (.ref d), .unset, .unset, .unset, .unset, .unset] [(.int r0), (.int (0 : Int32)), (.ref d)])) _
  obtain ⟨T3, hea3, X3, e3, W3, V3, st3⟩ := own_stB X2 hx hZ eh2 V1 (j := (0 : Int32)) (k := 0) (by decide) rfl (by decide) (g := (mkF m 37 #[.val (.long a), .second, .val (.long cc), .second, .val (.int ks), .val (.int ps), .val (.int k), .val (.int pz), .val (.ref d), .unset, .unset, .unset, .unset, .unset] [(.int r0), (.int (0 : Int32)), (.ref d)])) rfl rfl (hb hby at_37)
  have N3 := Fr.snoc X3 N2 (Nat.le_trans Z0 sz_d)
  have K3 : Keep h0 hea3 [] := K1.wr W3 (Or.inr sz_d)
  refine own_by (st3) ?_
  show own_Go p.tables e below (T3.setTop (mkF m 38 #[.val (.long a), .second, .val (.long cc), .second, .val (.int ks), .val (.int ps), .val (.int k), .val (.int pz), .val (.ref d), .unset, .unset, .unset, .unset, .unset] [])) _
  refine own_by (fun zt zk => XS.aload X3.here hx rfl (hb hby at_38) rfl rfl zk) ?_
  show own_Go p.tables e below (T3.setTop (mkF m 40 #[.val (.long a), .second, .val (.long cc), .second, .val (.int ks), .val (.int ps), .val (.int k), .val (.int pz), .val (.ref d), .unset, .unset, .unset, .unset, .unset] [(.ref d)])) _
  refine own_by (fun zt zk => XS.iconst X3.here hx rfl (hb hby at_40) zk) ?_
  show own_Go p.tables e below (T3.setTop (mkF m 41 #[.val (.long a), .second, .val (.long cc), .second, .val (.int ks), .val (.int ps), .val (.int k), .val (.int pz), .val (.ref d), .unset, .unset, .unset, .unset, .unset] [(.int (1 : Int32)), (.ref d)])) _
  refine own_by (fun zt zk => XS.lloadN X3.here hx rfl (hb hby at_41) rfl zk) ?_
  show own_Go p.tables e below (T3.setTop (mkF m 42 #[.val (.long a), .second, .val (.long cc), .second, .val (.int ks), .val (.int ps), .val (.int k), .val (.int pz), .val (.ref d), .unset, .unset, .unset, .unset, .unset] [(.long a), (.int (1 : Int32)), (.ref d)])) _
  refine own_by (fun zt zk => XS.lloadN X3.here hx rfl (hb hby at_42) rfl zk) ?_
  show own_Go p.tables e below (T3.setTop (mkF m 43 #[.val (.long a), .second, .val (.long cc), .second, .val (.int ks), .val (.int ps), .val (.int k), .val (.int pz), .val (.ref d), .unset, .unset, .unset, .unset, .unset] [(.long cc), (.long a), (.int (1 : Int32)), (.ref d)])) _
  refine own_by (fun zt zk => XS.iconst X3.here hx rfl (hb hby at_43) zk) ?_
  show own_Go p.tables e below (T3.setTop (mkF m 44 #[.val (.long a), .second, .val (.long cc), .second, .val (.int ks), .val (.int ps), .val (.int k), .val (.int pz), .val (.ref d), .unset, .unset, .unset, .unset, .unset] [(.int (1 : Int32)), (.long cc), (.long a), (.int (1 : Int32)), (.ref d)])) _
  refine own_by (fun zt zk => XS.iload X3.here hx rfl (hb hby at_44) rfl zk) ?_
  show own_Go p.tables e below (T3.setTop (mkF m 46 #[.val (.long a), .second, .val (.long cc), .second, .val (.int ks), .val (.int ps), .val (.int k), .val (.int pz), .val (.ref d), .unset, .unset, .unset, .unset, .unset] [(.int pz), (.int (1 : Int32)), (.long cc), (.long a), (.int (1 : Int32)), (.ref d)])) _
  refine own_by (fun zt zk => XS.iload X3.here hx rfl (hb hby at_46) rfl zk) ?_
  show own_Go p.tables e below (T3.setTop (mkF m 48 #[.val (.long a), .second, .val (.long cc), .second, .val (.int ks), .val (.int ps), .val (.int k), .val (.int pz), .val (.ref d), .unset, .unset, .unset, .unset, .unset] [(.int k), (.int pz), (.int (1 : Int32)), (.long cc), (.long a), (.int (1 : Int32)), (.ref d)])) _
  obtain ⟨_, _, ⟨T4, L4, k4, n4⟩, -, X4, ⟨Lc4, hQ4, l4, y4, z4⟩, st4⟩ := Jvm.LawKit.callS X3 hx (y := (⟨"com/example/aprox/aprox/ByteReaderReadVLongPinLaw", "adj", "(JJIII)B"⟩ : MethodName)) hown (mvT hZ (hw _ (List.mem_of_getElem? (i := 2) rfl))) (mvT hZ (hw _ (List.mem_of_getElem? (i := 3) rfl))) (mvT hZ (hw _ (List.mem_of_getElem? (i := 4) rfl))) (mvT hZ (hw _ (List.mem_of_getElem? (i := 5) rfl))) (by decide) (backOf (W := 2) (rm_adj l Z a0 hw [] a cc (1 : Int32) pz k  hea3 n0 (Nat.le_trans Z0 K3.1) ) hZ (hw _ (List.mem_of_getElem? (i := 5) rfl)) (hw _ (List.mem_of_getElem? (i := 4) rfl)) (by decide) (by decide)) (g := (mkF m 48 #[.val (.long a), .second, .val (.long cc), .second, .val (.int ks), .val (.int ps), .val (.int k), .val (.int pz), .val (.ref d), .unset, .unset, .unset, .unset, .unset] [(.int k), (.int pz), (.int (1 : Int32)), (.long cc), (.long a), (.int (1 : Int32)), (.ref d)])) rfl (by rw [hml]; rfl) (argsL := [(.long a), (.long cc), (.int (1 : Int32)), (.int pz), (.int k)]) (rest := [(.int (1 : Int32)), (.ref d)]) (lenOf pd_135 rfl) rfl (by show 2 * 0 + _ ≤ _; exact Nat.le_of_eq rfl) (hb hby at_48) (fun _ _ => ⟨rfl, e3, (by decide : 1 + 0 ≤ _), (by decide : 16 + 0 ≤ _)⟩)
  dsimp only [Pt.U, Pt.locs, Pt.cells, Pt.slots] at X4 l4 y4 z4 st4 hQ4
  replace l4 := l4.symm
  replace y4 := y4.symm
  replace z4 := z4.symm
  subst l4 y4 z4
  obtain ⟨r1, rfl, N4q, eh4, hr1⟩ := hQ4
  have N4 := Fr.app N3 N4q
  refine own_by (st4) ?_
  show own_Go p.tables e below (T4.setTop (mkF m 51 #[.val (.long a), .second, .val (.long cc), .second, .val (.int ks), .val (.int ps), .val (.int k), .val (.int pz), .val (.ref d), .unset, .unset, .unset, .unset, .unset] [(.int r1), (.int (1 : Int32)), (.ref d)])) _
  obtain ⟨T5, hea5, X5, e5, W5, V5, st5⟩ := own_stB X4 hx hZ eh4 V3 (j := (1 : Int32)) (k := 1) (by decide) rfl (by decide) (g := (mkF m 51 #[.val (.long a), .second, .val (.long cc), .second, .val (.int ks), .val (.int ps), .val (.int k), .val (.int pz), .val (.ref d), .unset, .unset, .unset, .unset, .unset] [(.int r1), (.int (1 : Int32)), (.ref d)])) rfl rfl (hb hby at_51)
  have N5 := Fr.snoc X5 N4 (Nat.le_trans Z0 sz_d)
  have K5 : Keep h0 hea5 [] := K3.wr W5 (Or.inr sz_d)
  refine own_by (st5) ?_
  show own_Go p.tables e below (T5.setTop (mkF m 52 #[.val (.long a), .second, .val (.long cc), .second, .val (.int ks), .val (.int ps), .val (.int k), .val (.int pz), .val (.ref d), .unset, .unset, .unset, .unset, .unset] [])) _
  refine own_by (fun zt zk => XS.aload X5.here hx rfl (hb hby at_52) rfl rfl zk) ?_
  show own_Go p.tables e below (T5.setTop (mkF m 54 #[.val (.long a), .second, .val (.long cc), .second, .val (.int ks), .val (.int ps), .val (.int k), .val (.int pz), .val (.ref d), .unset, .unset, .unset, .unset, .unset] [(.ref d)])) _
  refine own_by (fun zt zk => XS.iconst X5.here hx rfl (hb hby at_54) zk) ?_
  show own_Go p.tables e below (T5.setTop (mkF m 55 #[.val (.long a), .second, .val (.long cc), .second, .val (.int ks), .val (.int ps), .val (.int k), .val (.int pz), .val (.ref d), .unset, .unset, .unset, .unset, .unset] [(.int (2 : Int32)), (.ref d)])) _
  refine own_by (fun zt zk => XS.lloadN X5.here hx rfl (hb hby at_55) rfl zk) ?_
  show own_Go p.tables e below (T5.setTop (mkF m 56 #[.val (.long a), .second, .val (.long cc), .second, .val (.int ks), .val (.int ps), .val (.int k), .val (.int pz), .val (.ref d), .unset, .unset, .unset, .unset, .unset] [(.long a), (.int (2 : Int32)), (.ref d)])) _
  refine own_by (fun zt zk => XS.lloadN X5.here hx rfl (hb hby at_56) rfl zk) ?_
  show own_Go p.tables e below (T5.setTop (mkF m 57 #[.val (.long a), .second, .val (.long cc), .second, .val (.int ks), .val (.int ps), .val (.int k), .val (.int pz), .val (.ref d), .unset, .unset, .unset, .unset, .unset] [(.long cc), (.long a), (.int (2 : Int32)), (.ref d)])) _
  refine own_by (fun zt zk => XS.iconst X5.here hx rfl (hb hby at_57) zk) ?_
  show own_Go p.tables e below (T5.setTop (mkF m 58 #[.val (.long a), .second, .val (.long cc), .second, .val (.int ks), .val (.int ps), .val (.int k), .val (.int pz), .val (.ref d), .unset, .unset, .unset, .unset, .unset] [(.int (2 : Int32)), (.long cc), (.long a), (.int (2 : Int32)), (.ref d)])) _
  refine own_by (fun zt zk => XS.iload X5.here hx rfl (hb hby at_58) rfl zk) ?_
  show own_Go p.tables e below (T5.setTop (mkF m 60 #[.val (.long a), .second, .val (.long cc), .second, .val (.int ks), .val (.int ps), .val (.int k), .val (.int pz), .val (.ref d), .unset, .unset, .unset, .unset, .unset] [(.int pz), (.int (2 : Int32)), (.long cc), (.long a), (.int (2 : Int32)), (.ref d)])) _
  refine own_by (fun zt zk => XS.iload X5.here hx rfl (hb hby at_60) rfl zk) ?_
  show own_Go p.tables e below (T5.setTop (mkF m 62 #[.val (.long a), .second, .val (.long cc), .second, .val (.int ks), .val (.int ps), .val (.int k), .val (.int pz), .val (.ref d), .unset, .unset, .unset, .unset, .unset] [(.int k), (.int pz), (.int (2 : Int32)), (.long cc), (.long a), (.int (2 : Int32)), (.ref d)])) _
  obtain ⟨_, _, ⟨T6, L6, k6, n6⟩, -, X6, ⟨Lc6, hQ6, l6, y6, z6⟩, st6⟩ := Jvm.LawKit.callS X5 hx (y := (⟨"com/example/aprox/aprox/ByteReaderReadVLongPinLaw", "adj", "(JJIII)B"⟩ : MethodName)) hown (mvT hZ (hw _ (List.mem_of_getElem? (i := 2) rfl))) (mvT hZ (hw _ (List.mem_of_getElem? (i := 3) rfl))) (mvT hZ (hw _ (List.mem_of_getElem? (i := 4) rfl))) (mvT hZ (hw _ (List.mem_of_getElem? (i := 5) rfl))) (by decide) (backOf (W := 2) (rm_adj l Z a0 hw [] a cc (2 : Int32) pz k  hea5 n0 (Nat.le_trans Z0 K5.1) ) hZ (hw _ (List.mem_of_getElem? (i := 5) rfl)) (hw _ (List.mem_of_getElem? (i := 4) rfl)) (by decide) (by decide)) (g := (mkF m 62 #[.val (.long a), .second, .val (.long cc), .second, .val (.int ks), .val (.int ps), .val (.int k), .val (.int pz), .val (.ref d), .unset, .unset, .unset, .unset, .unset] [(.int k), (.int pz), (.int (2 : Int32)), (.long cc), (.long a), (.int (2 : Int32)), (.ref d)])) rfl (by rw [hml]; rfl) (argsL := [(.long a), (.long cc), (.int (2 : Int32)), (.int pz), (.int k)]) (rest := [(.int (2 : Int32)), (.ref d)]) (lenOf pd_135 rfl) rfl (by show 2 * 0 + _ ≤ _; exact Nat.le_of_eq rfl) (hb hby at_62) (fun _ _ => ⟨rfl, e5, (by decide : 1 + 0 ≤ _), (by decide : 16 + 0 ≤ _)⟩)
  dsimp only [Pt.U, Pt.locs, Pt.cells, Pt.slots] at X6 l6 y6 z6 st6 hQ6
  replace l6 := l6.symm
  replace y6 := y6.symm
  replace z6 := z6.symm
  subst l6 y6 z6
  obtain ⟨r2, rfl, N6q, eh6, hr2⟩ := hQ6
  have N6 := Fr.app N5 N6q
  refine own_by (st6) ?_
  show own_Go p.tables e below (T6.setTop (mkF m 65 #[.val (.long a), .second, .val (.long cc), .second, .val (.int ks), .val (.int ps), .val (.int k), .val (.int pz), .val (.ref d), .unset, .unset, .unset, .unset, .unset] [(.int r2), (.int (2 : Int32)), (.ref d)])) _
  obtain ⟨T7, hea7, X7, e7, W7, V7, st7⟩ := own_stB X6 hx hZ eh6 V5 (j := (2 : Int32)) (k := 2) (by decide) rfl (by decide) (g := (mkF m 65 #[.val (.long a), .second, .val (.long cc), .second, .val (.int ks), .val (.int ps), .val (.int k), .val (.int pz), .val (.ref d), .unset, .unset, .unset, .unset, .unset] [(.int r2), (.int (2 : Int32)), (.ref d)])) rfl rfl (hb hby at_65)
  have N7 := Fr.snoc X7 N6 (Nat.le_trans Z0 sz_d)
  have K7 : Keep h0 hea7 [] := K5.wr W7 (Or.inr sz_d)
  refine own_by (st7) ?_
  show own_Go p.tables e below (T7.setTop (mkF m 66 #[.val (.long a), .second, .val (.long cc), .second, .val (.int ks), .val (.int ps), .val (.int k), .val (.int pz), .val (.ref d), .unset, .unset, .unset, .unset, .unset] [])) _
  refine own_by (fun zt zk => XS.aload X7.here hx rfl (hb hby at_66) rfl rfl zk) ?_
  show own_Go p.tables e below (T7.setTop (mkF m 68 #[.val (.long a), .second, .val (.long cc), .second, .val (.int ks), .val (.int ps), .val (.int k), .val (.int pz), .val (.ref d), .unset, .unset, .unset, .unset, .unset] [(.ref d)])) _
  refine own_by (fun zt zk => XS.iconst X7.here hx rfl (hb hby at_68) zk) ?_
  show own_Go p.tables e below (T7.setTop (mkF m 69 #[.val (.long a), .second, .val (.long cc), .second, .val (.int ks), .val (.int ps), .val (.int k), .val (.int pz), .val (.ref d), .unset, .unset, .unset, .unset, .unset] [(.int (3 : Int32)), (.ref d)])) _
  refine own_by (fun zt zk => XS.lloadN X7.here hx rfl (hb hby at_69) rfl zk) ?_
  show own_Go p.tables e below (T7.setTop (mkF m 70 #[.val (.long a), .second, .val (.long cc), .second, .val (.int ks), .val (.int ps), .val (.int k), .val (.int pz), .val (.ref d), .unset, .unset, .unset, .unset, .unset] [(.long a), (.int (3 : Int32)), (.ref d)])) _
  refine own_by (fun zt zk => XS.lloadN X7.here hx rfl (hb hby at_70) rfl zk) ?_
  show own_Go p.tables e below (T7.setTop (mkF m 71 #[.val (.long a), .second, .val (.long cc), .second, .val (.int ks), .val (.int ps), .val (.int k), .val (.int pz), .val (.ref d), .unset, .unset, .unset, .unset, .unset] [(.long cc), (.long a), (.int (3 : Int32)), (.ref d)])) _
  refine own_by (fun zt zk => XS.iconst X7.here hx rfl (hb hby at_71) zk) ?_
  show own_Go p.tables e below (T7.setTop (mkF m 72 #[.val (.long a), .second, .val (.long cc), .second, .val (.int ks), .val (.int ps), .val (.int k), .val (.int pz), .val (.ref d), .unset, .unset, .unset, .unset, .unset] [(.int (3 : Int32)), (.long cc), (.long a), (.int (3 : Int32)), (.ref d)])) _
  refine own_by (fun zt zk => XS.iload X7.here hx rfl (hb hby at_72) rfl zk) ?_
  show own_Go p.tables e below (T7.setTop (mkF m 74 #[.val (.long a), .second, .val (.long cc), .second, .val (.int ks), .val (.int ps), .val (.int k), .val (.int pz), .val (.ref d), .unset, .unset, .unset, .unset, .unset] [(.int pz), (.int (3 : Int32)), (.long cc), (.long a), (.int (3 : Int32)), (.ref d)])) _
  refine own_by (fun zt zk => XS.iload X7.here hx rfl (hb hby at_74) rfl zk) ?_
  show own_Go p.tables e below (T7.setTop (mkF m 76 #[.val (.long a), .second, .val (.long cc), .second, .val (.int ks), .val (.int ps), .val (.int k), .val (.int pz), .val (.ref d), .unset, .unset, .unset, .unset, .unset] [(.int k), (.int pz), (.int (3 : Int32)), (.long cc), (.long a), (.int (3 : Int32)), (.ref d)])) _
  obtain ⟨_, _, ⟨T8, L8, k8, n8⟩, -, X8, ⟨Lc8, hQ8, l8, y8, z8⟩, st8⟩ := Jvm.LawKit.callS X7 hx (y := (⟨"com/example/aprox/aprox/ByteReaderReadVLongPinLaw", "adj", "(JJIII)B"⟩ : MethodName)) hown (mvT hZ (hw _ (List.mem_of_getElem? (i := 2) rfl))) (mvT hZ (hw _ (List.mem_of_getElem? (i := 3) rfl))) (mvT hZ (hw _ (List.mem_of_getElem? (i := 4) rfl))) (mvT hZ (hw _ (List.mem_of_getElem? (i := 5) rfl))) (by decide) (backOf (W := 2) (rm_adj l Z a0 hw [] a cc (3 : Int32) pz k  hea7 n0 (Nat.le_trans Z0 K7.1) ) hZ (hw _ (List.mem_of_getElem? (i := 5) rfl)) (hw _ (List.mem_of_getElem? (i := 4) rfl)) (by decide) (by decide)) (g := (mkF m 76 #[.val (.long a), .second, .val (.long cc), .second, .val (.int ks), .val (.int ps), .val (.int k), .val (.int pz), .val (.ref d), .unset, .unset, .unset, .unset, .unset] [(.int k), (.int pz), (.int (3 : Int32)), (.long cc), (.long a), (.int (3 : Int32)), (.ref d)])) rfl (by rw [hml]; rfl) (argsL := [(.long a), (.long cc), (.int (3 : Int32)), (.int pz), (.int k)]) (rest := [(.int (3 : Int32)), (.ref d)]) (lenOf pd_135 rfl) rfl (by show 2 * 0 + _ ≤ _; exact Nat.le_of_eq rfl) (hb hby at_76) (fun _ _ => ⟨rfl, e7, (by decide : 1 + 0 ≤ _), (by decide : 16 + 0 ≤ _)⟩)
  dsimp only [Pt.U, Pt.locs, Pt.cells, Pt.slots] at X8 l8 y8 z8 st8 hQ8
  replace l8 := l8.symm
  replace y8 := y8.symm
  replace z8 := z8.symm
  subst l8 y8 z8
  obtain ⟨r3, rfl, N8q, eh8, hr3⟩ := hQ8
  have N8 := Fr.app N7 N8q
  refine own_by (st8) ?_
  show own_Go p.tables e below (T8.setTop (mkF m 79 #[.val (.long a), .second, .val (.long cc), .second, .val (.int ks), .val (.int ps), .val (.int k), .val (.int pz), .val (.ref d), .unset, .unset, .unset, .unset, .unset] [(.int r3), (.int (3 : Int32)), (.ref d)])) _
  obtain ⟨T9, hea9, X9, e9, W9, V9, st9⟩ := own_stB X8 hx hZ eh8 V7 (j := (3 : Int32)) (k := 3) (by decide) rfl (by decide) (g := (mkF m 79 #[.val (.long a), .second, .val (.long cc), .second, .val (.int ks), .val (.int ps), .val (.int k), .val (.int pz), .val (.ref d), .unset, .unset, .unset, .unset, .unset] [(.int r3), (.int (3 : Int32)), (.ref d)])) rfl rfl (hb hby at_79)
  have N9 := Fr.snoc X9 N8 (Nat.le_trans Z0 sz_d)
  have K9 : Keep h0 hea9 [] := K7.wr W9 (Or.inr sz_d)
  refine own_by (st9) ?_
  show own_Go p.tables e below (T9.setTop (mkF m 80 #[.val (.long a), .second, .val (.long cc), .second, .val (.int ks), .val (.int ps), .val (.int k), .val (.int pz), .val (.ref d), .unset, .unset, .unset, .unset, .unset] [])) _
  refine own_by (fun zt zk => XS.aload X9.here hx rfl (hb hby at_80) rfl rfl zk) ?_
  show own_Go p.tables e below (T9.setTop (mkF m 82 #[.val (.long a), .second, .val (.long cc), .second, .val (.int ks), .val (.int ps), .val (.int k), .val (.int pz), .val (.ref d), .unset, .unset, .unset, .unset, .unset] [(.ref d)])) _
  refine own_by (fun zt zk => XS.iconst X9.here hx rfl (hb hby at_82) zk) ?_
  show own_Go p.tables e below (T9.setTop (mkF m 83 #[.val (.long a), .second, .val (.long cc), .second, .val (.int ks), .val (.int ps), .val (.int k), .val (.int pz), .val (.ref d), .unset, .unset, .unset, .unset, .unset] [(.int (4 : Int32)), (.ref d)])) _
  refine own_by (fun zt zk => XS.lloadN X9.here hx rfl (hb hby at_83) rfl zk) ?_
  show own_Go p.tables e below (T9.setTop (mkF m 84 #[.val (.long a), .second, .val (.long cc), .second, .val (.int ks), .val (.int ps), .val (.int k), .val (.int pz), .val (.ref d), .unset, .unset, .unset, .unset, .unset] [(.long a), (.int (4 : Int32)), (.ref d)])) _
  refine own_by (fun zt zk => XS.lloadN X9.here hx rfl (hb hby at_84) rfl zk) ?_
  show own_Go p.tables e below (T9.setTop (mkF m 85 #[.val (.long a), .second, .val (.long cc), .second, .val (.int ks), .val (.int ps), .val (.int k), .val (.int pz), .val (.ref d), .unset, .unset, .unset, .unset, .unset] [(.long cc), (.long a), (.int (4 : Int32)), (.ref d)])) _
  refine own_by (fun zt zk => XS.iconst X9.here hx rfl (hb hby at_85) zk) ?_
  show own_Go p.tables e below (T9.setTop (mkF m 86 #[.val (.long a), .second, .val (.long cc), .second, .val (.int ks), .val (.int ps), .val (.int k), .val (.int pz), .val (.ref d), .unset, .unset, .unset, .unset, .unset] [(.int (4 : Int32)), (.long cc), (.long a), (.int (4 : Int32)), (.ref d)])) _
  refine own_by (fun zt zk => XS.iload X9.here hx rfl (hb hby at_86) rfl zk) ?_
  show own_Go p.tables e below (T9.setTop (mkF m 88 #[.val (.long a), .second, .val (.long cc), .second, .val (.int ks), .val (.int ps), .val (.int k), .val (.int pz), .val (.ref d), .unset, .unset, .unset, .unset, .unset] [(.int pz), (.int (4 : Int32)), (.long cc), (.long a), (.int (4 : Int32)), (.ref d)])) _
  refine own_by (fun zt zk => XS.iload X9.here hx rfl (hb hby at_88) rfl zk) ?_
  show own_Go p.tables e below (T9.setTop (mkF m 90 #[.val (.long a), .second, .val (.long cc), .second, .val (.int ks), .val (.int ps), .val (.int k), .val (.int pz), .val (.ref d), .unset, .unset, .unset, .unset, .unset] [(.int k), (.int pz), (.int (4 : Int32)), (.long cc), (.long a), (.int (4 : Int32)), (.ref d)])) _
  obtain ⟨_, _, ⟨T10, L10, k10, n10⟩, -, X10, ⟨Lc10, hQ10, l10, y10, z10⟩, st10⟩ := Jvm.LawKit.callS X9 hx (y := (⟨"com/example/aprox/aprox/ByteReaderReadVLongPinLaw", "adj", "(JJIII)B"⟩ : MethodName)) hown (mvT hZ (hw _ (List.mem_of_getElem? (i := 2) rfl))) (mvT hZ (hw _ (List.mem_of_getElem? (i := 3) rfl))) (mvT hZ (hw _ (List.mem_of_getElem? (i := 4) rfl))) (mvT hZ (hw _ (List.mem_of_getElem? (i := 5) rfl))) (by decide) (backOf (W := 2) (rm_adj l Z a0 hw [] a cc (4 : Int32) pz k  hea9 n0 (Nat.le_trans Z0 K9.1) ) hZ (hw _ (List.mem_of_getElem? (i := 5) rfl)) (hw _ (List.mem_of_getElem? (i := 4) rfl)) (by decide) (by decide)) (g := (mkF m 90 #[.val (.long a), .second, .val (.long cc), .second, .val (.int ks), .val (.int ps), .val (.int k), .val (.int pz), .val (.ref d), .unset, .unset, .unset, .unset, .unset] [(.int k), (.int pz), (.int (4 : Int32)), (.long cc), (.long a), (.int (4 : Int32)), (.ref d)])) rfl (by rw [hml]; rfl) (argsL := [(.long a), (.long cc), (.int (4 : Int32)), (.int pz), (.int k)]) (rest := [(.int (4 : Int32)), (.ref d)]) (lenOf pd_135 rfl) rfl (by show 2 * 0 + _ ≤ _; exact Nat.le_of_eq rfl) (hb hby at_90) (fun _ _ => ⟨rfl, e9, (by decide : 1 + 0 ≤ _), (by decide : 16 + 0 ≤ _)⟩)
  dsimp only [Pt.U, Pt.locs, Pt.cells, Pt.slots] at X10 l10 y10 z10 st10 hQ10
  replace l10 := l10.symm
  replace y10 := y10.symm
  replace z10 := z10.symm
  subst l10 y10 z10
  obtain ⟨r4, rfl, N10q, eh10, hr4⟩ := hQ10
  have N10 := Fr.app N9 N10q
  refine own_by (st10) ?_
  show own_Go p.tables e below (T10.setTop (mkF m 93 #[.val (.long a), .second, .val (.long cc), .second, .val (.int ks), .val (.int ps), .val (.int k), .val (.int pz), .val (.ref d), .unset, .unset, .unset, .unset, .unset] [(.int r4), (.int (4 : Int32)), (.ref d)])) _
  obtain ⟨T11, hea11, X11, e11, W11, V11, st11⟩ := own_stB X10 hx hZ eh10 V9 (j := (4 : Int32)) (k := 4) (by decide) rfl (by decide) (g := (mkF m 93 #[.val (.long a), .second, .val (.long cc), .second, .val (.int ks), .val (.int ps), .val (.int k), .val (.int pz), .val (.ref d), .unset, .unset, .unset, .unset, .unset] [(.int r4), (.int (4 : Int32)), (.ref d)])) rfl rfl (hb hby at_93)
  have N11 := Fr.snoc X11 N10 (Nat.le_trans Z0 sz_d)
  have K11 : Keep h0 hea11 [] := K9.wr W11 (Or.inr sz_d)
  refine own_by (st11) ?_
  show own_Go p.tables e below (T11.setTop (mkF m 94 #[.val (.long a), .second, .val (.long cc), .second, .val (.int ks), .val (.int ps), .val (.int k), .val (.int pz), .val (.ref d), .unset, .unset, .unset, .unset, .unset] [])) _
  refine own_by (fun zt zk => XS.aload X11.here hx rfl (hb hby at_94) rfl rfl zk) ?_
  show own_Go p.tables e below (T11.setTop (mkF m 96 #[.val (.long a), .second, .val (.long cc), .second, .val (.int ks), .val (.int ps), .val (.int k), .val (.int pz), .val (.ref d), .unset, .unset, .unset, .unset, .unset] [(.ref d)])) _
  refine own_by (fun zt zk => XS.iconst X11.here hx rfl (hb hby at_96) zk) ?_
  show own_Go p.tables e below (T11.setTop (mkF m 97 #[.val (.long a), .second, .val (.long cc), .second, .val (.int ks), .val (.int ps), .val (.int k), .val (.int pz), .val (.ref d), .unset, .unset, .unset, .unset, .unset] [(.int (5 : Int32)), (.ref d)])) _
  refine own_by (fun zt zk => XS.lloadN X11.here hx rfl (hb hby at_97) rfl zk) ?_
  show own_Go p.tables e below (T11.setTop (mkF m 98 #[.val (.long a), .second, .val (.long cc), .second, .val (.int ks), .val (.int ps), .val (.int k), .val (.int pz), .val (.ref d), .unset, .unset, .unset, .unset, .unset] [(.long a), (.int (5 : Int32)), (.ref d)])) _
  refine own_by (fun zt zk => XS.lloadN X11.here hx rfl (hb hby at_98) rfl zk) ?_
  show own_Go p.tables e below (T11.setTop (mkF m 99 #[.val (.long a), .second, .val (.long cc), .second, .val (.int ks), .val (.int ps), .val (.int k), .val (.int pz), .val (.ref d), .unset, .unset, .unset, .unset, .unset] [(.long cc), (.long a), (.int (5 : Int32)), (.ref d)])) _
  refine own_by (fun zt zk => XS.iconst X11.here hx rfl (hb hby at_99) zk) ?_
  show own_Go p.tables e below (T11.setTop (mkF m 100 #[.val (.long a), .second, .val (.long cc), .second, .val (.int ks), .val (.int ps), .val (.int k), .val (.int pz), .val (.ref d), .unset, .unset, .unset, .unset, .unset] [(.int (5 : Int32)), (.long cc), (.long a), (.int (5 : Int32)), (.ref d)])) _
  refine own_by (fun zt zk => XS.iload X11.here hx rfl (hb hby at_100) rfl zk) ?_
  show own_Go p.tables e below (T11.setTop (mkF m 102 #[.val (.long a), .second, .val (.long cc), .second, .val (.int ks), .val (.int ps), .val (.int k), .val (.int pz), .val (.ref d), .unset, .unset, .unset, .unset, .unset] [(.int pz), (.int (5 : Int32)), (.long cc), (.long a), (.int (5 : Int32)), (.ref d)])) _
  refine own_by (fun zt zk => XS.iload X11.here hx rfl (hb hby at_102) rfl zk) ?_
  show own_Go p.tables e below (T11.setTop (mkF m 104 #[.val (.long a), .second, .val (.long cc), .second, .val (.int ks), .val (.int ps), .val (.int k), .val (.int pz), .val (.ref d), .unset, .unset, .unset, .unset, .unset] [(.int k), (.int pz), (.int (5 : Int32)), (.long cc), (.long a), (.int (5 : Int32)), (.ref d)])) _
  obtain ⟨_, _, ⟨T12, L12, k12, n12⟩, -, X12, ⟨Lc12, hQ12, l12, y12, z12⟩, st12⟩ := Jvm.LawKit.callS X11 hx (y := (⟨"com/example/aprox/aprox/ByteReaderReadVLongPinLaw", "adj", "(JJIII)B"⟩ : MethodName)) hown (mvT hZ (hw _ (List.mem_of_getElem? (i := 2) rfl))) (mvT hZ (hw _ (List.mem_of_getElem? (i := 3) rfl))) (mvT hZ (hw _ (List.mem_of_getElem? (i := 4) rfl))) (mvT hZ (hw _ (List.mem_of_getElem? (i := 5) rfl))) (by decide) (backOf (W := 2) (rm_adj l Z a0 hw [] a cc (5 : Int32) pz k  hea11 n0 (Nat.le_trans Z0 K11.1) ) hZ (hw _ (List.mem_of_getElem? (i := 5) rfl)) (hw _ (List.mem_of_getElem? (i := 4) rfl)) (by decide) (by decide)) (g := (mkF m 104 #[.val (.long a), .second, .val (.long cc), .second, .val (.int ks), .val (.int ps), .val (.int k), .val (.int pz), .val (.ref d), .unset, .unset, .unset, .unset, .unset] [(.int k), (.int pz), (.int (5 : Int32)), (.long cc), (.long a), (.int (5 : Int32)), (.ref d)])) rfl (by rw [hml]; rfl) (argsL := [(.long a), (.long cc), (.int (5 : Int32)), (.int pz), (.int k)]) (rest := [(.int (5 : Int32)), (.ref d)]) (lenOf pd_135 rfl) rfl (by show 2 * 0 + _ ≤ _; exact Nat.le_of_eq rfl) (hb hby at_104) (fun _ _ => ⟨rfl, e11, (by decide : 1 + 0 ≤ _), (by decide : 16 + 0 ≤ _)⟩)
  dsimp only [Pt.U, Pt.locs, Pt.cells, Pt.slots] at X12 l12 y12 z12 st12 hQ12
  replace l12 := l12.symm
  replace y12 := y12.symm
  replace z12 := z12.symm
  subst l12 y12 z12
  obtain ⟨r5, rfl, N12q, eh12, hr5⟩ := hQ12
  have N12 := Fr.app N11 N12q
  refine own_by (st12) ?_
  show own_Go p.tables e below (T12.setTop (mkF m 107 #[.val (.long a), .second, .val (.long cc), .second, .val (.int ks), .val (.int ps), .val (.int k), .val (.int pz), .val (.ref d), .unset, .unset, .unset, .unset, .unset] [(.int r5), (.int (5 : Int32)), (.ref d)])) _
  obtain ⟨T13, hea13, X13, e13, W13, V13, st13⟩ := own_stB X12 hx hZ eh12 V11 (j := (5 : Int32)) (k := 5) (by decide) rfl (by decide) (g := (mkF m 107 #[.val (.long a), .second, .val (.long cc), .second, .val (.int ks), .val (.int ps), .val (.int k), .val (.int pz), .val (.ref d), .unset, .unset, .unset, .unset, .unset] [(.int r5), (.int (5 : Int32)), (.ref d)])) rfl rfl (hb hby at_107)
  have N13 := Fr.snoc X13 N12 (Nat.le_trans Z0 sz_d)
  have K13 : Keep h0 hea13 [] := K11.wr W13 (Or.inr sz_d)
  refine own_by (st13) ?_
  show own_Go p.tables e below (T13.setTop (mkF m 108 #[.val (.long a), .second, .val (.long cc), .second, .val (.int ks), .val (.int ps), .val (.int k), .val (.int pz), .val (.ref d), .unset, .unset, .unset, .unset, .unset] [])) _
  refine own_by (fun zt zk => XS.aload X13.here hx rfl (hb hby at_108) rfl rfl zk) ?_
  show own_Go p.tables e below (T13.setTop (mkF m 110 #[.val (.long a), .second, .val (.long cc), .second, .val (.int ks), .val (.int ps), .val (.int k), .val (.int pz), .val (.ref d), .unset, .unset, .unset, .unset, .unset] [(.ref d)])) _
  refine own_by (fun zt zk => XS.bipush X13.here hx rfl (hb hby at_110) zk) ?_
  show own_Go p.tables e below (T13.setTop (mkF m 112 #[.val (.long a), .second, .val (.long cc), .second, .val (.int ks), .val (.int ps), .val (.int k), .val (.int pz), .val (.ref d), .unset, .unset, .unset, .unset, .unset] [(.int (6 : Int32)), (.ref d)])) _
  refine own_by (fun zt zk => XS.lloadN X13.here hx rfl (hb hby at_112) rfl zk) ?_
  show own_Go p.tables e below (T13.setTop (mkF m 113 #[.val (.long a), .second, .val (.long cc), .second, .val (.int ks), .val (.int ps), .val (.int k), .val (.int pz), .val (.ref d), .unset, .unset, .unset, .unset, .unset] [(.long a), (.int (6 : Int32)), (.ref d)])) _
  refine own_by (fun zt zk => XS.lloadN X13.here hx rfl (hb hby at_113) rfl zk) ?_
  show own_Go p.tables e below (T13.setTop (mkF m 114 #[.val (.long a), .second, .val (.long cc), .second, .val (.int ks), .val (.int ps), .val (.int k), .val (.int pz), .val (.ref d), .unset, .unset, .unset, .unset, .unset] [(.long cc), (.long a), (.int (6 : Int32)), (.ref d)])) _
  refine own_by (fun zt zk => XS.bipush X13.here hx rfl (hb hby at_114) zk) ?_
  show own_Go p.tables e below (T13.setTop (mkF m 116 #[.val (.long a), .second, .val (.long cc), .second, .val (.int ks), .val (.int ps), .val (.int k), .val (.int pz), .val (.ref d), .unset, .unset, .unset, .unset, .unset] [(.int (6 : Int32)), (.long cc), (.long a), (.int (6 : Int32)), (.ref d)])) _
  refine own_by (fun zt zk => XS.iload X13.here hx rfl (hb hby at_116) rfl zk) ?_
  show own_Go p.tables e below (T13.setTop (mkF m 118 #[.val (.long a), .second, .val (.long cc), .second, .val (.int ks), .val (.int ps), .val (.int k), .val (.int pz), .val (.ref d), .unset, .unset, .unset, .unset, .unset] [(.int pz), (.int (6 : Int32)), (.long cc), (.long a), (.int (6 : Int32)), (.ref d)])) _
  refine own_by (fun zt zk => XS.iload X13.here hx rfl (hb hby at_118) rfl zk) ?_
  show own_Go p.tables e below (T13.setTop (mkF m 120 #[.val (.long a), .second, .val (.long cc), .second, .val (.int ks), .val (.int ps), .val (.int k), .val (.int pz), .val (.ref d), .unset, .unset, .unset, .unset, .unset] [(.int k), (.int pz), (.int (6 : Int32)), (.long cc), (.long a), (.int (6 : Int32)), (.ref d)])) _
  obtain ⟨_, _, ⟨T14, L14, k14, n14⟩, -, X14, ⟨Lc14, hQ14, l14, y14, z14⟩, st14⟩ := Jvm.LawKit.callS X13 hx (y := (⟨"com/example/aprox/aprox/ByteReaderReadVLongPinLaw", "adj", "(JJIII)B"⟩ : MethodName)) hown (mvT hZ (hw _ (List.mem_of_getElem? (i := 2) rfl))) (mvT hZ (hw _ (List.mem_of_getElem? (i := 3) rfl))) (mvT hZ (hw _ (List.mem_of_getElem? (i := 4) rfl))) (mvT hZ (hw _ (List.mem_of_getElem? (i := 5) rfl))) (by decide) (backOf (W := 2) (rm_adj l Z a0 hw [] a cc (6 : Int32) pz k  hea13 n0 (Nat.le_trans Z0 K13.1) ) hZ (hw _ (List.mem_of_getElem? (i := 5) rfl)) (hw _ (List.mem_of_getElem? (i := 4) rfl)) (by decide) (by decide)) (g := (mkF m 120 #[.val (.long a), .second, .val (.long cc), .second, .val (.int ks), .val (.int ps), .val (.int k), .val (.int pz), .val (.ref d), .unset, .unset, .unset, .unset, .unset] [(.int k), (.int pz), (.int (6 : Int32)), (.long cc), (.long a), (.int (6 : Int32)), (.ref d)])) rfl (by rw [hml]; rfl) (argsL := [(.long a), (.long cc), (.int (6 : Int32)), (.int pz), (.int k)]) (rest := [(.int (6 : Int32)), (.ref d)]) (lenOf pd_135 rfl) rfl (by show 2 * 0 + _ ≤ _; exact Nat.le_of_eq rfl) (hb hby at_120) (fun _ _ => ⟨rfl, e13, (by decide : 1 + 0 ≤ _), (by decide : 16 + 0 ≤ _)⟩)
  dsimp only [Pt.U, Pt.locs, Pt.cells, Pt.slots] at X14 l14 y14 z14 st14 hQ14
  replace l14 := l14.symm
  replace y14 := y14.symm
  replace z14 := z14.symm
  subst l14 y14 z14
  obtain ⟨r6, rfl, N14q, eh14, hr6⟩ := hQ14
  have N14 := Fr.app N13 N14q
  refine own_by (st14) ?_
  show own_Go p.tables e below (T14.setTop (mkF m 123 #[.val (.long a), .second, .val (.long cc), .second, .val (.int ks), .val (.int ps), .val (.int k), .val (.int pz), .val (.ref d), .unset, .unset, .unset, .unset, .unset] [(.int r6), (.int (6 : Int32)), (.ref d)])) _
  obtain ⟨T15, hea15, X15, e15, W15, V15, st15⟩ := own_stB X14 hx hZ eh14 V13 (j := (6 : Int32)) (k := 6) (by decide) rfl (by decide) (g := (mkF m 123 #[.val (.long a), .second, .val (.long cc), .second, .val (.int ks), .val (.int ps), .val (.int k), .val (.int pz), .val (.ref d), .unset, .unset, .unset, .unset, .unset] [(.int r6), (.int (6 : Int32)), (.ref d)])) rfl rfl (hb hby at_123)
  have N15 := Fr.snoc X15 N14 (Nat.le_trans Z0 sz_d)
  have K15 : Keep h0 hea15 [] := K13.wr W15 (Or.inr sz_d)
  refine own_by (st15) ?_
  show own_Go p.tables e below (T15.setTop (mkF m 124 #[.val (.long a), .second, .val (.long cc), .second, .val (.int ks), .val (.int ps), .val (.int k), .val (.int pz), .val (.ref d), .unset, .unset, .unset, .unset, .unset] [])) _
  refine own_by (fun zt zk => XS.aload X15.here hx rfl (hb hby at_124) rfl rfl zk) ?_
  show own_Go p.tables e below (T15.setTop (mkF m 126 #[.val (.long a), .second, .val (.long cc), .second, .val (.int ks), .val (.int ps), .val (.int k), .val (.int pz), .val (.ref d), .unset, .unset, .unset, .unset, .unset] [(.ref d)])) _
  refine own_by (fun zt zk => XS.bipush X15.here hx rfl (hb hby at_126) zk) ?_
  show own_Go p.tables e below (T15.setTop (mkF m 128 #[.val (.long a), .second, .val (.long cc), .second, .val (.int ks), .val (.int ps), .val (.int k), .val (.int pz), .val (.ref d), .unset, .unset, .unset, .unset, .unset] [(.int (7 : Int32)), (.ref d)])) _
  refine own_by (fun zt zk => XS.lloadN X15.here hx rfl (hb hby at_128) rfl zk) ?_
  show own_Go p.tables e below (T15.setTop (mkF m 129 #[.val (.long a), .second, .val (.long cc), .second, .val (.int ks), .val (.int ps), .val (.int k), .val (.int pz), .val (.ref d), .unset, .unset, .unset, .unset, .unset] [(.long a), (.int (7 : Int32)), (.ref d)])) _
  refine own_by (fun zt zk => XS.lloadN X15.here hx rfl (hb hby at_129) rfl zk) ?_
  show own_Go p.tables e below (T15.setTop (mkF m 130 #[.val (.long a), .second, .val (.long cc), .second, .val (.int ks), .val (.int ps), .val (.int k), .val (.int pz), .val (.ref d), .unset, .unset, .unset, .unset, .unset] [(.long cc), (.long a), (.int (7 : Int32)), (.ref d)])) _
  refine own_by (fun zt zk => XS.bipush X15.here hx rfl (hb hby at_130) zk) ?_
  show own_Go p.tables e below (T15.setTop (mkF m 132 #[.val (.long a), .second, .val (.long cc), .second, .val (.int ks), .val (.int ps), .val (.int k), .val (.int pz), .val (.ref d), .unset, .unset, .unset, .unset, .unset] [(.int (7 : Int32)), (.long cc), (.long a), (.int (7 : Int32)), (.ref d)])) _
  refine own_by (fun zt zk => XS.iload X15.here hx rfl (hb hby at_132) rfl zk) ?_
  show own_Go p.tables e below (T15.setTop (mkF m 134 #[.val (.long a), .second, .val (.long cc), .second, .val (.int ks), .val (.int ps), .val (.int k), .val (.int pz), .val (.ref d), .unset, .unset, .unset, .unset, .unset] [(.int pz), (.int (7 : Int32)), (.long cc), (.long a), (.int (7 : Int32)), (.ref d)])) _
  refine own_by (fun zt zk => XS.iload X15.here hx rfl (hb hby at_134) rfl zk) ?_
  show own_Go p.tables e below (T15.setTop (mkF m 136 #[.val (.long a), .second, .val (.long cc), .second, .val (.int ks), .val (.int ps), .val (.int k), .val (.int pz), .val (.ref d), .unset, .unset, .unset, .unset, .unset] [(.int k), (.int pz), (.int (7 : Int32)), (.long cc), (.long a), (.int (7 : Int32)), (.ref d)])) _
  obtain ⟨_, _, ⟨T16, L16, k16, n16⟩, -, X16, ⟨Lc16, hQ16, l16, y16, z16⟩, st16⟩ := Jvm.LawKit.callS X15 hx (y := (⟨"com/example/aprox/aprox/ByteReaderReadVLongPinLaw", "adj", "(JJIII)B"⟩ : MethodName)) hown (mvT hZ (hw _ (List.mem_of_getElem? (i := 2) rfl))) (mvT hZ (hw _ (List.mem_of_getElem? (i := 3) rfl))) (mvT hZ (hw _ (List.mem_of_getElem? (i := 4) rfl))) (mvT hZ (hw _ (List.mem_of_getElem? (i := 5) rfl))) (by decide) (backOf (W := 2) (rm_adj l Z a0 hw [] a cc (7 : Int32) pz k  hea15 n0 (Nat.le_trans Z0 K15.1) ) hZ (hw _ (List.mem_of_getElem? (i := 5) rfl)) (hw _ (List.mem_of_getElem? (i := 4) rfl)) (by decide) (by decide)) (g := (mkF m 136 #[.val (.long a), .second, .val (.long cc), .second, .val (.int ks), .val (.int ps), .val (.int k), .val (.int pz), .val (.ref d), .unset, .unset, .unset, .unset, .unset] [(.int k), (.int pz), (.int (7 : Int32)), (.long cc), (.long a), (.int (7 : Int32)), (.ref d)])) rfl (by rw [hml]; rfl) (argsL := [(.long a), (.long cc), (.int (7 : Int32)), (.int pz), (.int k)]) (rest := [(.int (7 : Int32)), (.ref d)]) (lenOf pd_135 rfl) rfl (by show 2 * 0 + _ ≤ _; exact Nat.le_of_eq rfl) (hb hby at_136) (fun _ _ => ⟨rfl, e15, (by decide : 1 + 0 ≤ _), (by decide : 16 + 0 ≤ _)⟩)
  dsimp only [Pt.U, Pt.locs, Pt.cells, Pt.slots] at X16 l16 y16 z16 st16 hQ16
  replace l16 := l16.symm
  replace y16 := y16.symm
  replace z16 := z16.symm
  subst l16 y16 z16
  obtain ⟨r7, rfl, N16q, eh16, hr7⟩ := hQ16
  have N16 := Fr.app N15 N16q
  refine own_by (st16) ?_
  show own_Go p.tables e below (T16.setTop (mkF m 139 #[.val (.long a), .second, .val (.long cc), .second, .val (.int ks), .val (.int ps), .val (.int k), .val (.int pz), .val (.ref d), .unset, .unset, .unset, .unset, .unset] [(.int r7), (.int (7 : Int32)), (.ref d)])) _
  obtain ⟨T17, hea17, X17, e17, W17, V17, st17⟩ := own_stB X16 hx hZ eh16 V15 (j := (7 : Int32)) (k := 7) (by decide) rfl (by decide) (g := (mkF m 139 #[.val (.long a), .second, .val (.long cc), .second, .val (.int ks), .val (.int ps), .val (.int k), .val (.int pz), .val (.ref d), .unset, .unset, .unset, .unset, .unset] [(.int r7), (.int (7 : Int32)), (.ref d)])) rfl rfl (hb hby at_139)
  have N17 := Fr.snoc X17 N16 (Nat.le_trans Z0 sz_d)
  have K17 : Keep h0 hea17 [] := K15.wr W17 (Or.inr sz_d)
  refine own_by (st17) ?_
  show own_Go p.tables e below (T17.setTop (mkF m 140 #[.val (.long a), .second, .val (.long cc), .second, .val (.int ks), .val (.int ps), .val (.int k), .val (.int pz), .val (.ref d), .unset, .unset, .unset, .unset, .unset] [])) _
  refine own_by (fun zt zk => XS.aload X17.here hx rfl (hb hby at_140) rfl rfl zk) ?_
  show own_Go p.tables e below (T17.setTop (mkF m 142 #[.val (.long a), .second, .val (.long cc), .second, .val (.int ks), .val (.int ps), .val (.int k), .val (.int pz), .val (.ref d), .unset, .unset, .unset, .unset, .unset] [(.ref d)])) _
  refine own_by (fun zt zk => XS.bipush X17.here hx rfl (hb hby at_142) zk) ?_
  show own_Go p.tables e below (T17.setTop (mkF m 144 #[.val (.long a), .second, .val (.long cc), .second, .val (.int ks), .val (.int ps), .val (.int k), .val (.int pz), .val (.ref d), .unset, .unset, .unset, .unset, .unset] [(.int (8 : Int32)), (.ref d)])) _
  refine own_by (fun zt zk => XS.lloadN X17.here hx rfl (hb hby at_144) rfl zk) ?_
  show own_Go p.tables e below (T17.setTop (mkF m 145 #[.val (.long a), .second, .val (.long cc), .second, .val (.int ks), .val (.int ps), .val (.int k), .val (.int pz), .val (.ref d), .unset, .unset, .unset, .unset, .unset] [(.long a), (.int (8 : Int32)), (.ref d)])) _
  refine own_by (fun zt zk => XS.lloadN X17.here hx rfl (hb hby at_145) rfl zk) ?_
  show own_Go p.tables e below (T17.setTop (mkF m 146 #[.val (.long a), .second, .val (.long cc), .second, .val (.int ks), .val (.int ps), .val (.int k), .val (.int pz), .val (.ref d), .unset, .unset, .unset, .unset, .unset] [(.long cc), (.long a), (.int (8 : Int32)), (.ref d)])) _
  refine own_by (fun zt zk => XS.bipush X17.here hx rfl (hb hby at_146) zk) ?_
  show own_Go p.tables e below (T17.setTop (mkF m 148 #[.val (.long a), .second, .val (.long cc), .second, .val (.int ks), .val (.int ps), .val (.int k), .val (.int pz), .val (.ref d), .unset, .unset, .unset, .unset, .unset] [(.int (8 : Int32)), (.long cc), (.long a), (.int (8 : Int32)), (.ref d)])) _
  refine own_by (fun zt zk => XS.iload X17.here hx rfl (hb hby at_148) rfl zk) ?_
  show own_Go p.tables e below (T17.setTop (mkF m 150 #[.val (.long a), .second, .val (.long cc), .second, .val (.int ks), .val (.int ps), .val (.int k), .val (.int pz), .val (.ref d), .unset, .unset, .unset, .unset, .unset] [(.int pz), (.int (8 : Int32)), (.long cc), (.long a), (.int (8 : Int32)), (.ref d)])) _
  refine own_by (fun zt zk => XS.iload X17.here hx rfl (hb hby at_150) rfl zk) ?_
  show own_Go p.tables e below (T17.setTop (mkF m 152 #[.val (.long a), .second, .val (.long cc), .second, .val (.int ks), .val (.int ps), .val (.int k), .val (.int pz), .val (.ref d), .unset, .unset, .unset, .unset, .unset] [(.int k), (.int pz), (.int (8 : Int32)), (.long cc), (.long a), (.int (8 : Int32)), (.ref d)])) _
  obtain ⟨_, _, ⟨T18, L18, k18, n18⟩, -, X18, ⟨Lc18, hQ18, l18, y18, z18⟩, st18⟩ := Jvm.LawKit.callS X17 hx (y := (⟨"com/example/aprox/aprox/ByteReaderReadVLongPinLaw", "adj", "(JJIII)B"⟩ : MethodName)) hown (mvT hZ (hw _ (List.mem_of_getElem? (i := 2) rfl))) (mvT hZ (hw _ (List.mem_of_getElem? (i := 3) rfl))) (mvT hZ (hw _ (List.mem_of_getElem? (i := 4) rfl))) (mvT hZ (hw _ (List.mem_of_getElem? (i := 5) rfl))) (by decide) (backOf (W := 2) (rm_adj l Z a0 hw [] a cc (8 : Int32) pz k  hea17 n0 (Nat.le_trans Z0 K17.1) ) hZ (hw _ (List.mem_of_getElem? (i := 5) rfl)) (hw _ (List.mem_of_getElem? (i := 4) rfl)) (by decide) (by decide)) (g := (mkF m 152 #[.val (.long a), .second, .val (.long cc), .second, .val (.int ks), .val (.int ps), .val (.int k), .val (.int pz), .val (.ref d), .unset, .unset, .unset, .unset, .unset] [(.int k), (.int pz), (.int (8 : Int32)), (.long cc), (.long a), (.int (8 : Int32)), (.ref d)])) rfl (by rw [hml]; rfl) (argsL := [(.long a), (.long cc), (.int (8 : Int32)), (.int pz), (.int k)]) (rest := [(.int (8 : Int32)), (.ref d)]) (lenOf pd_135 rfl) rfl (by show 2 * 0 + _ ≤ _; exact Nat.le_of_eq rfl) (hb hby at_152) (fun _ _ => ⟨rfl, e17, (by decide : 1 + 0 ≤ _), (by decide : 16 + 0 ≤ _)⟩)
  dsimp only [Pt.U, Pt.locs, Pt.cells, Pt.slots] at X18 l18 y18 z18 st18 hQ18
  replace l18 := l18.symm
  replace y18 := y18.symm
  replace z18 := z18.symm
  subst l18 y18 z18
  obtain ⟨r8, rfl, N18q, eh18, hr8⟩ := hQ18
  have N18 := Fr.app N17 N18q
  refine own_by (st18) ?_
  show own_Go p.tables e below (T18.setTop (mkF m 155 #[.val (.long a), .second, .val (.long cc), .second, .val (.int ks), .val (.int ps), .val (.int k), .val (.int pz), .val (.ref d), .unset, .unset, .unset, .unset, .unset] [(.int r8), (.int (8 : Int32)), (.ref d)])) _
  obtain ⟨T19, hea19, X19, e19, W19, V19, st19⟩ := own_stB X18 hx hZ eh18 V17 (j := (8 : Int32)) (k := 8) (by decide) rfl (by decide) (g := (mkF m 155 #[.val (.long a), .second, .val (.long cc), .second, .val (.int ks), .val (.int ps), .val (.int k), .val (.int pz), .val (.ref d), .unset, .unset, .unset, .unset, .unset] [(.int r8), (.int (8 : Int32)), (.ref d)])) rfl rfl (hb hby at_155)
  have N19 := Fr.snoc X19 N18 (Nat.le_trans Z0 sz_d)
  have K19 : Keep h0 hea19 [] := K17.wr W19 (Or.inr sz_d)
  refine own_by (st19) ?_
  show own_Go p.tables e below (T19.setTop (mkF m 156 #[.val (.long a), .second, .val (.long cc), .second, .val (.int ks), .val (.int ps), .val (.int k), .val (.int pz), .val (.ref d), .unset, .unset, .unset, .unset, .unset] [])) _
  refine own_by (fun zt zk => XS.aload X19.here hx rfl (hb hby at_156) rfl rfl zk) ?_
  show own_Go p.tables e below (T19.setTop (mkF m 158 #[.val (.long a), .second, .val (.long cc), .second, .val (.int ks), .val (.int ps), .val (.int k), .val (.int pz), .val (.ref d), .unset, .unset, .unset, .unset, .unset] [(.ref d)])) _
  refine own_by (fun zt zk => XS.bipush X19.here hx rfl (hb hby at_158) zk) ?_
  show own_Go p.tables e below (T19.setTop (mkF m 160 #[.val (.long a), .second, .val (.long cc), .second, .val (.int ks), .val (.int ps), .val (.int k), .val (.int pz), .val (.ref d), .unset, .unset, .unset, .unset, .unset] [(.int (9 : Int32)), (.ref d)])) _
  refine own_by (fun zt zk => XS.lloadN X19.here hx rfl (hb hby at_160) rfl zk) ?_
  show own_Go p.tables e below (T19.setTop (mkF m 161 #[.val (.long a), .second, .val (.long cc), .second, .val (.int ks), .val (.int ps), .val (.int k), .val (.int pz), .val (.ref d), .unset, .unset, .unset, .unset, .unset] [(.long a), (.int (9 : Int32)), (.ref d)])) _
  refine own_by (fun zt zk => XS.lloadN X19.here hx rfl (hb hby at_161) rfl zk) ?_
  show own_Go p.tables e below (T19.setTop (mkF m 162 #[.val (.long a), .second, .val (.long cc), .second, .val (.int ks), .val (.int ps), .val (.int k), .val (.int pz), .val (.ref d), .unset, .unset, .unset, .unset, .unset] [(.long cc), (.long a), (.int (9 : Int32)), (.ref d)])) _
  refine own_by (fun zt zk => XS.bipush X19.here hx rfl (hb hby at_162) zk) ?_
  show own_Go p.tables e below (T19.setTop (mkF m 164 #[.val (.long a), .second, .val (.long cc), .second, .val (.int ks), .val (.int ps), .val (.int k), .val (.int pz), .val (.ref d), .unset, .unset, .unset, .unset, .unset] [(.int (9 : Int32)), (.long cc), (.long a), (.int (9 : Int32)), (.ref d)])) _
  refine own_by (fun zt zk => XS.iload X19.here hx rfl (hb hby at_164) rfl zk) ?_
  show own_Go p.tables e below (T19.setTop (mkF m 166 #[.val (.long a), .second, .val (.long cc), .second, .val (.int ks), .val (.int ps), .val (.int k), .val (.int pz), .val (.ref d), .unset, .unset, .unset, .unset, .unset] [(.int pz), (.int (9 : Int32)), (.long cc), (.long a), (.int (9 : Int32)), (.ref d)])) _
  refine own_by (fun zt zk => XS.iload X19.here hx rfl (hb hby at_166) rfl zk) ?_
  show own_Go p.tables e below (T19.setTop (mkF m 168 #[.val (.long a), .second, .val (.long cc), .second, .val (.int ks), .val (.int ps), .val (.int k), .val (.int pz), .val (.ref d), .unset, .unset, .unset, .unset, .unset] [(.int k), (.int pz), (.int (9 : Int32)), (.long cc), (.long a), (.int (9 : Int32)), (.ref d)])) _
  obtain ⟨_, _, ⟨T20, L20, k20, n20⟩, -, X20, ⟨Lc20, hQ20, l20, y20, z20⟩, st20⟩ := Jvm.LawKit.callS X19 hx (y := (⟨"com/example/aprox/aprox/ByteReaderReadVLongPinLaw", "adj", "(JJIII)B"⟩ : MethodName)) hown (mvT hZ (hw _ (List.mem_of_getElem? (i := 2) rfl))) (mvT hZ (hw _ (List.mem_of_getElem? (i := 3) rfl))) (mvT hZ (hw _ (List.mem_of_getElem? (i := 4) rfl))) (mvT hZ (hw _ (List.mem_of_getElem? (i := 5) rfl))) (by decide) (backOf (W := 2) (rm_adj l Z a0 hw [] a cc (9 : Int32) pz k  hea19 n0 (Nat.le_trans Z0 K19.1) ) hZ (hw _ (List.mem_of_getElem? (i := 5) rfl)) (hw _ (List.mem_of_getElem? (i := 4) rfl)) (by decide) (by decide)) (g := (mkF m 168 #[.val (.long a), .second, .val (.long cc), .second, .val (.int ks), .val (.int ps), .val (.int k), .val (.int pz), .val (.ref d), .unset, .unset, .unset, .unset, .unset] [(.int k), (.int pz), (.int (9 : Int32)), (.long cc), (.long a), (.int (9 : Int32)), (.ref d)])) rfl (by rw [hml]; rfl) (argsL := [(.long a), (.long cc), (.int (9 : Int32)), (.int pz), (.int k)]) (rest := [(.int (9 : Int32)), (.ref d)]) (lenOf pd_135 rfl) rfl (by show 2 * 0 + _ ≤ _; exact Nat.le_of_eq rfl) (hb hby at_168) (fun _ _ => ⟨rfl, e19, (by decide : 1 + 0 ≤ _), (by decide : 16 + 0 ≤ _)⟩)
  dsimp only [Pt.U, Pt.locs, Pt.cells, Pt.slots] at X20 l20 y20 z20 st20 hQ20
  replace l20 := l20.symm
  replace y20 := y20.symm
  replace z20 := z20.symm
  subst l20 y20 z20
  obtain ⟨r9, rfl, N20q, eh20, hr9⟩ := hQ20
  have N20 := Fr.app N19 N20q
  refine own_by (st20) ?_
  show own_Go p.tables e below (T20.setTop (mkF m 171 #[.val (.long a), .second, .val (.long cc), .second, .val (.int ks), .val (.int ps), .val (.int k), .val (.int pz), .val (.ref d), .unset, .unset, .unset, .unset, .unset] [(.int r9), (.int (9 : Int32)), (.ref d)])) _
  obtain ⟨T21, hea21, X21, e21, W21, V21, st21⟩ := own_stB X20 hx hZ eh20 V19 (j := (9 : Int32)) (k := 9) (by decide) rfl (by decide) (g := (mkF m 171 #[.val (.long a), .second, .val (.long cc), .second, .val (.int ks), .val (.int ps), .val (.int k), .val (.int pz), .val (.ref d), .unset, .unset, .unset, .unset, .unset] [(.int r9), (.int (9 : Int32)), (.ref d)])) rfl rfl (hb hby at_171)
  have N21 := Fr.snoc X21 N20 (Nat.le_trans Z0 sz_d)
  have K21 : Keep h0 hea21 [] := K19.wr W21 (Or.inr sz_d)
  refine own_by (st21) ?_
  show own_Go p.tables e below (T21.setTop (mkF m 172 #[.val (.long a), .second, .val (.long cc), .second, .val (.int ks), .val (.int ps), .val (.int k), .val (.int pz), .val (.ref d), .unset, .unset, .unset, .unset, .unset] [])) _
  refine own_by (fun zt zk => XS.aload X21.here hx rfl (hb hby at_172) rfl rfl zk) ?_
  show own_Go p.tables e below (T21.setTop (mkF m 174 #[.val (.long a), .second, .val (.long cc), .second, .val (.int ks), .val (.int ps), .val (.int k), .val (.int pz), .val (.ref d), .unset, .unset, .unset, .unset, .unset] [(.ref d)])) _
  refine own_by (fun zt zk => XS.bipush X21.here hx rfl (hb hby at_174) zk) ?_
  show own_Go p.tables e below (T21.setTop (mkF m 176 #[.val (.long a), .second, .val (.long cc), .second, .val (.int ks), .val (.int ps), .val (.int k), .val (.int pz), .val (.ref d), .unset, .unset, .unset, .unset, .unset] [(.int (10 : Int32)), (.ref d)])) _
  refine own_by (fun zt zk => XS.lloadN X21.here hx rfl (hb hby at_176) rfl zk) ?_
  show own_Go p.tables e below (T21.setTop (mkF m 177 #[.val (.long a), .second, .val (.long cc), .second, .val (.int ks), .val (.int ps), .val (.int k), .val (.int pz), .val (.ref d), .unset, .unset, .unset, .unset, .unset] [(.long a), (.int (10 : Int32)), (.ref d)])) _
  refine own_by (fun zt zk => XS.lloadN X21.here hx rfl (hb hby at_177) rfl zk) ?_
  show own_Go p.tables e below (T21.setTop (mkF m 178 #[.val (.long a), .second, .val (.long cc), .second, .val (.int ks), .val (.int ps), .val (.int k), .val (.int pz), .val (.ref d), .unset, .unset, .unset, .unset, .unset] [(.long cc), (.long a), (.int (10 : Int32)), (.ref d)])) _
  refine own_by (fun zt zk => XS.bipush X21.here hx rfl (hb hby at_178) zk) ?_
  show own_Go p.tables e below (T21.setTop (mkF m 180 #[.val (.long a), .second, .val (.long cc), .second, .val (.int ks), .val (.int ps), .val (.int k), .val (.int pz), .val (.ref d), .unset, .unset, .unset, .unset, .unset] [(.int (10 : Int32)), (.long cc), (.long a), (.int (10 : Int32)), (.ref d)])) _
  refine own_by (fun zt zk => XS.iload X21.here hx rfl (hb hby at_180) rfl zk) ?_
  show own_Go p.tables e below (T21.setTop (mkF m 182 #[.val (.long a), .second, .val (.long cc), .second, .val (.int ks), .val (.int ps), .val (.int k), .val (.int pz), .val (.ref d), .unset, .unset, .unset, .unset, .unset] [(.int pz), (.int (10 : Int32)), (.long cc), (.long a), (.int (10 : Int32)), (.ref d)])) _
  refine own_by (fun zt zk => XS.iload X21.here hx rfl (hb hby at_182) rfl zk) ?_
  show own_Go p.tables e below (T21.setTop (mkF m 184 #[.val (.long a), .second, .val (.long cc), .second, .val (.int ks), .val (.int ps), .val (.int k), .val (.int pz), .val (.ref d), .unset, .unset, .unset, .unset, .unset] [(.int k), (.int pz), (.int (10 : Int32)), (.long cc), (.long a), (.int (10 : Int32)), (.ref d)])) _
  obtain ⟨_, _, ⟨T22, L22, k22, n22⟩, -, X22, ⟨Lc22, hQ22, l22, y22, z22⟩, st22⟩ := Jvm.LawKit.callS X21 hx (y := (⟨"com/example/aprox/aprox/ByteReaderReadVLongPinLaw", "adj", "(JJIII)B"⟩ : MethodName)) hown (mvT hZ (hw _ (List.mem_of_getElem? (i := 2) rfl))) (mvT hZ (hw _ (List.mem_of_getElem? (i := 3) rfl))) (mvT hZ (hw _ (List.mem_of_getElem? (i := 4) rfl))) (mvT hZ (hw _ (List.mem_of_getElem? (i := 5) rfl))) (by decide) (backOf (W := 2) (rm_adj l Z a0 hw [] a cc (10 : Int32) pz k  hea21 n0 (Nat.le_trans Z0 K21.1) ) hZ (hw _ (List.mem_of_getElem? (i := 5) rfl)) (hw _ (List.mem_of_getElem? (i := 4) rfl)) (by decide) (by decide)) (g := (mkF m 184 #[.val (.long a), .second, .val (.long cc), .second, .val (.int ks), .val (.int ps), .val (.int k), .val (.int pz), .val (.ref d), .unset, .unset, .unset, .unset, .unset] [(.int k), (.int pz), (.int (10 : Int32)), (.long cc), (.long a), (.int (10 : Int32)), (.ref d)])) rfl (by rw [hml]; rfl) (argsL := [(.long a), (.long cc), (.int (10 : Int32)), (.int pz), (.int k)]) (rest := [(.int (10 : Int32)), (.ref d)]) (lenOf pd_135 rfl) rfl (by show 2 * 0 + _ ≤ _; exact Nat.le_of_eq rfl) (hb hby at_184) (fun _ _ => ⟨rfl, e21, (by decide : 1 + 0 ≤ _), (by decide : 16 + 0 ≤ _)⟩)
  dsimp only [Pt.U, Pt.locs, Pt.cells, Pt.slots] at X22 l22 y22 z22 st22 hQ22
  replace l22 := l22.symm
  replace y22 := y22.symm
  replace z22 := z22.symm
  subst l22 y22 z22
  obtain ⟨r10, rfl, N22q, eh22, hr10⟩ := hQ22
  have N22 := Fr.app N21 N22q
  refine own_by (st22) ?_
  show own_Go p.tables e below (T22.setTop (mkF m 187 #[.val (.long a), .second, .val (.long cc), .second, .val (.int ks), .val (.int ps), .val (.int k), .val (.int pz), .val (.ref d), .unset, .unset, .unset, .unset, .unset] [(.int r10), (.int (10 : Int32)), (.ref d)])) _
  obtain ⟨T23, hea23, X23, e23, W23, V23, st23⟩ := own_stB X22 hx hZ eh22 V21 (j := (10 : Int32)) (k := 10) (by decide) rfl (by decide) (g := (mkF m 187 #[.val (.long a), .second, .val (.long cc), .second, .val (.int ks), .val (.int ps), .val (.int k), .val (.int pz), .val (.ref d), .unset, .unset, .unset, .unset, .unset] [(.int r10), (.int (10 : Int32)), (.ref d)])) rfl rfl (hb hby at_187)
  have N23 := Fr.snoc X23 N22 (Nat.le_trans Z0 sz_d)
  have K23 : Keep h0 hea23 [] := K21.wr W23 (Or.inr sz_d)
  refine own_by (st23) ?_
  show own_Go p.tables e below (T23.setTop (mkF m 188 #[.val (.long a), .second, .val (.long cc), .second, .val (.int ks), .val (.int ps), .val (.int k), .val (.int pz), .val (.ref d), .unset, .unset, .unset, .unset, .unset] [])) _
  refine own_by (fun zt zk => XS.aload X23.here hx rfl (hb hby at_188) rfl rfl zk) ?_
  show own_Go p.tables e below (T23.setTop (mkF m 190 #[.val (.long a), .second, .val (.long cc), .second, .val (.int ks), .val (.int ps), .val (.int k), .val (.int pz), .val (.ref d), .unset, .unset, .unset, .unset, .unset] [(.ref d)])) _
  refine own_by (fun zt zk => XS.bipush X23.here hx rfl (hb hby at_190) zk) ?_
  show own_Go p.tables e below (T23.setTop (mkF m 192 #[.val (.long a), .second, .val (.long cc), .second, .val (.int ks), .val (.int ps), .val (.int k), .val (.int pz), .val (.ref d), .unset, .unset, .unset, .unset, .unset] [(.int (11 : Int32)), (.ref d)])) _
  refine own_by (fun zt zk => XS.lloadN X23.here hx rfl (hb hby at_192) rfl zk) ?_
  show own_Go p.tables e below (T23.setTop (mkF m 193 #[.val (.long a), .second, .val (.long cc), .second, .val (.int ks), .val (.int ps), .val (.int k), .val (.int pz), .val (.ref d), .unset, .unset, .unset, .unset, .unset] [(.long a), (.int (11 : Int32)), (.ref d)])) _
  refine own_by (fun zt zk => XS.lloadN X23.here hx rfl (hb hby at_193) rfl zk) ?_
  show own_Go p.tables e below (T23.setTop (mkF m 194 #[.val (.long a), .second, .val (.long cc), .second, .val (.int ks), .val (.int ps), .val (.int k), .val (.int pz), .val (.ref d), .unset, .unset, .unset, .unset, .unset] [(.long cc), (.long a), (.int (11 : Int32)), (.ref d)])) _
  refine own_by (fun zt zk => XS.bipush X23.here hx rfl (hb hby at_194) zk) ?_
  show own_Go p.tables e below (T23.setTop (mkF m 196 #[.val (.long a), .second, .val (.long cc), .second, .val (.int ks), .val (.int ps), .val (.int k), .val (.int pz), .val (.ref d), .unset, .unset, .unset, .unset, .unset] [(.int (11 : Int32)), (.long cc), (.long a), (.int (11 : Int32)), (.ref d)])) _
  refine own_by (fun zt zk => XS.iload X23.here hx rfl (hb hby at_196) rfl zk) ?_
  show own_Go p.tables e below (T23.setTop (mkF m 198 #[.val (.long a), .second, .val (.long cc), .second, .val (.int ks), .val (.int ps), .val (.int k), .val (.int pz), .val (.ref d), .unset, .unset, .unset, .unset, .unset] [(.int pz), (.int (11 : Int32)), (.long cc), (.long a), (.int (11 : Int32)), (.ref d)])) _
  refine own_by (fun zt zk => XS.iload X23.here hx rfl (hb hby at_198) rfl zk) ?_
  show own_Go p.tables e below (T23.setTop (mkF m 200 #[.val (.long a), .second, .val (.long cc), .second, .val (.int ks), .val (.int ps), .val (.int k), .val (.int pz), .val (.ref d), .unset, .unset, .unset, .unset, .unset] [(.int k), (.int pz), (.int (11 : Int32)), (.long cc), (.long a), (.int (11 : Int32)), (.ref d)])) _
  obtain ⟨_, _, ⟨T24, L24, k24, n24⟩, -, X24, ⟨Lc24, hQ24, l24, y24, z24⟩, st24⟩ := Jvm.LawKit.callS X23 hx (y := (⟨"com/example/aprox/aprox/ByteReaderReadVLongPinLaw", "adj", "(JJIII)B"⟩ : MethodName)) hown (mvT hZ (hw _ (List.mem_of_getElem? (i := 2) rfl))) (mvT hZ (hw _ (List.mem_of_getElem? (i := 3) rfl))) (mvT hZ (hw _ (List.mem_of_getElem? (i := 4) rfl))) (mvT hZ (hw _ (List.mem_of_getElem? (i := 5) rfl))) (by decide) (backOf (W := 2) (rm_adj l Z a0 hw [] a cc (11 : Int32) pz k  hea23 n0 (Nat.le_trans Z0 K23.1) ) hZ (hw _ (List.mem_of_getElem? (i := 5) rfl)) (hw _ (List.mem_of_getElem? (i := 4) rfl)) (by decide) (by decide)) (g := (mkF m 200 #[.val (.long a), .second, .val (.long cc), .second, .val (.int ks), .val (.int ps), .val (.int k), .val (.int pz), .val (.ref d), .unset, .unset, .unset, .unset, .unset] [(.int k), (.int pz), (.int (11 : Int32)), (.long cc), (.long a), (.int (11 : Int32)), (.ref d)])) rfl (by rw [hml]; rfl) (argsL := [(.long a), (.long cc), (.int (11 : Int32)), (.int pz), (.int k)]) (rest := [(.int (11 : Int32)), (.ref d)]) (lenOf pd_135 rfl) rfl (by show 2 * 0 + _ ≤ _; exact Nat.le_of_eq rfl) (hb hby at_200) (fun _ _ => ⟨rfl, e23, (by decide : 1 + 0 ≤ _), (by decide : 16 + 0 ≤ _)⟩)
  dsimp only [Pt.U, Pt.locs, Pt.cells, Pt.slots] at X24 l24 y24 z24 st24 hQ24
  replace l24 := l24.symm
  replace y24 := y24.symm
  replace z24 := z24.symm
  subst l24 y24 z24
  obtain ⟨r11, rfl, N24q, eh24, hr11⟩ := hQ24
  have N24 := Fr.app N23 N24q
  refine own_by (st24) ?_
  show own_Go p.tables e below (T24.setTop (mkF m 203 #[.val (.long a), .second, .val (.long cc), .second, .val (.int ks), .val (.int ps), .val (.int k), .val (.int pz), .val (.ref d), .unset, .unset, .unset, .unset, .unset] [(.int r11), (.int (11 : Int32)), (.ref d)])) _
  obtain ⟨T25, hea25, X25, e25, W25, V25, st25⟩ := own_stB X24 hx hZ eh24 V23 (j := (11 : Int32)) (k := 11) (by decide) rfl (by decide) (g := (mkF m 203 #[.val (.long a), .second, .val (.long cc), .second, .val (.int ks), .val (.int ps), .val (.int k), .val (.int pz), .val (.ref d), .unset, .unset, .unset, .unset, .unset] [(.int r11), (.int (11 : Int32)), (.ref d)])) rfl rfl (hb hby at_203)
  have N25 := Fr.snoc X25 N24 (Nat.le_trans Z0 sz_d)
  have K25 : Keep h0 hea25 [] := K23.wr W25 (Or.inr sz_d)
  refine own_by (st25) ?_
  show own_Go p.tables e below (T25.setTop (mkF m 204 #[.val (.long a), .second, .val (.long cc), .second, .val (.int ks), .val (.int ps), .val (.int k), .val (.int pz), .val (.ref d), .unset, .unset, .unset, .unset, .unset] [])) _
  refine own_by (fun zt zk => XS.aload X25.here hx rfl (hb hby at_204) rfl rfl zk) ?_
  show own_Go p.tables e below (T25.setTop (mkF m 206 #[.val (.long a), .second, .val (.long cc), .second, .val (.int ks), .val (.int ps), .val (.int k), .val (.int pz), .val (.ref d), .unset, .unset, .unset, .unset, .unset] [(.ref d)])) _
  refine own_by (fun zt zk => XS.bipush X25.here hx rfl (hb hby at_206) zk) ?_
  show own_Go p.tables e below (T25.setTop (mkF m 208 #[.val (.long a), .second, .val (.long cc), .second, .val (.int ks), .val (.int ps), .val (.int k), .val (.int pz), .val (.ref d), .unset, .unset, .unset, .unset, .unset] [(.int (12 : Int32)), (.ref d)])) _
  refine own_by (fun zt zk => XS.lloadN X25.here hx rfl (hb hby at_208) rfl zk) ?_
  show own_Go p.tables e below (T25.setTop (mkF m 209 #[.val (.long a), .second, .val (.long cc), .second, .val (.int ks), .val (.int ps), .val (.int k), .val (.int pz), .val (.ref d), .unset, .unset, .unset, .unset, .unset] [(.long a), (.int (12 : Int32)), (.ref d)])) _
  refine own_by (fun zt zk => XS.lloadN X25.here hx rfl (hb hby at_209) rfl zk) ?_
  show own_Go p.tables e below (T25.setTop (mkF m 210 #[.val (.long a), .second, .val (.long cc), .second, .val (.int ks), .val (.int ps), .val (.int k), .val (.int pz), .val (.ref d), .unset, .unset, .unset, .unset, .unset] [(.long cc), (.long a), (.int (12 : Int32)), (.ref d)])) _
  refine own_by (fun zt zk => XS.bipush X25.here hx rfl (hb hby at_210) zk) ?_
  show own_Go p.tables e below (T25.setTop (mkF m 212 #[.val (.long a), .second, .val (.long cc), .second, .val (.int ks), .val (.int ps), .val (.int k), .val (.int pz), .val (.ref d), .unset, .unset, .unset, .unset, .unset] [(.int (12 : Int32)), (.long cc), (.long a), (.int (12 : Int32)), (.ref d)])) _
  refine own_by (fun zt zk => XS.iload X25.here hx rfl (hb hby at_212) rfl zk) ?_
  show own_Go p.tables e below (T25.setTop (mkF m 214 #[.val (.long a), .second, .val (.long cc), .second, .val (.int ks), .val (.int ps), .val (.int k), .val (.int pz), .val (.ref d), .unset, .unset, .unset, .unset, .unset] [(.int pz), (.int (12 : Int32)), (.long cc), (.long a), (.int (12 : Int32)), (.ref d)])) _
  refine own_by (fun zt zk => XS.iload X25.here hx rfl (hb hby at_214) rfl zk) ?_
  show own_Go p.tables e below (T25.setTop (mkF m 216 #[.val (.long a), .second, .val (.long cc), .second, .val (.int ks), .val (.int ps), .val (.int k), .val (.int pz), .val (.ref d), .unset, .unset, .unset, .unset, .unset] [(.int k), (.int pz), (.int (12 : Int32)), (.long cc), (.long a), (.int (12 : Int32)), (.ref d)])) _
  obtain ⟨_, _, ⟨T26, L26, k26, n26⟩, -, X26, ⟨Lc26, hQ26, l26, y26, z26⟩, st26⟩ := Jvm.LawKit.callS X25 hx (y := (⟨"com/example/aprox/aprox/ByteReaderReadVLongPinLaw", "adj", "(JJIII)B"⟩ : MethodName)) hown (mvT hZ (hw _ (List.mem_of_getElem? (i := 2) rfl))) (mvT hZ (hw _ (List.mem_of_getElem? (i := 3) rfl))) (mvT hZ (hw _ (List.mem_of_getElem? (i := 4) rfl))) (mvT hZ (hw _ (List.mem_of_getElem? (i := 5) rfl))) (by decide) (backOf (W := 2) (rm_adj l Z a0 hw [] a cc (12 : Int32) pz k  hea25 n0 (Nat.le_trans Z0 K25.1) ) hZ (hw _ (List.mem_of_getElem? (i := 5) rfl)) (hw _ (List.mem_of_getElem? (i := 4) rfl)) (by decide) (by decide)) (g := (mkF m 216 #[.val (.long a), .second, .val (.long cc), .second, .val (.int ks), .val (.int ps), .val (.int k), .val (.int pz), .val (.ref d), .unset, .unset, .unset, .unset, .unset] [(.int k), (.int pz), (.int (12 : Int32)), (.long cc), (.long a), (.int (12 : Int32)), (.ref d)])) rfl (by rw [hml]; rfl) (argsL := [(.long a), (.long cc), (.int (12 : Int32)), (.int pz), (.int k)]) (rest := [(.int (12 : Int32)), (.ref d)]) (lenOf pd_135 rfl) rfl (by show 2 * 0 + _ ≤ _; exact Nat.le_of_eq rfl) (hb hby at_216) (fun _ _ => ⟨rfl, e25, (by decide : 1 + 0 ≤ _), (by decide : 16 + 0 ≤ _)⟩)
  dsimp only [Pt.U, Pt.locs, Pt.cells, Pt.slots] at X26 l26 y26 z26 st26 hQ26
  replace l26 := l26.symm
  replace y26 := y26.symm
  replace z26 := z26.symm
  subst l26 y26 z26
  obtain ⟨r12, rfl, N26q, eh26, hr12⟩ := hQ26
  have N26 := Fr.app N25 N26q
  refine own_by (st26) ?_
  show own_Go p.tables e below (T26.setTop (mkF m 219 #[.val (.long a), .second, .val (.long cc), .second, .val (.int ks), .val (.int ps), .val (.int k), .val (.int pz), .val (.ref d), .unset, .unset, .unset, .unset, .unset] [(.int r12), (.int (12 : Int32)), (.ref d)])) _
  obtain ⟨T27, hea27, X27, e27, W27, V27, st27⟩ := own_stB X26 hx hZ eh26 V25 (j := (12 : Int32)) (k := 12) (by decide) rfl (by decide) (g := (mkF m 219 #[.val (.long a), .second, .val (.long cc), .second, .val (.int ks), .val (.int ps), .val (.int k), .val (.int pz), .val (.ref d), .unset, .unset, .unset, .unset, .unset] [(.int r12), (.int (12 : Int32)), (.ref d)])) rfl rfl (hb hby at_219)
  have N27 := Fr.snoc X27 N26 (Nat.le_trans Z0 sz_d)
  have K27 : Keep h0 hea27 [] := K25.wr W27 (Or.inr sz_d)
  refine own_by (st27) ?_
  show own_Go p.tables e below (T27.setTop (mkF m 220 #[.val (.long a), .second, .val (.long cc), .second, .val (.int ks), .val (.int ps), .val (.int k), .val (.int pz), .val (.ref d), .unset, .unset, .unset, .unset, .unset] [])) _
  refine own_by (fun zt zk => XS.aload X27.here hx rfl (hb hby at_220) rfl rfl zk) ?_
  show own_Go p.tables e below (T27.setTop (mkF m 222 #[.val (.long a), .second, .val (.long cc), .second, .val (.int ks), .val (.int ps), .val (.int k), .val (.int pz), .val (.ref d), .unset, .unset, .unset, .unset, .unset] [(.ref d)])) _
  refine own_by (fun zt zk => XS.bipush X27.here hx rfl (hb hby at_222) zk) ?_
  show own_Go p.tables e below (T27.setTop (mkF m 224 #[.val (.long a), .second, .val (.long cc), .second, .val (.int ks), .val (.int ps), .val (.int k), .val (.int pz), .val (.ref d), .unset, .unset, .unset, .unset, .unset] [(.int (13 : Int32)), (.ref d)])) _
  refine own_by (fun zt zk => XS.lloadN X27.here hx rfl (hb hby at_224) rfl zk) ?_
  show own_Go p.tables e below (T27.setTop (mkF m 225 #[.val (.long a), .second, .val (.long cc), .second, .val (.int ks), .val (.int ps), .val (.int k), .val (.int pz), .val (.ref d), .unset, .unset, .unset, .unset, .unset] [(.long a), (.int (13 : Int32)), (.ref d)])) _
  refine own_by (fun zt zk => XS.lloadN X27.here hx rfl (hb hby at_225) rfl zk) ?_
  show own_Go p.tables e below (T27.setTop (mkF m 226 #[.val (.long a), .second, .val (.long cc), .second, .val (.int ks), .val (.int ps), .val (.int k), .val (.int pz), .val (.ref d), .unset, .unset, .unset, .unset, .unset] [(.long cc), (.long a), (.int (13 : Int32)), (.ref d)])) _
  refine own_by (fun zt zk => XS.bipush X27.here hx rfl (hb hby at_226) zk) ?_
  show own_Go p.tables e below (T27.setTop (mkF m 228 #[.val (.long a), .second, .val (.long cc), .second, .val (.int ks), .val (.int ps), .val (.int k), .val (.int pz), .val (.ref d), .unset, .unset, .unset, .unset, .unset] [(.int (13 : Int32)), (.long cc), (.long a), (.int (13 : Int32)), (.ref d)])) _
  refine own_by (fun zt zk => XS.iload X27.here hx rfl (hb hby at_228) rfl zk) ?_
  show own_Go p.tables e below (T27.setTop (mkF m 230 #[.val (.long a), .second, .val (.long cc), .second, .val (.int ks), .val (.int ps), .val (.int k), .val (.int pz), .val (.ref d), .unset, .unset, .unset, .unset, .unset] [(.int pz), (.int (13 : Int32)), (.long cc), (.long a), (.int (13 : Int32)), (.ref d)])) _
  refine own_by (fun zt zk => XS.iload X27.here hx rfl (hb hby at_230) rfl zk) ?_
  show own_Go p.tables e below (T27.setTop (mkF m 232 #[.val (.long a), .second, .val (.long cc), .second, .val (.int ks), .val (.int ps), .val (.int k), .val (.int pz), .val (.ref d), .unset, .unset, .unset, .unset, .unset] [(.int k), (.int pz), (.int (13 : Int32)), (.long cc), (.long a), (.int (13 : Int32)), (.ref d)])) _
  obtain ⟨_, _, ⟨T28, L28, k28, n28⟩, -, X28, ⟨Lc28, hQ28, l28, y28, z28⟩, st28⟩ := Jvm.LawKit.callS X27 hx (y := (⟨"com/example/aprox/aprox/ByteReaderReadVLongPinLaw", "adj", "(JJIII)B"⟩ : MethodName)) hown (mvT hZ (hw _ (List.mem_of_getElem? (i := 2) rfl))) (mvT hZ (hw _ (List.mem_of_getElem? (i := 3) rfl))) (mvT hZ (hw _ (List.mem_of_getElem? (i := 4) rfl))) (mvT hZ (hw _ (List.mem_of_getElem? (i := 5) rfl))) (by decide) (backOf (W := 2) (rm_adj l Z a0 hw [] a cc (13 : Int32) pz k  hea27 n0 (Nat.le_trans Z0 K27.1) ) hZ (hw _ (List.mem_of_getElem? (i := 5) rfl)) (hw _ (List.mem_of_getElem? (i := 4) rfl)) (by decide) (by decide)) (g := (mkF m 232 #[.val (.long a), .second, .val (.long cc), .second, .val (.int ks), .val (.int ps), .val (.int k), .val (.int pz), .val (.ref d), .unset, .unset, .unset, .unset, .unset] [(.int k), (.int pz), (.int (13 : Int32)), (.long cc), (.long a), (.int (13 : Int32)), (.ref d)])) rfl (by rw [hml]; rfl) (argsL := [(.long a), (.long cc), (.int (13 : Int32)), (.int pz), (.int k)]) (rest := [(.int (13 : Int32)), (.ref d)]) (lenOf pd_135 rfl) rfl (by show 2 * 0 + _ ≤ _; exact Nat.le_of_eq rfl) (hb hby at_232) (fun _ _ => ⟨rfl, e27, (by decide : 1 + 0 ≤ _), (by decide : 16 + 0 ≤ _)⟩)
  dsimp only [Pt.U, Pt.locs, Pt.cells, Pt.slots] at X28 l28 y28 z28 st28 hQ28
  replace l28 := l28.symm
  replace y28 := y28.symm
  replace z28 := z28.symm
  subst l28 y28 z28
  obtain ⟨r13, rfl, N28q, eh28, hr13⟩ := hQ28
  have N28 := Fr.app N27 N28q
  refine own_by (st28) ?_
  show own_Go p.tables e below (T28.setTop (mkF m 235 #[.val (.long a), .second, .val (.long cc), .second, .val (.int ks), .val (.int ps), .val (.int k), .val (.int pz), .val (.ref d), .unset, .unset, .unset, .unset, .unset] [(.int r13), (.int (13 : Int32)), (.ref d)])) _
  obtain ⟨T29, hea29, X29, e29, W29, V29, st29⟩ := own_stB X28 hx hZ eh28 V27 (j := (13 : Int32)) (k := 13) (by decide) rfl (by decide) (g := (mkF m 235 #[.val (.long a), .second, .val (.long cc), .second, .val (.int ks), .val (.int ps), .val (.int k), .val (.int pz), .val (.ref d), .unset, .unset, .unset, .unset, .unset] [(.int r13), (.int (13 : Int32)), (.ref d)])) rfl rfl (hb hby at_235)
  have N29 := Fr.snoc X29 N28 (Nat.le_trans Z0 sz_d)
  have K29 : Keep h0 hea29 [] := K27.wr W29 (Or.inr sz_d)
  refine own_by (st29) ?_
  show own_Go p.tables e below (T29.setTop (mkF m 236 #[.val (.long a), .second, .val (.long cc), .second, .val (.int ks), .val (.int ps), .val (.int k), .val (.int pz), .val (.ref d), .unset, .unset, .unset, .unset, .unset] [])) _
  refine own_by (fun zt zk => XS.aload X29.here hx rfl (hb hby at_236) rfl rfl zk) ?_
  show own_Go p.tables e below (T29.setTop (mkF m 238 #[.val (.long a), .second, .val (.long cc), .second, .val (.int ks), .val (.int ps), .val (.int k), .val (.int pz), .val (.ref d), .unset, .unset, .unset, .unset, .unset] [(.ref d)])) _
  refine own_by (fun zt zk => XS.bipush X29.here hx rfl (hb hby at_238) zk) ?_
  show own_Go p.tables e below (T29.setTop (mkF m 240 #[.val (.long a), .second, .val (.long cc), .second, .val (.int ks), .val (.int ps), .val (.int k), .val (.int pz), .val (.ref d), .unset, .unset, .unset, .unset, .unset] [(.int (14 : Int32)), (.ref d)])) _
  refine own_by (fun zt zk => XS.lloadN X29.here hx rfl (hb hby at_240) rfl zk) ?_
  show own_Go p.tables e below (T29.setTop (mkF m 241 #[.val (.long a), .second, .val (.long cc), .second, .val (.int ks), .val (.int ps), .val (.int k), .val (.int pz), .val (.ref d), .unset, .unset, .unset, .unset, .unset] [(.long a), (.int (14 : Int32)), (.ref d)])) _
  refine own_by (fun zt zk => XS.lloadN X29.here hx rfl (hb hby at_241) rfl zk) ?_
  show own_Go p.tables e below (T29.setTop (mkF m 242 #[.val (.long a), .second, .val (.long cc), .second, .val (.int ks), .val (.int ps), .val (.int k), .val (.int pz), .val (.ref d), .unset, .unset, .unset, .unset, .unset] [(.long cc), (.long a), (.int (14 : Int32)), (.ref d)])) _
  refine own_by (fun zt zk => XS.bipush X29.here hx rfl (hb hby at_242) zk) ?_
  show own_Go p.tables e below (T29.setTop (mkF m 244 #[.val (.long a), .second, .val (.long cc), .second, .val (.int ks), .val (.int ps), .val (.int k), .val (.int pz), .val (.ref d), .unset, .unset, .unset, .unset, .unset] [(.int (14 : Int32)), (.long cc), (.long a), (.int (14 : Int32)), (.ref d)])) _
  refine own_by (fun zt zk => XS.iload X29.here hx rfl (hb hby at_244) rfl zk) ?_
  show own_Go p.tables e below (T29.setTop (mkF m 246 #[.val (.long a), .second, .val (.long cc), .second, .val (.int ks), .val (.int ps), .val (.int k), .val (.int pz), .val (.ref d), .unset, .unset, .unset, .unset, .unset] [(.int pz), (.int (14 : Int32)), (.long cc), (.long a), (.int (14 : Int32)), (.ref d)])) _
  refine own_by (fun zt zk => XS.iload X29.here hx rfl (hb hby at_246) rfl zk) ?_
  show own_Go p.tables e below (T29.setTop (mkF m 248 #[.val (.long a), .second, .val (.long cc), .second, .val (.int ks), .val (.int ps), .val (.int k), .val (.int pz), .val (.ref d), .unset, .unset, .unset, .unset, .unset] [(.int k), (.int pz), (.int (14 : Int32)), (.long cc), (.long a), (.int (14 : Int32)), (.ref d)])) _
  obtain ⟨_, _, ⟨T30, L30, k30, n30⟩, -, X30, ⟨Lc30, hQ30, l30, y30, z30⟩, st30⟩ := Jvm.LawKit.callS X29 hx (y := (⟨"com/example/aprox/aprox/ByteReaderReadVLongPinLaw", "adj", "(JJIII)B"⟩ : MethodName)) hown (mvT hZ (hw _ (List.mem_of_getElem? (i := 2) rfl))) (mvT hZ (hw _ (List.mem_of_getElem? (i := 3) rfl))) (mvT hZ (hw _ (List.mem_of_getElem? (i := 4) rfl))) (mvT hZ (hw _ (List.mem_of_getElem? (i := 5) rfl))) (by decide) (backOf (W := 2) (rm_adj l Z a0 hw [] a cc (14 : Int32) pz k  hea29 n0 (Nat.le_trans Z0 K29.1) ) hZ (hw _ (List.mem_of_getElem? (i := 5) rfl)) (hw _ (List.mem_of_getElem? (i := 4) rfl)) (by decide) (by decide)) (g := (mkF m 248 #[.val (.long a), .second, .val (.long cc), .second, .val (.int ks), .val (.int ps), .val (.int k), .val (.int pz), .val (.ref d), .unset, .unset, .unset, .unset, .unset] [(.int k), (.int pz), (.int (14 : Int32)), (.long cc), (.long a), (.int (14 : Int32)), (.ref d)])) rfl (by rw [hml]; rfl) (argsL := [(.long a), (.long cc), (.int (14 : Int32)), (.int pz), (.int k)]) (rest := [(.int (14 : Int32)), (.ref d)]) (lenOf pd_135 rfl) rfl (by show 2 * 0 + _ ≤ _; exact Nat.le_of_eq rfl) (hb hby at_248) (fun _ _ => ⟨rfl, e29, (by decide : 1 + 0 ≤ _), (by decide : 16 + 0 ≤ _)⟩)
  dsimp only [Pt.U, Pt.locs, Pt.cells, Pt.slots] at X30 l30 y30 z30 st30 hQ30
  replace l30 := l30.symm
  replace y30 := y30.symm
  replace z30 := z30.symm
  subst l30 y30 z30
  obtain ⟨r14, rfl, N30q, eh30, hr14⟩ := hQ30
  have N30 := Fr.app N29 N30q
  refine own_by (st30) ?_
  show own_Go p.tables e below (T30.setTop (mkF m 251 #[.val (.long a), .second, .val (.long cc), .second, .val (.int ks), .val (.int ps), .val (.int k), .val (.int pz), .val (.ref d), .unset, .unset, .unset, .unset, .unset] [(.int r14), (.int (14 : Int32)), (.ref d)])) _
  obtain ⟨T31, hea31, X31, e31, W31, V31, st31⟩ := own_stB X30 hx hZ eh30 V29 (j := (14 : Int32)) (k := 14) (by decide) rfl (by decide) (g := (mkF m 251 #[.val (.long a), .second, .val (.long cc), .second, .val (.int ks), .val (.int ps), .val (.int k), .val (.int pz), .val (.ref d), .unset, .unset, .unset, .unset, .unset] [(.int r14), (.int (14 : Int32)), (.ref d)])) rfl rfl (hb hby at_251)
  have N31 := Fr.snoc X31 N30 (Nat.le_trans Z0 sz_d)
  have K31 : Keep h0 hea31 [] := K29.wr W31 (Or.inr sz_d)
  refine own_by (st31) ?_
  show own_Go p.tables e below (T31.setTop (mkF m 252 #[.val (.long a), .second, .val (.long cc), .second, .val (.int ks), .val (.int ps), .val (.int k), .val (.int pz), .val (.ref d), .unset, .unset, .unset, .unset, .unset] [])) _
  refine own_by (fun zt zk => XS.aload X31.here hx rfl (hb hby at_252) rfl rfl zk) ?_
  show own_Go p.tables e below (T31.setTop (mkF m 254 #[.val (.long a), .second, .val (.long cc), .second, .val (.int ks), .val (.int ps), .val (.int k), .val (.int pz), .val (.ref d), .unset, .unset, .unset, .unset, .unset] [(.ref d)])) _
  refine own_by (fun zt zk => XS.bipush X31.here hx rfl (hb hby at_254) zk) ?_
  show own_Go p.tables e below (T31.setTop (mkF m 256 #[.val (.long a), .second, .val (.long cc), .second, .val (.int ks), .val (.int ps), .val (.int k), .val (.int pz), .val (.ref d), .unset, .unset, .unset, .unset, .unset] [(.int (15 : Int32)), (.ref d)])) _
  refine own_by (fun zt zk => XS.lloadN X31.here hx rfl (hb hby at_256) rfl zk) ?_
  show own_Go p.tables e below (T31.setTop (mkF m 257 #[.val (.long a), .second, .val (.long cc), .second, .val (.int ks), .val (.int ps), .val (.int k), .val (.int pz), .val (.ref d), .unset, .unset, .unset, .unset, .unset] [(.long a), (.int (15 : Int32)), (.ref d)])) _
  refine own_by (fun zt zk => XS.lloadN X31.here hx rfl (hb hby at_257) rfl zk) ?_
  show own_Go p.tables e below (T31.setTop (mkF m 258 #[.val (.long a), .second, .val (.long cc), .second, .val (.int ks), .val (.int ps), .val (.int k), .val (.int pz), .val (.ref d), .unset, .unset, .unset, .unset, .unset] [(.long cc), (.long a), (.int (15 : Int32)), (.ref d)])) _
  refine own_by (fun zt zk => XS.bipush X31.here hx rfl (hb hby at_258) zk) ?_
  show own_Go p.tables e below (T31.setTop (mkF m 260 #[.val (.long a), .second, .val (.long cc), .second, .val (.int ks), .val (.int ps), .val (.int k), .val (.int pz), .val (.ref d), .unset, .unset, .unset, .unset, .unset] [(.int (15 : Int32)), (.long cc), (.long a), (.int (15 : Int32)), (.ref d)])) _
  refine own_by (fun zt zk => XS.iload X31.here hx rfl (hb hby at_260) rfl zk) ?_
  show own_Go p.tables e below (T31.setTop (mkF m 262 #[.val (.long a), .second, .val (.long cc), .second, .val (.int ks), .val (.int ps), .val (.int k), .val (.int pz), .val (.ref d), .unset, .unset, .unset, .unset, .unset] [(.int pz), (.int (15 : Int32)), (.long cc), (.long a), (.int (15 : Int32)), (.ref d)])) _
  refine own_by (fun zt zk => XS.iload X31.here hx rfl (hb hby at_262) rfl zk) ?_
  show own_Go p.tables e below (T31.setTop (mkF m 264 #[.val (.long a), .second, .val (.long cc), .second, .val (.int ks), .val (.int ps), .val (.int k), .val (.int pz), .val (.ref d), .unset, .unset, .unset, .unset, .unset] [(.int k), (.int pz), (.int (15 : Int32)), (.long cc), (.long a), (.int (15 : Int32)), (.ref d)])) _
  obtain ⟨_, _, ⟨T32, L32, k32, n32⟩, -, X32, ⟨Lc32, hQ32, l32, y32, z32⟩, st32⟩ := Jvm.LawKit.callS X31 hx (y := (⟨"com/example/aprox/aprox/ByteReaderReadVLongPinLaw", "adj", "(JJIII)B"⟩ : MethodName)) hown (mvT hZ (hw _ (List.mem_of_getElem? (i := 2) rfl))) (mvT hZ (hw _ (List.mem_of_getElem? (i := 3) rfl))) (mvT hZ (hw _ (List.mem_of_getElem? (i := 4) rfl))) (mvT hZ (hw _ (List.mem_of_getElem? (i := 5) rfl))) (by decide) (backOf (W := 2) (rm_adj l Z a0 hw [] a cc (15 : Int32) pz k  hea31 n0 (Nat.le_trans Z0 K31.1) ) hZ (hw _ (List.mem_of_getElem? (i := 5) rfl)) (hw _ (List.mem_of_getElem? (i := 4) rfl)) (by decide) (by decide)) (g := (mkF m 264 #[.val (.long a), .second, .val (.long cc), .second, .val (.int ks), .val (.int ps), .val (.int k), .val (.int pz), .val (.ref d), .unset, .unset, .unset, .unset, .unset] [(.int k), (.int pz), (.int (15 : Int32)), (.long cc), (.long a), (.int (15 : Int32)), (.ref d)])) rfl (by rw [hml]; rfl) (argsL := [(.long a), (.long cc), (.int (15 : Int32)), (.int pz), (.int k)]) (rest := [(.int (15 : Int32)), (.ref d)]) (lenOf pd_135 rfl) rfl (by show 2 * 0 + _ ≤ _; exact Nat.le_of_eq rfl) (hb hby at_264) (fun _ _ => ⟨rfl, e31, (by decide : 1 + 0 ≤ _), (by decide : 16 + 0 ≤ _)⟩)
  dsimp only [Pt.U, Pt.locs, Pt.cells, Pt.slots] at X32 l32 y32 z32 st32 hQ32
  replace l32 := l32.symm
  replace y32 := y32.symm
  replace z32 := z32.symm
  subst l32 y32 z32
  obtain ⟨r15, rfl, N32q, eh32, hr15⟩ := hQ32
  have N32 := Fr.app N31 N32q
  refine own_by (st32) ?_
  show own_Go p.tables e below (T32.setTop (mkF m 267 #[.val (.long a), .second, .val (.long cc), .second, .val (.int ks), .val (.int ps), .val (.int k), .val (.int pz), .val (.ref d), .unset, .unset, .unset, .unset, .unset] [(.int r15), (.int (15 : Int32)), (.ref d)])) _
  obtain ⟨T33, hea33, X33, e33, W33, V33, st33⟩ := own_stB X32 hx hZ eh32 V31 (j := (15 : Int32)) (k := 15) (by decide) rfl (by decide) (g := (mkF m 267 #[.val (.long a), .second, .val (.long cc), .second, .val (.int ks), .val (.int ps), .val (.int k), .val (.int pz), .val (.ref d), .unset, .unset, .unset, .unset, .unset] [(.int r15), (.int (15 : Int32)), (.ref d)])) rfl rfl (hb hby at_267)
  have N33 := Fr.snoc X33 N32 (Nat.le_trans Z0 sz_d)
  have K33 : Keep h0 hea33 [] := K31.wr W33 (Or.inr sz_d)
  refine own_by (st33) ?_
  show own_Go p.tables e below (T33.setTop (mkF m 268 #[.val (.long a), .second, .val (.long cc), .second, .val (.int ks), .val (.int ps), .val (.int k), .val (.int pz), .val (.ref d), .unset, .unset, .unset, .unset, .unset] [])) _
  obtain ⟨ff, hff⟩ : ∃ q, q = (own_upd (own_upd (own_upd (own_upd (own_upd (own_upd (own_upd (own_upd (own_upd (own_upd (own_upd (own_upd (own_upd (own_upd (own_upd (own_upd (fun _ => (0 : Int32)) 0 (r0.toInt8.toInt32)) 1 (r1.toInt8.toInt32)) 2 (r2.toInt8.toInt32)) 3 (r3.toInt8.toInt32)) 4 (r4.toInt8.toInt32)) 5 (r5.toInt8.toInt32)) 6 (r6.toInt8.toInt32)) 7 (r7.toInt8.toInt32)) 8 (r8.toInt8.toInt32)) 9 (r9.toInt8.toInt32)) 10 (r10.toInt8.toInt32)) 11 (r11.toInt8.toInt32)) 12 (r12.toInt8.toInt32)) 13 (r13.toInt8.toInt32)) 14 (r14.toInt8.toInt32)) 15 (r15.toInt8.toInt32)) := ⟨_, rfl⟩
  have AF : own_AI Z hea33 d .byte 16 ff := by rw [hff]; exact V33
  have hall : ∀ i, i < 16 → own_Ad (ff i) (Int32.ofNat i) pz k := own_16 (by rw [show ff 0 = r0.toInt8.toInt32 by rw [hff, own_upd_ne (k := 15) (i := 0) _ _ (by decide), own_upd_ne (k := 14) (i := 0) _ _ (by decide), own_upd_ne (k := 13) (i := 0) _ _ (by decide), own_upd_ne (k := 12) (i := 0) _ _ (by decide), own_upd_ne (k := 11) (i := 0) _ _ (by decide), own_upd_ne (k := 10) (i := 0) _ _ (by decide), own_upd_ne (k := 9) (i := 0) _ _ (by decide), own_upd_ne (k := 8) (i := 0) _ _ (by decide), own_upd_ne (k := 7) (i := 0) _ _ (by decide), own_upd_ne (k := 6) (i := 0) _ _ (by decide), own_upd_ne (k := 5) (i := 0) _ _ (by decide), own_upd_ne (k := 4) (i := 0) _ _ (by decide), own_upd_ne (k := 3) (i := 0) _ _ (by decide), own_upd_ne (k := 2) (i := 0) _ _ (by decide), own_upd_ne (k := 1) (i := 0) _ _ (by decide), own_upd_at], hr0.1]; exact hr0) (by rw [show ff 1 = r1.toInt8.toInt32 by rw [hff, own_upd_ne (k := 15) (i := 1) _ _ (by decide), own_upd_ne (k := 14) (i := 1) _ _ (by decide), own_upd_ne (k := 13) (i := 1) _ _ (by decide), own_upd_ne (k := 12) (i := 1) _ _ (by decide), own_upd_ne (k := 11) (i := 1) _ _ (by decide), own_upd_ne (k := 10) (i := 1) _ _ (by decide), own_upd_ne (k := 9) (i := 1) _ _ (by decide), own_upd_ne (k := 8) (i := 1) _ _ (by decide), own_upd_ne (k := 7) (i := 1) _ _ (by decide), own_upd_ne (k := 6) (i := 1) _ _ (by decide), own_upd_ne (k := 5) (i := 1) _ _ (by decide), own_upd_ne (k := 4) (i := 1) _ _ (by decide), own_upd_ne (k := 3) (i := 1) _ _ (by decide), own_upd_ne (k := 2) (i := 1) _ _ (by decide), own_upd_at], hr1.1]; exact hr1) (by rw [show ff 2 = r2.toInt8.toInt32 by rw [hff, own_upd_ne (k := 15) (i := 2) _ _ (by decide), own_upd_ne (k := 14) (i := 2) _ _ (by decide), own_upd_ne (k := 13) (i := 2) _ _ (by decide), own_upd_ne (k := 12) (i := 2) _ _ (by decide), own_upd_ne (k := 11) (i := 2) _ _ (by decide), own_upd_ne (k := 10) (i := 2) _ _ (by decide), own_upd_ne (k := 9) (i := 2) _ _ (by decide), own_upd_ne (k := 8) (i := 2) _ _ (by decide), own_upd_ne (k := 7) (i := 2) _ _ (by decide), own_upd_ne (k := 6) (i := 2) _ _ (by decide), own_upd_ne (k := 5) (i := 2) _ _ (by decide), own_upd_ne (k := 4) (i := 2) _ _ (by decide), own_upd_ne (k := 3) (i := 2) _ _ (by decide), own_upd_at], hr2.1]; exact hr2) (by rw [show ff 3 = r3.toInt8.toInt32 by rw [hff, own_upd_ne (k := 15) (i := 3) _ _ (by decide), own_upd_ne (k := 14) (i := 3) _ _ (by decide), own_upd_ne (k := 13) (i := 3) _ _ (by decide), own_upd_ne (k := 12) (i := 3) _ _ (by decide), own_upd_ne (k := 11) (i := 3) _ _ (by decide), own_upd_ne (k := 10) (i := 3) _ _ (by decide), own_upd_ne (k := 9) (i := 3) _ _ (by decide), own_upd_ne (k := 8) (i := 3) _ _ (by decide), own_upd_ne (k := 7) (i := 3) _ _ (by decide), own_upd_ne (k := 6) (i := 3) _ _ (by decide), own_upd_ne (k := 5) (i := 3) _ _ (by decide), own_upd_ne (k := 4) (i := 3) _ _ (by decide), own_upd_at], hr3.1]; exact hr3) (by rw [show ff 4 = r4.toInt8.toInt32 by rw [hff, own_upd_ne (k := 15) (i := 4) _ _ (by decide), own_upd_ne (k := 14) (i := 4) _ _ (by decide), own_upd_ne (k := 13) (i := 4) _ _ (by decide), own_upd_ne (k := 12) (i := 4) _ _ (by decide), own_upd_ne (k := 11) (i := 4) _ _ (by decide), own_upd_ne (k := 10) (i := 4) _ _ (by decide), own_upd_ne (k := 9) (i := 4) _ _ (by decide), own_upd_ne (k := 8) (i := 4) _ _ (by decide), own_upd_ne (k := 7) (i := 4) _ _ (by decide), own_upd_ne (k := 6) (i := 4) _ _ (by decide), own_upd_ne (k := 5) (i := 4) _ _ (by decide), own_upd_at], hr4.1]; exact hr4) (by rw [show ff 5 = r5.toInt8.toInt32 by rw [hff, own_upd_ne (k := 15) (i := 5) _ _ (by decide), own_upd_ne (k := 14) (i := 5) _ _ (by decide), own_upd_ne (k := 13) (i := 5) _ _ (by decide), own_upd_ne (k := 12) (i := 5) _ _ (by decide), own_upd_ne (k := 11) (i := 5) _ _ (by decide), own_upd_ne (k := 10) (i := 5) _ _ (by decide), own_upd_ne (k := 9) (i := 5) _ _ (by decide), own_upd_ne (k := 8) (i := 5) _ _ (by decide), own_upd_ne (k := 7) (i := 5) _ _ (by decide), own_upd_ne (k := 6) (i := 5) _ _ (by decide), own_upd_at], hr5.1]; exact hr5) (by rw [show ff 6 = r6.toInt8.toInt32 by rw [hff, own_upd_ne (k := 15) (i := 6) _ _ (by decide), own_upd_ne (k := 14) (i := 6) _ _ (by decide), own_upd_ne (k := 13) (i := 6) _ _ (by decide), own_upd_ne (k := 12) (i := 6) _ _ (by decide), own_upd_ne (k := 11) (i := 6) _ _ (by decide), own_upd_ne (k := 10) (i := 6) _ _ (by decide), own_upd_ne (k := 9) (i := 6) _ _ (by decide), own_upd_ne (k := 8) (i := 6) _ _ (by decide), own_upd_ne (k := 7) (i := 6) _ _ (by decide), own_upd_at], hr6.1]; exact hr6) (by rw [show ff 7 = r7.toInt8.toInt32 by rw [hff, own_upd_ne (k := 15) (i := 7) _ _ (by decide), own_upd_ne (k := 14) (i := 7) _ _ (by decide), own_upd_ne (k := 13) (i := 7) _ _ (by decide), own_upd_ne (k := 12) (i := 7) _ _ (by decide), own_upd_ne (k := 11) (i := 7) _ _ (by decide), own_upd_ne (k := 10) (i := 7) _ _ (by decide), own_upd_ne (k := 9) (i := 7) _ _ (by decide), own_upd_ne (k := 8) (i := 7) _ _ (by decide), own_upd_at], hr7.1]; exact hr7) (by rw [show ff 8 = r8.toInt8.toInt32 by rw [hff, own_upd_ne (k := 15) (i := 8) _ _ (by decide), own_upd_ne (k := 14) (i := 8) _ _ (by decide), own_upd_ne (k := 13) (i := 8) _ _ (by decide), own_upd_ne (k := 12) (i := 8) _ _ (by decide), own_upd_ne (k := 11) (i := 8) _ _ (by decide), own_upd_ne (k := 10) (i := 8) _ _ (by decide), own_upd_ne (k := 9) (i := 8) _ _ (by decide), own_upd_at], hr8.1]; exact hr8) (by rw [show ff 9 = r9.toInt8.toInt32 by rw [hff, own_upd_ne (k := 15) (i := 9) _ _ (by decide), own_upd_ne (k := 14) (i := 9) _ _ (by decide), own_upd_ne (k := 13) (i := 9) _ _ (by decide), own_upd_ne (k := 12) (i := 9) _ _ (by decide), own_upd_ne (k := 11) (i := 9) _ _ (by decide), own_upd_ne (k := 10) (i := 9) _ _ (by decide), own_upd_at], hr9.1]; exact hr9) (by rw [show ff 10 = r10.toInt8.toInt32 by rw [hff, own_upd_ne (k := 15) (i := 10) _ _ (by decide), own_upd_ne (k := 14) (i := 10) _ _ (by decide), own_upd_ne (k := 13) (i := 10) _ _ (by decide), own_upd_ne (k := 12) (i := 10) _ _ (by decide), own_upd_ne (k := 11) (i := 10) _ _ (by decide), own_upd_at], hr10.1]; exact hr10) (by rw [show ff 11 = r11.toInt8.toInt32 by rw [hff, own_upd_ne (k := 15) (i := 11) _ _ (by decide), own_upd_ne (k := 14) (i := 11) _ _ (by decide), own_upd_ne (k := 13) (i := 11) _ _ (by decide), own_upd_ne (k := 12) (i := 11) _ _ (by decide), own_upd_at], hr11.1]; exact hr11) (by rw [show ff 12 = r12.toInt8.toInt32 by rw [hff, own_upd_ne (k := 15) (i := 12) _ _ (by decide), own_upd_ne (k := 14) (i := 12) _ _ (by decide), own_upd_ne (k := 13) (i := 12) _ _ (by decide), own_upd_at], hr12.1]; exact hr12) (by rw [show ff 13 = r13.toInt8.toInt32 by rw [hff, own_upd_ne (k := 15) (i := 13) _ _ (by decide), own_upd_ne (k := 14) (i := 13) _ _ (by decide), own_upd_at], hr13.1]; exact hr13) (by rw [show ff 14 = r14.toInt8.toInt32 by rw [hff, own_upd_ne (k := 15) (i := 14) _ _ (by decide), own_upd_at], hr14.1]; exact hr14) (by rw [show ff 15 = r15.toInt8.toInt32 by rw [hff, own_upd_at], hr15.1]; exact hr15)
  refine own_by (fun zt zk => XS.aload X33.here hx rfl (hb hby at_268) rfl rfl zk) ?_
  show own_Go p.tables e below (T33.setTop (mkF m 270 #[.val (.long a), .second, .val (.long cc), .second, .val (.int ks), .val (.int ps), .val (.int k), .val (.int pz), .val (.ref d), .unset, .unset, .unset, .unset, .unset] [(.ref d)])) _
  refine own_by (fun zt zk => XS.iload X33.here hx rfl (hb hby at_270) rfl zk) ?_
  show own_Go p.tables e below (T33.setTop (mkF m 272 #[.val (.long a), .second, .val (.long cc), .second, .val (.int ks), .val (.int ps), .val (.int k), .val (.int pz), .val (.ref d), .unset, .unset, .unset, .unset, .unset] [(.int pz), (.ref d)])) _
  refine own_by (fun zt zk => XS.iconst X33.here hx rfl (hb hby at_272) zk) ?_
  show own_Go p.tables e below (T33.setTop (mkF m 273 #[.val (.long a), .second, .val (.long cc), .second, .val (.int ks), .val (.int ps), .val (.int k), .val (.int pz), .val (.ref d), .unset, .unset, .unset, .unset, .unset] [(.int (0 : Int32)), (.int pz), (.ref d)])) _
  refine own_by (fun zt zk => XS.iload X33.here hx rfl (hb hby at_273) rfl zk) ?_
  show own_Go p.tables e below (T33.setTop (mkF m 275 #[.val (.long a), .second, .val (.long cc), .second, .val (.int ks), .val (.int ps), .val (.int k), .val (.int pz), .val (.ref d), .unset, .unset, .unset, .unset, .unset] [(.int k), (.int (0 : Int32)), (.int pz), (.ref d)])) _
  obtain ⟨_, _, ⟨T34, L34, k34, n34⟩, -, X34, ⟨Lc34, hQ34, l34, y34, z34⟩, st34⟩ := Jvm.LawKit.callS X33 hx (y := (⟨"com/example/aprox/aprox/ByteReaderReadVLongPinLaw", "term", "([BIII)J"⟩ : MethodName)) hown (mvT hZ (hw _ (List.mem_of_getElem? (i := 10) rfl))) (mvT hZ (hw _ (List.mem_of_getElem? (i := 11) rfl))) (mvT hZ (hw _ (List.mem_of_getElem? (i := 4) rfl))) (mvT hZ (hw _ (List.mem_of_getElem? (i := 12) rfl))) (by decide) (backOf (W := 0) (rm_term l Z a0 hw [] d pz (0 : Int32) k PP 0 ff hea33 n0 (Nat.le_trans Z0 K33.1) AF hp2 rfl (by omega)) hZ (hw _ (List.mem_of_getElem? (i := 12) rfl)) (hw _ (List.mem_of_getElem? (i := 4) rfl)) (by decide) (by decide)) (g := (mkF m 275 #[.val (.long a), .second, .val (.long cc), .second, .val (.int ks), .val (.int ps), .val (.int k), .val (.int pz), .val (.ref d), .unset, .unset, .unset, .unset, .unset] [(.int k), (.int (0 : Int32)), (.int pz), (.ref d)])) rfl (by rw [hml]; rfl) (argsL := [(.ref d), (.int pz), (.int (0 : Int32)), (.int k)]) (rest := []) (lenOf pd_136 rfl) rfl (by show 2 * 0 + _ ≤ _; exact Nat.le_of_eq rfl) (hb hby at_275) (fun _ _ => ⟨rfl, e33, (by decide : 1 + 0 ≤ _), (by decide : 16 + 0 ≤ _)⟩)
  dsimp only [Pt.U, Pt.locs, Pt.cells, Pt.slots] at X34 l34 y34 z34 st34 hQ34
  replace l34 := l34.symm
  replace y34 := y34.symm
  replace z34 := z34.symm
  subst l34 y34 z34
  obtain ⟨t0, rfl, N34q, eh34, ht0⟩ := hQ34
  have N34 := Fr.app N33 N34q
  refine own_by (st34) ?_
  show own_Go p.tables e below (T34.setTop (mkF m 278 #[.val (.long a), .second, .val (.long cc), .second, .val (.int ks), .val (.int ps), .val (.int k), .val (.int pz), .val (.ref d), .unset, .unset, .unset, .unset, .unset] [(.long t0)])) _
  refine own_by (fun zt zk => XS.aload X34.here hx rfl (hb hby at_278) rfl rfl zk) ?_
  show own_Go p.tables e below (T34.setTop (mkF m 280 #[.val (.long a), .second, .val (.long cc), .second, .val (.int ks), .val (.int ps), .val (.int k), .val (.int pz), .val (.ref d), .unset, .unset, .unset, .unset, .unset] [(.ref d), (.long t0)])) _
  refine own_by (fun zt zk => XS.iload X34.here hx rfl (hb hby at_280) rfl zk) ?_
  show own_Go p.tables e below (T34.setTop (mkF m 282 #[.val (.long a), .second, .val (.long cc), .second, .val (.int ks), .val (.int ps), .val (.int k), .val (.int pz), .val (.ref d), .unset, .unset, .unset, .unset, .unset] [(.int pz), (.ref d), (.long t0)])) _
  refine own_by (fun zt zk => XS.iconst X34.here hx rfl (hb hby at_282) zk) ?_
  show own_Go p.tables e below (T34.setTop (mkF m 283 #[.val (.long a), .second, .val (.long cc), .second, .val (.int ks), .val (.int ps), .val (.int k), .val (.int pz), .val (.ref d), .unset, .unset, .unset, .unset, .unset] [(.int (1 : Int32)), (.int pz), (.ref d), (.long t0)])) _
  refine own_by (fun zt zk => XS.iload X34.here hx rfl (hb hby at_283) rfl zk) ?_
  show own_Go p.tables e below (T34.setTop (mkF m 285 #[.val (.long a), .second, .val (.long cc), .second, .val (.int ks), .val (.int ps), .val (.int k), .val (.int pz), .val (.ref d), .unset, .unset, .unset, .unset, .unset] [(.int k), (.int (1 : Int32)), (.int pz), (.ref d), (.long t0)])) _
  obtain ⟨_, _, ⟨T35, L35, k35, n35⟩, -, X35, ⟨Lc35, hQ35, l35, y35, z35⟩, st35⟩ := Jvm.LawKit.callS X34 hx (y := (⟨"com/example/aprox/aprox/ByteReaderReadVLongPinLaw", "term", "([BIII)J"⟩ : MethodName)) hown (mvT hZ (hw _ (List.mem_of_getElem? (i := 10) rfl))) (mvT hZ (hw _ (List.mem_of_getElem? (i := 11) rfl))) (mvT hZ (hw _ (List.mem_of_getElem? (i := 4) rfl))) (mvT hZ (hw _ (List.mem_of_getElem? (i := 12) rfl))) (by decide) (backOf (W := 2) (rm_term l Z a0 hw [] d pz (1 : Int32) k PP 1 ff hea33 n0 (Nat.le_trans Z0 K33.1) AF hp2 rfl (by omega)) hZ (hw _ (List.mem_of_getElem? (i := 12) rfl)) (hw _ (List.mem_of_getElem? (i := 4) rfl)) (by decide) (by decide)) (g := (mkF m 285 #[.val (.long a), .second, .val (.long cc), .second, .val (.int ks), .val (.int ps), .val (.int k), .val (.int pz), .val (.ref d), .unset, .unset, .unset, .unset, .unset] [(.int k), (.int (1 : Int32)), (.int pz), (.ref d), (.long t0)])) rfl (by rw [hml]; rfl) (argsL := [(.ref d), (.int pz), (.int (1 : Int32)), (.int k)]) (rest := [(.long t0)]) (lenOf pd_136 rfl) rfl (by show 2 * 0 + _ ≤ _; exact Nat.le_of_eq rfl) (hb hby at_285) (fun _ _ => ⟨rfl, eh34, (by decide : 1 + 0 ≤ _), (by decide : 16 + 0 ≤ _)⟩)
  dsimp only [Pt.U, Pt.locs, Pt.cells, Pt.slots] at X35 l35 y35 z35 st35 hQ35
  replace l35 := l35.symm
  replace y35 := y35.symm
  replace z35 := z35.symm
  subst l35 y35 z35
  obtain ⟨t1, rfl, N35q, eh35, ht1⟩ := hQ35
  have N35 := Fr.app N34 N35q
  refine own_by (st35) ?_
  show own_Go p.tables e below (T35.setTop (mkF m 288 #[.val (.long a), .second, .val (.long cc), .second, .val (.int ks), .val (.int ps), .val (.int k), .val (.int pz), .val (.ref d), .unset, .unset, .unset, .unset, .unset] [(.long t1), (.long t0)])) _
  refine own_by (fun zt zk => XS.lor X35.here hx rfl (hb hby at_288) rfl zk) ?_
  show own_Go p.tables e below (T35.setTop (mkF m 289 #[.val (.long a), .second, .val (.long cc), .second, .val (.int ks), .val (.int ps), .val (.int k), .val (.int pz), .val (.ref d), .unset, .unset, .unset, .unset, .unset] [(.long (t0 ||| t1))])) _
  refine own_by (fun zt zk => XS.aload X35.here hx rfl (hb hby at_289) rfl rfl zk) ?_
  show own_Go p.tables e below (T35.setTop (mkF m 291 #[.val (.long a), .second, .val (.long cc), .second, .val (.int ks), .val (.int ps), .val (.int k), .val (.int pz), .val (.ref d), .unset, .unset, .unset, .unset, .unset] [(.ref d), (.long (t0 ||| t1))])) _
  refine own_by (fun zt zk => XS.iload X35.here hx rfl (hb hby at_291) rfl zk) ?_
  show own_Go p.tables e below (T35.setTop (mkF m 293 #[.val (.long a), .second, .val (.long cc), .second, .val (.int ks), .val (.int ps), .val (.int k), .val (.int pz), .val (.ref d), .unset, .unset, .unset, .unset, .unset] [(.int pz), (.ref d), (.long (t0 ||| t1))])) _
  refine own_by (fun zt zk => XS.iconst X35.here hx rfl (hb hby at_293) zk) ?_
  show own_Go p.tables e below (T35.setTop (mkF m 294 #[.val (.long a), .second, .val (.long cc), .second, .val (.int ks), .val (.int ps), .val (.int k), .val (.int pz), .val (.ref d), .unset, .unset, .unset, .unset, .unset] [(.int (2 : Int32)), (.int pz), (.ref d), (.long (t0 ||| t1))])) _
  refine own_by (fun zt zk => XS.iload X35.here hx rfl (hb hby at_294) rfl zk) ?_
  show own_Go p.tables e below (T35.setTop (mkF m 296 #[.val (.long a), .second, .val (.long cc), .second, .val (.int ks), .val (.int ps), .val (.int k), .val (.int pz), .val (.ref d), .unset, .unset, .unset, .unset, .unset] [(.int k), (.int (2 : Int32)), (.int pz), (.ref d), (.long (t0 ||| t1))])) _
  obtain ⟨_, _, ⟨T36, L36, k36, n36⟩, -, X36, ⟨Lc36, hQ36, l36, y36, z36⟩, st36⟩ := Jvm.LawKit.callS X35 hx (y := (⟨"com/example/aprox/aprox/ByteReaderReadVLongPinLaw", "term", "([BIII)J"⟩ : MethodName)) hown (mvT hZ (hw _ (List.mem_of_getElem? (i := 10) rfl))) (mvT hZ (hw _ (List.mem_of_getElem? (i := 11) rfl))) (mvT hZ (hw _ (List.mem_of_getElem? (i := 4) rfl))) (mvT hZ (hw _ (List.mem_of_getElem? (i := 12) rfl))) (by decide) (backOf (W := 2) (rm_term l Z a0 hw [] d pz (2 : Int32) k PP 2 ff hea33 n0 (Nat.le_trans Z0 K33.1) AF hp2 rfl (by omega)) hZ (hw _ (List.mem_of_getElem? (i := 12) rfl)) (hw _ (List.mem_of_getElem? (i := 4) rfl)) (by decide) (by decide)) (g := (mkF m 296 #[.val (.long a), .second, .val (.long cc), .second, .val (.int ks), .val (.int ps), .val (.int k), .val (.int pz), .val (.ref d), .unset, .unset, .unset, .unset, .unset] [(.int k), (.int (2 : Int32)), (.int pz), (.ref d), (.long (t0 ||| t1))])) rfl (by rw [hml]; rfl) (argsL := [(.ref d), (.int pz), (.int (2 : Int32)), (.int k)]) (rest := [(.long (t0 ||| t1))]) (lenOf pd_136 rfl) rfl (by show 2 * 0 + _ ≤ _; exact Nat.le_of_eq rfl) (hb hby at_296) (fun _ _ => ⟨rfl, eh35, (by decide : 1 + 0 ≤ _), (by decide : 16 + 0 ≤ _)⟩)
  dsimp only [Pt.U, Pt.locs, Pt.cells, Pt.slots] at X36 l36 y36 z36 st36 hQ36
  replace l36 := l36.symm
  replace y36 := y36.symm
  replace z36 := z36.symm
  subst l36 y36 z36
  obtain ⟨t2, rfl, N36q, eh36, ht2⟩ := hQ36
  have N36 := Fr.app N35 N36q
  refine own_by (st36) ?_
  show own_Go p.tables e below (T36.setTop (mkF m 299 #[.val (.long a), .second, .val (.long cc), .second, .val (.int ks), .val (.int ps), .val (.int k), .val (.int pz), .val (.ref d), .unset, .unset, .unset, .unset, .unset] [(.long t2), (.long (t0 ||| t1))])) _
  refine own_by (fun zt zk => XS.lor X36.here hx rfl (hb hby at_299) rfl zk) ?_
  show own_Go p.tables e below (T36.setTop (mkF m 300 #[.val (.long a), .second, .val (.long cc), .second, .val (.int ks), .val (.int ps), .val (.int k), .val (.int pz), .val (.ref d), .unset, .unset, .unset, .unset, .unset] [(.long ((t0 ||| t1) ||| t2))])) _
  refine own_by (fun zt zk => XS.aload X36.here hx rfl (hb hby at_300) rfl rfl zk) ?_
  show own_Go p.tables e below (T36.setTop (mkF m 302 #[.val (.long a), .second, .val (.long cc), .second, .val (.int ks), .val (.int ps), .val (.int k), .val (.int pz), .val (.ref d), .unset, .unset, .unset, .unset, .unset] [(.ref d), (.long ((t0 ||| t1) ||| t2))])) _
  refine own_by (fun zt zk => XS.iload X36.here hx rfl (hb hby at_302) rfl zk) ?_
  show own_Go p.tables e below (T36.setTop (mkF m 304 #[.val (.long a), .second, .val (.long cc), .second, .val (.int ks), .val (.int ps), .val (.int k), .val (.int pz), .val (.ref d), .unset, .unset, .unset, .unset, .unset] [(.int pz), (.ref d), (.long ((t0 ||| t1) ||| t2))])) _
  refine own_by (fun zt zk => XS.iconst X36.here hx rfl (hb hby at_304) zk) ?_
  show own_Go p.tables e below (T36.setTop (mkF m 305 #[.val (.long a), .second, .val (.long cc), .second, .val (.int ks), .val (.int ps), .val (.int k), .val (.int pz), .val (.ref d), .unset, .unset, .unset, .unset, .unset] [(.int (3 : Int32)), (.int pz), (.ref d), (.long ((t0 ||| t1) ||| t2))])) _
  refine own_by (fun zt zk => XS.iload X36.here hx rfl (hb hby at_305) rfl zk) ?_
  show own_Go p.tables e below (T36.setTop (mkF m 307 #[.val (.long a), .second, .val (.long cc), .second, .val (.int ks), .val (.int ps), .val (.int k), .val (.int pz), .val (.ref d), .unset, .unset, .unset, .unset, .unset] [(.int k), (.int (3 : Int32)), (.int pz), (.ref d), (.long ((t0 ||| t1) ||| t2))])) _
  obtain ⟨_, _, ⟨T37, L37, k37, n37⟩, -, X37, ⟨Lc37, hQ37, l37, y37, z37⟩, st37⟩ := Jvm.LawKit.callS X36 hx (y := (⟨"com/example/aprox/aprox/ByteReaderReadVLongPinLaw", "term", "([BIII)J"⟩ : MethodName)) hown (mvT hZ (hw _ (List.mem_of_getElem? (i := 10) rfl))) (mvT hZ (hw _ (List.mem_of_getElem? (i := 11) rfl))) (mvT hZ (hw _ (List.mem_of_getElem? (i := 4) rfl))) (mvT hZ (hw _ (List.mem_of_getElem? (i := 12) rfl))) (by decide) (backOf (W := 2) (rm_term l Z a0 hw [] d pz (3 : Int32) k PP 3 ff hea33 n0 (Nat.le_trans Z0 K33.1) AF hp2 rfl (by omega)) hZ (hw _ (List.mem_of_getElem? (i := 12) rfl)) (hw _ (List.mem_of_getElem? (i := 4) rfl)) (by decide) (by decide)) (g := (mkF m 307 #[.val (.long a), .second, .val (.long cc), .second, .val (.int ks), .val (.int ps), .val (.int k), .val (.int pz), .val (.ref d), .unset, .unset, .unset, .unset, .unset] [(.int k), (.int (3 : Int32)), (.int pz), (.ref d), (.long ((t0 ||| t1) ||| t2))])) rfl (by rw [hml]; rfl) (argsL := [(.ref d), (.int pz), (.int (3 : Int32)), (.int k)]) (rest := [(.long ((t0 ||| t1) ||| t2))]) (lenOf pd_136 rfl) rfl (by show 2 * 0 + _ ≤ _; exact Nat.le_of_eq rfl) (hb hby at_307) (fun _ _ => ⟨rfl, eh36, (by decide : 1 + 0 ≤ _), (by decide : 16 + 0 ≤ _)⟩)
  dsimp only [Pt.U, Pt.locs, Pt.cells, Pt.slots] at X37 l37 y37 z37 st37 hQ37
  replace l37 := l37.symm
  replace y37 := y37.symm
  replace z37 := z37.symm
  subst l37 y37 z37
  obtain ⟨t3, rfl, N37q, eh37, ht3⟩ := hQ37
  have N37 := Fr.app N36 N37q
  refine own_by (st37) ?_
  show own_Go p.tables e below (T37.setTop (mkF m 310 #[.val (.long a), .second, .val (.long cc), .second, .val (.int ks), .val (.int ps), .val (.int k), .val (.int pz), .val (.ref d), .unset, .unset, .unset, .unset, .unset] [(.long t3), (.long ((t0 ||| t1) ||| t2))])) _
  refine own_by (fun zt zk => XS.lor X37.here hx rfl (hb hby at_310) rfl zk) ?_
  show own_Go p.tables e below (T37.setTop (mkF m 311 #[.val (.long a), .second, .val (.long cc), .second, .val (.int ks), .val (.int ps), .val (.int k), .val (.int pz), .val (.ref d), .unset, .unset, .unset, .unset, .unset] [(.long (((t0 ||| t1) ||| t2) ||| t3))])) _
  refine own_by (fun zt zk => XS.aload X37.here hx rfl (hb hby at_311) rfl rfl zk) ?_
  show own_Go p.tables e below (T37.setTop (mkF m 313 #[.val (.long a), .second, .val (.long cc), .second, .val (.int ks), .val (.int ps), .val (.int k), .val (.int pz), .val (.ref d), .unset, .unset, .unset, .unset, .unset] [(.ref d), (.long (((t0 ||| t1) ||| t2) ||| t3))])) _
  refine own_by (fun zt zk => XS.iload X37.here hx rfl (hb hby at_313) rfl zk) ?_
  show own_Go p.tables e below (T37.setTop (mkF m 315 #[.val (.long a), .second, .val (.long cc), .second, .val (.int ks), .val (.int ps), .val (.int k), .val (.int pz), .val (.ref d), .unset, .unset, .unset, .unset, .unset] [(.int pz), (.ref d), (.long (((t0 ||| t1) ||| t2) ||| t3))])) _
  refine own_by (fun zt zk => XS.iconst X37.here hx rfl (hb hby at_315) zk) ?_
  show own_Go p.tables e below (T37.setTop (mkF m 316 #[.val (.long a), .second, .val (.long cc), .second, .val (.int ks), .val (.int ps), .val (.int k), .val (.int pz), .val (.ref d), .unset, .unset, .unset, .unset, .unset] [(.int (4 : Int32)), (.int pz), (.ref d), (.long (((t0 ||| t1) ||| t2) ||| t3))])) _
  refine own_by (fun zt zk => XS.iload X37.here hx rfl (hb hby at_316) rfl zk) ?_
  show own_Go p.tables e below (T37.setTop (mkF m 318 #[.val (.long a), .second, .val (.long cc), .second, .val (.int ks), .val (.int ps), .val (.int k), .val (.int pz), .val (.ref d), .unset, .unset, .unset, .unset, .unset] [(.int k), (.int (4 : Int32)), (.int pz), (.ref d), (.long (((t0 ||| t1) ||| t2) ||| t3))])) _
  obtain ⟨_, _, ⟨T38, L38, k38, n38⟩, -, X38, ⟨Lc38, hQ38, l38, y38, z38⟩, st38⟩ := Jvm.LawKit.callS X37 hx (y := (⟨"com/example/aprox/aprox/ByteReaderReadVLongPinLaw", "term", "([BIII)J"⟩ : MethodName)) hown (mvT hZ (hw _ (List.mem_of_getElem? (i := 10) rfl))) (mvT hZ (hw _ (List.mem_of_getElem? (i := 11) rfl))) (mvT hZ (hw _ (List.mem_of_getElem? (i := 4) rfl))) (mvT hZ (hw _ (List.mem_of_getElem? (i := 12) rfl))) (by decide) (backOf (W := 2) (rm_term l Z a0 hw [] d pz (4 : Int32) k PP 4 ff hea33 n0 (Nat.le_trans Z0 K33.1) AF hp2 rfl (by omega)) hZ (hw _ (List.mem_of_getElem? (i := 12) rfl)) (hw _ (List.mem_of_getElem? (i := 4) rfl)) (by decide) (by decide)) (g := (mkF m 318 #[.val (.long a), .second, .val (.long cc), .second, .val (.int ks), .val (.int ps), .val (.int k), .val (.int pz), .val (.ref d), .unset, .unset, .unset, .unset, .unset] [(.int k), (.int (4 : Int32)), (.int pz), (.ref d), (.long (((t0 ||| t1) ||| t2) ||| t3))])) rfl (by rw [hml]; rfl) (argsL := [(.ref d), (.int pz), (.int (4 : Int32)), (.int k)]) (rest := [(.long (((t0 ||| t1) ||| t2) ||| t3))]) (lenOf pd_136 rfl) rfl (by show 2 * 0 + _ ≤ _; exact Nat.le_of_eq rfl) (hb hby at_318) (fun _ _ => ⟨rfl, eh37, (by decide : 1 + 0 ≤ _), (by decide : 16 + 0 ≤ _)⟩)
  dsimp only [Pt.U, Pt.locs, Pt.cells, Pt.slots] at X38 l38 y38 z38 st38 hQ38
  replace l38 := l38.symm
  replace y38 := y38.symm
  replace z38 := z38.symm
  subst l38 y38 z38
  obtain ⟨t4, rfl, N38q, eh38, ht4⟩ := hQ38
  have N38 := Fr.app N37 N38q
  refine own_by (st38) ?_
  show own_Go p.tables e below (T38.setTop (mkF m 321 #[.val (.long a), .second, .val (.long cc), .second, .val (.int ks), .val (.int ps), .val (.int k), .val (.int pz), .val (.ref d), .unset, .unset, .unset, .unset, .unset] [(.long t4), (.long (((t0 ||| t1) ||| t2) ||| t3))])) _
  refine own_by (fun zt zk => XS.lor X38.here hx rfl (hb hby at_321) rfl zk) ?_
  show own_Go p.tables e below (T38.setTop (mkF m 322 #[.val (.long a), .second, .val (.long cc), .second, .val (.int ks), .val (.int ps), .val (.int k), .val (.int pz), .val (.ref d), .unset, .unset, .unset, .unset, .unset] [(.long ((((t0 ||| t1) ||| t2) ||| t3) ||| t4))])) _
  refine own_by (fun zt zk => XS.aload X38.here hx rfl (hb hby at_322) rfl rfl zk) ?_
  show own_Go p.tables e below (T38.setTop (mkF m 324 #[.val (.long a), .second, .val (.long cc), .second, .val (.int ks), .val (.int ps), .val (.int k), .val (.int pz), .val (.ref d), .unset, .unset, .unset, .unset, .unset] [(.ref d), (.long ((((t0 ||| t1) ||| t2) ||| t3) ||| t4))])) _
  refine own_by (fun zt zk => XS.iload X38.here hx rfl (hb hby at_324) rfl zk) ?_
  show own_Go p.tables e below (T38.setTop (mkF m 326 #[.val (.long a), .second, .val (.long cc), .second, .val (.int ks), .val (.int ps), .val (.int k), .val (.int pz), .val (.ref d), .unset, .unset, .unset, .unset, .unset] [(.int pz), (.ref d), (.long ((((t0 ||| t1) ||| t2) ||| t3) ||| t4))])) _
  refine own_by (fun zt zk => XS.iconst X38.here hx rfl (hb hby at_326) zk) ?_
  show own_Go p.tables e below (T38.setTop (mkF m 327 #[.val (.long a), .second, .val (.long cc), .second, .val (.int ks), .val (.int ps), .val (.int k), .val (.int pz), .val (.ref d), .unset, .unset, .unset, .unset, .unset] [(.int (5 : Int32)), (.int pz), (.ref d), (.long ((((t0 ||| t1) ||| t2) ||| t3) ||| t4))])) _
  refine own_by (fun zt zk => XS.iload X38.here hx rfl (hb hby at_327) rfl zk) ?_
  show own_Go p.tables e below (T38.setTop (mkF m 329 #[.val (.long a), .second, .val (.long cc), .second, .val (.int ks), .val (.int ps), .val (.int k), .val (.int pz), .val (.ref d), .unset, .unset, .unset, .unset, .unset] [(.int k), (.int (5 : Int32)), (.int pz), (.ref d), (.long ((((t0 ||| t1) ||| t2) ||| t3) ||| t4))])) _
  obtain ⟨_, _, ⟨T39, L39, k39, n39⟩, -, X39, ⟨Lc39, hQ39, l39, y39, z39⟩, st39⟩ := Jvm.LawKit.callS X38 hx (y := (⟨"com/example/aprox/aprox/ByteReaderReadVLongPinLaw", "term", "([BIII)J"⟩ : MethodName)) hown (mvT hZ (hw _ (List.mem_of_getElem? (i := 10) rfl))) (mvT hZ (hw _ (List.mem_of_getElem? (i := 11) rfl))) (mvT hZ (hw _ (List.mem_of_getElem? (i := 4) rfl))) (mvT hZ (hw _ (List.mem_of_getElem? (i := 12) rfl))) (by decide) (backOf (W := 2) (rm_term l Z a0 hw [] d pz (5 : Int32) k PP 5 ff hea33 n0 (Nat.le_trans Z0 K33.1) AF hp2 rfl (by omega)) hZ (hw _ (List.mem_of_getElem? (i := 12) rfl)) (hw _ (List.mem_of_getElem? (i := 4) rfl)) (by decide) (by decide)) (g := (mkF m 329 #[.val (.long a), .second, .val (.long cc), .second, .val (.int ks), .val (.int ps), .val (.int k), .val (.int pz), .val (.ref d), .unset, .unset, .unset, .unset, .unset] [(.int k), (.int (5 : Int32)), (.int pz), (.ref d), (.long ((((t0 ||| t1) ||| t2) ||| t3) ||| t4))])) rfl (by rw [hml]; rfl) (argsL := [(.ref d), (.int pz), (.int (5 : Int32)), (.int k)]) (rest := [(.long ((((t0 ||| t1) ||| t2) ||| t3) ||| t4))]) (lenOf pd_136 rfl) rfl (by show 2 * 0 + _ ≤ _; exact Nat.le_of_eq rfl) (hb hby at_329) (fun _ _ => ⟨rfl, eh38, (by decide : 1 + 0 ≤ _), (by decide : 16 + 0 ≤ _)⟩)
  dsimp only [Pt.U, Pt.locs, Pt.cells, Pt.slots] at X39 l39 y39 z39 st39 hQ39
  replace l39 := l39.symm
  replace y39 := y39.symm
  replace z39 := z39.symm
  subst l39 y39 z39
  obtain ⟨t5, rfl, N39q, eh39, ht5⟩ := hQ39
  have N39 := Fr.app N38 N39q
  refine own_by (st39) ?_
  show own_Go p.tables e below (T39.setTop (mkF m 332 #[.val (.long a), .second, .val (.long cc), .second, .val (.int ks), .val (.int ps), .val (.int k), .val (.int pz), .val (.ref d), .unset, .unset, .unset, .unset, .unset] [(.long t5), (.long ((((t0 ||| t1) ||| t2) ||| t3) ||| t4))])) _
  refine own_by (fun zt zk => XS.lor X39.here hx rfl (hb hby at_332) rfl zk) ?_
  show own_Go p.tables e below (T39.setTop (mkF m 333 #[.val (.long a), .second, .val (.long cc), .second, .val (.int ks), .val (.int ps), .val (.int k), .val (.int pz), .val (.ref d), .unset, .unset, .unset, .unset, .unset] [(.long (((((t0 ||| t1) ||| t2) ||| t3) ||| t4) ||| t5))])) _
  refine own_by (fun zt zk => XS.aload X39.here hx rfl (hb hby at_333) rfl rfl zk) ?_
  show own_Go p.tables e below (T39.setTop (mkF m 335 #[.val (.long a), .second, .val (.long cc), .second, .val (.int ks), .val (.int ps), .val (.int k), .val (.int pz), .val (.ref d), .unset, .unset, .unset, .unset, .unset] [(.ref d), (.long (((((t0 ||| t1) ||| t2) ||| t3) ||| t4) ||| t5))])) _
  refine own_by (fun zt zk => XS.iload X39.here hx rfl (hb hby at_335) rfl zk) ?_
  show own_Go p.tables e below (T39.setTop (mkF m 337 #[.val (.long a), .second, .val (.long cc), .second, .val (.int ks), .val (.int ps), .val (.int k), .val (.int pz), .val (.ref d), .unset, .unset, .unset, .unset, .unset] [(.int pz), (.ref d), (.long (((((t0 ||| t1) ||| t2) ||| t3) ||| t4) ||| t5))])) _
  refine own_by (fun zt zk => XS.bipush X39.here hx rfl (hb hby at_337) zk) ?_
  show own_Go p.tables e below (T39.setTop (mkF m 339 #[.val (.long a), .second, .val (.long cc), .second, .val (.int ks), .val (.int ps), .val (.int k), .val (.int pz), .val (.ref d), .unset, .unset, .unset, .unset, .unset] [(.int (6 : Int32)), (.int pz), (.ref d), (.long (((((t0 ||| t1) ||| t2) ||| t3) ||| t4) ||| t5))])) _
  refine own_by (fun zt zk => XS.iload X39.here hx rfl (hb hby at_339) rfl zk) ?_
  show own_Go p.tables e below (T39.setTop (mkF m 341 #[.val (.long a), .second, .val (.long cc), .second, .val (.int ks), .val (.int ps), .val (.int k), .val (.int pz), .val (.ref d), .unset, .unset, .unset, .unset, .unset] [(.int k), (.int (6 : Int32)), (.int pz), (.ref d), (.long (((((t0 ||| t1) ||| t2) ||| t3) ||| t4) ||| t5))])) _
  obtain ⟨_, _, ⟨T40, L40, k40, n40⟩, -, X40, ⟨Lc40, hQ40, l40, y40, z40⟩, st40⟩ := Jvm.LawKit.callS X39 hx (y := (⟨"com/example/aprox/aprox/ByteReaderReadVLongPinLaw", "term", "([BIII)J"⟩ : MethodName)) hown (mvT hZ (hw _ (List.mem_of_getElem? (i := 10) rfl))) (mvT hZ (hw _ (List.mem_of_getElem? (i := 11) rfl))) (mvT hZ (hw _ (List.mem_of_getElem? (i := 4) rfl))) (mvT hZ (hw _ (List.mem_of_getElem? (i := 12) rfl))) (by decide) (backOf (W := 2) (rm_term l Z a0 hw [] d pz (6 : Int32) k PP 6 ff hea33 n0 (Nat.le_trans Z0 K33.1) AF hp2 rfl (by omega)) hZ (hw _ (List.mem_of_getElem? (i := 12) rfl)) (hw _ (List.mem_of_getElem? (i := 4) rfl)) (by decide) (by decide)) (g := (mkF m 341 #[.val (.long a), .second, .val (.long cc), .second, .val (.int ks), .val (.int ps), .val (.int k), .val (.int pz), .val (.ref d), .unset, .unset, .unset, .unset, .unset] [(.int k), (.int (6 : Int32)), (.int pz), (.ref d), (.long (((((t0 ||| t1) ||| t2) ||| t3) ||| t4) ||| t5))])) rfl (by rw [hml]; rfl) (argsL := [(.ref d), (.int pz), (.int (6 : Int32)), (.int k)]) (rest := [(.long (((((t0 ||| t1) ||| t2) ||| t3) ||| t4) ||| t5))]) (lenOf pd_136 rfl) rfl (by show 2 * 0 + _ ≤ _; exact Nat.le_of_eq rfl) (hb hby at_341) (fun _ _ => ⟨rfl, eh39, (by decide : 1 + 0 ≤ _), (by decide : 16 + 0 ≤ _)⟩)
  dsimp only [Pt.U, Pt.locs, Pt.cells, Pt.slots] at X40 l40 y40 z40 st40 hQ40
  replace l40 := l40.symm
  replace y40 := y40.symm
  replace z40 := z40.symm
  subst l40 y40 z40
  obtain ⟨t6, rfl, N40q, eh40, ht6⟩ := hQ40
  have N40 := Fr.app N39 N40q
  refine own_by (st40) ?_
  show own_Go p.tables e below (T40.setTop (mkF m 344 #[.val (.long a), .second, .val (.long cc), .second, .val (.int ks), .val (.int ps), .val (.int k), .val (.int pz), .val (.ref d), .unset, .unset, .unset, .unset, .unset] [(.long t6), (.long (((((t0 ||| t1) ||| t2) ||| t3) ||| t4) ||| t5))])) _
  refine own_by (fun zt zk => XS.lor X40.here hx rfl (hb hby at_344) rfl zk) ?_
  show own_Go p.tables e below (T40.setTop (mkF m 345 #[.val (.long a), .second, .val (.long cc), .second, .val (.int ks), .val (.int ps), .val (.int k), .val (.int pz), .val (.ref d), .unset, .unset, .unset, .unset, .unset] [(.long ((((((t0 ||| t1) ||| t2) ||| t3) ||| t4) ||| t5) ||| t6))])) _
  refine own_by (fun zt zk => XS.aload X40.here hx rfl (hb hby at_345) rfl rfl zk) ?_
  show own_Go p.tables e below (T40.setTop (mkF m 347 #[.val (.long a), .second, .val (.long cc), .second, .val (.int ks), .val (.int ps), .val (.int k), .val (.int pz), .val (.ref d), .unset, .unset, .unset, .unset, .unset] [(.ref d), (.long ((((((t0 ||| t1) ||| t2) ||| t3) ||| t4) ||| t5) ||| t6))])) _
  refine own_by (fun zt zk => XS.iload X40.here hx rfl (hb hby at_347) rfl zk) ?_
  show own_Go p.tables e below (T40.setTop (mkF m 349 #[.val (.long a), .second, .val (.long cc), .second, .val (.int ks), .val (.int ps), .val (.int k), .val (.int pz), .val (.ref d), .unset, .unset, .unset, .unset, .unset] [(.int pz), (.ref d), (.long ((((((t0 ||| t1) ||| t2) ||| t3) ||| t4) ||| t5) ||| t6))])) _
  refine own_by (fun zt zk => XS.bipush X40.here hx rfl (hb hby at_349) zk) ?_
  show own_Go p.tables e below (T40.setTop (mkF m 351 #[.val (.long a), .second, .val (.long cc), .second, .val (.int ks), .val (.int ps), .val (.int k), .val (.int pz), .val (.ref d), .unset, .unset, .unset, .unset, .unset] [(.int (7 : Int32)), (.int pz), (.ref d), (.long ((((((t0 ||| t1) ||| t2) ||| t3) ||| t4) ||| t5) ||| t6))])) _
  refine own_by (fun zt zk => XS.iload X40.here hx rfl (hb hby at_351) rfl zk) ?_
  show own_Go p.tables e below (T40.setTop (mkF m 353 #[.val (.long a), .second, .val (.long cc), .second, .val (.int ks), .val (.int ps), .val (.int k), .val (.int pz), .val (.ref d), .unset, .unset, .unset, .unset, .unset] [(.int k), (.int (7 : Int32)), (.int pz), (.ref d), (.long ((((((t0 ||| t1) ||| t2) ||| t3) ||| t4) ||| t5) ||| t6))])) _
  obtain ⟨_, _, ⟨T41, L41, k41, n41⟩, -, X41, ⟨Lc41, hQ41, l41, y41, z41⟩, st41⟩ := Jvm.LawKit.callS X40 hx (y := (⟨"com/example/aprox/aprox/ByteReaderReadVLongPinLaw", "term", "([BIII)J"⟩ : MethodName)) hown (mvT hZ (hw _ (List.mem_of_getElem? (i := 10) rfl))) (mvT hZ (hw _ (List.mem_of_getElem? (i := 11) rfl))) (mvT hZ (hw _ (List.mem_of_getElem? (i := 4) rfl))) (mvT hZ (hw _ (List.mem_of_getElem? (i := 12) rfl))) (by decide) (backOf (W := 2) (rm_term l Z a0 hw [] d pz (7 : Int32) k PP 7 ff hea33 n0 (Nat.le_trans Z0 K33.1) AF hp2 rfl (by omega)) hZ (hw _ (List.mem_of_getElem? (i := 12) rfl)) (hw _ (List.mem_of_getElem? (i := 4) rfl)) (by decide) (by decide)) (g := (mkF m 353 #[.val (.long a), .second, .val (.long cc), .second, .val (.int ks), .val (.int ps), .val (.int k), .val (.int pz), .val (.ref d), .unset, .unset, .unset, .unset, .unset] [(.int k), (.int (7 : Int32)), (.int pz), (.ref d), (.long ((((((t0 ||| t1) ||| t2) ||| t3) ||| t4) ||| t5) ||| t6))])) rfl (by rw [hml]; rfl) (argsL := [(.ref d), (.int pz), (.int (7 : Int32)), (.int k)]) (rest := [(.long ((((((t0 ||| t1) ||| t2) ||| t3) ||| t4) ||| t5) ||| t6))]) (lenOf pd_136 rfl) rfl (by show 2 * 0 + _ ≤ _; exact Nat.le_of_eq rfl) (hb hby at_353) (fun _ _ => ⟨rfl, eh40, (by decide : 1 + 0 ≤ _), (by decide : 16 + 0 ≤ _)⟩)
  dsimp only [Pt.U, Pt.locs, Pt.cells, Pt.slots] at X41 l41 y41 z41 st41 hQ41
  replace l41 := l41.symm
  replace y41 := y41.symm
  replace z41 := z41.symm
  subst l41 y41 z41
  obtain ⟨t7, rfl, N41q, eh41, ht7⟩ := hQ41
  have N41 := Fr.app N40 N41q
  refine own_by (st41) ?_
  show own_Go p.tables e below (T41.setTop (mkF m 356 #[.val (.long a), .second, .val (.long cc), .second, .val (.int ks), .val (.int ps), .val (.int k), .val (.int pz), .val (.ref d), .unset, .unset, .unset, .unset, .unset] [(.long t7), (.long ((((((t0 ||| t1) ||| t2) ||| t3) ||| t4) ||| t5) ||| t6))])) _
  refine own_by (fun zt zk => XS.lor X41.here hx rfl (hb hby at_356) rfl zk) ?_
  show own_Go p.tables e below (T41.setTop (mkF m 357 #[.val (.long a), .second, .val (.long cc), .second, .val (.int ks), .val (.int ps), .val (.int k), .val (.int pz), .val (.ref d), .unset, .unset, .unset, .unset, .unset] [(.long (((((((t0 ||| t1) ||| t2) ||| t3) ||| t4) ||| t5) ||| t6) ||| t7))])) _
  refine own_by (fun zt zk => XS.aload X41.here hx rfl (hb hby at_357) rfl rfl zk) ?_
  show own_Go p.tables e below (T41.setTop (mkF m 359 #[.val (.long a), .second, .val (.long cc), .second, .val (.int ks), .val (.int ps), .val (.int k), .val (.int pz), .val (.ref d), .unset, .unset, .unset, .unset, .unset] [(.ref d), (.long (((((((t0 ||| t1) ||| t2) ||| t3) ||| t4) ||| t5) ||| t6) ||| t7))])) _
  refine own_by (fun zt zk => XS.iload X41.here hx rfl (hb hby at_359) rfl zk) ?_
  show own_Go p.tables e below (T41.setTop (mkF m 361 #[.val (.long a), .second, .val (.long cc), .second, .val (.int ks), .val (.int ps), .val (.int k), .val (.int pz), .val (.ref d), .unset, .unset, .unset, .unset, .unset] [(.int pz), (.ref d), (.long (((((((t0 ||| t1) ||| t2) ||| t3) ||| t4) ||| t5) ||| t6) ||| t7))])) _
  refine own_by (fun zt zk => XS.bipush X41.here hx rfl (hb hby at_361) zk) ?_
  show own_Go p.tables e below (T41.setTop (mkF m 363 #[.val (.long a), .second, .val (.long cc), .second, .val (.int ks), .val (.int ps), .val (.int k), .val (.int pz), .val (.ref d), .unset, .unset, .unset, .unset, .unset] [(.int (8 : Int32)), (.int pz), (.ref d), (.long (((((((t0 ||| t1) ||| t2) ||| t3) ||| t4) ||| t5) ||| t6) ||| t7))])) _
  refine own_by (fun zt zk => XS.iload X41.here hx rfl (hb hby at_363) rfl zk) ?_
  show own_Go p.tables e below (T41.setTop (mkF m 365 #[.val (.long a), .second, .val (.long cc), .second, .val (.int ks), .val (.int ps), .val (.int k), .val (.int pz), .val (.ref d), .unset, .unset, .unset, .unset, .unset] [(.int k), (.int (8 : Int32)), (.int pz), (.ref d), (.long (((((((t0 ||| t1) ||| t2) ||| t3) ||| t4) ||| t5) ||| t6) ||| t7))])) _
  obtain ⟨_, _, ⟨T42, L42, k42, n42⟩, -, X42, ⟨Lc42, hQ42, l42, y42, z42⟩, st42⟩ := Jvm.LawKit.callS X41 hx (y := (⟨"com/example/aprox/aprox/ByteReaderReadVLongPinLaw", "term", "([BIII)J"⟩ : MethodName)) hown (mvT hZ (hw _ (List.mem_of_getElem? (i := 10) rfl))) (mvT hZ (hw _ (List.mem_of_getElem? (i := 11) rfl))) (mvT hZ (hw _ (List.mem_of_getElem? (i := 4) rfl))) (mvT hZ (hw _ (List.mem_of_getElem? (i := 12) rfl))) (by decide) (backOf (W := 2) (rm_term l Z a0 hw [] d pz (8 : Int32) k PP 8 ff hea33 n0 (Nat.le_trans Z0 K33.1) AF hp2 rfl (by omega)) hZ (hw _ (List.mem_of_getElem? (i := 12) rfl)) (hw _ (List.mem_of_getElem? (i := 4) rfl)) (by decide) (by decide)) (g := (mkF m 365 #[.val (.long a), .second, .val (.long cc), .second, .val (.int ks), .val (.int ps), .val (.int k), .val (.int pz), .val (.ref d), .unset, .unset, .unset, .unset, .unset] [(.int k), (.int (8 : Int32)), (.int pz), (.ref d), (.long (((((((t0 ||| t1) ||| t2) ||| t3) ||| t4) ||| t5) ||| t6) ||| t7))])) rfl (by rw [hml]; rfl) (argsL := [(.ref d), (.int pz), (.int (8 : Int32)), (.int k)]) (rest := [(.long (((((((t0 ||| t1) ||| t2) ||| t3) ||| t4) ||| t5) ||| t6) ||| t7))]) (lenOf pd_136 rfl) rfl (by show 2 * 0 + _ ≤ _; exact Nat.le_of_eq rfl) (hb hby at_365) (fun _ _ => ⟨rfl, eh41, (by decide : 1 + 0 ≤ _), (by decide : 16 + 0 ≤ _)⟩)
  dsimp only [Pt.U, Pt.locs, Pt.cells, Pt.slots] at X42 l42 y42 z42 st42 hQ42
  replace l42 := l42.symm
  replace y42 := y42.symm
  replace z42 := z42.symm
  subst l42 y42 z42
  obtain ⟨t8, rfl, N42q, eh42, ht8⟩ := hQ42
  have N42 := Fr.app N41 N42q
  refine own_by (st42) ?_
  show own_Go p.tables e below (T42.setTop (mkF m 368 #[.val (.long a), .second, .val (.long cc), .second, .val (.int ks), .val (.int ps), .val (.int k), .val (.int pz), .val (.ref d), .unset, .unset, .unset, .unset, .unset] [(.long t8), (.long (((((((t0 ||| t1) ||| t2) ||| t3) ||| t4) ||| t5) ||| t6) ||| t7))])) _
  refine own_by (fun zt zk => XS.lor X42.here hx rfl (hb hby at_368) rfl zk) ?_
  show own_Go p.tables e below (T42.setTop (mkF m 369 #[.val (.long a), .second, .val (.long cc), .second, .val (.int ks), .val (.int ps), .val (.int k), .val (.int pz), .val (.ref d), .unset, .unset, .unset, .unset, .unset] [(.long ((((((((t0 ||| t1) ||| t2) ||| t3) ||| t4) ||| t5) ||| t6) ||| t7) ||| t8))])) _
  refine own_by (fun zt zk => XS.aload X42.here hx rfl (hb hby at_369) rfl rfl zk) ?_
  show own_Go p.tables e below (T42.setTop (mkF m 371 #[.val (.long a), .second, .val (.long cc), .second, .val (.int ks), .val (.int ps), .val (.int k), .val (.int pz), .val (.ref d), .unset, .unset, .unset, .unset, .unset] [(.ref d), (.long ((((((((t0 ||| t1) ||| t2) ||| t3) ||| t4) ||| t5) ||| t6) ||| t7) ||| t8))])) _
  refine own_by (fun zt zk => XS.iload X42.here hx rfl (hb hby at_371) rfl zk) ?_
  show own_Go p.tables e below (T42.setTop (mkF m 373 #[.val (.long a), .second, .val (.long cc), .second, .val (.int ks), .val (.int ps), .val (.int k), .val (.int pz), .val (.ref d), .unset, .unset, .unset, .unset, .unset] [(.int pz), (.ref d), (.long ((((((((t0 ||| t1) ||| t2) ||| t3) ||| t4) ||| t5) ||| t6) ||| t7) ||| t8))])) _
  refine own_by (fun zt zk => XS.bipush X42.here hx rfl (hb hby at_373) zk) ?_
  show own_Go p.tables e below (T42.setTop (mkF m 375 #[.val (.long a), .second, .val (.long cc), .second, .val (.int ks), .val (.int ps), .val (.int k), .val (.int pz), .val (.ref d), .unset, .unset, .unset, .unset, .unset] [(.int (9 : Int32)), (.int pz), (.ref d), (.long ((((((((t0 ||| t1) ||| t2) ||| t3) ||| t4) ||| t5) ||| t6) ||| t7) ||| t8))])) _
  refine own_by (fun zt zk => XS.iload X42.here hx rfl (hb hby at_375) rfl zk) ?_
  show own_Go p.tables e below (T42.setTop (mkF m 377 #[.val (.long a), .second, .val (.long cc), .second, .val (.int ks), .val (.int ps), .val (.int k), .val (.int pz), .val (.ref d), .unset, .unset, .unset, .unset, .unset] [(.int k), (.int (9 : Int32)), (.int pz), (.ref d), (.long ((((((((t0 ||| t1) ||| t2) ||| t3) ||| t4) ||| t5) ||| t6) ||| t7) ||| t8))])) _
  obtain ⟨_, _, ⟨T43, L43, k43, n43⟩, -, X43, ⟨Lc43, hQ43, l43, y43, z43⟩, st43⟩ := Jvm.LawKit.callS X42 hx (y := (⟨"com/example/aprox/aprox/ByteReaderReadVLongPinLaw", "term", "([BIII)J"⟩ : MethodName)) hown (mvT hZ (hw _ (List.mem_of_getElem? (i := 10) rfl))) (mvT hZ (hw _ (List.mem_of_getElem? (i := 11) rfl))) (mvT hZ (hw _ (List.mem_of_getElem? (i := 4) rfl))) (mvT hZ (hw _ (List.mem_of_getElem? (i := 12) rfl))) (by decide) (backOf (W := 2) (rm_term l Z a0 hw [] d pz (9 : Int32) k PP 9 ff hea33 n0 (Nat.le_trans Z0 K33.1) AF hp2 rfl (by omega)) hZ (hw _ (List.mem_of_getElem? (i := 12) rfl)) (hw _ (List.mem_of_getElem? (i := 4) rfl)) (by decide) (by decide)) (g := (mkF m 377 #[.val (.long a), .second, .val (.long cc), .second, .val (.int ks), .val (.int ps), .val (.int k), .val (.int pz), .val (.ref d), .unset, .unset, .unset, .unset, .unset] [(.int k), (.int (9 : Int32)), (.int pz), (.ref d), (.long ((((((((t0 ||| t1) ||| t2) ||| t3) ||| t4) ||| t5) ||| t6) ||| t7) ||| t8))])) rfl (by rw [hml]; rfl) (argsL := [(.ref d), (.int pz), (.int (9 : Int32)), (.int k)]) (rest := [(.long ((((((((t0 ||| t1) ||| t2) ||| t3) ||| t4) ||| t5) ||| t6) ||| t7) ||| t8))]) (lenOf pd_136 rfl) rfl (by show 2 * 0 + _ ≤ _; exact Nat.le_of_eq rfl) (hb hby at_377) (fun _ _ => ⟨rfl, eh42, (by decide : 1 + 0 ≤ _), (by decide : 16 + 0 ≤ _)⟩)
  dsimp only [Pt.U, Pt.locs, Pt.cells, Pt.slots] at X43 l43 y43 z43 st43 hQ43
  replace l43 := l43.symm
  replace y43 := y43.symm
  replace z43 := z43.symm
  subst l43 y43 z43
  obtain ⟨t9, rfl, N43q, eh43, ht9⟩ := hQ43
  have N43 := Fr.app N42 N43q
  refine own_by (st43) ?_
  show own_Go p.tables e below (T43.setTop (mkF m 380 #[.val (.long a), .second, .val (.long cc), .second, .val (.int ks), .val (.int ps), .val (.int k), .val (.int pz), .val (.ref d), .unset, .unset, .unset, .unset, .unset] [(.long t9), (.long ((((((((t0 ||| t1) ||| t2) ||| t3) ||| t4) ||| t5) ||| t6) ||| t7) ||| t8))])) _
  refine own_by (fun zt zk => XS.lor X43.here hx rfl (hb hby at_380) rfl zk) ?_
  show own_Go p.tables e below (T43.setTop (mkF m 381 #[.val (.long a), .second, .val (.long cc), .second, .val (.int ks), .val (.int ps), .val (.int k), .val (.int pz), .val (.ref d), .unset, .unset, .unset, .unset, .unset] [(.long (((((((((t0 ||| t1) ||| t2) ||| t3) ||| t4) ||| t5) ||| t6) ||| t7) ||| t8) ||| t9))])) _
  obtain ⟨ex, hex⟩ : ∃ z, z = (((((((((t0 ||| t1) ||| t2) ||| t3) ||| t4) ||| t5) ||| t6) ||| t7) ||| t8) ||| t9) := ⟨_, rfl⟩
  rw [← hex]
  show own_Go p.tables e below (T43.setTop (mkF m 381 #[.val (.long a), .second, .val (.long cc), .second, .val (.int ks), .val (.int ps), .val (.int k), .val (.int pz), .val (.ref d), .unset, .unset, .unset, .unset, .unset] [(.long ex)])) _
  refine own_by (fun zt zk => XS.lstore X43.here hx rfl (hb hby at_381) rfl (l' := #[.val (.long a), .second, .val (.long cc), .second, .val (.int ks), .val (.int ps), .val (.int k), .val (.int pz), .val (.ref d), .val (.long ex), .second, .unset, .unset, .unset]) rfl zk) ?_
  show own_Go p.tables e below (T43.setTop (mkF m 383 #[.val (.long a), .second, .val (.long cc), .second, .val (.int ks), .val (.int ps), .val (.int k), .val (.int pz), .val (.ref d), .val (.long ex), .second, .unset, .unset, .unset] [])) _
  obtain ⟨T44, hea44, X44, e44, E44, A44, D44, -, st44⟩ := newO X43 hx hZ hown (hw _ (List.mem_of_getElem? (i := 13) rfl)) (hw _ (List.mem_of_getElem? (i := 14) rfl)) (hw _ (List.mem_of_getElem? (i := 15) rfl)) eh43 (g := (mkF m 383 #[.val (.long a), .second, .val (.long cc), .second, .val (.int ks), .val (.int ps), .val (.int k), .val (.int pz), .val (.ref d), .val (.long ex), .second, .unset, .unset, .unset] [])) rfl (hb hby at_383) (by decide) (by decide)
  obtain ⟨ob, g44⟩ : ∃ z, z = hea33.size := ⟨_, rfl⟩
  rw [← g44] at A44 D44 st44
  have ne_ob_d : ob ≠ d := Nat.ne_of_gt (g44 ▸ (AF).lt)
  have sz_ob : h0.size ≤ ob := Nat.le_trans K33.1 (Nat.le_of_eq g44.symm)
  have K44 : Keep h0 hea44 [] := K33.ext E44
  refine own_by (st44) ?_
  have F44_bytes : Fld Z hea44 ob "com/example/aprox/aprox/ByteReader" "bytes" "[B" .null := D44 (Or.inr (hw _ (List.mem_of_getElem? (i := 23) rfl))) (ty := (.array .byte)) (by decide)
  have F44_position : Fld Z hea44 ob "com/example/aprox/aprox/ByteReader" "position" "I" (.int (0 : Int32)) := D44 (Or.inl (hw _ (List.mem_of_getElem? (i := 25) rfl))) (ty := .int) (by decide)
  show own_Go p.tables e below (T44.setTop (mkF m 386 #[.val (.long a), .second, .val (.long cc), .second, .val (.int ks), .val (.int ps), .val (.int k), .val (.int pz), .val (.ref d), .val (.long ex), .second, .unset, .unset, .unset] [(.ref ob)])) _
  refine own_by (fun zt zk => XS.dup X44.here hx rfl (hb hby at_386) rfl rfl zk) ?_
  show own_Go p.tables e below (T44.setTop (mkF m 387 #[.val (.long a), .second, .val (.long cc), .second, .val (.int ks), .val (.int ps), .val (.int k), .val (.int pz), .val (.ref d), .val (.long ex), .second, .unset, .unset, .unset] [(.ref ob), (.ref ob)])) _
  refine own_by (fun zt zk => XS.aload X44.here hx rfl (hb hby at_387) rfl rfl zk) ?_
  show own_Go p.tables e below (T44.setTop (mkF m 389 #[.val (.long a), .second, .val (.long cc), .second, .val (.int ks), .val (.int ps), .val (.int k), .val (.int pz), .val (.ref d), .val (.long ex), .second, .unset, .unset, .unset] [(.ref d), (.ref ob), (.ref ob)])) _
  refine own_by (fun zt zk => XS.iload X44.here hx rfl (hb hby at_389) rfl zk) ?_
  show own_Go p.tables e below (T44.setTop (mkF m 391 #[.val (.long a), .second, .val (.long cc), .second, .val (.int ks), .val (.int ps), .val (.int k), .val (.int pz), .val (.ref d), .val (.long ex), .second, .unset, .unset, .unset] [(.int pz), (.ref d), (.ref ob), (.ref ob)])) _
  obtain ⟨_, _, ⟨T45, L45, k45, n45⟩, -, X45, ⟨Lc45, hQ45, l45, y45, z45⟩, st45⟩ := X44.specialBack hx (y := (⟨"com/example/aprox/aprox/ByteReader", "<init>", "([BI)V"⟩ : MethodName)) rfl hown (mvT hZ (hw _ (List.mem_of_getElem? (i := 16) rfl))) (mvT hZ (hw _ (List.mem_of_getElem? (i := 17) rfl))) (mvT hZ (hw _ (List.mem_of_getElem? (i := 18) rfl))) (by decide) (backOf (W := 1) (rm_new l Z a0 hw [] ob d pz  hea44 n0 (Nat.le_trans Z0 K44.1) A44 (Nat.le_trans Z0 sz_ob) F44_bytes F44_position) hZ (hw _ (List.mem_of_getElem? (i := 18) rfl)) (hw _ (List.mem_of_getElem? (i := 15) rfl)) (by decide) (by decide)) (g := (mkF m 391 #[.val (.long a), .second, .val (.long cc), .second, .val (.int ks), .val (.int ps), .val (.int k), .val (.int pz), .val (.ref d), .val (.long ex), .second, .unset, .unset, .unset] [(.int pz), (.ref d), (.ref ob), (.ref ob)])) rfl (by rw [hml]; rfl) (Steps.refl _) (a := ob) (argsL := [(.ref d), (.int pz)]) (rest := [(.ref ob)]) (lenOf pd_137 rfl) rfl (by show 2 * 0 + _ ≤ _; exact Nat.le_of_eq rfl) (hb hby at_391) (fun _ _ => ⟨rfl, e44, (by decide : 2 + 0 ≤ _), (by decide : 18 + 0 ≤ _)⟩)
  dsimp only [Pt.U, Pt.locs, Pt.cells, Pt.slots] at X45 l45 y45 z45 st45 hQ45
  replace l45 := l45.symm
  replace y45 := y45.symm
  replace z45 := z45.symm
  subst l45 y45 z45
  obtain ⟨rfl, N45q, Kc45, Fb45, Fp45⟩ := hQ45
  have N45 := Fr.app N43 N45q
  have K45 : Keep h0 T45.heap [] := K44.trans Kc45 (allS (Or.inr sz_ob) all0)
  refine own_tr st45 ?_
  show own_Go p.tables e below (T45.setTop (mkF m 394 #[.val (.long a), .second, .val (.long cc), .second, .val (.int ks), .val (.int ps), .val (.int k), .val (.int pz), .val (.ref d), .val (.long ex), .second, .unset, .unset, .unset] [(.ref ob)])) _
  refine own_by (fun zt zk => XS.astore X45.here hx rfl (hb hby at_394) rfl rfl (l' := #[.val (.long a), .second, .val (.long cc), .second, .val (.int ks), .val (.int ps), .val (.int k), .val (.int pz), .val (.ref d), .val (.long ex), .second, .val (.ref ob), .unset, .unset]) rfl zk) ?_
  show own_Go p.tables e below (T45.setTop (mkF m 396 #[.val (.long a), .second, .val (.long cc), .second, .val (.int ks), .val (.int ps), .val (.int k), .val (.int pz), .val (.ref d), .val (.long ex), .second, .val (.ref ob), .unset, .unset] [])) _
  refine own_by (fun zt zk => XS.aload X45.here hx rfl (hb hby at_396) rfl rfl zk) ?_
  show own_Go p.tables e below (T45.setTop (mkF m 398 #[.val (.long a), .second, .val (.long cc), .second, .val (.int ks), .val (.int ps), .val (.int k), .val (.int pz), .val (.ref d), .val (.long ex), .second, .val (.ref ob), .unset, .unset] [(.ref ob)])) _
  obtain ⟨cq46, kq46, q46a, q46b, q46c⟩ := isOf hZ rfl (A44.keep Kc45)
  obtain ⟨_, _, ⟨T46, L46, k46, n46⟩, -, X46, ⟨Lc46, hQ46, l46, y46, z46⟩, st46⟩ := X45.virtualBack hx (y := (⟨"com/example/aprox/aprox/ByteReader", "readVLong", "()J"⟩ : MethodName)) (z := (⟨"com/example/aprox/aprox/ByteReader", "readVLong", "()J"⟩ : MethodName)) hown (mvT hZ (hw _ (List.mem_of_getElem? (i := 26) rfl))) (mvT hZ (hw _ (List.mem_of_getElem? (i := 27) rfl))) (notFace_of_selects (args := #[]) (mvT hZ (hw _ (List.mem_of_getElem? (i := 29) rfl)))) (mvT hZ (hw _ (List.mem_of_getElem? (i := 29) rfl))) (mvT hZ (hw _ (List.mem_of_getElem? (i := 28) rfl))) (by decide) (backOf (W := 0) (rm_rv l Z a0 hw [] ob d pz PP (K - 1) ff T45.heap n0 (Nat.le_trans Z0 K45.1) (A44.keep Kc45) (Nat.le_trans Z0 sz_ob) Fb45 Fp45 ((AF.ext E44).keep Kc45 (ninS (Ne.symm ne_ob_d) nin0)) ne_ob_d hp2 (by omega) (own_ng hall hp2 hk2 (by omega) (by omega)) (own_ps hall hp2 hk2 (by omega) (by omega))) hZ (hw _ (List.mem_of_getElem? (i := 30) rfl)) (hw _ (List.mem_of_getElem? (i := 15) rfl)) (by decide) (by decide)) q46a q46c (g := (mkF m 398 #[.val (.long a), .second, .val (.long cc), .second, .val (.int ks), .val (.int ps), .val (.int k), .val (.int pz), .val (.ref d), .val (.long ex), .second, .val (.ref ob), .unset, .unset] [(.ref ob)])) rfl (by rw [hml]; rfl) (Steps.refl _) (argsL := []) (rest := []) (lenOf pd_138 rfl) rfl (by show 2 * 0 + _ ≤ _; exact Nat.le_of_eq rfl) (hb hby at_398) (fun _ _ => ⟨rfl, rfl, (by decide : 2 + 0 ≤ _), (by decide : 18 + 0 ≤ _)⟩)
  dsimp only [Pt.U, Pt.locs, Pt.cells, Pt.slots] at X46 l46 y46 z46 st46 hQ46
  replace l46 := l46.symm
  replace y46 := y46.symm
  replace z46 := z46.symm
  subst l46 y46 z46
  obtain ⟨rr, rfl, N46q, Kc46, Fp46, hrr⟩ := hQ46
  have N46 := Fr.app N45 N46q
  have K46 : Keep h0 T46.heap [] := K45.trans Kc46 (allS (Or.inr sz_ob) all0)
  refine own_tr st46 ?_
  show own_Go p.tables e below (T46.setTop (mkF m 401 #[.val (.long a), .second, .val (.long cc), .second, .val (.int ks), .val (.int ps), .val (.int k), .val (.int pz), .val (.ref d), .val (.long ex), .second, .val (.ref ob), .unset, .unset] [(.long rr)])) _
  have ee : rr = ex := by rw [hrr, hex, ht0, ht1, ht2, ht3, ht4, ht5, ht6, ht7, ht8, ht9]; exact own_tot ff PP K hk2 hK1 hK9 (own_127 hall hp2 hk2 (by omega) (by omega))
  refine own_by (fun zt zk => XS.lstore X46.here hx rfl (hb hby at_401) rfl (l' := #[.val (.long a), .second, .val (.long cc), .second, .val (.int ks), .val (.int ps), .val (.int k), .val (.int pz), .val (.ref d), .val (.long ex), .second, .val (.ref ob), .val (.long rr), .second]) rfl zk) ?_
  show own_Go p.tables e below (T46.setTop (mkF m 403 #[.val (.long a), .second, .val (.long cc), .second, .val (.int ks), .val (.int ps), .val (.int k), .val (.int pz), .val (.ref d), .val (.long ex), .second, .val (.ref ob), .val (.long rr), .second] [])) _
  refine own_by (fun zt zk => XS.lload X46.here hx rfl (hb hby at_403) rfl zk) ?_
  show own_Go p.tables e below (T46.setTop (mkF m 405 #[.val (.long a), .second, .val (.long cc), .second, .val (.int ks), .val (.int ps), .val (.int k), .val (.int pz), .val (.ref d), .val (.long ex), .second, .val (.ref ob), .val (.long rr), .second] [(.long rr)])) _
  refine own_by (fun zt zk => XS.lload X46.here hx rfl (hb hby at_405) rfl zk) ?_
  show own_Go p.tables e below (T46.setTop (mkF m 407 #[.val (.long a), .second, .val (.long cc), .second, .val (.int ks), .val (.int ps), .val (.int k), .val (.int pz), .val (.ref d), .val (.long ex), .second, .val (.ref ob), .val (.long rr), .second] [(.long ex), (.long rr)])) _
  refine own_by (fun zt zk => XS.lcmp X46.here hx rfl (hb hby at_407) rfl zk) ?_
  show own_Go p.tables e below (T46.setTop (mkF m 408 #[.val (.long a), .second, .val (.long cc), .second, .val (.int ks), .val (.int ps), .val (.int k), .val (.int pz), .val (.ref d), .val (.long ex), .second, .val (.ref ob), .val (.long rr), .second] [(.int (lcmpW rr ex))])) _
  refine own_by (fun zt zk => XS.ifNo X46.here hx rfl (hb hby at_408) rfl ((if0 _ _).trans (teq ((lw_eq rr ex).mpr ee)).2) zk) ?_
  show own_Go p.tables e below (T46.setTop (mkF m 411 #[.val (.long a), .second, .val (.long cc), .second, .val (.int ks), .val (.int ps), .val (.int k), .val (.int pz), .val (.ref d), .val (.long ex), .second, .val (.ref ob), .val (.long rr), .second] [])) _
  refine own_by (fun zt zk => XS.aload X46.here hx rfl (hb hby at_411) rfl rfl zk) ?_
  show own_Go p.tables e below (T46.setTop (mkF m 413 #[.val (.long a), .second, .val (.long cc), .second, .val (.int ks), .val (.int ps), .val (.int k), .val (.int pz), .val (.ref d), .val (.long ex), .second, .val (.ref ob), .val (.long rr), .second] [(.ref ob)])) _
  obtain ⟨cq47, kq47, q47a, q47b, q47c⟩ := isOf hZ rfl ((A44.keep Kc45).keep Kc46)
  obtain ⟨_, _, ⟨T47, L47, k47, n47⟩, -, X47, ⟨Lc47, hQ47, l47, y47, z47⟩, st47⟩ := X46.virtualBack hx (y := (⟨"com/example/aprox/aprox/ByteReader", "position", "()I"⟩ : MethodName)) (z := (⟨"com/example/aprox/aprox/ByteReader", "position", "()I"⟩ : MethodName)) hown (mvT hZ (hw _ (List.mem_of_getElem? (i := 31) rfl))) (mvT hZ (hw _ (List.mem_of_getElem? (i := 32) rfl))) (notFace_of_selects (args := #[]) (mvT hZ (hw _ (List.mem_of_getElem? (i := 34) rfl)))) (mvT hZ (hw _ (List.mem_of_getElem? (i := 34) rfl))) (mvT hZ (hw _ (List.mem_of_getElem? (i := 33) rfl))) (by decide) (backOf (W := 0) (rm_po l Z a0 hw [] ob (Int32.ofNat (PP + (K - 1) + 1)) T46.heap n0 (Nat.le_trans Z0 K46.1) Fp46) hZ (hw _ (List.mem_of_getElem? (i := 35) rfl)) (hw _ (List.mem_of_getElem? (i := 15) rfl)) (by decide) (by decide)) q47a q47c (g := (mkF m 413 #[.val (.long a), .second, .val (.long cc), .second, .val (.int ks), .val (.int ps), .val (.int k), .val (.int pz), .val (.ref d), .val (.long ex), .second, .val (.ref ob), .val (.long rr), .second] [(.ref ob)])) rfl (by rw [hml]; rfl) (Steps.refl _) (argsL := []) (rest := []) (lenOf pd_139 rfl) rfl (by show 2 * 0 + _ ≤ _; exact Nat.le_of_eq rfl) (hb hby at_413) (fun _ _ => ⟨rfl, rfl, (by decide : 2 + 0 ≤ _), (by decide : 18 + 0 ≤ _)⟩)
  dsimp only [Pt.U, Pt.locs, Pt.cells, Pt.slots] at X47 l47 y47 z47 st47 hQ47
  replace l47 := l47.symm
  replace y47 := y47.symm
  replace z47 := z47.symm
  subst l47 y47 z47
  obtain ⟨pp, rfl, N47q, eh47, hpp⟩ := hQ47
  have N47 := Fr.app N46 N47q
  refine own_tr st47 ?_
  show own_Go p.tables e below (T47.setTop (mkF m 416 #[.val (.long a), .second, .val (.long cc), .second, .val (.int ks), .val (.int ps), .val (.int k), .val (.int pz), .val (.ref d), .val (.long ex), .second, .val (.ref ob), .val (.long rr), .second] [(.int pp)])) _
  have ep : pp = (pz + k) := by rw [hpp, own_addN hp2 hk2, show PP + (K - 1) + 1 = PP + K by omega]
  refine own_by (fun zt zk => XS.iload X47.here hx rfl (hb hby at_416) rfl zk) ?_
  show own_Go p.tables e below (T47.setTop (mkF m 418 #[.val (.long a), .second, .val (.long cc), .second, .val (.int ks), .val (.int ps), .val (.int k), .val (.int pz), .val (.ref d), .val (.long ex), .second, .val (.ref ob), .val (.long rr), .second] [(.int pz), (.int pp)])) _
  refine own_by (fun zt zk => XS.iload X47.here hx rfl (hb hby at_418) rfl zk) ?_
  show own_Go p.tables e below (T47.setTop (mkF m 420 #[.val (.long a), .second, .val (.long cc), .second, .val (.int ks), .val (.int ps), .val (.int k), .val (.int pz), .val (.ref d), .val (.long ex), .second, .val (.ref ob), .val (.long rr), .second] [(.int k), (.int pz), (.int pp)])) _
  refine own_by (fun zt zk => XS.iadd X47.here hx rfl (hb hby at_420) rfl zk) ?_
  show own_Go p.tables e below (T47.setTop (mkF m 421 #[.val (.long a), .second, .val (.long cc), .second, .val (.int ks), .val (.int ps), .val (.int k), .val (.int pz), .val (.ref d), .val (.long ex), .second, .val (.ref ob), .val (.long rr), .second] [(.int (pz + k)), (.int pp)])) _
  refine own_by (fun zt zk => XS.icmpNo X47.here hx rfl (hb hby at_421) rfl (teq ep).2 zk) ?_
  show own_Go p.tables e below (T47.setTop (mkF m 424 #[.val (.long a), .second, .val (.long cc), .second, .val (.int ks), .val (.int ps), .val (.int k), .val (.int pz), .val (.ref d), .val (.long ex), .second, .val (.ref ob), .val (.long rr), .second] [])) _
  refine own_by (fun zt zk => XS.iconst X47.here hx rfl (hb hby at_424) zk) ?_
  show own_Go p.tables e below (T47.setTop (mkF m 425 #[.val (.long a), .second, .val (.long cc), .second, .val (.int ks), .val (.int ps), .val (.int k), .val (.int pz), .val (.ref d), .val (.long ex), .second, .val (.ref ob), .val (.long rr), .second] [(.int (1 : Int32))])) _
  refine own_by (fun zt zk => XS.goto X47.here hx rfl (pc0 := 425) (pc' := 429) rfl (hb hby at_425) (by decide) (by decide) zk) ?_
  show own_Go p.tables e below (T47.setTop (mkF m 429 #[.val (.long a), .second, .val (.long cc), .second, .val (.int ks), .val (.int ps), .val (.int k), .val (.int pz), .val (.ref d), .val (.long ex), .second, .val (.ref ob), .val (.long rr), .second] [(.int (1 : Int32))])) _
  exact own_retN X47 hx Bd.notSynchronized (t := .boolean) Bd.returns (by simp) (by decide) (hb hby at_429) (by (try rw [eh47]); exact ⟨rfl, N47⟩) (by decide) (by decide)
set_option maxRecDepth 65536 in
set_option maxHeartbeats 40000000 in
theorem comes_1 {Post : Tables → Env → Array Value → State → Outcome → State → Prop} (hpost : ∀ tb e args s v u, (limb_1_1.after args s (.returned v) u = true ∧ limb_1_2.after args s (.returned v) u = true ∧ True) → FrameEnd s (.returned v) u (Jvm.fieldLocs frame_1_writes args s ++ Jvm.arrayLocs frame_1_arrays args s ++ Jvm.staticLocs frame_1_statics s) 16 128 → Post tb e args s (.returned v) u) :
    ArmFor flags0 classFile x code maxLocals ret World_1 tables_1 room_1 Calls_1 rest_1 Pre_1 Post := by
  intro l hfl _ _ p e ha hc hk s m args below hf hA hF happ hP
  obtain ⟨hcalls, hrest, hpre⟩ := hP
  obtain ⟨-, -, -, hnamed, -, -, -, hat⟩ := (Spec.applies_iff hf).mp happ
  obtain ⟨hg, hn⟩ := and_e (Cond.before_iff.mp (show (Jvm.Cond.and given_1 narrow_1).before args s = true from hpre))
  obtain ⟨hcount, t0⟩ := and_e hg
  obtain ⟨g0, t1⟩ := and_e t0
  obtain ⟨g1, t2⟩ := and_e t1
  obtain ⟨g2, t3⟩ := and_e t2
  obtain ⟨w0, w1, w2, w3, rfl⟩ : ∃ w0 w1 w2 w3 : Value, args = #[w0, w1, w2, w3] := by
    have hs : args.size = 4 := by simpa [Cond.value, given_1] using hcount
    obtain ⟨L⟩ := args
    match L, hs with
    | [w0, w1, w2, w3], _ => exact ⟨w0, w1, w2, w3, rfl⟩
  have hw := fun d (hd : d ∈ tables_1) => atoms_spec (ws := Jvm.Cond.code x code maxLocals ret :: tables_1) hat d (List.mem_cons_of_mem _ hd)
  obtain ⟨i0, ei0⟩ := isL_v g0
  obtain rfl : w0 = (.long i0) := Option.some.inj ei0
  obtain ⟨i1, ei1⟩ := isL_v g1
  obtain rfl : w1 = (.long i1) := Option.some.inj ei1
  obtain ⟨i2, ei2⟩ := is_v g2
  obtain rfl : w2 = (.int i2) := Option.some.inj ei2
  obtain ⟨i3, ei3⟩ := is_v t3
  obtain rfl : w3 = (.int i3) := Option.some.inj ei3
  obtain ⟨n, o, h1, h2, h3, _, L, rfl, ⟨rfl, N⟩, hq⟩ := rm_law l s _ hw tables_1 i0 i1 i2 i3 s.heap s.heap.size (Nat.le_refl _) p e ha hc hk s m _ below hf ((Spec.applies_iff_loose hf).mp happ).1 ⟨rfl, State.Warmed39.refl s, rfl⟩ trivial
  refine ⟨n, _, h1, h2, h3, hpost _ _ _ _ _ _ ⟨Cond.after_iff.mpr rfl, Cond.after_iff.mpr (eq_i res_at (Term.int_eval (1)) rfl), trivial⟩ ⟨hq.1, hq.2.1, (hq.2.2.sift fun y hy => Or.inr (N y hy)).mono (by decide) (by decide)⟩⟩
theorem main_1_1 : Claimed_1_1 := comes_1 fun _ _ _ _ _ _ h hF => ⟨h.1, hF⟩
theorem main_1_2 : Claimed_1_2 := comes_1 fun _ _ _ _ _ _ h hF => ⟨h.2.1, hF⟩
end Jvm.Pilot.@@N@@
namespace Jvm.Pilot.@@N@@
open Jvm Jvm.ClassFile Sem Op Lib Jvm.Free Jvm.Stand Jvm.Pilot.@@N@@.Jvm.D
/-! MADE BY PROGRAM (witnessworld.py) out of the Statement's table words and the real class files: 9 classes; the members and pool entries that the words name. The judged class is class 1, her method 4. -/
namespace start1
open Jvm.ClassFile
def u (s : String) : CpInfo := .utf8 (stringToUtf16 s)
/-- a pool by its gaps: so many unusable entries, then the entry; so many at the end -/
def gap : Nat → List CpInfo → List CpInfo
  | 0, r => r
  | n + 1, r => .unusable :: gap n r
def poolList (es : List (Nat × CpInfo)) (last : Nat) : List CpInfo := es.foldr (fun e r => gap e.1 (e.2 :: r)) (gap last [])
def pool (es : List (Nat × CpInfo)) (last : Nat) : Array CpInfo := ⟨poolList es last⟩
def fileOf (pool : Array CpInfo) (this : Nat) (attrs : Array Attribute := #[]) (ms : Array MethodInfo := #[]) (fl : Nat := 33) (sup : Nat := 0) (ifs : Array Nat := #[]) (fds : Array FieldInfo := #[]) : ClassFile where
  minorVersion := 0
  majorVersion := 65
  constantPool := pool
  accessFlags := fl
  thisClass := this
  superClass := sup
  interfaces := ifs
  fields := fds
  methods := ms
  attributes := attrs
def plain (name : String) (sup : Option ClassId) : Class where
  name := name
  kind := .ordinary
  loader := none
  accessFlags := 33
  super := sup
  interfaces := #[]
  cf := none
  fields := #[]
  methods := #[]
  instanceTypes := #[]
  staticTypes := #[]
  resolved := #[]
  callSites := []
  init := .initialized
  statics := none
  mirror := none

def pool0 : Array CpInfo := pool [(5, u "<init>"), (0, u "()V"), (1, .class_ 10), (1, u "java/lang/Object")] 113

def k0c0 : Code := { maxStack := 0, maxLocals := 1, code := object_method_1_code, exceptionTable := #[], attributes := #[] }
def k0m0 : Method := { name := "<init>", desc := "()V", sig := { parameters := [], returnType := none }, accessFlags := 1, code := some k0c0 }
/-- java/lang/Object -/
def k0 : Class := { plain "java/lang/Object" none with
  accessFlags := 33
  interfaces := #[]
  cf := some (fileOf pool0 8 #[] #[{ accessFlags := 1, nameIndex := 5, descriptorIndex := 6, attributes := #[] }] 33 0 #[] #[])
  fields := #[]
  methods := #[k0m0]
  instanceTypes := #[]
  staticTypes := #[]
  resolved := Array.replicate 124 none
  statics := none }

def pool1 : Array CpInfo := pool [(2, .class_ 4), (1, u "java/lang/Object"), (0, u "<init>"), (0, u "()V"), (0, .long 255), (1, .methodref 10 11), (0, .class_ 12), (0, .nameAndType 13 14), (0, u "com/example/aprox/aprox/ByteReaderReadVLongPinLaw"), (0, u "raw"), (0, u "(JJI)I"), (0, .integer 2147483647), (0, .methodref 10 17), (0, .nameAndType 18 19), (0, u "adj"), (0, u "(JJIII)B"), (0, .methodref 10 21), (0, .nameAndType 22 23), (0, u "term"), (0, u "([BIII)J"), (0, .class_ 25), (0, u "com/example/aprox/aprox/ByteReader"), (0, .methodref 24 27), (0, .nameAndType 5 28), (0, u "([BI)V"), (0, .methodref 24 30), (0, .nameAndType 31 32), (0, u "readVLong"), (0, u "()J"), (0, .methodref 24 34), (0, .nameAndType 35 36), (0, u "position"), (0, u "()I"), (3, u "law"), (0, u "(JJII)Z")] 4

def k1m0 : Method := { name := "<init>", desc := "()V", sig := { parameters := [], returnType := none }, accessFlags := 1, code := none }
def k1c1 : Code := { maxStack := 5, maxLocals := 5, code := method_2_code, exceptionTable := #[], attributes := #[] }
def k1m1 : Method := { name := "raw", desc := "(JJI)I", sig := { parameters := [.long, .long, .int], returnType := some .int }, accessFlags := 10, code := some k1c1 }
def k1c2 : Code := { maxStack := 5, maxLocals := 9, code := method_3_code, exceptionTable := #[], attributes := #[] }
def k1m2 : Method := { name := "adj", desc := "(JJIII)B", sig := { parameters := [.long, .long, .int, .int, .int], returnType := some .byte }, accessFlags := 10, code := some k1c2 }
def k1c3 : Code := { maxStack := 4, maxLocals := 4, code := method_4_code, exceptionTable := #[], attributes := #[] }
def k1m3 : Method := { name := "term", desc := "([BIII)J", sig := { parameters := [(.array .byte), .int, .int, .int], returnType := some .long }, accessFlags := 10, code := some k1c3 }
def k1c4 : Code := { maxStack := 9, maxLocals := 14, code := code, exceptionTable := #[], attributes := #[] }
def k1m4 : Method := { name := "law", desc := "(JJII)Z", sig := { parameters := [.long, .long, .int, .int], returnType := some .boolean }, accessFlags := 9, code := some k1c4 }
/-- com/example/aprox/aprox/ByteReaderReadVLongPinLaw -/
def k1 : Class := { plain "com/example/aprox/aprox/ByteReaderReadVLongPinLaw" (some 0) with
  accessFlags := 49
  interfaces := #[]
  cf := some (fileOf pool1 10 #[] #[{ accessFlags := 1, nameIndex := 5, descriptorIndex := 6, attributes := #[] }, { accessFlags := 10, nameIndex := 13, descriptorIndex := 14, attributes := #[] }, { accessFlags := 10, nameIndex := 18, descriptorIndex := 19, attributes := #[] }, { accessFlags := 10, nameIndex := 22, descriptorIndex := 23, attributes := #[] }, { accessFlags := 9, nameIndex := 40, descriptorIndex := 41, attributes := #[] }] 49 2 #[] #[])
  fields := #[]
  methods := #[k1m0, k1m1, k1m2, k1m3, k1m4]
  instanceTypes := #[]
  staticTypes := #[]
  resolved := Array.replicate 46 none
  statics := none }

def pool2 : Array CpInfo := pool [(1, .methodref 2 3), (0, .class_ 4), (0, .nameAndType 5 6), (0, u "java/lang/Object"), (0, u "<init>"), (0, u "()V"), (0, .fieldref 8 9), (0, .class_ 10), (0, .nameAndType 11 12), (0, u "com/example/aprox/aprox/ByteReader"), (0, u "bytes"), (0, u "[B"), (0, .fieldref 8 14), (0, .nameAndType 15 16), (0, u "position"), (0, u "I"), (2, u "readVLong"), (0, u "()J"), (14, u "LITTLE_ENDIAN_LONGS"), (0, u "Ljava/lang/invoke/VarHandle;"), (16, u "()I"), (37, u "([BI)V")] 26

def k2c0 : Code := { maxStack := 2, maxLocals := 3, code := prog_5_method_1_code, exceptionTable := #[], attributes := #[] }
def k2m0 : Method := { name := "<init>", desc := "([BI)V", sig := { parameters := [(.array .byte), .int], returnType := none }, accessFlags := 0, code := some k2c0 }
def k2c1 : Code := { maxStack := 1, maxLocals := 1, code := prog_5_method_2_code, exceptionTable := #[], attributes := #[] }
def k2m1 : Method := { name := "position", desc := "()I", sig := { parameters := [], returnType := some .int }, accessFlags := 0, code := some k2c1 }
def k2c2 : Code := { maxStack := 5, maxLocals := 5, code := prog_5_method_4_code, exceptionTable := #[], attributes := #[] }
def k2m2 : Method := { name := "readVLong", desc := "()J", sig := { parameters := [], returnType := some .long }, accessFlags := 0, code := some k2c2 }
/-- com/example/aprox/aprox/ByteReader -/
def k2 : Class := { plain "com/example/aprox/aprox/ByteReader" (some 0) with
  accessFlags := 32
  interfaces := #[]
  cf := some (fileOf pool2 8 #[] #[{ accessFlags := 0, nameIndex := 5, descriptorIndex := 91, attributes := #[] }, { accessFlags := 0, nameIndex := 15, descriptorIndex := 53, attributes := #[] }, { accessFlags := 0, nameIndex := 19, descriptorIndex := 20, attributes := #[] }] 32 2 #[] #[{ accessFlags := 26, nameIndex := 35, descriptorIndex := 36, attributes := #[] }, { accessFlags := 18, nameIndex := 11, descriptorIndex := 12, attributes := #[] }, { accessFlags := 2, nameIndex := 15, descriptorIndex := 16, attributes := #[] }])
  fields := #[{ name := "LITTLE_ENDIAN_LONGS", type := (.object "java/lang/invoke/VarHandle"), accessFlags := 26, slot := 0, constantValue := 0 }, { name := "bytes", type := (.array .byte), accessFlags := 18, slot := 0, constantValue := 0 }, { name := "position", type := .int, accessFlags := 2, slot := 1, constantValue := 0 }]
  methods := #[k2m0, k2m1, k2m2]
  instanceTypes := #[(.array .byte), .int]
  staticTypes := #[(.object "java/lang/invoke/VarHandle")]
  resolved := Array.replicate 118 none
  statics := none }

def pool3 : Array CpInfo := pool [(1, u "java/lang/Cloneable"), (0, .class_ 1), (0, u "java/lang/Object"), (0, .class_ 3)] 3

/-- java/lang/Cloneable -/
def k3 : Class := { plain "java/lang/Cloneable" (some 0) with
  accessFlags := 1537
  interfaces := #[]
  cf := some (fileOf pool3 2 #[] #[] 1537 4 #[] #[])
  fields := #[]
  methods := #[]
  instanceTypes := #[]
  staticTypes := #[]
  resolved := Array.replicate 8 none
  statics := none }

def pool4 : Array CpInfo := pool [(1, u "java/io/Serializable"), (0, .class_ 1), (0, u "java/lang/Object"), (0, .class_ 3)] 3

/-- java/io/Serializable -/
def k4 : Class := { plain "java/io/Serializable" (some 0) with
  accessFlags := 1537
  interfaces := #[]
  cf := some (fileOf pool4 2 #[] #[] 1537 4 #[] #[])
  fields := #[]
  methods := #[]
  instanceTypes := #[]
  staticTypes := #[]
  resolved := Array.replicate 8 none
  statics := none }

/-- the primitive byte -/
def k5 : Class := { plain "byte" none with kind := .primitive 'B', accessFlags := 0x411 }
/-- [B -/
def k6 : Class := { plain "[B" (some 0) with kind := .array 5 .byte, interfaces := #[3, 4], accessFlags := 1041 }

/-- the primitive int -/
def k7 : Class := { plain "int" none with kind := .primitive 'I', accessFlags := 0x411 }
/-- [I -/
def k8 : Class := { plain "[I" (some 0) with kind := .array 7 .int, interfaces := #[3, 4], accessFlags := 1041 }

def heap : Heap := #[]
def classes : Array Class := #[k0, k1, k2, k3, k4, k5, k6, k7, k8]
def interned : List (Array UInt16 × Addr) := []
def slotsUsed : Nat := 0
def theMethod : MethodId := ⟨1, 4⟩
def args0 : Array Value := #[.long 5, .long 5, .int 5, .int 5]
def aboutOver (below : List Frame) : State where
  vm := { classes := classes, interned := interned.toArray }
  heap := heap
  slotsUsed := slotsUsed
  threads := #[{ frames := .invoking theMethod args0 :: below }]
def below0 : List Frame := [.native { method := ⟨0, 0⟩, args := #[] }]
def about1 : State := aboutOver below0
def p0 : Program := .bare "" "" ""
def e0 : Env := launch0.env 0 0 0
theorem w_frames : about1.frames = Frame.invoking theMethod args0 :: below0 := rfl
set_option maxRecDepth 65536 in
theorem w_args : argsFit about1.vm theMethod args0 = true := by decide +kernel
set_option maxRecDepth 65536 in
theorem w_heap : heapFits about1 = true := by decide +kernel
set_option maxRecDepth 65536 in
theorem w_runnable : about1.curStatus? = some .runnable := by decide +kernel
set_option maxRecDepth 65536 in
theorem w_alone : about1.alone = true := by decide +kernel
set_option maxRecDepth 65536 in
theorem w_named : about1.methodNamed? x = some theMethod := by decide +kernel
set_option maxRecDepth 65536 in
theorem w_hears : about1.hears theMethod below0 = true := by decide +kernel
set_option maxRecDepth 65536 in
theorem w_ripe : about1.ripe theMethod args0 below0 = true := by decide +kernel
theorem w_running : about1.status = .running := rfl
set_option maxRecDepth 65536 in
theorem w_room : about1.hasRoom e0.platform room_1 = true :=
  launch0.hasRoom_least _ room_1 (by decide +kernel) (by decide +kernel) (by decide +kernel) (by decide +kernel) (by decide +kernel) (by decide +kernel)
theorem allAtoms_all (ts : List Jvm.Cond) (a : Array Jvm.Value) (st : Jvm.State) : (allAtoms ts).before a st = ts.all (fun c => c.before a st) := by
  induction ts with
  | nil => rfl
  | cons c t ih =>
    show (Jvm.Cond.and c (allAtoms t)).before a st = _
    rw [Jvm.Cond.before_and, ih, List.all_cons]
def words1 : List Jvm.Cond := Jvm.Cond.code x code maxLocals ret :: tables_1
/-- a 'code' word, met by the world's own term for the bytes: nothing is compared byte by byte -/
theorem code_word {y : MethodName} {bytes : ByteArray} {mx : Nat} {rt : Option FieldType} {a : Array Value} {s : State} {m : MethodId} {meth : Method} {c : Code} (h1 : s.methodNamed? y = some m) (h2 : s.vm.method? m = some meth) (h3 : meth.code = some c) (h4 : c.code = bytes)
    (h5 : (c.maxLocals == mx && c.exceptionTable.isEmpty && decide (c.maxStack ≤ mostOperands) && decide (meth.sig.returnType = rt) && !meth.locks && decide (parseMethodDescriptor y.desc = some meth.sig)) = true) : (Jvm.Cond.code y bytes mx rt).before a s = true := by
  simp only [Bool.and_eq_true, beq_iff_eq, Bool.not_eq_true', decide_eq_true_eq] at h5
  obtain ⟨⟨⟨⟨⟨g1, g2⟩, g3⟩, g4⟩, g5⟩, g6⟩ := h5
  simp [Cond.before, Cond.holds, Cond.value, h1, h2, h3, h4, g1, g2, g3, g4, g5, g6]
def isCode : Jvm.Cond → Bool
  | .code _ _ _ _ => true
  | _ => false
theorem all_split {L : List Jvm.Cond} {P : Jvm.Cond → Bool} (h1 : L.all (fun c => isCode c || P c) = true) (h2 : ∀ c ∈ L.filter isCode, P c = true) : L.all P = true := by
  refine List.all_eq_true.mpr fun c hc => ?_
  have h := List.all_eq_true.mp h1 c hc
  rcases Bool.eq_false_or_eq_true (isCode c) with hi | hi
  · exact h2 c (List.mem_filter.mpr ⟨hc, hi⟩)
  · simpa [hi] using h
set_option maxRecDepth 65536 in
theorem w_c0 : (Jvm.Cond.code x code maxLocals ret).before args0 about1 = true := code_word (m := ⟨1, 4⟩) (meth := k1m4) (c := k1c4) (by decide +kernel) rfl rfl rfl (by decide +kernel)
set_option maxRecDepth 65536 in
theorem w_c1 : (Jvm.Cond.code ({ cls := "com/example/aprox/aprox/ByteReaderReadVLongPinLaw", name := "adj", desc := "(JJIII)B" } : Jvm.MethodName) method_3_code (9 : Nat) (Option.some Jvm.ClassFile.FieldType.byte)).before args0 about1 = true := code_word (m := ⟨1, 2⟩) (meth := k1m2) (c := k1c2) (by decide +kernel) rfl rfl rfl (by decide +kernel)
set_option maxRecDepth 65536 in
theorem w_c2 : (Jvm.Cond.code ({ cls := "com/example/aprox/aprox/ByteReaderReadVLongPinLaw", name := "raw", desc := "(JJI)I" } : Jvm.MethodName) method_2_code (5 : Nat) (Option.some Jvm.ClassFile.FieldType.int)).before args0 about1 = true := code_word (m := ⟨1, 1⟩) (meth := k1m1) (c := k1c1) (by decide +kernel) rfl rfl rfl (by decide +kernel)
set_option maxRecDepth 65536 in
theorem w_c3 : (Jvm.Cond.code ({ cls := "com/example/aprox/aprox/ByteReaderReadVLongPinLaw", name := "term", desc := "([BIII)J" } : Jvm.MethodName) method_4_code (4 : Nat) (Option.some Jvm.ClassFile.FieldType.long)).before args0 about1 = true := code_word (m := ⟨1, 3⟩) (meth := k1m3) (c := k1c3) (by decide +kernel) rfl rfl rfl (by decide +kernel)
set_option maxRecDepth 65536 in
theorem w_c4 : (Jvm.Cond.code ({ cls := "com/example/aprox/aprox/ByteReader", name := "<init>", desc := "([BI)V" } : Jvm.MethodName) prog_5_method_1_code (3 : Nat) (Option.none : Option Jvm.ClassFile.FieldType)).before args0 about1 = true := code_word (m := ⟨2, 0⟩) (meth := k2m0) (c := k2c0) (by decide +kernel) rfl rfl rfl (by decide +kernel)
set_option maxRecDepth 65536 in
theorem w_c5 : (Jvm.Cond.code ({ cls := "java/lang/Object", name := "<init>", desc := "()V" } : Jvm.MethodName) object_method_1_code (1 : Nat) (Option.none : Option Jvm.ClassFile.FieldType)).before args0 about1 = true := code_word (m := ⟨0, 0⟩) (meth := k0m0) (c := k0c0) (by decide +kernel) rfl rfl rfl (by decide +kernel)
set_option maxRecDepth 65536 in
theorem w_c6 : (Jvm.Cond.code ({ cls := "com/example/aprox/aprox/ByteReader", name := "readVLong", desc := "()J" } : Jvm.MethodName) prog_5_method_4_code (5 : Nat) (Option.some Jvm.ClassFile.FieldType.long)).before args0 about1 = true := code_word (m := ⟨2, 2⟩) (meth := k2m2) (c := k2c2) (by decide +kernel) rfl rfl rfl (by decide +kernel)
set_option maxRecDepth 65536 in
theorem w_c7 : (Jvm.Cond.code ({ cls := "com/example/aprox/aprox/ByteReader", name := "position", desc := "()I" } : Jvm.MethodName) prog_5_method_2_code (1 : Nat) (Option.some Jvm.ClassFile.FieldType.int)).before args0 about1 = true := code_word (m := ⟨2, 1⟩) (meth := k2m1) (c := k2c1) (by decide +kernel) rfl rfl rfl (by decide +kernel)
def codes1 : List Jvm.Cond := [Jvm.Cond.code x code maxLocals ret, Jvm.Cond.code ({ cls := "com/example/aprox/aprox/ByteReaderReadVLongPinLaw", name := "adj", desc := "(JJIII)B" } : Jvm.MethodName) method_3_code (9 : Nat) (Option.some Jvm.ClassFile.FieldType.byte), Jvm.Cond.code ({ cls := "com/example/aprox/aprox/ByteReaderReadVLongPinLaw", name := "raw", desc := "(JJI)I" } : Jvm.MethodName) method_2_code (5 : Nat) (Option.some Jvm.ClassFile.FieldType.int), Jvm.Cond.code ({ cls := "com/example/aprox/aprox/ByteReaderReadVLongPinLaw", name := "term", desc := "([BIII)J" } : Jvm.MethodName) method_4_code (4 : Nat) (Option.some Jvm.ClassFile.FieldType.long), Jvm.Cond.code ({ cls := "com/example/aprox/aprox/ByteReader", name := "<init>", desc := "([BI)V" } : Jvm.MethodName) prog_5_method_1_code (3 : Nat) (Option.none : Option Jvm.ClassFile.FieldType), Jvm.Cond.code ({ cls := "java/lang/Object", name := "<init>", desc := "()V" } : Jvm.MethodName) object_method_1_code (1 : Nat) (Option.none : Option Jvm.ClassFile.FieldType), Jvm.Cond.code ({ cls := "com/example/aprox/aprox/ByteReader", name := "readVLong", desc := "()J" } : Jvm.MethodName) prog_5_method_4_code (5 : Nat) (Option.some Jvm.ClassFile.FieldType.long), Jvm.Cond.code ({ cls := "com/example/aprox/aprox/ByteReader", name := "position", desc := "()I" } : Jvm.MethodName) prog_5_method_2_code (1 : Nat) (Option.some Jvm.ClassFile.FieldType.int)]
set_option maxRecDepth 65536 in
theorem codes_eq : words1.filter isCode = codes1 := rfl
theorem w_codes : ∀ c ∈ words1.filter isCode, c.before args0 about1 = true := by
  rw [codes_eq]
  intro c hc
  simp only [codes1, List.mem_cons, List.not_mem_nil, or_false] at hc
  rcases hc with rfl | rfl | rfl | rfl | rfl | rfl | rfl | rfl
  · exact w_c0
  · exact w_c1
  · exact w_c2
  · exact w_c3
  · exact w_c4
  · exact w_c5
  · exact w_c6
  · exact w_c7
set_option maxRecDepth 65536 in
theorem w_t1 : (words1.take 24).all (fun c => isCode c || c.before args0 about1) = true := by decide +kernel
set_option maxRecDepth 65536 in
theorem w_t2 : (words1.drop 24).all (fun c => isCode c || c.before args0 about1) = true := by decide +kernel
theorem w_tables : (allAtoms (Jvm.Cond.code x code maxLocals ret :: tables_1)).before args0 about1 = true := by
  rw [allAtoms_all]
  show words1.all (fun c => c.before args0 about1) = true
  refine all_split ?_ w_codes
  rw [← List.take_append_drop 24 words1, List.all_append, w_t1, w_t2]
  rfl
set_option maxRecDepth 65536 in
theorem w_case : (Jvm.Cond.and given_1 narrow_1).before args0 about1 = true := by decide +kernel
theorem w_applies : (headSpec (Jvm.Cond.code x code maxLocals ret :: tables_1) room_1).applies x e0.platform about1 = true :=
  (Spec.applies_iff w_frames).mpr ⟨w_running, w_runnable, w_alone, w_named, w_hears, w_ripe, w_room, w_tables⟩
theorem atStart : AtStart classFile x code maxLocals ret World_1 tables_1 room_1 Calls_1 rest_1 Pre_1 launch0 p0 e0 about1 theMethod args0 below0 :=
  ⟨lists_1, trivial, launch0.admits_env _ _ _, launch0.least_env, fairChoices_fair.cas, fairChoices_fair.clock, w_frames, w_args, w_heap, w_applies, trivial, trivial, w_case⟩
end start1
theorem witness_1 : WitnessClaimed_1 := ⟨start1.p0, start1.e0, start1.about1, start1.theMethod, start1.args0, start1.below0, start1.atStart⟩
end Jvm.Pilot.@@N@@
