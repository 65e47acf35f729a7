import JvmDerived
import JvmDerived.Pilot.@@N@@Statement
import JvmDerived.Pilot.@@N@@Code
set_option linter.unusedVariables false
set_option linter.unusedSimpArgs false

namespace Jvm.Pilot.@@N@@
open Jvm Jvm.ClassFile Sem Op Lib Jvm.Free Jvm.Stand Jvm.LawKit Jvm.RoadKit Bundle Jvm.Pilot.@@N@@.Jvm.D
/-! own kit: the walk's goal carried forward, arrays as functions -/
def own_Fin (below : List Frame) (s : State) (Q : Option Value → Heap → List Loc → Prop) (k n : Nat) (t : State) : Prop :=
  ∃ o, t.status = .running ∧ Ended t below o ∧ ∃ v L, o = .returned v ∧ Q v t.heap L ∧ FrameEnd s o t L k n
def own_Go (tb : Tables) (e : Env) (below : List Frame) (S : State) (P : State → Prop) : Prop := ∃ t, Steps tb e below S t ∧ P t
theorem own_by {tb : Tables} {e : Env} {below : List Frame} {S S' : State} {P : State → Prop} (k : ∀ t, Steps tb e below S' t → Steps tb e below S t) (h : own_Go tb e below S' P) : own_Go tb e below S P := by
  obtain ⟨t, a, b⟩ := h
  exact ⟨t, k t a, b⟩
theorem own_tr {tb : Tables} {e : Env} {below : List Frame} {S S' : State} {P : State → Prop} (k : Steps tb e below S S') (h : own_Go tb e below S' P) : own_Go tb e below S P := by
  obtain ⟨t, a, b⟩ := h
  exact ⟨t, k.trans a, b⟩
theorem own_out {tb : Tables} {e : Env} {below : List Frame} {S s : State} {Q : Option Value → Heap → List Loc → Prop} {k n : Nat} (h : own_Go tb e below S (own_Fin below s Q k n)) :
    ∃ s₂ o, Steps tb e below S s₂ ∧ s₂.status = .running ∧ Ended s₂ below o ∧ ∃ v L, o = .returned v ∧ Q v s₂.heap L ∧ FrameEnd s o s₂ L k n := by
  obtain ⟨t, a, o, b, c, d⟩ := h
  exact ⟨t, o, a, b, c, d⟩
theorem own_cast {tb : Tables} {e : Env} {below : List Frame} {T : State} {g g' : JFrame} {P : State → Prop} (q : g = g') (h : own_Go tb e below (T.setTop g') P) : own_Go tb e below (T.setTop g) P := q ▸ h
section OwnEnd
variable {p : Program} {l : Launch} {e : Env} {R : Room} {s : State} {m : MethodId} {args : Array Value} {below : List Frame} {meth : Method} {c : Code} {T : State} {locs : List Loc} {cells slots : Nat} {Q : Option Value → Heap → List Loc → Prop} {k n : Nat}
theorem own_ret (X : Stand p l e R s m args below meth c T locs cells slots) (hx : p.tables.exec = Jvm.exec) (hlocks : meth.locks = false) {pc : Nat} {Ls : Array Slot} {w : Value} {t : FieldType} {i : Instr} {rest : List Value} (hret : meth.sig.returnType = some t) (hn : narrow t w = w)
    (hi : (i = .ireturn ∧ (t = .int ∨ t = .boolean ∨ t = .byte ∨ t = .char ∨ t = .short) ∧ ∃ z, w = .int z) ∨ (i = .lreturn ∧ t = .long ∧ ∃ z, w = .long z) ∨ (i = .dreturn ∧ t = .double ∧ ∃ z, w = .double z) ∨ (i = .freturn ∧ t = .float ∧ ∃ z, w = .float z) ∨ (i = .areturn ∧ t.isReference = true ∧ w.isRef = true))
    (hd : decode c.code pc = .ok (i, 1)) (hQ : Q (some w) T.heap locs) (h1 : cells ≤ k) (h2 : slots ≤ n) :
    own_Go p.tables e below (T.setTop (mkF m pc Ls (w :: rest))) (own_Fin below s Q k n) := by
  obtain ⟨fs, hr, hrun, hended, hW, hsame⟩ := X.leave (v := some w) (fun h => by rw [hret] at h; cases h) hlocks
  exact ⟨_, retOut X hx hret hn hi hd hr, _, hrun, hended, _, _, rfl, hQ, ⟨_, rfl⟩, hW, hsame.mono h1 h2⟩
theorem own_retI (X : Stand p l e R s m args below meth c T locs cells slots) (hx : p.tables.exec = Jvm.exec) (hlocks : meth.locks = false) {pc : Nat} {Ls : Array Slot} {z : Int32} {rest : List Value} (hret : meth.sig.returnType = some .int)
    (hd : decode c.code pc = .ok (.ireturn, 1)) (hQ : Q (some (.int z)) T.heap locs) (h1 : cells ≤ k) (h2 : slots ≤ n) :
    own_Go p.tables e below (T.setTop (mkF m pc Ls (.int z :: rest))) (own_Fin below s Q k n) :=
  own_ret X hx hlocks hret rfl (Or.inl ⟨rfl, Or.inl rfl, _, rfl⟩) hd hQ h1 h2
theorem own_retJ (X : Stand p l e R s m args below meth c T locs cells slots) (hx : p.tables.exec = Jvm.exec) (hlocks : meth.locks = false) {pc : Nat} {Ls : Array Slot} {z : Int64} {rest : List Value} (hret : meth.sig.returnType = some .long)
    (hd : decode c.code pc = .ok (.lreturn, 1)) (hQ : Q (some (.long z)) T.heap locs) (h1 : cells ≤ k) (h2 : slots ≤ n) :
    own_Go p.tables e below (T.setTop (mkF m pc Ls (.long z :: rest))) (own_Fin below s Q k n) :=
  own_ret X hx hlocks hret rfl (Or.inr (Or.inl ⟨rfl, rfl, _, rfl⟩)) hd hQ h1 h2
theorem own_retA (X : Stand p l e R s m args below meth c T locs cells slots) (hx : p.tables.exec = Jvm.exec) (hlocks : meth.locks = false) {pc : Nat} {Ls : Array Slot} {w : Value} {t : FieldType} {rest : List Value} (hret : meth.sig.returnType = some t) (ht : t.isReference = true) (hw : w.isRef = true) (hn : narrow t w = w)
    (hd : decode c.code pc = .ok (.areturn, 1)) (hQ : Q (some w) T.heap locs) (h1 : cells ≤ k) (h2 : slots ≤ n) :
    own_Go p.tables e below (T.setTop (mkF m pc Ls (w :: rest))) (own_Fin below s Q k n) :=
  own_ret X hx hlocks hret hn (Or.inr (Or.inr (Or.inr (Or.inr ⟨rfl, ht, hw⟩)))) hd hQ h1 h2
theorem own_retN (X : Stand p l e R s m args below meth c T locs cells slots) (hx : p.tables.exec = Jvm.exec) (hlocks : meth.locks = false) {pc : Nat} {Ls : Array Slot} {z : Int32} {t : FieldType} {rest : List Value} (hret : meth.sig.returnType = some t) (ht : t = .boolean ∨ t = .byte ∨ t = .char ∨ t = .short) (hn : nar t z = z)
    (hd : decode c.code pc = .ok (.ireturn, 1)) (hQ : Q (some (.int z)) T.heap locs) (h1 : cells ≤ k) (h2 : slots ≤ n) :
    own_Go p.tables e below (T.setTop (mkF m pc Ls (.int z :: rest))) (own_Fin below s Q k n) := by
  obtain ⟨fs, hr, hrun, hended, hW, hsame⟩ := X.leave (v := some (.int (nar t z))) (fun h => by rw [hret] at h; cases h) hlocks
  exact ⟨_, retN X hx hret ht hd hr, _, hrun, hended, _, _, rfl, (by rw [hn]; exact hQ), ⟨_, rfl⟩, hW, hsame.mono h1 h2⟩
theorem own_retV (X : Stand p l e R s m args below meth c T locs cells slots) (hx : p.tables.exec = Jvm.exec) (hlocks : meth.locks = false) {pc : Nat} {Ls : Array Slot} (hret : meth.sig.returnType = none)
    (hd : decode c.code pc = .ok (.return_, 1)) (hQ : Q none T.heap locs) (h1 : cells ≤ k) (h2 : slots ≤ n) :
    own_Go p.tables e below (T.setTop (mkF m pc Ls [])) (own_Fin below s Q k n) := by
  obtain ⟨fs, hr, hrun, hended, hW, hsame⟩ := X.leave (v := none) (fun _ => rfl) hlocks
  exact ⟨_, X.returnOut hx hret hd hr, _, hrun, hended, _, _, rfl, hQ, ⟨_, rfl⟩, hW, hsame.mono h1 h2⟩
end OwnEnd
/-- one place of a function changed -/
def own_upd {α : Type} (f : Nat → α) (k : Nat) (x : α) : Nat → α := fun i => if i = k then x else f i
theorem own_upd_at {α : Type} (f : Nat → α) (k : Nat) (x : α) : own_upd f k x k = x := by simp [own_upd]
theorem own_upd_ne {α : Type} (f : Nat → α) {k i : Nat} (x : α) (h : i ≠ k) : own_upd f k x i = f i := by simp [own_upd, h]
/-- an array: its length, and what each place holds -/
def own_AF (Z : State) (h : Heap) (a : Addr) (ty : FieldType) (n : Nat) (f : Nat → Value) : Prop := ∃ c : Cell, Arr Z h a c ty ∧ c.slots.size = n ∧ ∀ i, i < n → c.slots[i]? = some (f i)
def own_AI (Z : State) (h : Heap) (a : Addr) (ty : FieldType) (n : Nat) (b : Nat → Int32) : Prop := own_AF Z h a ty n (fun i => .int (b i))
def own_AJ (Z : State) (h : Heap) (a : Addr) (n : Nat) (b : Nat → Int64) : Prop := own_AF Z h a .long n (fun i => .long (b i))
section OwnArr
variable {Z : State} {h h' : Heap} {a b : Addr} {ty : FieldType} {n : Nat} {f : Nat → Value} {ws : List Addr} {sl : Nat} {v : Value} {bi : Nat → Int32} {bj : Nat → Int64}
theorem own_AF.lt (F : own_AF Z h a ty n f) : a < h.size := by obtain ⟨c, A, -⟩ := F; exact A.lt
theorem own_AF.ext (F : own_AF Z h a ty n f) (E : Ext h h') : own_AF Z h' a ty n f := by obtain ⟨c, A, r⟩ := F; exact ⟨c, A.ext E, r⟩
theorem own_AF.other (F : own_AF Z h b ty n f) (W : Wr h h' a sl v) (q : b ≠ a) : own_AF Z h' b ty n f := by obtain ⟨c, A, r⟩ := F; exact ⟨c, A.other W q, r⟩
theorem own_AF.keep (F : own_AF Z h a ty n f) (K : Keep h h' ws) (q : a ∉ ws) : own_AF Z h' a ty n f := by obtain ⟨c, A, r⟩ := F; exact ⟨c, ⟨K.2.1 a c A.1 q, A.2⟩, r⟩
theorem own_AF.congr (F : own_AF Z h a ty n f) {f' : Nat → Value} (q : ∀ i, i < n → f i = f' i) : own_AF Z h a ty n f' := by obtain ⟨c, A, S, r⟩ := F; exact ⟨c, A, S, fun i hi => by rw [← q i hi]; exact r i hi⟩
theorem own_AF.new {k : ClassId} {z : Int32} (A : Arr Z h a (newA k ty z) ty) (hz : z.toNatClampNeg = n) : own_AF Z h a ty n (fun _ => defaultValue ty) := by
  subst hz
  exact ⟨_, A, sz_new _ _ _, fun i hi => by simp [newA, hi]⟩
theorem own_AF.st (F : own_AF Z h a ty n f) (W : Wr h h' a sl v) : own_AF Z h' a ty n (own_upd f sl v) := by
  obtain ⟨c, A, S, r⟩ := F
  refine ⟨_, A.same W, by rw [sz_set]; exact S, fun i hi => ?_⟩
  by_cases u : i = sl
  · subst u; rw [own_upd_at]; simp [Cell.setSlot, S, hi]
  · rw [own_upd_ne _ _ u]
    simp only [Cell.setSlot]
    rw [Array.getElem?_setIfInBounds_ne (fun q => u q.symm)]; exact r i hi
theorem own_AI.st {x : Int32} (F : own_AI Z h a ty n bi) (W : Wr h h' a sl (.int x)) : own_AI Z h' a ty n (own_upd bi sl x) :=
  (own_AF.st F W).congr fun i _ => by by_cases u : i = sl <;> simp [own_upd, u]
theorem own_AJ.st {x : Int64} (F : own_AJ Z h a n bj) (W : Wr h h' a sl (.long x)) : own_AJ Z h' a n (own_upd bj sl x) :=
  (own_AF.st F W).congr fun i _ => by by_cases u : i = sl <;> simp [own_upd, u]
theorem own_AI.lt (F : own_AI Z h a ty n bi) : a < h.size := own_AF.lt F
theorem own_AI.ext (F : own_AI Z h a ty n bi) (E : Ext h h') : own_AI Z h' a ty n bi := own_AF.ext F E
theorem own_AI.other (F : own_AI Z h b ty n bi) (W : Wr h h' a sl v) (q : b ≠ a) : own_AI Z h' b ty n bi := own_AF.other F W q
theorem own_AI.keep (F : own_AI Z h a ty n bi) (K : Keep h h' ws) (q : a ∉ ws) : own_AI Z h' a ty n bi := own_AF.keep F K q
theorem own_AI.congr (F : own_AI Z h a ty n bi) {b' : Nat → Int32} (q : ∀ i, i < n → bi i = b' i) : own_AI Z h a ty n b' := own_AF.congr F fun i hi => by rw [q i hi]
theorem own_AJ.lt (F : own_AJ Z h a n bj) : a < h.size := own_AF.lt F
theorem own_AJ.ext (F : own_AJ Z h a n bj) (E : Ext h h') : own_AJ Z h' a n bj := own_AF.ext F E
theorem own_AJ.other (F : own_AJ Z h b n bj) (W : Wr h h' a sl v) (q : b ≠ a) : own_AJ Z h' b n bj := own_AF.other F W q
theorem own_AJ.keep (F : own_AJ Z h a n bj) (K : Keep h h' ws) (q : a ∉ ws) : own_AJ Z h' a n bj := own_AF.keep F K q
theorem own_AJ.congr (F : own_AJ Z h a n bj) {b' : Nat → Int64} (q : ∀ i, i < n → bj i = b' i) : own_AJ Z h a n b' := own_AF.congr F fun i hi => by rw [q i hi]
variable {p : Program} {l : Launch} {e : Env} {R : Room} {s : State} {m : MethodId} {args : Array Value} {below : List Frame} {meth : Method} {c : Code} {T : State} {locs : List Loc} {cells slots : Nat} {j : Int32} {k : Nat} {g : JFrame} {rest : List Value}
theorem own_in {cl : Cell} (S : cl.slots.size = n) (h0 : ¬ j < 0) (hk : j.toNatClampNeg = k) (hlt : k < n) : ¬ (j < 0 ∨ cl.slots.size ≤ j.toNatClampNeg) := by
  rintro (q | q)
  · exact h0 q
  · rw [S, hk] at q; omega
theorem own_ldB (X : Stand p l e R s m args below meth c T locs cells slots) (hx : p.tables.exec = Jvm.exec) (hZ : Z.Warmed39 s.vm) (eT : T.heap = h) (A : own_AI Z h a .byte n bi) (h0 : ¬ j < 0) (hk : j.toNatClampNeg = k) (hlt : k < n) (hg : g.method = m) (hs : g.stack = .int j :: .ref a :: rest) (hd : decode c.code g.pc = .ok (.baload, 1)) :
    ∀ target, Steps p.tables e below (T.setTop { g with pc := g.pc + 1, stack := .int (bi k) :: rest }) target → Steps p.tables e below (T.setTop g) target := by
  obtain ⟨cl, Ar, S, H⟩ := A
  exact X.baloadBytes hx (v := .int (bi k)) (by rw [eT]; exact Ar.1) (State.isArrayOf_alike hZ.alike Ar.2.1) Ar.2.2 (own_in S h0 hk hlt) (by rw [hk]; exact H k hlt) hg hs hd
theorem own_ldI (X : Stand p l e R s m args below meth c T locs cells slots) (hx : p.tables.exec = Jvm.exec) (hZ : Z.Warmed39 s.vm) (eT : T.heap = h) (A : own_AI Z h a .int n bi) (h0 : ¬ j < 0) (hk : j.toNatClampNeg = k) (hlt : k < n) (hg : g.method = m) (hs : g.stack = .int j :: .ref a :: rest) (hd : decode c.code g.pc = .ok (.iaload, 1)) :
    ∀ target, Steps p.tables e below (T.setTop { g with pc := g.pc + 1, stack := .int (bi k) :: rest }) target → Steps p.tables e below (T.setTop g) target := by
  obtain ⟨cl, Ar, S, H⟩ := A
  exact X.iaload hx (v := .int (bi k)) (by rw [eT]; exact Ar.1) (State.isArrayOf_alike hZ.alike Ar.2.1) Ar.2.2 (own_in S h0 hk hlt) (by rw [hk]; exact H k hlt) hg hs hd
theorem own_ldJ (X : Stand p l e R s m args below meth c T locs cells slots) (hx : p.tables.exec = Jvm.exec) (hZ : Z.Warmed39 s.vm) (eT : T.heap = h) (A : own_AJ Z h a n bj) (h0 : ¬ j < 0) (hk : j.toNatClampNeg = k) (hlt : k < n) (hg : g.method = m) (hs : g.stack = .int j :: .ref a :: rest) (hd : decode c.code g.pc = .ok (.laload, 1)) :
    ∀ target, Steps p.tables e below (T.setTop { g with pc := g.pc + 1, stack := .long (bj k) :: rest }) target → Steps p.tables e below (T.setTop g) target := by
  obtain ⟨cl, Ar, S, H⟩ := A
  exact X.laload hx (v := .long (bj k)) (by rw [eT]; exact Ar.1) (State.isArrayOf_alike hZ.alike Ar.2.1) Ar.2.2 (own_in S h0 hk hlt) (by rw [hk]; exact H k hlt) hg hs hd
theorem own_len (X : Stand p l e R s m args below meth c T locs cells slots) (hx : p.tables.exec = Jvm.exec) (hZ : Z.Warmed39 s.vm) (eT : T.heap = h) (A : own_AF Z h a ty n f) {z : Int32} (hz : n.toInt32 = z) (hg : g.method = m) (hs : g.stack = .ref a :: rest) (hd : decode c.code g.pc = .ok (.arraylength, 1)) :
    ∀ target, Steps p.tables e below (T.setTop { g with pc := g.pc + 1, stack := .int z :: rest }) target → Steps p.tables e below (T.setTop g) target := by
  obtain ⟨cl, Ar, S, H⟩ := A
  intro t hr
  refine X.arraylength hx (by rw [eT]; exact Ar.1) (State.isArrayOf_alike hZ.alike Ar.2.1) hg hs hd t ?_
  rw [S, hz]; exact hr
theorem own_stB (X : Stand p l e R s m args below meth c T locs cells slots) (hx : p.tables.exec = Jvm.exec) (hZ : Z.Warmed39 s.vm) (eT : T.heap = h) (A : own_AI Z h a .byte n bi) {x : Int32} (h0 : ¬ j < 0) (hk : j.toNatClampNeg = k) (hlt : k < n) (hg : g.method = m) (hs : g.stack = .int x :: .int j :: .ref a :: rest) (hd : decode c.code g.pc = .ok (.bastore, 1)) :
    ∃ T' h', Stand p l e R s m args below meth c T' (locs ++ [⟨a, k⟩]) cells slots ∧ T'.heap = h' ∧ Wr h h' a k (.int (x.toInt8.toInt32)) ∧ own_AI Z h' a .byte n (own_upd bi k (x.toInt8.toInt32)) ∧ ∀ target, Steps p.tables e below (T'.setTop { g with pc := g.pc + 1, stack := rest }) target → Steps p.tables e below (T.setTop g) target := by
  obtain ⟨cl, Ar, S, H⟩ := id A
  obtain ⟨T', h', X', e', W, st⟩ := stB X hx hZ eT Ar (own_in S h0 hk hlt) hg hs hd
  rw [hk] at X' W
  exact ⟨T', h', X', e', W, A.st W, st⟩
theorem own_stI (X : Stand p l e R s m args below meth c T locs cells slots) (hx : p.tables.exec = Jvm.exec) (hZ : Z.Warmed39 s.vm) (eT : T.heap = h) (A : own_AI Z h a .int n bi) {x : Int32} (h0 : ¬ j < 0) (hk : j.toNatClampNeg = k) (hlt : k < n) (hg : g.method = m) (hs : g.stack = .int x :: .int j :: .ref a :: rest) (hd : decode c.code g.pc = .ok (.iastore, 1)) :
    ∃ T' h', Stand p l e R s m args below meth c T' (locs ++ [⟨a, k⟩]) cells slots ∧ T'.heap = h' ∧ Wr h h' a k (.int x) ∧ own_AI Z h' a .int n (own_upd bi k x) ∧ ∀ target, Steps p.tables e below (T'.setTop { g with pc := g.pc + 1, stack := rest }) target → Steps p.tables e below (T.setTop g) target := by
  obtain ⟨cl, Ar, S, H⟩ := id A
  obtain ⟨T', h', X', e', W, st⟩ := stI X hx hZ eT Ar (own_in S h0 hk hlt) hg hs hd
  rw [hk] at X' W
  exact ⟨T', h', X', e', W, A.st W, st⟩
theorem own_stJ (X : Stand p l e R s m args below meth c T locs cells slots) (hx : p.tables.exec = Jvm.exec) (hZ : Z.Warmed39 s.vm) (eT : T.heap = h) (A : own_AJ Z h a n bj) {x : Int64} (h0 : ¬ j < 0) (hk : j.toNatClampNeg = k) (hlt : k < n) (hg : g.method = m) (hs : g.stack = .long x :: .int j :: .ref a :: rest) (hd : decode c.code g.pc = .ok (.lastore, 1)) :
    ∃ T' h', Stand p l e R s m args below meth c T' (locs ++ [⟨a, k⟩]) cells slots ∧ T'.heap = h' ∧ Wr h h' a k (.long x) ∧ own_AJ Z h' a n (own_upd bj k x) ∧ ∀ target, Steps p.tables e below (T'.setTop { g with pc := g.pc + 1, stack := rest }) target → Steps p.tables e below (T.setTop g) target := by
  obtain ⟨cl, Ar, S, H⟩ := id A
  obtain ⟨T', h', X', e', W, st⟩ := stJ X hx hZ eT Ar (own_in S h0 hk hlt) hg hs hd
  rw [hk] at X' W
  exact ⟨T', h', X', e', W, A.st W, st⟩
end OwnArr
/-- what a body leaves that returns an int (a long) and writes nothing -/
def own_QI (h0 : Heap) (n0 : Nat) (f : Int32) (v : Option Value) (h : Heap) (L : List Loc) : Prop := ∃ r : Int32, v = some (.int r) ∧ Fr n0 L ∧ h = h0 ∧ r = f
def own_QJ (h0 : Heap) (n0 : Nat) (f : Int64) (v : Option Value) (h : Heap) (L : List Loc) : Prop := ∃ r : Int64, v = some (.long r) ∧ Fr n0 L ∧ h = h0 ∧ r = f
theorem own_nb {z : Int32} (h : z = 0 ∨ z = 1) : nar .boolean z = z := by rcases h with rfl | rfl <;> decide
/-! sums, differences and products that don't wrap -/
theorem own_add {x y : Int32} (h1 : -2147483648 ≤ x.toInt + y.toInt) (h2 : x.toInt + y.toInt < 2147483648) : (x + y).toInt = x.toInt + y.toInt := by
  have a := c_iadd x y; have b := (x + y).toInt_lt; have c := (x + y).le_toInt; omega
theorem own_sub' {x y : Int32} (h1 : -2147483648 ≤ x.toInt - y.toInt) (h2 : x.toInt - y.toInt < 2147483648) : (x - y).toInt = x.toInt - y.toInt := by
  have a := c_isub x y; have b := (x - y).toInt_lt; have c := (x - y).le_toInt; omega
theorem own_mul {x y : Int32} {t : Int} (ht : x.toInt * y.toInt = t) (h1 : -2147483648 ≤ t) (h2 : t < 2147483648) : (x * y).toInt = t := by
  have a := c_imul x y; rw [ht] at a; have b := (x * y).toInt_lt; have c := (x * y).le_toInt; omega
theorem own_addL {x y : Int64} (h1 : -9223372036854775808 ≤ x.toInt + y.toInt) (h2 : x.toInt + y.toInt < 9223372036854775808) : (x + y).toInt = x.toInt + y.toInt := by
  have a := c_ladd x y; have b := (x + y).toInt_lt; have c := (x + y).le_toInt; omega
theorem own_subL {x y : Int64} (h1 : -9223372036854775808 ≤ x.toInt - y.toInt) (h2 : x.toInt - y.toInt < 9223372036854775808) : (x - y).toInt = x.toInt - y.toInt := by
  have a := c_lsub x y; have b := (x - y).toInt_lt; have c := (x - y).le_toInt; omega
theorem own_mulL {x y : Int64} {t : Int} (ht : x.toInt * y.toInt = t) (h1 : -9223372036854775808 ≤ t) (h2 : t < 9223372036854775808) : (x * y).toInt = t := by
  have a := c_lmul x y; rw [ht] at a; have b := (x * y).toInt_lt; have c := (x * y).le_toInt; omega
def own_el (x0 : Int32) : Int32 := if ((x0.toUInt32 >>> ((7 : Int32) &&& 31).toUInt32).toInt32) = (0 : Int32) then (1 : Int32) else (if ((x0.toUInt32 >>> ((14 : Int32) &&& 31).toUInt32).toInt32) = (0 : Int32) then (2 : Int32) else (if ((x0.toUInt32 >>> ((21 : Int32) &&& 31).toUInt32).toInt32) = (0 : Int32) then (3 : Int32) else (if ((x0.toUInt32 >>> ((28 : Int32) &&& 31).toUInt32).toInt32) = (0 : Int32) then (4 : Int32) else (5 : Int32))))
def own_gr (x0 k n : Int32) : Int32 := (if k < (n - (1 : Int32)) then ((((x0.toUInt32 >>> (((7 : Int32) * k) &&& 31).toUInt32).toInt32) &&& (127 : Int32)) ||| (128 : Int32)) else (((x0.toUInt32 >>> (((7 : Int32) * k) &&& 31).toUInt32).toInt32) &&& (127 : Int32)))
def own_rd (f : Nat → Int32) : Nat → Nat → Int32 → Int32 → Int32
  | p, 0, va, sh => va ||| (f p <<< (sh &&& 31))
  | p, k + 1, va, sh => own_rd f (p + 1) k (va ||| ((f p &&& (127 : Int32)) <<< (sh &&& 31))) (sh + (7 : Int32))
theorem own_i2b {x y : Int32} (h : (x.toInt - y.toInt) % 256 = 0) : x.toInt8.toInt32 = y.toInt8.toInt32 := by
  have a := c_i2b x; have b := c_i2b y
  apply Int32.toInt_inj.mp
  omega
theorem own_bb (x : Int32) : x.toInt8.toInt32.toInt8.toInt32 = x.toInt8.toInt32 := own_i2b (by have := c_i2b x; omega)
theorem own_nat {n : Nat} (h : n < 1000) : (Int32.ofNat n).toInt = n := Int32.toInt_ofNat_small (by omega)
theorem own_ixN {i : Int32} {j : Nat} (hi : i = Int32.ofNat j) (h : j < 9) : (¬ i < 0) ∧ i.toNatClampNeg = j := by
  have e : i.toInt = j := by rw [hi]; exact own_nat (by omega)
  have z : (0 : Int32).toInt = 0 := by decide
  refine ⟨by rw [Int32.lt_iff_toInt_lt, e, z]; omega, ?_⟩
  show i.toInt.toNat = j
  rw [e]; omega
theorem own_succN {i : Int32} {j : Nat} (hi : i = Int32.ofNat j) : (i + (1 : Int32)) = Int32.ofNat (j + 1) := by rw [hi]; exact (Int32.ofNat_add j 1).symm
theorem own_addN {i c : Int32} {j k : Nat} (hi : i = Int32.ofNat j) (hc : c = Int32.ofNat k) : (i + c) = Int32.ofNat (j + k) := by rw [hi, hc]; exact (Int32.ofNat_add j k).symm
theorem own_P {ps p : Int32} (h : p = (ps &&& (3 : Int32))) : ∃ PP : Nat, PP ≤ 3 ∧ p = Int32.ofNat PP := by
  have m := c_mask ps 3 2 (by decide) (by decide)
  rw [← h] at m
  refine ⟨p.toInt.toNat, by omega, ?_⟩
  apply Int32.toInt_inj.mp
  rw [own_nat (by omega)]; omega
def own_c1 (x0 : Int32) : Prop := (x0.toInt % 4294967296) / 128 = 0
def own_c2 (x0 : Int32) : Prop := (x0.toInt % 4294967296) / 16384 = 0
def own_c3 (x0 : Int32) : Prop := (x0.toInt % 4294967296) / 2097152 = 0
def own_c4 (x0 : Int32) : Prop := (x0.toInt % 4294967296) / 268435456 = 0
def own_c5 (x0 : Int32) : Prop := True
theorem own_us (x0 q : Int32) (k : Nat) (hq : q.toBitVec.toNat % 32 = k) (hk : 0 < k) (h : ((x0.toUInt32 >>> (q &&& 31).toUInt32).toInt32) = (0 : Int32)) : (x0.toInt % 4294967296) / (2 ^ k : Nat) = 0 := by
  have := c_iushr x0 q k hq hk
  rw [h] at this; rw [← this]; decide
theorem own_el5 {x0 n : Int32} (h : n = own_el x0) : (n = 1 ∧ own_c1 x0) ∨ (n = 2 ∧ own_c2 x0) ∨ (n = 3 ∧ own_c3 x0) ∨ (n = 4 ∧ own_c4 x0) ∨ (n = 5 ∧ own_c5 x0) := by
  unfold own_el at h
  split at h
  · rename_i q; exact Or.inl ⟨h, own_us x0 7 7 (by decide) (by decide) q⟩
  · split at h
    · rename_i q; exact Or.inr (Or.inl ⟨h, own_us x0 14 14 (by decide) (by decide) q⟩)
    · split at h
      · rename_i q; exact Or.inr (Or.inr (Or.inl ⟨h, own_us x0 21 21 (by decide) (by decide) q⟩))
      · split at h
        · rename_i q; exact Or.inr (Or.inr (Or.inr (Or.inl ⟨h, own_us x0 28 28 (by decide) (by decide) q⟩)))
        · exact Or.inr (Or.inr (Or.inr (Or.inr ⟨h, trivial⟩)))
/-- the i-th group of seven bits -/
theorem own_g (x0 : Int32) : ∀ i, i < 4 → (((x0.toUInt32 >>> (((7 : Int32) * (Int32.ofNat i)) &&& 31).toUInt32).toInt32) &&& (127 : Int32)).toInt = (x0.toInt % 4294967296) / (2 ^ (7 * i) : Nat) % 128 := by
  intro i hi
  have m := c_mask ((x0.toUInt32 >>> (((7 : Int32) * (Int32.ofNat i)) &&& 31).toUInt32).toInt32) 127 7 (by decide) (by decide)
  rw [m]
  match i, hi with
  | 0, _ =>
    have e : (x0.toUInt32 >>> (((7 : Int32) * (Int32.ofNat 0)) &&& 31).toUInt32).toInt32 = x0 := by
      rw [show (((7 : Int32) * (Int32.ofNat 0)) &&& 31).toUInt32 = 0 by decide]; simp
    rw [e]; omega
  | 1, _ => rw [c_iushr x0 _ 7 (by decide) (by decide)]; omega
  | 2, _ => rw [c_iushr x0 _ 14 (by decide) (by decide)]; omega
  | 3, _ => rw [c_iushr x0 _ 21 (by decide) (by decide)]; omega
theorem own_lt {a b : Nat} (h : a < b) (hb : b < 1000) : Int32.ofNat a < Int32.ofNat b := by
  rw [Int32.lt_iff_toInt_lt, own_nat (by omega), own_nat hb]; omega
theorem own_grc (x0 : Int32) (i N : Nat) (hi : i + 1 < N) (hN : N ≤ 5) : (own_gr x0 (Int32.ofNat i) (Int32.ofNat N)).toInt = (x0.toInt % 4294967296) / (2 ^ (7 * i) : Nat) % 128 + 128 := by
  have g := own_g x0 i (by omega)
  have l : (Int32.ofNat i) < (Int32.ofNat N - (1 : Int32)) := by
    have e : Int32.ofNat N - (1 : Int32) = Int32.ofNat (N - 1) := by
      match N, hi, hN with
      | 2, _, _ => decide
      | 3, _, _ => decide
      | 4, _, _ => decide
      | 5, _, _ => decide
    rw [e]; exact own_lt (by omega) (by omega)
  unfold own_gr
  rw [if_pos l]
  have o := c_or' (((x0.toUInt32 >>> (((7 : Int32) * (Int32.ofNat i)) &&& 31).toUInt32).toInt32) &&& (127 : Int32)) 128 7 (by decide) 128 (by decide) (by decide) (by omega) (by omega)
  have e : (128 : Int32).toInt = 128 := by decide
  rw [e, g] at o
  have b1 := ((((x0.toUInt32 >>> (((7 : Int32) * (Int32.ofNat i)) &&& 31).toUInt32).toInt32) &&& (127 : Int32)) ||| (128 : Int32)).toInt_lt
  have b2 := ((((x0.toUInt32 >>> (((7 : Int32) * (Int32.ofNat i)) &&& 31).toUInt32).toInt32) &&& (127 : Int32)) ||| (128 : Int32)).le_toInt
  omega
theorem own_cont (x0 : Int32) (i N : Nat) (hi : i + 1 < N) (hN : N ≤ 5) : ((own_gr x0 (Int32.ofNat i) (Int32.ofNat N)).toInt8.toInt32 &&& (127 : Int32)).toInt = (x0.toInt % 4294967296) / (2 ^ (7 * i) : Nat) % 128 := by
  have g := own_grc x0 i N hi hN
  have b := c_i2b (own_gr x0 (Int32.ofNat i) (Int32.ofNat N))
  have m := c_mask (own_gr x0 (Int32.ofNat i) (Int32.ofNat N)).toInt8.toInt32 127 7 (by decide) (by decide)
  rw [m]; omega
theorem own_neg' (x0 : Int32) (i N : Nat) (hi : i + 1 < N ∧ N ≤ 5) : (own_gr x0 (Int32.ofNat i) (Int32.ofNat N)).toInt8.toInt32 < (0 : Int32) := by
  have g := own_grc x0 i N hi.1 hi.2
  have b := c_i2b (own_gr x0 (Int32.ofNat i) (Int32.ofNat N))
  have e : (0 : Int32).toInt = 0 := by decide
  rw [Int32.lt_iff_toInt_lt, e]; omega
theorem own_last (x0 : Int32) (i : Nat) (hi : i < 4) : ((own_gr x0 (Int32.ofNat i) (Int32.ofNat (i + 1))).toInt8.toInt32).toInt = (x0.toInt % 4294967296) / (2 ^ (7 * i) : Nat) % 128 := by
  have g := own_g x0 i hi
  have l : ¬ (Int32.ofNat i) < (Int32.ofNat (i + 1) - (1 : Int32)) := by
    match i, hi with
    | 0, _ => decide
    | 1, _ => decide
    | 2, _ => decide
    | 3, _ => decide
  have b := c_i2b (own_gr x0 (Int32.ofNat i) (Int32.ofNat (i + 1)))
  have e : (own_gr x0 (Int32.ofNat i) (Int32.ofNat (i + 1))).toInt = (x0.toInt % 4294967296) / (2 ^ (7 * i) : Nat) % 128 := by
    unfold own_gr; rw [if_neg l]; exact g
  omega
theorem own_last4 (x0 : Int32) : (((x0.toUInt32 >>> ((28 : Int32) &&& 31).toUInt32).toInt32).toInt8.toInt32).toInt = (x0.toInt % 4294967296) / 268435456 := by
  have c := c_iushr x0 28 28 (by decide) (by decide)
  have b := c_i2b ((x0.toUInt32 >>> ((28 : Int32) &&& 31).toUInt32).toInt32)
  omega
theorem own_psN (x0 : Int32) (i : Nat) (hi : i < 4) : ¬ (own_gr x0 (Int32.ofNat i) (Int32.ofNat (i + 1))).toInt8.toInt32 < (0 : Int32) := by
  have e : (0 : Int32).toInt = 0 := by decide
  have := own_last x0 i hi
  rw [Int32.lt_iff_toInt_lt, e]; omega
theorem own_ps1 {x0 : Int32} (h : own_c1 x0) : ¬ (own_gr x0 (0 : Int32) (1 : Int32)).toInt8.toInt32 < (0 : Int32) := own_psN x0 0 (by decide)
theorem own_ps2 {x0 : Int32} (h : own_c2 x0) : ¬ (own_gr x0 (1 : Int32) (2 : Int32)).toInt8.toInt32 < (0 : Int32) := own_psN x0 1 (by decide)
theorem own_ps3 {x0 : Int32} (h : own_c3 x0) : ¬ (own_gr x0 (2 : Int32) (3 : Int32)).toInt8.toInt32 < (0 : Int32) := own_psN x0 2 (by decide)
theorem own_ps4 {x0 : Int32} (h : own_c4 x0) : ¬ (own_gr x0 (3 : Int32) (4 : Int32)).toInt8.toInt32 < (0 : Int32) := own_psN x0 3 (by decide)
theorem own_ps5 {x0 : Int32} (h : own_c5 x0) : ¬ (((x0.toUInt32 >>> ((28 : Int32) &&& 31).toUInt32).toInt32).toInt8.toInt32) < (0 : Int32) := by
  have e : (0 : Int32).toInt = 0 := by decide
  have := own_last4 x0
  rw [Int32.lt_iff_toInt_lt, e]; omega
theorem own_neg {x0 c n : Int32} (h : ∃ i N : Nat, i + 1 < N ∧ N ≤ 5 ∧ c = Int32.ofNat i ∧ n = Int32.ofNat N) : (own_gr x0 c n).toInt8.toInt32 < (0 : Int32) := by
  obtain ⟨i, N, h1, h2, rfl, rfl⟩ := h
  exact own_neg' x0 i N ⟨h1, h2⟩
theorem own_v1 (x0 : Int32) (f : Nat → Int32) (PP : Nat) (hx : own_c1 x0) (w0 : f (PP + 0) = (own_gr x0 (0 : Int32) (1 : Int32)).toInt8.toInt32) : own_rd f PP 0 0 0 = x0 := by
  show ((0 : Int32) ||| (f (PP + 0) <<< ((0 : Int32) &&& 31))) = x0
  rw [w0]
  have z0 : (0 : Int32).toInt = 0 := by decide
  unfold own_c1 at hx
  have b0 : ((own_gr x0 (0 : Int32) (1 : Int32)).toInt8.toInt32).toInt = (x0.toInt % 4294967296) / 1 % 128 := own_last x0 0 (by decide)
  have s0 := c_ishl ((own_gr x0 (0 : Int32) (1 : Int32)).toInt8.toInt32) (0 : Int32) 0 (by decide)
  generalize ((own_gr x0 (0 : Int32) (1 : Int32)).toInt8.toInt32 <<< ((0 : Int32) &&& 31)) = t0 at *
  have g0 := t0.toInt_lt; have l0 := t0.le_toInt
  rw [Int32.zero_or]
  have xg := x0.toInt_lt; have xl := x0.le_toInt
  apply Int32.toInt_inj.mp
  omega
theorem own_v2 (x0 : Int32) (f : Nat → Int32) (PP : Nat) (hx : own_c2 x0) (w0 : f (PP + 0) = (own_gr x0 (0 : Int32) (2 : Int32)).toInt8.toInt32) (w1 : f (PP + 1) = (own_gr x0 (1 : Int32) (2 : Int32)).toInt8.toInt32) : own_rd f PP 1 0 0 = x0 := by
  show (((0 : Int32) ||| ((f (PP + 0) &&& (127 : Int32)) <<< ((0 : Int32) &&& 31))) ||| (f (PP + 1) <<< (((0 : Int32) + (7 : Int32)) &&& 31))) = x0
  rw [w0, w1]
  have z0 : (0 : Int32).toInt = 0 := by decide
  unfold own_c2 at hx
  have b0 : ((own_gr x0 (0 : Int32) (2 : Int32)).toInt8.toInt32 &&& (127 : Int32)).toInt = (x0.toInt % 4294967296) / 1 % 128 := own_cont x0 0 2 (by decide) (by decide)
  have s0 := c_ishl ((own_gr x0 (0 : Int32) (2 : Int32)).toInt8.toInt32 &&& (127 : Int32)) (0 : Int32) 0 (by decide)
  generalize (((own_gr x0 (0 : Int32) (2 : Int32)).toInt8.toInt32 &&& (127 : Int32)) <<< ((0 : Int32) &&& 31)) = t0 at *
  have g0 := t0.toInt_lt; have l0 := t0.le_toInt
  rw [Int32.zero_or]
  have b1 : ((own_gr x0 (1 : Int32) (2 : Int32)).toInt8.toInt32).toInt = (x0.toInt % 4294967296) / 128 % 128 := own_last x0 1 (by decide)
  have s1 := c_ishl ((own_gr x0 (1 : Int32) (2 : Int32)).toInt8.toInt32) ((0 : Int32) + (7 : Int32)) 7 (by decide)
  generalize ((own_gr x0 (1 : Int32) (2 : Int32)).toInt8.toInt32 <<< (((0 : Int32) + (7 : Int32)) &&& 31)) = t1 at *
  have g1 := t1.toInt_lt; have l1 := t1.le_toInt
  have o1 := c_or' t0 t1 7 (by decide) 128 (by decide) (by omega) (by omega) (by omega)
  have og1 := (t0 ||| t1).toInt_lt; have ol1 := (t0 ||| t1).le_toInt
  generalize (t0 ||| t1) = u1 at *
  have xg := x0.toInt_lt; have xl := x0.le_toInt
  apply Int32.toInt_inj.mp
  omega
theorem own_v3 (x0 : Int32) (f : Nat → Int32) (PP : Nat) (hx : own_c3 x0) (w0 : f (PP + 0) = (own_gr x0 (0 : Int32) (3 : Int32)).toInt8.toInt32) (w1 : f (PP + 1) = (own_gr x0 (1 : Int32) (3 : Int32)).toInt8.toInt32) (w2 : f (PP + 2) = (own_gr x0 (2 : Int32) (3 : Int32)).toInt8.toInt32) : own_rd f PP 2 0 0 = x0 := by
  show ((((0 : Int32) ||| ((f (PP + 0) &&& (127 : Int32)) <<< ((0 : Int32) &&& 31))) ||| ((f (PP + 1) &&& (127 : Int32)) <<< (((0 : Int32) + (7 : Int32)) &&& 31))) ||| (f (PP + 2) <<< ((((0 : Int32) + (7 : Int32)) + (7 : Int32)) &&& 31))) = x0
  rw [w0, w1, w2]
  have z0 : (0 : Int32).toInt = 0 := by decide
  unfold own_c3 at hx
  have b0 : ((own_gr x0 (0 : Int32) (3 : Int32)).toInt8.toInt32 &&& (127 : Int32)).toInt = (x0.toInt % 4294967296) / 1 % 128 := own_cont x0 0 3 (by decide) (by decide)
  have s0 := c_ishl ((own_gr x0 (0 : Int32) (3 : Int32)).toInt8.toInt32 &&& (127 : Int32)) (0 : Int32) 0 (by decide)
  generalize (((own_gr x0 (0 : Int32) (3 : Int32)).toInt8.toInt32 &&& (127 : Int32)) <<< ((0 : Int32) &&& 31)) = t0 at *
  have g0 := t0.toInt_lt; have l0 := t0.le_toInt
  rw [Int32.zero_or]
  have b1 : ((own_gr x0 (1 : Int32) (3 : Int32)).toInt8.toInt32 &&& (127 : Int32)).toInt = (x0.toInt % 4294967296) / 128 % 128 := own_cont x0 1 3 (by decide) (by decide)
  have s1 := c_ishl ((own_gr x0 (1 : Int32) (3 : Int32)).toInt8.toInt32 &&& (127 : Int32)) ((0 : Int32) + (7 : Int32)) 7 (by decide)
  generalize (((own_gr x0 (1 : Int32) (3 : Int32)).toInt8.toInt32 &&& (127 : Int32)) <<< (((0 : Int32) + (7 : Int32)) &&& 31)) = t1 at *
  have g1 := t1.toInt_lt; have l1 := t1.le_toInt
  have o1 := c_or' t0 t1 7 (by decide) 128 (by decide) (by omega) (by omega) (by omega)
  have og1 := (t0 ||| t1).toInt_lt; have ol1 := (t0 ||| t1).le_toInt
  generalize (t0 ||| t1) = u1 at *
  have b2 : ((own_gr x0 (2 : Int32) (3 : Int32)).toInt8.toInt32).toInt = (x0.toInt % 4294967296) / 16384 % 128 := own_last x0 2 (by decide)
  have s2 := c_ishl ((own_gr x0 (2 : Int32) (3 : Int32)).toInt8.toInt32) (((0 : Int32) + (7 : Int32)) + (7 : Int32)) 14 (by decide)
  generalize ((own_gr x0 (2 : Int32) (3 : Int32)).toInt8.toInt32 <<< ((((0 : Int32) + (7 : Int32)) + (7 : Int32)) &&& 31)) = t2 at *
  have g2 := t2.toInt_lt; have l2 := t2.le_toInt
  have o2 := c_or' u1 t2 14 (by decide) 16384 (by decide) (by omega) (by omega) (by omega)
  have og2 := (u1 ||| t2).toInt_lt; have ol2 := (u1 ||| t2).le_toInt
  generalize (u1 ||| t2) = u2 at *
  have xg := x0.toInt_lt; have xl := x0.le_toInt
  apply Int32.toInt_inj.mp
  omega
theorem own_v4 (x0 : Int32) (f : Nat → Int32) (PP : Nat) (hx : own_c4 x0) (w0 : f (PP + 0) = (own_gr x0 (0 : Int32) (4 : Int32)).toInt8.toInt32) (w1 : f (PP + 1) = (own_gr x0 (1 : Int32) (4 : Int32)).toInt8.toInt32) (w2 : f (PP + 2) = (own_gr x0 (2 : Int32) (4 : Int32)).toInt8.toInt32) (w3 : f (PP + 3) = (own_gr x0 (3 : Int32) (4 : Int32)).toInt8.toInt32) : own_rd f PP 3 0 0 = x0 := by
  show (((((0 : Int32) ||| ((f (PP + 0) &&& (127 : Int32)) <<< ((0 : Int32) &&& 31))) ||| ((f (PP + 1) &&& (127 : Int32)) <<< (((0 : Int32) + (7 : Int32)) &&& 31))) ||| ((f (PP + 2) &&& (127 : Int32)) <<< ((((0 : Int32) + (7 : Int32)) + (7 : Int32)) &&& 31))) ||| (f (PP + 3) <<< (((((0 : Int32) + (7 : Int32)) + (7 : Int32)) + (7 : Int32)) &&& 31))) = x0
  rw [w0, w1, w2, w3]
  have z0 : (0 : Int32).toInt = 0 := by decide
  unfold own_c4 at hx
  have b0 : ((own_gr x0 (0 : Int32) (4 : Int32)).toInt8.toInt32 &&& (127 : Int32)).toInt = (x0.toInt % 4294967296) / 1 % 128 := own_cont x0 0 4 (by decide) (by decide)
  have s0 := c_ishl ((own_gr x0 (0 : Int32) (4 : Int32)).toInt8.toInt32 &&& (127 : Int32)) (0 : Int32) 0 (by decide)
  generalize (((own_gr x0 (0 : Int32) (4 : Int32)).toInt8.toInt32 &&& (127 : Int32)) <<< ((0 : Int32) &&& 31)) = t0 at *
  have g0 := t0.toInt_lt; have l0 := t0.le_toInt
  rw [Int32.zero_or]
  have b1 : ((own_gr x0 (1 : Int32) (4 : Int32)).toInt8.toInt32 &&& (127 : Int32)).toInt = (x0.toInt % 4294967296) / 128 % 128 := own_cont x0 1 4 (by decide) (by decide)
  have s1 := c_ishl ((own_gr x0 (1 : Int32) (4 : Int32)).toInt8.toInt32 &&& (127 : Int32)) ((0 : Int32) + (7 : Int32)) 7 (by decide)
  generalize (((own_gr x0 (1 : Int32) (4 : Int32)).toInt8.toInt32 &&& (127 : Int32)) <<< (((0 : Int32) + (7 : Int32)) &&& 31)) = t1 at *
  have g1 := t1.toInt_lt; have l1 := t1.le_toInt
  have o1 := c_or' t0 t1 7 (by decide) 128 (by decide) (by omega) (by omega) (by omega)
  have og1 := (t0 ||| t1).toInt_lt; have ol1 := (t0 ||| t1).le_toInt
  generalize (t0 ||| t1) = u1 at *
  have b2 : ((own_gr x0 (2 : Int32) (4 : Int32)).toInt8.toInt32 &&& (127 : Int32)).toInt = (x0.toInt % 4294967296) / 16384 % 128 := own_cont x0 2 4 (by decide) (by decide)
  have s2 := c_ishl ((own_gr x0 (2 : Int32) (4 : Int32)).toInt8.toInt32 &&& (127 : Int32)) (((0 : Int32) + (7 : Int32)) + (7 : Int32)) 14 (by decide)
  generalize (((own_gr x0 (2 : Int32) (4 : Int32)).toInt8.toInt32 &&& (127 : Int32)) <<< ((((0 : Int32) + (7 : Int32)) + (7 : Int32)) &&& 31)) = t2 at *
  have g2 := t2.toInt_lt; have l2 := t2.le_toInt
  have o2 := c_or' u1 t2 14 (by decide) 16384 (by decide) (by omega) (by omega) (by omega)
  have og2 := (u1 ||| t2).toInt_lt; have ol2 := (u1 ||| t2).le_toInt
  generalize (u1 ||| t2) = u2 at *
  have b3 : ((own_gr x0 (3 : Int32) (4 : Int32)).toInt8.toInt32).toInt = (x0.toInt % 4294967296) / 2097152 % 128 := own_last x0 3 (by decide)
  have s3 := c_ishl ((own_gr x0 (3 : Int32) (4 : Int32)).toInt8.toInt32) ((((0 : Int32) + (7 : Int32)) + (7 : Int32)) + (7 : Int32)) 21 (by decide)
  generalize ((own_gr x0 (3 : Int32) (4 : Int32)).toInt8.toInt32 <<< (((((0 : Int32) + (7 : Int32)) + (7 : Int32)) + (7 : Int32)) &&& 31)) = t3 at *
  have g3 := t3.toInt_lt; have l3 := t3.le_toInt
  have o3 := c_or' u2 t3 21 (by decide) 2097152 (by decide) (by omega) (by omega) (by omega)
  have og3 := (u2 ||| t3).toInt_lt; have ol3 := (u2 ||| t3).le_toInt
  generalize (u2 ||| t3) = u3 at *
  have xg := x0.toInt_lt; have xl := x0.le_toInt
  apply Int32.toInt_inj.mp
  omega
theorem own_v5 (x0 : Int32) (f : Nat → Int32) (PP : Nat) (hx : own_c5 x0) (w0 : f (PP + 0) = (own_gr x0 (0 : Int32) (5 : Int32)).toInt8.toInt32) (w1 : f (PP + 1) = (own_gr x0 (1 : Int32) (5 : Int32)).toInt8.toInt32) (w2 : f (PP + 2) = (own_gr x0 (2 : Int32) (5 : Int32)).toInt8.toInt32) (w3 : f (PP + 3) = (own_gr x0 (3 : Int32) (5 : Int32)).toInt8.toInt32) (w4 : f (PP + 4) = ((x0.toUInt32 >>> ((28 : Int32) &&& 31).toUInt32).toInt32).toInt8.toInt32) : own_rd f PP 4 0 0 = x0 := by
  show ((((((0 : Int32) ||| ((f (PP + 0) &&& (127 : Int32)) <<< ((0 : Int32) &&& 31))) ||| ((f (PP + 1) &&& (127 : Int32)) <<< (((0 : Int32) + (7 : Int32)) &&& 31))) ||| ((f (PP + 2) &&& (127 : Int32)) <<< ((((0 : Int32) + (7 : Int32)) + (7 : Int32)) &&& 31))) ||| ((f (PP + 3) &&& (127 : Int32)) <<< (((((0 : Int32) + (7 : Int32)) + (7 : Int32)) + (7 : Int32)) &&& 31))) ||| (f (PP + 4) <<< ((((((0 : Int32) + (7 : Int32)) + (7 : Int32)) + (7 : Int32)) + (7 : Int32)) &&& 31))) = x0
  rw [w0, w1, w2, w3, w4]
  have z0 : (0 : Int32).toInt = 0 := by decide
  unfold own_c5 at hx
  have b0 : ((own_gr x0 (0 : Int32) (5 : Int32)).toInt8.toInt32 &&& (127 : Int32)).toInt = (x0.toInt % 4294967296) / 1 % 128 := own_cont x0 0 5 (by decide) (by decide)
  have s0 := c_ishl ((own_gr x0 (0 : Int32) (5 : Int32)).toInt8.toInt32 &&& (127 : Int32)) (0 : Int32) 0 (by decide)
  generalize (((own_gr x0 (0 : Int32) (5 : Int32)).toInt8.toInt32 &&& (127 : Int32)) <<< ((0 : Int32) &&& 31)) = t0 at *
  have g0 := t0.toInt_lt; have l0 := t0.le_toInt
  rw [Int32.zero_or]
  have b1 : ((own_gr x0 (1 : Int32) (5 : Int32)).toInt8.toInt32 &&& (127 : Int32)).toInt = (x0.toInt % 4294967296) / 128 % 128 := own_cont x0 1 5 (by decide) (by decide)
  have s1 := c_ishl ((own_gr x0 (1 : Int32) (5 : Int32)).toInt8.toInt32 &&& (127 : Int32)) ((0 : Int32) + (7 : Int32)) 7 (by decide)
  generalize (((own_gr x0 (1 : Int32) (5 : Int32)).toInt8.toInt32 &&& (127 : Int32)) <<< (((0 : Int32) + (7 : Int32)) &&& 31)) = t1 at *
  have g1 := t1.toInt_lt; have l1 := t1.le_toInt
  have o1 := c_or' t0 t1 7 (by decide) 128 (by decide) (by omega) (by omega) (by omega)
  have og1 := (t0 ||| t1).toInt_lt; have ol1 := (t0 ||| t1).le_toInt
  generalize (t0 ||| t1) = u1 at *
  have b2 : ((own_gr x0 (2 : Int32) (5 : Int32)).toInt8.toInt32 &&& (127 : Int32)).toInt = (x0.toInt % 4294967296) / 16384 % 128 := own_cont x0 2 5 (by decide) (by decide)
  have s2 := c_ishl ((own_gr x0 (2 : Int32) (5 : Int32)).toInt8.toInt32 &&& (127 : Int32)) (((0 : Int32) + (7 : Int32)) + (7 : Int32)) 14 (by decide)
  generalize (((own_gr x0 (2 : Int32) (5 : Int32)).toInt8.toInt32 &&& (127 : Int32)) <<< ((((0 : Int32) + (7 : Int32)) + (7 : Int32)) &&& 31)) = t2 at *
  have g2 := t2.toInt_lt; have l2 := t2.le_toInt
  have o2 := c_or' u1 t2 14 (by decide) 16384 (by decide) (by omega) (by omega) (by omega)
  have og2 := (u1 ||| t2).toInt_lt; have ol2 := (u1 ||| t2).le_toInt
  generalize (u1 ||| t2) = u2 at *
  have b3 : ((own_gr x0 (3 : Int32) (5 : Int32)).toInt8.toInt32 &&& (127 : Int32)).toInt = (x0.toInt % 4294967296) / 2097152 % 128 := own_cont x0 3 5 (by decide) (by decide)
  have s3 := c_ishl ((own_gr x0 (3 : Int32) (5 : Int32)).toInt8.toInt32 &&& (127 : Int32)) ((((0 : Int32) + (7 : Int32)) + (7 : Int32)) + (7 : Int32)) 21 (by decide)
  generalize (((own_gr x0 (3 : Int32) (5 : Int32)).toInt8.toInt32 &&& (127 : Int32)) <<< (((((0 : Int32) + (7 : Int32)) + (7 : Int32)) + (7 : Int32)) &&& 31)) = t3 at *
  have g3 := t3.toInt_lt; have l3 := t3.le_toInt
  have o3 := c_or' u2 t3 21 (by decide) 2097152 (by decide) (by omega) (by omega) (by omega)
  have og3 := (u2 ||| t3).toInt_lt; have ol3 := (u2 ||| t3).le_toInt
  generalize (u2 ||| t3) = u3 at *
  have b4 : (((x0.toUInt32 >>> ((28 : Int32) &&& 31).toUInt32).toInt32).toInt8.toInt32).toInt = (x0.toInt % 4294967296) / 268435456 := own_last4 x0
  have s4 := c_ishl (((x0.toUInt32 >>> ((28 : Int32) &&& 31).toUInt32).toInt32).toInt8.toInt32) (((((0 : Int32) + (7 : Int32)) + (7 : Int32)) + (7 : Int32)) + (7 : Int32)) 28 (by decide)
  generalize (((x0.toUInt32 >>> ((28 : Int32) &&& 31).toUInt32).toInt32).toInt8.toInt32 <<< ((((((0 : Int32) + (7 : Int32)) + (7 : Int32)) + (7 : Int32)) + (7 : Int32)) &&& 31)) = t4 at *
  have g4 := t4.toInt_lt; have l4 := t4.le_toInt
  have o4 := c_or' u3 t4 28 (by decide) 268435456 (by decide) (by omega) (by omega) (by omega)
  have og4 := (u3 ||| t4).toInt_lt; have ol4 := (u3 ||| t4).le_toInt
  generalize (u3 ||| t4) = u4 at *
  have xg := x0.toInt_lt; have xl := x0.le_toInt
  apply Int32.toInt_inj.mp
  omega
theorem d_method_2_0 : decode method_2_code 0 = .ok (.iload_n 0, 1) := by decide +kernel
theorem d_method_2_1 : decode method_2_code 1 = .ok (.bipush 7, 2) := by decide +kernel
theorem d_method_2_3 : decode method_2_code 3 = .ok (.iushr, 1) := by decide +kernel
theorem d_method_2_4 : decode method_2_code 4 = .ok (.ifCond .ne 5, 3) := by decide +kernel
theorem d_method_2_7 : decode method_2_code 7 = .ok (.iconst 1, 1) := by decide +kernel
theorem d_method_2_8 : decode method_2_code 8 = .ok (.ireturn, 1) := by decide +kernel
theorem d_method_2_9 : decode method_2_code 9 = .ok (.iload_n 0, 1) := by decide +kernel
theorem d_method_2_10 : decode method_2_code 10 = .ok (.bipush 14, 2) := by decide +kernel
theorem d_method_2_12 : decode method_2_code 12 = .ok (.iushr, 1) := by decide +kernel
theorem d_method_2_13 : decode method_2_code 13 = .ok (.ifCond .ne 5, 3) := by decide +kernel
theorem d_method_2_16 : decode method_2_code 16 = .ok (.iconst 2, 1) := by decide +kernel
theorem d_method_2_17 : decode method_2_code 17 = .ok (.ireturn, 1) := by decide +kernel
theorem d_method_2_18 : decode method_2_code 18 = .ok (.iload_n 0, 1) := by decide +kernel
theorem d_method_2_19 : decode method_2_code 19 = .ok (.bipush 21, 2) := by decide +kernel
theorem d_method_2_21 : decode method_2_code 21 = .ok (.iushr, 1) := by decide +kernel
theorem d_method_2_22 : decode method_2_code 22 = .ok (.ifCond .ne 5, 3) := by decide +kernel
theorem d_method_2_25 : decode method_2_code 25 = .ok (.iconst 3, 1) := by decide +kernel
theorem d_method_2_26 : decode method_2_code 26 = .ok (.ireturn, 1) := by decide +kernel
theorem d_method_2_27 : decode method_2_code 27 = .ok (.iload_n 0, 1) := by decide +kernel
theorem d_method_2_28 : decode method_2_code 28 = .ok (.bipush 28, 2) := by decide +kernel
theorem d_method_2_30 : decode method_2_code 30 = .ok (.iushr, 1) := by decide +kernel
theorem d_method_2_31 : decode method_2_code 31 = .ok (.ifCond .ne 5, 3) := by decide +kernel
theorem d_method_2_34 : decode method_2_code 34 = .ok (.iconst 4, 1) := by decide +kernel
theorem d_method_2_35 : decode method_2_code 35 = .ok (.ireturn, 1) := by decide +kernel
theorem d_method_2_36 : decode method_2_code 36 = .ok (.iconst 5, 1) := by decide +kernel
theorem d_method_2_37 : decode method_2_code 37 = .ok (.ireturn, 1) := by decide +kernel
theorem ef_rm_el (m : MethodId) (x0 : Int32) : entryFrame m #[(.int x0)] 1 = mkF m 0 #[.val (.int x0)] [] := by first | (simp [entryFrame, mkF, argsToLocals, Value.category]; done) | rfl
theorem pn_26 : plainName "com/example/aprox/aprox/ByteReaderReadVIntPinLaw" = true := by first | (simp [plainName, overriddenIn]; done) | decide +kernel
set_option maxRecDepth 65536 in
set_option maxHeartbeats 40000000 in
theorem rm_el (l : Launch) (Z : State) (a0 : Array Value) (hw : ∀ d ∈ tables_1, d.before a0 Z = true) (zws : List Jvm.Cond) (x0 : Int32) (h0 : Heap) (n0 : Nat) (Z0 : n0 ≤ h0.size)  :
    MetFree l (⟨"com/example/aprox/aprox/ByteReaderReadVIntPinLaw", "encodedLength", "(I)I"⟩ : MethodName) (head1 (Jvm.Cond.code (⟨"com/example/aprox/aprox/ByteReaderReadVIntPinLaw", "encodedLength", "(I)I"⟩ : MethodName) method_2_code 1 (some .int) :: zws) ({ frames := 0, cells := 0, slots := 0, locals := 0 } : Room)) (fun zA zU => zA = #[(.int x0)] ∧ Z.Warmed39 zU.vm ∧ zU.heap = h0) (fun _ _ _ _ _ => True) (fun _ zU zo zW => ∃ zv zL, zo = .returned zv ∧ (own_QI h0 n0 (own_el x0)) zv zW.heap zL ∧ FrameEnd zU zo zW zL ({ frames := 0, cells := 0, slots := 0, locals := 0 } : Room).cells ({ frames := 0, cells := 0, slots := 0, locals := 0 } : Room).slots) := by
  refine MetFree.of_bodySF (plainFor_of_name pn_26) hisR ?_
  intro p e s m args below meth c s₁ Bd hml0 hP hK
  obtain ⟨rfl, hZ, hh⟩ := hP
  have hx := Bd.exec
  have hby := Bd.bytes
  have hml : c.maxLocals = 1 := hml0
  have hown : s.vm.findClass "com/example/aprox/aprox/ByteReaderReadVIntPinLaw" = some m.cls := findClass_of_methodNamed Bd.named
  have hnm := (name_of_methodNamed Bd.named Bd.method).1
  have X0 : Stand p l e ({ frames := 0, cells := 0, slots := 0, locals := 0 } : Room) s m #[(.int x0)] below meth c s₁ [] 0 0 := Stand.of_body Bd
  have e0 : s₁.heap = h0 := by rw [← hh, Bd.state]; rfl
  have N0 := Fr.nil n0
  refine own_out (Q := own_QI h0 n0 (own_el x0)) ?_
  refine own_cast (ef_rm_el m x0) ?_
  show own_Go p.tables e below (s₁.setTop (mkF m 0 #[.val (.int x0)] [])) _
  refine own_by (fun zt zk => XS.iloadN X0.here hx rfl (hb hby d_method_2_0) rfl zk) ?_
  show own_Go p.tables e below (s₁.setTop (mkF m 1 #[.val (.int x0)] [(.int x0)])) _
  refine own_by (fun zt zk => XS.bipush X0.here hx rfl (hb hby d_method_2_1) zk) ?_
  show own_Go p.tables e below (s₁.setTop (mkF m 3 #[.val (.int x0)] [(.int (7 : Int32)), (.int x0)])) _
  refine own_by (fun zt zk => XS.iushr X0.here hx rfl (hb hby d_method_2_3) rfl zk) ?_
  show own_Go p.tables e below (s₁.setTop (mkF m 4 #[.val (.int x0)] [(.int ((x0.toUInt32 >>> ((7 : Int32) &&& 31).toUInt32).toInt32))])) _
  by_cases c1 : ((x0.toUInt32 >>> ((7 : Int32) &&& 31).toUInt32).toInt32) = (0 : Int32)
  · refine own_by (fun zt zk => XS.ifNo X0.here hx rfl (hb hby d_method_2_4) rfl ((if0 _ _).trans (teq c1).2) zk) ?_
    show own_Go p.tables e below (s₁.setTop (mkF m 7 #[.val (.int x0)] [])) _
    refine own_by (fun zt zk => XS.iconst X0.here hx rfl (hb hby d_method_2_7) zk) ?_
    show own_Go p.tables e below (s₁.setTop (mkF m 8 #[.val (.int x0)] [(.int (1 : Int32))])) _
    exact own_retI X0 hx Bd.notSynchronized Bd.returns (hb hby d_method_2_8) (by (try rw [e0]); exact ⟨_, rfl, N0, rfl, (if_pos c1).symm⟩) (by decide) (by decide)
  · refine own_by (fun zt zk => XS.ifYes X0.here hx rfl (pc0 := 4) (pc' := 9) rfl (hb hby d_method_2_4) rfl ((if0 _ _).trans (feq c1).2) (by decide) (by decide) zk) ?_
    show own_Go p.tables e below (s₁.setTop (mkF m 9 #[.val (.int x0)] [])) _
    refine own_by (fun zt zk => XS.iloadN X0.here hx rfl (hb hby d_method_2_9) rfl zk) ?_
    show own_Go p.tables e below (s₁.setTop (mkF m 10 #[.val (.int x0)] [(.int x0)])) _
    refine own_by (fun zt zk => XS.bipush X0.here hx rfl (hb hby d_method_2_10) zk) ?_
    show own_Go p.tables e below (s₁.setTop (mkF m 12 #[.val (.int x0)] [(.int (14 : Int32)), (.int x0)])) _
    refine own_by (fun zt zk => XS.iushr X0.here hx rfl (hb hby d_method_2_12) rfl zk) ?_
    show own_Go p.tables e below (s₁.setTop (mkF m 13 #[.val (.int x0)] [(.int ((x0.toUInt32 >>> ((14 : Int32) &&& 31).toUInt32).toInt32))])) _
    by_cases c2 : ((x0.toUInt32 >>> ((14 : Int32) &&& 31).toUInt32).toInt32) = (0 : Int32)
    · refine own_by (fun zt zk => XS.ifNo X0.here hx rfl (hb hby d_method_2_13) rfl ((if0 _ _).trans (teq c2).2) zk) ?_
      show own_Go p.tables e below (s₁.setTop (mkF m 16 #[.val (.int x0)] [])) _
      refine own_by (fun zt zk => XS.iconst X0.here hx rfl (hb hby d_method_2_16) zk) ?_
      show own_Go p.tables e below (s₁.setTop (mkF m 17 #[.val (.int x0)] [(.int (2 : Int32))])) _
      exact own_retI X0 hx Bd.notSynchronized Bd.returns (hb hby d_method_2_17) (by (try rw [e0]); exact ⟨_, rfl, N0, rfl, ((if_neg c1).trans (if_pos c2)).symm⟩) (by decide) (by decide)
    · refine own_by (fun zt zk => XS.ifYes X0.here hx rfl (pc0 := 13) (pc' := 18) rfl (hb hby d_method_2_13) rfl ((if0 _ _).trans (feq c2).2) (by decide) (by decide) zk) ?_
      show own_Go p.tables e below (s₁.setTop (mkF m 18 #[.val (.int x0)] [])) _
      refine own_by (fun zt zk => XS.iloadN X0.here hx rfl (hb hby d_method_2_18) rfl zk) ?_
      show own_Go p.tables e below (s₁.setTop (mkF m 19 #[.val (.int x0)] [(.int x0)])) _
      refine own_by (fun zt zk => XS.bipush X0.here hx rfl (hb hby d_method_2_19) zk) ?_
      show own_Go p.tables e below (s₁.setTop (mkF m 21 #[.val (.int x0)] [(.int (21 : Int32)), (.int x0)])) _
      refine own_by (fun zt zk => XS.iushr X0.here hx rfl (hb hby d_method_2_21) rfl zk) ?_
      show own_Go p.tables e below (s₁.setTop (mkF m 22 #[.val (.int x0)] [(.int ((x0.toUInt32 >>> ((21 : Int32) &&& 31).toUInt32).toInt32))])) _
      by_cases c3 : ((x0.toUInt32 >>> ((21 : Int32) &&& 31).toUInt32).toInt32) = (0 : Int32)
      · refine own_by (fun zt zk => XS.ifNo X0.here hx rfl (hb hby d_method_2_22) rfl ((if0 _ _).trans (teq c3).2) zk) ?_
        show own_Go p.tables e below (s₁.setTop (mkF m 25 #[.val (.int x0)] [])) _
        refine own_by (fun zt zk => XS.iconst X0.here hx rfl (hb hby d_method_2_25) zk) ?_
        show own_Go p.tables e below (s₁.setTop (mkF m 26 #[.val (.int x0)] [(.int (3 : Int32))])) _
        exact own_retI X0 hx Bd.notSynchronized Bd.returns (hb hby d_method_2_26) (by (try rw [e0]); exact ⟨_, rfl, N0, rfl, ((if_neg c1).trans ((if_neg c2).trans (if_pos c3))).symm⟩) (by decide) (by decide)
      · refine own_by (fun zt zk => XS.ifYes X0.here hx rfl (pc0 := 22) (pc' := 27) rfl (hb hby d_method_2_22) rfl ((if0 _ _).trans (feq c3).2) (by decide) (by decide) zk) ?_
        show own_Go p.tables e below (s₁.setTop (mkF m 27 #[.val (.int x0)] [])) _
        refine own_by (fun zt zk => XS.iloadN X0.here hx rfl (hb hby d_method_2_27) rfl zk) ?_
        show own_Go p.tables e below (s₁.setTop (mkF m 28 #[.val (.int x0)] [(.int x0)])) _
        refine own_by (fun zt zk => XS.bipush X0.here hx rfl (hb hby d_method_2_28) zk) ?_
        show own_Go p.tables e below (s₁.setTop (mkF m 30 #[.val (.int x0)] [(.int (28 : Int32)), (.int x0)])) _
        refine own_by (fun zt zk => XS.iushr X0.here hx rfl (hb hby d_method_2_30) rfl zk) ?_
        show own_Go p.tables e below (s₁.setTop (mkF m 31 #[.val (.int x0)] [(.int ((x0.toUInt32 >>> ((28 : Int32) &&& 31).toUInt32).toInt32))])) _
        by_cases c4 : ((x0.toUInt32 >>> ((28 : Int32) &&& 31).toUInt32).toInt32) = (0 : Int32)
        · refine own_by (fun zt zk => XS.ifNo X0.here hx rfl (hb hby d_method_2_31) rfl ((if0 _ _).trans (teq c4).2) zk) ?_
          show own_Go p.tables e below (s₁.setTop (mkF m 34 #[.val (.int x0)] [])) _
          refine own_by (fun zt zk => XS.iconst X0.here hx rfl (hb hby d_method_2_34) zk) ?_
          show own_Go p.tables e below (s₁.setTop (mkF m 35 #[.val (.int x0)] [(.int (4 : Int32))])) _
          exact own_retI X0 hx Bd.notSynchronized Bd.returns (hb hby d_method_2_35) (by (try rw [e0]); exact ⟨_, rfl, N0, rfl, ((if_neg c1).trans ((if_neg c2).trans ((if_neg c3).trans (if_pos c4)))).symm⟩) (by decide) (by decide)
        · refine own_by (fun zt zk => XS.ifYes X0.here hx rfl (pc0 := 31) (pc' := 36) rfl (hb hby d_method_2_31) rfl ((if0 _ _).trans (feq c4).2) (by decide) (by decide) zk) ?_
          show own_Go p.tables e below (s₁.setTop (mkF m 36 #[.val (.int x0)] [])) _
          refine own_by (fun zt zk => XS.iconst X0.here hx rfl (hb hby d_method_2_36) zk) ?_
          show own_Go p.tables e below (s₁.setTop (mkF m 37 #[.val (.int x0)] [(.int (5 : Int32))])) _
          exact own_retI X0 hx Bd.notSynchronized Bd.returns (hb hby d_method_2_37) (by (try rw [e0]); exact ⟨_, rfl, N0, rfl, ((if_neg c1).trans ((if_neg c2).trans ((if_neg c3).trans (if_neg c4)))).symm⟩) (by decide) (by decide)
theorem d_method_3_0 : decode method_3_code 0 = .ok (.iload_n 0, 1) := by decide +kernel
theorem d_method_3_1 : decode method_3_code 1 = .ok (.bipush 7, 2) := by decide +kernel
theorem d_method_3_3 : decode method_3_code 3 = .ok (.iload_n 1, 1) := by decide +kernel
theorem d_method_3_4 : decode method_3_code 4 = .ok (.imul, 1) := by decide +kernel
theorem d_method_3_5 : decode method_3_code 5 = .ok (.iushr, 1) := by decide +kernel
theorem d_method_3_6 : decode method_3_code 6 = .ok (.bipush 127, 2) := by decide +kernel
theorem d_method_3_8 : decode method_3_code 8 = .ok (.iand, 1) := by decide +kernel
theorem d_method_3_9 : decode method_3_code 9 = .ok (.istore_n 3, 1) := by decide +kernel
theorem d_method_3_10 : decode method_3_code 10 = .ok (.iload_n 1, 1) := by decide +kernel
theorem d_method_3_11 : decode method_3_code 11 = .ok (.iload_n 2, 1) := by decide +kernel
theorem d_method_3_12 : decode method_3_code 12 = .ok (.iconst 1, 1) := by decide +kernel
theorem d_method_3_13 : decode method_3_code 13 = .ok (.isub, 1) := by decide +kernel
theorem d_method_3_14 : decode method_3_code 14 = .ok (.if_icmp .ge 9, 3) := by decide +kernel
theorem d_method_3_17 : decode method_3_code 17 = .ok (.iload_n 3, 1) := by decide +kernel
theorem d_method_3_18 : decode method_3_code 18 = .ok (.sipush 128, 3) := by decide +kernel
theorem d_method_3_21 : decode method_3_code 21 = .ok (.ior, 1) := by decide +kernel
theorem d_method_3_22 : decode method_3_code 22 = .ok (.istore_n 3, 1) := by decide +kernel
theorem d_method_3_23 : decode method_3_code 23 = .ok (.iload_n 3, 1) := by decide +kernel
theorem d_method_3_24 : decode method_3_code 24 = .ok (.i2b, 1) := by decide +kernel
theorem d_method_3_25 : decode method_3_code 25 = .ok (.ireturn, 1) := by decide +kernel
theorem ef_rm_gr (m : MethodId) (x0 : Int32) (k : Int32) (n : Int32) : entryFrame m #[(.int x0), (.int k), (.int n)] 4 = mkF m 0 #[.val (.int x0), .val (.int k), .val (.int n), .unset] [] := by first | (simp [entryFrame, mkF, argsToLocals, Value.category]; done) | rfl
set_option maxRecDepth 65536 in
set_option maxHeartbeats 40000000 in
theorem rm_gr (l : Launch) (Z : State) (a0 : Array Value) (hw : ∀ d ∈ tables_1, d.before a0 Z = true) (zws : List Jvm.Cond) (x0 : Int32) (k : Int32) (n : Int32) (h0 : Heap) (n0 : Nat) (Z0 : n0 ≤ h0.size)  :
    MetFree l (⟨"com/example/aprox/aprox/ByteReaderReadVIntPinLaw", "group", "(III)B"⟩ : MethodName) (head1 (Jvm.Cond.code (⟨"com/example/aprox/aprox/ByteReaderReadVIntPinLaw", "group", "(III)B"⟩ : MethodName) method_3_code 4 (some .byte) :: zws) ({ frames := 0, cells := 0, slots := 0, locals := 0 } : Room)) (fun zA zU => zA = #[(.int x0), (.int k), (.int n)] ∧ Z.Warmed39 zU.vm ∧ zU.heap = h0) (fun _ _ _ _ _ => True) (fun _ zU zo zW => ∃ zv zL, zo = .returned zv ∧ (own_QI h0 n0 (own_gr x0 k n).toInt8.toInt32) zv zW.heap zL ∧ FrameEnd zU zo zW zL ({ frames := 0, cells := 0, slots := 0, locals := 0 } : Room).cells ({ frames := 0, cells := 0, slots := 0, locals := 0 } : Room).slots) := by
  refine MetFree.of_bodySF (plainFor_of_name pn_26) hisR ?_
  intro p e s m args below meth c s₁ Bd hml0 hP hK
  obtain ⟨rfl, hZ, hh⟩ := hP
  have hx := Bd.exec
  have hby := Bd.bytes
  have hml : c.maxLocals = 4 := hml0
  have hown : s.vm.findClass "com/example/aprox/aprox/ByteReaderReadVIntPinLaw" = some m.cls := findClass_of_methodNamed Bd.named
  have hnm := (name_of_methodNamed Bd.named Bd.method).1
  have X0 : Stand p l e ({ frames := 0, cells := 0, slots := 0, locals := 0 } : Room) s m #[(.int x0), (.int k), (.int n)] below meth c s₁ [] 0 0 := Stand.of_body Bd
  have e0 : s₁.heap = h0 := by rw [← hh, Bd.state]; rfl
  have N0 := Fr.nil n0
  refine own_out (Q := own_QI h0 n0 (own_gr x0 k n).toInt8.toInt32) ?_
  refine own_cast (ef_rm_gr m x0 k n) ?_
  show own_Go p.tables e below (s₁.setTop (mkF m 0 #[.val (.int x0), .val (.int k), .val (.int n), .unset] [])) _
  refine own_by (fun zt zk => XS.iloadN X0.here hx rfl (hb hby d_method_3_0) rfl zk) ?_
  show own_Go p.tables e below (s₁.setTop (mkF m 1 #[.val (.int x0), .val (.int k), .val (.int n), .unset] [(.int x0)])) _
  refine own_by (fun zt zk => XS.bipush X0.here hx rfl (hb hby d_method_3_1) zk) ?_
  show own_Go p.tables e below (s₁.setTop (mkF m 3 #[.val (.int x0), .val (.int k), .val (.int n), .unset] [(.int (7 : Int32)), (.int x0)])) _
  refine own_by (fun zt zk => XS.iloadN X0.here hx rfl (hb hby d_method_3_3) rfl zk) ?_
  show own_Go p.tables e below (s₁.setTop (mkF m 4 #[.val (.int x0), .val (.int k), .val (.int n), .unset] [(.int k), (.int (7 : Int32)), (.int x0)])) _
  refine own_by (fun zt zk => XS.imul X0.here hx rfl (hb hby d_method_3_4) rfl zk) ?_
  show own_Go p.tables e below (s₁.setTop (mkF m 5 #[.val (.int x0), .val (.int k), .val (.int n), .unset] [(.int ((7 : Int32) * k)), (.int x0)])) _
  refine own_by (fun zt zk => XS.iushr X0.here hx rfl (hb hby d_method_3_5) rfl zk) ?_
  show own_Go p.tables e below (s₁.setTop (mkF m 6 #[.val (.int x0), .val (.int k), .val (.int n), .unset] [(.int ((x0.toUInt32 >>> (((7 : Int32) * k) &&& 31).toUInt32).toInt32))])) _
  refine own_by (fun zt zk => XS.bipush X0.here hx rfl (hb hby d_method_3_6) zk) ?_
  show own_Go p.tables e below (s₁.setTop (mkF m 8 #[.val (.int x0), .val (.int k), .val (.int n), .unset] [(.int (127 : Int32)), (.int ((x0.toUInt32 >>> (((7 : Int32) * k) &&& 31).toUInt32).toInt32))])) _
  refine own_by (fun zt zk => XS.iand X0.here hx rfl (hb hby d_method_3_8) rfl zk) ?_
  show own_Go p.tables e below (s₁.setTop (mkF m 9 #[.val (.int x0), .val (.int k), .val (.int n), .unset] [(.int (((x0.toUInt32 >>> (((7 : Int32) * k) &&& 31).toUInt32).toInt32) &&& (127 : Int32)))])) _
  refine own_by (fun zt zk => XS.istoreN X0.here hx rfl (hb hby d_method_3_9) rfl (l' := #[.val (.int x0), .val (.int k), .val (.int n), .val (.int (((x0.toUInt32 >>> (((7 : Int32) * k) &&& 31).toUInt32).toInt32) &&& (127 : Int32)))]) rfl zk) ?_
  show own_Go p.tables e below (s₁.setTop (mkF m 10 #[.val (.int x0), .val (.int k), .val (.int n), .val (.int (((x0.toUInt32 >>> (((7 : Int32) * k) &&& 31).toUInt32).toInt32) &&& (127 : Int32)))] [])) _
  refine own_by (fun zt zk => XS.iloadN X0.here hx rfl (hb hby d_method_3_10) rfl zk) ?_
  show own_Go p.tables e below (s₁.setTop (mkF m 11 #[.val (.int x0), .val (.int k), .val (.int n), .val (.int (((x0.toUInt32 >>> (((7 : Int32) * k) &&& 31).toUInt32).toInt32) &&& (127 : Int32)))] [(.int k)])) _
  refine own_by (fun zt zk => XS.iloadN X0.here hx rfl (hb hby d_method_3_11) rfl zk) ?_
  show own_Go p.tables e below (s₁.setTop (mkF m 12 #[.val (.int x0), .val (.int k), .val (.int n), .val (.int (((x0.toUInt32 >>> (((7 : Int32) * k) &&& 31).toUInt32).toInt32) &&& (127 : Int32)))] [(.int n), (.int k)])) _
  refine own_by (fun zt zk => XS.iconst X0.here hx rfl (hb hby d_method_3_12) zk) ?_
  show own_Go p.tables e below (s₁.setTop (mkF m 13 #[.val (.int x0), .val (.int k), .val (.int n), .val (.int (((x0.toUInt32 >>> (((7 : Int32) * k) &&& 31).toUInt32).toInt32) &&& (127 : Int32)))] [(.int (1 : Int32)), (.int n), (.int k)])) _
  refine own_by (fun zt zk => XS.isub X0.here hx rfl (hb hby d_method_3_13) rfl zk) ?_
  show own_Go p.tables e below (s₁.setTop (mkF m 14 #[.val (.int x0), .val (.int k), .val (.int n), .val (.int (((x0.toUInt32 >>> (((7 : Int32) * k) &&& 31).toUInt32).toInt32) &&& (127 : Int32)))] [(.int (n - (1 : Int32))), (.int k)])) _
  obtain ⟨q, hq, sj2⟩ : ∃ (q : Int32), q = (if k < (n - (1 : Int32)) then ((((x0.toUInt32 >>> (((7 : Int32) * k) &&& 31).toUInt32).toInt32) &&& (127 : Int32)) ||| (128 : Int32)) else (((x0.toUInt32 >>> (((7 : Int32) * k) &&& 31).toUInt32).toInt32) &&& (127 : Int32))) ∧ ∀ zt, Steps p.tables e below (s₁.setTop (mkF m 23 #[.val (.int x0), .val (.int k), .val (.int n), .val (.int q)] [])) zt → Steps p.tables e below (s₁.setTop (mkF m 14 #[.val (.int x0), .val (.int k), .val (.int n), .val (.int (((x0.toUInt32 >>> (((7 : Int32) * k) &&& 31).toUInt32).toInt32) &&& (127 : Int32)))] [(.int (n - (1 : Int32))), (.int k)])) zt := by
    by_cases j1 : k < (n - (1 : Int32))
    · refine ⟨(((((x0.toUInt32 >>> (((7 : Int32) * k) &&& 31).toUInt32).toInt32) &&& (127 : Int32)) ||| (128 : Int32))), (if_pos j1).symm, fun zt zk => ?_⟩
      show Steps p.tables e below (s₁.setTop (mkF m 14 #[.val (.int x0), .val (.int k), .val (.int n), .val (.int (((x0.toUInt32 >>> (((7 : Int32) * k) &&& 31).toUInt32).toInt32) &&& (127 : Int32)))] [(.int (n - (1 : Int32))), (.int k)])) _
      refine XS.icmpNo X0.here hx rfl (hb hby d_method_3_14) rfl (tlt j1).2.1 ?_
      show Steps p.tables e below (s₁.setTop (mkF m 17 #[.val (.int x0), .val (.int k), .val (.int n), .val (.int (((x0.toUInt32 >>> (((7 : Int32) * k) &&& 31).toUInt32).toInt32) &&& (127 : Int32)))] [])) _
      refine XS.iloadN X0.here hx rfl (hb hby d_method_3_17) rfl ?_
      show Steps p.tables e below (s₁.setTop (mkF m 18 #[.val (.int x0), .val (.int k), .val (.int n), .val (.int (((x0.toUInt32 >>> (((7 : Int32) * k) &&& 31).toUInt32).toInt32) &&& (127 : Int32)))] [(.int (((x0.toUInt32 >>> (((7 : Int32) * k) &&& 31).toUInt32).toInt32) &&& (127 : Int32)))])) _
      refine XS.sipush X0.here hx rfl (hb hby d_method_3_18) ?_
      show Steps p.tables e below (s₁.setTop (mkF m 21 #[.val (.int x0), .val (.int k), .val (.int n), .val (.int (((x0.toUInt32 >>> (((7 : Int32) * k) &&& 31).toUInt32).toInt32) &&& (127 : Int32)))] [(.int (128 : Int32)), (.int (((x0.toUInt32 >>> (((7 : Int32) * k) &&& 31).toUInt32).toInt32) &&& (127 : Int32)))])) _
      refine XS.ior X0.here hx rfl (hb hby d_method_3_21) rfl ?_
      show Steps p.tables e below (s₁.setTop (mkF m 22 #[.val (.int x0), .val (.int k), .val (.int n), .val (.int (((x0.toUInt32 >>> (((7 : Int32) * k) &&& 31).toUInt32).toInt32) &&& (127 : Int32)))] [(.int ((((x0.toUInt32 >>> (((7 : Int32) * k) &&& 31).toUInt32).toInt32) &&& (127 : Int32)) ||| (128 : Int32)))])) _
      refine XS.istoreN X0.here hx rfl (hb hby d_method_3_22) rfl (l' := #[.val (.int x0), .val (.int k), .val (.int n), .val (.int ((((x0.toUInt32 >>> (((7 : Int32) * k) &&& 31).toUInt32).toInt32) &&& (127 : Int32)) ||| (128 : Int32)))]) rfl ?_
      show Steps p.tables e below (s₁.setTop (mkF m 23 #[.val (.int x0), .val (.int k), .val (.int n), .val (.int ((((x0.toUInt32 >>> (((7 : Int32) * k) &&& 31).toUInt32).toInt32) &&& (127 : Int32)) ||| (128 : Int32)))] [])) _
      exact zk
    · refine ⟨((((x0.toUInt32 >>> (((7 : Int32) * k) &&& 31).toUInt32).toInt32) &&& (127 : Int32))), (if_neg j1).symm, fun zt zk => ?_⟩
      show Steps p.tables e below (s₁.setTop (mkF m 14 #[.val (.int x0), .val (.int k), .val (.int n), .val (.int (((x0.toUInt32 >>> (((7 : Int32) * k) &&& 31).toUInt32).toInt32) &&& (127 : Int32)))] [(.int (n - (1 : Int32))), (.int k)])) _
      refine XS.icmpYes X0.here hx rfl (pc0 := 14) (pc' := 23) rfl (hb hby d_method_3_14) rfl (flt j1).2.1 (by decide) (by decide) ?_
      show Steps p.tables e below (s₁.setTop (mkF m 23 #[.val (.int x0), .val (.int k), .val (.int n), .val (.int (((x0.toUInt32 >>> (((7 : Int32) * k) &&& 31).toUInt32).toInt32) &&& (127 : Int32)))] [])) _
      exact zk
  refine own_by (sj2) ?_
  show own_Go p.tables e below (s₁.setTop (mkF m 23 #[.val (.int x0), .val (.int k), .val (.int n), .val (.int q)] [])) _
  refine own_by (fun zt zk => XS.iloadN X0.here hx rfl (hb hby d_method_3_23) rfl zk) ?_
  show own_Go p.tables e below (s₁.setTop (mkF m 24 #[.val (.int x0), .val (.int k), .val (.int n), .val (.int q)] [(.int q)])) _
  refine own_by (fun zt zk => XS.i2b X0.here hx rfl (hb hby d_method_3_24) rfl zk) ?_
  show own_Go p.tables e below (s₁.setTop (mkF m 25 #[.val (.int x0), .val (.int k), .val (.int n), .val (.int q)] [(.int (q.toInt8.toInt32))])) _
  exact own_retN X0 hx Bd.notSynchronized (t := .byte) Bd.returns (by simp) (own_bb _) (hb hby d_method_3_25) (by (try rw [e0]); exact ⟨_, rfl, N0, rfl, by rw [hq]; rfl⟩) (by decide) (by decide)
theorem d_prog_5_method_1_0 : decode prog_5_method_1_code 0 = .ok (.aload_n 0, 1) := by decide +kernel
theorem d_prog_5_method_1_1 : decode prog_5_method_1_code 1 = .ok (.invokespecial 1, 3) := by decide +kernel
theorem d_prog_5_method_1_4 : decode prog_5_method_1_code 4 = .ok (.aload_n 0, 1) := by decide +kernel
theorem d_prog_5_method_1_5 : decode prog_5_method_1_code 5 = .ok (.aload_n 1, 1) := by decide +kernel
theorem d_prog_5_method_1_6 : decode prog_5_method_1_code 6 = .ok (.putfield 7, 3) := by decide +kernel
theorem d_prog_5_method_1_9 : decode prog_5_method_1_code 9 = .ok (.aload_n 0, 1) := by decide +kernel
theorem d_prog_5_method_1_10 : decode prog_5_method_1_code 10 = .ok (.iload_n 2, 1) := by decide +kernel
theorem d_prog_5_method_1_11 : decode prog_5_method_1_code 11 = .ok (.putfield 13, 3) := by decide +kernel
theorem d_prog_5_method_1_14 : decode prog_5_method_1_code 14 = .ok (.return_, 1) := by decide +kernel
def Q_rm_new (Z : State) (a : Addr) (d : Addr) (p0 : Int32) (h0 : Heap) (n0 : Nat) (v : Option Value) (h : Heap) (L : List Loc) : Prop := v = none ∧ Fr n0 L ∧ Keep h0 h [a] ∧ Fld Z h a "com/example/aprox/aprox/ByteReader" "bytes" "[B" (.ref d) ∧ Fld Z h a "com/example/aprox/aprox/ByteReader" "position" "I" (.int p0)
theorem ef_rm_new (m : MethodId) (a : Addr) (d : Addr) (p0 : Int32) : entryFrame m #[(.ref a), (.ref d), (.int p0)] 3 = mkF m 0 #[.val (.ref a), .val (.ref d), .val (.int p0)] [] := by first | (simp [entryFrame, mkF, argsToLocals, Value.category]; done) | rfl
theorem pn_56 : plainName "com/example/aprox/aprox/ByteReader" = true := by first | (simp [plainName, overriddenIn]; done) | decide +kernel
set_option maxRecDepth 65536 in
set_option maxHeartbeats 40000000 in
theorem rm_new (l : Launch) (Z : State) (a0 : Array Value) (hw : ∀ d ∈ tables_1, d.before a0 Z = true) (zws : List Jvm.Cond) (a : Addr) (d : Addr) (p0 : Int32) (h0 : Heap) (n0 : Nat) (Z0 : n0 ≤ h0.size) (E_a : Exa Z h0 a "com/example/aprox/aprox/ByteReader") (g_a : n0 ≤ a) (F_b : Fld Z h0 a "com/example/aprox/aprox/ByteReader" "bytes" "[B" .null) (F_p : Fld Z h0 a "com/example/aprox/aprox/ByteReader" "position" "I" (.int (0 : Int32))) :
    MetFree l (⟨"com/example/aprox/aprox/ByteReader", "<init>", "([BI)V"⟩ : MethodName) (head1 (Jvm.Cond.code (⟨"com/example/aprox/aprox/ByteReader", "<init>", "([BI)V"⟩ : MethodName) prog_5_method_1_code 3 none :: zws) ({ frames := 1, cells := 0, slots := 0, locals := 12 } : Room)) (fun zA zU => zA = #[(.ref a), (.ref d), (.int p0)] ∧ Z.Warmed39 zU.vm ∧ zU.heap = h0) (fun _ _ _ _ _ => True) (fun _ zU zo zW => ∃ zv zL, zo = .returned zv ∧ (Q_rm_new Z a d p0 h0 n0) zv zW.heap zL ∧ FrameEnd zU zo zW zL ({ frames := 1, cells := 0, slots := 0, locals := 12 } : Room).cells ({ frames := 1, cells := 0, slots := 0, locals := 12 } : Room).slots) := by
  refine MetFree.of_bodySF (plainFor_of_name pn_56) hisR ?_
  intro p e s m args below meth c s₁ Bd hml0 hP hK
  obtain ⟨rfl, hZ, hh⟩ := hP
  have hx := Bd.exec
  have hby := Bd.bytes
  have hml : c.maxLocals = 3 := hml0
  have hown : s.vm.findClass "com/example/aprox/aprox/ByteReader" = some m.cls := findClass_of_methodNamed Bd.named
  have hnm := (name_of_methodNamed Bd.named Bd.method).1
  have X0 : Stand p l e ({ frames := 1, cells := 0, slots := 0, locals := 12 } : Room) s m #[(.ref a), (.ref d), (.int p0)] below meth c s₁ [] 0 0 := Stand.of_body Bd
  have e0 : s₁.heap = h0 := by rw [← hh, Bd.state]; rfl
  have N0 := Fr.nil n0
  refine own_out (Q := Q_rm_new Z a d p0 h0 n0) ?_
  refine own_cast (ef_rm_new m a d p0) ?_
  show own_Go p.tables e below (s₁.setTop (mkF m 0 #[.val (.ref a), .val (.ref d), .val (.int p0)] [])) _
  refine own_by (fun zt zk => XS.aloadN X0.here hx rfl (hb hby d_prog_5_method_1_0) rfl rfl zk) ?_
  show own_Go p.tables e below (s₁.setTop (mkF m 1 #[.val (.ref a), .val (.ref d), .val (.int p0)] [(.ref a)])) _
  obtain ⟨T1, X1, e1, st1⟩ := initO X0 hx hZ hown (hw _ (List.mem_of_getElem? (i := 14) rfl)) (hw _ (List.mem_of_getElem? (i := 15) rfl)) (hw _ (List.mem_of_getElem? (i := 16) rfl)) e0 (g := (mkF m 1 #[.val (.ref a), .val (.ref d), .val (.int p0)] [(.ref a)])) rfl (by rw [hml]; rfl) rfl (hb hby d_prog_5_method_1_1) (by decide) (W := 0) (by show 2 * 0 + _ ≤ _; exact Nat.le_of_eq rfl) (by decide)
  refine own_by (st1) ?_
  show own_Go p.tables e below (T1.setTop (mkF m 4 #[.val (.ref a), .val (.ref d), .val (.int p0)] [])) _
  refine own_by (fun zt zk => XS.aloadN X1.here hx rfl (hb hby d_prog_5_method_1_4) rfl rfl zk) ?_
  show own_Go p.tables e below (T1.setTop (mkF m 5 #[.val (.ref a), .val (.ref d), .val (.int p0)] [(.ref a)])) _
  refine own_by (fun zt zk => XS.aloadN X1.here hx rfl (hb hby d_prog_5_method_1_5) rfl rfl zk) ?_
  show own_Go p.tables e below (T1.setTop (mkF m 6 #[.val (.ref a), .val (.ref d), .val (.int p0)] [(.ref d), (.ref a)])) _
  obtain ⟨T2, hea2, X2, e2, W2, st2⟩ := putF X1 hx hZ hown (host := "") (Or.inl (hw _ (List.mem_of_getElem? (i := 17) rfl))) Via.refl e1 F_b E_a (Or.inr ⟨(hw _ (List.mem_of_getElem? (i := 18) rfl)), rfl, hnm⟩) (hw _ (List.mem_of_getElem? (i := 9) rfl)) (ty := (.array .byte)) (by decide) rfl rfl (g := (mkF m 6 #[.val (.ref a), .val (.ref d), .val (.int p0)] [(.ref d), (.ref a)])) rfl rfl (hb hby d_prog_5_method_1_6)
  have Fw2 := (F_b).same W2
  have N2 := Fr.snoc X2 N0 g_a
  have K2 : Keep h0 hea2 [a] := (Keep.refl h0 [a]).wr W2 (Or.inl (List.mem_of_getElem? (i := 0) rfl))
  refine own_by (st2) ?_
  show own_Go p.tables e below (T2.setTop (mkF m 9 #[.val (.ref a), .val (.ref d), .val (.int p0)] [])) _
  refine own_by (fun zt zk => XS.aloadN X2.here hx rfl (hb hby d_prog_5_method_1_9) rfl rfl zk) ?_
  show own_Go p.tables e below (T2.setTop (mkF m 10 #[.val (.ref a), .val (.ref d), .val (.int p0)] [(.ref a)])) _
  refine own_by (fun zt zk => XS.iloadN X2.here hx rfl (hb hby d_prog_5_method_1_10) rfl zk) ?_
  show own_Go p.tables e below (T2.setTop (mkF m 11 #[.val (.ref a), .val (.ref d), .val (.int p0)] [(.int p0), (.ref a)])) _
  have c4 := (F_p.other W2 (Or.inr (slot_ne (Or.inl (hw _ (List.mem_of_getElem? (i := 20) rfl))) (Or.inr (hw _ (List.mem_of_getElem? (i := 18) rfl))) (by decide) (t := .int) (t' := (.array .byte)) (by decide) (by decide))))
  obtain ⟨T3, hea3, X3, e3, W3, st3⟩ := putF X2 hx hZ hown (host := "") (Or.inl (hw _ (List.mem_of_getElem? (i := 19) rfl))) Via.refl e2 c4 (E_a.wr W2) (Or.inl (hw _ (List.mem_of_getElem? (i := 20) rfl))) (hw _ (List.mem_of_getElem? (i := 9) rfl)) (ty := .int) (by decide) rfl rfl (g := (mkF m 11 #[.val (.ref a), .val (.ref d), .val (.int p0)] [(.int p0), (.ref a)])) rfl rfl (hb hby d_prog_5_method_1_11)
  have Fw3 := (c4).same W3
  have N3 := Fr.snoc X3 N2 g_a
  have K3 : Keep h0 hea3 [a] := K2.wr W3 (Or.inl (List.mem_of_getElem? (i := 0) rfl))
  refine own_by (st3) ?_
  show own_Go p.tables e below (T3.setTop (mkF m 14 #[.val (.ref a), .val (.ref d), .val (.int p0)] [])) _
  have c5 := (Fw2.other W3 (Or.inr (slot_ne (Or.inr (hw _ (List.mem_of_getElem? (i := 18) rfl))) (Or.inl (hw _ (List.mem_of_getElem? (i := 20) rfl))) (by decide) (t := (.array .byte)) (t' := .int) (by decide) (by decide))))
  exact own_retV X3 hx Bd.notSynchronized Bd.returns (hb hby d_prog_5_method_1_14) (by (try rw [e3]); exact ⟨rfl, N3, K3, c5, Fw3⟩) (by decide) (by decide)
theorem d_prog_5_method_3_0 : decode prog_5_method_3_code 0 = .ok (.iconst 0, 1) := by decide +kernel
theorem d_prog_5_method_3_1 : decode prog_5_method_3_code 1 = .ok (.istore_n 1, 1) := by decide +kernel
theorem d_prog_5_method_3_2 : decode prog_5_method_3_code 2 = .ok (.iconst 0, 1) := by decide +kernel
theorem d_prog_5_method_3_3 : decode prog_5_method_3_code 3 = .ok (.istore_n 2, 1) := by decide +kernel
theorem d_prog_5_method_3_4 : decode prog_5_method_3_code 4 = .ok (.aload_n 0, 1) := by decide +kernel
theorem d_prog_5_method_3_5 : decode prog_5_method_3_code 5 = .ok (.getfield 7, 3) := by decide +kernel
theorem d_prog_5_method_3_8 : decode prog_5_method_3_code 8 = .ok (.aload_n 0, 1) := by decide +kernel
theorem d_prog_5_method_3_9 : decode prog_5_method_3_code 9 = .ok (.dup, 1) := by decide +kernel
theorem d_prog_5_method_3_10 : decode prog_5_method_3_code 10 = .ok (.getfield 13, 3) := by decide +kernel
theorem d_prog_5_method_3_13 : decode prog_5_method_3_code 13 = .ok (.dup_x1, 1) := by decide +kernel
theorem d_prog_5_method_3_14 : decode prog_5_method_3_code 14 = .ok (.iconst 1, 1) := by decide +kernel
theorem d_prog_5_method_3_15 : decode prog_5_method_3_code 15 = .ok (.iadd, 1) := by decide +kernel
theorem d_prog_5_method_3_16 : decode prog_5_method_3_code 16 = .ok (.putfield 13, 3) := by decide +kernel
theorem d_prog_5_method_3_19 : decode prog_5_method_3_code 19 = .ok (.baload, 1) := by decide +kernel
theorem d_prog_5_method_3_20 : decode prog_5_method_3_code 20 = .ok (.istore_n 3, 1) := by decide +kernel
theorem d_prog_5_method_3_21 : decode prog_5_method_3_code 21 = .ok (.iload_n 3, 1) := by decide +kernel
theorem d_prog_5_method_3_22 : decode prog_5_method_3_code 22 = .ok (.ifCond .ge 35, 3) := by decide +kernel
theorem d_prog_5_method_3_57 : decode prog_5_method_3_code 57 = .ok (.iload_n 1, 1) := by decide +kernel
theorem d_prog_5_method_3_58 : decode prog_5_method_3_code 58 = .ok (.iload_n 3, 1) := by decide +kernel
theorem d_prog_5_method_3_59 : decode prog_5_method_3_code 59 = .ok (.iload_n 2, 1) := by decide +kernel
theorem d_prog_5_method_3_60 : decode prog_5_method_3_code 60 = .ok (.ishl, 1) := by decide +kernel
theorem d_prog_5_method_3_61 : decode prog_5_method_3_code 61 = .ok (.ior, 1) := by decide +kernel
theorem d_prog_5_method_3_62 : decode prog_5_method_3_code 62 = .ok (.ireturn, 1) := by decide +kernel
theorem d_prog_5_method_3_25 : decode prog_5_method_3_code 25 = .ok (.iload_n 1, 1) := by decide +kernel
theorem d_prog_5_method_3_26 : decode prog_5_method_3_code 26 = .ok (.iload_n 3, 1) := by decide +kernel
theorem d_prog_5_method_3_27 : decode prog_5_method_3_code 27 = .ok (.bipush 127, 2) := by decide +kernel
theorem d_prog_5_method_3_29 : decode prog_5_method_3_code 29 = .ok (.iand, 1) := by decide +kernel
theorem d_prog_5_method_3_30 : decode prog_5_method_3_code 30 = .ok (.iload_n 2, 1) := by decide +kernel
theorem d_prog_5_method_3_31 : decode prog_5_method_3_code 31 = .ok (.ishl, 1) := by decide +kernel
theorem d_prog_5_method_3_32 : decode prog_5_method_3_code 32 = .ok (.ior, 1) := by decide +kernel
theorem d_prog_5_method_3_33 : decode prog_5_method_3_code 33 = .ok (.istore_n 1, 1) := by decide +kernel
theorem d_prog_5_method_3_34 : decode prog_5_method_3_code 34 = .ok (.iinc 2 7, 3) := by decide +kernel
theorem d_prog_5_method_3_37 : decode prog_5_method_3_code 37 = .ok (.aload_n 0, 1) := by decide +kernel
theorem d_prog_5_method_3_38 : decode prog_5_method_3_code 38 = .ok (.getfield 7, 3) := by decide +kernel
theorem d_prog_5_method_3_41 : decode prog_5_method_3_code 41 = .ok (.aload_n 0, 1) := by decide +kernel
theorem d_prog_5_method_3_42 : decode prog_5_method_3_code 42 = .ok (.dup, 1) := by decide +kernel
theorem d_prog_5_method_3_43 : decode prog_5_method_3_code 43 = .ok (.getfield 13, 3) := by decide +kernel
theorem d_prog_5_method_3_46 : decode prog_5_method_3_code 46 = .ok (.dup_x1, 1) := by decide +kernel
theorem d_prog_5_method_3_47 : decode prog_5_method_3_code 47 = .ok (.iconst 1, 1) := by decide +kernel
theorem d_prog_5_method_3_48 : decode prog_5_method_3_code 48 = .ok (.iadd, 1) := by decide +kernel
theorem d_prog_5_method_3_49 : decode prog_5_method_3_code 49 = .ok (.putfield 13, 3) := by decide +kernel
theorem d_prog_5_method_3_52 : decode prog_5_method_3_code 52 = .ok (.baload, 1) := by decide +kernel
theorem d_prog_5_method_3_53 : decode prog_5_method_3_code 53 = .ok (.istore_n 3, 1) := by decide +kernel
theorem d_prog_5_method_3_54 : decode prog_5_method_3_code 54 = .ok (.goto (-33), 3) := by decide +kernel
def Q_rm_rv (Z : State) (a : Addr) (d : Addr) (p0 : Int32) (PP K : Nat) (f : Nat → Int32) (h0 : Heap) (n0 : Nat) (v : Option Value) (h : Heap) (L : List Loc) : Prop := ∃ r : Int32, v = some (.int r) ∧ Fr n0 L ∧ Keep h0 h [a] ∧ Fld Z h a "com/example/aprox/aprox/ByteReader" "position" "I" (.int (Int32.ofNat (PP + K + 1))) ∧ r = own_rd f PP K 0 0
theorem ef_rm_rv (m : MethodId) (a : Addr) : entryFrame m #[(.ref a)] 4 = mkF m 0 #[.val (.ref a), .unset, .unset, .unset] [] := by first | (simp [entryFrame, mkF, argsToLocals, Value.category]; done) | rfl
set_option maxRecDepth 65536 in
set_option maxHeartbeats 40000000 in
theorem rm_rv (l : Launch) (Z : State) (a0 : Array Value) (hw : ∀ d ∈ tables_1, d.before a0 Z = true) (zws : List Jvm.Cond) (a : Addr) (d : Addr) (p0 : Int32) (PP K : Nat) (f : Nat → Int32) (h0 : Heap) (n0 : Nat) (Z0 : n0 ≤ h0.size) (E_a : Exa Z h0 a "com/example/aprox/aprox/ByteReader") (g_a : n0 ≤ a) (F_b : Fld Z h0 a "com/example/aprox/aprox/ByteReader" "bytes" "[B" (.ref d)) (F_p : Fld Z h0 a "com/example/aprox/aprox/ByteReader" "position" "I" (.int p0)) (A_d : own_AI Z h0 d .byte 9 f) (ne_a_d : a ≠ d) (hp : p0 = Int32.ofNat PP) (hK : PP + K < 9) (hneg : ∀ i, i < K → f (PP + i) < (0 : Int32)) (hpos : ¬ f (PP + K) < (0 : Int32)) :
    MetFree l (⟨"com/example/aprox/aprox/ByteReader", "readVInt", "()I"⟩ : MethodName) (head1 (Jvm.Cond.code (⟨"com/example/aprox/aprox/ByteReader", "readVInt", "()I"⟩ : MethodName) prog_5_method_3_code 4 (some .int) :: zws) ({ frames := 0, cells := 0, slots := 0, locals := 0 } : Room)) (fun zA zU => zA = #[(.ref a)] ∧ Z.Warmed39 zU.vm ∧ zU.heap = h0) (fun _ _ _ _ _ => True) (fun _ zU zo zW => ∃ zv zL, zo = .returned zv ∧ (Q_rm_rv Z a d p0 PP K f h0 n0) zv zW.heap zL ∧ FrameEnd zU zo zW zL ({ frames := 0, cells := 0, slots := 0, locals := 0 } : Room).cells ({ frames := 0, cells := 0, slots := 0, locals := 0 } : Room).slots) := by
  refine MetFree.of_bodySF (plainFor_of_name pn_56) hisR ?_
  intro p e s m args below meth c s₁ Bd hml0 hP hK
  obtain ⟨rfl, hZ, hh⟩ := hP
  have hx := Bd.exec
  have hby := Bd.bytes
  have hml : c.maxLocals = 4 := hml0
  have hown : s.vm.findClass "com/example/aprox/aprox/ByteReader" = some m.cls := findClass_of_methodNamed Bd.named
  have hnm := (name_of_methodNamed Bd.named Bd.method).1
  have X0 : Stand p l e ({ frames := 0, cells := 0, slots := 0, locals := 0 } : Room) s m #[(.ref a)] below meth c s₁ [] 0 0 := Stand.of_body Bd
  have e0 : s₁.heap = h0 := by rw [← hh, Bd.state]; rfl
  have N0 := Fr.nil n0
  refine own_out (Q := Q_rm_rv Z a d p0 PP K f h0 n0) ?_
  refine own_cast (ef_rm_rv m a) ?_
  show own_Go p.tables e below (s₁.setTop (mkF m 0 #[.val (.ref a), .unset, .unset, .unset] [])) _
  refine own_by (fun zt zk => XS.iconst X0.here hx rfl (hb hby d_prog_5_method_3_0) zk) ?_
  show own_Go p.tables e below (s₁.setTop (mkF m 1 #[.val (.ref a), .unset, .unset, .unset] [(.int (0 : Int32))])) _
  refine own_by (fun zt zk => XS.istoreN X0.here hx rfl (hb hby d_prog_5_method_3_1) rfl (l' := #[.val (.ref a), .val (.int (0 : Int32)), .unset, .unset]) rfl zk) ?_
  show own_Go p.tables e below (s₁.setTop (mkF m 2 #[.val (.ref a), .val (.int (0 : Int32)), .unset, .unset] [])) _
  refine own_by (fun zt zk => XS.iconst X0.here hx rfl (hb hby d_prog_5_method_3_2) zk) ?_
  show own_Go p.tables e below (s₁.setTop (mkF m 3 #[.val (.ref a), .val (.int (0 : Int32)), .unset, .unset] [(.int (0 : Int32))])) _
  refine own_by (fun zt zk => XS.istoreN X0.here hx rfl (hb hby d_prog_5_method_3_3) rfl (l' := #[.val (.ref a), .val (.int (0 : Int32)), .val (.int (0 : Int32)), .unset]) rfl zk) ?_
  show own_Go p.tables e below (s₁.setTop (mkF m 4 #[.val (.ref a), .val (.int (0 : Int32)), .val (.int (0 : Int32)), .unset] [])) _
  refine own_by (fun zt zk => XS.aloadN X0.here hx rfl (hb hby d_prog_5_method_3_4) rfl rfl zk) ?_
  show own_Go p.tables e below (s₁.setTop (mkF m 5 #[.val (.ref a), .val (.int (0 : Int32)), .val (.int (0 : Int32)), .unset] [(.ref a)])) _
  obtain ⟨T1, X1, e1, st1⟩ := getF X0 hx hZ hown (host := "") (Or.inl (hw _ (List.mem_of_getElem? (i := 17) rfl))) Via.refl e0 F_b (g := (mkF m 5 #[.val (.ref a), .val (.int (0 : Int32)), .val (.int (0 : Int32)), .unset] [(.ref a)])) rfl rfl (hb hby d_prog_5_method_3_5)
  refine own_by (st1) ?_
  show own_Go p.tables e below (T1.setTop (mkF m 8 #[.val (.ref a), .val (.int (0 : Int32)), .val (.int (0 : Int32)), .unset] [(.ref d)])) _
  refine own_by (fun zt zk => XS.aloadN X1.here hx rfl (hb hby d_prog_5_method_3_8) rfl rfl zk) ?_
  show own_Go p.tables e below (T1.setTop (mkF m 9 #[.val (.ref a), .val (.int (0 : Int32)), .val (.int (0 : Int32)), .unset] [(.ref a), (.ref d)])) _
  refine own_by (fun zt zk => XS.dup X1.here hx rfl (hb hby d_prog_5_method_3_9) rfl rfl zk) ?_
  show own_Go p.tables e below (T1.setTop (mkF m 10 #[.val (.ref a), .val (.int (0 : Int32)), .val (.int (0 : Int32)), .unset] [(.ref a), (.ref a), (.ref d)])) _
  obtain ⟨T2, X2, e2, st2⟩ := getF X1 hx hZ hown (host := "") (Or.inl (hw _ (List.mem_of_getElem? (i := 19) rfl))) Via.refl e1 F_p (g := (mkF m 10 #[.val (.ref a), .val (.int (0 : Int32)), .val (.int (0 : Int32)), .unset] [(.ref a), (.ref a), (.ref d)])) rfl rfl (hb hby d_prog_5_method_3_10)
  refine own_by (st2) ?_
  show own_Go p.tables e below (T2.setTop (mkF m 13 #[.val (.ref a), .val (.int (0 : Int32)), .val (.int (0 : Int32)), .unset] [(.int p0), (.ref a), (.ref d)])) _
  refine own_by (fun zt zk => XS.dupX1 X2.here hx rfl (hb hby d_prog_5_method_3_13) rfl rfl rfl zk) ?_
  show own_Go p.tables e below (T2.setTop (mkF m 14 #[.val (.ref a), .val (.int (0 : Int32)), .val (.int (0 : Int32)), .unset] [(.int p0), (.ref a), (.int p0), (.ref d)])) _
  refine own_by (fun zt zk => XS.iconst X2.here hx rfl (hb hby d_prog_5_method_3_14) zk) ?_
  show own_Go p.tables e below (T2.setTop (mkF m 15 #[.val (.ref a), .val (.int (0 : Int32)), .val (.int (0 : Int32)), .unset] [(.int (1 : Int32)), (.int p0), (.ref a), (.int p0), (.ref d)])) _
  refine own_by (fun zt zk => XS.iadd X2.here hx rfl (hb hby d_prog_5_method_3_15) rfl zk) ?_
  show own_Go p.tables e below (T2.setTop (mkF m 16 #[.val (.ref a), .val (.int (0 : Int32)), .val (.int (0 : Int32)), .unset] [(.int (p0 + (1 : Int32))), (.ref a), (.int p0), (.ref d)])) _
  obtain ⟨T3, hea3, X3, e3, W3, st3⟩ := putF X2 hx hZ hown (host := "") (Or.inl (hw _ (List.mem_of_getElem? (i := 19) rfl))) Via.refl e2 F_p E_a (Or.inl (hw _ (List.mem_of_getElem? (i := 20) rfl))) (hw _ (List.mem_of_getElem? (i := 9) rfl)) (ty := .int) (by decide) rfl rfl (g := (mkF m 16 #[.val (.ref a), .val (.int (0 : Int32)), .val (.int (0 : Int32)), .unset] [(.int (p0 + (1 : Int32))), (.ref a), (.int p0), (.ref d)])) rfl rfl (hb hby d_prog_5_method_3_16)
  have Fw3 := (F_p).same W3
  have N3 := Fr.snoc X3 N0 g_a
  have K3 : Keep h0 hea3 [a] := (Keep.refl h0 [a]).wr W3 (Or.inl (List.mem_of_getElem? (i := 0) rfl))
  refine own_by (st3) ?_
  show own_Go p.tables e below (T3.setTop (mkF m 19 #[.val (.ref a), .val (.int (0 : Int32)), .val (.int (0 : Int32)), .unset] [(.int p0), (.ref d)])) _
  obtain ⟨i0, ik⟩ := own_ixN hp (show PP < 9 by omega)
  refine own_by (own_ldB X3 hx hZ e3 (A_d.other W3 (Ne.symm ne_a_d)) (j := p0) (k := PP) i0 ik (by omega) (g := (mkF m 19 #[.val (.ref a), .val (.int (0 : Int32)), .val (.int (0 : Int32)), .unset] [(.int p0), (.ref d)])) rfl rfl (hb hby d_prog_5_method_3_19)) ?_
  show own_Go p.tables e below (T3.setTop (mkF m 20 #[.val (.ref a), .val (.int (0 : Int32)), .val (.int (0 : Int32)), .unset] [(.int (f PP))])) _
  refine own_by (fun zt zk => XS.istoreN X3.here hx rfl (hb hby d_prog_5_method_3_20) rfl (l' := #[.val (.ref a), .val (.int (0 : Int32)), .val (.int (0 : Int32)), .val (.int (f PP))]) rfl zk) ?_
  show own_Go p.tables e below (T3.setTop (mkF m 21 #[.val (.ref a), .val (.int (0 : Int32)), .val (.int (0 : Int32)), .val (.int (f PP))] [])) _
  have loop : ∀ (k j : Nat) (va sh nx pv : Int32) (T : State) (h : Heap) (locs : List Loc), j + k = PP + K ∧ PP ≤ j ∧ nx = f j ∧ pv = Int32.ofNat (j + 1) ∧ own_rd f j k va sh = own_rd f PP K 0 0 → Stand p l e ({ frames := 0, cells := 0, slots := 0, locals := 0 } : Room) s m #[(.ref a)] below meth c T locs 0 0 → T.heap = h → Fr n0 locs → Keep h0 h [a] → Exa Z h a "com/example/aprox/aprox/ByteReader" → Fld Z h a "com/example/aprox/aprox/ByteReader" "bytes" "[B" (.ref d) → Fld Z h a "com/example/aprox/aprox/ByteReader" "position" "I" (.int pv) → own_AI Z h d .byte 9 f →  own_Go p.tables e below (T.setTop (mkF m 21 #[.val (.ref a), .val (.int va), .val (.int sh), .val (.int nx)] [])) (own_Fin below s (Q_rm_rv Z a d p0 PP K f h0 n0) ({ frames := 0, cells := 0, slots := 0, locals := 0 } : Room).cells ({ frames := 0, cells := 0, slots := 0, locals := 0 } : Room).slots) := by
    intro k
    induction k with
    | zero =>
      intro j va sh nx pv T h locs ⟨hj, hPj, hnx, hpv, hrd⟩ X eT NF KK EE FB FP AA
      have hge : ¬ nx < (0 : Int32) := by rw [hnx, show j = PP + K by omega]; exact hpos
      refine own_by (fun zt zk => XS.iloadN X.here hx rfl (hb hby d_prog_5_method_3_21) rfl zk) ?_
      show own_Go p.tables e below (T.setTop (mkF m 22 #[.val (.ref a), .val (.int va), .val (.int sh), .val (.int nx)] [(.int nx)])) _
      refine own_by (fun zt zk => XS.ifYes X.here hx rfl (pc0 := 22) (pc' := 57) rfl (hb hby d_prog_5_method_3_22) rfl ((if0 _ _).trans (flt hge).2.1) (by decide) (by decide) zk) ?_
      show own_Go p.tables e below (T.setTop (mkF m 57 #[.val (.ref a), .val (.int va), .val (.int sh), .val (.int nx)] [])) _
      refine own_by (fun zt zk => XS.iloadN X.here hx rfl (hb hby d_prog_5_method_3_57) rfl zk) ?_
      show own_Go p.tables e below (T.setTop (mkF m 58 #[.val (.ref a), .val (.int va), .val (.int sh), .val (.int nx)] [(.int va)])) _
      refine own_by (fun zt zk => XS.iloadN X.here hx rfl (hb hby d_prog_5_method_3_58) rfl zk) ?_
      show own_Go p.tables e below (T.setTop (mkF m 59 #[.val (.ref a), .val (.int va), .val (.int sh), .val (.int nx)] [(.int nx), (.int va)])) _
      refine own_by (fun zt zk => XS.iloadN X.here hx rfl (hb hby d_prog_5_method_3_59) rfl zk) ?_
      show own_Go p.tables e below (T.setTop (mkF m 60 #[.val (.ref a), .val (.int va), .val (.int sh), .val (.int nx)] [(.int sh), (.int nx), (.int va)])) _
      refine own_by (fun zt zk => XS.ishl X.here hx rfl (hb hby d_prog_5_method_3_60) rfl zk) ?_
      show own_Go p.tables e below (T.setTop (mkF m 61 #[.val (.ref a), .val (.int va), .val (.int sh), .val (.int nx)] [(.int (nx <<< (sh &&& 31))), (.int va)])) _
      refine own_by (fun zt zk => XS.ior X.here hx rfl (hb hby d_prog_5_method_3_61) rfl zk) ?_
      show own_Go p.tables e below (T.setTop (mkF m 62 #[.val (.ref a), .val (.int va), .val (.int sh), .val (.int nx)] [(.int (va ||| (nx <<< (sh &&& 31))))])) _
      exact own_retI X hx Bd.notSynchronized Bd.returns (hb hby d_prog_5_method_3_62) (by (try rw [eT]); exact ⟨_, rfl, NF, KK, (by rw [show PP + K + 1 = j + 1 by omega, ← hpv]; exact FP), by rw [← hrd, hnx]; rfl⟩) (by decide) (by decide)
    | succ k ih =>
      intro j va sh nx pv T h locs ⟨hj, hPj, hnx, hpv, hrd⟩ X eT NF KK EE FB FP AA
      have hlt : nx < (0 : Int32) := by rw [hnx, show j = PP + (j - PP) by omega]; exact hneg _ (by omega)
      refine own_by (fun zt zk => XS.iloadN X.here hx rfl (hb hby d_prog_5_method_3_21) rfl zk) ?_
      show own_Go p.tables e below (T.setTop (mkF m 22 #[.val (.ref a), .val (.int va), .val (.int sh), .val (.int nx)] [(.int nx)])) _
      refine own_by (fun zt zk => XS.ifNo X.here hx rfl (hb hby d_prog_5_method_3_22) rfl ((if0 _ _).trans (tlt hlt).2.1) zk) ?_
      show own_Go p.tables e below (T.setTop (mkF m 25 #[.val (.ref a), .val (.int va), .val (.int sh), .val (.int nx)] [])) _
      refine own_by (fun zt zk => XS.iloadN X.here hx rfl (hb hby d_prog_5_method_3_25) rfl zk) ?_
      show own_Go p.tables e below (T.setTop (mkF m 26 #[.val (.ref a), .val (.int va), .val (.int sh), .val (.int nx)] [(.int va)])) _
      refine own_by (fun zt zk => XS.iloadN X.here hx rfl (hb hby d_prog_5_method_3_26) rfl zk) ?_
      show own_Go p.tables e below (T.setTop (mkF m 27 #[.val (.ref a), .val (.int va), .val (.int sh), .val (.int nx)] [(.int nx), (.int va)])) _
      refine own_by (fun zt zk => XS.bipush X.here hx rfl (hb hby d_prog_5_method_3_27) zk) ?_
      show own_Go p.tables e below (T.setTop (mkF m 29 #[.val (.ref a), .val (.int va), .val (.int sh), .val (.int nx)] [(.int (127 : Int32)), (.int nx), (.int va)])) _
      refine own_by (fun zt zk => XS.iand X.here hx rfl (hb hby d_prog_5_method_3_29) rfl zk) ?_
      show own_Go p.tables e below (T.setTop (mkF m 30 #[.val (.ref a), .val (.int va), .val (.int sh), .val (.int nx)] [(.int (nx &&& (127 : Int32))), (.int va)])) _
      refine own_by (fun zt zk => XS.iloadN X.here hx rfl (hb hby d_prog_5_method_3_30) rfl zk) ?_
      show own_Go p.tables e below (T.setTop (mkF m 31 #[.val (.ref a), .val (.int va), .val (.int sh), .val (.int nx)] [(.int sh), (.int (nx &&& (127 : Int32))), (.int va)])) _
      refine own_by (fun zt zk => XS.ishl X.here hx rfl (hb hby d_prog_5_method_3_31) rfl zk) ?_
      show own_Go p.tables e below (T.setTop (mkF m 32 #[.val (.ref a), .val (.int va), .val (.int sh), .val (.int nx)] [(.int ((nx &&& (127 : Int32)) <<< (sh &&& 31))), (.int va)])) _
      refine own_by (fun zt zk => XS.ior X.here hx rfl (hb hby d_prog_5_method_3_32) rfl zk) ?_
      show own_Go p.tables e below (T.setTop (mkF m 33 #[.val (.ref a), .val (.int va), .val (.int sh), .val (.int nx)] [(.int (va ||| ((nx &&& (127 : Int32)) <<< (sh &&& 31))))])) _
      refine own_by (fun zt zk => XS.istoreN X.here hx rfl (hb hby d_prog_5_method_3_33) rfl (l' := #[.val (.ref a), .val (.int (va ||| ((nx &&& (127 : Int32)) <<< (sh &&& 31)))), .val (.int sh), .val (.int nx)]) rfl zk) ?_
      show own_Go p.tables e below (T.setTop (mkF m 34 #[.val (.ref a), .val (.int (va ||| ((nx &&& (127 : Int32)) <<< (sh &&& 31)))), .val (.int sh), .val (.int nx)] [])) _
      refine own_by (fun zt zk => XS.iinc X.here hx rfl (hb hby d_prog_5_method_3_34) rfl (l' := #[.val (.ref a), .val (.int (va ||| ((nx &&& (127 : Int32)) <<< (sh &&& 31)))), .val (.int (sh + (7 : Int32))), .val (.int nx)]) rfl zk) ?_
      show own_Go p.tables e below (T.setTop (mkF m 37 #[.val (.ref a), .val (.int (va ||| ((nx &&& (127 : Int32)) <<< (sh &&& 31)))), .val (.int (sh + (7 : Int32))), .val (.int nx)] [])) _
      refine own_by (fun zt zk => XS.aloadN X.here hx rfl (hb hby d_prog_5_method_3_37) rfl rfl zk) ?_
      show own_Go p.tables e below (T.setTop (mkF m 38 #[.val (.ref a), .val (.int (va ||| ((nx &&& (127 : Int32)) <<< (sh &&& 31)))), .val (.int (sh + (7 : Int32))), .val (.int nx)] [(.ref a)])) _
      obtain ⟨T4, X4, e4, st4⟩ := getF X hx hZ hown (host := "") (Or.inl (hw _ (List.mem_of_getElem? (i := 17) rfl))) Via.refl eT FB (g := (mkF m 38 #[.val (.ref a), .val (.int (va ||| ((nx &&& (127 : Int32)) <<< (sh &&& 31)))), .val (.int (sh + (7 : Int32))), .val (.int nx)] [(.ref a)])) rfl rfl (hb hby d_prog_5_method_3_38)
      refine own_by (st4) ?_
      show own_Go p.tables e below (T4.setTop (mkF m 41 #[.val (.ref a), .val (.int (va ||| ((nx &&& (127 : Int32)) <<< (sh &&& 31)))), .val (.int (sh + (7 : Int32))), .val (.int nx)] [(.ref d)])) _
      refine own_by (fun zt zk => XS.aloadN X4.here hx rfl (hb hby d_prog_5_method_3_41) rfl rfl zk) ?_
      show own_Go p.tables e below (T4.setTop (mkF m 42 #[.val (.ref a), .val (.int (va ||| ((nx &&& (127 : Int32)) <<< (sh &&& 31)))), .val (.int (sh + (7 : Int32))), .val (.int nx)] [(.ref a), (.ref d)])) _
      refine own_by (fun zt zk => XS.dup X4.here hx rfl (hb hby d_prog_5_method_3_42) rfl rfl zk) ?_
      show own_Go p.tables e below (T4.setTop (mkF m 43 #[.val (.ref a), .val (.int (va ||| ((nx &&& (127 : Int32)) <<< (sh &&& 31)))), .val (.int (sh + (7 : Int32))), .val (.int nx)] [(.ref a), (.ref a), (.ref d)])) _
      obtain ⟨T5, X5, e5, st5⟩ := getF X4 hx hZ hown (host := "") (Or.inl (hw _ (List.mem_of_getElem? (i := 19) rfl))) Via.refl e4 FP (g := (mkF m 43 #[.val (.ref a), .val (.int (va ||| ((nx &&& (127 : Int32)) <<< (sh &&& 31)))), .val (.int (sh + (7 : Int32))), .val (.int nx)] [(.ref a), (.ref a), (.ref d)])) rfl rfl (hb hby d_prog_5_method_3_43)
      refine own_by (st5) ?_
      show own_Go p.tables e below (T5.setTop (mkF m 46 #[.val (.ref a), .val (.int (va ||| ((nx &&& (127 : Int32)) <<< (sh &&& 31)))), .val (.int (sh + (7 : Int32))), .val (.int nx)] [(.int pv), (.ref a), (.ref d)])) _
      refine own_by (fun zt zk => XS.dupX1 X5.here hx rfl (hb hby d_prog_5_method_3_46) rfl rfl rfl zk) ?_
      show own_Go p.tables e below (T5.setTop (mkF m 47 #[.val (.ref a), .val (.int (va ||| ((nx &&& (127 : Int32)) <<< (sh &&& 31)))), .val (.int (sh + (7 : Int32))), .val (.int nx)] [(.int pv), (.ref a), (.int pv), (.ref d)])) _
      refine own_by (fun zt zk => XS.iconst X5.here hx rfl (hb hby d_prog_5_method_3_47) zk) ?_
      show own_Go p.tables e below (T5.setTop (mkF m 48 #[.val (.ref a), .val (.int (va ||| ((nx &&& (127 : Int32)) <<< (sh &&& 31)))), .val (.int (sh + (7 : Int32))), .val (.int nx)] [(.int (1 : Int32)), (.int pv), (.ref a), (.int pv), (.ref d)])) _
      refine own_by (fun zt zk => XS.iadd X5.here hx rfl (hb hby d_prog_5_method_3_48) rfl zk) ?_
      show own_Go p.tables e below (T5.setTop (mkF m 49 #[.val (.ref a), .val (.int (va ||| ((nx &&& (127 : Int32)) <<< (sh &&& 31)))), .val (.int (sh + (7 : Int32))), .val (.int nx)] [(.int (pv + (1 : Int32))), (.ref a), (.int pv), (.ref d)])) _
      obtain ⟨T6, hea6, X6, e6, W6, st6⟩ := putF X5 hx hZ hown (host := "") (Or.inl (hw _ (List.mem_of_getElem? (i := 19) rfl))) Via.refl e5 FP EE (Or.inl (hw _ (List.mem_of_getElem? (i := 20) rfl))) (hw _ (List.mem_of_getElem? (i := 9) rfl)) (ty := .int) (by decide) rfl rfl (g := (mkF m 49 #[.val (.ref a), .val (.int (va ||| ((nx &&& (127 : Int32)) <<< (sh &&& 31)))), .val (.int (sh + (7 : Int32))), .val (.int nx)] [(.int (pv + (1 : Int32))), (.ref a), (.int pv), (.ref d)])) rfl rfl (hb hby d_prog_5_method_3_49)
      have Fw6 := (FP).same W6
      have N6 := Fr.snoc X6 NF g_a
      have K6 : Keep h0 hea6 [a] := KK.wr W6 (Or.inl (List.mem_of_getElem? (i := 0) rfl))
      refine own_by (st6) ?_
      show own_Go p.tables e below (T6.setTop (mkF m 52 #[.val (.ref a), .val (.int (va ||| ((nx &&& (127 : Int32)) <<< (sh &&& 31)))), .val (.int (sh + (7 : Int32))), .val (.int nx)] [(.int pv), (.ref d)])) _
      obtain ⟨i0, ik⟩ := own_ixN hpv (show j + 1 < 9 by omega)
      refine own_by (own_ldB X6 hx hZ e6 (AA.other W6 (Ne.symm ne_a_d)) (j := pv) (k := (j + 1)) i0 ik (by omega) (g := (mkF m 52 #[.val (.ref a), .val (.int (va ||| ((nx &&& (127 : Int32)) <<< (sh &&& 31)))), .val (.int (sh + (7 : Int32))), .val (.int nx)] [(.int pv), (.ref d)])) rfl rfl (hb hby d_prog_5_method_3_52)) ?_
      show own_Go p.tables e below (T6.setTop (mkF m 53 #[.val (.ref a), .val (.int (va ||| ((nx &&& (127 : Int32)) <<< (sh &&& 31)))), .val (.int (sh + (7 : Int32))), .val (.int nx)] [(.int (f (j + 1)))])) _
      refine own_by (fun zt zk => XS.istoreN X6.here hx rfl (hb hby d_prog_5_method_3_53) rfl (l' := #[.val (.ref a), .val (.int (va ||| ((nx &&& (127 : Int32)) <<< (sh &&& 31)))), .val (.int (sh + (7 : Int32))), .val (.int (f (j + 1)))]) rfl zk) ?_
      show own_Go p.tables e below (T6.setTop (mkF m 54 #[.val (.ref a), .val (.int (va ||| ((nx &&& (127 : Int32)) <<< (sh &&& 31)))), .val (.int (sh + (7 : Int32))), .val (.int (f (j + 1)))] [])) _
      refine own_by (fun zt zk => XS.goto X6.here hx rfl (pc0 := 54) (pc' := 21) rfl (hb hby d_prog_5_method_3_54) (by decide) (by decide) zk) ?_
      show own_Go p.tables e below (T6.setTop (mkF m 21 #[.val (.ref a), .val (.int (va ||| ((nx &&& (127 : Int32)) <<< (sh &&& 31)))), .val (.int (sh + (7 : Int32))), .val (.int (f (j + 1)))] [])) _
      have c7 := (FB.other W6 (Or.inr (slot_ne (Or.inr (hw _ (List.mem_of_getElem? (i := 18) rfl))) (Or.inl (hw _ (List.mem_of_getElem? (i := 20) rfl))) (by decide) (t := (.array .byte)) (t' := .int) (by decide) (by decide))))
      exact ih (j + 1) _ _ _ _ _ _ _ ⟨by omega, by omega, rfl, own_succN hpv, by rw [← hrd, hnx]; rfl⟩ X6 e6 N6 K6 (EE.wr W6) c7 Fw6 (AA.other W6 (Ne.symm ne_a_d))
  have c8 := (F_b.other W3 (Or.inr (slot_ne (Or.inr (hw _ (List.mem_of_getElem? (i := 18) rfl))) (Or.inl (hw _ (List.mem_of_getElem? (i := 20) rfl))) (by decide) (t := (.array .byte)) (t' := .int) (by decide) (by decide))))
  exact loop K PP _ _ _ _ _ _ _ ⟨rfl, Nat.le_refl _, rfl, own_succN hp, rfl⟩ X3 e3 N3 K3 (E_a.wr W3) c8 Fw3 (A_d.other W3 (Ne.symm ne_a_d))
theorem d_prog_5_method_2_0 : decode prog_5_method_2_code 0 = .ok (.aload_n 0, 1) := by decide +kernel
theorem d_prog_5_method_2_1 : decode prog_5_method_2_code 1 = .ok (.getfield 13, 3) := by decide +kernel
theorem d_prog_5_method_2_4 : decode prog_5_method_2_code 4 = .ok (.ireturn, 1) := by decide +kernel
theorem ef_rm_po (m : MethodId) (a : Addr) : entryFrame m #[(.ref a)] 1 = mkF m 0 #[.val (.ref a)] [] := by first | (simp [entryFrame, mkF, argsToLocals, Value.category]; done) | rfl
set_option maxRecDepth 65536 in
set_option maxHeartbeats 40000000 in
theorem rm_po (l : Launch) (Z : State) (a0 : Array Value) (hw : ∀ d ∈ tables_1, d.before a0 Z = true) (zws : List Jvm.Cond) (a : Addr) (p0 : Int32) (h0 : Heap) (n0 : Nat) (Z0 : n0 ≤ h0.size) (F_p : Fld Z h0 a "com/example/aprox/aprox/ByteReader" "position" "I" (.int p0)) :
    MetFree l (⟨"com/example/aprox/aprox/ByteReader", "position", "()I"⟩ : MethodName) (head1 (Jvm.Cond.code (⟨"com/example/aprox/aprox/ByteReader", "position", "()I"⟩ : MethodName) prog_5_method_2_code 1 (some .int) :: zws) ({ frames := 0, cells := 0, slots := 0, locals := 0 } : Room)) (fun zA zU => zA = #[(.ref a)] ∧ Z.Warmed39 zU.vm ∧ zU.heap = h0) (fun _ _ _ _ _ => True) (fun _ zU zo zW => ∃ zv zL, zo = .returned zv ∧ (own_QI h0 n0 p0) zv zW.heap zL ∧ FrameEnd zU zo zW zL ({ frames := 0, cells := 0, slots := 0, locals := 0 } : Room).cells ({ frames := 0, cells := 0, slots := 0, locals := 0 } : Room).slots) := by
  refine MetFree.of_bodySF (plainFor_of_name pn_56) hisR ?_
  intro p e s m args below meth c s₁ Bd hml0 hP hK
  obtain ⟨rfl, hZ, hh⟩ := hP
  have hx := Bd.exec
  have hby := Bd.bytes
  have hml : c.maxLocals = 1 := hml0
  have hown : s.vm.findClass "com/example/aprox/aprox/ByteReader" = some m.cls := findClass_of_methodNamed Bd.named
  have hnm := (name_of_methodNamed Bd.named Bd.method).1
  have X0 : Stand p l e ({ frames := 0, cells := 0, slots := 0, locals := 0 } : Room) s m #[(.ref a)] below meth c s₁ [] 0 0 := Stand.of_body Bd
  have e0 : s₁.heap = h0 := by rw [← hh, Bd.state]; rfl
  have N0 := Fr.nil n0
  refine own_out (Q := own_QI h0 n0 p0) ?_
  refine own_cast (ef_rm_po m a) ?_
  show own_Go p.tables e below (s₁.setTop (mkF m 0 #[.val (.ref a)] [])) _
  refine own_by (fun zt zk => XS.aloadN X0.here hx rfl (hb hby d_prog_5_method_2_0) rfl rfl zk) ?_
  show own_Go p.tables e below (s₁.setTop (mkF m 1 #[.val (.ref a)] [(.ref a)])) _
  obtain ⟨T1, X1, e1, st1⟩ := getF X0 hx hZ hown (host := "") (Or.inl (hw _ (List.mem_of_getElem? (i := 19) rfl))) Via.refl e0 F_p (g := (mkF m 1 #[.val (.ref a)] [(.ref a)])) rfl rfl (hb hby d_prog_5_method_2_1)
  refine own_by (st1) ?_
  show own_Go p.tables e below (T1.setTop (mkF m 4 #[.val (.ref a)] [(.int p0)])) _
  exact own_retI X1 hx Bd.notSynchronized Bd.returns (hb hby d_prog_5_method_2_4) (by (try rw [e1]); exact ⟨_, rfl, N0, rfl, rfl⟩) (by decide) (by decide)
theorem pd_104 : parseMethodDescriptor "(I)I" = some ⟨[.int], some .int⟩ := by decide +kernel
theorem pd_105 : parseMethodDescriptor "(III)B" = some ⟨[.int, .int, .int], some .byte⟩ := by decide +kernel
theorem pd_106 : parseMethodDescriptor "([BI)V" = some ⟨[(.array .byte), .int], none⟩ := by decide +kernel
theorem pd_107 : parseMethodDescriptor "()I" = some ⟨[], some .int⟩ := by decide +kernel
theorem ef_rm_law (m : MethodId) (x0 : Int32) (ps : Int32) (jk : Int32) : entryFrame m #[(.int x0), (.int ps), (.int jk)] maxLocals = mkF m 0 #[.val (.int x0), .val (.int ps), .val (.int jk), .unset, .unset, .unset, .unset, .unset, .unset] [] := by first | (simp [entryFrame, mkF, argsToLocals, Value.category, maxLocals]; done) | rfl
set_option maxRecDepth 65536 in
set_option maxHeartbeats 40000000 in
theorem rm_law (l : Launch) (Z : State) (a0 : Array Value) (hw : ∀ d ∈ tables_1, d.before a0 Z = true) (zws : List Jvm.Cond) (x0 : Int32) (ps : Int32) (jk : Int32) (h0 : Heap) (n0 : Nat) (Z0 : n0 ≤ h0.size)  :
    MetFree l x (head1 (Jvm.Cond.code x code maxLocals ret :: zws) room_1) (fun zA zU => zA = #[(.int x0), (.int ps), (.int jk)] ∧ Z.Warmed39 zU.vm ∧ zU.heap = h0) (fun _ _ _ _ _ => True) (fun _ zU zo zW => ∃ zv zL, zo = .returned zv ∧ (fun v h L => v = some (.int 1) ∧ Fr n0 L) zv zW.heap zL ∧ FrameEnd zU zo zW zL 2 11) := by
  refine MetFree.of_bodySF (plainFor_of_name pn_26) hisR ?_
  intro p e s m args below meth c s₁ Bd hml0 hP hK
  obtain ⟨rfl, hZ, hh⟩ := hP
  have hx := Bd.exec
  have hby := Bd.bytes
  have hml : c.maxLocals = 9 := hml0
  have hown : s.vm.findClass "com/example/aprox/aprox/ByteReaderReadVIntPinLaw" = some m.cls := findClass_of_methodNamed Bd.named
  have hnm := (name_of_methodNamed Bd.named Bd.method).1
  have X0 : Stand p l e room_1 s m #[(.int x0), (.int ps), (.int jk)] below meth c s₁ [] 0 0 := Stand.of_body Bd
  have e0 : s₁.heap = h0 := by rw [← hh, Bd.state]; rfl
  have N0 := Fr.nil n0
  refine own_out (Q := fun v h L => v = some (.int 1) ∧ Fr n0 L) ?_
  refine own_cast (ef_rm_law m x0 ps jk) ?_
  show own_Go p.tables e below (s₁.setTop (mkF m 0 #[.val (.int x0), .val (.int ps), .val (.int jk), .unset, .unset, .unset, .unset, .unset, .unset] [])) _
  refine own_by (fun zt zk => XS.iloadN X0.here hx rfl (hb hby at_0) rfl zk) ?_
  show own_Go p.tables e below (s₁.setTop (mkF m 1 #[.val (.int x0), .val (.int ps), .val (.int jk), .unset, .unset, .unset, .unset, .unset, .unset] [(.int ps)])) _
  refine own_by (fun zt zk => XS.iconst X0.here hx rfl (hb hby at_1) zk) ?_
  show own_Go p.tables e below (s₁.setTop (mkF m 2 #[.val (.int x0), .val (.int ps), .val (.int jk), .unset, .unset, .unset, .unset, .unset, .unset] [(.int (3 : Int32)), (.int ps)])) _
  refine own_by (fun zt zk => XS.iand X0.here hx rfl (hb hby at_2) rfl zk) ?_
  show own_Go p.tables e below (s₁.setTop (mkF m 3 #[.val (.int x0), .val (.int ps), .val (.int jk), .unset, .unset, .unset, .unset, .unset, .unset] [(.int (ps &&& (3 : Int32)))])) _
  obtain ⟨pz, hpz⟩ : ∃ z, z = (ps &&& (3 : Int32)) := ⟨_, rfl⟩
  rw [← hpz]
  show own_Go p.tables e below (s₁.setTop (mkF m 3 #[.val (.int x0), .val (.int ps), .val (.int jk), .unset, .unset, .unset, .unset, .unset, .unset] [(.int pz)])) _
  obtain ⟨PP, hP3, hp2⟩ : ∃ PP : Nat, PP ≤ 3 ∧ pz = Int32.ofNat PP := own_P hpz
  refine own_by (fun zt zk => XS.istoreN X0.here hx rfl (hb hby at_3) rfl (l' := #[.val (.int x0), .val (.int ps), .val (.int jk), .val (.int pz), .unset, .unset, .unset, .unset, .unset]) rfl zk) ?_
  show own_Go p.tables e below (s₁.setTop (mkF m 4 #[.val (.int x0), .val (.int ps), .val (.int jk), .val (.int pz), .unset, .unset, .unset, .unset, .unset] [])) _
  refine own_by (fun zt zk => XS.iloadN X0.here hx rfl (hb hby at_4) rfl zk) ?_
  show own_Go p.tables e below (s₁.setTop (mkF m 5 #[.val (.int x0), .val (.int ps), .val (.int jk), .val (.int pz), .unset, .unset, .unset, .unset, .unset] [(.int jk)])) _
  refine own_by (fun zt zk => XS.i2b X0.here hx rfl (hb hby at_5) rfl zk) ?_
  show own_Go p.tables e below (s₁.setTop (mkF m 6 #[.val (.int x0), .val (.int ps), .val (.int jk), .val (.int pz), .unset, .unset, .unset, .unset, .unset] [(.int (jk.toInt8.toInt32))])) _
  obtain ⟨jb, hjb⟩ : ∃ z, z = (jk.toInt8.toInt32) := ⟨_, rfl⟩
  rw [← hjb]
  show own_Go p.tables e below (s₁.setTop (mkF m 6 #[.val (.int x0), .val (.int ps), .val (.int jk), .val (.int pz), .unset, .unset, .unset, .unset, .unset] [(.int jb)])) _
  refine own_by (fun zt zk => XS.istore X0.here hx rfl (hb hby at_6) rfl (l' := #[.val (.int x0), .val (.int ps), .val (.int jk), .val (.int pz), .val (.int jb), .unset, .unset, .unset, .unset]) rfl zk) ?_
  show own_Go p.tables e below (s₁.setTop (mkF m 8 #[.val (.int x0), .val (.int ps), .val (.int jk), .val (.int pz), .val (.int jb), .unset, .unset, .unset, .unset] [])) _
  refine own_by (fun zt zk => XS.bipush X0.here hx rfl (hb hby at_8) zk) ?_
  show own_Go p.tables e below (s₁.setTop (mkF m 10 #[.val (.int x0), .val (.int ps), .val (.int jk), .val (.int pz), .val (.int jb), .unset, .unset, .unset, .unset] [(.int (9 : Int32))])) _
  obtain ⟨T1, hea1, k1, X1, e1, E1, A1, st1⟩ := newP X0 hx hZ (hw _ (List.mem_of_getElem? (i := 0) rfl)) e0 (g := (mkF m 10 #[.val (.int x0), .val (.int ps), .val (.int jk), .val (.int pz), .val (.int jb), .unset, .unset, .unset, .unset] [(.int (9 : Int32))])) rfl (hb hby at_10) rfl (by decide) (cap := 9) (by decide) (by decide) (by decide) (by decide)
  obtain ⟨d, g1⟩ : ∃ z, z = h0.size := ⟨_, rfl⟩
  rw [← g1] at A1 st1
  have sz_d : h0.size ≤ d := Nat.le_trans (Keep.refl h0 []).1 (Nat.le_of_eq g1.symm)
  have K1 : Keep h0 hea1 [] := (Keep.refl h0 []).ext E1
  refine own_by (st1) ?_
  have V1 : own_AI Z hea1 d .byte 9 (fun _ => (0 : Int32)) := own_AF.new A1 rfl
  show own_Go p.tables e below (T1.setTop (mkF m 12 #[.val (.int x0), .val (.int ps), .val (.int jk), .val (.int pz), .val (.int jb), .unset, .unset, .unset, .unset] [(.ref d)])) _
  refine own_by (fun zt zk => XS.astore X1.here hx rfl (hb hby at_12) rfl rfl (l' := #[.val (.int x0), .val (.int ps), .val (.int jk), .val (.int pz), .val (.int jb), .val (.ref d), .unset, .unset, .unset]) rfl zk) ?_
  show own_Go p.tables e below (T1.setTop (mkF m 14 #[.val (.int x0), .val (.int ps), .val (.int jk), .val (.int pz), .val (.int jb), .val (.ref d), .unset, .unset, .unset] [])) _
  refine own_by (fun zt zk => XS.aload X1.here hx rfl (hb hby at_14) rfl rfl zk) ?_
  show own_Go p.tables e below (T1.setTop (mkF m 16 #[.val (.int x0), .val (.int ps), .val (.int jk), .val (.int pz), .val (.int jb), .val (.ref d), .unset, .unset, .unset] [(.ref d)])) _
  refine own_by (fun zt zk => XS.iconst X1.here hx rfl (hb hby at_16) zk) ?_
  show own_Go p.tables e below (T1.setTop (mkF m 17 #[.val (.int x0), .val (.int ps), .val (.int jk), .val (.int pz), .val (.int jb), .val (.ref d), .unset, .unset, .unset] [(.int (0 : Int32)), (.ref d)])) _
  refine own_by (fun zt zk => XS.iload X1.here hx rfl (hb hby at_17) rfl zk) ?_
  show own_Go p.tables e below (T1.setTop (mkF m 19 #[.val (.int x0), .val (.int ps), .val (.int jk), .val (.int pz), .val (.int jb), .val (.ref d), .unset, .unset, .unset] [(.int jb), (.int (0 : Int32)), (.ref d)])) _
  obtain ⟨T2, hea2, X2, e2, W2, V2, st2⟩ := own_stB X1 hx hZ e1 V1 (j := (0 : Int32)) (k := 0) (by decide) rfl (by decide) (g := (mkF m 19 #[.val (.int x0), .val (.int ps), .val (.int jk), .val (.int pz), .val (.int jb), .val (.ref d), .unset, .unset, .unset] [(.int jb), (.int (0 : Int32)), (.ref d)])) rfl rfl (hb hby at_19)
  have N2 := Fr.snoc X2 N0 (Nat.le_trans Z0 sz_d)
  have K2 : Keep h0 hea2 [] := K1.wr W2 (Or.inr sz_d)
  refine own_by (st2) ?_
  show own_Go p.tables e below (T2.setTop (mkF m 20 #[.val (.int x0), .val (.int ps), .val (.int jk), .val (.int pz), .val (.int jb), .val (.ref d), .unset, .unset, .unset] [])) _
  refine own_by (fun zt zk => XS.aload X2.here hx rfl (hb hby at_20) rfl rfl zk) ?_
  show own_Go p.tables e below (T2.setTop (mkF m 22 #[.val (.int x0), .val (.int ps), .val (.int jk), .val (.int pz), .val (.int jb), .val (.ref d), .unset, .unset, .unset] [(.ref d)])) _
  refine own_by (fun zt zk => XS.iconst X2.here hx rfl (hb hby at_22) zk) ?_
  show own_Go p.tables e below (T2.setTop (mkF m 23 #[.val (.int x0), .val (.int ps), .val (.int jk), .val (.int pz), .val (.int jb), .val (.ref d), .unset, .unset, .unset] [(.int (1 : Int32)), (.ref d)])) _
  refine own_by (fun zt zk => XS.iload X2.here hx rfl (hb hby at_23) rfl zk) ?_
  show own_Go p.tables e below (T2.setTop (mkF m 25 #[.val (.int x0), .val (.int ps), .val (.int jk), .val (.int pz), .val (.int jb), .val (.ref d), .unset, .unset, .unset] [(.int jb), (.int (1 : Int32)), (.ref d)])) _
  obtain ⟨T3, hea3, X3, e3, W3, V3, st3⟩ := own_stB X2 hx hZ e2 V2 (j := (1 : Int32)) (k := 1) (by decide) rfl (by decide) (g := (mkF m 25 #[.val (.int x0), .val (.int ps), .val (.int jk), .val (.int pz), .val (.int jb), .val (.ref d), .unset, .unset, .unset] [(.int jb), (.int (1 : Int32)), (.ref d)])) rfl rfl (hb hby at_25)
  have N3 := Fr.snoc X3 N2 (Nat.le_trans Z0 sz_d)
  have K3 : Keep h0 hea3 [] := K2.wr W3 (Or.inr sz_d)
  refine own_by (st3) ?_
  show own_Go p.tables e below (T3.setTop (mkF m 26 #[.val (.int x0), .val (.int ps), .val (.int jk), .val (.int pz), .val (.int jb), .val (.ref d), .unset, .unset, .unset] [])) _
  refine own_by (fun zt zk => XS.aload X3.here hx rfl (hb hby at_26) rfl rfl zk) ?_
  show own_Go p.tables e below (T3.setTop (mkF m 28 #[.val (.int x0), .val (.int ps), .val (.int jk), .val (.int pz), .val (.int jb), .val (.ref d), .unset, .unset, .unset] [(.ref d)])) _
  refine own_by (fun zt zk => XS.iconst X3.here hx rfl (hb hby at_28) zk) ?_
  show own_Go p.tables e below (T3.setTop (mkF m 29 #[.val (.int x0), .val (.int ps), .val (.int jk), .val (.int pz), .val (.int jb), .val (.ref d), .unset, .unset, .unset] [(.int (2 : Int32)), (.ref d)])) _
  refine own_by (fun zt zk => XS.iload X3.here hx rfl (hb hby at_29) rfl zk) ?_
  show own_Go p.tables e below (T3.setTop (mkF m 31 #[.val (.int x0), .val (.int ps), .val (.int jk), .val (.int pz), .val (.int jb), .val (.ref d), .unset, .unset, .unset] [(.int jb), (.int (2 : Int32)), (.ref d)])) _
  obtain ⟨T4, hea4, X4, e4, W4, V4, st4⟩ := own_stB X3 hx hZ e3 V3 (j := (2 : Int32)) (k := 2) (by decide) rfl (by decide) (g := (mkF m 31 #[.val (.int x0), .val (.int ps), .val (.int jk), .val (.int pz), .val (.int jb), .val (.ref d), .unset, .unset, .unset] [(.int jb), (.int (2 : Int32)), (.ref d)])) rfl rfl (hb hby at_31)
  have N4 := Fr.snoc X4 N3 (Nat.le_trans Z0 sz_d)
  have K4 : Keep h0 hea4 [] := K3.wr W4 (Or.inr sz_d)
  refine own_by (st4) ?_
  show own_Go p.tables e below (T4.setTop (mkF m 32 #[.val (.int x0), .val (.int ps), .val (.int jk), .val (.int pz), .val (.int jb), .val (.ref d), .unset, .unset, .unset] [])) _
  refine own_by (fun zt zk => XS.aload X4.here hx rfl (hb hby at_32) rfl rfl zk) ?_
  show own_Go p.tables e below (T4.setTop (mkF m 34 #[.val (.int x0), .val (.int ps), .val (.int jk), .val (.int pz), .val (.int jb), .val (.ref d), .unset, .unset, .unset] [(.ref d)])) _
  refine own_by (fun zt zk => XS.iconst X4.here hx rfl (hb hby at_34) zk) ?_
  show own_Go p.tables e below (T4.setTop (mkF m 35 #[.val (.int x0), .val (.int ps), .val (.int jk), .val (.int pz), .val (.int jb), .val (.ref d), .unset, .unset, .unset] [(.int (3 : Int32)), (.ref d)])) _
  refine own_by (fun zt zk => XS.iload X4.here hx rfl (hb hby at_35) rfl zk) ?_
  show own_Go p.tables e below (T4.setTop (mkF m 37 #[.val (.int x0), .val (.int ps), .val (.int jk), .val (.int pz), .val (.int jb), .val (.ref d), .unset, .unset, .unset] [(.int jb), (.int (3 : Int32)), (.ref d)])) _
  obtain ⟨T5, hea5, X5, e5, W5, V5, st5⟩ := own_stB X4 hx hZ e4 V4 (j := (3 : Int32)) (k := 3) (by decide) rfl (by decide) (g := (mkF m 37 #[.val (.int x0), .val (.int ps), .val (.int jk), .val (.int pz), .val (.int jb), .val (.ref d), .unset, .unset, .unset] [(.int jb), (.int (3 : Int32)), (.ref d)])) rfl rfl (hb hby at_37)
  have N5 := Fr.snoc X5 N4 (Nat.le_trans Z0 sz_d)
  have K5 : Keep h0 hea5 [] := K4.wr W5 (Or.inr sz_d)
  refine own_by (st5) ?_
  show own_Go p.tables e below (T5.setTop (mkF m 38 #[.val (.int x0), .val (.int ps), .val (.int jk), .val (.int pz), .val (.int jb), .val (.ref d), .unset, .unset, .unset] [])) _
  refine own_by (fun zt zk => XS.aload X5.here hx rfl (hb hby at_38) rfl rfl zk) ?_
  show own_Go p.tables e below (T5.setTop (mkF m 40 #[.val (.int x0), .val (.int ps), .val (.int jk), .val (.int pz), .val (.int jb), .val (.ref d), .unset, .unset, .unset] [(.ref d)])) _
  refine own_by (fun zt zk => XS.iconst X5.here hx rfl (hb hby at_40) zk) ?_
  show own_Go p.tables e below (T5.setTop (mkF m 41 #[.val (.int x0), .val (.int ps), .val (.int jk), .val (.int pz), .val (.int jb), .val (.ref d), .unset, .unset, .unset] [(.int (4 : Int32)), (.ref d)])) _
  refine own_by (fun zt zk => XS.iload X5.here hx rfl (hb hby at_41) rfl zk) ?_
  show own_Go p.tables e below (T5.setTop (mkF m 43 #[.val (.int x0), .val (.int ps), .val (.int jk), .val (.int pz), .val (.int jb), .val (.ref d), .unset, .unset, .unset] [(.int jb), (.int (4 : Int32)), (.ref d)])) _
  obtain ⟨T6, hea6, X6, e6, W6, V6, st6⟩ := own_stB X5 hx hZ e5 V5 (j := (4 : Int32)) (k := 4) (by decide) rfl (by decide) (g := (mkF m 43 #[.val (.int x0), .val (.int ps), .val (.int jk), .val (.int pz), .val (.int jb), .val (.ref d), .unset, .unset, .unset] [(.int jb), (.int (4 : Int32)), (.ref d)])) rfl rfl (hb hby at_43)
  have N6 := Fr.snoc X6 N5 (Nat.le_trans Z0 sz_d)
  have K6 : Keep h0 hea6 [] := K5.wr W6 (Or.inr sz_d)
  refine own_by (st6) ?_
  show own_Go p.tables e below (T6.setTop (mkF m 44 #[.val (.int x0), .val (.int ps), .val (.int jk), .val (.int pz), .val (.int jb), .val (.ref d), .unset, .unset, .unset] [])) _
  refine own_by (fun zt zk => XS.aload X6.here hx rfl (hb hby at_44) rfl rfl zk) ?_
  show own_Go p.tables e below (T6.setTop (mkF m 46 #[.val (.int x0), .val (.int ps), .val (.int jk), .val (.int pz), .val (.int jb), .val (.ref d), .unset, .unset, .unset] [(.ref d)])) _
  refine own_by (fun zt zk => XS.iconst X6.here hx rfl (hb hby at_46) zk) ?_
  show own_Go p.tables e below (T6.setTop (mkF m 47 #[.val (.int x0), .val (.int ps), .val (.int jk), .val (.int pz), .val (.int jb), .val (.ref d), .unset, .unset, .unset] [(.int (5 : Int32)), (.ref d)])) _
  refine own_by (fun zt zk => XS.iload X6.here hx rfl (hb hby at_47) rfl zk) ?_
  show own_Go p.tables e below (T6.setTop (mkF m 49 #[.val (.int x0), .val (.int ps), .val (.int jk), .val (.int pz), .val (.int jb), .val (.ref d), .unset, .unset, .unset] [(.int jb), (.int (5 : Int32)), (.ref d)])) _
  obtain ⟨T7, hea7, X7, e7, W7, V7, st7⟩ := own_stB X6 hx hZ e6 V6 (j := (5 : Int32)) (k := 5) (by decide) rfl (by decide) (g := (mkF m 49 #[.val (.int x0), .val (.int ps), .val (.int jk), .val (.int pz), .val (.int jb), .val (.ref d), .unset, .unset, .unset] [(.int jb), (.int (5 : Int32)), (.ref d)])) rfl rfl (hb hby at_49)
  have N7 := Fr.snoc X7 N6 (Nat.le_trans Z0 sz_d)
  have K7 : Keep h0 hea7 [] := K6.wr W7 (Or.inr sz_d)
  refine own_by (st7) ?_
  show own_Go p.tables e below (T7.setTop (mkF m 50 #[.val (.int x0), .val (.int ps), .val (.int jk), .val (.int pz), .val (.int jb), .val (.ref d), .unset, .unset, .unset] [])) _
  refine own_by (fun zt zk => XS.aload X7.here hx rfl (hb hby at_50) rfl rfl zk) ?_
  show own_Go p.tables e below (T7.setTop (mkF m 52 #[.val (.int x0), .val (.int ps), .val (.int jk), .val (.int pz), .val (.int jb), .val (.ref d), .unset, .unset, .unset] [(.ref d)])) _
  refine own_by (fun zt zk => XS.bipush X7.here hx rfl (hb hby at_52) zk) ?_
  show own_Go p.tables e below (T7.setTop (mkF m 54 #[.val (.int x0), .val (.int ps), .val (.int jk), .val (.int pz), .val (.int jb), .val (.ref d), .unset, .unset, .unset] [(.int (6 : Int32)), (.ref d)])) _
  refine own_by (fun zt zk => XS.iload X7.here hx rfl (hb hby at_54) rfl zk) ?_
  show own_Go p.tables e below (T7.setTop (mkF m 56 #[.val (.int x0), .val (.int ps), .val (.int jk), .val (.int pz), .val (.int jb), .val (.ref d), .unset, .unset, .unset] [(.int jb), (.int (6 : Int32)), (.ref d)])) _
  obtain ⟨T8, hea8, X8, e8, W8, V8, st8⟩ := own_stB X7 hx hZ e7 V7 (j := (6 : Int32)) (k := 6) (by decide) rfl (by decide) (g := (mkF m 56 #[.val (.int x0), .val (.int ps), .val (.int jk), .val (.int pz), .val (.int jb), .val (.ref d), .unset, .unset, .unset] [(.int jb), (.int (6 : Int32)), (.ref d)])) rfl rfl (hb hby at_56)
  have N8 := Fr.snoc X8 N7 (Nat.le_trans Z0 sz_d)
  have K8 : Keep h0 hea8 [] := K7.wr W8 (Or.inr sz_d)
  refine own_by (st8) ?_
  show own_Go p.tables e below (T8.setTop (mkF m 57 #[.val (.int x0), .val (.int ps), .val (.int jk), .val (.int pz), .val (.int jb), .val (.ref d), .unset, .unset, .unset] [])) _
  refine own_by (fun zt zk => XS.aload X8.here hx rfl (hb hby at_57) rfl rfl zk) ?_
  show own_Go p.tables e below (T8.setTop (mkF m 59 #[.val (.int x0), .val (.int ps), .val (.int jk), .val (.int pz), .val (.int jb), .val (.ref d), .unset, .unset, .unset] [(.ref d)])) _
  refine own_by (fun zt zk => XS.bipush X8.here hx rfl (hb hby at_59) zk) ?_
  show own_Go p.tables e below (T8.setTop (mkF m 61 #[.val (.int x0), .val (.int ps), .val (.int jk), .val (.int pz), .val (.int jb), .val (.ref d), .unset, .unset, .unset] [(.int (7 : Int32)), (.ref d)])) _
  refine own_by (fun zt zk => XS.iload X8.here hx rfl (hb hby at_61) rfl zk) ?_
  show own_Go p.tables e below (T8.setTop (mkF m 63 #[.val (.int x0), .val (.int ps), .val (.int jk), .val (.int pz), .val (.int jb), .val (.ref d), .unset, .unset, .unset] [(.int jb), (.int (7 : Int32)), (.ref d)])) _
  obtain ⟨T9, hea9, X9, e9, W9, V9, st9⟩ := own_stB X8 hx hZ e8 V8 (j := (7 : Int32)) (k := 7) (by decide) rfl (by decide) (g := (mkF m 63 #[.val (.int x0), .val (.int ps), .val (.int jk), .val (.int pz), .val (.int jb), .val (.ref d), .unset, .unset, .unset] [(.int jb), (.int (7 : Int32)), (.ref d)])) rfl rfl (hb hby at_63)
  have N9 := Fr.snoc X9 N8 (Nat.le_trans Z0 sz_d)
  have K9 : Keep h0 hea9 [] := K8.wr W9 (Or.inr sz_d)
  refine own_by (st9) ?_
  show own_Go p.tables e below (T9.setTop (mkF m 64 #[.val (.int x0), .val (.int ps), .val (.int jk), .val (.int pz), .val (.int jb), .val (.ref d), .unset, .unset, .unset] [])) _
  refine own_by (fun zt zk => XS.aload X9.here hx rfl (hb hby at_64) rfl rfl zk) ?_
  show own_Go p.tables e below (T9.setTop (mkF m 66 #[.val (.int x0), .val (.int ps), .val (.int jk), .val (.int pz), .val (.int jb), .val (.ref d), .unset, .unset, .unset] [(.ref d)])) _
  refine own_by (fun zt zk => XS.bipush X9.here hx rfl (hb hby at_66) zk) ?_
  show own_Go p.tables e below (T9.setTop (mkF m 68 #[.val (.int x0), .val (.int ps), .val (.int jk), .val (.int pz), .val (.int jb), .val (.ref d), .unset, .unset, .unset] [(.int (8 : Int32)), (.ref d)])) _
  refine own_by (fun zt zk => XS.iload X9.here hx rfl (hb hby at_68) rfl zk) ?_
  show own_Go p.tables e below (T9.setTop (mkF m 70 #[.val (.int x0), .val (.int ps), .val (.int jk), .val (.int pz), .val (.int jb), .val (.ref d), .unset, .unset, .unset] [(.int jb), (.int (8 : Int32)), (.ref d)])) _
  obtain ⟨T10, hea10, X10, e10, W10, V10, st10⟩ := own_stB X9 hx hZ e9 V9 (j := (8 : Int32)) (k := 8) (by decide) rfl (by decide) (g := (mkF m 70 #[.val (.int x0), .val (.int ps), .val (.int jk), .val (.int pz), .val (.int jb), .val (.ref d), .unset, .unset, .unset] [(.int jb), (.int (8 : Int32)), (.ref d)])) rfl rfl (hb hby at_70)
  have N10 := Fr.snoc X10 N9 (Nat.le_trans Z0 sz_d)
  have K10 : Keep h0 hea10 [] := K9.wr W10 (Or.inr sz_d)
  refine own_by (st10) ?_
  show own_Go p.tables e below (T10.setTop (mkF m 71 #[.val (.int x0), .val (.int ps), .val (.int jk), .val (.int pz), .val (.int jb), .val (.ref d), .unset, .unset, .unset] [])) _
  refine own_by (fun zt zk => XS.iloadN X10.here hx rfl (hb hby at_71) rfl zk) ?_
  show own_Go p.tables e below (T10.setTop (mkF m 72 #[.val (.int x0), .val (.int ps), .val (.int jk), .val (.int pz), .val (.int jb), .val (.ref d), .unset, .unset, .unset] [(.int x0)])) _
  obtain ⟨f9, hf9⟩ : ∃ q, q = (own_upd (own_upd (own_upd (own_upd (own_upd (own_upd (own_upd (own_upd (own_upd (fun _ => (0 : Int32)) 0 (jb.toInt8.toInt32)) 1 (jb.toInt8.toInt32)) 2 (jb.toInt8.toInt32)) 3 (jb.toInt8.toInt32)) 4 (jb.toInt8.toInt32)) 5 (jb.toInt8.toInt32)) 6 (jb.toInt8.toInt32)) 7 (jb.toInt8.toInt32)) 8 (jb.toInt8.toInt32)) := ⟨_, rfl⟩
  have A9 : own_AI Z hea10 d .byte 9 f9 := by rw [hf9]; exact V10
  obtain ⟨_, _, ⟨T11, L11, k11, n11⟩, -, X11, ⟨Lc11, hQ11, l11, y11, z11⟩, st11⟩ := Jvm.LawKit.callS X10 hx (y := (⟨"com/example/aprox/aprox/ByteReaderReadVIntPinLaw", "encodedLength", "(I)I"⟩ : MethodName)) hown (mvT hZ (hw _ (List.mem_of_getElem? (i := 1) rfl))) (mvT hZ (hw _ (List.mem_of_getElem? (i := 2) rfl))) (mvT hZ (hw _ (List.mem_of_getElem? (i := 3) rfl))) (mvT hZ (hw _ (List.mem_of_getElem? (i := 4) rfl))) (by decide) (backOf (W := 0) (rm_el l Z a0 hw [] x0  hea10 n0 (Nat.le_trans Z0 K10.1) ) hZ (hw _ (List.mem_of_getElem? (i := 4) rfl)) (hw _ (List.mem_of_getElem? (i := 3) rfl)) (by decide) (by decide)) (g := (mkF m 72 #[.val (.int x0), .val (.int ps), .val (.int jk), .val (.int pz), .val (.int jb), .val (.ref d), .unset, .unset, .unset] [(.int x0)])) rfl (by rw [hml]; rfl) (argsL := [(.int x0)]) (rest := []) (lenOf pd_104 rfl) rfl (by show 2 * 0 + _ ≤ _; exact Nat.le_of_eq rfl) (hb hby at_72) (fun _ _ => ⟨rfl, e10, (by decide : 1 + 0 ≤ _), (by decide : 9 + 0 ≤ _)⟩)
  dsimp only [Pt.U, Pt.locs, Pt.cells, Pt.slots] at X11 l11 y11 z11 st11 hQ11
  replace l11 := l11.symm
  replace y11 := y11.symm
  replace z11 := z11.symm
  subst l11 y11 z11
  obtain ⟨n, rfl, N11q, eh11, hn⟩ := hQ11
  have N11 := Fr.app N10 N11q
  refine own_by (st11) ?_
  show own_Go p.tables e below (T11.setTop (mkF m 75 #[.val (.int x0), .val (.int ps), .val (.int jk), .val (.int pz), .val (.int jb), .val (.ref d), .unset, .unset, .unset] [(.int n)])) _
  refine own_by (fun zt zk => XS.istore X11.here hx rfl (hb hby at_75) rfl (l' := #[.val (.int x0), .val (.int ps), .val (.int jk), .val (.int pz), .val (.int jb), .val (.ref d), .val (.int n), .unset, .unset]) rfl zk) ?_
  show own_Go p.tables e below (T11.setTop (mkF m 77 #[.val (.int x0), .val (.int ps), .val (.int jk), .val (.int pz), .val (.int jb), .val (.ref d), .val (.int n), .unset, .unset] [])) _
  obtain ⟨i0, ik⟩ := own_ixN hp2 (show PP < 9 by omega)
  obtain ⟨i1, ik1⟩ := own_ixN (own_addN (k := 1) (c := 1) hp2 rfl) (show PP + 1 < 9 by omega)
  obtain ⟨i2, ik2⟩ := own_ixN (own_addN (k := 2) (c := 2) hp2 rfl) (show PP + 2 < 9 by omega)
  obtain ⟨i3, ik3⟩ := own_ixN (own_addN (k := 3) (c := 3) hp2 rfl) (show PP + 3 < 9 by omega)
  obtain ⟨i4, ik4⟩ := own_ixN (own_addN (k := 4) (c := 4) hp2 rfl) (show PP + 4 < 9 by omega)
  rcases own_el5 hn with ⟨rfl, hx'⟩ | ⟨rfl, hx'⟩ | ⟨rfl, hx'⟩ | ⟨rfl, hx'⟩ | ⟨rfl, hx'⟩
  · show own_Go p.tables e below (T11.setTop (mkF m 77 #[.val (.int x0), .val (.int ps), .val (.int jk), .val (.int pz), .val (.int jb), .val (.ref d), .val (.int (1 : Int32)), .unset, .unset] [])) _
    refine own_by (fun zt zk => XS.aload X11.here hx rfl (hb hby at_77) rfl rfl zk) ?_
    show own_Go p.tables e below (T11.setTop (mkF m 79 #[.val (.int x0), .val (.int ps), .val (.int jk), .val (.int pz), .val (.int jb), .val (.ref d), .val (.int (1 : Int32)), .unset, .unset] [(.ref d)])) _
    refine own_by (fun zt zk => XS.iloadN X11.here hx rfl (hb hby at_79) rfl zk) ?_
    show own_Go p.tables e below (T11.setTop (mkF m 80 #[.val (.int x0), .val (.int ps), .val (.int jk), .val (.int pz), .val (.int jb), .val (.ref d), .val (.int (1 : Int32)), .unset, .unset] [(.int pz), (.ref d)])) _
    refine own_by (fun zt zk => XS.iloadN X11.here hx rfl (hb hby at_80) rfl zk) ?_
    show own_Go p.tables e below (T11.setTop (mkF m 81 #[.val (.int x0), .val (.int ps), .val (.int jk), .val (.int pz), .val (.int jb), .val (.ref d), .val (.int (1 : Int32)), .unset, .unset] [(.int x0), (.int pz), (.ref d)])) _
    refine own_by (fun zt zk => XS.iconst X11.here hx rfl (hb hby at_81) zk) ?_
    show own_Go p.tables e below (T11.setTop (mkF m 82 #[.val (.int x0), .val (.int ps), .val (.int jk), .val (.int pz), .val (.int jb), .val (.ref d), .val (.int (1 : Int32)), .unset, .unset] [(.int (0 : Int32)), (.int x0), (.int pz), (.ref d)])) _
    refine own_by (fun zt zk => XS.iload X11.here hx rfl (hb hby at_82) rfl zk) ?_
    show own_Go p.tables e below (T11.setTop (mkF m 84 #[.val (.int x0), .val (.int ps), .val (.int jk), .val (.int pz), .val (.int jb), .val (.ref d), .val (.int (1 : Int32)), .unset, .unset] [(.int (1 : Int32)), (.int (0 : Int32)), (.int x0), (.int pz), (.ref d)])) _
    obtain ⟨_, _, ⟨T12, L12, k12, n12⟩, -, X12, ⟨Lc12, hQ12, l12, y12, z12⟩, st12⟩ := Jvm.LawKit.callS X11 hx (y := (⟨"com/example/aprox/aprox/ByteReaderReadVIntPinLaw", "group", "(III)B"⟩ : MethodName)) hown (mvT hZ (hw _ (List.mem_of_getElem? (i := 5) rfl))) (mvT hZ (hw _ (List.mem_of_getElem? (i := 6) rfl))) (mvT hZ (hw _ (List.mem_of_getElem? (i := 3) rfl))) (mvT hZ (hw _ (List.mem_of_getElem? (i := 7) rfl))) (by decide) (backOf (W := 2) (rm_gr l Z a0 hw [] x0 (0 : Int32) (1 : Int32)  hea10 n0 (Nat.le_trans Z0 K10.1) ) hZ (hw _ (List.mem_of_getElem? (i := 7) rfl)) (hw _ (List.mem_of_getElem? (i := 3) rfl)) (by decide) (by decide)) (g := (mkF m 84 #[.val (.int x0), .val (.int ps), .val (.int jk), .val (.int pz), .val (.int jb), .val (.ref d), .val (.int (1 : Int32)), .unset, .unset] [(.int (1 : Int32)), (.int (0 : Int32)), (.int x0), (.int pz), (.ref d)])) rfl (by rw [hml]; rfl) (argsL := [(.int x0), (.int (0 : Int32)), (.int (1 : Int32))]) (rest := [(.int pz), (.ref d)]) (lenOf pd_105 rfl) rfl (by show 2 * 0 + _ ≤ _; exact Nat.le_of_eq rfl) (hb hby at_84) (fun _ _ => ⟨rfl, eh11, (by decide : 1 + 0 ≤ _), (by decide : 9 + 0 ≤ _)⟩)
    dsimp only [Pt.U, Pt.locs, Pt.cells, Pt.slots] at X12 l12 y12 z12 st12 hQ12
    replace l12 := l12.symm
    replace y12 := y12.symm
    replace z12 := z12.symm
    subst l12 y12 z12
    obtain ⟨r0, rfl, N12q, eh12, hr0⟩ := hQ12
    have N12 := Fr.app N11 N12q
    refine own_by (st12) ?_
    show own_Go p.tables e below (T12.setTop (mkF m 87 #[.val (.int x0), .val (.int ps), .val (.int jk), .val (.int pz), .val (.int jb), .val (.ref d), .val (.int (1 : Int32)), .unset, .unset] [(.int r0), (.int pz), (.ref d)])) _
    obtain ⟨T13, hea13, X13, e13, W13, V13, st13⟩ := own_stB X12 hx hZ eh12 A9 (j := pz) (k := PP) i0 ik (by omega) (g := (mkF m 87 #[.val (.int x0), .val (.int ps), .val (.int jk), .val (.int pz), .val (.int jb), .val (.ref d), .val (.int (1 : Int32)), .unset, .unset] [(.int r0), (.int pz), (.ref d)])) rfl rfl (hb hby at_87)
    have N13 := Fr.snoc X13 N12 (Nat.le_trans Z0 sz_d)
    have K13 : Keep h0 hea13 [] := K10.wr W13 (Or.inr sz_d)
    refine own_by (st13) ?_
    show own_Go p.tables e below (T13.setTop (mkF m 88 #[.val (.int x0), .val (.int ps), .val (.int jk), .val (.int pz), .val (.int jb), .val (.ref d), .val (.int (1 : Int32)), .unset, .unset] [])) _
    refine own_by (fun zt zk => XS.iload X13.here hx rfl (hb hby at_88) rfl zk) ?_
    show own_Go p.tables e below (T13.setTop (mkF m 90 #[.val (.int x0), .val (.int ps), .val (.int jk), .val (.int pz), .val (.int jb), .val (.ref d), .val (.int (1 : Int32)), .unset, .unset] [(.int (1 : Int32))])) _
    refine own_by (fun zt zk => XS.iconst X13.here hx rfl (hb hby at_90) zk) ?_
    show own_Go p.tables e below (T13.setTop (mkF m 91 #[.val (.int x0), .val (.int ps), .val (.int jk), .val (.int pz), .val (.int jb), .val (.ref d), .val (.int (1 : Int32)), .unset, .unset] [(.int (1 : Int32)), (.int (1 : Int32))])) _
    refine own_by (fun zt zk => XS.icmpYes X13.here hx rfl (pc0 := 91) (pc' := 107) rfl (hb hby at_91) rfl (flt (by decide)).2.2.2 (by decide) (by decide) zk) ?_
    show own_Go p.tables e below (T13.setTop (mkF m 107 #[.val (.int x0), .val (.int ps), .val (.int jk), .val (.int pz), .val (.int jb), .val (.ref d), .val (.int (1 : Int32)), .unset, .unset] [])) _
    refine own_by (fun zt zk => XS.iload X13.here hx rfl (hb hby at_107) rfl zk) ?_
    show own_Go p.tables e below (T13.setTop (mkF m 109 #[.val (.int x0), .val (.int ps), .val (.int jk), .val (.int pz), .val (.int jb), .val (.ref d), .val (.int (1 : Int32)), .unset, .unset] [(.int (1 : Int32))])) _
    refine own_by (fun zt zk => XS.iconst X13.here hx rfl (hb hby at_109) zk) ?_
    show own_Go p.tables e below (T13.setTop (mkF m 110 #[.val (.int x0), .val (.int ps), .val (.int jk), .val (.int pz), .val (.int jb), .val (.ref d), .val (.int (1 : Int32)), .unset, .unset] [(.int (2 : Int32)), (.int (1 : Int32))])) _
    refine own_by (fun zt zk => XS.icmpYes X13.here hx rfl (pc0 := 110) (pc' := 126) rfl (hb hby at_110) rfl (flt (by decide)).2.2.2 (by decide) (by decide) zk) ?_
    show own_Go p.tables e below (T13.setTop (mkF m 126 #[.val (.int x0), .val (.int ps), .val (.int jk), .val (.int pz), .val (.int jb), .val (.ref d), .val (.int (1 : Int32)), .unset, .unset] [])) _
    refine own_by (fun zt zk => XS.iload X13.here hx rfl (hb hby at_126) rfl zk) ?_
    show own_Go p.tables e below (T13.setTop (mkF m 128 #[.val (.int x0), .val (.int ps), .val (.int jk), .val (.int pz), .val (.int jb), .val (.ref d), .val (.int (1 : Int32)), .unset, .unset] [(.int (1 : Int32))])) _
    refine own_by (fun zt zk => XS.iconst X13.here hx rfl (hb hby at_128) zk) ?_
    show own_Go p.tables e below (T13.setTop (mkF m 129 #[.val (.int x0), .val (.int ps), .val (.int jk), .val (.int pz), .val (.int jb), .val (.ref d), .val (.int (1 : Int32)), .unset, .unset] [(.int (3 : Int32)), (.int (1 : Int32))])) _
    refine own_by (fun zt zk => XS.icmpYes X13.here hx rfl (pc0 := 129) (pc' := 145) rfl (hb hby at_129) rfl (flt (by decide)).2.2.2 (by decide) (by decide) zk) ?_
    show own_Go p.tables e below (T13.setTop (mkF m 145 #[.val (.int x0), .val (.int ps), .val (.int jk), .val (.int pz), .val (.int jb), .val (.ref d), .val (.int (1 : Int32)), .unset, .unset] [])) _
    refine own_by (fun zt zk => XS.iload X13.here hx rfl (hb hby at_145) rfl zk) ?_
    show own_Go p.tables e below (T13.setTop (mkF m 147 #[.val (.int x0), .val (.int ps), .val (.int jk), .val (.int pz), .val (.int jb), .val (.ref d), .val (.int (1 : Int32)), .unset, .unset] [(.int (1 : Int32))])) _
    refine own_by (fun zt zk => XS.iconst X13.here hx rfl (hb hby at_147) zk) ?_
    show own_Go p.tables e below (T13.setTop (mkF m 148 #[.val (.int x0), .val (.int ps), .val (.int jk), .val (.int pz), .val (.int jb), .val (.ref d), .val (.int (1 : Int32)), .unset, .unset] [(.int (4 : Int32)), (.int (1 : Int32))])) _
    refine own_by (fun zt zk => XS.icmpYes X13.here hx rfl (pc0 := 148) (pc' := 162) rfl (hb hby at_148) rfl (flt (by decide)).2.2.2 (by decide) (by decide) zk) ?_
    show own_Go p.tables e below (T13.setTop (mkF m 162 #[.val (.int x0), .val (.int ps), .val (.int jk), .val (.int pz), .val (.int jb), .val (.ref d), .val (.int (1 : Int32)), .unset, .unset] [])) _
    obtain ⟨ff, hff⟩ : ∃ q, q = (own_upd f9 PP (r0.toInt8.toInt32)) := ⟨_, rfl⟩
    have AF : own_AI Z hea13 d .byte 9 ff := by rw [hff]; exact V13
    have w0 : ff (PP + 0) = r0.toInt8.toInt32 := by rw [hff]; simp [own_upd]
    rw [hr0, own_bb] at w0
    have hng : ∀ i, i < 0 → ff (PP + i) < (0 : Int32) := fun i hi => absurd hi (Nat.not_lt_zero i)
    have hps : ¬ ff (PP + 0) < (0 : Int32) := by rw [w0]; exact own_ps1 hx'
    obtain ⟨T14, hea14, X14, e14, E14, A14, D14, -, st14⟩ := newO X13 hx hZ hown (hw _ (List.mem_of_getElem? (i := 8) rfl)) (hw _ (List.mem_of_getElem? (i := 9) rfl)) (hw _ (List.mem_of_getElem? (i := 10) rfl)) e13 (g := (mkF m 162 #[.val (.int x0), .val (.int ps), .val (.int jk), .val (.int pz), .val (.int jb), .val (.ref d), .val (.int (1 : Int32)), .unset, .unset] [])) rfl (hb hby at_162) (by decide) (by decide)
    obtain ⟨ob, g14⟩ : ∃ z, z = hea13.size := ⟨_, rfl⟩
    rw [← g14] at A14 D14 st14
    have ne_ob_d : ob ≠ d := Nat.ne_of_gt (g14 ▸ (AF).lt)
    have sz_ob : h0.size ≤ ob := Nat.le_trans K13.1 (Nat.le_of_eq g14.symm)
    have K14 : Keep h0 hea14 [] := K13.ext E14
    refine own_by (st14) ?_
    have F14_bytes : Fld Z hea14 ob "com/example/aprox/aprox/ByteReader" "bytes" "[B" .null := D14 (Or.inr (hw _ (List.mem_of_getElem? (i := 18) rfl))) (ty := (.array .byte)) (by decide)
    have F14_position : Fld Z hea14 ob "com/example/aprox/aprox/ByteReader" "position" "I" (.int (0 : Int32)) := D14 (Or.inl (hw _ (List.mem_of_getElem? (i := 20) rfl))) (ty := .int) (by decide)
    show own_Go p.tables e below (T14.setTop (mkF m 165 #[.val (.int x0), .val (.int ps), .val (.int jk), .val (.int pz), .val (.int jb), .val (.ref d), .val (.int (1 : Int32)), .unset, .unset] [(.ref ob)])) _
    refine own_by (fun zt zk => XS.dup X14.here hx rfl (hb hby at_165) rfl rfl zk) ?_
    show own_Go p.tables e below (T14.setTop (mkF m 166 #[.val (.int x0), .val (.int ps), .val (.int jk), .val (.int pz), .val (.int jb), .val (.ref d), .val (.int (1 : Int32)), .unset, .unset] [(.ref ob), (.ref ob)])) _
    refine own_by (fun zt zk => XS.aload X14.here hx rfl (hb hby at_166) rfl rfl zk) ?_
    show own_Go p.tables e below (T14.setTop (mkF m 168 #[.val (.int x0), .val (.int ps), .val (.int jk), .val (.int pz), .val (.int jb), .val (.ref d), .val (.int (1 : Int32)), .unset, .unset] [(.ref d), (.ref ob), (.ref ob)])) _
    refine own_by (fun zt zk => XS.iloadN X14.here hx rfl (hb hby at_168) rfl zk) ?_
    show own_Go p.tables e below (T14.setTop (mkF m 169 #[.val (.int x0), .val (.int ps), .val (.int jk), .val (.int pz), .val (.int jb), .val (.ref d), .val (.int (1 : Int32)), .unset, .unset] [(.int pz), (.ref d), (.ref ob), (.ref ob)])) _
    obtain ⟨_, _, ⟨T15, L15, k15, n15⟩, -, X15, ⟨Lc15, hQ15, l15, y15, z15⟩, st15⟩ := X14.specialBack hx (y := (⟨"com/example/aprox/aprox/ByteReader", "<init>", "([BI)V"⟩ : MethodName)) rfl hown (mvT hZ (hw _ (List.mem_of_getElem? (i := 11) rfl))) (mvT hZ (hw _ (List.mem_of_getElem? (i := 12) rfl))) (mvT hZ (hw _ (List.mem_of_getElem? (i := 13) rfl))) (by decide) (backOf (W := 1) (rm_new l Z a0 hw [] ob d pz  hea14 n0 (Nat.le_trans Z0 K14.1) A14 (Nat.le_trans Z0 sz_ob) F14_bytes F14_position) hZ (hw _ (List.mem_of_getElem? (i := 13) rfl)) (hw _ (List.mem_of_getElem? (i := 10) rfl)) (by decide) (by decide)) (g := (mkF m 169 #[.val (.int x0), .val (.int ps), .val (.int jk), .val (.int pz), .val (.int jb), .val (.ref d), .val (.int (1 : Int32)), .unset, .unset] [(.int pz), (.ref d), (.ref ob), (.ref ob)])) rfl (by rw [hml]; rfl) (Steps.refl _) (a := ob) (argsL := [(.ref d), (.int pz)]) (rest := [(.ref ob)]) (lenOf pd_106 rfl) rfl (by show 2 * 0 + _ ≤ _; exact Nat.le_of_eq rfl) (hb hby at_169) (fun _ _ => ⟨rfl, e14, (by decide : 2 + 0 ≤ _), (by decide : 11 + 0 ≤ _)⟩)
    dsimp only [Pt.U, Pt.locs, Pt.cells, Pt.slots] at X15 l15 y15 z15 st15 hQ15
    replace l15 := l15.symm
    replace y15 := y15.symm
    replace z15 := z15.symm
    subst l15 y15 z15
    obtain ⟨rfl, N15q, Kc15, Fb15, Fp15⟩ := hQ15
    have N15 := Fr.app N13 N15q
    have K15 : Keep h0 T15.heap [] := K14.trans Kc15 (allS (Or.inr sz_ob) all0)
    refine own_tr st15 ?_
    show own_Go p.tables e below (T15.setTop (mkF m 172 #[.val (.int x0), .val (.int ps), .val (.int jk), .val (.int pz), .val (.int jb), .val (.ref d), .val (.int (1 : Int32)), .unset, .unset] [(.ref ob)])) _
    refine own_by (fun zt zk => XS.astore X15.here hx rfl (hb hby at_172) rfl rfl (l' := #[.val (.int x0), .val (.int ps), .val (.int jk), .val (.int pz), .val (.int jb), .val (.ref d), .val (.int (1 : Int32)), .val (.ref ob), .unset]) rfl zk) ?_
    show own_Go p.tables e below (T15.setTop (mkF m 174 #[.val (.int x0), .val (.int ps), .val (.int jk), .val (.int pz), .val (.int jb), .val (.ref d), .val (.int (1 : Int32)), .val (.ref ob), .unset] [])) _
    refine own_by (fun zt zk => XS.aload X15.here hx rfl (hb hby at_174) rfl rfl zk) ?_
    show own_Go p.tables e below (T15.setTop (mkF m 176 #[.val (.int x0), .val (.int ps), .val (.int jk), .val (.int pz), .val (.int jb), .val (.ref d), .val (.int (1 : Int32)), .val (.ref ob), .unset] [(.ref ob)])) _
    obtain ⟨cq16, kq16, q16a, q16b, q16c⟩ := isOf hZ rfl (A14.keep Kc15)
    obtain ⟨_, _, ⟨T16, L16, k16, n16⟩, -, X16, ⟨Lc16, hQ16, l16, y16, z16⟩, st16⟩ := X15.virtualBack hx (y := (⟨"com/example/aprox/aprox/ByteReader", "readVInt", "()I"⟩ : MethodName)) (z := (⟨"com/example/aprox/aprox/ByteReader", "readVInt", "()I"⟩ : MethodName)) hown (mvT hZ (hw _ (List.mem_of_getElem? (i := 21) rfl))) (mvT hZ (hw _ (List.mem_of_getElem? (i := 22) rfl))) (notFace_of_selects (args := #[]) (mvT hZ (hw _ (List.mem_of_getElem? (i := 24) rfl)))) (mvT hZ (hw _ (List.mem_of_getElem? (i := 24) rfl))) (mvT hZ (hw _ (List.mem_of_getElem? (i := 23) rfl))) (by decide) (backOf (W := 0) (rm_rv l Z a0 hw [] ob d pz PP 0 ff T15.heap n0 (Nat.le_trans Z0 K15.1) (A14.keep Kc15) (Nat.le_trans Z0 sz_ob) Fb15 Fp15 ((AF.ext E14).keep Kc15 (ninS (Ne.symm ne_ob_d) nin0)) ne_ob_d hp2 (by omega) hng hps) hZ (hw _ (List.mem_of_getElem? (i := 25) rfl)) (hw _ (List.mem_of_getElem? (i := 10) rfl)) (by decide) (by decide)) q16a q16c (g := (mkF m 176 #[.val (.int x0), .val (.int ps), .val (.int jk), .val (.int pz), .val (.int jb), .val (.ref d), .val (.int (1 : Int32)), .val (.ref ob), .unset] [(.ref ob)])) rfl (by rw [hml]; rfl) (Steps.refl _) (argsL := []) (rest := []) (lenOf pd_107 rfl) rfl (by show 2 * 0 + _ ≤ _; exact Nat.le_of_eq rfl) (hb hby at_176) (fun _ _ => ⟨rfl, rfl, (by decide : 2 + 0 ≤ _), (by decide : 11 + 0 ≤ _)⟩)
    dsimp only [Pt.U, Pt.locs, Pt.cells, Pt.slots] at X16 l16 y16 z16 st16 hQ16
    replace l16 := l16.symm
    replace y16 := y16.symm
    replace z16 := z16.symm
    subst l16 y16 z16
    obtain ⟨rr, rfl, N16q, Kc16, Fp16, hrr⟩ := hQ16
    have N16 := Fr.app N15 N16q
    have K16 : Keep h0 T16.heap [] := K15.trans Kc16 (allS (Or.inr sz_ob) all0)
    refine own_tr st16 ?_
    show own_Go p.tables e below (T16.setTop (mkF m 179 #[.val (.int x0), .val (.int ps), .val (.int jk), .val (.int pz), .val (.int jb), .val (.ref d), .val (.int (1 : Int32)), .val (.ref ob), .unset] [(.int rr)])) _
    have ex : rr = x0 := by rw [hrr]; exact own_v1 x0 ff PP hx' w0
    refine own_by (fun zt zk => XS.istore X16.here hx rfl (hb hby at_179) rfl (l' := #[.val (.int x0), .val (.int ps), .val (.int jk), .val (.int pz), .val (.int jb), .val (.ref d), .val (.int (1 : Int32)), .val (.ref ob), .val (.int rr)]) rfl zk) ?_
    show own_Go p.tables e below (T16.setTop (mkF m 181 #[.val (.int x0), .val (.int ps), .val (.int jk), .val (.int pz), .val (.int jb), .val (.ref d), .val (.int (1 : Int32)), .val (.ref ob), .val (.int rr)] [])) _
    refine own_by (fun zt zk => XS.iload X16.here hx rfl (hb hby at_181) rfl zk) ?_
    show own_Go p.tables e below (T16.setTop (mkF m 183 #[.val (.int x0), .val (.int ps), .val (.int jk), .val (.int pz), .val (.int jb), .val (.ref d), .val (.int (1 : Int32)), .val (.ref ob), .val (.int rr)] [(.int rr)])) _
    refine own_by (fun zt zk => XS.iloadN X16.here hx rfl (hb hby at_183) rfl zk) ?_
    show own_Go p.tables e below (T16.setTop (mkF m 184 #[.val (.int x0), .val (.int ps), .val (.int jk), .val (.int pz), .val (.int jb), .val (.ref d), .val (.int (1 : Int32)), .val (.ref ob), .val (.int rr)] [(.int x0), (.int rr)])) _
    refine own_by (fun zt zk => XS.icmpNo X16.here hx rfl (hb hby at_184) rfl (teq ex).2 zk) ?_
    show own_Go p.tables e below (T16.setTop (mkF m 187 #[.val (.int x0), .val (.int ps), .val (.int jk), .val (.int pz), .val (.int jb), .val (.ref d), .val (.int (1 : Int32)), .val (.ref ob), .val (.int rr)] [])) _
    refine own_by (fun zt zk => XS.aload X16.here hx rfl (hb hby at_187) rfl rfl zk) ?_
    show own_Go p.tables e below (T16.setTop (mkF m 189 #[.val (.int x0), .val (.int ps), .val (.int jk), .val (.int pz), .val (.int jb), .val (.ref d), .val (.int (1 : Int32)), .val (.ref ob), .val (.int rr)] [(.ref ob)])) _
    obtain ⟨cq17, kq17, q17a, q17b, q17c⟩ := isOf hZ rfl ((A14.keep Kc15).keep Kc16)
    obtain ⟨_, _, ⟨T17, L17, k17, n17⟩, -, X17, ⟨Lc17, hQ17, l17, y17, z17⟩, st17⟩ := X16.virtualBack hx (y := (⟨"com/example/aprox/aprox/ByteReader", "position", "()I"⟩ : MethodName)) (z := (⟨"com/example/aprox/aprox/ByteReader", "position", "()I"⟩ : MethodName)) hown (mvT hZ (hw _ (List.mem_of_getElem? (i := 26) rfl))) (mvT hZ (hw _ (List.mem_of_getElem? (i := 27) rfl))) (notFace_of_selects (args := #[]) (mvT hZ (hw _ (List.mem_of_getElem? (i := 29) rfl)))) (mvT hZ (hw _ (List.mem_of_getElem? (i := 29) rfl))) (mvT hZ (hw _ (List.mem_of_getElem? (i := 28) rfl))) (by decide) (backOf (W := 0) (rm_po l Z a0 hw [] ob (Int32.ofNat (PP + 0 + 1)) T16.heap n0 (Nat.le_trans Z0 K16.1) Fp16) hZ (hw _ (List.mem_of_getElem? (i := 30) rfl)) (hw _ (List.mem_of_getElem? (i := 10) rfl)) (by decide) (by decide)) q17a q17c (g := (mkF m 189 #[.val (.int x0), .val (.int ps), .val (.int jk), .val (.int pz), .val (.int jb), .val (.ref d), .val (.int (1 : Int32)), .val (.ref ob), .val (.int rr)] [(.ref ob)])) rfl (by rw [hml]; rfl) (Steps.refl _) (argsL := []) (rest := []) (lenOf pd_107 rfl) rfl (by show 2 * 0 + _ ≤ _; exact Nat.le_of_eq rfl) (hb hby at_189) (fun _ _ => ⟨rfl, rfl, (by decide : 2 + 0 ≤ _), (by decide : 11 + 0 ≤ _)⟩)
    dsimp only [Pt.U, Pt.locs, Pt.cells, Pt.slots] at X17 l17 y17 z17 st17 hQ17
    replace l17 := l17.symm
    replace y17 := y17.symm
    replace z17 := z17.symm
    subst l17 y17 z17
    obtain ⟨pp, rfl, N17q, eh17, hpp⟩ := hQ17
    have N17 := Fr.app N16 N17q
    refine own_tr st17 ?_
    show own_Go p.tables e below (T17.setTop (mkF m 192 #[.val (.int x0), .val (.int ps), .val (.int jk), .val (.int pz), .val (.int jb), .val (.ref d), .val (.int (1 : Int32)), .val (.ref ob), .val (.int rr)] [(.int pp)])) _
    have ep : pp = (pz + (1 : Int32)) := by rw [hpp]; exact (own_addN (k := 1) hp2 rfl).symm
    refine own_by (fun zt zk => XS.iloadN X17.here hx rfl (hb hby at_192) rfl zk) ?_
    show own_Go p.tables e below (T17.setTop (mkF m 193 #[.val (.int x0), .val (.int ps), .val (.int jk), .val (.int pz), .val (.int jb), .val (.ref d), .val (.int (1 : Int32)), .val (.ref ob), .val (.int rr)] [(.int pz), (.int pp)])) _
    refine own_by (fun zt zk => XS.iload X17.here hx rfl (hb hby at_193) rfl zk) ?_
    show own_Go p.tables e below (T17.setTop (mkF m 195 #[.val (.int x0), .val (.int ps), .val (.int jk), .val (.int pz), .val (.int jb), .val (.ref d), .val (.int (1 : Int32)), .val (.ref ob), .val (.int rr)] [(.int (1 : Int32)), (.int pz), (.int pp)])) _
    refine own_by (fun zt zk => XS.iadd X17.here hx rfl (hb hby at_195) rfl zk) ?_
    show own_Go p.tables e below (T17.setTop (mkF m 196 #[.val (.int x0), .val (.int ps), .val (.int jk), .val (.int pz), .val (.int jb), .val (.ref d), .val (.int (1 : Int32)), .val (.ref ob), .val (.int rr)] [(.int (pz + (1 : Int32))), (.int pp)])) _
    refine own_by (fun zt zk => XS.icmpNo X17.here hx rfl (hb hby at_196) rfl (teq ep).2 zk) ?_
    show own_Go p.tables e below (T17.setTop (mkF m 199 #[.val (.int x0), .val (.int ps), .val (.int jk), .val (.int pz), .val (.int jb), .val (.ref d), .val (.int (1 : Int32)), .val (.ref ob), .val (.int rr)] [])) _
    refine own_by (fun zt zk => XS.iconst X17.here hx rfl (hb hby at_199) zk) ?_
    show own_Go p.tables e below (T17.setTop (mkF m 200 #[.val (.int x0), .val (.int ps), .val (.int jk), .val (.int pz), .val (.int jb), .val (.ref d), .val (.int (1 : Int32)), .val (.ref ob), .val (.int rr)] [(.int (1 : Int32))])) _
    refine own_by (fun zt zk => XS.goto X17.here hx rfl (pc0 := 200) (pc' := 204) rfl (hb hby at_200) (by decide) (by decide) zk) ?_
    show own_Go p.tables e below (T17.setTop (mkF m 204 #[.val (.int x0), .val (.int ps), .val (.int jk), .val (.int pz), .val (.int jb), .val (.ref d), .val (.int (1 : Int32)), .val (.ref ob), .val (.int rr)] [(.int (1 : Int32))])) _
    exact own_retN X17 hx Bd.notSynchronized (t := .boolean) Bd.returns (by simp) (by decide) (hb hby at_204) (by (try rw [eh17]); exact ⟨rfl, N17⟩) (by decide) (by decide)
  · show own_Go p.tables e below (T11.setTop (mkF m 77 #[.val (.int x0), .val (.int ps), .val (.int jk), .val (.int pz), .val (.int jb), .val (.ref d), .val (.int (2 : Int32)), .unset, .unset] [])) _
    refine own_by (fun zt zk => XS.aload X11.here hx rfl (hb hby at_77) rfl rfl zk) ?_
    show own_Go p.tables e below (T11.setTop (mkF m 79 #[.val (.int x0), .val (.int ps), .val (.int jk), .val (.int pz), .val (.int jb), .val (.ref d), .val (.int (2 : Int32)), .unset, .unset] [(.ref d)])) _
    refine own_by (fun zt zk => XS.iloadN X11.here hx rfl (hb hby at_79) rfl zk) ?_
    show own_Go p.tables e below (T11.setTop (mkF m 80 #[.val (.int x0), .val (.int ps), .val (.int jk), .val (.int pz), .val (.int jb), .val (.ref d), .val (.int (2 : Int32)), .unset, .unset] [(.int pz), (.ref d)])) _
    refine own_by (fun zt zk => XS.iloadN X11.here hx rfl (hb hby at_80) rfl zk) ?_
    show own_Go p.tables e below (T11.setTop (mkF m 81 #[.val (.int x0), .val (.int ps), .val (.int jk), .val (.int pz), .val (.int jb), .val (.ref d), .val (.int (2 : Int32)), .unset, .unset] [(.int x0), (.int pz), (.ref d)])) _
    refine own_by (fun zt zk => XS.iconst X11.here hx rfl (hb hby at_81) zk) ?_
    show own_Go p.tables e below (T11.setTop (mkF m 82 #[.val (.int x0), .val (.int ps), .val (.int jk), .val (.int pz), .val (.int jb), .val (.ref d), .val (.int (2 : Int32)), .unset, .unset] [(.int (0 : Int32)), (.int x0), (.int pz), (.ref d)])) _
    refine own_by (fun zt zk => XS.iload X11.here hx rfl (hb hby at_82) rfl zk) ?_
    show own_Go p.tables e below (T11.setTop (mkF m 84 #[.val (.int x0), .val (.int ps), .val (.int jk), .val (.int pz), .val (.int jb), .val (.ref d), .val (.int (2 : Int32)), .unset, .unset] [(.int (2 : Int32)), (.int (0 : Int32)), (.int x0), (.int pz), (.ref d)])) _
    obtain ⟨_, _, ⟨T18, L18, k18, n18⟩, -, X18, ⟨Lc18, hQ18, l18, y18, z18⟩, st18⟩ := Jvm.LawKit.callS X11 hx (y := (⟨"com/example/aprox/aprox/ByteReaderReadVIntPinLaw", "group", "(III)B"⟩ : MethodName)) hown (mvT hZ (hw _ (List.mem_of_getElem? (i := 5) rfl))) (mvT hZ (hw _ (List.mem_of_getElem? (i := 6) rfl))) (mvT hZ (hw _ (List.mem_of_getElem? (i := 3) rfl))) (mvT hZ (hw _ (List.mem_of_getElem? (i := 7) rfl))) (by decide) (backOf (W := 2) (rm_gr l Z a0 hw [] x0 (0 : Int32) (2 : Int32)  hea10 n0 (Nat.le_trans Z0 K10.1) ) hZ (hw _ (List.mem_of_getElem? (i := 7) rfl)) (hw _ (List.mem_of_getElem? (i := 3) rfl)) (by decide) (by decide)) (g := (mkF m 84 #[.val (.int x0), .val (.int ps), .val (.int jk), .val (.int pz), .val (.int jb), .val (.ref d), .val (.int (2 : Int32)), .unset, .unset] [(.int (2 : Int32)), (.int (0 : Int32)), (.int x0), (.int pz), (.ref d)])) rfl (by rw [hml]; rfl) (argsL := [(.int x0), (.int (0 : Int32)), (.int (2 : Int32))]) (rest := [(.int pz), (.ref d)]) (lenOf pd_105 rfl) rfl (by show 2 * 0 + _ ≤ _; exact Nat.le_of_eq rfl) (hb hby at_84) (fun _ _ => ⟨rfl, eh11, (by decide : 1 + 0 ≤ _), (by decide : 9 + 0 ≤ _)⟩)
    dsimp only [Pt.U, Pt.locs, Pt.cells, Pt.slots] at X18 l18 y18 z18 st18 hQ18
    replace l18 := l18.symm
    replace y18 := y18.symm
    replace z18 := z18.symm
    subst l18 y18 z18
    obtain ⟨r0, rfl, N18q, eh18, hr0⟩ := hQ18
    have N18 := Fr.app N11 N18q
    refine own_by (st18) ?_
    show own_Go p.tables e below (T18.setTop (mkF m 87 #[.val (.int x0), .val (.int ps), .val (.int jk), .val (.int pz), .val (.int jb), .val (.ref d), .val (.int (2 : Int32)), .unset, .unset] [(.int r0), (.int pz), (.ref d)])) _
    obtain ⟨T19, hea19, X19, e19, W19, V19, st19⟩ := own_stB X18 hx hZ eh18 A9 (j := pz) (k := PP) i0 ik (by omega) (g := (mkF m 87 #[.val (.int x0), .val (.int ps), .val (.int jk), .val (.int pz), .val (.int jb), .val (.ref d), .val (.int (2 : Int32)), .unset, .unset] [(.int r0), (.int pz), (.ref d)])) rfl rfl (hb hby at_87)
    have N19 := Fr.snoc X19 N18 (Nat.le_trans Z0 sz_d)
    have K19 : Keep h0 hea19 [] := K10.wr W19 (Or.inr sz_d)
    refine own_by (st19) ?_
    show own_Go p.tables e below (T19.setTop (mkF m 88 #[.val (.int x0), .val (.int ps), .val (.int jk), .val (.int pz), .val (.int jb), .val (.ref d), .val (.int (2 : Int32)), .unset, .unset] [])) _
    refine own_by (fun zt zk => XS.iload X19.here hx rfl (hb hby at_88) rfl zk) ?_
    show own_Go p.tables e below (T19.setTop (mkF m 90 #[.val (.int x0), .val (.int ps), .val (.int jk), .val (.int pz), .val (.int jb), .val (.ref d), .val (.int (2 : Int32)), .unset, .unset] [(.int (2 : Int32))])) _
    refine own_by (fun zt zk => XS.iconst X19.here hx rfl (hb hby at_90) zk) ?_
    show own_Go p.tables e below (T19.setTop (mkF m 91 #[.val (.int x0), .val (.int ps), .val (.int jk), .val (.int pz), .val (.int jb), .val (.ref d), .val (.int (2 : Int32)), .unset, .unset] [(.int (1 : Int32)), (.int (2 : Int32))])) _
    refine own_by (fun zt zk => XS.icmpNo X19.here hx rfl (hb hby at_91) rfl (tlt (by decide)).2.2.2 zk) ?_
    show own_Go p.tables e below (T19.setTop (mkF m 94 #[.val (.int x0), .val (.int ps), .val (.int jk), .val (.int pz), .val (.int jb), .val (.ref d), .val (.int (2 : Int32)), .unset, .unset] [])) _
    refine own_by (fun zt zk => XS.aload X19.here hx rfl (hb hby at_94) rfl rfl zk) ?_
    show own_Go p.tables e below (T19.setTop (mkF m 96 #[.val (.int x0), .val (.int ps), .val (.int jk), .val (.int pz), .val (.int jb), .val (.ref d), .val (.int (2 : Int32)), .unset, .unset] [(.ref d)])) _
    refine own_by (fun zt zk => XS.iloadN X19.here hx rfl (hb hby at_96) rfl zk) ?_
    show own_Go p.tables e below (T19.setTop (mkF m 97 #[.val (.int x0), .val (.int ps), .val (.int jk), .val (.int pz), .val (.int jb), .val (.ref d), .val (.int (2 : Int32)), .unset, .unset] [(.int pz), (.ref d)])) _
    refine own_by (fun zt zk => XS.iconst X19.here hx rfl (hb hby at_97) zk) ?_
    show own_Go p.tables e below (T19.setTop (mkF m 98 #[.val (.int x0), .val (.int ps), .val (.int jk), .val (.int pz), .val (.int jb), .val (.ref d), .val (.int (2 : Int32)), .unset, .unset] [(.int (1 : Int32)), (.int pz), (.ref d)])) _
    refine own_by (fun zt zk => XS.iadd X19.here hx rfl (hb hby at_98) rfl zk) ?_
    show own_Go p.tables e below (T19.setTop (mkF m 99 #[.val (.int x0), .val (.int ps), .val (.int jk), .val (.int pz), .val (.int jb), .val (.ref d), .val (.int (2 : Int32)), .unset, .unset] [(.int (pz + (1 : Int32))), (.ref d)])) _
    refine own_by (fun zt zk => XS.iloadN X19.here hx rfl (hb hby at_99) rfl zk) ?_
    show own_Go p.tables e below (T19.setTop (mkF m 100 #[.val (.int x0), .val (.int ps), .val (.int jk), .val (.int pz), .val (.int jb), .val (.ref d), .val (.int (2 : Int32)), .unset, .unset] [(.int x0), (.int (pz + (1 : Int32))), (.ref d)])) _
    refine own_by (fun zt zk => XS.iconst X19.here hx rfl (hb hby at_100) zk) ?_
    show own_Go p.tables e below (T19.setTop (mkF m 101 #[.val (.int x0), .val (.int ps), .val (.int jk), .val (.int pz), .val (.int jb), .val (.ref d), .val (.int (2 : Int32)), .unset, .unset] [(.int (1 : Int32)), (.int x0), (.int (pz + (1 : Int32))), (.ref d)])) _
    refine own_by (fun zt zk => XS.iload X19.here hx rfl (hb hby at_101) rfl zk) ?_
    show own_Go p.tables e below (T19.setTop (mkF m 103 #[.val (.int x0), .val (.int ps), .val (.int jk), .val (.int pz), .val (.int jb), .val (.ref d), .val (.int (2 : Int32)), .unset, .unset] [(.int (2 : Int32)), (.int (1 : Int32)), (.int x0), (.int (pz + (1 : Int32))), (.ref d)])) _
    obtain ⟨_, _, ⟨T20, L20, k20, n20⟩, -, X20, ⟨Lc20, hQ20, l20, y20, z20⟩, st20⟩ := Jvm.LawKit.callS X19 hx (y := (⟨"com/example/aprox/aprox/ByteReaderReadVIntPinLaw", "group", "(III)B"⟩ : MethodName)) hown (mvT hZ (hw _ (List.mem_of_getElem? (i := 5) rfl))) (mvT hZ (hw _ (List.mem_of_getElem? (i := 6) rfl))) (mvT hZ (hw _ (List.mem_of_getElem? (i := 3) rfl))) (mvT hZ (hw _ (List.mem_of_getElem? (i := 7) rfl))) (by decide) (backOf (W := 2) (rm_gr l Z a0 hw [] x0 (1 : Int32) (2 : Int32)  hea19 n0 (Nat.le_trans Z0 K19.1) ) hZ (hw _ (List.mem_of_getElem? (i := 7) rfl)) (hw _ (List.mem_of_getElem? (i := 3) rfl)) (by decide) (by decide)) (g := (mkF m 103 #[.val (.int x0), .val (.int ps), .val (.int jk), .val (.int pz), .val (.int jb), .val (.ref d), .val (.int (2 : Int32)), .unset, .unset] [(.int (2 : Int32)), (.int (1 : Int32)), (.int x0), (.int (pz + (1 : Int32))), (.ref d)])) rfl (by rw [hml]; rfl) (argsL := [(.int x0), (.int (1 : Int32)), (.int (2 : Int32))]) (rest := [(.int (pz + (1 : Int32))), (.ref d)]) (lenOf pd_105 rfl) rfl (by show 2 * 0 + _ ≤ _; exact Nat.le_of_eq rfl) (hb hby at_103) (fun _ _ => ⟨rfl, e19, (by decide : 1 + 0 ≤ _), (by decide : 9 + 0 ≤ _)⟩)
    dsimp only [Pt.U, Pt.locs, Pt.cells, Pt.slots] at X20 l20 y20 z20 st20 hQ20
    replace l20 := l20.symm
    replace y20 := y20.symm
    replace z20 := z20.symm
    subst l20 y20 z20
    obtain ⟨r1, rfl, N20q, eh20, hr1⟩ := hQ20
    have N20 := Fr.app N19 N20q
    refine own_by (st20) ?_
    show own_Go p.tables e below (T20.setTop (mkF m 106 #[.val (.int x0), .val (.int ps), .val (.int jk), .val (.int pz), .val (.int jb), .val (.ref d), .val (.int (2 : Int32)), .unset, .unset] [(.int r1), (.int (pz + (1 : Int32))), (.ref d)])) _
    obtain ⟨T21, hea21, X21, e21, W21, V21, st21⟩ := own_stB X20 hx hZ eh20 V19 (j := (pz + (1 : Int32))) (k := (PP + 1)) i1 ik1 (by omega) (g := (mkF m 106 #[.val (.int x0), .val (.int ps), .val (.int jk), .val (.int pz), .val (.int jb), .val (.ref d), .val (.int (2 : Int32)), .unset, .unset] [(.int r1), (.int (pz + (1 : Int32))), (.ref d)])) rfl rfl (hb hby at_106)
    have N21 := Fr.snoc X21 N20 (Nat.le_trans Z0 sz_d)
    have K21 : Keep h0 hea21 [] := K19.wr W21 (Or.inr sz_d)
    refine own_by (st21) ?_
    show own_Go p.tables e below (T21.setTop (mkF m 107 #[.val (.int x0), .val (.int ps), .val (.int jk), .val (.int pz), .val (.int jb), .val (.ref d), .val (.int (2 : Int32)), .unset, .unset] [])) _
    refine own_by (fun zt zk => XS.iload X21.here hx rfl (hb hby at_107) rfl zk) ?_
    show own_Go p.tables e below (T21.setTop (mkF m 109 #[.val (.int x0), .val (.int ps), .val (.int jk), .val (.int pz), .val (.int jb), .val (.ref d), .val (.int (2 : Int32)), .unset, .unset] [(.int (2 : Int32))])) _
    refine own_by (fun zt zk => XS.iconst X21.here hx rfl (hb hby at_109) zk) ?_
    show own_Go p.tables e below (T21.setTop (mkF m 110 #[.val (.int x0), .val (.int ps), .val (.int jk), .val (.int pz), .val (.int jb), .val (.ref d), .val (.int (2 : Int32)), .unset, .unset] [(.int (2 : Int32)), (.int (2 : Int32))])) _
    refine own_by (fun zt zk => XS.icmpYes X21.here hx rfl (pc0 := 110) (pc' := 126) rfl (hb hby at_110) rfl (flt (by decide)).2.2.2 (by decide) (by decide) zk) ?_
    show own_Go p.tables e below (T21.setTop (mkF m 126 #[.val (.int x0), .val (.int ps), .val (.int jk), .val (.int pz), .val (.int jb), .val (.ref d), .val (.int (2 : Int32)), .unset, .unset] [])) _
    refine own_by (fun zt zk => XS.iload X21.here hx rfl (hb hby at_126) rfl zk) ?_
    show own_Go p.tables e below (T21.setTop (mkF m 128 #[.val (.int x0), .val (.int ps), .val (.int jk), .val (.int pz), .val (.int jb), .val (.ref d), .val (.int (2 : Int32)), .unset, .unset] [(.int (2 : Int32))])) _
    refine own_by (fun zt zk => XS.iconst X21.here hx rfl (hb hby at_128) zk) ?_
    show own_Go p.tables e below (T21.setTop (mkF m 129 #[.val (.int x0), .val (.int ps), .val (.int jk), .val (.int pz), .val (.int jb), .val (.ref d), .val (.int (2 : Int32)), .unset, .unset] [(.int (3 : Int32)), (.int (2 : Int32))])) _
    refine own_by (fun zt zk => XS.icmpYes X21.here hx rfl (pc0 := 129) (pc' := 145) rfl (hb hby at_129) rfl (flt (by decide)).2.2.2 (by decide) (by decide) zk) ?_
    show own_Go p.tables e below (T21.setTop (mkF m 145 #[.val (.int x0), .val (.int ps), .val (.int jk), .val (.int pz), .val (.int jb), .val (.ref d), .val (.int (2 : Int32)), .unset, .unset] [])) _
    refine own_by (fun zt zk => XS.iload X21.here hx rfl (hb hby at_145) rfl zk) ?_
    show own_Go p.tables e below (T21.setTop (mkF m 147 #[.val (.int x0), .val (.int ps), .val (.int jk), .val (.int pz), .val (.int jb), .val (.ref d), .val (.int (2 : Int32)), .unset, .unset] [(.int (2 : Int32))])) _
    refine own_by (fun zt zk => XS.iconst X21.here hx rfl (hb hby at_147) zk) ?_
    show own_Go p.tables e below (T21.setTop (mkF m 148 #[.val (.int x0), .val (.int ps), .val (.int jk), .val (.int pz), .val (.int jb), .val (.ref d), .val (.int (2 : Int32)), .unset, .unset] [(.int (4 : Int32)), (.int (2 : Int32))])) _
    refine own_by (fun zt zk => XS.icmpYes X21.here hx rfl (pc0 := 148) (pc' := 162) rfl (hb hby at_148) rfl (flt (by decide)).2.2.2 (by decide) (by decide) zk) ?_
    show own_Go p.tables e below (T21.setTop (mkF m 162 #[.val (.int x0), .val (.int ps), .val (.int jk), .val (.int pz), .val (.int jb), .val (.ref d), .val (.int (2 : Int32)), .unset, .unset] [])) _
    obtain ⟨ff, hff⟩ : ∃ q, q = (own_upd (own_upd f9 PP (r0.toInt8.toInt32)) (PP + 1) (r1.toInt8.toInt32)) := ⟨_, rfl⟩
    have AF : own_AI Z hea21 d .byte 9 ff := by rw [hff]; exact V21
    have w0 : ff (PP + 0) = r0.toInt8.toInt32 := by rw [hff]; simp [own_upd]
    rw [hr0, own_bb] at w0
    have w1 : ff (PP + 1) = r1.toInt8.toInt32 := by rw [hff]; simp [own_upd]
    rw [hr1, own_bb] at w1
    have hng : ∀ i, i < 1 → ff (PP + i) < (0 : Int32) := fun i hi => by
      match i, hi with
      | 0, _ => rw [w0]; exact own_neg ⟨0, _, by decide, by decide, rfl, rfl⟩
    have hps : ¬ ff (PP + 1) < (0 : Int32) := by rw [w1]; exact own_ps2 hx'
    obtain ⟨T22, hea22, X22, e22, E22, A22, D22, -, st22⟩ := newO X21 hx hZ hown (hw _ (List.mem_of_getElem? (i := 8) rfl)) (hw _ (List.mem_of_getElem? (i := 9) rfl)) (hw _ (List.mem_of_getElem? (i := 10) rfl)) e21 (g := (mkF m 162 #[.val (.int x0), .val (.int ps), .val (.int jk), .val (.int pz), .val (.int jb), .val (.ref d), .val (.int (2 : Int32)), .unset, .unset] [])) rfl (hb hby at_162) (by decide) (by decide)
    obtain ⟨ob, g22⟩ : ∃ z, z = hea21.size := ⟨_, rfl⟩
    rw [← g22] at A22 D22 st22
    have ne_ob_d : ob ≠ d := Nat.ne_of_gt (g22 ▸ (AF).lt)
    have sz_ob : h0.size ≤ ob := Nat.le_trans K21.1 (Nat.le_of_eq g22.symm)
    have K22 : Keep h0 hea22 [] := K21.ext E22
    refine own_by (st22) ?_
    have F22_bytes : Fld Z hea22 ob "com/example/aprox/aprox/ByteReader" "bytes" "[B" .null := D22 (Or.inr (hw _ (List.mem_of_getElem? (i := 18) rfl))) (ty := (.array .byte)) (by decide)
    have F22_position : Fld Z hea22 ob "com/example/aprox/aprox/ByteReader" "position" "I" (.int (0 : Int32)) := D22 (Or.inl (hw _ (List.mem_of_getElem? (i := 20) rfl))) (ty := .int) (by decide)
    show own_Go p.tables e below (T22.setTop (mkF m 165 #[.val (.int x0), .val (.int ps), .val (.int jk), .val (.int pz), .val (.int jb), .val (.ref d), .val (.int (2 : Int32)), .unset, .unset] [(.ref ob)])) _
    refine own_by (fun zt zk => XS.dup X22.here hx rfl (hb hby at_165) rfl rfl zk) ?_
    show own_Go p.tables e below (T22.setTop (mkF m 166 #[.val (.int x0), .val (.int ps), .val (.int jk), .val (.int pz), .val (.int jb), .val (.ref d), .val (.int (2 : Int32)), .unset, .unset] [(.ref ob), (.ref ob)])) _
    refine own_by (fun zt zk => XS.aload X22.here hx rfl (hb hby at_166) rfl rfl zk) ?_
    show own_Go p.tables e below (T22.setTop (mkF m 168 #[.val (.int x0), .val (.int ps), .val (.int jk), .val (.int pz), .val (.int jb), .val (.ref d), .val (.int (2 : Int32)), .unset, .unset] [(.ref d), (.ref ob), (.ref ob)])) _
    refine own_by (fun zt zk => XS.iloadN X22.here hx rfl (hb hby at_168) rfl zk) ?_
    show own_Go p.tables e below (T22.setTop (mkF m 169 #[.val (.int x0), .val (.int ps), .val (.int jk), .val (.int pz), .val (.int jb), .val (.ref d), .val (.int (2 : Int32)), .unset, .unset] [(.int pz), (.ref d), (.ref ob), (.ref ob)])) _
    obtain ⟨_, _, ⟨T23, L23, k23, n23⟩, -, X23, ⟨Lc23, hQ23, l23, y23, z23⟩, st23⟩ := X22.specialBack hx (y := (⟨"com/example/aprox/aprox/ByteReader", "<init>", "([BI)V"⟩ : MethodName)) rfl hown (mvT hZ (hw _ (List.mem_of_getElem? (i := 11) rfl))) (mvT hZ (hw _ (List.mem_of_getElem? (i := 12) rfl))) (mvT hZ (hw _ (List.mem_of_getElem? (i := 13) rfl))) (by decide) (backOf (W := 1) (rm_new l Z a0 hw [] ob d pz  hea22 n0 (Nat.le_trans Z0 K22.1) A22 (Nat.le_trans Z0 sz_ob) F22_bytes F22_position) hZ (hw _ (List.mem_of_getElem? (i := 13) rfl)) (hw _ (List.mem_of_getElem? (i := 10) rfl)) (by decide) (by decide)) (g := (mkF m 169 #[.val (.int x0), .val (.int ps), .val (.int jk), .val (.int pz), .val (.int jb), .val (.ref d), .val (.int (2 : Int32)), .unset, .unset] [(.int pz), (.ref d), (.ref ob), (.ref ob)])) rfl (by rw [hml]; rfl) (Steps.refl _) (a := ob) (argsL := [(.ref d), (.int pz)]) (rest := [(.ref ob)]) (lenOf pd_106 rfl) rfl (by show 2 * 0 + _ ≤ _; exact Nat.le_of_eq rfl) (hb hby at_169) (fun _ _ => ⟨rfl, e22, (by decide : 2 + 0 ≤ _), (by decide : 11 + 0 ≤ _)⟩)
    dsimp only [Pt.U, Pt.locs, Pt.cells, Pt.slots] at X23 l23 y23 z23 st23 hQ23
    replace l23 := l23.symm
    replace y23 := y23.symm
    replace z23 := z23.symm
    subst l23 y23 z23
    obtain ⟨rfl, N23q, Kc23, Fb23, Fp23⟩ := hQ23
    have N23 := Fr.app N21 N23q
    have K23 : Keep h0 T23.heap [] := K22.trans Kc23 (allS (Or.inr sz_ob) all0)
    refine own_tr st23 ?_
    show own_Go p.tables e below (T23.setTop (mkF m 172 #[.val (.int x0), .val (.int ps), .val (.int jk), .val (.int pz), .val (.int jb), .val (.ref d), .val (.int (2 : Int32)), .unset, .unset] [(.ref ob)])) _
    refine own_by (fun zt zk => XS.astore X23.here hx rfl (hb hby at_172) rfl rfl (l' := #[.val (.int x0), .val (.int ps), .val (.int jk), .val (.int pz), .val (.int jb), .val (.ref d), .val (.int (2 : Int32)), .val (.ref ob), .unset]) rfl zk) ?_
    show own_Go p.tables e below (T23.setTop (mkF m 174 #[.val (.int x0), .val (.int ps), .val (.int jk), .val (.int pz), .val (.int jb), .val (.ref d), .val (.int (2 : Int32)), .val (.ref ob), .unset] [])) _
    refine own_by (fun zt zk => XS.aload X23.here hx rfl (hb hby at_174) rfl rfl zk) ?_
    show own_Go p.tables e below (T23.setTop (mkF m 176 #[.val (.int x0), .val (.int ps), .val (.int jk), .val (.int pz), .val (.int jb), .val (.ref d), .val (.int (2 : Int32)), .val (.ref ob), .unset] [(.ref ob)])) _
    obtain ⟨cq24, kq24, q24a, q24b, q24c⟩ := isOf hZ rfl (A22.keep Kc23)
    obtain ⟨_, _, ⟨T24, L24, k24, n24⟩, -, X24, ⟨Lc24, hQ24, l24, y24, z24⟩, st24⟩ := X23.virtualBack hx (y := (⟨"com/example/aprox/aprox/ByteReader", "readVInt", "()I"⟩ : MethodName)) (z := (⟨"com/example/aprox/aprox/ByteReader", "readVInt", "()I"⟩ : MethodName)) hown (mvT hZ (hw _ (List.mem_of_getElem? (i := 21) rfl))) (mvT hZ (hw _ (List.mem_of_getElem? (i := 22) rfl))) (notFace_of_selects (args := #[]) (mvT hZ (hw _ (List.mem_of_getElem? (i := 24) rfl)))) (mvT hZ (hw _ (List.mem_of_getElem? (i := 24) rfl))) (mvT hZ (hw _ (List.mem_of_getElem? (i := 23) rfl))) (by decide) (backOf (W := 0) (rm_rv l Z a0 hw [] ob d pz PP 1 ff T23.heap n0 (Nat.le_trans Z0 K23.1) (A22.keep Kc23) (Nat.le_trans Z0 sz_ob) Fb23 Fp23 ((AF.ext E22).keep Kc23 (ninS (Ne.symm ne_ob_d) nin0)) ne_ob_d hp2 (by omega) hng hps) hZ (hw _ (List.mem_of_getElem? (i := 25) rfl)) (hw _ (List.mem_of_getElem? (i := 10) rfl)) (by decide) (by decide)) q24a q24c (g := (mkF m 176 #[.val (.int x0), .val (.int ps), .val (.int jk), .val (.int pz), .val (.int jb), .val (.ref d), .val (.int (2 : Int32)), .val (.ref ob), .unset] [(.ref ob)])) rfl (by rw [hml]; rfl) (Steps.refl _) (argsL := []) (rest := []) (lenOf pd_107 rfl) rfl (by show 2 * 0 + _ ≤ _; exact Nat.le_of_eq rfl) (hb hby at_176) (fun _ _ => ⟨rfl, rfl, (by decide : 2 + 0 ≤ _), (by decide : 11 + 0 ≤ _)⟩)
    dsimp only [Pt.U, Pt.locs, Pt.cells, Pt.slots] at X24 l24 y24 z24 st24 hQ24
    replace l24 := l24.symm
    replace y24 := y24.symm
    replace z24 := z24.symm
    subst l24 y24 z24
    obtain ⟨rr, rfl, N24q, Kc24, Fp24, hrr⟩ := hQ24
    have N24 := Fr.app N23 N24q
    have K24 : Keep h0 T24.heap [] := K23.trans Kc24 (allS (Or.inr sz_ob) all0)
    refine own_tr st24 ?_
    show own_Go p.tables e below (T24.setTop (mkF m 179 #[.val (.int x0), .val (.int ps), .val (.int jk), .val (.int pz), .val (.int jb), .val (.ref d), .val (.int (2 : Int32)), .val (.ref ob), .unset] [(.int rr)])) _
    have ex : rr = x0 := by rw [hrr]; exact own_v2 x0 ff PP hx' w0 w1
    refine own_by (fun zt zk => XS.istore X24.here hx rfl (hb hby at_179) rfl (l' := #[.val (.int x0), .val (.int ps), .val (.int jk), .val (.int pz), .val (.int jb), .val (.ref d), .val (.int (2 : Int32)), .val (.ref ob), .val (.int rr)]) rfl zk) ?_
    show own_Go p.tables e below (T24.setTop (mkF m 181 #[.val (.int x0), .val (.int ps), .val (.int jk), .val (.int pz), .val (.int jb), .val (.ref d), .val (.int (2 : Int32)), .val (.ref ob), .val (.int rr)] [])) _
    refine own_by (fun zt zk => XS.iload X24.here hx rfl (hb hby at_181) rfl zk) ?_
    show own_Go p.tables e below (T24.setTop (mkF m 183 #[.val (.int x0), .val (.int ps), .val (.int jk), .val (.int pz), .val (.int jb), .val (.ref d), .val (.int (2 : Int32)), .val (.ref ob), .val (.int rr)] [(.int rr)])) _
    refine own_by (fun zt zk => XS.iloadN X24.here hx rfl (hb hby at_183) rfl zk) ?_
    show own_Go p.tables e below (T24.setTop (mkF m 184 #[.val (.int x0), .val (.int ps), .val (.int jk), .val (.int pz), .val (.int jb), .val (.ref d), .val (.int (2 : Int32)), .val (.ref ob), .val (.int rr)] [(.int x0), (.int rr)])) _
    refine own_by (fun zt zk => XS.icmpNo X24.here hx rfl (hb hby at_184) rfl (teq ex).2 zk) ?_
    show own_Go p.tables e below (T24.setTop (mkF m 187 #[.val (.int x0), .val (.int ps), .val (.int jk), .val (.int pz), .val (.int jb), .val (.ref d), .val (.int (2 : Int32)), .val (.ref ob), .val (.int rr)] [])) _
    refine own_by (fun zt zk => XS.aload X24.here hx rfl (hb hby at_187) rfl rfl zk) ?_
    show own_Go p.tables e below (T24.setTop (mkF m 189 #[.val (.int x0), .val (.int ps), .val (.int jk), .val (.int pz), .val (.int jb), .val (.ref d), .val (.int (2 : Int32)), .val (.ref ob), .val (.int rr)] [(.ref ob)])) _
    obtain ⟨cq25, kq25, q25a, q25b, q25c⟩ := isOf hZ rfl ((A22.keep Kc23).keep Kc24)
    obtain ⟨_, _, ⟨T25, L25, k25, n25⟩, -, X25, ⟨Lc25, hQ25, l25, y25, z25⟩, st25⟩ := X24.virtualBack hx (y := (⟨"com/example/aprox/aprox/ByteReader", "position", "()I"⟩ : MethodName)) (z := (⟨"com/example/aprox/aprox/ByteReader", "position", "()I"⟩ : MethodName)) hown (mvT hZ (hw _ (List.mem_of_getElem? (i := 26) rfl))) (mvT hZ (hw _ (List.mem_of_getElem? (i := 27) rfl))) (notFace_of_selects (args := #[]) (mvT hZ (hw _ (List.mem_of_getElem? (i := 29) rfl)))) (mvT hZ (hw _ (List.mem_of_getElem? (i := 29) rfl))) (mvT hZ (hw _ (List.mem_of_getElem? (i := 28) rfl))) (by decide) (backOf (W := 0) (rm_po l Z a0 hw [] ob (Int32.ofNat (PP + 1 + 1)) T24.heap n0 (Nat.le_trans Z0 K24.1) Fp24) hZ (hw _ (List.mem_of_getElem? (i := 30) rfl)) (hw _ (List.mem_of_getElem? (i := 10) rfl)) (by decide) (by decide)) q25a q25c (g := (mkF m 189 #[.val (.int x0), .val (.int ps), .val (.int jk), .val (.int pz), .val (.int jb), .val (.ref d), .val (.int (2 : Int32)), .val (.ref ob), .val (.int rr)] [(.ref ob)])) rfl (by rw [hml]; rfl) (Steps.refl _) (argsL := []) (rest := []) (lenOf pd_107 rfl) rfl (by show 2 * 0 + _ ≤ _; exact Nat.le_of_eq rfl) (hb hby at_189) (fun _ _ => ⟨rfl, rfl, (by decide : 2 + 0 ≤ _), (by decide : 11 + 0 ≤ _)⟩)
    dsimp only [Pt.U, Pt.locs, Pt.cells, Pt.slots] at X25 l25 y25 z25 st25 hQ25
    replace l25 := l25.symm
    replace y25 := y25.symm
    replace z25 := z25.symm
    subst l25 y25 z25
    obtain ⟨pp, rfl, N25q, eh25, hpp⟩ := hQ25
    have N25 := Fr.app N24 N25q
    refine own_tr st25 ?_
    show own_Go p.tables e below (T25.setTop (mkF m 192 #[.val (.int x0), .val (.int ps), .val (.int jk), .val (.int pz), .val (.int jb), .val (.ref d), .val (.int (2 : Int32)), .val (.ref ob), .val (.int rr)] [(.int pp)])) _
    have ep : pp = (pz + (2 : Int32)) := by rw [hpp]; exact (own_addN (k := 2) hp2 rfl).symm
    refine own_by (fun zt zk => XS.iloadN X25.here hx rfl (hb hby at_192) rfl zk) ?_
    show own_Go p.tables e below (T25.setTop (mkF m 193 #[.val (.int x0), .val (.int ps), .val (.int jk), .val (.int pz), .val (.int jb), .val (.ref d), .val (.int (2 : Int32)), .val (.ref ob), .val (.int rr)] [(.int pz), (.int pp)])) _
    refine own_by (fun zt zk => XS.iload X25.here hx rfl (hb hby at_193) rfl zk) ?_
    show own_Go p.tables e below (T25.setTop (mkF m 195 #[.val (.int x0), .val (.int ps), .val (.int jk), .val (.int pz), .val (.int jb), .val (.ref d), .val (.int (2 : Int32)), .val (.ref ob), .val (.int rr)] [(.int (2 : Int32)), (.int pz), (.int pp)])) _
    refine own_by (fun zt zk => XS.iadd X25.here hx rfl (hb hby at_195) rfl zk) ?_
    show own_Go p.tables e below (T25.setTop (mkF m 196 #[.val (.int x0), .val (.int ps), .val (.int jk), .val (.int pz), .val (.int jb), .val (.ref d), .val (.int (2 : Int32)), .val (.ref ob), .val (.int rr)] [(.int (pz + (2 : Int32))), (.int pp)])) _
    refine own_by (fun zt zk => XS.icmpNo X25.here hx rfl (hb hby at_196) rfl (teq ep).2 zk) ?_
    show own_Go p.tables e below (T25.setTop (mkF m 199 #[.val (.int x0), .val (.int ps), .val (.int jk), .val (.int pz), .val (.int jb), .val (.ref d), .val (.int (2 : Int32)), .val (.ref ob), .val (.int rr)] [])) _
    refine own_by (fun zt zk => XS.iconst X25.here hx rfl (hb hby at_199) zk) ?_
    show own_Go p.tables e below (T25.setTop (mkF m 200 #[.val (.int x0), .val (.int ps), .val (.int jk), .val (.int pz), .val (.int jb), .val (.ref d), .val (.int (2 : Int32)), .val (.ref ob), .val (.int rr)] [(.int (1 : Int32))])) _
    refine own_by (fun zt zk => XS.goto X25.here hx rfl (pc0 := 200) (pc' := 204) rfl (hb hby at_200) (by decide) (by decide) zk) ?_
    show own_Go p.tables e below (T25.setTop (mkF m 204 #[.val (.int x0), .val (.int ps), .val (.int jk), .val (.int pz), .val (.int jb), .val (.ref d), .val (.int (2 : Int32)), .val (.ref ob), .val (.int rr)] [(.int (1 : Int32))])) _
    exact own_retN X25 hx Bd.notSynchronized (t := .boolean) Bd.returns (by simp) (by decide) (hb hby at_204) (by (try rw [eh25]); exact ⟨rfl, N25⟩) (by decide) (by decide)
  · show own_Go p.tables e below (T11.setTop (mkF m 77 #[.val (.int x0), .val (.int ps), .val (.int jk), .val (.int pz), .val (.int jb), .val (.ref d), .val (.int (3 : Int32)), .unset, .unset] [])) _
    refine own_by (fun zt zk => XS.aload X11.here hx rfl (hb hby at_77) rfl rfl zk) ?_
    show own_Go p.tables e below (T11.setTop (mkF m 79 #[.val (.int x0), .val (.int ps), .val (.int jk), .val (.int pz), .val (.int jb), .val (.ref d), .val (.int (3 : Int32)), .unset, .unset] [(.ref d)])) _
    refine own_by (fun zt zk => XS.iloadN X11.here hx rfl (hb hby at_79) rfl zk) ?_
    show own_Go p.tables e below (T11.setTop (mkF m 80 #[.val (.int x0), .val (.int ps), .val (.int jk), .val (.int pz), .val (.int jb), .val (.ref d), .val (.int (3 : Int32)), .unset, .unset] [(.int pz), (.ref d)])) _
    refine own_by (fun zt zk => XS.iloadN X11.here hx rfl (hb hby at_80) rfl zk) ?_
    show own_Go p.tables e below (T11.setTop (mkF m 81 #[.val (.int x0), .val (.int ps), .val (.int jk), .val (.int pz), .val (.int jb), .val (.ref d), .val (.int (3 : Int32)), .unset, .unset] [(.int x0), (.int pz), (.ref d)])) _
    refine own_by (fun zt zk => XS.iconst X11.here hx rfl (hb hby at_81) zk) ?_
    show own_Go p.tables e below (T11.setTop (mkF m 82 #[.val (.int x0), .val (.int ps), .val (.int jk), .val (.int pz), .val (.int jb), .val (.ref d), .val (.int (3 : Int32)), .unset, .unset] [(.int (0 : Int32)), (.int x0), (.int pz), (.ref d)])) _
    refine own_by (fun zt zk => XS.iload X11.here hx rfl (hb hby at_82) rfl zk) ?_
    show own_Go p.tables e below (T11.setTop (mkF m 84 #[.val (.int x0), .val (.int ps), .val (.int jk), .val (.int pz), .val (.int jb), .val (.ref d), .val (.int (3 : Int32)), .unset, .unset] [(.int (3 : Int32)), (.int (0 : Int32)), (.int x0), (.int pz), (.ref d)])) _
    obtain ⟨_, _, ⟨T26, L26, k26, n26⟩, -, X26, ⟨Lc26, hQ26, l26, y26, z26⟩, st26⟩ := Jvm.LawKit.callS X11 hx (y := (⟨"com/example/aprox/aprox/ByteReaderReadVIntPinLaw", "group", "(III)B"⟩ : MethodName)) hown (mvT hZ (hw _ (List.mem_of_getElem? (i := 5) rfl))) (mvT hZ (hw _ (List.mem_of_getElem? (i := 6) rfl))) (mvT hZ (hw _ (List.mem_of_getElem? (i := 3) rfl))) (mvT hZ (hw _ (List.mem_of_getElem? (i := 7) rfl))) (by decide) (backOf (W := 2) (rm_gr l Z a0 hw [] x0 (0 : Int32) (3 : Int32)  hea10 n0 (Nat.le_trans Z0 K10.1) ) hZ (hw _ (List.mem_of_getElem? (i := 7) rfl)) (hw _ (List.mem_of_getElem? (i := 3) rfl)) (by decide) (by decide)) (g := (mkF m 84 #[.val (.int x0), .val (.int ps), .val (.int jk), .val (.int pz), .val (.int jb), .val (.ref d), .val (.int (3 : Int32)), .unset, .unset] [(.int (3 : Int32)), (.int (0 : Int32)), (.int x0), (.int pz), (.ref d)])) rfl (by rw [hml]; rfl) (argsL := [(.int x0), (.int (0 : Int32)), (.int (3 : Int32))]) (rest := [(.int pz), (.ref d)]) (lenOf pd_105 rfl) rfl (by show 2 * 0 + _ ≤ _; exact Nat.le_of_eq rfl) (hb hby at_84) (fun _ _ => ⟨rfl, eh11, (by decide : 1 + 0 ≤ _), (by decide : 9 + 0 ≤ _)⟩)
    dsimp only [Pt.U, Pt.locs, Pt.cells, Pt.slots] at X26 l26 y26 z26 st26 hQ26
    replace l26 := l26.symm
    replace y26 := y26.symm
    replace z26 := z26.symm
    subst l26 y26 z26
    obtain ⟨r0, rfl, N26q, eh26, hr0⟩ := hQ26
    have N26 := Fr.app N11 N26q
    refine own_by (st26) ?_
    show own_Go p.tables e below (T26.setTop (mkF m 87 #[.val (.int x0), .val (.int ps), .val (.int jk), .val (.int pz), .val (.int jb), .val (.ref d), .val (.int (3 : Int32)), .unset, .unset] [(.int r0), (.int pz), (.ref d)])) _
    obtain ⟨T27, hea27, X27, e27, W27, V27, st27⟩ := own_stB X26 hx hZ eh26 A9 (j := pz) (k := PP) i0 ik (by omega) (g := (mkF m 87 #[.val (.int x0), .val (.int ps), .val (.int jk), .val (.int pz), .val (.int jb), .val (.ref d), .val (.int (3 : Int32)), .unset, .unset] [(.int r0), (.int pz), (.ref d)])) rfl rfl (hb hby at_87)
    have N27 := Fr.snoc X27 N26 (Nat.le_trans Z0 sz_d)
    have K27 : Keep h0 hea27 [] := K10.wr W27 (Or.inr sz_d)
    refine own_by (st27) ?_
    show own_Go p.tables e below (T27.setTop (mkF m 88 #[.val (.int x0), .val (.int ps), .val (.int jk), .val (.int pz), .val (.int jb), .val (.ref d), .val (.int (3 : Int32)), .unset, .unset] [])) _
    refine own_by (fun zt zk => XS.iload X27.here hx rfl (hb hby at_88) rfl zk) ?_
    show own_Go p.tables e below (T27.setTop (mkF m 90 #[.val (.int x0), .val (.int ps), .val (.int jk), .val (.int pz), .val (.int jb), .val (.ref d), .val (.int (3 : Int32)), .unset, .unset] [(.int (3 : Int32))])) _
    refine own_by (fun zt zk => XS.iconst X27.here hx rfl (hb hby at_90) zk) ?_
    show own_Go p.tables e below (T27.setTop (mkF m 91 #[.val (.int x0), .val (.int ps), .val (.int jk), .val (.int pz), .val (.int jb), .val (.ref d), .val (.int (3 : Int32)), .unset, .unset] [(.int (1 : Int32)), (.int (3 : Int32))])) _
    refine own_by (fun zt zk => XS.icmpNo X27.here hx rfl (hb hby at_91) rfl (tlt (by decide)).2.2.2 zk) ?_
    show own_Go p.tables e below (T27.setTop (mkF m 94 #[.val (.int x0), .val (.int ps), .val (.int jk), .val (.int pz), .val (.int jb), .val (.ref d), .val (.int (3 : Int32)), .unset, .unset] [])) _
    refine own_by (fun zt zk => XS.aload X27.here hx rfl (hb hby at_94) rfl rfl zk) ?_
    show own_Go p.tables e below (T27.setTop (mkF m 96 #[.val (.int x0), .val (.int ps), .val (.int jk), .val (.int pz), .val (.int jb), .val (.ref d), .val (.int (3 : Int32)), .unset, .unset] [(.ref d)])) _
    refine own_by (fun zt zk => XS.iloadN X27.here hx rfl (hb hby at_96) rfl zk) ?_
    show own_Go p.tables e below (T27.setTop (mkF m 97 #[.val (.int x0), .val (.int ps), .val (.int jk), .val (.int pz), .val (.int jb), .val (.ref d), .val (.int (3 : Int32)), .unset, .unset] [(.int pz), (.ref d)])) _
    refine own_by (fun zt zk => XS.iconst X27.here hx rfl (hb hby at_97) zk) ?_
    show own_Go p.tables e below (T27.setTop (mkF m 98 #[.val (.int x0), .val (.int ps), .val (.int jk), .val (.int pz), .val (.int jb), .val (.ref d), .val (.int (3 : Int32)), .unset, .unset] [(.int (1 : Int32)), (.int pz), (.ref d)])) _
    refine own_by (fun zt zk => XS.iadd X27.here hx rfl (hb hby at_98) rfl zk) ?_
    show own_Go p.tables e below (T27.setTop (mkF m 99 #[.val (.int x0), .val (.int ps), .val (.int jk), .val (.int pz), .val (.int jb), .val (.ref d), .val (.int (3 : Int32)), .unset, .unset] [(.int (pz + (1 : Int32))), (.ref d)])) _
    refine own_by (fun zt zk => XS.iloadN X27.here hx rfl (hb hby at_99) rfl zk) ?_
    show own_Go p.tables e below (T27.setTop (mkF m 100 #[.val (.int x0), .val (.int ps), .val (.int jk), .val (.int pz), .val (.int jb), .val (.ref d), .val (.int (3 : Int32)), .unset, .unset] [(.int x0), (.int (pz + (1 : Int32))), (.ref d)])) _
    refine own_by (fun zt zk => XS.iconst X27.here hx rfl (hb hby at_100) zk) ?_
    show own_Go p.tables e below (T27.setTop (mkF m 101 #[.val (.int x0), .val (.int ps), .val (.int jk), .val (.int pz), .val (.int jb), .val (.ref d), .val (.int (3 : Int32)), .unset, .unset] [(.int (1 : Int32)), (.int x0), (.int (pz + (1 : Int32))), (.ref d)])) _
    refine own_by (fun zt zk => XS.iload X27.here hx rfl (hb hby at_101) rfl zk) ?_
    show own_Go p.tables e below (T27.setTop (mkF m 103 #[.val (.int x0), .val (.int ps), .val (.int jk), .val (.int pz), .val (.int jb), .val (.ref d), .val (.int (3 : Int32)), .unset, .unset] [(.int (3 : Int32)), (.int (1 : Int32)), (.int x0), (.int (pz + (1 : Int32))), (.ref d)])) _
    obtain ⟨_, _, ⟨T28, L28, k28, n28⟩, -, X28, ⟨Lc28, hQ28, l28, y28, z28⟩, st28⟩ := Jvm.LawKit.callS X27 hx (y := (⟨"com/example/aprox/aprox/ByteReaderReadVIntPinLaw", "group", "(III)B"⟩ : MethodName)) hown (mvT hZ (hw _ (List.mem_of_getElem? (i := 5) rfl))) (mvT hZ (hw _ (List.mem_of_getElem? (i := 6) rfl))) (mvT hZ (hw _ (List.mem_of_getElem? (i := 3) rfl))) (mvT hZ (hw _ (List.mem_of_getElem? (i := 7) rfl))) (by decide) (backOf (W := 2) (rm_gr l Z a0 hw [] x0 (1 : Int32) (3 : Int32)  hea27 n0 (Nat.le_trans Z0 K27.1) ) hZ (hw _ (List.mem_of_getElem? (i := 7) rfl)) (hw _ (List.mem_of_getElem? (i := 3) rfl)) (by decide) (by decide)) (g := (mkF m 103 #[.val (.int x0), .val (.int ps), .val (.int jk), .val (.int pz), .val (.int jb), .val (.ref d), .val (.int (3 : Int32)), .unset, .unset] [(.int (3 : Int32)), (.int (1 : Int32)), (.int x0), (.int (pz + (1 : Int32))), (.ref d)])) rfl (by rw [hml]; rfl) (argsL := [(.int x0), (.int (1 : Int32)), (.int (3 : Int32))]) (rest := [(.int (pz + (1 : Int32))), (.ref d)]) (lenOf pd_105 rfl) rfl (by show 2 * 0 + _ ≤ _; exact Nat.le_of_eq rfl) (hb hby at_103) (fun _ _ => ⟨rfl, e27, (by decide : 1 + 0 ≤ _), (by decide : 9 + 0 ≤ _)⟩)
    dsimp only [Pt.U, Pt.locs, Pt.cells, Pt.slots] at X28 l28 y28 z28 st28 hQ28
    replace l28 := l28.symm
    replace y28 := y28.symm
    replace z28 := z28.symm
    subst l28 y28 z28
    obtain ⟨r1, rfl, N28q, eh28, hr1⟩ := hQ28
    have N28 := Fr.app N27 N28q
    refine own_by (st28) ?_
    show own_Go p.tables e below (T28.setTop (mkF m 106 #[.val (.int x0), .val (.int ps), .val (.int jk), .val (.int pz), .val (.int jb), .val (.ref d), .val (.int (3 : Int32)), .unset, .unset] [(.int r1), (.int (pz + (1 : Int32))), (.ref d)])) _
    obtain ⟨T29, hea29, X29, e29, W29, V29, st29⟩ := own_stB X28 hx hZ eh28 V27 (j := (pz + (1 : Int32))) (k := (PP + 1)) i1 ik1 (by omega) (g := (mkF m 106 #[.val (.int x0), .val (.int ps), .val (.int jk), .val (.int pz), .val (.int jb), .val (.ref d), .val (.int (3 : Int32)), .unset, .unset] [(.int r1), (.int (pz + (1 : Int32))), (.ref d)])) rfl rfl (hb hby at_106)
    have N29 := Fr.snoc X29 N28 (Nat.le_trans Z0 sz_d)
    have K29 : Keep h0 hea29 [] := K27.wr W29 (Or.inr sz_d)
    refine own_by (st29) ?_
    show own_Go p.tables e below (T29.setTop (mkF m 107 #[.val (.int x0), .val (.int ps), .val (.int jk), .val (.int pz), .val (.int jb), .val (.ref d), .val (.int (3 : Int32)), .unset, .unset] [])) _
    refine own_by (fun zt zk => XS.iload X29.here hx rfl (hb hby at_107) rfl zk) ?_
    show own_Go p.tables e below (T29.setTop (mkF m 109 #[.val (.int x0), .val (.int ps), .val (.int jk), .val (.int pz), .val (.int jb), .val (.ref d), .val (.int (3 : Int32)), .unset, .unset] [(.int (3 : Int32))])) _
    refine own_by (fun zt zk => XS.iconst X29.here hx rfl (hb hby at_109) zk) ?_
    show own_Go p.tables e below (T29.setTop (mkF m 110 #[.val (.int x0), .val (.int ps), .val (.int jk), .val (.int pz), .val (.int jb), .val (.ref d), .val (.int (3 : Int32)), .unset, .unset] [(.int (2 : Int32)), (.int (3 : Int32))])) _
    refine own_by (fun zt zk => XS.icmpNo X29.here hx rfl (hb hby at_110) rfl (tlt (by decide)).2.2.2 zk) ?_
    show own_Go p.tables e below (T29.setTop (mkF m 113 #[.val (.int x0), .val (.int ps), .val (.int jk), .val (.int pz), .val (.int jb), .val (.ref d), .val (.int (3 : Int32)), .unset, .unset] [])) _
    refine own_by (fun zt zk => XS.aload X29.here hx rfl (hb hby at_113) rfl rfl zk) ?_
    show own_Go p.tables e below (T29.setTop (mkF m 115 #[.val (.int x0), .val (.int ps), .val (.int jk), .val (.int pz), .val (.int jb), .val (.ref d), .val (.int (3 : Int32)), .unset, .unset] [(.ref d)])) _
    refine own_by (fun zt zk => XS.iloadN X29.here hx rfl (hb hby at_115) rfl zk) ?_
    show own_Go p.tables e below (T29.setTop (mkF m 116 #[.val (.int x0), .val (.int ps), .val (.int jk), .val (.int pz), .val (.int jb), .val (.ref d), .val (.int (3 : Int32)), .unset, .unset] [(.int pz), (.ref d)])) _
    refine own_by (fun zt zk => XS.iconst X29.here hx rfl (hb hby at_116) zk) ?_
    show own_Go p.tables e below (T29.setTop (mkF m 117 #[.val (.int x0), .val (.int ps), .val (.int jk), .val (.int pz), .val (.int jb), .val (.ref d), .val (.int (3 : Int32)), .unset, .unset] [(.int (2 : Int32)), (.int pz), (.ref d)])) _
    refine own_by (fun zt zk => XS.iadd X29.here hx rfl (hb hby at_117) rfl zk) ?_
    show own_Go p.tables e below (T29.setTop (mkF m 118 #[.val (.int x0), .val (.int ps), .val (.int jk), .val (.int pz), .val (.int jb), .val (.ref d), .val (.int (3 : Int32)), .unset, .unset] [(.int (pz + (2 : Int32))), (.ref d)])) _
    refine own_by (fun zt zk => XS.iloadN X29.here hx rfl (hb hby at_118) rfl zk) ?_
    show own_Go p.tables e below (T29.setTop (mkF m 119 #[.val (.int x0), .val (.int ps), .val (.int jk), .val (.int pz), .val (.int jb), .val (.ref d), .val (.int (3 : Int32)), .unset, .unset] [(.int x0), (.int (pz + (2 : Int32))), (.ref d)])) _
    refine own_by (fun zt zk => XS.iconst X29.here hx rfl (hb hby at_119) zk) ?_
    show own_Go p.tables e below (T29.setTop (mkF m 120 #[.val (.int x0), .val (.int ps), .val (.int jk), .val (.int pz), .val (.int jb), .val (.ref d), .val (.int (3 : Int32)), .unset, .unset] [(.int (2 : Int32)), (.int x0), (.int (pz + (2 : Int32))), (.ref d)])) _
    refine own_by (fun zt zk => XS.iload X29.here hx rfl (hb hby at_120) rfl zk) ?_
    show own_Go p.tables e below (T29.setTop (mkF m 122 #[.val (.int x0), .val (.int ps), .val (.int jk), .val (.int pz), .val (.int jb), .val (.ref d), .val (.int (3 : Int32)), .unset, .unset] [(.int (3 : Int32)), (.int (2 : Int32)), (.int x0), (.int (pz + (2 : Int32))), (.ref d)])) _
    obtain ⟨_, _, ⟨T30, L30, k30, n30⟩, -, X30, ⟨Lc30, hQ30, l30, y30, z30⟩, st30⟩ := Jvm.LawKit.callS X29 hx (y := (⟨"com/example/aprox/aprox/ByteReaderReadVIntPinLaw", "group", "(III)B"⟩ : MethodName)) hown (mvT hZ (hw _ (List.mem_of_getElem? (i := 5) rfl))) (mvT hZ (hw _ (List.mem_of_getElem? (i := 6) rfl))) (mvT hZ (hw _ (List.mem_of_getElem? (i := 3) rfl))) (mvT hZ (hw _ (List.mem_of_getElem? (i := 7) rfl))) (by decide) (backOf (W := 2) (rm_gr l Z a0 hw [] x0 (2 : Int32) (3 : Int32)  hea29 n0 (Nat.le_trans Z0 K29.1) ) hZ (hw _ (List.mem_of_getElem? (i := 7) rfl)) (hw _ (List.mem_of_getElem? (i := 3) rfl)) (by decide) (by decide)) (g := (mkF m 122 #[.val (.int x0), .val (.int ps), .val (.int jk), .val (.int pz), .val (.int jb), .val (.ref d), .val (.int (3 : Int32)), .unset, .unset] [(.int (3 : Int32)), (.int (2 : Int32)), (.int x0), (.int (pz + (2 : Int32))), (.ref d)])) rfl (by rw [hml]; rfl) (argsL := [(.int x0), (.int (2 : Int32)), (.int (3 : Int32))]) (rest := [(.int (pz + (2 : Int32))), (.ref d)]) (lenOf pd_105 rfl) rfl (by show 2 * 0 + _ ≤ _; exact Nat.le_of_eq rfl) (hb hby at_122) (fun _ _ => ⟨rfl, e29, (by decide : 1 + 0 ≤ _), (by decide : 9 + 0 ≤ _)⟩)
    dsimp only [Pt.U, Pt.locs, Pt.cells, Pt.slots] at X30 l30 y30 z30 st30 hQ30
    replace l30 := l30.symm
    replace y30 := y30.symm
    replace z30 := z30.symm
    subst l30 y30 z30
    obtain ⟨r2, rfl, N30q, eh30, hr2⟩ := hQ30
    have N30 := Fr.app N29 N30q
    refine own_by (st30) ?_
    show own_Go p.tables e below (T30.setTop (mkF m 125 #[.val (.int x0), .val (.int ps), .val (.int jk), .val (.int pz), .val (.int jb), .val (.ref d), .val (.int (3 : Int32)), .unset, .unset] [(.int r2), (.int (pz + (2 : Int32))), (.ref d)])) _
    obtain ⟨T31, hea31, X31, e31, W31, V31, st31⟩ := own_stB X30 hx hZ eh30 V29 (j := (pz + (2 : Int32))) (k := (PP + 2)) i2 ik2 (by omega) (g := (mkF m 125 #[.val (.int x0), .val (.int ps), .val (.int jk), .val (.int pz), .val (.int jb), .val (.ref d), .val (.int (3 : Int32)), .unset, .unset] [(.int r2), (.int (pz + (2 : Int32))), (.ref d)])) rfl rfl (hb hby at_125)
    have N31 := Fr.snoc X31 N30 (Nat.le_trans Z0 sz_d)
    have K31 : Keep h0 hea31 [] := K29.wr W31 (Or.inr sz_d)
    refine own_by (st31) ?_
    show own_Go p.tables e below (T31.setTop (mkF m 126 #[.val (.int x0), .val (.int ps), .val (.int jk), .val (.int pz), .val (.int jb), .val (.ref d), .val (.int (3 : Int32)), .unset, .unset] [])) _
    refine own_by (fun zt zk => XS.iload X31.here hx rfl (hb hby at_126) rfl zk) ?_
    show own_Go p.tables e below (T31.setTop (mkF m 128 #[.val (.int x0), .val (.int ps), .val (.int jk), .val (.int pz), .val (.int jb), .val (.ref d), .val (.int (3 : Int32)), .unset, .unset] [(.int (3 : Int32))])) _
    refine own_by (fun zt zk => XS.iconst X31.here hx rfl (hb hby at_128) zk) ?_
    show own_Go p.tables e below (T31.setTop (mkF m 129 #[.val (.int x0), .val (.int ps), .val (.int jk), .val (.int pz), .val (.int jb), .val (.ref d), .val (.int (3 : Int32)), .unset, .unset] [(.int (3 : Int32)), (.int (3 : Int32))])) _
    refine own_by (fun zt zk => XS.icmpYes X31.here hx rfl (pc0 := 129) (pc' := 145) rfl (hb hby at_129) rfl (flt (by decide)).2.2.2 (by decide) (by decide) zk) ?_
    show own_Go p.tables e below (T31.setTop (mkF m 145 #[.val (.int x0), .val (.int ps), .val (.int jk), .val (.int pz), .val (.int jb), .val (.ref d), .val (.int (3 : Int32)), .unset, .unset] [])) _
    refine own_by (fun zt zk => XS.iload X31.here hx rfl (hb hby at_145) rfl zk) ?_
    show own_Go p.tables e below (T31.setTop (mkF m 147 #[.val (.int x0), .val (.int ps), .val (.int jk), .val (.int pz), .val (.int jb), .val (.ref d), .val (.int (3 : Int32)), .unset, .unset] [(.int (3 : Int32))])) _
    refine own_by (fun zt zk => XS.iconst X31.here hx rfl (hb hby at_147) zk) ?_
    show own_Go p.tables e below (T31.setTop (mkF m 148 #[.val (.int x0), .val (.int ps), .val (.int jk), .val (.int pz), .val (.int jb), .val (.ref d), .val (.int (3 : Int32)), .unset, .unset] [(.int (4 : Int32)), (.int (3 : Int32))])) _
    refine own_by (fun zt zk => XS.icmpYes X31.here hx rfl (pc0 := 148) (pc' := 162) rfl (hb hby at_148) rfl (flt (by decide)).2.2.2 (by decide) (by decide) zk) ?_
    show own_Go p.tables e below (T31.setTop (mkF m 162 #[.val (.int x0), .val (.int ps), .val (.int jk), .val (.int pz), .val (.int jb), .val (.ref d), .val (.int (3 : Int32)), .unset, .unset] [])) _
    obtain ⟨ff, hff⟩ : ∃ q, q = (own_upd (own_upd (own_upd f9 PP (r0.toInt8.toInt32)) (PP + 1) (r1.toInt8.toInt32)) (PP + 2) (r2.toInt8.toInt32)) := ⟨_, rfl⟩
    have AF : own_AI Z hea31 d .byte 9 ff := by rw [hff]; exact V31
    have w0 : ff (PP + 0) = r0.toInt8.toInt32 := by rw [hff]; simp [own_upd]
    rw [hr0, own_bb] at w0
    have w1 : ff (PP + 1) = r1.toInt8.toInt32 := by rw [hff]; simp [own_upd]
    rw [hr1, own_bb] at w1
    have w2 : ff (PP + 2) = r2.toInt8.toInt32 := by rw [hff]; simp [own_upd]
    rw [hr2, own_bb] at w2
    have hng : ∀ i, i < 2 → ff (PP + i) < (0 : Int32) := fun i hi => by
      match i, hi with
      | 0, _ => rw [w0]; exact own_neg ⟨0, _, by decide, by decide, rfl, rfl⟩
      | 1, _ => rw [w1]; exact own_neg ⟨1, _, by decide, by decide, rfl, rfl⟩
    have hps : ¬ ff (PP + 2) < (0 : Int32) := by rw [w2]; exact own_ps3 hx'
    obtain ⟨T32, hea32, X32, e32, E32, A32, D32, -, st32⟩ := newO X31 hx hZ hown (hw _ (List.mem_of_getElem? (i := 8) rfl)) (hw _ (List.mem_of_getElem? (i := 9) rfl)) (hw _ (List.mem_of_getElem? (i := 10) rfl)) e31 (g := (mkF m 162 #[.val (.int x0), .val (.int ps), .val (.int jk), .val (.int pz), .val (.int jb), .val (.ref d), .val (.int (3 : Int32)), .unset, .unset] [])) rfl (hb hby at_162) (by decide) (by decide)
    obtain ⟨ob, g32⟩ : ∃ z, z = hea31.size := ⟨_, rfl⟩
    rw [← g32] at A32 D32 st32
    have ne_ob_d : ob ≠ d := Nat.ne_of_gt (g32 ▸ (AF).lt)
    have sz_ob : h0.size ≤ ob := Nat.le_trans K31.1 (Nat.le_of_eq g32.symm)
    have K32 : Keep h0 hea32 [] := K31.ext E32
    refine own_by (st32) ?_
    have F32_bytes : Fld Z hea32 ob "com/example/aprox/aprox/ByteReader" "bytes" "[B" .null := D32 (Or.inr (hw _ (List.mem_of_getElem? (i := 18) rfl))) (ty := (.array .byte)) (by decide)
    have F32_position : Fld Z hea32 ob "com/example/aprox/aprox/ByteReader" "position" "I" (.int (0 : Int32)) := D32 (Or.inl (hw _ (List.mem_of_getElem? (i := 20) rfl))) (ty := .int) (by decide)
    show own_Go p.tables e below (T32.setTop (mkF m 165 #[.val (.int x0), .val (.int ps), .val (.int jk), .val (.int pz), .val (.int jb), .val (.ref d), .val (.int (3 : Int32)), .unset, .unset] [(.ref ob)])) _
    refine own_by (fun zt zk => XS.dup X32.here hx rfl (hb hby at_165) rfl rfl zk) ?_
    show own_Go p.tables e below (T32.setTop (mkF m 166 #[.val (.int x0), .val (.int ps), .val (.int jk), .val (.int pz), .val (.int jb), .val (.ref d), .val (.int (3 : Int32)), .unset, .unset] [(.ref ob), (.ref ob)])) _
    refine own_by (fun zt zk => XS.aload X32.here hx rfl (hb hby at_166) rfl rfl zk) ?_
    show own_Go p.tables e below (T32.setTop (mkF m 168 #[.val (.int x0), .val (.int ps), .val (.int jk), .val (.int pz), .val (.int jb), .val (.ref d), .val (.int (3 : Int32)), .unset, .unset] [(.ref d), (.ref ob), (.ref ob)])) _
    refine own_by (fun zt zk => XS.iloadN X32.here hx rfl (hb hby at_168) rfl zk) ?_
    show own_Go p.tables e below (T32.setTop (mkF m 169 #[.val (.int x0), .val (.int ps), .val (.int jk), .val (.int pz), .val (.int jb), .val (.ref d), .val (.int (3 : Int32)), .unset, .unset] [(.int pz), (.ref d), (.ref ob), (.ref ob)])) _
    obtain ⟨_, _, ⟨T33, L33, k33, n33⟩, -, X33, ⟨Lc33, hQ33, l33, y33, z33⟩, st33⟩ := X32.specialBack hx (y := (⟨"com/example/aprox/aprox/ByteReader", "<init>", "([BI)V"⟩ : MethodName)) rfl hown (mvT hZ (hw _ (List.mem_of_getElem? (i := 11) rfl))) (mvT hZ (hw _ (List.mem_of_getElem? (i := 12) rfl))) (mvT hZ (hw _ (List.mem_of_getElem? (i := 13) rfl))) (by decide) (backOf (W := 1) (rm_new l Z a0 hw [] ob d pz  hea32 n0 (Nat.le_trans Z0 K32.1) A32 (Nat.le_trans Z0 sz_ob) F32_bytes F32_position) hZ (hw _ (List.mem_of_getElem? (i := 13) rfl)) (hw _ (List.mem_of_getElem? (i := 10) rfl)) (by decide) (by decide)) (g := (mkF m 169 #[.val (.int x0), .val (.int ps), .val (.int jk), .val (.int pz), .val (.int jb), .val (.ref d), .val (.int (3 : Int32)), .unset, .unset] [(.int pz), (.ref d), (.ref ob), (.ref ob)])) rfl (by rw [hml]; rfl) (Steps.refl _) (a := ob) (argsL := [(.ref d), (.int pz)]) (rest := [(.ref ob)]) (lenOf pd_106 rfl) rfl (by show 2 * 0 + _ ≤ _; exact Nat.le_of_eq rfl) (hb hby at_169) (fun _ _ => ⟨rfl, e32, (by decide : 2 + 0 ≤ _), (by decide : 11 + 0 ≤ _)⟩)
    dsimp only [Pt.U, Pt.locs, Pt.cells, Pt.slots] at X33 l33 y33 z33 st33 hQ33
    replace l33 := l33.symm
    replace y33 := y33.symm
    replace z33 := z33.symm
    subst l33 y33 z33
    obtain ⟨rfl, N33q, Kc33, Fb33, Fp33⟩ := hQ33
    have N33 := Fr.app N31 N33q
    have K33 : Keep h0 T33.heap [] := K32.trans Kc33 (allS (Or.inr sz_ob) all0)
    refine own_tr st33 ?_
    show own_Go p.tables e below (T33.setTop (mkF m 172 #[.val (.int x0), .val (.int ps), .val (.int jk), .val (.int pz), .val (.int jb), .val (.ref d), .val (.int (3 : Int32)), .unset, .unset] [(.ref ob)])) _
    refine own_by (fun zt zk => XS.astore X33.here hx rfl (hb hby at_172) rfl rfl (l' := #[.val (.int x0), .val (.int ps), .val (.int jk), .val (.int pz), .val (.int jb), .val (.ref d), .val (.int (3 : Int32)), .val (.ref ob), .unset]) rfl zk) ?_
    show own_Go p.tables e below (T33.setTop (mkF m 174 #[.val (.int x0), .val (.int ps), .val (.int jk), .val (.int pz), .val (.int jb), .val (.ref d), .val (.int (3 : Int32)), .val (.ref ob), .unset] [])) _
    refine own_by (fun zt zk => XS.aload X33.here hx rfl (hb hby at_174) rfl rfl zk) ?_
    show own_Go p.tables e below (T33.setTop (mkF m 176 #[.val (.int x0), .val (.int ps), .val (.int jk), .val (.int pz), .val (.int jb), .val (.ref d), .val (.int (3 : Int32)), .val (.ref ob), .unset] [(.ref ob)])) _
    obtain ⟨cq34, kq34, q34a, q34b, q34c⟩ := isOf hZ rfl (A32.keep Kc33)
    obtain ⟨_, _, ⟨T34, L34, k34, n34⟩, -, X34, ⟨Lc34, hQ34, l34, y34, z34⟩, st34⟩ := X33.virtualBack hx (y := (⟨"com/example/aprox/aprox/ByteReader", "readVInt", "()I"⟩ : MethodName)) (z := (⟨"com/example/aprox/aprox/ByteReader", "readVInt", "()I"⟩ : MethodName)) hown (mvT hZ (hw _ (List.mem_of_getElem? (i := 21) rfl))) (mvT hZ (hw _ (List.mem_of_getElem? (i := 22) rfl))) (notFace_of_selects (args := #[]) (mvT hZ (hw _ (List.mem_of_getElem? (i := 24) rfl)))) (mvT hZ (hw _ (List.mem_of_getElem? (i := 24) rfl))) (mvT hZ (hw _ (List.mem_of_getElem? (i := 23) rfl))) (by decide) (backOf (W := 0) (rm_rv l Z a0 hw [] ob d pz PP 2 ff T33.heap n0 (Nat.le_trans Z0 K33.1) (A32.keep Kc33) (Nat.le_trans Z0 sz_ob) Fb33 Fp33 ((AF.ext E32).keep Kc33 (ninS (Ne.symm ne_ob_d) nin0)) ne_ob_d hp2 (by omega) hng hps) hZ (hw _ (List.mem_of_getElem? (i := 25) rfl)) (hw _ (List.mem_of_getElem? (i := 10) rfl)) (by decide) (by decide)) q34a q34c (g := (mkF m 176 #[.val (.int x0), .val (.int ps), .val (.int jk), .val (.int pz), .val (.int jb), .val (.ref d), .val (.int (3 : Int32)), .val (.ref ob), .unset] [(.ref ob)])) rfl (by rw [hml]; rfl) (Steps.refl _) (argsL := []) (rest := []) (lenOf pd_107 rfl) rfl (by show 2 * 0 + _ ≤ _; exact Nat.le_of_eq rfl) (hb hby at_176) (fun _ _ => ⟨rfl, rfl, (by decide : 2 + 0 ≤ _), (by decide : 11 + 0 ≤ _)⟩)
    dsimp only [Pt.U, Pt.locs, Pt.cells, Pt.slots] at X34 l34 y34 z34 st34 hQ34
    replace l34 := l34.symm
    replace y34 := y34.symm
    replace z34 := z34.symm
    subst l34 y34 z34
    obtain ⟨rr, rfl, N34q, Kc34, Fp34, hrr⟩ := hQ34
    have N34 := Fr.app N33 N34q
    have K34 : Keep h0 T34.heap [] := K33.trans Kc34 (allS (Or.inr sz_ob) all0)
    refine own_tr st34 ?_
    show own_Go p.tables e below (T34.setTop (mkF m 179 #[.val (.int x0), .val (.int ps), .val (.int jk), .val (.int pz), .val (.int jb), .val (.ref d), .val (.int (3 : Int32)), .val (.ref ob), .unset] [(.int rr)])) _
    have ex : rr = x0 := by rw [hrr]; exact own_v3 x0 ff PP hx' w0 w1 w2
    refine own_by (fun zt zk => XS.istore X34.here hx rfl (hb hby at_179) rfl (l' := #[.val (.int x0), .val (.int ps), .val (.int jk), .val (.int pz), .val (.int jb), .val (.ref d), .val (.int (3 : Int32)), .val (.ref ob), .val (.int rr)]) rfl zk) ?_
    show own_Go p.tables e below (T34.setTop (mkF m 181 #[.val (.int x0), .val (.int ps), .val (.int jk), .val (.int pz), .val (.int jb), .val (.ref d), .val (.int (3 : Int32)), .val (.ref ob), .val (.int rr)] [])) _
    refine own_by (fun zt zk => XS.iload X34.here hx rfl (hb hby at_181) rfl zk) ?_
    show own_Go p.tables e below (T34.setTop (mkF m 183 #[.val (.int x0), .val (.int ps), .val (.int jk), .val (.int pz), .val (.int jb), .val (.ref d), .val (.int (3 : Int32)), .val (.ref ob), .val (.int rr)] [(.int rr)])) _
    refine own_by (fun zt zk => XS.iloadN X34.here hx rfl (hb hby at_183) rfl zk) ?_
    show own_Go p.tables e below (T34.setTop (mkF m 184 #[.val (.int x0), .val (.int ps), .val (.int jk), .val (.int pz), .val (.int jb), .val (.ref d), .val (.int (3 : Int32)), .val (.ref ob), .val (.int rr)] [(.int x0), (.int rr)])) _
    refine own_by (fun zt zk => XS.icmpNo X34.here hx rfl (hb hby at_184) rfl (teq ex).2 zk) ?_
    show own_Go p.tables e below (T34.setTop (mkF m 187 #[.val (.int x0), .val (.int ps), .val (.int jk), .val (.int pz), .val (.int jb), .val (.ref d), .val (.int (3 : Int32)), .val (.ref ob), .val (.int rr)] [])) _
    refine own_by (fun zt zk => XS.aload X34.here hx rfl (hb hby at_187) rfl rfl zk) ?_
    show own_Go p.tables e below (T34.setTop (mkF m 189 #[.val (.int x0), .val (.int ps), .val (.int jk), .val (.int pz), .val (.int jb), .val (.ref d), .val (.int (3 : Int32)), .val (.ref ob), .val (.int rr)] [(.ref ob)])) _
    obtain ⟨cq35, kq35, q35a, q35b, q35c⟩ := isOf hZ rfl ((A32.keep Kc33).keep Kc34)
    obtain ⟨_, _, ⟨T35, L35, k35, n35⟩, -, X35, ⟨Lc35, hQ35, l35, y35, z35⟩, st35⟩ := X34.virtualBack hx (y := (⟨"com/example/aprox/aprox/ByteReader", "position", "()I"⟩ : MethodName)) (z := (⟨"com/example/aprox/aprox/ByteReader", "position", "()I"⟩ : MethodName)) hown (mvT hZ (hw _ (List.mem_of_getElem? (i := 26) rfl))) (mvT hZ (hw _ (List.mem_of_getElem? (i := 27) rfl))) (notFace_of_selects (args := #[]) (mvT hZ (hw _ (List.mem_of_getElem? (i := 29) rfl)))) (mvT hZ (hw _ (List.mem_of_getElem? (i := 29) rfl))) (mvT hZ (hw _ (List.mem_of_getElem? (i := 28) rfl))) (by decide) (backOf (W := 0) (rm_po l Z a0 hw [] ob (Int32.ofNat (PP + 2 + 1)) T34.heap n0 (Nat.le_trans Z0 K34.1) Fp34) hZ (hw _ (List.mem_of_getElem? (i := 30) rfl)) (hw _ (List.mem_of_getElem? (i := 10) rfl)) (by decide) (by decide)) q35a q35c (g := (mkF m 189 #[.val (.int x0), .val (.int ps), .val (.int jk), .val (.int pz), .val (.int jb), .val (.ref d), .val (.int (3 : Int32)), .val (.ref ob), .val (.int rr)] [(.ref ob)])) rfl (by rw [hml]; rfl) (Steps.refl _) (argsL := []) (rest := []) (lenOf pd_107 rfl) rfl (by show 2 * 0 + _ ≤ _; exact Nat.le_of_eq rfl) (hb hby at_189) (fun _ _ => ⟨rfl, rfl, (by decide : 2 + 0 ≤ _), (by decide : 11 + 0 ≤ _)⟩)
    dsimp only [Pt.U, Pt.locs, Pt.cells, Pt.slots] at X35 l35 y35 z35 st35 hQ35
    replace l35 := l35.symm
    replace y35 := y35.symm
    replace z35 := z35.symm
    subst l35 y35 z35
    obtain ⟨pp, rfl, N35q, eh35, hpp⟩ := hQ35
    have N35 := Fr.app N34 N35q
    refine own_tr st35 ?_
    show own_Go p.tables e below (T35.setTop (mkF m 192 #[.val (.int x0), .val (.int ps), .val (.int jk), .val (.int pz), .val (.int jb), .val (.ref d), .val (.int (3 : Int32)), .val (.ref ob), .val (.int rr)] [(.int pp)])) _
    have ep : pp = (pz + (3 : Int32)) := by rw [hpp]; exact (own_addN (k := 3) hp2 rfl).symm
    refine own_by (fun zt zk => XS.iloadN X35.here hx rfl (hb hby at_192) rfl zk) ?_
    show own_Go p.tables e below (T35.setTop (mkF m 193 #[.val (.int x0), .val (.int ps), .val (.int jk), .val (.int pz), .val (.int jb), .val (.ref d), .val (.int (3 : Int32)), .val (.ref ob), .val (.int rr)] [(.int pz), (.int pp)])) _
    refine own_by (fun zt zk => XS.iload X35.here hx rfl (hb hby at_193) rfl zk) ?_
    show own_Go p.tables e below (T35.setTop (mkF m 195 #[.val (.int x0), .val (.int ps), .val (.int jk), .val (.int pz), .val (.int jb), .val (.ref d), .val (.int (3 : Int32)), .val (.ref ob), .val (.int rr)] [(.int (3 : Int32)), (.int pz), (.int pp)])) _
    refine own_by (fun zt zk => XS.iadd X35.here hx rfl (hb hby at_195) rfl zk) ?_
    show own_Go p.tables e below (T35.setTop (mkF m 196 #[.val (.int x0), .val (.int ps), .val (.int jk), .val (.int pz), .val (.int jb), .val (.ref d), .val (.int (3 : Int32)), .val (.ref ob), .val (.int rr)] [(.int (pz + (3 : Int32))), (.int pp)])) _
    refine own_by (fun zt zk => XS.icmpNo X35.here hx rfl (hb hby at_196) rfl (teq ep).2 zk) ?_
    show own_Go p.tables e below (T35.setTop (mkF m 199 #[.val (.int x0), .val (.int ps), .val (.int jk), .val (.int pz), .val (.int jb), .val (.ref d), .val (.int (3 : Int32)), .val (.ref ob), .val (.int rr)] [])) _
    refine own_by (fun zt zk => XS.iconst X35.here hx rfl (hb hby at_199) zk) ?_
    show own_Go p.tables e below (T35.setTop (mkF m 200 #[.val (.int x0), .val (.int ps), .val (.int jk), .val (.int pz), .val (.int jb), .val (.ref d), .val (.int (3 : Int32)), .val (.ref ob), .val (.int rr)] [(.int (1 : Int32))])) _
    refine own_by (fun zt zk => XS.goto X35.here hx rfl (pc0 := 200) (pc' := 204) rfl (hb hby at_200) (by decide) (by decide) zk) ?_
    show own_Go p.tables e below (T35.setTop (mkF m 204 #[.val (.int x0), .val (.int ps), .val (.int jk), .val (.int pz), .val (.int jb), .val (.ref d), .val (.int (3 : Int32)), .val (.ref ob), .val (.int rr)] [(.int (1 : Int32))])) _
    exact own_retN X35 hx Bd.notSynchronized (t := .boolean) Bd.returns (by simp) (by decide) (hb hby at_204) (by (try rw [eh35]); exact ⟨rfl, N35⟩) (by decide) (by decide)
  · show own_Go p.tables e below (T11.setTop (mkF m 77 #[.val (.int x0), .val (.int ps), .val (.int jk), .val (.int pz), .val (.int jb), .val (.ref d), .val (.int (4 : Int32)), .unset, .unset] [])) _
    refine own_by (fun zt zk => XS.aload X11.here hx rfl (hb hby at_77) rfl rfl zk) ?_
    show own_Go p.tables e below (T11.setTop (mkF m 79 #[.val (.int x0), .val (.int ps), .val (.int jk), .val (.int pz), .val (.int jb), .val (.ref d), .val (.int (4 : Int32)), .unset, .unset] [(.ref d)])) _
    refine own_by (fun zt zk => XS.iloadN X11.here hx rfl (hb hby at_79) rfl zk) ?_
    show own_Go p.tables e below (T11.setTop (mkF m 80 #[.val (.int x0), .val (.int ps), .val (.int jk), .val (.int pz), .val (.int jb), .val (.ref d), .val (.int (4 : Int32)), .unset, .unset] [(.int pz), (.ref d)])) _
    refine own_by (fun zt zk => XS.iloadN X11.here hx rfl (hb hby at_80) rfl zk) ?_
    show own_Go p.tables e below (T11.setTop (mkF m 81 #[.val (.int x0), .val (.int ps), .val (.int jk), .val (.int pz), .val (.int jb), .val (.ref d), .val (.int (4 : Int32)), .unset, .unset] [(.int x0), (.int pz), (.ref d)])) _
    refine own_by (fun zt zk => XS.iconst X11.here hx rfl (hb hby at_81) zk) ?_
    show own_Go p.tables e below (T11.setTop (mkF m 82 #[.val (.int x0), .val (.int ps), .val (.int jk), .val (.int pz), .val (.int jb), .val (.ref d), .val (.int (4 : Int32)), .unset, .unset] [(.int (0 : Int32)), (.int x0), (.int pz), (.ref d)])) _
    refine own_by (fun zt zk => XS.iload X11.here hx rfl (hb hby at_82) rfl zk) ?_
    show own_Go p.tables e below (T11.setTop (mkF m 84 #[.val (.int x0), .val (.int ps), .val (.int jk), .val (.int pz), .val (.int jb), .val (.ref d), .val (.int (4 : Int32)), .unset, .unset] [(.int (4 : Int32)), (.int (0 : Int32)), (.int x0), (.int pz), (.ref d)])) _
    obtain ⟨_, _, ⟨T36, L36, k36, n36⟩, -, X36, ⟨Lc36, hQ36, l36, y36, z36⟩, st36⟩ := Jvm.LawKit.callS X11 hx (y := (⟨"com/example/aprox/aprox/ByteReaderReadVIntPinLaw", "group", "(III)B"⟩ : MethodName)) hown (mvT hZ (hw _ (List.mem_of_getElem? (i := 5) rfl))) (mvT hZ (hw _ (List.mem_of_getElem? (i := 6) rfl))) (mvT hZ (hw _ (List.mem_of_getElem? (i := 3) rfl))) (mvT hZ (hw _ (List.mem_of_getElem? (i := 7) rfl))) (by decide) (backOf (W := 2) (rm_gr l Z a0 hw [] x0 (0 : Int32) (4 : Int32)  hea10 n0 (Nat.le_trans Z0 K10.1) ) hZ (hw _ (List.mem_of_getElem? (i := 7) rfl)) (hw _ (List.mem_of_getElem? (i := 3) rfl)) (by decide) (by decide)) (g := (mkF m 84 #[.val (.int x0), .val (.int ps), .val (.int jk), .val (.int pz), .val (.int jb), .val (.ref d), .val (.int (4 : Int32)), .unset, .unset] [(.int (4 : Int32)), (.int (0 : Int32)), (.int x0), (.int pz), (.ref d)])) rfl (by rw [hml]; rfl) (argsL := [(.int x0), (.int (0 : Int32)), (.int (4 : Int32))]) (rest := [(.int pz), (.ref d)]) (lenOf pd_105 rfl) rfl (by show 2 * 0 + _ ≤ _; exact Nat.le_of_eq rfl) (hb hby at_84) (fun _ _ => ⟨rfl, eh11, (by decide : 1 + 0 ≤ _), (by decide : 9 + 0 ≤ _)⟩)
    dsimp only [Pt.U, Pt.locs, Pt.cells, Pt.slots] at X36 l36 y36 z36 st36 hQ36
    replace l36 := l36.symm
    replace y36 := y36.symm
    replace z36 := z36.symm
    subst l36 y36 z36
    obtain ⟨r0, rfl, N36q, eh36, hr0⟩ := hQ36
    have N36 := Fr.app N11 N36q
    refine own_by (st36) ?_
    show own_Go p.tables e below (T36.setTop (mkF m 87 #[.val (.int x0), .val (.int ps), .val (.int jk), .val (.int pz), .val (.int jb), .val (.ref d), .val (.int (4 : Int32)), .unset, .unset] [(.int r0), (.int pz), (.ref d)])) _
    obtain ⟨T37, hea37, X37, e37, W37, V37, st37⟩ := own_stB X36 hx hZ eh36 A9 (j := pz) (k := PP) i0 ik (by omega) (g := (mkF m 87 #[.val (.int x0), .val (.int ps), .val (.int jk), .val (.int pz), .val (.int jb), .val (.ref d), .val (.int (4 : Int32)), .unset, .unset] [(.int r0), (.int pz), (.ref d)])) rfl rfl (hb hby at_87)
    have N37 := Fr.snoc X37 N36 (Nat.le_trans Z0 sz_d)
    have K37 : Keep h0 hea37 [] := K10.wr W37 (Or.inr sz_d)
    refine own_by (st37) ?_
    show own_Go p.tables e below (T37.setTop (mkF m 88 #[.val (.int x0), .val (.int ps), .val (.int jk), .val (.int pz), .val (.int jb), .val (.ref d), .val (.int (4 : Int32)), .unset, .unset] [])) _
    refine own_by (fun zt zk => XS.iload X37.here hx rfl (hb hby at_88) rfl zk) ?_
    show own_Go p.tables e below (T37.setTop (mkF m 90 #[.val (.int x0), .val (.int ps), .val (.int jk), .val (.int pz), .val (.int jb), .val (.ref d), .val (.int (4 : Int32)), .unset, .unset] [(.int (4 : Int32))])) _
    refine own_by (fun zt zk => XS.iconst X37.here hx rfl (hb hby at_90) zk) ?_
    show own_Go p.tables e below (T37.setTop (mkF m 91 #[.val (.int x0), .val (.int ps), .val (.int jk), .val (.int pz), .val (.int jb), .val (.ref d), .val (.int (4 : Int32)), .unset, .unset] [(.int (1 : Int32)), (.int (4 : Int32))])) _
    refine own_by (fun zt zk => XS.icmpNo X37.here hx rfl (hb hby at_91) rfl (tlt (by decide)).2.2.2 zk) ?_
    show own_Go p.tables e below (T37.setTop (mkF m 94 #[.val (.int x0), .val (.int ps), .val (.int jk), .val (.int pz), .val (.int jb), .val (.ref d), .val (.int (4 : Int32)), .unset, .unset] [])) _
    refine own_by (fun zt zk => XS.aload X37.here hx rfl (hb hby at_94) rfl rfl zk) ?_
    show own_Go p.tables e below (T37.setTop (mkF m 96 #[.val (.int x0), .val (.int ps), .val (.int jk), .val (.int pz), .val (.int jb), .val (.ref d), .val (.int (4 : Int32)), .unset, .unset] [(.ref d)])) _
    refine own_by (fun zt zk => XS.iloadN X37.here hx rfl (hb hby at_96) rfl zk) ?_
    show own_Go p.tables e below (T37.setTop (mkF m 97 #[.val (.int x0), .val (.int ps), .val (.int jk), .val (.int pz), .val (.int jb), .val (.ref d), .val (.int (4 : Int32)), .unset, .unset] [(.int pz), (.ref d)])) _
    refine own_by (fun zt zk => XS.iconst X37.here hx rfl (hb hby at_97) zk) ?_
    show own_Go p.tables e below (T37.setTop (mkF m 98 #[.val (.int x0), .val (.int ps), .val (.int jk), .val (.int pz), .val (.int jb), .val (.ref d), .val (.int (4 : Int32)), .unset, .unset] [(.int (1 : Int32)), (.int pz), (.ref d)])) _
    refine own_by (fun zt zk => XS.iadd X37.here hx rfl (hb hby at_98) rfl zk) ?_
    show own_Go p.tables e below (T37.setTop (mkF m 99 #[.val (.int x0), .val (.int ps), .val (.int jk), .val (.int pz), .val (.int jb), .val (.ref d), .val (.int (4 : Int32)), .unset, .unset] [(.int (pz + (1 : Int32))), (.ref d)])) _
    refine own_by (fun zt zk => XS.iloadN X37.here hx rfl (hb hby at_99) rfl zk) ?_
    show own_Go p.tables e below (T37.setTop (mkF m 100 #[.val (.int x0), .val (.int ps), .val (.int jk), .val (.int pz), .val (.int jb), .val (.ref d), .val (.int (4 : Int32)), .unset, .unset] [(.int x0), (.int (pz + (1 : Int32))), (.ref d)])) _
    refine own_by (fun zt zk => XS.iconst X37.here hx rfl (hb hby at_100) zk) ?_
    show own_Go p.tables e below (T37.setTop (mkF m 101 #[.val (.int x0), .val (.int ps), .val (.int jk), .val (.int pz), .val (.int jb), .val (.ref d), .val (.int (4 : Int32)), .unset, .unset] [(.int (1 : Int32)), (.int x0), (.int (pz + (1 : Int32))), (.ref d)])) _
    refine own_by (fun zt zk => XS.iload X37.here hx rfl (hb hby at_101) rfl zk) ?_
    show own_Go p.tables e below (T37.setTop (mkF m 103 #[.val (.int x0), .val (.int ps), .val (.int jk), .val (.int pz), .val (.int jb), .val (.ref d), .val (.int (4 : Int32)), .unset, .unset] [(.int (4 : Int32)), (.int (1 : Int32)), (.int x0), (.int (pz + (1 : Int32))), (.ref d)])) _
    obtain ⟨_, _, ⟨T38, L38, k38, n38⟩, -, X38, ⟨Lc38, hQ38, l38, y38, z38⟩, st38⟩ := Jvm.LawKit.callS X37 hx (y := (⟨"com/example/aprox/aprox/ByteReaderReadVIntPinLaw", "group", "(III)B"⟩ : MethodName)) hown (mvT hZ (hw _ (List.mem_of_getElem? (i := 5) rfl))) (mvT hZ (hw _ (List.mem_of_getElem? (i := 6) rfl))) (mvT hZ (hw _ (List.mem_of_getElem? (i := 3) rfl))) (mvT hZ (hw _ (List.mem_of_getElem? (i := 7) rfl))) (by decide) (backOf (W := 2) (rm_gr l Z a0 hw [] x0 (1 : Int32) (4 : Int32)  hea37 n0 (Nat.le_trans Z0 K37.1) ) hZ (hw _ (List.mem_of_getElem? (i := 7) rfl)) (hw _ (List.mem_of_getElem? (i := 3) rfl)) (by decide) (by decide)) (g := (mkF m 103 #[.val (.int x0), .val (.int ps), .val (.int jk), .val (.int pz), .val (.int jb), .val (.ref d), .val (.int (4 : Int32)), .unset, .unset] [(.int (4 : Int32)), (.int (1 : Int32)), (.int x0), (.int (pz + (1 : Int32))), (.ref d)])) rfl (by rw [hml]; rfl) (argsL := [(.int x0), (.int (1 : Int32)), (.int (4 : Int32))]) (rest := [(.int (pz + (1 : Int32))), (.ref d)]) (lenOf pd_105 rfl) rfl (by show 2 * 0 + _ ≤ _; exact Nat.le_of_eq rfl) (hb hby at_103) (fun _ _ => ⟨rfl, e37, (by decide : 1 + 0 ≤ _), (by decide : 9 + 0 ≤ _)⟩)
    dsimp only [Pt.U, Pt.locs, Pt.cells, Pt.slots] at X38 l38 y38 z38 st38 hQ38
    replace l38 := l38.symm
    replace y38 := y38.symm
    replace z38 := z38.symm
    subst l38 y38 z38
    obtain ⟨r1, rfl, N38q, eh38, hr1⟩ := hQ38
    have N38 := Fr.app N37 N38q
    refine own_by (st38) ?_
    show own_Go p.tables e below (T38.setTop (mkF m 106 #[.val (.int x0), .val (.int ps), .val (.int jk), .val (.int pz), .val (.int jb), .val (.ref d), .val (.int (4 : Int32)), .unset, .unset] [(.int r1), (.int (pz + (1 : Int32))), (.ref d)])) _
    obtain ⟨T39, hea39, X39, e39, W39, V39, st39⟩ := own_stB X38 hx hZ eh38 V37 (j := (pz + (1 : Int32))) (k := (PP + 1)) i1 ik1 (by omega) (g := (mkF m 106 #[.val (.int x0), .val (.int ps), .val (.int jk), .val (.int pz), .val (.int jb), .val (.ref d), .val (.int (4 : Int32)), .unset, .unset] [(.int r1), (.int (pz + (1 : Int32))), (.ref d)])) rfl rfl (hb hby at_106)
    have N39 := Fr.snoc X39 N38 (Nat.le_trans Z0 sz_d)
    have K39 : Keep h0 hea39 [] := K37.wr W39 (Or.inr sz_d)
    refine own_by (st39) ?_
    show own_Go p.tables e below (T39.setTop (mkF m 107 #[.val (.int x0), .val (.int ps), .val (.int jk), .val (.int pz), .val (.int jb), .val (.ref d), .val (.int (4 : Int32)), .unset, .unset] [])) _
    refine own_by (fun zt zk => XS.iload X39.here hx rfl (hb hby at_107) rfl zk) ?_
    show own_Go p.tables e below (T39.setTop (mkF m 109 #[.val (.int x0), .val (.int ps), .val (.int jk), .val (.int pz), .val (.int jb), .val (.ref d), .val (.int (4 : Int32)), .unset, .unset] [(.int (4 : Int32))])) _
    refine own_by (fun zt zk => XS.iconst X39.here hx rfl (hb hby at_109) zk) ?_
    show own_Go p.tables e below (T39.setTop (mkF m 110 #[.val (.int x0), .val (.int ps), .val (.int jk), .val (.int pz), .val (.int jb), .val (.ref d), .val (.int (4 : Int32)), .unset, .unset] [(.int (2 : Int32)), (.int (4 : Int32))])) _
    refine own_by (fun zt zk => XS.icmpNo X39.here hx rfl (hb hby at_110) rfl (tlt (by decide)).2.2.2 zk) ?_
    show own_Go p.tables e below (T39.setTop (mkF m 113 #[.val (.int x0), .val (.int ps), .val (.int jk), .val (.int pz), .val (.int jb), .val (.ref d), .val (.int (4 : Int32)), .unset, .unset] [])) _
    refine own_by (fun zt zk => XS.aload X39.here hx rfl (hb hby at_113) rfl rfl zk) ?_
    show own_Go p.tables e below (T39.setTop (mkF m 115 #[.val (.int x0), .val (.int ps), .val (.int jk), .val (.int pz), .val (.int jb), .val (.ref d), .val (.int (4 : Int32)), .unset, .unset] [(.ref d)])) _
    refine own_by (fun zt zk => XS.iloadN X39.here hx rfl (hb hby at_115) rfl zk) ?_
    show own_Go p.tables e below (T39.setTop (mkF m 116 #[.val (.int x0), .val (.int ps), .val (.int jk), .val (.int pz), .val (.int jb), .val (.ref d), .val (.int (4 : Int32)), .unset, .unset] [(.int pz), (.ref d)])) _
    refine own_by (fun zt zk => XS.iconst X39.here hx rfl (hb hby at_116) zk) ?_
    show own_Go p.tables e below (T39.setTop (mkF m 117 #[.val (.int x0), .val (.int ps), .val (.int jk), .val (.int pz), .val (.int jb), .val (.ref d), .val (.int (4 : Int32)), .unset, .unset] [(.int (2 : Int32)), (.int pz), (.ref d)])) _
    refine own_by (fun zt zk => XS.iadd X39.here hx rfl (hb hby at_117) rfl zk) ?_
    show own_Go p.tables e below (T39.setTop (mkF m 118 #[.val (.int x0), .val (.int ps), .val (.int jk), .val (.int pz), .val (.int jb), .val (.ref d), .val (.int (4 : Int32)), .unset, .unset] [(.int (pz + (2 : Int32))), (.ref d)])) _
    refine own_by (fun zt zk => XS.iloadN X39.here hx rfl (hb hby at_118) rfl zk) ?_
    show own_Go p.tables e below (T39.setTop (mkF m 119 #[.val (.int x0), .val (.int ps), .val (.int jk), .val (.int pz), .val (.int jb), .val (.ref d), .val (.int (4 : Int32)), .unset, .unset] [(.int x0), (.int (pz + (2 : Int32))), (.ref d)])) _
    refine own_by (fun zt zk => XS.iconst X39.here hx rfl (hb hby at_119) zk) ?_
    show own_Go p.tables e below (T39.setTop (mkF m 120 #[.val (.int x0), .val (.int ps), .val (.int jk), .val (.int pz), .val (.int jb), .val (.ref d), .val (.int (4 : Int32)), .unset, .unset] [(.int (2 : Int32)), (.int x0), (.int (pz + (2 : Int32))), (.ref d)])) _
    refine own_by (fun zt zk => XS.iload X39.here hx rfl (hb hby at_120) rfl zk) ?_
    show own_Go p.tables e below (T39.setTop (mkF m 122 #[.val (.int x0), .val (.int ps), .val (.int jk), .val (.int pz), .val (.int jb), .val (.ref d), .val (.int (4 : Int32)), .unset, .unset] [(.int (4 : Int32)), (.int (2 : Int32)), (.int x0), (.int (pz + (2 : Int32))), (.ref d)])) _
    obtain ⟨_, _, ⟨T40, L40, k40, n40⟩, -, X40, ⟨Lc40, hQ40, l40, y40, z40⟩, st40⟩ := Jvm.LawKit.callS X39 hx (y := (⟨"com/example/aprox/aprox/ByteReaderReadVIntPinLaw", "group", "(III)B"⟩ : MethodName)) hown (mvT hZ (hw _ (List.mem_of_getElem? (i := 5) rfl))) (mvT hZ (hw _ (List.mem_of_getElem? (i := 6) rfl))) (mvT hZ (hw _ (List.mem_of_getElem? (i := 3) rfl))) (mvT hZ (hw _ (List.mem_of_getElem? (i := 7) rfl))) (by decide) (backOf (W := 2) (rm_gr l Z a0 hw [] x0 (2 : Int32) (4 : Int32)  hea39 n0 (Nat.le_trans Z0 K39.1) ) hZ (hw _ (List.mem_of_getElem? (i := 7) rfl)) (hw _ (List.mem_of_getElem? (i := 3) rfl)) (by decide) (by decide)) (g := (mkF m 122 #[.val (.int x0), .val (.int ps), .val (.int jk), .val (.int pz), .val (.int jb), .val (.ref d), .val (.int (4 : Int32)), .unset, .unset] [(.int (4 : Int32)), (.int (2 : Int32)), (.int x0), (.int (pz + (2 : Int32))), (.ref d)])) rfl (by rw [hml]; rfl) (argsL := [(.int x0), (.int (2 : Int32)), (.int (4 : Int32))]) (rest := [(.int (pz + (2 : Int32))), (.ref d)]) (lenOf pd_105 rfl) rfl (by show 2 * 0 + _ ≤ _; exact Nat.le_of_eq rfl) (hb hby at_122) (fun _ _ => ⟨rfl, e39, (by decide : 1 + 0 ≤ _), (by decide : 9 + 0 ≤ _)⟩)
    dsimp only [Pt.U, Pt.locs, Pt.cells, Pt.slots] at X40 l40 y40 z40 st40 hQ40
    replace l40 := l40.symm
    replace y40 := y40.symm
    replace z40 := z40.symm
    subst l40 y40 z40
    obtain ⟨r2, rfl, N40q, eh40, hr2⟩ := hQ40
    have N40 := Fr.app N39 N40q
    refine own_by (st40) ?_
    show own_Go p.tables e below (T40.setTop (mkF m 125 #[.val (.int x0), .val (.int ps), .val (.int jk), .val (.int pz), .val (.int jb), .val (.ref d), .val (.int (4 : Int32)), .unset, .unset] [(.int r2), (.int (pz + (2 : Int32))), (.ref d)])) _
    obtain ⟨T41, hea41, X41, e41, W41, V41, st41⟩ := own_stB X40 hx hZ eh40 V39 (j := (pz + (2 : Int32))) (k := (PP + 2)) i2 ik2 (by omega) (g := (mkF m 125 #[.val (.int x0), .val (.int ps), .val (.int jk), .val (.int pz), .val (.int jb), .val (.ref d), .val (.int (4 : Int32)), .unset, .unset] [(.int r2), (.int (pz + (2 : Int32))), (.ref d)])) rfl rfl (hb hby at_125)
    have N41 := Fr.snoc X41 N40 (Nat.le_trans Z0 sz_d)
    have K41 : Keep h0 hea41 [] := K39.wr W41 (Or.inr sz_d)
    refine own_by (st41) ?_
    show own_Go p.tables e below (T41.setTop (mkF m 126 #[.val (.int x0), .val (.int ps), .val (.int jk), .val (.int pz), .val (.int jb), .val (.ref d), .val (.int (4 : Int32)), .unset, .unset] [])) _
    refine own_by (fun zt zk => XS.iload X41.here hx rfl (hb hby at_126) rfl zk) ?_
    show own_Go p.tables e below (T41.setTop (mkF m 128 #[.val (.int x0), .val (.int ps), .val (.int jk), .val (.int pz), .val (.int jb), .val (.ref d), .val (.int (4 : Int32)), .unset, .unset] [(.int (4 : Int32))])) _
    refine own_by (fun zt zk => XS.iconst X41.here hx rfl (hb hby at_128) zk) ?_
    show own_Go p.tables e below (T41.setTop (mkF m 129 #[.val (.int x0), .val (.int ps), .val (.int jk), .val (.int pz), .val (.int jb), .val (.ref d), .val (.int (4 : Int32)), .unset, .unset] [(.int (3 : Int32)), (.int (4 : Int32))])) _
    refine own_by (fun zt zk => XS.icmpNo X41.here hx rfl (hb hby at_129) rfl (tlt (by decide)).2.2.2 zk) ?_
    show own_Go p.tables e below (T41.setTop (mkF m 132 #[.val (.int x0), .val (.int ps), .val (.int jk), .val (.int pz), .val (.int jb), .val (.ref d), .val (.int (4 : Int32)), .unset, .unset] [])) _
    refine own_by (fun zt zk => XS.aload X41.here hx rfl (hb hby at_132) rfl rfl zk) ?_
    show own_Go p.tables e below (T41.setTop (mkF m 134 #[.val (.int x0), .val (.int ps), .val (.int jk), .val (.int pz), .val (.int jb), .val (.ref d), .val (.int (4 : Int32)), .unset, .unset] [(.ref d)])) _
    refine own_by (fun zt zk => XS.iloadN X41.here hx rfl (hb hby at_134) rfl zk) ?_
    show own_Go p.tables e below (T41.setTop (mkF m 135 #[.val (.int x0), .val (.int ps), .val (.int jk), .val (.int pz), .val (.int jb), .val (.ref d), .val (.int (4 : Int32)), .unset, .unset] [(.int pz), (.ref d)])) _
    refine own_by (fun zt zk => XS.iconst X41.here hx rfl (hb hby at_135) zk) ?_
    show own_Go p.tables e below (T41.setTop (mkF m 136 #[.val (.int x0), .val (.int ps), .val (.int jk), .val (.int pz), .val (.int jb), .val (.ref d), .val (.int (4 : Int32)), .unset, .unset] [(.int (3 : Int32)), (.int pz), (.ref d)])) _
    refine own_by (fun zt zk => XS.iadd X41.here hx rfl (hb hby at_136) rfl zk) ?_
    show own_Go p.tables e below (T41.setTop (mkF m 137 #[.val (.int x0), .val (.int ps), .val (.int jk), .val (.int pz), .val (.int jb), .val (.ref d), .val (.int (4 : Int32)), .unset, .unset] [(.int (pz + (3 : Int32))), (.ref d)])) _
    refine own_by (fun zt zk => XS.iloadN X41.here hx rfl (hb hby at_137) rfl zk) ?_
    show own_Go p.tables e below (T41.setTop (mkF m 138 #[.val (.int x0), .val (.int ps), .val (.int jk), .val (.int pz), .val (.int jb), .val (.ref d), .val (.int (4 : Int32)), .unset, .unset] [(.int x0), (.int (pz + (3 : Int32))), (.ref d)])) _
    refine own_by (fun zt zk => XS.iconst X41.here hx rfl (hb hby at_138) zk) ?_
    show own_Go p.tables e below (T41.setTop (mkF m 139 #[.val (.int x0), .val (.int ps), .val (.int jk), .val (.int pz), .val (.int jb), .val (.ref d), .val (.int (4 : Int32)), .unset, .unset] [(.int (3 : Int32)), (.int x0), (.int (pz + (3 : Int32))), (.ref d)])) _
    refine own_by (fun zt zk => XS.iload X41.here hx rfl (hb hby at_139) rfl zk) ?_
    show own_Go p.tables e below (T41.setTop (mkF m 141 #[.val (.int x0), .val (.int ps), .val (.int jk), .val (.int pz), .val (.int jb), .val (.ref d), .val (.int (4 : Int32)), .unset, .unset] [(.int (4 : Int32)), (.int (3 : Int32)), (.int x0), (.int (pz + (3 : Int32))), (.ref d)])) _
    obtain ⟨_, _, ⟨T42, L42, k42, n42⟩, -, X42, ⟨Lc42, hQ42, l42, y42, z42⟩, st42⟩ := Jvm.LawKit.callS X41 hx (y := (⟨"com/example/aprox/aprox/ByteReaderReadVIntPinLaw", "group", "(III)B"⟩ : MethodName)) hown (mvT hZ (hw _ (List.mem_of_getElem? (i := 5) rfl))) (mvT hZ (hw _ (List.mem_of_getElem? (i := 6) rfl))) (mvT hZ (hw _ (List.mem_of_getElem? (i := 3) rfl))) (mvT hZ (hw _ (List.mem_of_getElem? (i := 7) rfl))) (by decide) (backOf (W := 2) (rm_gr l Z a0 hw [] x0 (3 : Int32) (4 : Int32)  hea41 n0 (Nat.le_trans Z0 K41.1) ) hZ (hw _ (List.mem_of_getElem? (i := 7) rfl)) (hw _ (List.mem_of_getElem? (i := 3) rfl)) (by decide) (by decide)) (g := (mkF m 141 #[.val (.int x0), .val (.int ps), .val (.int jk), .val (.int pz), .val (.int jb), .val (.ref d), .val (.int (4 : Int32)), .unset, .unset] [(.int (4 : Int32)), (.int (3 : Int32)), (.int x0), (.int (pz + (3 : Int32))), (.ref d)])) rfl (by rw [hml]; rfl) (argsL := [(.int x0), (.int (3 : Int32)), (.int (4 : Int32))]) (rest := [(.int (pz + (3 : Int32))), (.ref d)]) (lenOf pd_105 rfl) rfl (by show 2 * 0 + _ ≤ _; exact Nat.le_of_eq rfl) (hb hby at_141) (fun _ _ => ⟨rfl, e41, (by decide : 1 + 0 ≤ _), (by decide : 9 + 0 ≤ _)⟩)
    dsimp only [Pt.U, Pt.locs, Pt.cells, Pt.slots] at X42 l42 y42 z42 st42 hQ42
    replace l42 := l42.symm
    replace y42 := y42.symm
    replace z42 := z42.symm
    subst l42 y42 z42
    obtain ⟨r3, rfl, N42q, eh42, hr3⟩ := hQ42
    have N42 := Fr.app N41 N42q
    refine own_by (st42) ?_
    show own_Go p.tables e below (T42.setTop (mkF m 144 #[.val (.int x0), .val (.int ps), .val (.int jk), .val (.int pz), .val (.int jb), .val (.ref d), .val (.int (4 : Int32)), .unset, .unset] [(.int r3), (.int (pz + (3 : Int32))), (.ref d)])) _
    obtain ⟨T43, hea43, X43, e43, W43, V43, st43⟩ := own_stB X42 hx hZ eh42 V41 (j := (pz + (3 : Int32))) (k := (PP + 3)) i3 ik3 (by omega) (g := (mkF m 144 #[.val (.int x0), .val (.int ps), .val (.int jk), .val (.int pz), .val (.int jb), .val (.ref d), .val (.int (4 : Int32)), .unset, .unset] [(.int r3), (.int (pz + (3 : Int32))), (.ref d)])) rfl rfl (hb hby at_144)
    have N43 := Fr.snoc X43 N42 (Nat.le_trans Z0 sz_d)
    have K43 : Keep h0 hea43 [] := K41.wr W43 (Or.inr sz_d)
    refine own_by (st43) ?_
    show own_Go p.tables e below (T43.setTop (mkF m 145 #[.val (.int x0), .val (.int ps), .val (.int jk), .val (.int pz), .val (.int jb), .val (.ref d), .val (.int (4 : Int32)), .unset, .unset] [])) _
    refine own_by (fun zt zk => XS.iload X43.here hx rfl (hb hby at_145) rfl zk) ?_
    show own_Go p.tables e below (T43.setTop (mkF m 147 #[.val (.int x0), .val (.int ps), .val (.int jk), .val (.int pz), .val (.int jb), .val (.ref d), .val (.int (4 : Int32)), .unset, .unset] [(.int (4 : Int32))])) _
    refine own_by (fun zt zk => XS.iconst X43.here hx rfl (hb hby at_147) zk) ?_
    show own_Go p.tables e below (T43.setTop (mkF m 148 #[.val (.int x0), .val (.int ps), .val (.int jk), .val (.int pz), .val (.int jb), .val (.ref d), .val (.int (4 : Int32)), .unset, .unset] [(.int (4 : Int32)), (.int (4 : Int32))])) _
    refine own_by (fun zt zk => XS.icmpYes X43.here hx rfl (pc0 := 148) (pc' := 162) rfl (hb hby at_148) rfl (flt (by decide)).2.2.2 (by decide) (by decide) zk) ?_
    show own_Go p.tables e below (T43.setTop (mkF m 162 #[.val (.int x0), .val (.int ps), .val (.int jk), .val (.int pz), .val (.int jb), .val (.ref d), .val (.int (4 : Int32)), .unset, .unset] [])) _
    obtain ⟨ff, hff⟩ : ∃ q, q = (own_upd (own_upd (own_upd (own_upd f9 PP (r0.toInt8.toInt32)) (PP + 1) (r1.toInt8.toInt32)) (PP + 2) (r2.toInt8.toInt32)) (PP + 3) (r3.toInt8.toInt32)) := ⟨_, rfl⟩
    have AF : own_AI Z hea43 d .byte 9 ff := by rw [hff]; exact V43
    have w0 : ff (PP + 0) = r0.toInt8.toInt32 := by rw [hff]; simp [own_upd]
    rw [hr0, own_bb] at w0
    have w1 : ff (PP + 1) = r1.toInt8.toInt32 := by rw [hff]; simp [own_upd]
    rw [hr1, own_bb] at w1
    have w2 : ff (PP + 2) = r2.toInt8.toInt32 := by rw [hff]; simp [own_upd]
    rw [hr2, own_bb] at w2
    have w3 : ff (PP + 3) = r3.toInt8.toInt32 := by rw [hff]; simp [own_upd]
    rw [hr3, own_bb] at w3
    have hng : ∀ i, i < 3 → ff (PP + i) < (0 : Int32) := fun i hi => by
      match i, hi with
      | 0, _ => rw [w0]; exact own_neg ⟨0, _, by decide, by decide, rfl, rfl⟩
      | 1, _ => rw [w1]; exact own_neg ⟨1, _, by decide, by decide, rfl, rfl⟩
      | 2, _ => rw [w2]; exact own_neg ⟨2, _, by decide, by decide, rfl, rfl⟩
    have hps : ¬ ff (PP + 3) < (0 : Int32) := by rw [w3]; exact own_ps4 hx'
    obtain ⟨T44, hea44, X44, e44, E44, A44, D44, -, st44⟩ := newO X43 hx hZ hown (hw _ (List.mem_of_getElem? (i := 8) rfl)) (hw _ (List.mem_of_getElem? (i := 9) rfl)) (hw _ (List.mem_of_getElem? (i := 10) rfl)) e43 (g := (mkF m 162 #[.val (.int x0), .val (.int ps), .val (.int jk), .val (.int pz), .val (.int jb), .val (.ref d), .val (.int (4 : Int32)), .unset, .unset] [])) rfl (hb hby at_162) (by decide) (by decide)
    obtain ⟨ob, g44⟩ : ∃ z, z = hea43.size := ⟨_, rfl⟩
    rw [← g44] at A44 D44 st44
    have ne_ob_d : ob ≠ d := Nat.ne_of_gt (g44 ▸ (AF).lt)
    have sz_ob : h0.size ≤ ob := Nat.le_trans K43.1 (Nat.le_of_eq g44.symm)
    have K44 : Keep h0 hea44 [] := K43.ext E44
    refine own_by (st44) ?_
    have F44_bytes : Fld Z hea44 ob "com/example/aprox/aprox/ByteReader" "bytes" "[B" .null := D44 (Or.inr (hw _ (List.mem_of_getElem? (i := 18) rfl))) (ty := (.array .byte)) (by decide)
    have F44_position : Fld Z hea44 ob "com/example/aprox/aprox/ByteReader" "position" "I" (.int (0 : Int32)) := D44 (Or.inl (hw _ (List.mem_of_getElem? (i := 20) rfl))) (ty := .int) (by decide)
    show own_Go p.tables e below (T44.setTop (mkF m 165 #[.val (.int x0), .val (.int ps), .val (.int jk), .val (.int pz), .val (.int jb), .val (.ref d), .val (.int (4 : Int32)), .unset, .unset] [(.ref ob)])) _
    refine own_by (fun zt zk => XS.dup X44.here hx rfl (hb hby at_165) rfl rfl zk) ?_
    show own_Go p.tables e below (T44.setTop (mkF m 166 #[.val (.int x0), .val (.int ps), .val (.int jk), .val (.int pz), .val (.int jb), .val (.ref d), .val (.int (4 : Int32)), .unset, .unset] [(.ref ob), (.ref ob)])) _
    refine own_by (fun zt zk => XS.aload X44.here hx rfl (hb hby at_166) rfl rfl zk) ?_
    show own_Go p.tables e below (T44.setTop (mkF m 168 #[.val (.int x0), .val (.int ps), .val (.int jk), .val (.int pz), .val (.int jb), .val (.ref d), .val (.int (4 : Int32)), .unset, .unset] [(.ref d), (.ref ob), (.ref ob)])) _
    refine own_by (fun zt zk => XS.iloadN X44.here hx rfl (hb hby at_168) rfl zk) ?_
    show own_Go p.tables e below (T44.setTop (mkF m 169 #[.val (.int x0), .val (.int ps), .val (.int jk), .val (.int pz), .val (.int jb), .val (.ref d), .val (.int (4 : Int32)), .unset, .unset] [(.int pz), (.ref d), (.ref ob), (.ref ob)])) _
    obtain ⟨_, _, ⟨T45, L45, k45, n45⟩, -, X45, ⟨Lc45, hQ45, l45, y45, z45⟩, st45⟩ := X44.specialBack hx (y := (⟨"com/example/aprox/aprox/ByteReader", "<init>", "([BI)V"⟩ : MethodName)) rfl hown (mvT hZ (hw _ (List.mem_of_getElem? (i := 11) rfl))) (mvT hZ (hw _ (List.mem_of_getElem? (i := 12) rfl))) (mvT hZ (hw _ (List.mem_of_getElem? (i := 13) rfl))) (by decide) (backOf (W := 1) (rm_new l Z a0 hw [] ob d pz  hea44 n0 (Nat.le_trans Z0 K44.1) A44 (Nat.le_trans Z0 sz_ob) F44_bytes F44_position) hZ (hw _ (List.mem_of_getElem? (i := 13) rfl)) (hw _ (List.mem_of_getElem? (i := 10) rfl)) (by decide) (by decide)) (g := (mkF m 169 #[.val (.int x0), .val (.int ps), .val (.int jk), .val (.int pz), .val (.int jb), .val (.ref d), .val (.int (4 : Int32)), .unset, .unset] [(.int pz), (.ref d), (.ref ob), (.ref ob)])) rfl (by rw [hml]; rfl) (Steps.refl _) (a := ob) (argsL := [(.ref d), (.int pz)]) (rest := [(.ref ob)]) (lenOf pd_106 rfl) rfl (by show 2 * 0 + _ ≤ _; exact Nat.le_of_eq rfl) (hb hby at_169) (fun _ _ => ⟨rfl, e44, (by decide : 2 + 0 ≤ _), (by decide : 11 + 0 ≤ _)⟩)
    dsimp only [Pt.U, Pt.locs, Pt.cells, Pt.slots] at X45 l45 y45 z45 st45 hQ45
    replace l45 := l45.symm
    replace y45 := y45.symm
    replace z45 := z45.symm
    subst l45 y45 z45
    obtain ⟨rfl, N45q, Kc45, Fb45, Fp45⟩ := hQ45
    have N45 := Fr.app N43 N45q
    have K45 : Keep h0 T45.heap [] := K44.trans Kc45 (allS (Or.inr sz_ob) all0)
    refine own_tr st45 ?_
    show own_Go p.tables e below (T45.setTop (mkF m 172 #[.val (.int x0), .val (.int ps), .val (.int jk), .val (.int pz), .val (.int jb), .val (.ref d), .val (.int (4 : Int32)), .unset, .unset] [(.ref ob)])) _
    refine own_by (fun zt zk => XS.astore X45.here hx rfl (hb hby at_172) rfl rfl (l' := #[.val (.int x0), .val (.int ps), .val (.int jk), .val (.int pz), .val (.int jb), .val (.ref d), .val (.int (4 : Int32)), .val (.ref ob), .unset]) rfl zk) ?_
    show own_Go p.tables e below (T45.setTop (mkF m 174 #[.val (.int x0), .val (.int ps), .val (.int jk), .val (.int pz), .val (.int jb), .val (.ref d), .val (.int (4 : Int32)), .val (.ref ob), .unset] [])) _
    refine own_by (fun zt zk => XS.aload X45.here hx rfl (hb hby at_174) rfl rfl zk) ?_
    show own_Go p.tables e below (T45.setTop (mkF m 176 #[.val (.int x0), .val (.int ps), .val (.int jk), .val (.int pz), .val (.int jb), .val (.ref d), .val (.int (4 : Int32)), .val (.ref ob), .unset] [(.ref ob)])) _
    obtain ⟨cq46, kq46, q46a, q46b, q46c⟩ := isOf hZ rfl (A44.keep Kc45)
    obtain ⟨_, _, ⟨T46, L46, k46, n46⟩, -, X46, ⟨Lc46, hQ46, l46, y46, z46⟩, st46⟩ := X45.virtualBack hx (y := (⟨"com/example/aprox/aprox/ByteReader", "readVInt", "()I"⟩ : MethodName)) (z := (⟨"com/example/aprox/aprox/ByteReader", "readVInt", "()I"⟩ : MethodName)) hown (mvT hZ (hw _ (List.mem_of_getElem? (i := 21) rfl))) (mvT hZ (hw _ (List.mem_of_getElem? (i := 22) rfl))) (notFace_of_selects (args := #[]) (mvT hZ (hw _ (List.mem_of_getElem? (i := 24) rfl)))) (mvT hZ (hw _ (List.mem_of_getElem? (i := 24) rfl))) (mvT hZ (hw _ (List.mem_of_getElem? (i := 23) rfl))) (by decide) (backOf (W := 0) (rm_rv l Z a0 hw [] ob d pz PP 3 ff T45.heap n0 (Nat.le_trans Z0 K45.1) (A44.keep Kc45) (Nat.le_trans Z0 sz_ob) Fb45 Fp45 ((AF.ext E44).keep Kc45 (ninS (Ne.symm ne_ob_d) nin0)) ne_ob_d hp2 (by omega) hng hps) hZ (hw _ (List.mem_of_getElem? (i := 25) rfl)) (hw _ (List.mem_of_getElem? (i := 10) rfl)) (by decide) (by decide)) q46a q46c (g := (mkF m 176 #[.val (.int x0), .val (.int ps), .val (.int jk), .val (.int pz), .val (.int jb), .val (.ref d), .val (.int (4 : Int32)), .val (.ref ob), .unset] [(.ref ob)])) rfl (by rw [hml]; rfl) (Steps.refl _) (argsL := []) (rest := []) (lenOf pd_107 rfl) rfl (by show 2 * 0 + _ ≤ _; exact Nat.le_of_eq rfl) (hb hby at_176) (fun _ _ => ⟨rfl, rfl, (by decide : 2 + 0 ≤ _), (by decide : 11 + 0 ≤ _)⟩)
    dsimp only [Pt.U, Pt.locs, Pt.cells, Pt.slots] at X46 l46 y46 z46 st46 hQ46
    replace l46 := l46.symm
    replace y46 := y46.symm
    replace z46 := z46.symm
    subst l46 y46 z46
    obtain ⟨rr, rfl, N46q, Kc46, Fp46, hrr⟩ := hQ46
    have N46 := Fr.app N45 N46q
    have K46 : Keep h0 T46.heap [] := K45.trans Kc46 (allS (Or.inr sz_ob) all0)
    refine own_tr st46 ?_
    show own_Go p.tables e below (T46.setTop (mkF m 179 #[.val (.int x0), .val (.int ps), .val (.int jk), .val (.int pz), .val (.int jb), .val (.ref d), .val (.int (4 : Int32)), .val (.ref ob), .unset] [(.int rr)])) _
    have ex : rr = x0 := by rw [hrr]; exact own_v4 x0 ff PP hx' w0 w1 w2 w3
    refine own_by (fun zt zk => XS.istore X46.here hx rfl (hb hby at_179) rfl (l' := #[.val (.int x0), .val (.int ps), .val (.int jk), .val (.int pz), .val (.int jb), .val (.ref d), .val (.int (4 : Int32)), .val (.ref ob), .val (.int rr)]) rfl zk) ?_
    show own_Go p.tables e below (T46.setTop (mkF m 181 #[.val (.int x0), .val (.int ps), .val (.int jk), .val (.int pz), .val (.int jb), .val (.ref d), .val (.int (4 : Int32)), .val (.ref ob), .val (.int rr)] [])) _
    refine own_by (fun zt zk => XS.iload X46.here hx rfl (hb hby at_181) rfl zk) ?_
    show own_Go p.tables e below (T46.setTop (mkF m 183 #[.val (.int x0), .val (.int ps), .val (.int jk), .val (.int pz), .val (.int jb), .val (.ref d), .val (.int (4 : Int32)), .val (.ref ob), .val (.int rr)] [(.int rr)])) _
    refine own_by (fun zt zk => XS.iloadN X46.here hx rfl (hb hby at_183) rfl zk) ?_
    show own_Go p.tables e below (T46.setTop (mkF m 184 #[.val (.int x0), .val (.int ps), .val (.int jk), .val (.int pz), .val (.int jb), .val (.ref d), .val (.int (4 : Int32)), .val (.ref ob), .val (.int rr)] [(.int x0), (.int rr)])) _
    refine own_by (fun zt zk => XS.icmpNo X46.here hx rfl (hb hby at_184) rfl (teq ex).2 zk) ?_
    show own_Go p.tables e below (T46.setTop (mkF m 187 #[.val (.int x0), .val (.int ps), .val (.int jk), .val (.int pz), .val (.int jb), .val (.ref d), .val (.int (4 : Int32)), .val (.ref ob), .val (.int rr)] [])) _
    refine own_by (fun zt zk => XS.aload X46.here hx rfl (hb hby at_187) rfl rfl zk) ?_
    show own_Go p.tables e below (T46.setTop (mkF m 189 #[.val (.int x0), .val (.int ps), .val (.int jk), .val (.int pz), .val (.int jb), .val (.ref d), .val (.int (4 : Int32)), .val (.ref ob), .val (.int rr)] [(.ref ob)])) _
    obtain ⟨cq47, kq47, q47a, q47b, q47c⟩ := isOf hZ rfl ((A44.keep Kc45).keep Kc46)
    obtain ⟨_, _, ⟨T47, L47, k47, n47⟩, -, X47, ⟨Lc47, hQ47, l47, y47, z47⟩, st47⟩ := X46.virtualBack hx (y := (⟨"com/example/aprox/aprox/ByteReader", "position", "()I"⟩ : MethodName)) (z := (⟨"com/example/aprox/aprox/ByteReader", "position", "()I"⟩ : MethodName)) hown (mvT hZ (hw _ (List.mem_of_getElem? (i := 26) rfl))) (mvT hZ (hw _ (List.mem_of_getElem? (i := 27) rfl))) (notFace_of_selects (args := #[]) (mvT hZ (hw _ (List.mem_of_getElem? (i := 29) rfl)))) (mvT hZ (hw _ (List.mem_of_getElem? (i := 29) rfl))) (mvT hZ (hw _ (List.mem_of_getElem? (i := 28) rfl))) (by decide) (backOf (W := 0) (rm_po l Z a0 hw [] ob (Int32.ofNat (PP + 3 + 1)) T46.heap n0 (Nat.le_trans Z0 K46.1) Fp46) hZ (hw _ (List.mem_of_getElem? (i := 30) rfl)) (hw _ (List.mem_of_getElem? (i := 10) rfl)) (by decide) (by decide)) q47a q47c (g := (mkF m 189 #[.val (.int x0), .val (.int ps), .val (.int jk), .val (.int pz), .val (.int jb), .val (.ref d), .val (.int (4 : Int32)), .val (.ref ob), .val (.int rr)] [(.ref ob)])) rfl (by rw [hml]; rfl) (Steps.refl _) (argsL := []) (rest := []) (lenOf pd_107 rfl) rfl (by show 2 * 0 + _ ≤ _; exact Nat.le_of_eq rfl) (hb hby at_189) (fun _ _ => ⟨rfl, rfl, (by decide : 2 + 0 ≤ _), (by decide : 11 + 0 ≤ _)⟩)
    dsimp only [Pt.U, Pt.locs, Pt.cells, Pt.slots] at X47 l47 y47 z47 st47 hQ47
    replace l47 := l47.symm
    replace y47 := y47.symm
    replace z47 := z47.symm
    subst l47 y47 z47
    obtain ⟨pp, rfl, N47q, eh47, hpp⟩ := hQ47
    have N47 := Fr.app N46 N47q
    refine own_tr st47 ?_
    show own_Go p.tables e below (T47.setTop (mkF m 192 #[.val (.int x0), .val (.int ps), .val (.int jk), .val (.int pz), .val (.int jb), .val (.ref d), .val (.int (4 : Int32)), .val (.ref ob), .val (.int rr)] [(.int pp)])) _
    have ep : pp = (pz + (4 : Int32)) := by rw [hpp]; exact (own_addN (k := 4) hp2 rfl).symm
    refine own_by (fun zt zk => XS.iloadN X47.here hx rfl (hb hby at_192) rfl zk) ?_
    show own_Go p.tables e below (T47.setTop (mkF m 193 #[.val (.int x0), .val (.int ps), .val (.int jk), .val (.int pz), .val (.int jb), .val (.ref d), .val (.int (4 : Int32)), .val (.ref ob), .val (.int rr)] [(.int pz), (.int pp)])) _
    refine own_by (fun zt zk => XS.iload X47.here hx rfl (hb hby at_193) rfl zk) ?_
    show own_Go p.tables e below (T47.setTop (mkF m 195 #[.val (.int x0), .val (.int ps), .val (.int jk), .val (.int pz), .val (.int jb), .val (.ref d), .val (.int (4 : Int32)), .val (.ref ob), .val (.int rr)] [(.int (4 : Int32)), (.int pz), (.int pp)])) _
    refine own_by (fun zt zk => XS.iadd X47.here hx rfl (hb hby at_195) rfl zk) ?_
    show own_Go p.tables e below (T47.setTop (mkF m 196 #[.val (.int x0), .val (.int ps), .val (.int jk), .val (.int pz), .val (.int jb), .val (.ref d), .val (.int (4 : Int32)), .val (.ref ob), .val (.int rr)] [(.int (pz + (4 : Int32))), (.int pp)])) _
    refine own_by (fun zt zk => XS.icmpNo X47.here hx rfl (hb hby at_196) rfl (teq ep).2 zk) ?_
    show own_Go p.tables e below (T47.setTop (mkF m 199 #[.val (.int x0), .val (.int ps), .val (.int jk), .val (.int pz), .val (.int jb), .val (.ref d), .val (.int (4 : Int32)), .val (.ref ob), .val (.int rr)] [])) _
    refine own_by (fun zt zk => XS.iconst X47.here hx rfl (hb hby at_199) zk) ?_
    show own_Go p.tables e below (T47.setTop (mkF m 200 #[.val (.int x0), .val (.int ps), .val (.int jk), .val (.int pz), .val (.int jb), .val (.ref d), .val (.int (4 : Int32)), .val (.ref ob), .val (.int rr)] [(.int (1 : Int32))])) _
    refine own_by (fun zt zk => XS.goto X47.here hx rfl (pc0 := 200) (pc' := 204) rfl (hb hby at_200) (by decide) (by decide) zk) ?_
    show own_Go p.tables e below (T47.setTop (mkF m 204 #[.val (.int x0), .val (.int ps), .val (.int jk), .val (.int pz), .val (.int jb), .val (.ref d), .val (.int (4 : Int32)), .val (.ref ob), .val (.int rr)] [(.int (1 : Int32))])) _
    exact own_retN X47 hx Bd.notSynchronized (t := .boolean) Bd.returns (by simp) (by decide) (hb hby at_204) (by (try rw [eh47]); exact ⟨rfl, N47⟩) (by decide) (by decide)
  · show own_Go p.tables e below (T11.setTop (mkF m 77 #[.val (.int x0), .val (.int ps), .val (.int jk), .val (.int pz), .val (.int jb), .val (.ref d), .val (.int (5 : Int32)), .unset, .unset] [])) _
    refine own_by (fun zt zk => XS.aload X11.here hx rfl (hb hby at_77) rfl rfl zk) ?_
    show own_Go p.tables e below (T11.setTop (mkF m 79 #[.val (.int x0), .val (.int ps), .val (.int jk), .val (.int pz), .val (.int jb), .val (.ref d), .val (.int (5 : Int32)), .unset, .unset] [(.ref d)])) _
    refine own_by (fun zt zk => XS.iloadN X11.here hx rfl (hb hby at_79) rfl zk) ?_
    show own_Go p.tables e below (T11.setTop (mkF m 80 #[.val (.int x0), .val (.int ps), .val (.int jk), .val (.int pz), .val (.int jb), .val (.ref d), .val (.int (5 : Int32)), .unset, .unset] [(.int pz), (.ref d)])) _
    refine own_by (fun zt zk => XS.iloadN X11.here hx rfl (hb hby at_80) rfl zk) ?_
    show own_Go p.tables e below (T11.setTop (mkF m 81 #[.val (.int x0), .val (.int ps), .val (.int jk), .val (.int pz), .val (.int jb), .val (.ref d), .val (.int (5 : Int32)), .unset, .unset] [(.int x0), (.int pz), (.ref d)])) _
    refine own_by (fun zt zk => XS.iconst X11.here hx rfl (hb hby at_81) zk) ?_
    show own_Go p.tables e below (T11.setTop (mkF m 82 #[.val (.int x0), .val (.int ps), .val (.int jk), .val (.int pz), .val (.int jb), .val (.ref d), .val (.int (5 : Int32)), .unset, .unset] [(.int (0 : Int32)), (.int x0), (.int pz), (.ref d)])) _
    refine own_by (fun zt zk => XS.iload X11.here hx rfl (hb hby at_82) rfl zk) ?_
    show own_Go p.tables e below (T11.setTop (mkF m 84 #[.val (.int x0), .val (.int ps), .val (.int jk), .val (.int pz), .val (.int jb), .val (.ref d), .val (.int (5 : Int32)), .unset, .unset] [(.int (5 : Int32)), (.int (0 : Int32)), (.int x0), (.int pz), (.ref d)])) _
    obtain ⟨_, _, ⟨T48, L48, k48, n48⟩, -, X48, ⟨Lc48, hQ48, l48, y48, z48⟩, st48⟩ := Jvm.LawKit.callS X11 hx (y := (⟨"com/example/aprox/aprox/ByteReaderReadVIntPinLaw", "group", "(III)B"⟩ : MethodName)) hown (mvT hZ (hw _ (List.mem_of_getElem? (i := 5) rfl))) (mvT hZ (hw _ (List.mem_of_getElem? (i := 6) rfl))) (mvT hZ (hw _ (List.mem_of_getElem? (i := 3) rfl))) (mvT hZ (hw _ (List.mem_of_getElem? (i := 7) rfl))) (by decide) (backOf (W := 2) (rm_gr l Z a0 hw [] x0 (0 : Int32) (5 : Int32)  hea10 n0 (Nat.le_trans Z0 K10.1) ) hZ (hw _ (List.mem_of_getElem? (i := 7) rfl)) (hw _ (List.mem_of_getElem? (i := 3) rfl)) (by decide) (by decide)) (g := (mkF m 84 #[.val (.int x0), .val (.int ps), .val (.int jk), .val (.int pz), .val (.int jb), .val (.ref d), .val (.int (5 : Int32)), .unset, .unset] [(.int (5 : Int32)), (.int (0 : Int32)), (.int x0), (.int pz), (.ref d)])) rfl (by rw [hml]; rfl) (argsL := [(.int x0), (.int (0 : Int32)), (.int (5 : Int32))]) (rest := [(.int pz), (.ref d)]) (lenOf pd_105 rfl) rfl (by show 2 * 0 + _ ≤ _; exact Nat.le_of_eq rfl) (hb hby at_84) (fun _ _ => ⟨rfl, eh11, (by decide : 1 + 0 ≤ _), (by decide : 9 + 0 ≤ _)⟩)
    dsimp only [Pt.U, Pt.locs, Pt.cells, Pt.slots] at X48 l48 y48 z48 st48 hQ48
    replace l48 := l48.symm
    replace y48 := y48.symm
    replace z48 := z48.symm
    subst l48 y48 z48
    obtain ⟨r0, rfl, N48q, eh48, hr0⟩ := hQ48
    have N48 := Fr.app N11 N48q
    refine own_by (st48) ?_
    show own_Go p.tables e below (T48.setTop (mkF m 87 #[.val (.int x0), .val (.int ps), .val (.int jk), .val (.int pz), .val (.int jb), .val (.ref d), .val (.int (5 : Int32)), .unset, .unset] [(.int r0), (.int pz), (.ref d)])) _
    obtain ⟨T49, hea49, X49, e49, W49, V49, st49⟩ := own_stB X48 hx hZ eh48 A9 (j := pz) (k := PP) i0 ik (by omega) (g := (mkF m 87 #[.val (.int x0), .val (.int ps), .val (.int jk), .val (.int pz), .val (.int jb), .val (.ref d), .val (.int (5 : Int32)), .unset, .unset] [(.int r0), (.int pz), (.ref d)])) rfl rfl (hb hby at_87)
    have N49 := Fr.snoc X49 N48 (Nat.le_trans Z0 sz_d)
    have K49 : Keep h0 hea49 [] := K10.wr W49 (Or.inr sz_d)
    refine own_by (st49) ?_
    show own_Go p.tables e below (T49.setTop (mkF m 88 #[.val (.int x0), .val (.int ps), .val (.int jk), .val (.int pz), .val (.int jb), .val (.ref d), .val (.int (5 : Int32)), .unset, .unset] [])) _
    refine own_by (fun zt zk => XS.iload X49.here hx rfl (hb hby at_88) rfl zk) ?_
    show own_Go p.tables e below (T49.setTop (mkF m 90 #[.val (.int x0), .val (.int ps), .val (.int jk), .val (.int pz), .val (.int jb), .val (.ref d), .val (.int (5 : Int32)), .unset, .unset] [(.int (5 : Int32))])) _
    refine own_by (fun zt zk => XS.iconst X49.here hx rfl (hb hby at_90) zk) ?_
    show own_Go p.tables e below (T49.setTop (mkF m 91 #[.val (.int x0), .val (.int ps), .val (.int jk), .val (.int pz), .val (.int jb), .val (.ref d), .val (.int (5 : Int32)), .unset, .unset] [(.int (1 : Int32)), (.int (5 : Int32))])) _
    refine own_by (fun zt zk => XS.icmpNo X49.here hx rfl (hb hby at_91) rfl (tlt (by decide)).2.2.2 zk) ?_
    show own_Go p.tables e below (T49.setTop (mkF m 94 #[.val (.int x0), .val (.int ps), .val (.int jk), .val (.int pz), .val (.int jb), .val (.ref d), .val (.int (5 : Int32)), .unset, .unset] [])) _
    refine own_by (fun zt zk => XS.aload X49.here hx rfl (hb hby at_94) rfl rfl zk) ?_
    show own_Go p.tables e below (T49.setTop (mkF m 96 #[.val (.int x0), .val (.int ps), .val (.int jk), .val (.int pz), .val (.int jb), .val (.ref d), .val (.int (5 : Int32)), .unset, .unset] [(.ref d)])) _
    refine own_by (fun zt zk => XS.iloadN X49.here hx rfl (hb hby at_96) rfl zk) ?_
    show own_Go p.tables e below (T49.setTop (mkF m 97 #[.val (.int x0), .val (.int ps), .val (.int jk), .val (.int pz), .val (.int jb), .val (.ref d), .val (.int (5 : Int32)), .unset, .unset] [(.int pz), (.ref d)])) _
    refine own_by (fun zt zk => XS.iconst X49.here hx rfl (hb hby at_97) zk) ?_
    show own_Go p.tables e below (T49.setTop (mkF m 98 #[.val (.int x0), .val (.int ps), .val (.int jk), .val (.int pz), .val (.int jb), .val (.ref d), .val (.int (5 : Int32)), .unset, .unset] [(.int (1 : Int32)), (.int pz), (.ref d)])) _
    refine own_by (fun zt zk => XS.iadd X49.here hx rfl (hb hby at_98) rfl zk) ?_
    show own_Go p.tables e below (T49.setTop (mkF m 99 #[.val (.int x0), .val (.int ps), .val (.int jk), .val (.int pz), .val (.int jb), .val (.ref d), .val (.int (5 : Int32)), .unset, .unset] [(.int (pz + (1 : Int32))), (.ref d)])) _
    refine own_by (fun zt zk => XS.iloadN X49.here hx rfl (hb hby at_99) rfl zk) ?_
    show own_Go p.tables e below (T49.setTop (mkF m 100 #[.val (.int x0), .val (.int ps), .val (.int jk), .val (.int pz), .val (.int jb), .val (.ref d), .val (.int (5 : Int32)), .unset, .unset] [(.int x0), (.int (pz + (1 : Int32))), (.ref d)])) _
    refine own_by (fun zt zk => XS.iconst X49.here hx rfl (hb hby at_100) zk) ?_
    show own_Go p.tables e below (T49.setTop (mkF m 101 #[.val (.int x0), .val (.int ps), .val (.int jk), .val (.int pz), .val (.int jb), .val (.ref d), .val (.int (5 : Int32)), .unset, .unset] [(.int (1 : Int32)), (.int x0), (.int (pz + (1 : Int32))), (.ref d)])) _
    refine own_by (fun zt zk => XS.iload X49.here hx rfl (hb hby at_101) rfl zk) ?_
    show own_Go p.tables e below (T49.setTop (mkF m 103 #[.val (.int x0), .val (.int ps), .val (.int jk), .val (.int pz), .val (.int jb), .val (.ref d), .val (.int (5 : Int32)), .unset, .unset] [(.int (5 : Int32)), (.int (1 : Int32)), (.int x0), (.int (pz + (1 : Int32))), (.ref d)])) _
    obtain ⟨_, _, ⟨T50, L50, k50, n50⟩, -, X50, ⟨Lc50, hQ50, l50, y50, z50⟩, st50⟩ := Jvm.LawKit.callS X49 hx (y := (⟨"com/example/aprox/aprox/ByteReaderReadVIntPinLaw", "group", "(III)B"⟩ : MethodName)) hown (mvT hZ (hw _ (List.mem_of_getElem? (i := 5) rfl))) (mvT hZ (hw _ (List.mem_of_getElem? (i := 6) rfl))) (mvT hZ (hw _ (List.mem_of_getElem? (i := 3) rfl))) (mvT hZ (hw _ (List.mem_of_getElem? (i := 7) rfl))) (by decide) (backOf (W := 2) (rm_gr l Z a0 hw [] x0 (1 : Int32) (5 : Int32)  hea49 n0 (Nat.le_trans Z0 K49.1) ) hZ (hw _ (List.mem_of_getElem? (i := 7) rfl)) (hw _ (List.mem_of_getElem? (i := 3) rfl)) (by decide) (by decide)) (g := (mkF m 103 #[.val (.int x0), .val (.int ps), .val (.int jk), .val (.int pz), .val (.int jb), .val (.ref d), .val (.int (5 : Int32)), .unset, .unset] [(.int (5 : Int32)), (.int (1 : Int32)), (.int x0), (.int (pz + (1 : Int32))), (.ref d)])) rfl (by rw [hml]; rfl) (argsL := [(.int x0), (.int (1 : Int32)), (.int (5 : Int32))]) (rest := [(.int (pz + (1 : Int32))), (.ref d)]) (lenOf pd_105 rfl) rfl (by show 2 * 0 + _ ≤ _; exact Nat.le_of_eq rfl) (hb hby at_103) (fun _ _ => ⟨rfl, e49, (by decide : 1 + 0 ≤ _), (by decide : 9 + 0 ≤ _)⟩)
    dsimp only [Pt.U, Pt.locs, Pt.cells, Pt.slots] at X50 l50 y50 z50 st50 hQ50
    replace l50 := l50.symm
    replace y50 := y50.symm
    replace z50 := z50.symm
    subst l50 y50 z50
    obtain ⟨r1, rfl, N50q, eh50, hr1⟩ := hQ50
    have N50 := Fr.app N49 N50q
    refine own_by (st50) ?_
    show own_Go p.tables e below (T50.setTop (mkF m 106 #[.val (.int x0), .val (.int ps), .val (.int jk), .val (.int pz), .val (.int jb), .val (.ref d), .val (.int (5 : Int32)), .unset, .unset] [(.int r1), (.int (pz + (1 : Int32))), (.ref d)])) _
    obtain ⟨T51, hea51, X51, e51, W51, V51, st51⟩ := own_stB X50 hx hZ eh50 V49 (j := (pz + (1 : Int32))) (k := (PP + 1)) i1 ik1 (by omega) (g := (mkF m 106 #[.val (.int x0), .val (.int ps), .val (.int jk), .val (.int pz), .val (.int jb), .val (.ref d), .val (.int (5 : Int32)), .unset, .unset] [(.int r1), (.int (pz + (1 : Int32))), (.ref d)])) rfl rfl (hb hby at_106)
    have N51 := Fr.snoc X51 N50 (Nat.le_trans Z0 sz_d)
    have K51 : Keep h0 hea51 [] := K49.wr W51 (Or.inr sz_d)
    refine own_by (st51) ?_
    show own_Go p.tables e below (T51.setTop (mkF m 107 #[.val (.int x0), .val (.int ps), .val (.int jk), .val (.int pz), .val (.int jb), .val (.ref d), .val (.int (5 : Int32)), .unset, .unset] [])) _
    refine own_by (fun zt zk => XS.iload X51.here hx rfl (hb hby at_107) rfl zk) ?_
    show own_Go p.tables e below (T51.setTop (mkF m 109 #[.val (.int x0), .val (.int ps), .val (.int jk), .val (.int pz), .val (.int jb), .val (.ref d), .val (.int (5 : Int32)), .unset, .unset] [(.int (5 : Int32))])) _
    refine own_by (fun zt zk => XS.iconst X51.here hx rfl (hb hby at_109) zk) ?_
    show own_Go p.tables e below (T51.setTop (mkF m 110 #[.val (.int x0), .val (.int ps), .val (.int jk), .val (.int pz), .val (.int jb), .val (.ref d), .val (.int (5 : Int32)), .unset, .unset] [(.int (2 : Int32)), (.int (5 : Int32))])) _
    refine own_by (fun zt zk => XS.icmpNo X51.here hx rfl (hb hby at_110) rfl (tlt (by decide)).2.2.2 zk) ?_
    show own_Go p.tables e below (T51.setTop (mkF m 113 #[.val (.int x0), .val (.int ps), .val (.int jk), .val (.int pz), .val (.int jb), .val (.ref d), .val (.int (5 : Int32)), .unset, .unset] [])) _
    refine own_by (fun zt zk => XS.aload X51.here hx rfl (hb hby at_113) rfl rfl zk) ?_
    show own_Go p.tables e below (T51.setTop (mkF m 115 #[.val (.int x0), .val (.int ps), .val (.int jk), .val (.int pz), .val (.int jb), .val (.ref d), .val (.int (5 : Int32)), .unset, .unset] [(.ref d)])) _
    refine own_by (fun zt zk => XS.iloadN X51.here hx rfl (hb hby at_115) rfl zk) ?_
    show own_Go p.tables e below (T51.setTop (mkF m 116 #[.val (.int x0), .val (.int ps), .val (.int jk), .val (.int pz), .val (.int jb), .val (.ref d), .val (.int (5 : Int32)), .unset, .unset] [(.int pz), (.ref d)])) _
    refine own_by (fun zt zk => XS.iconst X51.here hx rfl (hb hby at_116) zk) ?_
    show own_Go p.tables e below (T51.setTop (mkF m 117 #[.val (.int x0), .val (.int ps), .val (.int jk), .val (.int pz), .val (.int jb), .val (.ref d), .val (.int (5 : Int32)), .unset, .unset] [(.int (2 : Int32)), (.int pz), (.ref d)])) _
    refine own_by (fun zt zk => XS.iadd X51.here hx rfl (hb hby at_117) rfl zk) ?_
    show own_Go p.tables e below (T51.setTop (mkF m 118 #[.val (.int x0), .val (.int ps), .val (.int jk), .val (.int pz), .val (.int jb), .val (.ref d), .val (.int (5 : Int32)), .unset, .unset] [(.int (pz + (2 : Int32))), (.ref d)])) _
    refine own_by (fun zt zk => XS.iloadN X51.here hx rfl (hb hby at_118) rfl zk) ?_
    show own_Go p.tables e below (T51.setTop (mkF m 119 #[.val (.int x0), .val (.int ps), .val (.int jk), .val (.int pz), .val (.int jb), .val (.ref d), .val (.int (5 : Int32)), .unset, .unset] [(.int x0), (.int (pz + (2 : Int32))), (.ref d)])) _
    refine own_by (fun zt zk => XS.iconst X51.here hx rfl (hb hby at_119) zk) ?_
    show own_Go p.tables e below (T51.setTop (mkF m 120 #[.val (.int x0), .val (.int ps), .val (.int jk), .val (.int pz), .val (.int jb), .val (.ref d), .val (.int (5 : Int32)), .unset, .unset] [(.int (2 : Int32)), (.int x0), (.int (pz + (2 : Int32))), (.ref d)])) _
    refine own_by (fun zt zk => XS.iload X51.here hx rfl (hb hby at_120) rfl zk) ?_
    show own_Go p.tables e below (T51.setTop (mkF m 122 #[.val (.int x0), .val (.int ps), .val (.int jk), .val (.int pz), .val (.int jb), .val (.ref d), .val (.int (5 : Int32)), .unset, .unset] [(.int (5 : Int32)), (.int (2 : Int32)), (.int x0), (.int (pz + (2 : Int32))), (.ref d)])) _
    obtain ⟨_, _, ⟨T52, L52, k52, n52⟩, -, X52, ⟨Lc52, hQ52, l52, y52, z52⟩, st52⟩ := Jvm.LawKit.callS X51 hx (y := (⟨"com/example/aprox/aprox/ByteReaderReadVIntPinLaw", "group", "(III)B"⟩ : MethodName)) hown (mvT hZ (hw _ (List.mem_of_getElem? (i := 5) rfl))) (mvT hZ (hw _ (List.mem_of_getElem? (i := 6) rfl))) (mvT hZ (hw _ (List.mem_of_getElem? (i := 3) rfl))) (mvT hZ (hw _ (List.mem_of_getElem? (i := 7) rfl))) (by decide) (backOf (W := 2) (rm_gr l Z a0 hw [] x0 (2 : Int32) (5 : Int32)  hea51 n0 (Nat.le_trans Z0 K51.1) ) hZ (hw _ (List.mem_of_getElem? (i := 7) rfl)) (hw _ (List.mem_of_getElem? (i := 3) rfl)) (by decide) (by decide)) (g := (mkF m 122 #[.val (.int x0), .val (.int ps), .val (.int jk), .val (.int pz), .val (.int jb), .val (.ref d), .val (.int (5 : Int32)), .unset, .unset] [(.int (5 : Int32)), (.int (2 : Int32)), (.int x0), (.int (pz + (2 : Int32))), (.ref d)])) rfl (by rw [hml]; rfl) (argsL := [(.int x0), (.int (2 : Int32)), (.int (5 : Int32))]) (rest := [(.int (pz + (2 : Int32))), (.ref d)]) (lenOf pd_105 rfl) rfl (by show 2 * 0 + _ ≤ _; exact Nat.le_of_eq rfl) (hb hby at_122) (fun _ _ => ⟨rfl, e51, (by decide : 1 + 0 ≤ _), (by decide : 9 + 0 ≤ _)⟩)
    dsimp only [Pt.U, Pt.locs, Pt.cells, Pt.slots] at X52 l52 y52 z52 st52 hQ52
    replace l52 := l52.symm
    replace y52 := y52.symm
    replace z52 := z52.symm
    subst l52 y52 z52
    obtain ⟨r2, rfl, N52q, eh52, hr2⟩ := hQ52
    have N52 := Fr.app N51 N52q
    refine own_by (st52) ?_
    show own_Go p.tables e below (T52.setTop (mkF m 125 #[.val (.int x0), .val (.int ps), .val (.int jk), .val (.int pz), .val (.int jb), .val (.ref d), .val (.int (5 : Int32)), .unset, .unset] [(.int r2), (.int (pz + (2 : Int32))), (.ref d)])) _
    obtain ⟨T53, hea53, X53, e53, W53, V53, st53⟩ := own_stB X52 hx hZ eh52 V51 (j := (pz + (2 : Int32))) (k := (PP + 2)) i2 ik2 (by omega) (g := (mkF m 125 #[.val (.int x0), .val (.int ps), .val (.int jk), .val (.int pz), .val (.int jb), .val (.ref d), .val (.int (5 : Int32)), .unset, .unset] [(.int r2), (.int (pz + (2 : Int32))), (.ref d)])) rfl rfl (hb hby at_125)
    have N53 := Fr.snoc X53 N52 (Nat.le_trans Z0 sz_d)
    have K53 : Keep h0 hea53 [] := K51.wr W53 (Or.inr sz_d)
    refine own_by (st53) ?_
    show own_Go p.tables e below (T53.setTop (mkF m 126 #[.val (.int x0), .val (.int ps), .val (.int jk), .val (.int pz), .val (.int jb), .val (.ref d), .val (.int (5 : Int32)), .unset, .unset] [])) _
    refine own_by (fun zt zk => XS.iload X53.here hx rfl (hb hby at_126) rfl zk) ?_
    show own_Go p.tables e below (T53.setTop (mkF m 128 #[.val (.int x0), .val (.int ps), .val (.int jk), .val (.int pz), .val (.int jb), .val (.ref d), .val (.int (5 : Int32)), .unset, .unset] [(.int (5 : Int32))])) _
    refine own_by (fun zt zk => XS.iconst X53.here hx rfl (hb hby at_128) zk) ?_
    show own_Go p.tables e below (T53.setTop (mkF m 129 #[.val (.int x0), .val (.int ps), .val (.int jk), .val (.int pz), .val (.int jb), .val (.ref d), .val (.int (5 : Int32)), .unset, .unset] [(.int (3 : Int32)), (.int (5 : Int32))])) _
    refine own_by (fun zt zk => XS.icmpNo X53.here hx rfl (hb hby at_129) rfl (tlt (by decide)).2.2.2 zk) ?_
    show own_Go p.tables e below (T53.setTop (mkF m 132 #[.val (.int x0), .val (.int ps), .val (.int jk), .val (.int pz), .val (.int jb), .val (.ref d), .val (.int (5 : Int32)), .unset, .unset] [])) _
    refine own_by (fun zt zk => XS.aload X53.here hx rfl (hb hby at_132) rfl rfl zk) ?_
    show own_Go p.tables e below (T53.setTop (mkF m 134 #[.val (.int x0), .val (.int ps), .val (.int jk), .val (.int pz), .val (.int jb), .val (.ref d), .val (.int (5 : Int32)), .unset, .unset] [(.ref d)])) _
    refine own_by (fun zt zk => XS.iloadN X53.here hx rfl (hb hby at_134) rfl zk) ?_
    show own_Go p.tables e below (T53.setTop (mkF m 135 #[.val (.int x0), .val (.int ps), .val (.int jk), .val (.int pz), .val (.int jb), .val (.ref d), .val (.int (5 : Int32)), .unset, .unset] [(.int pz), (.ref d)])) _
    refine own_by (fun zt zk => XS.iconst X53.here hx rfl (hb hby at_135) zk) ?_
    show own_Go p.tables e below (T53.setTop (mkF m 136 #[.val (.int x0), .val (.int ps), .val (.int jk), .val (.int pz), .val (.int jb), .val (.ref d), .val (.int (5 : Int32)), .unset, .unset] [(.int (3 : Int32)), (.int pz), (.ref d)])) _
    refine own_by (fun zt zk => XS.iadd X53.here hx rfl (hb hby at_136) rfl zk) ?_
    show own_Go p.tables e below (T53.setTop (mkF m 137 #[.val (.int x0), .val (.int ps), .val (.int jk), .val (.int pz), .val (.int jb), .val (.ref d), .val (.int (5 : Int32)), .unset, .unset] [(.int (pz + (3 : Int32))), (.ref d)])) _
    refine own_by (fun zt zk => XS.iloadN X53.here hx rfl (hb hby at_137) rfl zk) ?_
    show own_Go p.tables e below (T53.setTop (mkF m 138 #[.val (.int x0), .val (.int ps), .val (.int jk), .val (.int pz), .val (.int jb), .val (.ref d), .val (.int (5 : Int32)), .unset, .unset] [(.int x0), (.int (pz + (3 : Int32))), (.ref d)])) _
    refine own_by (fun zt zk => XS.iconst X53.here hx rfl (hb hby at_138) zk) ?_
    show own_Go p.tables e below (T53.setTop (mkF m 139 #[.val (.int x0), .val (.int ps), .val (.int jk), .val (.int pz), .val (.int jb), .val (.ref d), .val (.int (5 : Int32)), .unset, .unset] [(.int (3 : Int32)), (.int x0), (.int (pz + (3 : Int32))), (.ref d)])) _
    refine own_by (fun zt zk => XS.iload X53.here hx rfl (hb hby at_139) rfl zk) ?_
    show own_Go p.tables e below (T53.setTop (mkF m 141 #[.val (.int x0), .val (.int ps), .val (.int jk), .val (.int pz), .val (.int jb), .val (.ref d), .val (.int (5 : Int32)), .unset, .unset] [(.int (5 : Int32)), (.int (3 : Int32)), (.int x0), (.int (pz + (3 : Int32))), (.ref d)])) _
    obtain ⟨_, _, ⟨T54, L54, k54, n54⟩, -, X54, ⟨Lc54, hQ54, l54, y54, z54⟩, st54⟩ := Jvm.LawKit.callS X53 hx (y := (⟨"com/example/aprox/aprox/ByteReaderReadVIntPinLaw", "group", "(III)B"⟩ : MethodName)) hown (mvT hZ (hw _ (List.mem_of_getElem? (i := 5) rfl))) (mvT hZ (hw _ (List.mem_of_getElem? (i := 6) rfl))) (mvT hZ (hw _ (List.mem_of_getElem? (i := 3) rfl))) (mvT hZ (hw _ (List.mem_of_getElem? (i := 7) rfl))) (by decide) (backOf (W := 2) (rm_gr l Z a0 hw [] x0 (3 : Int32) (5 : Int32)  hea53 n0 (Nat.le_trans Z0 K53.1) ) hZ (hw _ (List.mem_of_getElem? (i := 7) rfl)) (hw _ (List.mem_of_getElem? (i := 3) rfl)) (by decide) (by decide)) (g := (mkF m 141 #[.val (.int x0), .val (.int ps), .val (.int jk), .val (.int pz), .val (.int jb), .val (.ref d), .val (.int (5 : Int32)), .unset, .unset] [(.int (5 : Int32)), (.int (3 : Int32)), (.int x0), (.int (pz + (3 : Int32))), (.ref d)])) rfl (by rw [hml]; rfl) (argsL := [(.int x0), (.int (3 : Int32)), (.int (5 : Int32))]) (rest := [(.int (pz + (3 : Int32))), (.ref d)]) (lenOf pd_105 rfl) rfl (by show 2 * 0 + _ ≤ _; exact Nat.le_of_eq rfl) (hb hby at_141) (fun _ _ => ⟨rfl, e53, (by decide : 1 + 0 ≤ _), (by decide : 9 + 0 ≤ _)⟩)
    dsimp only [Pt.U, Pt.locs, Pt.cells, Pt.slots] at X54 l54 y54 z54 st54 hQ54
    replace l54 := l54.symm
    replace y54 := y54.symm
    replace z54 := z54.symm
    subst l54 y54 z54
    obtain ⟨r3, rfl, N54q, eh54, hr3⟩ := hQ54
    have N54 := Fr.app N53 N54q
    refine own_by (st54) ?_
    show own_Go p.tables e below (T54.setTop (mkF m 144 #[.val (.int x0), .val (.int ps), .val (.int jk), .val (.int pz), .val (.int jb), .val (.ref d), .val (.int (5 : Int32)), .unset, .unset] [(.int r3), (.int (pz + (3 : Int32))), (.ref d)])) _
    obtain ⟨T55, hea55, X55, e55, W55, V55, st55⟩ := own_stB X54 hx hZ eh54 V53 (j := (pz + (3 : Int32))) (k := (PP + 3)) i3 ik3 (by omega) (g := (mkF m 144 #[.val (.int x0), .val (.int ps), .val (.int jk), .val (.int pz), .val (.int jb), .val (.ref d), .val (.int (5 : Int32)), .unset, .unset] [(.int r3), (.int (pz + (3 : Int32))), (.ref d)])) rfl rfl (hb hby at_144)
    have N55 := Fr.snoc X55 N54 (Nat.le_trans Z0 sz_d)
    have K55 : Keep h0 hea55 [] := K53.wr W55 (Or.inr sz_d)
    refine own_by (st55) ?_
    show own_Go p.tables e below (T55.setTop (mkF m 145 #[.val (.int x0), .val (.int ps), .val (.int jk), .val (.int pz), .val (.int jb), .val (.ref d), .val (.int (5 : Int32)), .unset, .unset] [])) _
    refine own_by (fun zt zk => XS.iload X55.here hx rfl (hb hby at_145) rfl zk) ?_
    show own_Go p.tables e below (T55.setTop (mkF m 147 #[.val (.int x0), .val (.int ps), .val (.int jk), .val (.int pz), .val (.int jb), .val (.ref d), .val (.int (5 : Int32)), .unset, .unset] [(.int (5 : Int32))])) _
    refine own_by (fun zt zk => XS.iconst X55.here hx rfl (hb hby at_147) zk) ?_
    show own_Go p.tables e below (T55.setTop (mkF m 148 #[.val (.int x0), .val (.int ps), .val (.int jk), .val (.int pz), .val (.int jb), .val (.ref d), .val (.int (5 : Int32)), .unset, .unset] [(.int (4 : Int32)), (.int (5 : Int32))])) _
    refine own_by (fun zt zk => XS.icmpNo X55.here hx rfl (hb hby at_148) rfl (tlt (by decide)).2.2.2 zk) ?_
    show own_Go p.tables e below (T55.setTop (mkF m 151 #[.val (.int x0), .val (.int ps), .val (.int jk), .val (.int pz), .val (.int jb), .val (.ref d), .val (.int (5 : Int32)), .unset, .unset] [])) _
    refine own_by (fun zt zk => XS.aload X55.here hx rfl (hb hby at_151) rfl rfl zk) ?_
    show own_Go p.tables e below (T55.setTop (mkF m 153 #[.val (.int x0), .val (.int ps), .val (.int jk), .val (.int pz), .val (.int jb), .val (.ref d), .val (.int (5 : Int32)), .unset, .unset] [(.ref d)])) _
    refine own_by (fun zt zk => XS.iloadN X55.here hx rfl (hb hby at_153) rfl zk) ?_
    show own_Go p.tables e below (T55.setTop (mkF m 154 #[.val (.int x0), .val (.int ps), .val (.int jk), .val (.int pz), .val (.int jb), .val (.ref d), .val (.int (5 : Int32)), .unset, .unset] [(.int pz), (.ref d)])) _
    refine own_by (fun zt zk => XS.iconst X55.here hx rfl (hb hby at_154) zk) ?_
    show own_Go p.tables e below (T55.setTop (mkF m 155 #[.val (.int x0), .val (.int ps), .val (.int jk), .val (.int pz), .val (.int jb), .val (.ref d), .val (.int (5 : Int32)), .unset, .unset] [(.int (4 : Int32)), (.int pz), (.ref d)])) _
    refine own_by (fun zt zk => XS.iadd X55.here hx rfl (hb hby at_155) rfl zk) ?_
    show own_Go p.tables e below (T55.setTop (mkF m 156 #[.val (.int x0), .val (.int ps), .val (.int jk), .val (.int pz), .val (.int jb), .val (.ref d), .val (.int (5 : Int32)), .unset, .unset] [(.int (pz + (4 : Int32))), (.ref d)])) _
    refine own_by (fun zt zk => XS.iloadN X55.here hx rfl (hb hby at_156) rfl zk) ?_
    show own_Go p.tables e below (T55.setTop (mkF m 157 #[.val (.int x0), .val (.int ps), .val (.int jk), .val (.int pz), .val (.int jb), .val (.ref d), .val (.int (5 : Int32)), .unset, .unset] [(.int x0), (.int (pz + (4 : Int32))), (.ref d)])) _
    refine own_by (fun zt zk => XS.bipush X55.here hx rfl (hb hby at_157) zk) ?_
    show own_Go p.tables e below (T55.setTop (mkF m 159 #[.val (.int x0), .val (.int ps), .val (.int jk), .val (.int pz), .val (.int jb), .val (.ref d), .val (.int (5 : Int32)), .unset, .unset] [(.int (28 : Int32)), (.int x0), (.int (pz + (4 : Int32))), (.ref d)])) _
    refine own_by (fun zt zk => XS.iushr X55.here hx rfl (hb hby at_159) rfl zk) ?_
    show own_Go p.tables e below (T55.setTop (mkF m 160 #[.val (.int x0), .val (.int ps), .val (.int jk), .val (.int pz), .val (.int jb), .val (.ref d), .val (.int (5 : Int32)), .unset, .unset] [(.int ((x0.toUInt32 >>> ((28 : Int32) &&& 31).toUInt32).toInt32)), (.int (pz + (4 : Int32))), (.ref d)])) _
    refine own_by (fun zt zk => XS.i2b X55.here hx rfl (hb hby at_160) rfl zk) ?_
    show own_Go p.tables e below (T55.setTop (mkF m 161 #[.val (.int x0), .val (.int ps), .val (.int jk), .val (.int pz), .val (.int jb), .val (.ref d), .val (.int (5 : Int32)), .unset, .unset] [(.int (((x0.toUInt32 >>> ((28 : Int32) &&& 31).toUInt32).toInt32).toInt8.toInt32)), (.int (pz + (4 : Int32))), (.ref d)])) _
    obtain ⟨T56, hea56, X56, e56, W56, V56, st56⟩ := own_stB X55 hx hZ e55 V55 (j := (pz + (4 : Int32))) (k := (PP + 4)) i4 ik4 (by omega) (g := (mkF m 161 #[.val (.int x0), .val (.int ps), .val (.int jk), .val (.int pz), .val (.int jb), .val (.ref d), .val (.int (5 : Int32)), .unset, .unset] [(.int (((x0.toUInt32 >>> ((28 : Int32) &&& 31).toUInt32).toInt32).toInt8.toInt32)), (.int (pz + (4 : Int32))), (.ref d)])) rfl rfl (hb hby at_161)
    have N56 := Fr.snoc X56 N55 (Nat.le_trans Z0 sz_d)
    have K56 : Keep h0 hea56 [] := K55.wr W56 (Or.inr sz_d)
    refine own_by (st56) ?_
    show own_Go p.tables e below (T56.setTop (mkF m 162 #[.val (.int x0), .val (.int ps), .val (.int jk), .val (.int pz), .val (.int jb), .val (.ref d), .val (.int (5 : Int32)), .unset, .unset] [])) _
    obtain ⟨ff, hff⟩ : ∃ q, q = (own_upd (own_upd (own_upd (own_upd (own_upd f9 PP (r0.toInt8.toInt32)) (PP + 1) (r1.toInt8.toInt32)) (PP + 2) (r2.toInt8.toInt32)) (PP + 3) (r3.toInt8.toInt32)) (PP + 4) ((((x0.toUInt32 >>> ((28 : Int32) &&& 31).toUInt32).toInt32).toInt8.toInt32).toInt8.toInt32)) := ⟨_, rfl⟩
    have AF : own_AI Z hea56 d .byte 9 ff := by rw [hff]; exact V56
    have w0 : ff (PP + 0) = r0.toInt8.toInt32 := by rw [hff]; simp [own_upd]
    rw [hr0, own_bb] at w0
    have w1 : ff (PP + 1) = r1.toInt8.toInt32 := by rw [hff]; simp [own_upd]
    rw [hr1, own_bb] at w1
    have w2 : ff (PP + 2) = r2.toInt8.toInt32 := by rw [hff]; simp [own_upd]
    rw [hr2, own_bb] at w2
    have w3 : ff (PP + 3) = r3.toInt8.toInt32 := by rw [hff]; simp [own_upd]
    rw [hr3, own_bb] at w3
    have w4 : ff (PP + 4) = (((x0.toUInt32 >>> ((28 : Int32) &&& 31).toUInt32).toInt32).toInt8.toInt32).toInt8.toInt32 := by rw [hff]; simp [own_upd]
    rw [own_bb] at w4
    have hng : ∀ i, i < 4 → ff (PP + i) < (0 : Int32) := fun i hi => by
      match i, hi with
      | 0, _ => rw [w0]; exact own_neg ⟨0, _, by decide, by decide, rfl, rfl⟩
      | 1, _ => rw [w1]; exact own_neg ⟨1, _, by decide, by decide, rfl, rfl⟩
      | 2, _ => rw [w2]; exact own_neg ⟨2, _, by decide, by decide, rfl, rfl⟩
      | 3, _ => rw [w3]; exact own_neg ⟨3, _, by decide, by decide, rfl, rfl⟩
    have hps : ¬ ff (PP + 4) < (0 : Int32) := by rw [w4]; exact own_ps5 hx'
    obtain ⟨T57, hea57, X57, e57, E57, A57, D57, -, st57⟩ := newO X56 hx hZ hown (hw _ (List.mem_of_getElem? (i := 8) rfl)) (hw _ (List.mem_of_getElem? (i := 9) rfl)) (hw _ (List.mem_of_getElem? (i := 10) rfl)) e56 (g := (mkF m 162 #[.val (.int x0), .val (.int ps), .val (.int jk), .val (.int pz), .val (.int jb), .val (.ref d), .val (.int (5 : Int32)), .unset, .unset] [])) rfl (hb hby at_162) (by decide) (by decide)
    obtain ⟨ob, g57⟩ : ∃ z, z = hea56.size := ⟨_, rfl⟩
    rw [← g57] at A57 D57 st57
    have ne_ob_d : ob ≠ d := Nat.ne_of_gt (g57 ▸ (AF).lt)
    have sz_ob : h0.size ≤ ob := Nat.le_trans K56.1 (Nat.le_of_eq g57.symm)
    have K57 : Keep h0 hea57 [] := K56.ext E57
    refine own_by (st57) ?_
    have F57_bytes : Fld Z hea57 ob "com/example/aprox/aprox/ByteReader" "bytes" "[B" .null := D57 (Or.inr (hw _ (List.mem_of_getElem? (i := 18) rfl))) (ty := (.array .byte)) (by decide)
    have F57_position : Fld Z hea57 ob "com/example/aprox/aprox/ByteReader" "position" "I" (.int (0 : Int32)) := D57 (Or.inl (hw _ (List.mem_of_getElem? (i := 20) rfl))) (ty := .int) (by decide)
    show own_Go p.tables e below (T57.setTop (mkF m 165 #[.val (.int x0), .val (.int ps), .val (.int jk), .val (.int pz), .val (.int jb), .val (.ref d), .val (.int (5 : Int32)), .unset, .unset] [(.ref ob)])) _
    refine own_by (fun zt zk => XS.dup X57.here hx rfl (hb hby at_165) rfl rfl zk) ?_
    show own_Go p.tables e below (T57.setTop (mkF m 166 #[.val (.int x0), .val (.int ps), .val (.int jk), .val (.int pz), .val (.int jb), .val (.ref d), .val (.int (5 : Int32)), .unset, .unset] [(.ref ob), (.ref ob)])) _
    refine own_by (fun zt zk => XS.aload X57.here hx rfl (hb hby at_166) rfl rfl zk) ?_
    show own_Go p.tables e below (T57.setTop (mkF m 168 #[.val (.int x0), .val (.int ps), .val (.int jk), .val (.int pz), .val (.int jb), .val (.ref d), .val (.int (5 : Int32)), .unset, .unset] [(.ref d), (.ref ob), (.ref ob)])) _
    refine own_by (fun zt zk => XS.iloadN X57.here hx rfl (hb hby at_168) rfl zk) ?_
    show own_Go p.tables e below (T57.setTop (mkF m 169 #[.val (.int x0), .val (.int ps), .val (.int jk), .val (.int pz), .val (.int jb), .val (.ref d), .val (.int (5 : Int32)), .unset, .unset] [(.int pz), (.ref d), (.ref ob), (.ref ob)])) _
    obtain ⟨_, _, ⟨T58, L58, k58, n58⟩, -, X58, ⟨Lc58, hQ58, l58, y58, z58⟩, st58⟩ := X57.specialBack hx (y := (⟨"com/example/aprox/aprox/ByteReader", "<init>", "([BI)V"⟩ : MethodName)) rfl hown (mvT hZ (hw _ (List.mem_of_getElem? (i := 11) rfl))) (mvT hZ (hw _ (List.mem_of_getElem? (i := 12) rfl))) (mvT hZ (hw _ (List.mem_of_getElem? (i := 13) rfl))) (by decide) (backOf (W := 1) (rm_new l Z a0 hw [] ob d pz  hea57 n0 (Nat.le_trans Z0 K57.1) A57 (Nat.le_trans Z0 sz_ob) F57_bytes F57_position) hZ (hw _ (List.mem_of_getElem? (i := 13) rfl)) (hw _ (List.mem_of_getElem? (i := 10) rfl)) (by decide) (by decide)) (g := (mkF m 169 #[.val (.int x0), .val (.int ps), .val (.int jk), .val (.int pz), .val (.int jb), .val (.ref d), .val (.int (5 : Int32)), .unset, .unset] [(.int pz), (.ref d), (.ref ob), (.ref ob)])) rfl (by rw [hml]; rfl) (Steps.refl _) (a := ob) (argsL := [(.ref d), (.int pz)]) (rest := [(.ref ob)]) (lenOf pd_106 rfl) rfl (by show 2 * 0 + _ ≤ _; exact Nat.le_of_eq rfl) (hb hby at_169) (fun _ _ => ⟨rfl, e57, (by decide : 2 + 0 ≤ _), (by decide : 11 + 0 ≤ _)⟩)
    dsimp only [Pt.U, Pt.locs, Pt.cells, Pt.slots] at X58 l58 y58 z58 st58 hQ58
    replace l58 := l58.symm
    replace y58 := y58.symm
    replace z58 := z58.symm
    subst l58 y58 z58
    obtain ⟨rfl, N58q, Kc58, Fb58, Fp58⟩ := hQ58
    have N58 := Fr.app N56 N58q
    have K58 : Keep h0 T58.heap [] := K57.trans Kc58 (allS (Or.inr sz_ob) all0)
    refine own_tr st58 ?_
    show own_Go p.tables e below (T58.setTop (mkF m 172 #[.val (.int x0), .val (.int ps), .val (.int jk), .val (.int pz), .val (.int jb), .val (.ref d), .val (.int (5 : Int32)), .unset, .unset] [(.ref ob)])) _
    refine own_by (fun zt zk => XS.astore X58.here hx rfl (hb hby at_172) rfl rfl (l' := #[.val (.int x0), .val (.int ps), .val (.int jk), .val (.int pz), .val (.int jb), .val (.ref d), .val (.int (5 : Int32)), .val (.ref ob), .unset]) rfl zk) ?_
    show own_Go p.tables e below (T58.setTop (mkF m 174 #[.val (.int x0), .val (.int ps), .val (.int jk), .val (.int pz), .val (.int jb), .val (.ref d), .val (.int (5 : Int32)), .val (.ref ob), .unset] [])) _
    refine own_by (fun zt zk => XS.aload X58.here hx rfl (hb hby at_174) rfl rfl zk) ?_
    show own_Go p.tables e below (T58.setTop (mkF m 176 #[.val (.int x0), .val (.int ps), .val (.int jk), .val (.int pz), .val (.int jb), .val (.ref d), .val (.int (5 : Int32)), .val (.ref ob), .unset] [(.ref ob)])) _
    obtain ⟨cq59, kq59, q59a, q59b, q59c⟩ := isOf hZ rfl (A57.keep Kc58)
    obtain ⟨_, _, ⟨T59, L59, k59, n59⟩, -, X59, ⟨Lc59, hQ59, l59, y59, z59⟩, st59⟩ := X58.virtualBack hx (y := (⟨"com/example/aprox/aprox/ByteReader", "readVInt", "()I"⟩ : MethodName)) (z := (⟨"com/example/aprox/aprox/ByteReader", "readVInt", "()I"⟩ : MethodName)) hown (mvT hZ (hw _ (List.mem_of_getElem? (i := 21) rfl))) (mvT hZ (hw _ (List.mem_of_getElem? (i := 22) rfl))) (notFace_of_selects (args := #[]) (mvT hZ (hw _ (List.mem_of_getElem? (i := 24) rfl)))) (mvT hZ (hw _ (List.mem_of_getElem? (i := 24) rfl))) (mvT hZ (hw _ (List.mem_of_getElem? (i := 23) rfl))) (by decide) (backOf (W := 0) (rm_rv l Z a0 hw [] ob d pz PP 4 ff T58.heap n0 (Nat.le_trans Z0 K58.1) (A57.keep Kc58) (Nat.le_trans Z0 sz_ob) Fb58 Fp58 ((AF.ext E57).keep Kc58 (ninS (Ne.symm ne_ob_d) nin0)) ne_ob_d hp2 (by omega) hng hps) hZ (hw _ (List.mem_of_getElem? (i := 25) rfl)) (hw _ (List.mem_of_getElem? (i := 10) rfl)) (by decide) (by decide)) q59a q59c (g := (mkF m 176 #[.val (.int x0), .val (.int ps), .val (.int jk), .val (.int pz), .val (.int jb), .val (.ref d), .val (.int (5 : Int32)), .val (.ref ob), .unset] [(.ref ob)])) rfl (by rw [hml]; rfl) (Steps.refl _) (argsL := []) (rest := []) (lenOf pd_107 rfl) rfl (by show 2 * 0 + _ ≤ _; exact Nat.le_of_eq rfl) (hb hby at_176) (fun _ _ => ⟨rfl, rfl, (by decide : 2 + 0 ≤ _), (by decide : 11 + 0 ≤ _)⟩)
    dsimp only [Pt.U, Pt.locs, Pt.cells, Pt.slots] at X59 l59 y59 z59 st59 hQ59
    replace l59 := l59.symm
    replace y59 := y59.symm
    replace z59 := z59.symm
    subst l59 y59 z59
    obtain ⟨rr, rfl, N59q, Kc59, Fp59, hrr⟩ := hQ59
    have N59 := Fr.app N58 N59q
    have K59 : Keep h0 T59.heap [] := K58.trans Kc59 (allS (Or.inr sz_ob) all0)
    refine own_tr st59 ?_
    show own_Go p.tables e below (T59.setTop (mkF m 179 #[.val (.int x0), .val (.int ps), .val (.int jk), .val (.int pz), .val (.int jb), .val (.ref d), .val (.int (5 : Int32)), .val (.ref ob), .unset] [(.int rr)])) _
    have ex : rr = x0 := by rw [hrr]; exact own_v5 x0 ff PP hx' w0 w1 w2 w3 w4
    refine own_by (fun zt zk => XS.istore X59.here hx rfl (hb hby at_179) rfl (l' := #[.val (.int x0), .val (.int ps), .val (.int jk), .val (.int pz), .val (.int jb), .val (.ref d), .val (.int (5 : Int32)), .val (.ref ob), .val (.int rr)]) rfl zk) ?_
    show own_Go p.tables e below (T59.setTop (mkF m 181 #[.val (.int x0), .val (.int ps), .val (.int jk), .val (.int pz), .val (.int jb), .val (.ref d), .val (.int (5 : Int32)), .val (.ref ob), .val (.int rr)] [])) _
    refine own_by (fun zt zk => XS.iload X59.here hx rfl (hb hby at_181) rfl zk) ?_
    show own_Go p.tables e below (T59.setTop (mkF m 183 #[.val (.int x0), .val (.int ps), .val (.int jk), .val (.int pz), .val (.int jb), .val (.ref d), .val (.int (5 : Int32)), .val (.ref ob), .val (.int rr)] [(.int rr)])) _
    refine own_by (fun zt zk => XS.iloadN X59.here hx rfl (hb hby at_183) rfl zk) ?_
    show own_Go p.tables e below (T59.setTop (mkF m 184 #[.val (.int x0), .val (.int ps), .val (.int jk), .val (.int pz), .val (.int jb), .val (.ref d), .val (.int (5 : Int32)), .val (.ref ob), .val (.int rr)] [(.int x0), (.int rr)])) _
    refine own_by (fun zt zk => XS.icmpNo X59.here hx rfl (hb hby at_184) rfl (teq ex).2 zk) ?_
    show own_Go p.tables e below (T59.setTop (mkF m 187 #[.val (.int x0), .val (.int ps), .val (.int jk), .val (.int pz), .val (.int jb), .val (.ref d), .val (.int (5 : Int32)), .val (.ref ob), .val (.int rr)] [])) _
    refine own_by (fun zt zk => XS.aload X59.here hx rfl (hb hby at_187) rfl rfl zk) ?_
    show own_Go p.tables e below (T59.setTop (mkF m 189 #[.val (.int x0), .val (.int ps), .val (.int jk), .val (.int pz), .val (.int jb), .val (.ref d), .val (.int (5 : Int32)), .val (.ref ob), .val (.int rr)] [(.ref ob)])) _
    obtain ⟨cq60, kq60, q60a, q60b, q60c⟩ := isOf hZ rfl ((A57.keep Kc58).keep Kc59)
    obtain ⟨_, _, ⟨T60, L60, k60, n60⟩, -, X60, ⟨Lc60, hQ60, l60, y60, z60⟩, st60⟩ := X59.virtualBack hx (y := (⟨"com/example/aprox/aprox/ByteReader", "position", "()I"⟩ : MethodName)) (z := (⟨"com/example/aprox/aprox/ByteReader", "position", "()I"⟩ : MethodName)) hown (mvT hZ (hw _ (List.mem_of_getElem? (i := 26) rfl))) (mvT hZ (hw _ (List.mem_of_getElem? (i := 27) rfl))) (notFace_of_selects (args := #[]) (mvT hZ (hw _ (List.mem_of_getElem? (i := 29) rfl)))) (mvT hZ (hw _ (List.mem_of_getElem? (i := 29) rfl))) (mvT hZ (hw _ (List.mem_of_getElem? (i := 28) rfl))) (by decide) (backOf (W := 0) (rm_po l Z a0 hw [] ob (Int32.ofNat (PP + 4 + 1)) T59.heap n0 (Nat.le_trans Z0 K59.1) Fp59) hZ (hw _ (List.mem_of_getElem? (i := 30) rfl)) (hw _ (List.mem_of_getElem? (i := 10) rfl)) (by decide) (by decide)) q60a q60c (g := (mkF m 189 #[.val (.int x0), .val (.int ps), .val (.int jk), .val (.int pz), .val (.int jb), .val (.ref d), .val (.int (5 : Int32)), .val (.ref ob), .val (.int rr)] [(.ref ob)])) rfl (by rw [hml]; rfl) (Steps.refl _) (argsL := []) (rest := []) (lenOf pd_107 rfl) rfl (by show 2 * 0 + _ ≤ _; exact Nat.le_of_eq rfl) (hb hby at_189) (fun _ _ => ⟨rfl, rfl, (by decide : 2 + 0 ≤ _), (by decide : 11 + 0 ≤ _)⟩)
    dsimp only [Pt.U, Pt.locs, Pt.cells, Pt.slots] at X60 l60 y60 z60 st60 hQ60
    replace l60 := l60.symm
    replace y60 := y60.symm
    replace z60 := z60.symm
    subst l60 y60 z60
    obtain ⟨pp, rfl, N60q, eh60, hpp⟩ := hQ60
    have N60 := Fr.app N59 N60q
    refine own_tr st60 ?_
    show own_Go p.tables e below (T60.setTop (mkF m 192 #[.val (.int x0), .val (.int ps), .val (.int jk), .val (.int pz), .val (.int jb), .val (.ref d), .val (.int (5 : Int32)), .val (.ref ob), .val (.int rr)] [(.int pp)])) _
    have ep : pp = (pz + (5 : Int32)) := by rw [hpp]; exact (own_addN (k := 5) hp2 rfl).symm
    refine own_by (fun zt zk => XS.iloadN X60.here hx rfl (hb hby at_192) rfl zk) ?_
    show own_Go p.tables e below (T60.setTop (mkF m 193 #[.val (.int x0), .val (.int ps), .val (.int jk), .val (.int pz), .val (.int jb), .val (.ref d), .val (.int (5 : Int32)), .val (.ref ob), .val (.int rr)] [(.int pz), (.int pp)])) _
    refine own_by (fun zt zk => XS.iload X60.here hx rfl (hb hby at_193) rfl zk) ?_
    show own_Go p.tables e below (T60.setTop (mkF m 195 #[.val (.int x0), .val (.int ps), .val (.int jk), .val (.int pz), .val (.int jb), .val (.ref d), .val (.int (5 : Int32)), .val (.ref ob), .val (.int rr)] [(.int (5 : Int32)), (.int pz), (.int pp)])) _
    refine own_by (fun zt zk => XS.iadd X60.here hx rfl (hb hby at_195) rfl zk) ?_
    show own_Go p.tables e below (T60.setTop (mkF m 196 #[.val (.int x0), .val (.int ps), .val (.int jk), .val (.int pz), .val (.int jb), .val (.ref d), .val (.int (5 : Int32)), .val (.ref ob), .val (.int rr)] [(.int (pz + (5 : Int32))), (.int pp)])) _
    refine own_by (fun zt zk => XS.icmpNo X60.here hx rfl (hb hby at_196) rfl (teq ep).2 zk) ?_
    show own_Go p.tables e below (T60.setTop (mkF m 199 #[.val (.int x0), .val (.int ps), .val (.int jk), .val (.int pz), .val (.int jb), .val (.ref d), .val (.int (5 : Int32)), .val (.ref ob), .val (.int rr)] [])) _
    refine own_by (fun zt zk => XS.iconst X60.here hx rfl (hb hby at_199) zk) ?_
    show own_Go p.tables e below (T60.setTop (mkF m 200 #[.val (.int x0), .val (.int ps), .val (.int jk), .val (.int pz), .val (.int jb), .val (.ref d), .val (.int (5 : Int32)), .val (.ref ob), .val (.int rr)] [(.int (1 : Int32))])) _
    refine own_by (fun zt zk => XS.goto X60.here hx rfl (pc0 := 200) (pc' := 204) rfl (hb hby at_200) (by decide) (by decide) zk) ?_
    show own_Go p.tables e below (T60.setTop (mkF m 204 #[.val (.int x0), .val (.int ps), .val (.int jk), .val (.int pz), .val (.int jb), .val (.ref d), .val (.int (5 : Int32)), .val (.ref ob), .val (.int rr)] [(.int (1 : Int32))])) _
    exact own_retN X60 hx Bd.notSynchronized (t := .boolean) Bd.returns (by simp) (by decide) (hb hby at_204) (by (try rw [eh60]); exact ⟨rfl, N60⟩) (by decide) (by decide)
set_option maxRecDepth 65536 in
set_option maxHeartbeats 40000000 in
theorem comes_1 {Post : Tables → Env → Array Value → State → Outcome → State → Prop} (hpost : ∀ tb e args s v u, (limb_1_1.after args s (.returned v) u = true ∧ limb_1_2.after args s (.returned v) u = true ∧ True) → FrameEnd s (.returned v) u (Jvm.fieldLocs frame_1_writes args s ++ Jvm.arrayLocs frame_1_arrays args s ++ Jvm.staticLocs frame_1_statics s) 16 128 → Post tb e args s (.returned v) u) :
    ArmFor flags0 classFile x code maxLocals ret World_1 tables_1 room_1 Calls_1 rest_1 Pre_1 Post := by
  intro l hfl _ _ p e ha hc hk s m args below hf hA hF happ hP
  obtain ⟨hcalls, hrest, hpre⟩ := hP
  obtain ⟨-, -, -, hnamed, -, -, -, hat⟩ := (Spec.applies_iff hf).mp happ
  obtain ⟨hg, hn⟩ := and_e (Cond.before_iff.mp (show (Jvm.Cond.and given_1 narrow_1).before args s = true from hpre))
  obtain ⟨hcount, t0⟩ := and_e hg
  obtain ⟨g0, t1⟩ := and_e t0
  obtain ⟨g1, t2⟩ := and_e t1
  obtain ⟨w0, w1, w2, rfl⟩ : ∃ w0 w1 w2 : Value, args = #[w0, w1, w2] := by
    have hs : args.size = 3 := by simpa [Cond.value, given_1] using hcount
    obtain ⟨L⟩ := args
    match L, hs with
    | [w0, w1, w2], _ => exact ⟨w0, w1, w2, rfl⟩
  have hw := fun d (hd : d ∈ tables_1) => atoms_spec (ws := Jvm.Cond.code x code maxLocals ret :: tables_1) hat d (List.mem_cons_of_mem _ hd)
  obtain ⟨i0, ei0⟩ := is_v g0
  obtain rfl : w0 = (.int i0) := Option.some.inj ei0
  obtain ⟨i1, ei1⟩ := is_v g1
  obtain rfl : w1 = (.int i1) := Option.some.inj ei1
  obtain ⟨i2, ei2⟩ := is_v t2
  obtain rfl : w2 = (.int i2) := Option.some.inj ei2
  obtain ⟨n, o, h1, h2, h3, _, L, rfl, ⟨rfl, N⟩, hq⟩ := rm_law l s _ hw tables_1 i0 i1 i2 s.heap s.heap.size (Nat.le_refl _) p e ha hc hk s m _ below hf ((Spec.applies_iff_loose hf).mp happ).1 ⟨rfl, State.Warmed39.refl s, rfl⟩ trivial
  refine ⟨n, _, h1, h2, h3, hpost _ _ _ _ _ _ ⟨Cond.after_iff.mpr rfl, Cond.after_iff.mpr (eq_i res_at (Term.int_eval (1)) rfl), trivial⟩ ⟨hq.1, hq.2.1, (hq.2.2.sift fun y hy => Or.inr (N y hy)).mono (by decide) (by decide)⟩⟩
theorem main_1_1 : Claimed_1_1 := comes_1 fun _ _ _ _ _ _ h hF => ⟨h.1, hF⟩
theorem main_1_2 : Claimed_1_2 := comes_1 fun _ _ _ _ _ _ h hF => ⟨h.2.1, hF⟩
end Jvm.Pilot.@@N@@
namespace Jvm.Pilot.@@N@@
open Jvm Jvm.ClassFile Sem Op Lib Jvm.Free Jvm.Stand Jvm.Pilot.@@N@@.Jvm.D
/-! MADE BY PROGRAM (witnessworld.py) out of the Statement's table words and the real class files: 9 classes; the members and pool entries that the words name. The judged class is class 1, her method 3. -/
namespace start1
open Jvm.ClassFile
def u (s : String) : CpInfo := .utf8 (stringToUtf16 s)
/-- a pool by its gaps: so many unusable entries, then the entry; so many at the end -/
def gap : Nat → List CpInfo → List CpInfo
  | 0, r => r
  | n + 1, r => .unusable :: gap n r
def poolList (es : List (Nat × CpInfo)) (last : Nat) : List CpInfo := es.foldr (fun e r => gap e.1 (e.2 :: r)) (gap last [])
def pool (es : List (Nat × CpInfo)) (last : Nat) : Array CpInfo := ⟨poolList es last⟩
def fileOf (pool : Array CpInfo) (this : Nat) (attrs : Array Attribute := #[]) (ms : Array MethodInfo := #[]) (fl : Nat := 33) (sup : Nat := 0) (ifs : Array Nat := #[]) (fds : Array FieldInfo := #[]) : ClassFile where
  minorVersion := 0
  majorVersion := 65
  constantPool := pool
  accessFlags := fl
  thisClass := this
  superClass := sup
  interfaces := ifs
  fields := fds
  methods := ms
  attributes := attrs
def plain (name : String) (sup : Option ClassId) : Class where
  name := name
  kind := .ordinary
  loader := none
  accessFlags := 33
  super := sup
  interfaces := #[]
  cf := none
  fields := #[]
  methods := #[]
  instanceTypes := #[]
  staticTypes := #[]
  resolved := #[]
  callSites := []
  init := .initialized
  statics := none
  mirror := none

def pool0 : Array CpInfo := pool [(5, u "<init>"), (0, u "()V"), (1, .class_ 10), (1, u "java/lang/Object")] 113

def k0c0 : Code := { maxStack := 0, maxLocals := 1, code := object_method_1_code, exceptionTable := #[], attributes := #[] }
def k0m0 : Method := { name := "<init>", desc := "()V", sig := { parameters := [], returnType := none }, accessFlags := 1, code := some k0c0 }
/-- java/lang/Object -/
def k0 : Class := { plain "java/lang/Object" none with
  accessFlags := 33
  interfaces := #[]
  cf := some (fileOf pool0 8 #[] #[{ accessFlags := 1, nameIndex := 5, descriptorIndex := 6, attributes := #[] }] 33 0 #[] #[])
  fields := #[]
  methods := #[k0m0]
  instanceTypes := #[]
  staticTypes := #[]
  resolved := Array.replicate 124 none
  statics := none }

def pool1 : Array CpInfo := pool [(2, .class_ 4), (1, u "java/lang/Object"), (0, u "<init>"), (0, u "()V"), (0, .methodref 8 9), (0, .class_ 10), (0, .nameAndType 11 12), (0, u "com/example/aprox/aprox/ByteReaderReadVIntPinLaw"), (0, u "encodedLength"), (0, u "(I)I"), (0, .methodref 8 14), (0, .nameAndType 15 16), (0, u "group"), (0, u "(III)B"), (0, .class_ 18), (0, u "com/example/aprox/aprox/ByteReader"), (0, .methodref 17 20), (0, .nameAndType 5 21), (0, u "([BI)V"), (0, .methodref 17 23), (0, .nameAndType 24 25), (0, u "readVInt"), (0, u "()I"), (0, .methodref 17 27), (0, .nameAndType 28 25), (0, u "position"), (3, u "law"), (0, u "(III)Z")] 4

def k1m0 : Method := { name := "<init>", desc := "()V", sig := { parameters := [], returnType := none }, accessFlags := 1, code := none }
def k1c1 : Code := { maxStack := 2, maxLocals := 1, code := method_2_code, exceptionTable := #[], attributes := #[] }
def k1m1 : Method := { name := "encodedLength", desc := "(I)I", sig := { parameters := [.int], returnType := some .int }, accessFlags := 10, code := some k1c1 }
def k1c2 : Code := { maxStack := 3, maxLocals := 4, code := method_3_code, exceptionTable := #[], attributes := #[] }
def k1m2 : Method := { name := "group", desc := "(III)B", sig := { parameters := [.int, .int, .int], returnType := some .byte }, accessFlags := 10, code := some k1c2 }
def k1c3 : Code := { maxStack := 5, maxLocals := 9, code := code, exceptionTable := #[], attributes := #[] }
def k1m3 : Method := { name := "law", desc := "(III)Z", sig := { parameters := [.int, .int, .int], returnType := some .boolean }, accessFlags := 9, code := some k1c3 }
/-- com/example/aprox/aprox/ByteReaderReadVIntPinLaw -/
def k1 : Class := { plain "com/example/aprox/aprox/ByteReaderReadVIntPinLaw" (some 0) with
  accessFlags := 49
  interfaces := #[]
  cf := some (fileOf pool1 8 #[] #[{ accessFlags := 1, nameIndex := 5, descriptorIndex := 6, attributes := #[] }, { accessFlags := 10, nameIndex := 11, descriptorIndex := 12, attributes := #[] }, { accessFlags := 10, nameIndex := 15, descriptorIndex := 16, attributes := #[] }, { accessFlags := 9, nameIndex := 32, descriptorIndex := 33, attributes := #[] }] 49 2 #[] #[])
  fields := #[]
  methods := #[k1m0, k1m1, k1m2, k1m3]
  instanceTypes := #[]
  staticTypes := #[]
  resolved := Array.replicate 38 none
  statics := none }

def pool2 : Array CpInfo := pool [(1, .methodref 2 3), (0, .class_ 4), (0, .nameAndType 5 6), (0, u "java/lang/Object"), (0, u "<init>"), (0, u "()V"), (0, .fieldref 8 9), (0, .class_ 10), (0, .nameAndType 11 12), (0, u "com/example/aprox/aprox/ByteReader"), (0, u "bytes"), (0, u "[B"), (0, .fieldref 8 14), (0, .nameAndType 15 16), (0, u "position"), (0, u "I"), (18, u "LITTLE_ENDIAN_LONGS"), (0, u "Ljava/lang/invoke/VarHandle;"), (16, u "()I"), (13, u "readVInt"), (23, u "([BI)V")] 26

def k2c0 : Code := { maxStack := 2, maxLocals := 3, code := prog_5_method_1_code, exceptionTable := #[], attributes := #[] }
def k2m0 : Method := { name := "<init>", desc := "([BI)V", sig := { parameters := [(.array .byte), .int], returnType := none }, accessFlags := 0, code := some k2c0 }
def k2c1 : Code := { maxStack := 1, maxLocals := 1, code := prog_5_method_2_code, exceptionTable := #[], attributes := #[] }
def k2m1 : Method := { name := "position", desc := "()I", sig := { parameters := [], returnType := some .int }, accessFlags := 0, code := some k2c1 }
def k2c2 : Code := { maxStack := 5, maxLocals := 4, code := prog_5_method_3_code, exceptionTable := #[], attributes := #[] }
def k2m2 : Method := { name := "readVInt", desc := "()I", sig := { parameters := [], returnType := some .int }, accessFlags := 0, code := some k2c2 }
/-- com/example/aprox/aprox/ByteReader -/
def k2 : Class := { plain "com/example/aprox/aprox/ByteReader" (some 0) with
  accessFlags := 32
  interfaces := #[]
  cf := some (fileOf pool2 8 #[] #[{ accessFlags := 0, nameIndex := 5, descriptorIndex := 91, attributes := #[] }, { accessFlags := 0, nameIndex := 15, descriptorIndex := 53, attributes := #[] }, { accessFlags := 0, nameIndex := 67, descriptorIndex := 53, attributes := #[] }] 32 2 #[] #[{ accessFlags := 26, nameIndex := 35, descriptorIndex := 36, attributes := #[] }, { accessFlags := 18, nameIndex := 11, descriptorIndex := 12, attributes := #[] }, { accessFlags := 2, nameIndex := 15, descriptorIndex := 16, attributes := #[] }])
  fields := #[{ name := "LITTLE_ENDIAN_LONGS", type := (.object "java/lang/invoke/VarHandle"), accessFlags := 26, slot := 0, constantValue := 0 }, { name := "bytes", type := (.array .byte), accessFlags := 18, slot := 0, constantValue := 0 }, { name := "position", type := .int, accessFlags := 2, slot := 1, constantValue := 0 }]
  methods := #[k2m0, k2m1, k2m2]
  instanceTypes := #[(.array .byte), .int]
  staticTypes := #[(.object "java/lang/invoke/VarHandle")]
  resolved := Array.replicate 118 none
  statics := none }

def pool3 : Array CpInfo := pool [(1, u "java/lang/Cloneable"), (0, .class_ 1), (0, u "java/lang/Object"), (0, .class_ 3)] 3

/-- java/lang/Cloneable -/
def k3 : Class := { plain "java/lang/Cloneable" (some 0) with
  accessFlags := 1537
  interfaces := #[]
  cf := some (fileOf pool3 2 #[] #[] 1537 4 #[] #[])
  fields := #[]
  methods := #[]
  instanceTypes := #[]
  staticTypes := #[]
  resolved := Array.replicate 8 none
  statics := none }

def pool4 : Array CpInfo := pool [(1, u "java/io/Serializable"), (0, .class_ 1), (0, u "java/lang/Object"), (0, .class_ 3)] 3

/-- java/io/Serializable -/
def k4 : Class := { plain "java/io/Serializable" (some 0) with
  accessFlags := 1537
  interfaces := #[]
  cf := some (fileOf pool4 2 #[] #[] 1537 4 #[] #[])
  fields := #[]
  methods := #[]
  instanceTypes := #[]
  staticTypes := #[]
  resolved := Array.replicate 8 none
  statics := none }

/-- the primitive byte -/
def k5 : Class := { plain "byte" none with kind := .primitive 'B', accessFlags := 0x411 }
/-- [B -/
def k6 : Class := { plain "[B" (some 0) with kind := .array 5 .byte, interfaces := #[3, 4], accessFlags := 1041 }

/-- the primitive int -/
def k7 : Class := { plain "int" none with kind := .primitive 'I', accessFlags := 0x411 }
/-- [I -/
def k8 : Class := { plain "[I" (some 0) with kind := .array 7 .int, interfaces := #[3, 4], accessFlags := 1041 }

def heap : Heap := #[]
def classes : Array Class := #[k0, k1, k2, k3, k4, k5, k6, k7, k8]
def interned : List (Array UInt16 × Addr) := []
def slotsUsed : Nat := 0
def theMethod : MethodId := ⟨1, 3⟩
def args0 : Array Value := #[.int 5, .int 5, .int 5]
def aboutOver (below : List Frame) : State where
  vm := { classes := classes, interned := interned.toArray }
  heap := heap
  slotsUsed := slotsUsed
  threads := #[{ frames := .invoking theMethod args0 :: below }]
def below0 : List Frame := [.native { method := ⟨0, 0⟩, args := #[] }]
def about1 : State := aboutOver below0
def p0 : Program := .bare "" "" ""
def e0 : Env := launch0.env 0 0 0
theorem w_frames : about1.frames = Frame.invoking theMethod args0 :: below0 := rfl
set_option maxRecDepth 65536 in
theorem w_args : argsFit about1.vm theMethod args0 = true := by decide +kernel
set_option maxRecDepth 65536 in
theorem w_heap : heapFits about1 = true := by decide +kernel
set_option maxRecDepth 65536 in
theorem w_runnable : about1.curStatus? = some .runnable := by decide +kernel
set_option maxRecDepth 65536 in
theorem w_alone : about1.alone = true := by decide +kernel
set_option maxRecDepth 65536 in
theorem w_named : about1.methodNamed? x = some theMethod := by decide +kernel
set_option maxRecDepth 65536 in
theorem w_hears : about1.hears theMethod below0 = true := by decide +kernel
set_option maxRecDepth 65536 in
theorem w_ripe : about1.ripe theMethod args0 below0 = true := by decide +kernel
theorem w_running : about1.status = .running := rfl
set_option maxRecDepth 65536 in
theorem w_room : about1.hasRoom e0.platform room_1 = true :=
  launch0.hasRoom_least _ room_1 (by decide +kernel) (by decide +kernel) (by decide +kernel) (by decide +kernel) (by decide +kernel) (by decide +kernel)
theorem allAtoms_all (ts : List Jvm.Cond) (a : Array Jvm.Value) (st : Jvm.State) : (allAtoms ts).before a st = ts.all (fun c => c.before a st) := by
  induction ts with
  | nil => rfl
  | cons c t ih =>
    show (Jvm.Cond.and c (allAtoms t)).before a st = _
    rw [Jvm.Cond.before_and, ih, List.all_cons]
def words1 : List Jvm.Cond := Jvm.Cond.code x code maxLocals ret :: tables_1
/-- a 'code' word, met by the world's own term for the bytes: nothing is compared byte by byte -/
theorem code_word {y : MethodName} {bytes : ByteArray} {mx : Nat} {rt : Option FieldType} {a : Array Value} {s : State} {m : MethodId} {meth : Method} {c : Code} (h1 : s.methodNamed? y = some m) (h2 : s.vm.method? m = some meth) (h3 : meth.code = some c) (h4 : c.code = bytes)
    (h5 : (c.maxLocals == mx && c.exceptionTable.isEmpty && decide (c.maxStack ≤ mostOperands) && decide (meth.sig.returnType = rt) && !meth.locks && decide (parseMethodDescriptor y.desc = some meth.sig)) = true) : (Jvm.Cond.code y bytes mx rt).before a s = true := by
  simp only [Bool.and_eq_true, beq_iff_eq, Bool.not_eq_true', decide_eq_true_eq] at h5
  obtain ⟨⟨⟨⟨⟨g1, g2⟩, g3⟩, g4⟩, g5⟩, g6⟩ := h5
  simp [Cond.before, Cond.holds, Cond.value, h1, h2, h3, h4, g1, g2, g3, g4, g5, g6]
def isCode : Jvm.Cond → Bool
  | .code _ _ _ _ => true
  | _ => false
theorem all_split {L : List Jvm.Cond} {P : Jvm.Cond → Bool} (h1 : L.all (fun c => isCode c || P c) = true) (h2 : ∀ c ∈ L.filter isCode, P c = true) : L.all P = true := by
  refine List.all_eq_true.mpr fun c hc => ?_
  have h := List.all_eq_true.mp h1 c hc
  rcases Bool.eq_false_or_eq_true (isCode c) with hi | hi
  · exact h2 c (List.mem_filter.mpr ⟨hc, hi⟩)
  · simpa [hi] using h
set_option maxRecDepth 65536 in
theorem w_c0 : (Jvm.Cond.code x code maxLocals ret).before args0 about1 = true := code_word (m := ⟨1, 3⟩) (meth := k1m3) (c := k1c3) (by decide +kernel) rfl rfl rfl (by decide +kernel)
set_option maxRecDepth 65536 in
theorem w_c1 : (Jvm.Cond.code ({ cls := "com/example/aprox/aprox/ByteReaderReadVIntPinLaw", name := "encodedLength", desc := "(I)I" } : Jvm.MethodName) method_2_code (1 : Nat) (Option.some Jvm.ClassFile.FieldType.int)).before args0 about1 = true := code_word (m := ⟨1, 1⟩) (meth := k1m1) (c := k1c1) (by decide +kernel) rfl rfl rfl (by decide +kernel)
set_option maxRecDepth 65536 in
theorem w_c2 : (Jvm.Cond.code ({ cls := "com/example/aprox/aprox/ByteReaderReadVIntPinLaw", name := "group", desc := "(III)B" } : Jvm.MethodName) method_3_code (4 : Nat) (Option.some Jvm.ClassFile.FieldType.byte)).before args0 about1 = true := code_word (m := ⟨1, 2⟩) (meth := k1m2) (c := k1c2) (by decide +kernel) rfl rfl rfl (by decide +kernel)
set_option maxRecDepth 65536 in
theorem w_c3 : (Jvm.Cond.code ({ cls := "com/example/aprox/aprox/ByteReader", name := "<init>", desc := "([BI)V" } : Jvm.MethodName) prog_5_method_1_code (3 : Nat) (Option.none : Option Jvm.ClassFile.FieldType)).before args0 about1 = true := code_word (m := ⟨2, 0⟩) (meth := k2m0) (c := k2c0) (by decide +kernel) rfl rfl rfl (by decide +kernel)
set_option maxRecDepth 65536 in
theorem w_c4 : (Jvm.Cond.code ({ cls := "java/lang/Object", name := "<init>", desc := "()V" } : Jvm.MethodName) object_method_1_code (1 : Nat) (Option.none : Option Jvm.ClassFile.FieldType)).before args0 about1 = true := code_word (m := ⟨0, 0⟩) (meth := k0m0) (c := k0c0) (by decide +kernel) rfl rfl rfl (by decide +kernel)
set_option maxRecDepth 65536 in
theorem w_c5 : (Jvm.Cond.code ({ cls := "com/example/aprox/aprox/ByteReader", name := "readVInt", desc := "()I" } : Jvm.MethodName) prog_5_method_3_code (4 : Nat) (Option.some Jvm.ClassFile.FieldType.int)).before args0 about1 = true := code_word (m := ⟨2, 2⟩) (meth := k2m2) (c := k2c2) (by decide +kernel) rfl rfl rfl (by decide +kernel)
set_option maxRecDepth 65536 in
theorem w_c6 : (Jvm.Cond.code ({ cls := "com/example/aprox/aprox/ByteReader", name := "position", desc := "()I" } : Jvm.MethodName) prog_5_method_2_code (1 : Nat) (Option.some Jvm.ClassFile.FieldType.int)).before args0 about1 = true := code_word (m := ⟨2, 1⟩) (meth := k2m1) (c := k2c1) (by decide +kernel) rfl rfl rfl (by decide +kernel)
def codes1 : List Jvm.Cond := [Jvm.Cond.code x code maxLocals ret, Jvm.Cond.code ({ cls := "com/example/aprox/aprox/ByteReaderReadVIntPinLaw", name := "encodedLength", desc := "(I)I" } : Jvm.MethodName) method_2_code (1 : Nat) (Option.some Jvm.ClassFile.FieldType.int), Jvm.Cond.code ({ cls := "com/example/aprox/aprox/ByteReaderReadVIntPinLaw", name := "group", desc := "(III)B" } : Jvm.MethodName) method_3_code (4 : Nat) (Option.some Jvm.ClassFile.FieldType.byte), Jvm.Cond.code ({ cls := "com/example/aprox/aprox/ByteReader", name := "<init>", desc := "([BI)V" } : Jvm.MethodName) prog_5_method_1_code (3 : Nat) (Option.none : Option Jvm.ClassFile.FieldType), Jvm.Cond.code ({ cls := "java/lang/Object", name := "<init>", desc := "()V" } : Jvm.MethodName) object_method_1_code (1 : Nat) (Option.none : Option Jvm.ClassFile.FieldType), Jvm.Cond.code ({ cls := "com/example/aprox/aprox/ByteReader", name := "readVInt", desc := "()I" } : Jvm.MethodName) prog_5_method_3_code (4 : Nat) (Option.some Jvm.ClassFile.FieldType.int), Jvm.Cond.code ({ cls := "com/example/aprox/aprox/ByteReader", name := "position", desc := "()I" } : Jvm.MethodName) prog_5_method_2_code (1 : Nat) (Option.some Jvm.ClassFile.FieldType.int)]
set_option maxRecDepth 65536 in
theorem codes_eq : words1.filter isCode = codes1 := rfl
theorem w_codes : ∀ c ∈ words1.filter isCode, c.before args0 about1 = true := by
  rw [codes_eq]
  intro c hc
  simp only [codes1, List.mem_cons, List.not_mem_nil, or_false] at hc
  rcases hc with rfl | rfl | rfl | rfl | rfl | rfl | rfl
  · exact w_c0
  · exact w_c1
  · exact w_c2
  · exact w_c3
  · exact w_c4
  · exact w_c5
  · exact w_c6
set_option maxRecDepth 65536 in
theorem w_t1 : (words1.take 24).all (fun c => isCode c || c.before args0 about1) = true := by decide +kernel
set_option maxRecDepth 65536 in
theorem w_t2 : (words1.drop 24).all (fun c => isCode c || c.before args0 about1) = true := by decide +kernel
theorem w_tables : (allAtoms (Jvm.Cond.code x code maxLocals ret :: tables_1)).before args0 about1 = true := by
  rw [allAtoms_all]
  show words1.all (fun c => c.before args0 about1) = true
  refine all_split ?_ w_codes
  rw [← List.take_append_drop 24 words1, List.all_append, w_t1, w_t2]
  rfl
set_option maxRecDepth 65536 in
theorem w_case : (Jvm.Cond.and given_1 narrow_1).before args0 about1 = true := by decide +kernel
theorem w_applies : (headSpec (Jvm.Cond.code x code maxLocals ret :: tables_1) room_1).applies x e0.platform about1 = true :=
  (Spec.applies_iff w_frames).mpr ⟨w_running, w_runnable, w_alone, w_named, w_hears, w_ripe, w_room, w_tables⟩
theorem atStart : AtStart classFile x code maxLocals ret World_1 tables_1 room_1 Calls_1 rest_1 Pre_1 launch0 p0 e0 about1 theMethod args0 below0 :=
  ⟨lists_1, trivial, launch0.admits_env _ _ _, launch0.least_env, fairChoices_fair.cas, fairChoices_fair.clock, w_frames, w_args, w_heap, w_applies, trivial, trivial, w_case⟩
end start1
theorem witness_1 : WitnessClaimed_1 := ⟨start1.p0, start1.e0, start1.about1, start1.theMethod, start1.args0, start1.below0, start1.atStart⟩
end Jvm.Pilot.@@N@@
