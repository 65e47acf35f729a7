import JvmDerived
import JvmDerived.Pilot.@@N@@Statement
import JvmDerived.Pilot.@@N@@Code
set_option linter.unusedVariables false
set_option linter.unusedSimpArgs false

namespace Jvm.Pilot.@@N@@
open Jvm Jvm.ClassFile Sem Op Lib Jvm.Free Jvm.Stand Jvm.LawKit Jvm.RoadKit Bundle Jvm.Pilot.@@N@@.Jvm.D
/-! own kit: the walk's goal carried forward, arrays as functions -/
def own_Fin (below : List Frame) (s : State) (Q : Option Value → Heap → List Loc → Prop) (k n : Nat) (t : State) : Prop :=
  ∃ o, t.status = .running ∧ Ended t below o ∧ ∃ v L, o = .returned v ∧ Q v t.heap L ∧ FrameEnd s o t L k n
def own_Go (tb : Tables) (e : Env) (below : List Frame) (S : State) (P : State → Prop) : Prop := ∃ t, Steps tb e below S t ∧ P t
theorem own_by {tb : Tables} {e : Env} {below : List Frame} {S S' : State} {P : State → Prop} (k : ∀ t, Steps tb e below S' t → Steps tb e below S t) (h : own_Go tb e below S' P) : own_Go tb e below S P := by
  obtain ⟨t, a, b⟩ := h
  exact ⟨t, k t a, b⟩
theorem own_tr {tb : Tables} {e : Env} {below : List Frame} {S S' : State} {P : State → Prop} (k : Steps tb e below S S') (h : own_Go tb e below S' P) : own_Go tb e below S P := by
  obtain ⟨t, a, b⟩ := h
  exact ⟨t, k.trans a, b⟩
theorem own_out {tb : Tables} {e : Env} {below : List Frame} {S s : State} {Q : Option Value → Heap → List Loc → Prop} {k n : Nat} (h : own_Go tb e below S (own_Fin below s Q k n)) :
    ∃ s₂ o, Steps tb e below S s₂ ∧ s₂.status = .running ∧ Ended s₂ below o ∧ ∃ v L, o = .returned v ∧ Q v s₂.heap L ∧ FrameEnd s o s₂ L k n := by
  obtain ⟨t, a, o, b, c, d⟩ := h
  exact ⟨t, o, a, b, c, d⟩
theorem own_cast {tb : Tables} {e : Env} {below : List Frame} {T : State} {g g' : JFrame} {P : State → Prop} (q : g = g') (h : own_Go tb e below (T.setTop g') P) : own_Go tb e below (T.setTop g) P := q ▸ h
section OwnEnd
variable {p : Program} {l : Launch} {e : Env} {R : Room} {s : State} {m : MethodId} {args : Array Value} {below : List Frame} {meth : Method} {c : Code} {T : State} {locs : List Loc} {cells slots : Nat} {Q : Option Value → Heap → List Loc → Prop} {k n : Nat}
theorem own_ret (X : Stand p l e R s m args below meth c T locs cells slots) (hx : p.tables.exec = Jvm.exec) (hlocks : meth.locks = false) {pc : Nat} {Ls : Array Slot} {w : Value} {t : FieldType} {i : Instr} {rest : List Value} (hret : meth.sig.returnType = some t) (hn : narrow t w = w)
    (hi : (i = .ireturn ∧ (t = .int ∨ t = .boolean ∨ t = .byte ∨ t = .char ∨ t = .short) ∧ ∃ z, w = .int z) ∨ (i = .lreturn ∧ t = .long ∧ ∃ z, w = .long z) ∨ (i = .dreturn ∧ t = .double ∧ ∃ z, w = .double z) ∨ (i = .freturn ∧ t = .float ∧ ∃ z, w = .float z) ∨ (i = .areturn ∧ t.isReference = true ∧ w.isRef = true))
    (hd : decode c.code pc = .ok (i, 1)) (hQ : Q (some w) T.heap locs) (h1 : cells ≤ k) (h2 : slots ≤ n) :
    own_Go p.tables e below (T.setTop (mkF m pc Ls (w :: rest))) (own_Fin below s Q k n) := by
  obtain ⟨fs, hr, hrun, hended, hW, hsame⟩ := X.leave (v := some w) (fun h => by rw [hret] at h; cases h) hlocks
  exact ⟨_, retOut X hx hret hn hi hd hr, _, hrun, hended, _, _, rfl, hQ, ⟨_, rfl⟩, hW, hsame.mono h1 h2⟩
theorem own_retI (X : Stand p l e R s m args below meth c T locs cells slots) (hx : p.tables.exec = Jvm.exec) (hlocks : meth.locks = false) {pc : Nat} {Ls : Array Slot} {z : Int32} {rest : List Value} (hret : meth.sig.returnType = some .int)
    (hd : decode c.code pc = .ok (.ireturn, 1)) (hQ : Q (some (.int z)) T.heap locs) (h1 : cells ≤ k) (h2 : slots ≤ n) :
    own_Go p.tables e below (T.setTop (mkF m pc Ls (.int z :: rest))) (own_Fin below s Q k n) :=
  own_ret X hx hlocks hret rfl (Or.inl ⟨rfl, Or.inl rfl, _, rfl⟩) hd hQ h1 h2
theorem own_retJ (X : Stand p l e R s m args below meth c T locs cells slots) (hx : p.tables.exec = Jvm.exec) (hlocks : meth.locks = false) {pc : Nat} {Ls : Array Slot} {z : Int64} {rest : List Value} (hret : meth.sig.returnType = some .long)
    (hd : decode c.code pc = .ok (.lreturn, 1)) (hQ : Q (some (.long z)) T.heap locs) (h1 : cells ≤ k) (h2 : slots ≤ n) :
    own_Go p.tables e below (T.setTop (mkF m pc Ls (.long z :: rest))) (own_Fin below s Q k n) :=
  own_ret X hx hlocks hret rfl (Or.inr (Or.inl ⟨rfl, rfl, _, rfl⟩)) hd hQ h1 h2
theorem own_retA (X : Stand p l e R s m args below meth c T locs cells slots) (hx : p.tables.exec = Jvm.exec) (hlocks : meth.locks = false) {pc : Nat} {Ls : Array Slot} {w : Value} {t : FieldType} {rest : List Value} (hret : meth.sig.returnType = some t) (ht : t.isReference = true) (hw : w.isRef = true) (hn : narrow t w = w)
    (hd : decode c.code pc = .ok (.areturn, 1)) (hQ : Q (some w) T.heap locs) (h1 : cells ≤ k) (h2 : slots ≤ n) :
    own_Go p.tables e below (T.setTop (mkF m pc Ls (w :: rest))) (own_Fin below s Q k n) :=
  own_ret X hx hlocks hret hn (Or.inr (Or.inr (Or.inr (Or.inr ⟨rfl, ht, hw⟩)))) hd hQ h1 h2
theorem own_retN (X : Stand p l e R s m args below meth c T locs cells slots) (hx : p.tables.exec = Jvm.exec) (hlocks : meth.locks = false) {pc : Nat} {Ls : Array Slot} {z : Int32} {t : FieldType} {rest : List Value} (hret : meth.sig.returnType = some t) (ht : t = .boolean ∨ t = .byte ∨ t = .char ∨ t = .short) (hn : nar t z = z)
    (hd : decode c.code pc = .ok (.ireturn, 1)) (hQ : Q (some (.int z)) T.heap locs) (h1 : cells ≤ k) (h2 : slots ≤ n) :
    own_Go p.tables e below (T.setTop (mkF m pc Ls (.int z :: rest))) (own_Fin below s Q k n) := by
  obtain ⟨fs, hr, hrun, hended, hW, hsame⟩ := X.leave (v := some (.int (nar t z))) (fun h => by rw [hret] at h; cases h) hlocks
  exact ⟨_, retN X hx hret ht hd hr, _, hrun, hended, _, _, rfl, (by rw [hn]; exact hQ), ⟨_, rfl⟩, hW, hsame.mono h1 h2⟩
theorem own_retV (X : Stand p l e R s m args below meth c T locs cells slots) (hx : p.tables.exec = Jvm.exec) (hlocks : meth.locks = false) {pc : Nat} {Ls : Array Slot} (hret : meth.sig.returnType = none)
    (hd : decode c.code pc = .ok (.return_, 1)) (hQ : Q none T.heap locs) (h1 : cells ≤ k) (h2 : slots ≤ n) :
    own_Go p.tables e below (T.setTop (mkF m pc Ls [])) (own_Fin below s Q k n) := by
  obtain ⟨fs, hr, hrun, hended, hW, hsame⟩ := X.leave (v := none) (fun _ => rfl) hlocks
  exact ⟨_, X.returnOut hx hret hd hr, _, hrun, hended, _, _, rfl, hQ, ⟨_, rfl⟩, hW, hsame.mono h1 h2⟩
end OwnEnd
/-- one place of a function changed -/
def own_upd {α : Type} (f : Nat → α) (k : Nat) (x : α) : Nat → α := fun i => if i = k then x else f i
theorem own_upd_at {α : Type} (f : Nat → α) (k : Nat) (x : α) : own_upd f k x k = x := by simp [own_upd]
theorem own_upd_ne {α : Type} (f : Nat → α) {k i : Nat} (x : α) (h : i ≠ k) : own_upd f k x i = f i := by simp [own_upd, h]
/-- an array: its length, and what each place holds -/
def own_AF (Z : State) (h : Heap) (a : Addr) (ty : FieldType) (n : Nat) (f : Nat → Value) : Prop := ∃ c : Cell, Arr Z h a c ty ∧ c.slots.size = n ∧ ∀ i, i < n → c.slots[i]? = some (f i)
def own_AI (Z : State) (h : Heap) (a : Addr) (ty : FieldType) (n : Nat) (b : Nat → Int32) : Prop := own_AF Z h a ty n (fun i => .int (b i))
def own_AJ (Z : State) (h : Heap) (a : Addr) (n : Nat) (b : Nat → Int64) : Prop := own_AF Z h a .long n (fun i => .long (b i))
section OwnArr
variable {Z : State} {h h' : Heap} {a b : Addr} {ty : FieldType} {n : Nat} {f : Nat → Value} {ws : List Addr} {sl : Nat} {v : Value} {bi : Nat → Int32} {bj : Nat → Int64}
theorem own_AF.lt (F : own_AF Z h a ty n f) : a < h.size := by obtain ⟨c, A, -⟩ := F; exact A.lt
theorem own_AF.ext (F : own_AF Z h a ty n f) (E : Ext h h') : own_AF Z h' a ty n f := by obtain ⟨c, A, r⟩ := F; exact ⟨c, A.ext E, r⟩
theorem own_AF.other (F : own_AF Z h b ty n f) (W : Wr h h' a sl v) (q : b ≠ a) : own_AF Z h' b ty n f := by obtain ⟨c, A, r⟩ := F; exact ⟨c, A.other W q, r⟩
theorem own_AF.keep (F : own_AF Z h a ty n f) (K : Keep h h' ws) (q : a ∉ ws) : own_AF Z h' a ty n f := by obtain ⟨c, A, r⟩ := F; exact ⟨c, ⟨K.2.1 a c A.1 q, A.2⟩, r⟩
theorem own_AF.congr (F : own_AF Z h a ty n f) {f' : Nat → Value} (q : ∀ i, i < n → f i = f' i) : own_AF Z h a ty n f' := by obtain ⟨c, A, S, r⟩ := F; exact ⟨c, A, S, fun i hi => by rw [← q i hi]; exact r i hi⟩
theorem own_AF.new {k : ClassId} {z : Int32} (A : Arr Z h a (newA k ty z) ty) (hz : z.toNatClampNeg = n) : own_AF Z h a ty n (fun _ => defaultValue ty) := by
  subst hz
  exact ⟨_, A, sz_new _ _ _, fun i hi => by simp [newA, hi]⟩
theorem own_AF.st (F : own_AF Z h a ty n f) (W : Wr h h' a sl v) : own_AF Z h' a ty n (own_upd f sl v) := by
  obtain ⟨c, A, S, r⟩ := F
  refine ⟨_, A.same W, by rw [sz_set]; exact S, fun i hi => ?_⟩
  by_cases u : i = sl
  · subst u; rw [own_upd_at]; simp [Cell.setSlot, S, hi]
  · rw [own_upd_ne _ _ u]
    simp only [Cell.setSlot]
    rw [Array.getElem?_setIfInBounds_ne (fun q => u q.symm)]; exact r i hi
theorem own_AI.st {x : Int32} (F : own_AI Z h a ty n bi) (W : Wr h h' a sl (.int x)) : own_AI Z h' a ty n (own_upd bi sl x) :=
  (own_AF.st F W).congr fun i _ => by by_cases u : i = sl <;> simp [own_upd, u]
theorem own_AJ.st {x : Int64} (F : own_AJ Z h a n bj) (W : Wr h h' a sl (.long x)) : own_AJ Z h' a n (own_upd bj sl x) :=
  (own_AF.st F W).congr fun i _ => by by_cases u : i = sl <;> simp [own_upd, u]
theorem own_AI.lt (F : own_AI Z h a ty n bi) : a < h.size := own_AF.lt F
theorem own_AI.ext (F : own_AI Z h a ty n bi) (E : Ext h h') : own_AI Z h' a ty n bi := own_AF.ext F E
theorem own_AI.other (F : own_AI Z h b ty n bi) (W : Wr h h' a sl v) (q : b ≠ a) : own_AI Z h' b ty n bi := own_AF.other F W q
theorem own_AI.keep (F : own_AI Z h a ty n bi) (K : Keep h h' ws) (q : a ∉ ws) : own_AI Z h' a ty n bi := own_AF.keep F K q
theorem own_AI.congr (F : own_AI Z h a ty n bi) {b' : Nat → Int32} (q : ∀ i, i < n → bi i = b' i) : own_AI Z h a ty n b' := own_AF.congr F fun i hi => by rw [q i hi]
theorem own_AJ.lt (F : own_AJ Z h a n bj) : a < h.size := own_AF.lt F
theorem own_AJ.ext (F : own_AJ Z h a n bj) (E : Ext h h') : own_AJ Z h' a n bj := own_AF.ext F E
theorem own_AJ.other (F : own_AJ Z h b n bj) (W : Wr h h' a sl v) (q : b ≠ a) : own_AJ Z h' b n bj := own_AF.other F W q
theorem own_AJ.keep (F : own_AJ Z h a n bj) (K : Keep h h' ws) (q : a ∉ ws) : own_AJ Z h' a n bj := own_AF.keep F K q
theorem own_AJ.congr (F : own_AJ Z h a n bj) {b' : Nat → Int64} (q : ∀ i, i < n → bj i = b' i) : own_AJ Z h a n b' := own_AF.congr F fun i hi => by rw [q i hi]
variable {p : Program} {l : Launch} {e : Env} {R : Room} {s : State} {m : MethodId} {args : Array Value} {below : List Frame} {meth : Method} {c : Code} {T : State} {locs : List Loc} {cells slots : Nat} {j : Int32} {k : Nat} {g : JFrame} {rest : List Value}
theorem own_in {cl : Cell} (S : cl.slots.size = n) (h0 : ¬ j < 0) (hk : j.toNatClampNeg = k) (hlt : k < n) : ¬ (j < 0 ∨ cl.slots.size ≤ j.toNatClampNeg) := by
  rintro (q | q)
  · exact h0 q
  · rw [S, hk] at q; omega
theorem own_ldB (X : Stand p l e R s m args below meth c T locs cells slots) (hx : p.tables.exec = Jvm.exec) (hZ : Z.Warmed39 s.vm) (eT : T.heap = h) (A : own_AI Z h a .byte n bi) (h0 : ¬ j < 0) (hk : j.toNatClampNeg = k) (hlt : k < n) (hg : g.method = m) (hs : g.stack = .int j :: .ref a :: rest) (hd : decode c.code g.pc = .ok (.baload, 1)) :
    ∀ target, Steps p.tables e below (T.setTop { g with pc := g.pc + 1, stack := .int (bi k) :: rest }) target → Steps p.tables e below (T.setTop g) target := by
  obtain ⟨cl, Ar, S, H⟩ := A
  exact X.baloadBytes hx (v := .int (bi k)) (by rw [eT]; exact Ar.1) (State.isArrayOf_alike hZ.alike Ar.2.1) Ar.2.2 (own_in S h0 hk hlt) (by rw [hk]; exact H k hlt) hg hs hd
theorem own_ldI (X : Stand p l e R s m args below meth c T locs cells slots) (hx : p.tables.exec = Jvm.exec) (hZ : Z.Warmed39 s.vm) (eT : T.heap = h) (A : own_AI Z h a .int n bi) (h0 : ¬ j < 0) (hk : j.toNatClampNeg = k) (hlt : k < n) (hg : g.method = m) (hs : g.stack = .int j :: .ref a :: rest) (hd : decode c.code g.pc = .ok (.iaload, 1)) :
    ∀ target, Steps p.tables e below (T.setTop { g with pc := g.pc + 1, stack := .int (bi k) :: rest }) target → Steps p.tables e below (T.setTop g) target := by
  obtain ⟨cl, Ar, S, H⟩ := A
  exact X.iaload hx (v := .int (bi k)) (by rw [eT]; exact Ar.1) (State.isArrayOf_alike hZ.alike Ar.2.1) Ar.2.2 (own_in S h0 hk hlt) (by rw [hk]; exact H k hlt) hg hs hd
theorem own_ldJ (X : Stand p l e R s m args below meth c T locs cells slots) (hx : p.tables.exec = Jvm.exec) (hZ : Z.Warmed39 s.vm) (eT : T.heap = h) (A : own_AJ Z h a n bj) (h0 : ¬ j < 0) (hk : j.toNatClampNeg = k) (hlt : k < n) (hg : g.method = m) (hs : g.stack = .int j :: .ref a :: rest) (hd : decode c.code g.pc = .ok (.laload, 1)) :
    ∀ target, Steps p.tables e below (T.setTop { g with pc := g.pc + 1, stack := .long (bj k) :: rest }) target → Steps p.tables e below (T.setTop g) target := by
  obtain ⟨cl, Ar, S, H⟩ := A
  exact X.laload hx (v := .long (bj k)) (by rw [eT]; exact Ar.1) (State.isArrayOf_alike hZ.alike Ar.2.1) Ar.2.2 (own_in S h0 hk hlt) (by rw [hk]; exact H k hlt) hg hs hd
theorem own_len (X : Stand p l e R s m args below meth c T locs cells slots) (hx : p.tables.exec = Jvm.exec) (hZ : Z.Warmed39 s.vm) (eT : T.heap = h) (A : own_AF Z h a ty n f) {z : Int32} (hz : n.toInt32 = z) (hg : g.method = m) (hs : g.stack = .ref a :: rest) (hd : decode c.code g.pc = .ok (.arraylength, 1)) :
    ∀ target, Steps p.tables e below (T.setTop { g with pc := g.pc + 1, stack := .int z :: rest }) target → Steps p.tables e below (T.setTop g) target := by
  obtain ⟨cl, Ar, S, H⟩ := A
  intro t hr
  refine X.arraylength hx (by rw [eT]; exact Ar.1) (State.isArrayOf_alike hZ.alike Ar.2.1) hg hs hd t ?_
  rw [S, hz]; exact hr
theorem own_stB (X : Stand p l e R s m args below meth c T locs cells slots) (hx : p.tables.exec = Jvm.exec) (hZ : Z.Warmed39 s.vm) (eT : T.heap = h) (A : own_AI Z h a .byte n bi) {x : Int32} (h0 : ¬ j < 0) (hk : j.toNatClampNeg = k) (hlt : k < n) (hg : g.method = m) (hs : g.stack = .int x :: .int j :: .ref a :: rest) (hd : decode c.code g.pc = .ok (.bastore, 1)) :
    ∃ T' h', Stand p l e R s m args below meth c T' (locs ++ [⟨a, k⟩]) cells slots ∧ T'.heap = h' ∧ Wr h h' a k (.int (x.toInt8.toInt32)) ∧ own_AI Z h' a .byte n (own_upd bi k (x.toInt8.toInt32)) ∧ ∀ target, Steps p.tables e below (T'.setTop { g with pc := g.pc + 1, stack := rest }) target → Steps p.tables e below (T.setTop g) target := by
  obtain ⟨cl, Ar, S, H⟩ := id A
  obtain ⟨T', h', X', e', W, st⟩ := stB X hx hZ eT Ar (own_in S h0 hk hlt) hg hs hd
  rw [hk] at X' W
  exact ⟨T', h', X', e', W, A.st W, st⟩
theorem own_stI (X : Stand p l e R s m args below meth c T locs cells slots) (hx : p.tables.exec = Jvm.exec) (hZ : Z.Warmed39 s.vm) (eT : T.heap = h) (A : own_AI Z h a .int n bi) {x : Int32} (h0 : ¬ j < 0) (hk : j.toNatClampNeg = k) (hlt : k < n) (hg : g.method = m) (hs : g.stack = .int x :: .int j :: .ref a :: rest) (hd : decode c.code g.pc = .ok (.iastore, 1)) :
    ∃ T' h', Stand p l e R s m args below meth c T' (locs ++ [⟨a, k⟩]) cells slots ∧ T'.heap = h' ∧ Wr h h' a k (.int x) ∧ own_AI Z h' a .int n (own_upd bi k x) ∧ ∀ target, Steps p.tables e below (T'.setTop { g with pc := g.pc + 1, stack := rest }) target → Steps p.tables e below (T.setTop g) target := by
  obtain ⟨cl, Ar, S, H⟩ := id A
  obtain ⟨T', h', X', e', W, st⟩ := stI X hx hZ eT Ar (own_in S h0 hk hlt) hg hs hd
  rw [hk] at X' W
  exact ⟨T', h', X', e', W, A.st W, st⟩
theorem own_stJ (X : Stand p l e R s m args below meth c T locs cells slots) (hx : p.tables.exec = Jvm.exec) (hZ : Z.Warmed39 s.vm) (eT : T.heap = h) (A : own_AJ Z h a n bj) {x : Int64} (h0 : ¬ j < 0) (hk : j.toNatClampNeg = k) (hlt : k < n) (hg : g.method = m) (hs : g.stack = .long x :: .int j :: .ref a :: rest) (hd : decode c.code g.pc = .ok (.lastore, 1)) :
    ∃ T' h', Stand p l e R s m args below meth c T' (locs ++ [⟨a, k⟩]) cells slots ∧ T'.heap = h' ∧ Wr h h' a k (.long x) ∧ own_AJ Z h' a n (own_upd bj k x) ∧ ∀ target, Steps p.tables e below (T'.setTop { g with pc := g.pc + 1, stack := rest }) target → Steps p.tables e below (T.setTop g) target := by
  obtain ⟨cl, Ar, S, H⟩ := id A
  obtain ⟨T', h', X', e', W, st⟩ := stJ X hx hZ eT Ar (own_in S h0 hk hlt) hg hs hd
  rw [hk] at X' W
  exact ⟨T', h', X', e', W, A.st W, st⟩
end OwnArr
/-- what a body leaves that returns an int (a long) and writes nothing -/
def own_QI (h0 : Heap) (n0 : Nat) (f : Int32) (v : Option Value) (h : Heap) (L : List Loc) : Prop := ∃ r : Int32, v = some (.int r) ∧ Fr n0 L ∧ h = h0 ∧ r = f
def own_QJ (h0 : Heap) (n0 : Nat) (f : Int64) (v : Option Value) (h : Heap) (L : List Loc) : Prop := ∃ r : Int64, v = some (.long r) ∧ Fr n0 L ∧ h = h0 ∧ r = f
theorem own_nb {z : Int32} (h : z = 0 ∨ z = 1) : nar .boolean z = z := by rcases h with rfl | rfl <;> decide
/-! sums, differences and products that don't wrap -/
theorem own_add {x y : Int32} (h1 : -2147483648 ≤ x.toInt + y.toInt) (h2 : x.toInt + y.toInt < 2147483648) : (x + y).toInt = x.toInt + y.toInt := by
  have a := c_iadd x y; have b := (x + y).toInt_lt; have c := (x + y).le_toInt; omega
theorem own_sub' {x y : Int32} (h1 : -2147483648 ≤ x.toInt - y.toInt) (h2 : x.toInt - y.toInt < 2147483648) : (x - y).toInt = x.toInt - y.toInt := by
  have a := c_isub x y; have b := (x - y).toInt_lt; have c := (x - y).le_toInt; omega
theorem own_mul {x y : Int32} {t : Int} (ht : x.toInt * y.toInt = t) (h1 : -2147483648 ≤ t) (h2 : t < 2147483648) : (x * y).toInt = t := by
  have a := c_imul x y; rw [ht] at a; have b := (x * y).toInt_lt; have c := (x * y).le_toInt; omega
theorem own_addL {x y : Int64} (h1 : -9223372036854775808 ≤ x.toInt + y.toInt) (h2 : x.toInt + y.toInt < 9223372036854775808) : (x + y).toInt = x.toInt + y.toInt := by
  have a := c_ladd x y; have b := (x + y).toInt_lt; have c := (x + y).le_toInt; omega
theorem own_subL {x y : Int64} (h1 : -9223372036854775808 ≤ x.toInt - y.toInt) (h2 : x.toInt - y.toInt < 9223372036854775808) : (x - y).toInt = x.toInt - y.toInt := by
  have a := c_lsub x y; have b := (x - y).toInt_lt; have c := (x - y).le_toInt; omega
theorem own_mulL {x y : Int64} {t : Int} (ht : x.toInt * y.toInt = t) (h1 : -9223372036854775808 ≤ t) (h2 : t < 9223372036854775808) : (x * y).toInt = t := by
  have a := c_lmul x y; rw [ht] at a; have b := (x * y).toInt_lt; have c := (x * y).le_toInt; omega
theorem own_nat {n : Nat} (h : n < 1000) : (Int32.ofNat n).toInt = n := Int32.toInt_ofNat_small (by omega)
theorem own_ixN {i : Int32} {j : Nat} (hi : i = Int32.ofNat j) (h : j < 3) : (¬ i < 0) ∧ i.toNatClampNeg = j := by
  have e : i.toInt = j := by rw [hi]; exact own_nat (by omega)
  have z : (0 : Int32).toInt = 0 := by decide
  refine ⟨by rw [Int32.lt_iff_toInt_lt, e, z]; omega, ?_⟩
  show i.toInt.toNat = j
  rw [e]; omega
theorem own_ltN {a b : Nat} (h : a < b) (hb : b < 1000) : Int32.ofNat a < Int32.ofNat b := by
  rw [Int32.lt_iff_toInt_lt, own_nat (by omega), own_nat hb]; omega
theorem own_succN {i : Int32} {j : Nat} (hi : i = Int32.ofNat j) : (i + (1 : Int32)) = Int32.ofNat (j + 1) := by rw [hi]; exact (Int32.ofNat_add j 1).symm
theorem own_updl {f : Nat → Int32} {j : Nat} {x : Int32} (h : ∀ u, u < j → f u = x) : ∀ u, u < j + 1 → own_upd f j x u = x := fun u hu => by
  by_cases q : u = j
  · rw [q, own_upd_at]
  · rw [own_upd_ne _ _ q]; exact h u (by omega)
theorem own_upd1 {f : Nat → Int32} {k : Nat} {x : Int32} (h : ∀ i, f i = -1 ∨ f i = x) : ∀ i, own_upd f k x i = -1 ∨ own_upd f k x i = x := fun i => by
  by_cases q : i = k
  · rw [q, own_upd_at]; exact Or.inr rfl
  · rw [own_upd_ne _ _ q]; exact h i
def own_CK (Z : State) (n0 : Nat) (h : Heap) (a ci kw wf : Addr) (fC fK fW : Nat → Int32) (ct : Int32) : Prop :=
  Exa Z h a "com/example/aprox/aprox/CountedKeywords" ∧ Fld Z h a "com/example/aprox/aprox/CountedKeywords" "countedIn" "[I" (.ref ci) ∧ Fld Z h a "com/example/aprox/aprox/CountedKeywords" "keywords" "[I" (.ref kw) ∧ Fld Z h a "com/example/aprox/aprox/CountedKeywords" "wholeFields" "[I" (.ref wf) ∧ Fld Z h a "com/example/aprox/aprox/CountedKeywords" "count" "I" (.int ct) ∧ Fld Z h a "com/example/aprox/aprox/CountedKeywords" "oneByOneCount" "I" (.int (0 : Int32)) ∧
  own_AI Z h ci .int 3 fC ∧ own_AI Z h kw .int 3 fK ∧ own_AI Z h wf .int 3 fW ∧ n0 ≤ a ∧ n0 ≤ ci ∧ n0 ≤ kw ∧ n0 ≤ wf ∧ a ≠ ci ∧ a ≠ kw ∧ a ≠ wf ∧ ci ≠ kw ∧ ci ≠ wf ∧ kw ≠ wf
theorem own_k3 {y k : Int32} (h : k = ((y &&& (255 : Int32)) % (3 : Int32))) : ∃ n : Nat, n < 3 ∧ k = Int32.ofNat n := by
  have m := c_mask y 255 8 (by decide) (by decide)
  have r := (c_irem (y &&& 255) 3 3 (by decide)).1 (by rw [m]; omega)
  rw [← h] at r
  refine ⟨k.toInt.toNat, by omega, ?_⟩
  apply Int32.toInt_inj.mp
  rw [own_nat (by omega)]; omega
def own_DD (d1 d2 : Int32) : Prop := 0 ≤ d1.toInt ∧ d1.toInt < d2.toInt
theorem own_dd {docs : Int64} {d1 d2 : Int32} (h1 : d1 = ((docs &&& (1073741823 : Int64)).toInt32)) (h2 : d2 = ((d1 + (1 : Int32)) + ((((docs.toUInt64 >>> ((32 : Int32) &&& 0x3f).toInt64.toUInt64).toInt64) &&& (1073741823 : Int64)).toInt32))) : own_DD d1 d2 := by
  have m1 := c_maskL docs 1073741823 30 (by decide) (by decide)
  have m2 := c_maskL ((docs.toUInt64 >>> ((32 : Int32) &&& 0x3f).toInt64.toUInt64).toInt64) 1073741823 30 (by decide) (by decide)
  have t1 := c_l2i (docs &&& 1073741823)
  have t2 := c_l2i (((docs.toUInt64 >>> ((32 : Int32) &&& 0x3f).toInt64.toUInt64).toInt64) &&& 1073741823)
  rw [← h1] at t1
  generalize ((((docs.toUInt64 >>> ((32 : Int32) &&& 0x3f).toInt64.toUInt64).toInt64) &&& (1073741823 : Int64)).toInt32) = u at *
  have a1 := c_iadd d1 1; rw [show (1 : Int32).toInt = 1 by decide] at a1
  have a2 := c_iadd (d1 + 1) u; rw [← h2] at a2
  have b1 := d1.toInt_lt; have b2 := d1.le_toInt; have b3 := d2.toInt_lt; have b4 := d2.le_toInt; have b5 := u.toInt_lt; have b6 := u.le_toInt
  have b7 := (d1 + 1).toInt_lt; have b8 := (d1 + 1).le_toInt
  constructor <;> omega
theorem own_m1 {d1 d2 : Int32} (h : own_DD d1 d2) (q : (-1 : Int32) = d1) : False := by
  have e : (-1 : Int32).toInt = -1 := by decide
  rw [q] at e; have := h.1; omega
theorem own_m2 {d1 d2 x : Int32} (h : own_DD d1 d2) (hx : x = -1 ∨ x = d1) (q : x = d2) : False := by
  have e : (-1 : Int32).toInt = -1 := by decide
  obtain ⟨p1, p2⟩ := h
  rcases hx with rfl | rfl
  · rw [q] at e; omega
  · rw [q] at p2; omega
theorem own_nn {k3 k4 : Int32} {n3 n4 : Nat} (h3 : k3 = Int32.ofNat n3) (h4 : k4 = Int32.ofNat n4) (b3 : n3 < 3) (b4 : n4 < 3) (h : k3 = k4) : n3 = n4 := by
  have e := congrArg Int32.toInt h
  rw [h3, h4, own_nat (by omega), own_nat (by omega)] at e; omega
theorem d_jdk_65_method_103_0 : decode jdk_65_method_103_code 0 = .ok (.iconst 0, 1) := by decide +kernel
theorem d_jdk_65_method_103_1 : decode jdk_65_method_103_code 1 = .ok (.istore_n 2, 1) := by decide +kernel
theorem d_jdk_65_method_103_2 : decode jdk_65_method_103_code 2 = .ok (.aload_n 0, 1) := by decide +kernel
theorem d_jdk_65_method_103_3 : decode jdk_65_method_103_code 3 = .ok (.arraylength, 1) := by decide +kernel
theorem d_jdk_65_method_103_4 : decode jdk_65_method_103_code 4 = .ok (.istore_n 3, 1) := by decide +kernel
theorem d_jdk_65_method_103_5 : decode jdk_65_method_103_code 5 = .ok (.iload_n 2, 1) := by decide +kernel
theorem d_jdk_65_method_103_6 : decode jdk_65_method_103_code 6 = .ok (.iload_n 3, 1) := by decide +kernel
theorem d_jdk_65_method_103_7 : decode jdk_65_method_103_code 7 = .ok (.if_icmp .ge 13, 3) := by decide +kernel
theorem d_jdk_65_method_103_20 : decode jdk_65_method_103_code 20 = .ok (.return_, 1) := by decide +kernel
theorem d_jdk_65_method_103_10 : decode jdk_65_method_103_code 10 = .ok (.aload_n 0, 1) := by decide +kernel
theorem d_jdk_65_method_103_11 : decode jdk_65_method_103_code 11 = .ok (.iload_n 2, 1) := by decide +kernel
theorem d_jdk_65_method_103_12 : decode jdk_65_method_103_code 12 = .ok (.iload_n 1, 1) := by decide +kernel
theorem d_jdk_65_method_103_13 : decode jdk_65_method_103_code 13 = .ok (.iastore, 1) := by decide +kernel
theorem d_jdk_65_method_103_14 : decode jdk_65_method_103_code 14 = .ok (.iinc 2 1, 3) := by decide +kernel
theorem d_jdk_65_method_103_17 : decode jdk_65_method_103_code 17 = .ok (.goto (-12), 3) := by decide +kernel
def Q_rm_fill (Z : State) (a : Addr) (x : Int32) (f0 : Nat → Int32) (h0 : Heap) (n0 : Nat) (v : Option Value) (h : Heap) (L : List Loc) : Prop := v = none ∧ Fr n0 L ∧ Keep h0 h [a] ∧ own_AI Z h a .int 3 (fun _ => x)
theorem ef_rm_fill (m : MethodId) (a : Addr) (x : Int32) : entryFrame m #[(.ref a), (.int x)] 4 = mkF m 0 #[.val (.ref a), .val (.int x), .unset, .unset] [] := by first | (simp [entryFrame, mkF, argsToLocals, Value.category]; done) | rfl
theorem pn_15 : plainName "java/util/Arrays" = true := by first | (simp [plainName, overriddenIn]; done) | decide +kernel
set_option maxRecDepth 65536 in
set_option maxHeartbeats 40000000 in
theorem rm_fill (l : Launch) (Z : State) (a0 : Array Value) (hw : ∀ d ∈ tables_1, d.before a0 Z = true) (ws : List Jvm.Cond) (a : Addr) (x : Int32) (f0 : Nat → Int32) (h0 : Heap) (n0 : Nat) (Z0 : n0 ≤ h0.size) (A_a : own_AI Z h0 a .int 3 f0) (g_a : n0 ≤ a) :
    MetFree l (⟨"java/util/Arrays", "fill", "([II)V"⟩ : MethodName) (head1 (Jvm.Cond.code (⟨"java/util/Arrays", "fill", "([II)V"⟩ : MethodName) jdk_65_method_103_code 4 none :: ws) ({ frames := 0, cells := 0, slots := 0, locals := 0 } : Room)) (fun zA zU => zA = #[(.ref a), (.int x)] ∧ Z.Warmed39 zU.vm ∧ zU.heap = h0) (fun _ _ _ _ _ => True) (fun _ zU zo zW => ∃ zv zL, zo = .returned zv ∧ (Q_rm_fill Z a x f0 h0 n0) zv zW.heap zL ∧ FrameEnd zU zo zW zL ({ frames := 0, cells := 0, slots := 0, locals := 0 } : Room).cells ({ frames := 0, cells := 0, slots := 0, locals := 0 } : Room).slots) := by
  refine MetFree.of_bodySF (plainFor_of_name pn_15) hisR ?_
  intro p e s m args below meth c s₁ Bd hml0 hP hK
  obtain ⟨rfl, hZ, hh⟩ := hP
  have hx := Bd.exec
  have hby := Bd.bytes
  have hml : c.maxLocals = 4 := hml0
  have hown : s.vm.findClass "java/util/Arrays" = some m.cls := findClass_of_methodNamed Bd.named
  have hnm := (name_of_methodNamed Bd.named Bd.method).1
  have X0 : Stand p l e ({ frames := 0, cells := 0, slots := 0, locals := 0 } : Room) s m #[(.ref a), (.int x)] below meth c s₁ [] 0 0 := Stand.of_body Bd
  have e0 : s₁.heap = h0 := by rw [← hh, Bd.state]; rfl
  have N0 := Fr.nil n0
  refine own_out (Q := Q_rm_fill Z a x f0 h0 n0) ?_
  refine own_cast (ef_rm_fill m a x) ?_
  show own_Go p.tables e below (s₁.setTop (mkF m 0 #[.val (.ref a), .val (.int x), .unset, .unset] [])) _
  refine own_by (fun zt zk => XS.iconst X0.here hx rfl (hb hby d_jdk_65_method_103_0) zk) ?_
  show own_Go p.tables e below (s₁.setTop (mkF m 1 #[.val (.ref a), .val (.int x), .unset, .unset] [(.int (0 : Int32))])) _
  refine own_by (fun zt zk => XS.istoreN X0.here hx rfl (hb hby d_jdk_65_method_103_1) rfl (l' := #[.val (.ref a), .val (.int x), .val (.int (0 : Int32)), .unset]) rfl zk) ?_
  show own_Go p.tables e below (s₁.setTop (mkF m 2 #[.val (.ref a), .val (.int x), .val (.int (0 : Int32)), .unset] [])) _
  refine own_by (fun zt zk => XS.aloadN X0.here hx rfl (hb hby d_jdk_65_method_103_2) rfl rfl zk) ?_
  show own_Go p.tables e below (s₁.setTop (mkF m 3 #[.val (.ref a), .val (.int x), .val (.int (0 : Int32)), .unset] [(.ref a)])) _
  refine own_by (own_len X0 hx hZ e0 A_a (z := (3 : Int32)) rfl (g := (mkF m 3 #[.val (.ref a), .val (.int x), .val (.int (0 : Int32)), .unset] [(.ref a)])) rfl rfl (hb hby d_jdk_65_method_103_3)) ?_
  show own_Go p.tables e below (s₁.setTop (mkF m 4 #[.val (.ref a), .val (.int x), .val (.int (0 : Int32)), .unset] [(.int (3 : Int32))])) _
  refine own_by (fun zt zk => XS.istoreN X0.here hx rfl (hb hby d_jdk_65_method_103_4) rfl (l' := #[.val (.ref a), .val (.int x), .val (.int (0 : Int32)), .val (.int (3 : Int32))]) rfl zk) ?_
  show own_Go p.tables e below (s₁.setTop (mkF m 5 #[.val (.ref a), .val (.int x), .val (.int (0 : Int32)), .val (.int (3 : Int32))] [])) _
  have loop : ∀ (k j : Nat) (i : Int32) (f : Nat → Int32) (T : State) (h : Heap) (locs : List Loc), j + k = 3 ∧ i = Int32.ofNat j ∧ (∀ u, u < j → f u = x) → Stand p l e ({ frames := 0, cells := 0, slots := 0, locals := 0 } : Room) s m #[(.ref a), (.int x)] below meth c T locs 0 0 → T.heap = h → Fr n0 locs → Keep h0 h [a] → own_AI Z h a .int 3 f →  own_Go p.tables e below (T.setTop (mkF m 5 #[.val (.ref a), .val (.int x), .val (.int i), .val (.int (3 : Int32))] [])) (own_Fin below s (Q_rm_fill Z a x f0 h0 n0) ({ frames := 0, cells := 0, slots := 0, locals := 0 } : Room).cells ({ frames := 0, cells := 0, slots := 0, locals := 0 } : Room).slots) := by
    intro k
    induction k with
    | zero =>
      intro j i f T h locs ⟨hj, hi, hf⟩ X eT NF KK A
      have hge : ¬ i < (3 : Int32) := by rw [hi, show j = 3 by omega]; decide
      refine own_by (fun zt zk => XS.iloadN X.here hx rfl (hb hby d_jdk_65_method_103_5) rfl zk) ?_
      show own_Go p.tables e below (T.setTop (mkF m 6 #[.val (.ref a), .val (.int x), .val (.int i), .val (.int (3 : Int32))] [(.int i)])) _
      refine own_by (fun zt zk => XS.iloadN X.here hx rfl (hb hby d_jdk_65_method_103_6) rfl zk) ?_
      show own_Go p.tables e below (T.setTop (mkF m 7 #[.val (.ref a), .val (.int x), .val (.int i), .val (.int (3 : Int32))] [(.int (3 : Int32)), (.int i)])) _
      refine own_by (fun zt zk => XS.icmpYes X.here hx rfl (pc0 := 7) (pc' := 20) rfl (hb hby d_jdk_65_method_103_7) rfl (flt hge).2.1 (by decide) (by decide) zk) ?_
      show own_Go p.tables e below (T.setTop (mkF m 20 #[.val (.ref a), .val (.int x), .val (.int i), .val (.int (3 : Int32))] [])) _
      exact own_retV X hx Bd.notSynchronized Bd.returns (hb hby d_jdk_65_method_103_20) (by (try rw [eT]); exact ⟨rfl, NF, KK, A.congr fun u hu => hf u (by omega)⟩) (by decide) (by decide)
    | succ k ih =>
      intro j i f T h locs ⟨hj, hi, hf⟩ X eT NF KK A
      have hlt : i < (3 : Int32) := by rw [hi]; exact own_ltN (b := 3) (by omega) (by decide)
      obtain ⟨i0, ik⟩ := own_ixN hi (show j < 3 by omega)
      refine own_by (fun zt zk => XS.iloadN X.here hx rfl (hb hby d_jdk_65_method_103_5) rfl zk) ?_
      show own_Go p.tables e below (T.setTop (mkF m 6 #[.val (.ref a), .val (.int x), .val (.int i), .val (.int (3 : Int32))] [(.int i)])) _
      refine own_by (fun zt zk => XS.iloadN X.here hx rfl (hb hby d_jdk_65_method_103_6) rfl zk) ?_
      show own_Go p.tables e below (T.setTop (mkF m 7 #[.val (.ref a), .val (.int x), .val (.int i), .val (.int (3 : Int32))] [(.int (3 : Int32)), (.int i)])) _
      refine own_by (fun zt zk => XS.icmpNo X.here hx rfl (hb hby d_jdk_65_method_103_7) rfl (tlt hlt).2.1 zk) ?_
      show own_Go p.tables e below (T.setTop (mkF m 10 #[.val (.ref a), .val (.int x), .val (.int i), .val (.int (3 : Int32))] [])) _
      refine own_by (fun zt zk => XS.aloadN X.here hx rfl (hb hby d_jdk_65_method_103_10) rfl rfl zk) ?_
      show own_Go p.tables e below (T.setTop (mkF m 11 #[.val (.ref a), .val (.int x), .val (.int i), .val (.int (3 : Int32))] [(.ref a)])) _
      refine own_by (fun zt zk => XS.iloadN X.here hx rfl (hb hby d_jdk_65_method_103_11) rfl zk) ?_
      show own_Go p.tables e below (T.setTop (mkF m 12 #[.val (.ref a), .val (.int x), .val (.int i), .val (.int (3 : Int32))] [(.int i), (.ref a)])) _
      refine own_by (fun zt zk => XS.iloadN X.here hx rfl (hb hby d_jdk_65_method_103_12) rfl zk) ?_
      show own_Go p.tables e below (T.setTop (mkF m 13 #[.val (.ref a), .val (.int x), .val (.int i), .val (.int (3 : Int32))] [(.int x), (.int i), (.ref a)])) _
      obtain ⟨T1, hea1, X1, e1, W1, V1, st1⟩ := own_stI X hx hZ eT A (j := i) (k := j) i0 ik (by omega) (g := (mkF m 13 #[.val (.ref a), .val (.int x), .val (.int i), .val (.int (3 : Int32))] [(.int x), (.int i), (.ref a)])) rfl rfl (hb hby d_jdk_65_method_103_13)
      have N1 := Fr.snoc X1 NF g_a
      have K1 : Keep h0 hea1 [a] := KK.wr W1 (Or.inl (List.mem_of_getElem? (i := 0) rfl))
      refine own_by (st1) ?_
      show own_Go p.tables e below (T1.setTop (mkF m 14 #[.val (.ref a), .val (.int x), .val (.int i), .val (.int (3 : Int32))] [])) _
      refine own_by (fun zt zk => XS.iinc X1.here hx rfl (hb hby d_jdk_65_method_103_14) rfl (l' := #[.val (.ref a), .val (.int x), .val (.int (i + (1 : Int32))), .val (.int (3 : Int32))]) rfl zk) ?_
      show own_Go p.tables e below (T1.setTop (mkF m 17 #[.val (.ref a), .val (.int x), .val (.int (i + (1 : Int32))), .val (.int (3 : Int32))] [])) _
      refine own_by (fun zt zk => XS.goto X1.here hx rfl (pc0 := 17) (pc' := 5) rfl (hb hby d_jdk_65_method_103_17) (by decide) (by decide) zk) ?_
      show own_Go p.tables e below (T1.setTop (mkF m 5 #[.val (.ref a), .val (.int x), .val (.int (i + (1 : Int32))), .val (.int (3 : Int32))] [])) _
      exact ih (j + 1) _ _ _ _ _ ⟨by omega, own_succN hi, own_updl hf⟩ X1 e1 N1 K1 V1
  exact loop 3 0 _ f0 _ _ _ ⟨rfl, rfl, fun u hu => absurd hu (Nat.not_lt_zero u)⟩ X0 e0 N0 (Keep.refl h0 [a]) A_a
theorem d_prog_7_method_1_0 : decode prog_7_method_1_code 0 = .ok (.aload_n 0, 1) := by decide +kernel
theorem d_prog_7_method_1_1 : decode prog_7_method_1_code 1 = .ok (.invokespecial 1, 3) := by decide +kernel
theorem d_prog_7_method_1_4 : decode prog_7_method_1_code 4 = .ok (.aload_n 0, 1) := by decide +kernel
theorem d_prog_7_method_1_5 : decode prog_7_method_1_code 5 = .ok (.iload_n 1, 1) := by decide +kernel
theorem d_prog_7_method_1_6 : decode prog_7_method_1_code 6 = .ok (.newarray .int, 2) := by decide +kernel
theorem d_prog_7_method_1_8 : decode prog_7_method_1_code 8 = .ok (.putfield 7, 3) := by decide +kernel
theorem d_prog_7_method_1_11 : decode prog_7_method_1_code 11 = .ok (.aload_n 0, 1) := by decide +kernel
theorem d_prog_7_method_1_12 : decode prog_7_method_1_code 12 = .ok (.getfield 7, 3) := by decide +kernel
theorem d_prog_7_method_1_15 : decode prog_7_method_1_code 15 = .ok (.iconst (-1), 1) := by decide +kernel
theorem d_prog_7_method_1_16 : decode prog_7_method_1_code 16 = .ok (.invokestatic 13, 3) := by decide +kernel
theorem pd_26 : parseMethodDescriptor "([II)V" = some ⟨[(.array .int), .int], none⟩ := by decide +kernel
theorem d_prog_7_method_1_19 : decode prog_7_method_1_code 19 = .ok (.aload_n 0, 1) := by decide +kernel
theorem d_prog_7_method_1_20 : decode prog_7_method_1_code 20 = .ok (.iload_n 1, 1) := by decide +kernel
theorem d_prog_7_method_1_21 : decode prog_7_method_1_code 21 = .ok (.newarray .int, 2) := by decide +kernel
theorem d_prog_7_method_1_23 : decode prog_7_method_1_code 23 = .ok (.putfield 19, 3) := by decide +kernel
theorem d_prog_7_method_1_26 : decode prog_7_method_1_code 26 = .ok (.aload_n 0, 1) := by decide +kernel
theorem d_prog_7_method_1_27 : decode prog_7_method_1_code 27 = .ok (.iload_n 1, 1) := by decide +kernel
theorem d_prog_7_method_1_28 : decode prog_7_method_1_code 28 = .ok (.newarray .int, 2) := by decide +kernel
theorem d_prog_7_method_1_30 : decode prog_7_method_1_code 30 = .ok (.putfield 22, 3) := by decide +kernel
theorem d_prog_7_method_1_33 : decode prog_7_method_1_code 33 = .ok (.aload_n 0, 1) := by decide +kernel
theorem d_prog_7_method_1_34 : decode prog_7_method_1_code 34 = .ok (.iload_n 1, 1) := by decide +kernel
theorem d_prog_7_method_1_35 : decode prog_7_method_1_code 35 = .ok (.newarray .int, 2) := by decide +kernel
theorem d_prog_7_method_1_37 : decode prog_7_method_1_code 37 = .ok (.putfield 25, 3) := by decide +kernel
theorem d_prog_7_method_1_40 : decode prog_7_method_1_code 40 = .ok (.aload_n 0, 1) := by decide +kernel
theorem d_prog_7_method_1_41 : decode prog_7_method_1_code 41 = .ok (.iload_n 1, 1) := by decide +kernel
theorem d_prog_7_method_1_42 : decode prog_7_method_1_code 42 = .ok (.anewarray 28, 3) := by decide +kernel
theorem d_prog_7_method_1_45 : decode prog_7_method_1_code 45 = .ok (.putfield 30, 3) := by decide +kernel
theorem d_prog_7_method_1_48 : decode prog_7_method_1_code 48 = .ok (.aload_n 0, 1) := by decide +kernel
theorem d_prog_7_method_1_49 : decode prog_7_method_1_code 49 = .ok (.iload_n 1, 1) := by decide +kernel
theorem d_prog_7_method_1_50 : decode prog_7_method_1_code 50 = .ok (.newarray .int, 2) := by decide +kernel
theorem d_prog_7_method_1_52 : decode prog_7_method_1_code 52 = .ok (.putfield 34, 3) := by decide +kernel
theorem d_prog_7_method_1_55 : decode prog_7_method_1_code 55 = .ok (.aload_n 0, 1) := by decide +kernel
theorem d_prog_7_method_1_56 : decode prog_7_method_1_code 56 = .ok (.iload_n 1, 1) := by decide +kernel
theorem d_prog_7_method_1_57 : decode prog_7_method_1_code 57 = .ok (.newarray .int, 2) := by decide +kernel
theorem d_prog_7_method_1_59 : decode prog_7_method_1_code 59 = .ok (.putfield 37, 3) := by decide +kernel
theorem d_prog_7_method_1_62 : decode prog_7_method_1_code 62 = .ok (.return_, 1) := by decide +kernel
def Q_rm_new (Z : State) (a : Addr) (n : Int32) (h0 : Heap) (n0 : Nat) (v : Option Value) (h : Heap) (L : List Loc) : Prop := v = none ∧ Fr n0 L ∧ Keep h0 h [a] ∧ ∃ ci kw wf : Addr, h0.size ≤ ci ∧ h0.size ≤ kw ∧ h0.size ≤ wf ∧ own_CK Z n0 h a ci kw wf (fun _ => (-1 : Int32)) (fun _ => (0 : Int32)) (fun _ => (0 : Int32)) (0 : Int32)
theorem ef_rm_new (m : MethodId) (a : Addr) (n : Int32) : entryFrame m #[(.ref a), (.int n)] 2 = mkF m 0 #[.val (.ref a), .val (.int n)] [] := by first | (simp [entryFrame, mkF, argsToLocals, Value.category]; done) | rfl
theorem pn_52 : plainName "com/example/aprox/aprox/CountedKeywords" = true := by first | (simp [plainName, overriddenIn]; done) | decide +kernel
set_option maxRecDepth 65536 in
set_option maxHeartbeats 40000000 in
theorem rm_new (l : Launch) (Z : State) (a0 : Array Value) (hw : ∀ d ∈ tables_1, d.before a0 Z = true) (ws : List Jvm.Cond) (a : Addr) (n : Int32) (h0 : Heap) (n0 : Nat) (Z0 : n0 ≤ h0.size) (E_a : Exa Z h0 a "com/example/aprox/aprox/CountedKeywords") (g_a : n0 ≤ a) (hn3 : n = (3 : Int32)) (F_countedIn : Fld Z h0 a "com/example/aprox/aprox/CountedKeywords" "countedIn" "[I" .null) (F_keywords : Fld Z h0 a "com/example/aprox/aprox/CountedKeywords" "keywords" "[I" .null) (F_wholeFields : Fld Z h0 a "com/example/aprox/aprox/CountedKeywords" "wholeFields" "[I" .null) (F_someFields : Fld Z h0 a "com/example/aprox/aprox/CountedKeywords" "someFields" "[I" .null) (F_occurrenceBits : Fld Z h0 a "com/example/aprox/aprox/CountedKeywords" "occurrenceBits" "[[J" .null) (F_usedBits : Fld Z h0 a "com/example/aprox/aprox/CountedKeywords" "usedBits" "[I" .null) (F_oneByOne : Fld Z h0 a "com/example/aprox/aprox/CountedKeywords" "oneByOne" "[I" .null) (F_count : Fld Z h0 a "com/example/aprox/aprox/CountedKeywords" "count" "I" (.int (0 : Int32))) (F_oneByOneCount : Fld Z h0 a "com/example/aprox/aprox/CountedKeywords" "oneByOneCount" "I" (.int (0 : Int32))) :
    MetFree l (⟨"com/example/aprox/aprox/CountedKeywords", "<init>", "(I)V"⟩ : MethodName) (head1 (Jvm.Cond.code (⟨"com/example/aprox/aprox/CountedKeywords", "<init>", "(I)V"⟩ : MethodName) prog_7_method_1_code 2 none :: ws) ({ frames := 1, cells := 7, slots := 21, locals := 15 } : Room)) (fun zA zU => zA = #[(.ref a), (.int n)] ∧ Z.Warmed39 zU.vm ∧ zU.heap = h0) (fun _ _ _ _ _ => True) (fun _ zU zo zW => ∃ zv zL, zo = .returned zv ∧ (Q_rm_new Z a n h0 n0) zv zW.heap zL ∧ FrameEnd zU zo zW zL ({ frames := 1, cells := 7, slots := 21, locals := 15 } : Room).cells ({ frames := 1, cells := 7, slots := 21, locals := 15 } : Room).slots) := by
  refine MetFree.of_bodySF (plainFor_of_name pn_52) hisR ?_
  intro p e s m args below meth c s₁ Bd hml0 hP hK
  obtain ⟨rfl, hZ, hh⟩ := hP
  have hx := Bd.exec
  have hby := Bd.bytes
  have hml : c.maxLocals = 2 := hml0
  have hown : s.vm.findClass "com/example/aprox/aprox/CountedKeywords" = some m.cls := findClass_of_methodNamed Bd.named
  have hnm := (name_of_methodNamed Bd.named Bd.method).1
  have X0 : Stand p l e ({ frames := 1, cells := 7, slots := 21, locals := 15 } : Room) s m #[(.ref a), (.int n)] below meth c s₁ [] 0 0 := Stand.of_body Bd
  have e0 : s₁.heap = h0 := by rw [← hh, Bd.state]; rfl
  have N0 := Fr.nil n0
  refine own_out (Q := Q_rm_new Z a n h0 n0) ?_
  refine own_cast (ef_rm_new m a n) ?_
  show own_Go p.tables e below (s₁.setTop (mkF m 0 #[.val (.ref a), .val (.int n)] [])) _
  subst hn3
  show own_Go p.tables e below (s₁.setTop (mkF m 0 #[.val (.ref a), .val (.int (3 : Int32))] [])) _
  refine own_by (fun zt zk => XS.aloadN X0.here hx rfl (hb hby d_prog_7_method_1_0) rfl rfl zk) ?_
  show own_Go p.tables e below (s₁.setTop (mkF m 1 #[.val (.ref a), .val (.int (3 : Int32))] [(.ref a)])) _
  obtain ⟨T1, X1, e1, st1⟩ := initO X0 hx hZ hown (hw _ (List.mem_of_getElem? (i := 7) rfl)) (hw _ (List.mem_of_getElem? (i := 8) rfl)) (hw _ (List.mem_of_getElem? (i := 9) rfl)) e0 (g := (mkF m 1 #[.val (.ref a), .val (.int (3 : Int32))] [(.ref a)])) rfl (by rw [hml]; rfl) rfl (hb hby d_prog_7_method_1_1) (by decide) (W := 0) (by show 2 * 0 + _ ≤ _; exact Nat.le_of_eq rfl) (by decide)
  refine own_by (st1) ?_
  show own_Go p.tables e below (T1.setTop (mkF m 4 #[.val (.ref a), .val (.int (3 : Int32))] [])) _
  refine own_by (fun zt zk => XS.aloadN X1.here hx rfl (hb hby d_prog_7_method_1_4) rfl rfl zk) ?_
  show own_Go p.tables e below (T1.setTop (mkF m 5 #[.val (.ref a), .val (.int (3 : Int32))] [(.ref a)])) _
  refine own_by (fun zt zk => XS.iloadN X1.here hx rfl (hb hby d_prog_7_method_1_5) rfl zk) ?_
  show own_Go p.tables e below (T1.setTop (mkF m 6 #[.val (.ref a), .val (.int (3 : Int32))] [(.int (3 : Int32)), (.ref a)])) _
  obtain ⟨T2, hea2, k2, X2, e2, E2, A2, st2⟩ := newP X1 hx hZ (hw _ (List.mem_of_getElem? (i := 10) rfl)) e1 (g := (mkF m 6 #[.val (.ref a), .val (.int (3 : Int32))] [(.int (3 : Int32)), (.ref a)])) rfl (hb hby d_prog_7_method_1_6) rfl (by decide) (cap := 3) (by decide) (by decide) (by decide) (by decide)
  obtain ⟨ci, g2⟩ : ∃ z, z = h0.size := ⟨_, rfl⟩
  rw [← g2] at A2 st2
  have ne_ci_a : ci ≠ a := Nat.ne_of_gt (g2 ▸ (E_a).lt)
  have sz_ci : h0.size ≤ ci := Nat.le_trans (Keep.refl h0 [a]).1 (Nat.le_of_eq g2.symm)
  have K2 : Keep h0 hea2 [a] := (Keep.refl h0 [a]).ext E2
  refine own_by (st2) ?_
  have V2 : own_AI Z hea2 ci .int 3 (fun _ => (0 : Int32)) := own_AF.new A2 rfl
  show own_Go p.tables e below (T2.setTop (mkF m 8 #[.val (.ref a), .val (.int (3 : Int32))] [(.ref ci), (.ref a)])) _
  obtain ⟨T3, hea3, X3, e3, W3, st3⟩ := putF X2 hx hZ hown (host := "") (Or.inl (hw _ (List.mem_of_getElem? (i := 11) rfl))) Via.refl e2 (F_countedIn.ext E2) (E_a.ext E2) (Or.inr ⟨(hw _ (List.mem_of_getElem? (i := 12) rfl)), rfl, hnm⟩) (hw _ (List.mem_of_getElem? (i := 2) rfl)) (ty := (.array .int)) (by decide) rfl rfl (g := (mkF m 8 #[.val (.ref a), .val (.int (3 : Int32))] [(.ref ci), (.ref a)])) rfl rfl (hb hby d_prog_7_method_1_8)
  have Fw3 := ((F_countedIn.ext E2)).same W3
  have N3 := Fr.snoc X3 N0 g_a
  have K3 : Keep h0 hea3 [a] := K2.wr W3 (Or.inl (List.mem_of_getElem? (i := 0) rfl))
  refine own_by (st3) ?_
  show own_Go p.tables e below (T3.setTop (mkF m 11 #[.val (.ref a), .val (.int (3 : Int32))] [])) _
  refine own_by (fun zt zk => XS.aloadN X3.here hx rfl (hb hby d_prog_7_method_1_11) rfl rfl zk) ?_
  show own_Go p.tables e below (T3.setTop (mkF m 12 #[.val (.ref a), .val (.int (3 : Int32))] [(.ref a)])) _
  obtain ⟨T4, X4, e4, st4⟩ := getF X3 hx hZ hown (host := "") (Or.inl (hw _ (List.mem_of_getElem? (i := 11) rfl))) Via.refl e3 Fw3 (g := (mkF m 12 #[.val (.ref a), .val (.int (3 : Int32))] [(.ref a)])) rfl rfl (hb hby d_prog_7_method_1_12)
  refine own_by (st4) ?_
  show own_Go p.tables e below (T4.setTop (mkF m 15 #[.val (.ref a), .val (.int (3 : Int32))] [(.ref ci)])) _
  refine own_by (fun zt zk => XS.iconst X4.here hx rfl (hb hby d_prog_7_method_1_15) zk) ?_
  show own_Go p.tables e below (T4.setTop (mkF m 16 #[.val (.ref a), .val (.int (3 : Int32))] [(.int (-1 : Int32)), (.ref ci)])) _
  obtain ⟨_, _, ⟨T5, L5, k5, n5⟩, -, X5, ⟨Lc5, hQ5, l5, y5, z5⟩, st5⟩ := Jvm.LawKit.callS X4 hx (y := (⟨"java/util/Arrays", "fill", "([II)V"⟩ : MethodName)) hown (mvT hZ (hw _ (List.mem_of_getElem? (i := 13) rfl))) (mvT hZ (hw _ (List.mem_of_getElem? (i := 14) rfl))) (mvT hZ (hw _ (List.mem_of_getElem? (i := 15) rfl))) (mvT hZ (hw _ (List.mem_of_getElem? (i := 16) rfl))) (by decide) (backOf (W := 0) (rm_fill l Z a0 hw [] ci (-1 : Int32) (fun _ => (0 : Int32)) hea3 n0 (Nat.le_trans Z0 K3.1) (V2.other W3 ne_ci_a) (Nat.le_trans Z0 sz_ci)) hZ (hw _ (List.mem_of_getElem? (i := 16) rfl)) (hw _ (List.mem_of_getElem? (i := 15) rfl)) (by decide) (by decide)) (g := (mkF m 16 #[.val (.ref a), .val (.int (3 : Int32))] [(.int (-1 : Int32)), (.ref ci)])) rfl (by rw [hml]; rfl) (argsL := [(.ref ci), (.int (-1 : Int32))]) (rest := []) (lenOf pd_26 rfl) rfl (by show 2 * 0 + _ ≤ _; exact Nat.le_of_eq rfl) (hb hby d_prog_7_method_1_16) (fun _ _ => ⟨rfl, e4, (by decide : 1 + 0 ≤ _), (by decide : 3 + 0 ≤ _)⟩)
  dsimp only [Pt.U, Pt.locs, Pt.cells, Pt.slots] at X5 l5 y5 z5 st5 hQ5
  subst l5 y5 z5
  obtain ⟨rfl, N5q, Kc5, Ac5⟩ := hQ5
  have N5 := Fr.app N3 N5q
  have K5 : Keep h0 T5.heap [a] := K3.trans Kc5 (allS (Or.inr sz_ci) all0)
  refine own_by (st5) ?_
  show own_Go p.tables e below (T5.setTop (mkF m 19 #[.val (.ref a), .val (.int (3 : Int32))] [])) _
  refine own_by (fun zt zk => XS.aloadN X5.here hx rfl (hb hby d_prog_7_method_1_19) rfl rfl zk) ?_
  show own_Go p.tables e below (T5.setTop (mkF m 20 #[.val (.ref a), .val (.int (3 : Int32))] [(.ref a)])) _
  refine own_by (fun zt zk => XS.iloadN X5.here hx rfl (hb hby d_prog_7_method_1_20) rfl zk) ?_
  show own_Go p.tables e below (T5.setTop (mkF m 21 #[.val (.ref a), .val (.int (3 : Int32))] [(.int (3 : Int32)), (.ref a)])) _
  obtain ⟨T6, hea6, k6, X6, e6, E6, A6, st6⟩ := newP X5 hx hZ (hw _ (List.mem_of_getElem? (i := 10) rfl)) rfl (g := (mkF m 21 #[.val (.ref a), .val (.int (3 : Int32))] [(.int (3 : Int32)), (.ref a)])) rfl (hb hby d_prog_7_method_1_21) rfl (by decide) (cap := 3) (by decide) (by decide) (by decide) (by decide)
  obtain ⟨kw, g6⟩ : ∃ z, z = T5.heap.size := ⟨_, rfl⟩
  rw [← g6] at A6 st6
  have ne_kw_a : kw ≠ a := Nat.ne_of_gt (g6 ▸ ((((E_a.ext E2).wr W3).keep Kc5)).lt)
  have ne_kw_ci : kw ≠ ci := Nat.ne_of_gt (g6 ▸ (Ac5).lt)
  have sz_kw : h0.size ≤ kw := Nat.le_trans K5.1 (Nat.le_of_eq g6.symm)
  have K6 : Keep h0 hea6 [a] := K5.ext E6
  refine own_by (st6) ?_
  have V6 : own_AI Z hea6 kw .int 3 (fun _ => (0 : Int32)) := own_AF.new A6 rfl
  show own_Go p.tables e below (T6.setTop (mkF m 23 #[.val (.ref a), .val (.int (3 : Int32))] [(.ref kw), (.ref a)])) _
  have c8 := ((((F_keywords.ext E2).other W3 (Or.inr (slot_ne (Or.inr (hw _ (List.mem_of_getElem? (i := 18) rfl))) (Or.inr (hw _ (List.mem_of_getElem? (i := 12) rfl))) (by decide) (t := (.array .int)) (t' := (.array .int)) (by decide) (by decide)))).keep Kc5 (ninS (Ne.symm ne_ci_a) nin0)).ext E6)
  obtain ⟨T7, hea7, X7, e7, W7, st7⟩ := putF X6 hx hZ hown (host := "") (Or.inl (hw _ (List.mem_of_getElem? (i := 17) rfl))) Via.refl e6 c8 ((((E_a.ext E2).wr W3).keep Kc5).ext E6) (Or.inr ⟨(hw _ (List.mem_of_getElem? (i := 18) rfl)), rfl, hnm⟩) (hw _ (List.mem_of_getElem? (i := 2) rfl)) (ty := (.array .int)) (by decide) rfl rfl (g := (mkF m 23 #[.val (.ref a), .val (.int (3 : Int32))] [(.ref kw), (.ref a)])) rfl rfl (hb hby d_prog_7_method_1_23)
  have Fw7 := (c8).same W7
  have N7 := Fr.snoc X7 N5 g_a
  have K7 : Keep h0 hea7 [a] := K6.wr W7 (Or.inl (List.mem_of_getElem? (i := 0) rfl))
  refine own_by (st7) ?_
  show own_Go p.tables e below (T7.setTop (mkF m 26 #[.val (.ref a), .val (.int (3 : Int32))] [])) _
  refine own_by (fun zt zk => XS.aloadN X7.here hx rfl (hb hby d_prog_7_method_1_26) rfl rfl zk) ?_
  show own_Go p.tables e below (T7.setTop (mkF m 27 #[.val (.ref a), .val (.int (3 : Int32))] [(.ref a)])) _
  refine own_by (fun zt zk => XS.iloadN X7.here hx rfl (hb hby d_prog_7_method_1_27) rfl zk) ?_
  show own_Go p.tables e below (T7.setTop (mkF m 28 #[.val (.ref a), .val (.int (3 : Int32))] [(.int (3 : Int32)), (.ref a)])) _
  obtain ⟨T9, hea9, k9, X9, e9, E9, A9, st9⟩ := newP X7 hx hZ (hw _ (List.mem_of_getElem? (i := 10) rfl)) e7 (g := (mkF m 28 #[.val (.ref a), .val (.int (3 : Int32))] [(.int (3 : Int32)), (.ref a)])) rfl (hb hby d_prog_7_method_1_28) rfl (by decide) (cap := 3) (by decide) (by decide) (by decide) (by decide)
  obtain ⟨wf, g9⟩ : ∃ z, z = hea7.size := ⟨_, rfl⟩
  rw [← g9] at A9 st9
  have ne_wf_a : wf ≠ a := Nat.ne_of_gt (g9 ▸ ((((((E_a.ext E2).wr W3).keep Kc5).ext E6).wr W7)).lt)
  have ne_wf_ci : wf ≠ ci := Nat.ne_of_gt (g9 ▸ (((Ac5.ext E6).other W7 ne_ci_a)).lt)
  have ne_wf_kw : wf ≠ kw := Nat.ne_of_gt (g9 ▸ ((V6.other W7 ne_kw_a)).lt)
  have sz_wf : h0.size ≤ wf := Nat.le_trans K7.1 (Nat.le_of_eq g9.symm)
  have K9 : Keep h0 hea9 [a] := K7.ext E9
  refine own_by (st9) ?_
  have V9 : own_AI Z hea9 wf .int 3 (fun _ => (0 : Int32)) := own_AF.new A9 rfl
  show own_Go p.tables e below (T9.setTop (mkF m 30 #[.val (.ref a), .val (.int (3 : Int32))] [(.ref wf), (.ref a)])) _
  have c11 := ((((((F_wholeFields.ext E2).other W3 (Or.inr (slot_ne (Or.inr (hw _ (List.mem_of_getElem? (i := 20) rfl))) (Or.inr (hw _ (List.mem_of_getElem? (i := 12) rfl))) (by decide) (t := (.array .int)) (t' := (.array .int)) (by decide) (by decide)))).keep Kc5 (ninS (Ne.symm ne_ci_a) nin0)).ext E6).other W7 (Or.inr (slot_ne (Or.inr (hw _ (List.mem_of_getElem? (i := 20) rfl))) (Or.inr (hw _ (List.mem_of_getElem? (i := 18) rfl))) (by decide) (t := (.array .int)) (t' := (.array .int)) (by decide) (by decide)))).ext E9)
  obtain ⟨T10, hea10, X10, e10, W10, st10⟩ := putF X9 hx hZ hown (host := "") (Or.inl (hw _ (List.mem_of_getElem? (i := 19) rfl))) Via.refl e9 c11 ((((((E_a.ext E2).wr W3).keep Kc5).ext E6).wr W7).ext E9) (Or.inr ⟨(hw _ (List.mem_of_getElem? (i := 20) rfl)), rfl, hnm⟩) (hw _ (List.mem_of_getElem? (i := 2) rfl)) (ty := (.array .int)) (by decide) rfl rfl (g := (mkF m 30 #[.val (.ref a), .val (.int (3 : Int32))] [(.ref wf), (.ref a)])) rfl rfl (hb hby d_prog_7_method_1_30)
  have Fw10 := (c11).same W10
  have N10 := Fr.snoc X10 N7 g_a
  have K10 : Keep h0 hea10 [a] := K9.wr W10 (Or.inl (List.mem_of_getElem? (i := 0) rfl))
  refine own_by (st10) ?_
  show own_Go p.tables e below (T10.setTop (mkF m 33 #[.val (.ref a), .val (.int (3 : Int32))] [])) _
  refine own_by (fun zt zk => XS.aloadN X10.here hx rfl (hb hby d_prog_7_method_1_33) rfl rfl zk) ?_
  show own_Go p.tables e below (T10.setTop (mkF m 34 #[.val (.ref a), .val (.int (3 : Int32))] [(.ref a)])) _
  refine own_by (fun zt zk => XS.iloadN X10.here hx rfl (hb hby d_prog_7_method_1_34) rfl zk) ?_
  show own_Go p.tables e below (T10.setTop (mkF m 35 #[.val (.ref a), .val (.int (3 : Int32))] [(.int (3 : Int32)), (.ref a)])) _
  obtain ⟨T12, hea12, k12, X12, e12, E12, A12, st12⟩ := newP X10 hx hZ (hw _ (List.mem_of_getElem? (i := 10) rfl)) e10 (g := (mkF m 35 #[.val (.ref a), .val (.int (3 : Int32))] [(.int (3 : Int32)), (.ref a)])) rfl (hb hby d_prog_7_method_1_35) rfl (by decide) (cap := 3) (by decide) (by decide) (by decide) (by decide)
  obtain ⟨sf, g12⟩ : ∃ z, z = hea10.size := ⟨_, rfl⟩
  rw [← g12] at A12 st12
  have c13 := (((((((E_a.ext E2).wr W3).keep Kc5).ext E6).wr W7).ext E9).wr W10)
  have ne_sf_a : sf ≠ a := Nat.ne_of_gt (g12 ▸ (c13).lt)
  have ne_sf_ci : sf ≠ ci := Nat.ne_of_gt (g12 ▸ (((((Ac5.ext E6).other W7 ne_ci_a).ext E9).other W10 ne_ci_a)).lt)
  have ne_sf_kw : sf ≠ kw := Nat.ne_of_gt (g12 ▸ ((((V6.other W7 ne_kw_a).ext E9).other W10 ne_kw_a)).lt)
  have ne_sf_wf : sf ≠ wf := Nat.ne_of_gt (g12 ▸ ((V9.other W10 ne_wf_a)).lt)
  have sz_sf : h0.size ≤ sf := Nat.le_trans K10.1 (Nat.le_of_eq g12.symm)
  have K12 : Keep h0 hea12 [a] := K10.ext E12
  refine own_by (st12) ?_
  have V12 : own_AI Z hea12 sf .int 3 (fun _ => (0 : Int32)) := own_AF.new A12 rfl
  show own_Go p.tables e below (T12.setTop (mkF m 37 #[.val (.ref a), .val (.int (3 : Int32))] [(.ref sf), (.ref a)])) _
  have c15 := ((((((((F_someFields.ext E2).other W3 (Or.inr (slot_ne (Or.inr (hw _ (List.mem_of_getElem? (i := 22) rfl))) (Or.inr (hw _ (List.mem_of_getElem? (i := 12) rfl))) (by decide) (t := (.array .int)) (t' := (.array .int)) (by decide) (by decide)))).keep Kc5 (ninS (Ne.symm ne_ci_a) nin0)).ext E6).other W7 (Or.inr (slot_ne (Or.inr (hw _ (List.mem_of_getElem? (i := 22) rfl))) (Or.inr (hw _ (List.mem_of_getElem? (i := 18) rfl))) (by decide) (t := (.array .int)) (t' := (.array .int)) (by decide) (by decide)))).ext E9).other W10 (Or.inr (slot_ne (Or.inr (hw _ (List.mem_of_getElem? (i := 22) rfl))) (Or.inr (hw _ (List.mem_of_getElem? (i := 20) rfl))) (by decide) (t := (.array .int)) (t' := (.array .int)) (by decide) (by decide)))).ext E12)
  obtain ⟨T14, hea14, X14, e14, W14, st14⟩ := putF X12 hx hZ hown (host := "") (Or.inl (hw _ (List.mem_of_getElem? (i := 21) rfl))) Via.refl e12 c15 (c13.ext E12) (Or.inr ⟨(hw _ (List.mem_of_getElem? (i := 22) rfl)), rfl, hnm⟩) (hw _ (List.mem_of_getElem? (i := 2) rfl)) (ty := (.array .int)) (by decide) rfl rfl (g := (mkF m 37 #[.val (.ref a), .val (.int (3 : Int32))] [(.ref sf), (.ref a)])) rfl rfl (hb hby d_prog_7_method_1_37)
  have Fw14 := (c15).same W14
  have N14 := Fr.snoc X14 N10 g_a
  have K14 : Keep h0 hea14 [a] := K12.wr W14 (Or.inl (List.mem_of_getElem? (i := 0) rfl))
  refine own_by (st14) ?_
  show own_Go p.tables e below (T14.setTop (mkF m 40 #[.val (.ref a), .val (.int (3 : Int32))] [])) _
  refine own_by (fun zt zk => XS.aloadN X14.here hx rfl (hb hby d_prog_7_method_1_40) rfl rfl zk) ?_
  show own_Go p.tables e below (T14.setTop (mkF m 41 #[.val (.ref a), .val (.int (3 : Int32))] [(.ref a)])) _
  refine own_by (fun zt zk => XS.iloadN X14.here hx rfl (hb hby d_prog_7_method_1_41) rfl zk) ?_
  show own_Go p.tables e below (T14.setTop (mkF m 42 #[.val (.ref a), .val (.int (3 : Int32))] [(.int (3 : Int32)), (.ref a)])) _
  obtain ⟨T16, hea16, k16, X16, e16, E16, A16, -, -, st16⟩ := newRA X14 hx hZ hown (by decide) (hw _ (List.mem_of_getElem? (i := 23) rfl)) (hw _ (List.mem_of_getElem? (i := 24) rfl)) e14 (g := (mkF m 42 #[.val (.ref a), .val (.int (3 : Int32))] [(.int (3 : Int32)), (.ref a)])) rfl (hb hby d_prog_7_method_1_42) rfl (by decide) (cap := 3) (by decide) (by decide) (by decide) (by decide) (ad := "[[J") (by decide)
  obtain ⟨oc, g16⟩ : ∃ z, z = hea14.size := ⟨_, rfl⟩
  rw [← g16] at A16 st16
  have ne_oc_a : oc ≠ a := Nat.ne_of_gt (g16 ▸ (((c13.ext E12).wr W14)).lt)
  have c17 := ((((((Ac5.ext E6).other W7 ne_ci_a).ext E9).other W10 ne_ci_a).ext E12).other W14 ne_ci_a)
  have ne_oc_ci : oc ≠ ci := Nat.ne_of_gt (g16 ▸ (c17).lt)
  have c18 := (((((V6.other W7 ne_kw_a).ext E9).other W10 ne_kw_a).ext E12).other W14 ne_kw_a)
  have ne_oc_kw : oc ≠ kw := Nat.ne_of_gt (g16 ▸ (c18).lt)
  have ne_oc_wf : oc ≠ wf := Nat.ne_of_gt (g16 ▸ ((((V9.other W10 ne_wf_a).ext E12).other W14 ne_wf_a)).lt)
  have ne_oc_sf : oc ≠ sf := Nat.ne_of_gt (g16 ▸ ((V12.other W14 ne_sf_a)).lt)
  have sz_oc : h0.size ≤ oc := Nat.le_trans K14.1 (Nat.le_of_eq g16.symm)
  have K16 : Keep h0 hea16 [a] := K14.ext E16
  refine own_by (st16) ?_
  show own_Go p.tables e below (T16.setTop (mkF m 45 #[.val (.ref a), .val (.int (3 : Int32))] [(.ref oc), (.ref a)])) _
  have V16 := own_AF.new A16 rfl
  have c20 := ((((((((((F_occurrenceBits.ext E2).other W3 (Or.inr (slot_ne (Or.inr (hw _ (List.mem_of_getElem? (i := 26) rfl))) (Or.inr (hw _ (List.mem_of_getElem? (i := 12) rfl))) (by decide) (t := (.array (.array .long))) (t' := (.array .int)) (by decide) (by decide)))).keep Kc5 (ninS (Ne.symm ne_ci_a) nin0)).ext E6).other W7 (Or.inr (slot_ne (Or.inr (hw _ (List.mem_of_getElem? (i := 26) rfl))) (Or.inr (hw _ (List.mem_of_getElem? (i := 18) rfl))) (by decide) (t := (.array (.array .long))) (t' := (.array .int)) (by decide) (by decide)))).ext E9).other W10 (Or.inr (slot_ne (Or.inr (hw _ (List.mem_of_getElem? (i := 26) rfl))) (Or.inr (hw _ (List.mem_of_getElem? (i := 20) rfl))) (by decide) (t := (.array (.array .long))) (t' := (.array .int)) (by decide) (by decide)))).ext E12).other W14 (Or.inr (slot_ne (Or.inr (hw _ (List.mem_of_getElem? (i := 26) rfl))) (Or.inr (hw _ (List.mem_of_getElem? (i := 22) rfl))) (by decide) (t := (.array (.array .long))) (t' := (.array .int)) (by decide) (by decide)))).ext E16)
  obtain ⟨T19, hea19, X19, e19, W19, st19⟩ := putF X16 hx hZ hown (host := "") (Or.inl (hw _ (List.mem_of_getElem? (i := 25) rfl))) Via.refl e16 c20 (((c13.ext E12).wr W14).ext E16) (Or.inr ⟨(hw _ (List.mem_of_getElem? (i := 26) rfl)), rfl, hnm⟩) (hw _ (List.mem_of_getElem? (i := 2) rfl)) (ty := (.array (.array .long))) (by decide) rfl rfl (g := (mkF m 45 #[.val (.ref a), .val (.int (3 : Int32))] [(.ref oc), (.ref a)])) rfl rfl (hb hby d_prog_7_method_1_45)
  have Fw19 := (c20).same W19
  have N19 := Fr.snoc X19 N14 g_a
  have K19 : Keep h0 hea19 [a] := K16.wr W19 (Or.inl (List.mem_of_getElem? (i := 0) rfl))
  refine own_by (st19) ?_
  show own_Go p.tables e below (T19.setTop (mkF m 48 #[.val (.ref a), .val (.int (3 : Int32))] [])) _
  refine own_by (fun zt zk => XS.aloadN X19.here hx rfl (hb hby d_prog_7_method_1_48) rfl rfl zk) ?_
  show own_Go p.tables e below (T19.setTop (mkF m 49 #[.val (.ref a), .val (.int (3 : Int32))] [(.ref a)])) _
  refine own_by (fun zt zk => XS.iloadN X19.here hx rfl (hb hby d_prog_7_method_1_49) rfl zk) ?_
  show own_Go p.tables e below (T19.setTop (mkF m 50 #[.val (.ref a), .val (.int (3 : Int32))] [(.int (3 : Int32)), (.ref a)])) _
  obtain ⟨T21, hea21, k21, X21, e21, E21, A21, st21⟩ := newP X19 hx hZ (hw _ (List.mem_of_getElem? (i := 10) rfl)) e19 (g := (mkF m 50 #[.val (.ref a), .val (.int (3 : Int32))] [(.int (3 : Int32)), (.ref a)])) rfl (hb hby d_prog_7_method_1_50) rfl (by decide) (cap := 3) (by decide) (by decide) (by decide) (by decide)
  obtain ⟨ub, g21⟩ : ∃ z, z = hea19.size := ⟨_, rfl⟩
  rw [← g21] at A21 st21
  have ne_ub_a : ub ≠ a := Nat.ne_of_gt (g21 ▸ (((((c13.ext E12).wr W14).ext E16).wr W19)).lt)
  have ne_ub_ci : ub ≠ ci := Nat.ne_of_gt (g21 ▸ (((c17.ext E16).other W19 ne_ci_a)).lt)
  have ne_ub_kw : ub ≠ kw := Nat.ne_of_gt (g21 ▸ (((c18.ext E16).other W19 ne_kw_a)).lt)
  have c22 := (((((V9.other W10 ne_wf_a).ext E12).other W14 ne_wf_a).ext E16).other W19 ne_wf_a)
  have ne_ub_wf : ub ≠ wf := Nat.ne_of_gt (g21 ▸ (c22).lt)
  have ne_ub_sf : ub ≠ sf := Nat.ne_of_gt (g21 ▸ ((((V12.other W14 ne_sf_a).ext E16).other W19 ne_sf_a)).lt)
  have ne_ub_oc : ub ≠ oc := Nat.ne_of_gt (g21 ▸ ((V16.other W19 ne_oc_a)).lt)
  have sz_ub : h0.size ≤ ub := Nat.le_trans K19.1 (Nat.le_of_eq g21.symm)
  have K21 : Keep h0 hea21 [a] := K19.ext E21
  refine own_by (st21) ?_
  have V21 : own_AI Z hea21 ub .int 3 (fun _ => (0 : Int32)) := own_AF.new A21 rfl
  show own_Go p.tables e below (T21.setTop (mkF m 52 #[.val (.ref a), .val (.int (3 : Int32))] [(.ref ub), (.ref a)])) _
  have c24 := ((((((((((((F_usedBits.ext E2).other W3 (Or.inr (slot_ne (Or.inr (hw _ (List.mem_of_getElem? (i := 28) rfl))) (Or.inr (hw _ (List.mem_of_getElem? (i := 12) rfl))) (by decide) (t := (.array .int)) (t' := (.array .int)) (by decide) (by decide)))).keep Kc5 (ninS (Ne.symm ne_ci_a) nin0)).ext E6).other W7 (Or.inr (slot_ne (Or.inr (hw _ (List.mem_of_getElem? (i := 28) rfl))) (Or.inr (hw _ (List.mem_of_getElem? (i := 18) rfl))) (by decide) (t := (.array .int)) (t' := (.array .int)) (by decide) (by decide)))).ext E9).other W10 (Or.inr (slot_ne (Or.inr (hw _ (List.mem_of_getElem? (i := 28) rfl))) (Or.inr (hw _ (List.mem_of_getElem? (i := 20) rfl))) (by decide) (t := (.array .int)) (t' := (.array .int)) (by decide) (by decide)))).ext E12).other W14 (Or.inr (slot_ne (Or.inr (hw _ (List.mem_of_getElem? (i := 28) rfl))) (Or.inr (hw _ (List.mem_of_getElem? (i := 22) rfl))) (by decide) (t := (.array .int)) (t' := (.array .int)) (by decide) (by decide)))).ext E16).other W19 (Or.inr (slot_ne (Or.inr (hw _ (List.mem_of_getElem? (i := 28) rfl))) (Or.inr (hw _ (List.mem_of_getElem? (i := 26) rfl))) (by decide) (t := (.array .int)) (t' := (.array (.array .long))) (by decide) (by decide)))).ext E21)
  obtain ⟨T23, hea23, X23, e23, W23, st23⟩ := putF X21 hx hZ hown (host := "") (Or.inl (hw _ (List.mem_of_getElem? (i := 27) rfl))) Via.refl e21 c24 (((((c13.ext E12).wr W14).ext E16).wr W19).ext E21) (Or.inr ⟨(hw _ (List.mem_of_getElem? (i := 28) rfl)), rfl, hnm⟩) (hw _ (List.mem_of_getElem? (i := 2) rfl)) (ty := (.array .int)) (by decide) rfl rfl (g := (mkF m 52 #[.val (.ref a), .val (.int (3 : Int32))] [(.ref ub), (.ref a)])) rfl rfl (hb hby d_prog_7_method_1_52)
  have Fw23 := (c24).same W23
  have N23 := Fr.snoc X23 N19 g_a
  have K23 : Keep h0 hea23 [a] := K21.wr W23 (Or.inl (List.mem_of_getElem? (i := 0) rfl))
  refine own_by (st23) ?_
  show own_Go p.tables e below (T23.setTop (mkF m 55 #[.val (.ref a), .val (.int (3 : Int32))] [])) _
  refine own_by (fun zt zk => XS.aloadN X23.here hx rfl (hb hby d_prog_7_method_1_55) rfl rfl zk) ?_
  show own_Go p.tables e below (T23.setTop (mkF m 56 #[.val (.ref a), .val (.int (3 : Int32))] [(.ref a)])) _
  refine own_by (fun zt zk => XS.iloadN X23.here hx rfl (hb hby d_prog_7_method_1_56) rfl zk) ?_
  show own_Go p.tables e below (T23.setTop (mkF m 57 #[.val (.ref a), .val (.int (3 : Int32))] [(.int (3 : Int32)), (.ref a)])) _
  obtain ⟨T25, hea25, k25, X25, e25, E25, A25, st25⟩ := newP X23 hx hZ (hw _ (List.mem_of_getElem? (i := 10) rfl)) e23 (g := (mkF m 57 #[.val (.ref a), .val (.int (3 : Int32))] [(.int (3 : Int32)), (.ref a)])) rfl (hb hby d_prog_7_method_1_57) rfl (by decide) (cap := 3) (by decide) (by decide) (by decide) (by decide)
  obtain ⟨ob, g25⟩ : ∃ z, z = hea23.size := ⟨_, rfl⟩
  rw [← g25] at A25 st25
  have ne_ob_a : ob ≠ a := Nat.ne_of_gt (g25 ▸ (((((((c13.ext E12).wr W14).ext E16).wr W19).ext E21).wr W23)).lt)
  have c26 := ((((c17.ext E16).other W19 ne_ci_a).ext E21).other W23 ne_ci_a)
  have ne_ob_ci : ob ≠ ci := Nat.ne_of_gt (g25 ▸ (c26).lt)
  have c27 := ((((c18.ext E16).other W19 ne_kw_a).ext E21).other W23 ne_kw_a)
  have ne_ob_kw : ob ≠ kw := Nat.ne_of_gt (g25 ▸ (c27).lt)
  have ne_ob_wf : ob ≠ wf := Nat.ne_of_gt (g25 ▸ (((c22.ext E21).other W23 ne_wf_a)).lt)
  have c28 := (((((V12.other W14 ne_sf_a).ext E16).other W19 ne_sf_a).ext E21).other W23 ne_sf_a)
  have ne_ob_sf : ob ≠ sf := Nat.ne_of_gt (g25 ▸ (c28).lt)
  have ne_ob_oc : ob ≠ oc := Nat.ne_of_gt (g25 ▸ ((((V16.other W19 ne_oc_a).ext E21).other W23 ne_oc_a)).lt)
  have ne_ob_ub : ob ≠ ub := Nat.ne_of_gt (g25 ▸ ((V21.other W23 ne_ub_a)).lt)
  have sz_ob : h0.size ≤ ob := Nat.le_trans K23.1 (Nat.le_of_eq g25.symm)
  have K25 : Keep h0 hea25 [a] := K23.ext E25
  refine own_by (st25) ?_
  have V25 : own_AI Z hea25 ob .int 3 (fun _ => (0 : Int32)) := own_AF.new A25 rfl
  show own_Go p.tables e below (T25.setTop (mkF m 59 #[.val (.ref a), .val (.int (3 : Int32))] [(.ref ob), (.ref a)])) _
  have c30 := ((((((((((((((F_oneByOne.ext E2).other W3 (Or.inr (slot_ne (Or.inr (hw _ (List.mem_of_getElem? (i := 30) rfl))) (Or.inr (hw _ (List.mem_of_getElem? (i := 12) rfl))) (by decide) (t := (.array .int)) (t' := (.array .int)) (by decide) (by decide)))).keep Kc5 (ninS (Ne.symm ne_ci_a) nin0)).ext E6).other W7 (Or.inr (slot_ne (Or.inr (hw _ (List.mem_of_getElem? (i := 30) rfl))) (Or.inr (hw _ (List.mem_of_getElem? (i := 18) rfl))) (by decide) (t := (.array .int)) (t' := (.array .int)) (by decide) (by decide)))).ext E9).other W10 (Or.inr (slot_ne (Or.inr (hw _ (List.mem_of_getElem? (i := 30) rfl))) (Or.inr (hw _ (List.mem_of_getElem? (i := 20) rfl))) (by decide) (t := (.array .int)) (t' := (.array .int)) (by decide) (by decide)))).ext E12).other W14 (Or.inr (slot_ne (Or.inr (hw _ (List.mem_of_getElem? (i := 30) rfl))) (Or.inr (hw _ (List.mem_of_getElem? (i := 22) rfl))) (by decide) (t := (.array .int)) (t' := (.array .int)) (by decide) (by decide)))).ext E16).other W19 (Or.inr (slot_ne (Or.inr (hw _ (List.mem_of_getElem? (i := 30) rfl))) (Or.inr (hw _ (List.mem_of_getElem? (i := 26) rfl))) (by decide) (t := (.array .int)) (t' := (.array (.array .long))) (by decide) (by decide)))).ext E21).other W23 (Or.inr (slot_ne (Or.inr (hw _ (List.mem_of_getElem? (i := 30) rfl))) (Or.inr (hw _ (List.mem_of_getElem? (i := 28) rfl))) (by decide) (t := (.array .int)) (t' := (.array .int)) (by decide) (by decide)))).ext E25)
  have c31 := (((((((c13.ext E12).wr W14).ext E16).wr W19).ext E21).wr W23).ext E25)
  obtain ⟨T29, hea29, X29, e29, W29, st29⟩ := putF X25 hx hZ hown (host := "") (Or.inl (hw _ (List.mem_of_getElem? (i := 29) rfl))) Via.refl e25 c30 c31 (Or.inr ⟨(hw _ (List.mem_of_getElem? (i := 30) rfl)), rfl, hnm⟩) (hw _ (List.mem_of_getElem? (i := 2) rfl)) (ty := (.array .int)) (by decide) rfl rfl (g := (mkF m 59 #[.val (.ref a), .val (.int (3 : Int32))] [(.ref ob), (.ref a)])) rfl rfl (hb hby d_prog_7_method_1_59)
  have Fw29 := (c30).same W29
  have N29 := Fr.snoc X29 N23 g_a
  have K29 : Keep h0 hea29 [a] := K25.wr W29 (Or.inl (List.mem_of_getElem? (i := 0) rfl))
  refine own_by (st29) ?_
  show own_Go p.tables e below (T29.setTop (mkF m 62 #[.val (.ref a), .val (.int (3 : Int32))] [])) _
  have c32 := (((((((((((((Fw3.keep Kc5 (ninS (Ne.symm ne_ci_a) nin0)).ext E6).other W7 (Or.inr (slot_ne (Or.inr (hw _ (List.mem_of_getElem? (i := 12) rfl))) (Or.inr (hw _ (List.mem_of_getElem? (i := 18) rfl))) (by decide) (t := (.array .int)) (t' := (.array .int)) (by decide) (by decide)))).ext E9).other W10 (Or.inr (slot_ne (Or.inr (hw _ (List.mem_of_getElem? (i := 12) rfl))) (Or.inr (hw _ (List.mem_of_getElem? (i := 20) rfl))) (by decide) (t := (.array .int)) (t' := (.array .int)) (by decide) (by decide)))).ext E12).other W14 (Or.inr (slot_ne (Or.inr (hw _ (List.mem_of_getElem? (i := 12) rfl))) (Or.inr (hw _ (List.mem_of_getElem? (i := 22) rfl))) (by decide) (t := (.array .int)) (t' := (.array .int)) (by decide) (by decide)))).ext E16).other W19 (Or.inr (slot_ne (Or.inr (hw _ (List.mem_of_getElem? (i := 12) rfl))) (Or.inr (hw _ (List.mem_of_getElem? (i := 26) rfl))) (by decide) (t := (.array .int)) (t' := (.array (.array .long))) (by decide) (by decide)))).ext E21).other W23 (Or.inr (slot_ne (Or.inr (hw _ (List.mem_of_getElem? (i := 12) rfl))) (Or.inr (hw _ (List.mem_of_getElem? (i := 28) rfl))) (by decide) (t := (.array .int)) (t' := (.array .int)) (by decide) (by decide)))).ext E25).other W29 (Or.inr (slot_ne (Or.inr (hw _ (List.mem_of_getElem? (i := 12) rfl))) (Or.inr (hw _ (List.mem_of_getElem? (i := 30) rfl))) (by decide) (t := (.array .int)) (t' := (.array .int)) (by decide) (by decide))))
  have c33 := ((((((((((Fw7.ext E9).other W10 (Or.inr (slot_ne (Or.inr (hw _ (List.mem_of_getElem? (i := 18) rfl))) (Or.inr (hw _ (List.mem_of_getElem? (i := 20) rfl))) (by decide) (t := (.array .int)) (t' := (.array .int)) (by decide) (by decide)))).ext E12).other W14 (Or.inr (slot_ne (Or.inr (hw _ (List.mem_of_getElem? (i := 18) rfl))) (Or.inr (hw _ (List.mem_of_getElem? (i := 22) rfl))) (by decide) (t := (.array .int)) (t' := (.array .int)) (by decide) (by decide)))).ext E16).other W19 (Or.inr (slot_ne (Or.inr (hw _ (List.mem_of_getElem? (i := 18) rfl))) (Or.inr (hw _ (List.mem_of_getElem? (i := 26) rfl))) (by decide) (t := (.array .int)) (t' := (.array (.array .long))) (by decide) (by decide)))).ext E21).other W23 (Or.inr (slot_ne (Or.inr (hw _ (List.mem_of_getElem? (i := 18) rfl))) (Or.inr (hw _ (List.mem_of_getElem? (i := 28) rfl))) (by decide) (t := (.array .int)) (t' := (.array .int)) (by decide) (by decide)))).ext E25).other W29 (Or.inr (slot_ne (Or.inr (hw _ (List.mem_of_getElem? (i := 18) rfl))) (Or.inr (hw _ (List.mem_of_getElem? (i := 30) rfl))) (by decide) (t := (.array .int)) (t' := (.array .int)) (by decide) (by decide))))
  have c34 := ((((((((Fw10.ext E12).other W14 (Or.inr (slot_ne (Or.inr (hw _ (List.mem_of_getElem? (i := 20) rfl))) (Or.inr (hw _ (List.mem_of_getElem? (i := 22) rfl))) (by decide) (t := (.array .int)) (t' := (.array .int)) (by decide) (by decide)))).ext E16).other W19 (Or.inr (slot_ne (Or.inr (hw _ (List.mem_of_getElem? (i := 20) rfl))) (Or.inr (hw _ (List.mem_of_getElem? (i := 26) rfl))) (by decide) (t := (.array .int)) (t' := (.array (.array .long))) (by decide) (by decide)))).ext E21).other W23 (Or.inr (slot_ne (Or.inr (hw _ (List.mem_of_getElem? (i := 20) rfl))) (Or.inr (hw _ (List.mem_of_getElem? (i := 28) rfl))) (by decide) (t := (.array .int)) (t' := (.array .int)) (by decide) (by decide)))).ext E25).other W29 (Or.inr (slot_ne (Or.inr (hw _ (List.mem_of_getElem? (i := 20) rfl))) (Or.inr (hw _ (List.mem_of_getElem? (i := 30) rfl))) (by decide) (t := (.array .int)) (t' := (.array .int)) (by decide) (by decide))))
  have c35 := (((((((((((((((F_count.ext E2).other W3 (Or.inr (slot_ne (Or.inl (hw _ (List.mem_of_getElem? (i := 37) rfl))) (Or.inr (hw _ (List.mem_of_getElem? (i := 12) rfl))) (by decide) (t := .int) (t' := (.array .int)) (by decide) (by decide)))).keep Kc5 (ninS (Ne.symm ne_ci_a) nin0)).ext E6).other W7 (Or.inr (slot_ne (Or.inl (hw _ (List.mem_of_getElem? (i := 37) rfl))) (Or.inr (hw _ (List.mem_of_getElem? (i := 18) rfl))) (by decide) (t := .int) (t' := (.array .int)) (by decide) (by decide)))).ext E9).other W10 (Or.inr (slot_ne (Or.inl (hw _ (List.mem_of_getElem? (i := 37) rfl))) (Or.inr (hw _ (List.mem_of_getElem? (i := 20) rfl))) (by decide) (t := .int) (t' := (.array .int)) (by decide) (by decide)))).ext E12).other W14 (Or.inr (slot_ne (Or.inl (hw _ (List.mem_of_getElem? (i := 37) rfl))) (Or.inr (hw _ (List.mem_of_getElem? (i := 22) rfl))) (by decide) (t := .int) (t' := (.array .int)) (by decide) (by decide)))).ext E16).other W19 (Or.inr (slot_ne (Or.inl (hw _ (List.mem_of_getElem? (i := 37) rfl))) (Or.inr (hw _ (List.mem_of_getElem? (i := 26) rfl))) (by decide) (t := .int) (t' := (.array (.array .long))) (by decide) (by decide)))).ext E21).other W23 (Or.inr (slot_ne (Or.inl (hw _ (List.mem_of_getElem? (i := 37) rfl))) (Or.inr (hw _ (List.mem_of_getElem? (i := 28) rfl))) (by decide) (t := .int) (t' := (.array .int)) (by decide) (by decide)))).ext E25).other W29 (Or.inr (slot_ne (Or.inl (hw _ (List.mem_of_getElem? (i := 37) rfl))) (Or.inr (hw _ (List.mem_of_getElem? (i := 30) rfl))) (by decide) (t := .int) (t' := (.array .int)) (by decide) (by decide))))
  have c36 := (((((((((((((((F_oneByOneCount.ext E2).other W3 (Or.inr (slot_ne (Or.inl (hw _ (List.mem_of_getElem? (i := 44) rfl))) (Or.inr (hw _ (List.mem_of_getElem? (i := 12) rfl))) (by decide) (t := .int) (t' := (.array .int)) (by decide) (by decide)))).keep Kc5 (ninS (Ne.symm ne_ci_a) nin0)).ext E6).other W7 (Or.inr (slot_ne (Or.inl (hw _ (List.mem_of_getElem? (i := 44) rfl))) (Or.inr (hw _ (List.mem_of_getElem? (i := 18) rfl))) (by decide) (t := .int) (t' := (.array .int)) (by decide) (by decide)))).ext E9).other W10 (Or.inr (slot_ne (Or.inl (hw _ (List.mem_of_getElem? (i := 44) rfl))) (Or.inr (hw _ (List.mem_of_getElem? (i := 20) rfl))) (by decide) (t := .int) (t' := (.array .int)) (by decide) (by decide)))).ext E12).other W14 (Or.inr (slot_ne (Or.inl (hw _ (List.mem_of_getElem? (i := 44) rfl))) (Or.inr (hw _ (List.mem_of_getElem? (i := 22) rfl))) (by decide) (t := .int) (t' := (.array .int)) (by decide) (by decide)))).ext E16).other W19 (Or.inr (slot_ne (Or.inl (hw _ (List.mem_of_getElem? (i := 44) rfl))) (Or.inr (hw _ (List.mem_of_getElem? (i := 26) rfl))) (by decide) (t := .int) (t' := (.array (.array .long))) (by decide) (by decide)))).ext E21).other W23 (Or.inr (slot_ne (Or.inl (hw _ (List.mem_of_getElem? (i := 44) rfl))) (Or.inr (hw _ (List.mem_of_getElem? (i := 28) rfl))) (by decide) (t := .int) (t' := (.array .int)) (by decide) (by decide)))).ext E25).other W29 (Or.inr (slot_ne (Or.inl (hw _ (List.mem_of_getElem? (i := 44) rfl))) (Or.inr (hw _ (List.mem_of_getElem? (i := 30) rfl))) (by decide) (t := .int) (t' := (.array .int)) (by decide) (by decide))))
  have c37 := ((((c22.ext E21).other W23 ne_wf_a).ext E25).other W29 ne_wf_a)
  exact own_retV X29 hx Bd.notSynchronized Bd.returns (hb hby d_prog_7_method_1_62) (by (try rw [e29]); exact ⟨rfl, N29, K29, _, _, _, sz_ci, sz_kw, sz_wf, ⟨(c31.wr W29), c32, c33, c34, c35, c36, ((c26.ext E25).other W29 ne_ci_a), ((c27.ext E25).other W29 ne_kw_a), c37, g_a, (Nat.le_trans Z0 sz_ci), (Nat.le_trans Z0 sz_kw), (Nat.le_trans Z0 sz_wf), (Ne.symm ne_ci_a), (Ne.symm ne_kw_a), (Ne.symm ne_wf_a), (Ne.symm ne_kw_ci), (Ne.symm ne_wf_ci), (Ne.symm ne_wf_kw)⟩⟩) (by decide) (by decide)
theorem d_prog_7_method_3_0 : decode prog_7_method_3_code 0 = .ok (.aload_n 0, 1) := by decide +kernel
theorem d_prog_7_method_3_1 : decode prog_7_method_3_code 1 = .ok (.getfield 7, 3) := by decide +kernel
theorem d_prog_7_method_3_4 : decode prog_7_method_3_code 4 = .ok (.iload_n 1, 1) := by decide +kernel
theorem d_prog_7_method_3_5 : decode prog_7_method_3_code 5 = .ok (.iaload, 1) := by decide +kernel
theorem d_prog_7_method_3_6 : decode prog_7_method_3_code 6 = .ok (.iload_n 2, 1) := by decide +kernel
theorem d_prog_7_method_3_7 : decode prog_7_method_3_code 7 = .ok (.if_icmp .eq 37, 3) := by decide +kernel
theorem d_prog_7_method_3_44 : decode prog_7_method_3_code 44 = .ok (.aload_n 0, 1) := by decide +kernel
theorem d_prog_7_method_3_45 : decode prog_7_method_3_code 45 = .ok (.getfield 22, 3) := by decide +kernel
theorem d_prog_7_method_3_48 : decode prog_7_method_3_code 48 = .ok (.iload_n 1, 1) := by decide +kernel
theorem d_prog_7_method_3_49 : decode prog_7_method_3_code 49 = .ok (.dup2, 1) := by decide +kernel
theorem d_prog_7_method_3_50 : decode prog_7_method_3_code 50 = .ok (.iaload, 1) := by decide +kernel
theorem d_prog_7_method_3_51 : decode prog_7_method_3_code 51 = .ok (.iload_n 3, 1) := by decide +kernel
theorem d_prog_7_method_3_52 : decode prog_7_method_3_code 52 = .ok (.ior, 1) := by decide +kernel
theorem d_prog_7_method_3_53 : decode prog_7_method_3_code 53 = .ok (.iastore, 1) := by decide +kernel
theorem d_prog_7_method_3_54 : decode prog_7_method_3_code 54 = .ok (.return_, 1) := by decide +kernel
theorem d_prog_7_method_3_10 : decode prog_7_method_3_code 10 = .ok (.aload_n 0, 1) := by decide +kernel
theorem d_prog_7_method_3_11 : decode prog_7_method_3_code 11 = .ok (.getfield 7, 3) := by decide +kernel
theorem d_prog_7_method_3_14 : decode prog_7_method_3_code 14 = .ok (.iload_n 1, 1) := by decide +kernel
theorem d_prog_7_method_3_15 : decode prog_7_method_3_code 15 = .ok (.iload_n 2, 1) := by decide +kernel
theorem d_prog_7_method_3_16 : decode prog_7_method_3_code 16 = .ok (.iastore, 1) := by decide +kernel
theorem d_prog_7_method_3_17 : decode prog_7_method_3_code 17 = .ok (.aload_n 0, 1) := by decide +kernel
theorem d_prog_7_method_3_18 : decode prog_7_method_3_code 18 = .ok (.getfield 19, 3) := by decide +kernel
theorem d_prog_7_method_3_21 : decode prog_7_method_3_code 21 = .ok (.aload_n 0, 1) := by decide +kernel
theorem d_prog_7_method_3_22 : decode prog_7_method_3_code 22 = .ok (.dup, 1) := by decide +kernel
theorem d_prog_7_method_3_23 : decode prog_7_method_3_code 23 = .ok (.getfield 40, 3) := by decide +kernel
theorem d_prog_7_method_3_26 : decode prog_7_method_3_code 26 = .ok (.dup_x1, 1) := by decide +kernel
theorem d_prog_7_method_3_27 : decode prog_7_method_3_code 27 = .ok (.iconst 1, 1) := by decide +kernel
theorem d_prog_7_method_3_28 : decode prog_7_method_3_code 28 = .ok (.iadd, 1) := by decide +kernel
theorem d_prog_7_method_3_29 : decode prog_7_method_3_code 29 = .ok (.putfield 40, 3) := by decide +kernel
theorem d_prog_7_method_3_32 : decode prog_7_method_3_code 32 = .ok (.iload_n 1, 1) := by decide +kernel
theorem d_prog_7_method_3_33 : decode prog_7_method_3_code 33 = .ok (.iastore, 1) := by decide +kernel
theorem d_prog_7_method_3_34 : decode prog_7_method_3_code 34 = .ok (.aload_n 0, 1) := by decide +kernel
theorem d_prog_7_method_3_35 : decode prog_7_method_3_code 35 = .ok (.getfield 22, 3) := by decide +kernel
theorem d_prog_7_method_3_38 : decode prog_7_method_3_code 38 = .ok (.iload_n 1, 1) := by decide +kernel
theorem d_prog_7_method_3_39 : decode prog_7_method_3_code 39 = .ok (.iload_n 3, 1) := by decide +kernel
theorem d_prog_7_method_3_40 : decode prog_7_method_3_code 40 = .ok (.iastore, 1) := by decide +kernel
theorem d_prog_7_method_3_41 : decode prog_7_method_3_code 41 = .ok (.goto 13, 3) := by decide +kernel
def Q_rm_add (Z : State) (a : Addr) (k dc fl : Int32) (ci kw wf : Addr) (fC fK fW : Nat → Int32) (ct : Int32) (kn cn : Nat) (h0 : Heap) (n0 : Nat) (v : Option Value) (h : Heap) (L : List Loc) : Prop := v = none ∧ Fr n0 L ∧ Keep h0 h [a, ci, kw, wf] ∧ (((fC kn) = dc ∧ own_CK Z n0 h a ci kw wf fC fK (own_upd fW kn ((fW kn) ||| fl)) ct) ∨ (¬ (fC kn) = dc ∧ own_CK Z n0 h a ci kw wf (own_upd fC kn dc) (own_upd fK cn k) (own_upd fW kn fl) (ct + (1 : Int32))))
theorem ef_rm_add (m : MethodId) (a : Addr) (k : Int32) (dc : Int32) (fl : Int32) : entryFrame m #[(.ref a), (.int k), (.int dc), (.int fl)] 4 = mkF m 0 #[.val (.ref a), .val (.int k), .val (.int dc), .val (.int fl)] [] := by first | (simp [entryFrame, mkF, argsToLocals, Value.category]; done) | rfl
set_option maxRecDepth 65536 in
set_option maxHeartbeats 40000000 in
theorem rm_add (l : Launch) (Z : State) (a0 : Array Value) (hw : ∀ d ∈ tables_1, d.before a0 Z = true) (ws : List Jvm.Cond) (a : Addr) (k dc fl : Int32) (ci kw wf : Addr) (fC fK fW : Nat → Int32) (ct : Int32) (kn cn : Nat) (h0 : Heap) (n0 : Nat) (Z0 : n0 ≤ h0.size) (CK0 : own_CK Z n0 h0 a ci kw wf fC fK fW ct) (hk : k = Int32.ofNat kn) (hk3 : kn < 3) (hct : ct = Int32.ofNat cn) (hct3 : cn < 3) :
    MetFree l (⟨"com/example/aprox/aprox/CountedKeywords", "add", "(III)V"⟩ : MethodName) (head1 (Jvm.Cond.code (⟨"com/example/aprox/aprox/CountedKeywords", "add", "(III)V"⟩ : MethodName) prog_7_method_3_code 4 none :: ws) ({ frames := 0, cells := 0, slots := 0, locals := 0 } : Room)) (fun zA zU => zA = #[(.ref a), (.int k), (.int dc), (.int fl)] ∧ Z.Warmed39 zU.vm ∧ zU.heap = h0) (fun _ _ _ _ _ => True) (fun _ zU zo zW => ∃ zv zL, zo = .returned zv ∧ (Q_rm_add Z a k dc fl ci kw wf fC fK fW ct kn cn h0 n0) zv zW.heap zL ∧ FrameEnd zU zo zW zL ({ frames := 0, cells := 0, slots := 0, locals := 0 } : Room).cells ({ frames := 0, cells := 0, slots := 0, locals := 0 } : Room).slots) := by
  refine MetFree.of_bodySF (plainFor_of_name pn_52) hisR ?_
  intro p e s m args below meth c s₁ Bd hml0 hP hK
  obtain ⟨rfl, hZ, hh⟩ := hP
  have hx := Bd.exec
  have hby := Bd.bytes
  have hml : c.maxLocals = 4 := hml0
  have hown : s.vm.findClass "com/example/aprox/aprox/CountedKeywords" = some m.cls := findClass_of_methodNamed Bd.named
  have hnm := (name_of_methodNamed Bd.named Bd.method).1
  have X0 : Stand p l e ({ frames := 0, cells := 0, slots := 0, locals := 0 } : Room) s m #[(.ref a), (.int k), (.int dc), (.int fl)] below meth c s₁ [] 0 0 := Stand.of_body Bd
  have e0 : s₁.heap = h0 := by rw [← hh, Bd.state]; rfl
  have N0 := Fr.nil n0
  refine own_out (Q := Q_rm_add Z a k dc fl ci kw wf fC fK fW ct kn cn h0 n0) ?_
  refine own_cast (ef_rm_add m a k dc fl) ?_
  show own_Go p.tables e below (s₁.setTop (mkF m 0 #[.val (.ref a), .val (.int k), .val (.int dc), .val (.int fl)] [])) _
  obtain ⟨kE, kFc, kFk, kFw, kFn, kFo, kAc, kAk, kAw, kga, kgc, kgk, kgw, kn1, kn2, kn3, kn4, kn5, kn6⟩ := CK0
  show own_Go p.tables e below (s₁.setTop (mkF m 0 #[.val (.ref a), .val (.int k), .val (.int dc), .val (.int fl)] [])) _
  obtain ⟨i0, ik⟩ := own_ixN hk hk3
  obtain ⟨c0, ck⟩ := own_ixN hct hct3
  refine own_by (fun zt zk => XS.aloadN X0.here hx rfl (hb hby d_prog_7_method_3_0) rfl rfl zk) ?_
  show own_Go p.tables e below (s₁.setTop (mkF m 1 #[.val (.ref a), .val (.int k), .val (.int dc), .val (.int fl)] [(.ref a)])) _
  obtain ⟨T1, X1, e1, st1⟩ := getF X0 hx hZ hown (host := "") (Or.inl (hw _ (List.mem_of_getElem? (i := 11) rfl))) Via.refl e0 kFc (g := (mkF m 1 #[.val (.ref a), .val (.int k), .val (.int dc), .val (.int fl)] [(.ref a)])) rfl rfl (hb hby d_prog_7_method_3_1)
  refine own_by (st1) ?_
  show own_Go p.tables e below (T1.setTop (mkF m 4 #[.val (.ref a), .val (.int k), .val (.int dc), .val (.int fl)] [(.ref ci)])) _
  refine own_by (fun zt zk => XS.iloadN X1.here hx rfl (hb hby d_prog_7_method_3_4) rfl zk) ?_
  show own_Go p.tables e below (T1.setTop (mkF m 5 #[.val (.ref a), .val (.int k), .val (.int dc), .val (.int fl)] [(.int k), (.ref ci)])) _
  refine own_by (own_ldI X1 hx hZ e1 kAc (j := k) (k := kn) i0 ik hk3 (g := (mkF m 5 #[.val (.ref a), .val (.int k), .val (.int dc), .val (.int fl)] [(.int k), (.ref ci)])) rfl rfl (hb hby d_prog_7_method_3_5)) ?_
  show own_Go p.tables e below (T1.setTop (mkF m 6 #[.val (.ref a), .val (.int k), .val (.int dc), .val (.int fl)] [(.int (fC kn))])) _
  refine own_by (fun zt zk => XS.iloadN X1.here hx rfl (hb hby d_prog_7_method_3_6) rfl zk) ?_
  show own_Go p.tables e below (T1.setTop (mkF m 7 #[.val (.ref a), .val (.int k), .val (.int dc), .val (.int fl)] [(.int dc), (.int (fC kn))])) _
  by_cases h1 : (fC kn) = dc
  · refine own_by (fun zt zk => XS.icmpYes X1.here hx rfl (pc0 := 7) (pc' := 44) rfl (hb hby d_prog_7_method_3_7) rfl (teq h1).1 (by decide) (by decide) zk) ?_
    show own_Go p.tables e below (T1.setTop (mkF m 44 #[.val (.ref a), .val (.int k), .val (.int dc), .val (.int fl)] [])) _
    refine own_by (fun zt zk => XS.aloadN X1.here hx rfl (hb hby d_prog_7_method_3_44) rfl rfl zk) ?_
    show own_Go p.tables e below (T1.setTop (mkF m 45 #[.val (.ref a), .val (.int k), .val (.int dc), .val (.int fl)] [(.ref a)])) _
    obtain ⟨T2, X2, e2, st2⟩ := getF X1 hx hZ hown (host := "") (Or.inl (hw _ (List.mem_of_getElem? (i := 19) rfl))) Via.refl e1 kFw (g := (mkF m 45 #[.val (.ref a), .val (.int k), .val (.int dc), .val (.int fl)] [(.ref a)])) rfl rfl (hb hby d_prog_7_method_3_45)
    refine own_by (st2) ?_
    show own_Go p.tables e below (T2.setTop (mkF m 48 #[.val (.ref a), .val (.int k), .val (.int dc), .val (.int fl)] [(.ref wf)])) _
    refine own_by (fun zt zk => XS.iloadN X2.here hx rfl (hb hby d_prog_7_method_3_48) rfl zk) ?_
    show own_Go p.tables e below (T2.setTop (mkF m 49 #[.val (.ref a), .val (.int k), .val (.int dc), .val (.int fl)] [(.int k), (.ref wf)])) _
    refine own_by (S' := T2.setTop (mkF m 50 #[.val (.ref a), .val (.int k), .val (.int dc), .val (.int fl)] [(.int k), (.ref wf), (.int k), (.ref wf)])) (fun zt zk => ?_) ?_
    · jvm_step X2.here [X2.here.top, hx, (hb hby d_prog_7_method_3_49), Value.category]
      exact zk
    show own_Go p.tables e below (T2.setTop (mkF m 50 #[.val (.ref a), .val (.int k), .val (.int dc), .val (.int fl)] [(.int k), (.ref wf), (.int k), (.ref wf)])) _
    refine own_by (own_ldI X2 hx hZ e2 kAw (j := k) (k := kn) i0 ik hk3 (g := (mkF m 50 #[.val (.ref a), .val (.int k), .val (.int dc), .val (.int fl)] [(.int k), (.ref wf), (.int k), (.ref wf)])) rfl rfl (hb hby d_prog_7_method_3_50)) ?_
    show own_Go p.tables e below (T2.setTop (mkF m 51 #[.val (.ref a), .val (.int k), .val (.int dc), .val (.int fl)] [(.int (fW kn)), (.int k), (.ref wf)])) _
    refine own_by (fun zt zk => XS.iloadN X2.here hx rfl (hb hby d_prog_7_method_3_51) rfl zk) ?_
    show own_Go p.tables e below (T2.setTop (mkF m 52 #[.val (.ref a), .val (.int k), .val (.int dc), .val (.int fl)] [(.int fl), (.int (fW kn)), (.int k), (.ref wf)])) _
    refine own_by (fun zt zk => XS.ior X2.here hx rfl (hb hby d_prog_7_method_3_52) rfl zk) ?_
    show own_Go p.tables e below (T2.setTop (mkF m 53 #[.val (.ref a), .val (.int k), .val (.int dc), .val (.int fl)] [(.int ((fW kn) ||| fl)), (.int k), (.ref wf)])) _
    obtain ⟨T3, hea3, X3, e3, W3, V3, st3⟩ := own_stI X2 hx hZ e2 kAw (j := k) (k := kn) i0 ik hk3 (g := (mkF m 53 #[.val (.ref a), .val (.int k), .val (.int dc), .val (.int fl)] [(.int ((fW kn) ||| fl)), (.int k), (.ref wf)])) rfl rfl (hb hby d_prog_7_method_3_53)
    have N3 := Fr.snoc X3 N0 kgw
    have K3 : Keep h0 hea3 [a, ci, kw, wf] := (Keep.refl h0 [a, ci, kw, wf]).wr W3 (Or.inl (List.mem_of_getElem? (i := 3) rfl))
    refine own_by (st3) ?_
    show own_Go p.tables e below (T3.setTop (mkF m 54 #[.val (.ref a), .val (.int k), .val (.int dc), .val (.int fl)] [])) _
    exact own_retV X3 hx Bd.notSynchronized Bd.returns (hb hby d_prog_7_method_3_54) (by (try rw [e3]); exact ⟨rfl, N3, K3, Or.inl ⟨h1, ⟨(kE.wr W3), (kFc.other W3 (Or.inl kn3)), (kFk.other W3 (Or.inl kn3)), (kFw.other W3 (Or.inl kn3)), (kFn.other W3 (Or.inl kn3)), (kFo.other W3 (Or.inl kn3)), (kAc.other W3 kn5), (kAk.other W3 kn6), V3, kga, kgc, kgk, kgw, kn1, kn2, kn3, kn4, kn5, kn6⟩⟩⟩) (by decide) (by decide)
  · refine own_by (fun zt zk => XS.icmpNo X1.here hx rfl (hb hby d_prog_7_method_3_7) rfl (feq h1).1 zk) ?_
    show own_Go p.tables e below (T1.setTop (mkF m 10 #[.val (.ref a), .val (.int k), .val (.int dc), .val (.int fl)] [])) _
    refine own_by (fun zt zk => XS.aloadN X1.here hx rfl (hb hby d_prog_7_method_3_10) rfl rfl zk) ?_
    show own_Go p.tables e below (T1.setTop (mkF m 11 #[.val (.ref a), .val (.int k), .val (.int dc), .val (.int fl)] [(.ref a)])) _
    obtain ⟨T4, X4, e4, st4⟩ := getF X1 hx hZ hown (host := "") (Or.inl (hw _ (List.mem_of_getElem? (i := 11) rfl))) Via.refl e1 kFc (g := (mkF m 11 #[.val (.ref a), .val (.int k), .val (.int dc), .val (.int fl)] [(.ref a)])) rfl rfl (hb hby d_prog_7_method_3_11)
    refine own_by (st4) ?_
    show own_Go p.tables e below (T4.setTop (mkF m 14 #[.val (.ref a), .val (.int k), .val (.int dc), .val (.int fl)] [(.ref ci)])) _
    refine own_by (fun zt zk => XS.iloadN X4.here hx rfl (hb hby d_prog_7_method_3_14) rfl zk) ?_
    show own_Go p.tables e below (T4.setTop (mkF m 15 #[.val (.ref a), .val (.int k), .val (.int dc), .val (.int fl)] [(.int k), (.ref ci)])) _
    refine own_by (fun zt zk => XS.iloadN X4.here hx rfl (hb hby d_prog_7_method_3_15) rfl zk) ?_
    show own_Go p.tables e below (T4.setTop (mkF m 16 #[.val (.ref a), .val (.int k), .val (.int dc), .val (.int fl)] [(.int dc), (.int k), (.ref ci)])) _
    obtain ⟨T5, hea5, X5, e5, W5, V5, st5⟩ := own_stI X4 hx hZ e4 kAc (j := k) (k := kn) i0 ik hk3 (g := (mkF m 16 #[.val (.ref a), .val (.int k), .val (.int dc), .val (.int fl)] [(.int dc), (.int k), (.ref ci)])) rfl rfl (hb hby d_prog_7_method_3_16)
    have N5 := Fr.snoc X5 N0 kgc
    have K5 : Keep h0 hea5 [a, ci, kw, wf] := (Keep.refl h0 [a, ci, kw, wf]).wr W5 (Or.inl (List.mem_of_getElem? (i := 1) rfl))
    refine own_by (st5) ?_
    show own_Go p.tables e below (T5.setTop (mkF m 17 #[.val (.ref a), .val (.int k), .val (.int dc), .val (.int fl)] [])) _
    refine own_by (fun zt zk => XS.aloadN X5.here hx rfl (hb hby d_prog_7_method_3_17) rfl rfl zk) ?_
    show own_Go p.tables e below (T5.setTop (mkF m 18 #[.val (.ref a), .val (.int k), .val (.int dc), .val (.int fl)] [(.ref a)])) _
    obtain ⟨T6, X6, e6, st6⟩ := getF X5 hx hZ hown (host := "") (Or.inl (hw _ (List.mem_of_getElem? (i := 17) rfl))) Via.refl e5 (kFk.other W5 (Or.inl kn1)) (g := (mkF m 18 #[.val (.ref a), .val (.int k), .val (.int dc), .val (.int fl)] [(.ref a)])) rfl rfl (hb hby d_prog_7_method_3_18)
    refine own_by (st6) ?_
    show own_Go p.tables e below (T6.setTop (mkF m 21 #[.val (.ref a), .val (.int k), .val (.int dc), .val (.int fl)] [(.ref kw)])) _
    refine own_by (fun zt zk => XS.aloadN X6.here hx rfl (hb hby d_prog_7_method_3_21) rfl rfl zk) ?_
    show own_Go p.tables e below (T6.setTop (mkF m 22 #[.val (.ref a), .val (.int k), .val (.int dc), .val (.int fl)] [(.ref a), (.ref kw)])) _
    refine own_by (fun zt zk => XS.dup X6.here hx rfl (hb hby d_prog_7_method_3_22) rfl rfl zk) ?_
    show own_Go p.tables e below (T6.setTop (mkF m 23 #[.val (.ref a), .val (.int k), .val (.int dc), .val (.int fl)] [(.ref a), (.ref a), (.ref kw)])) _
    obtain ⟨T7, X7, e7, st7⟩ := getF X6 hx hZ hown (host := "") (Or.inl (hw _ (List.mem_of_getElem? (i := 36) rfl))) Via.refl e6 (kFn.other W5 (Or.inl kn1)) (g := (mkF m 23 #[.val (.ref a), .val (.int k), .val (.int dc), .val (.int fl)] [(.ref a), (.ref a), (.ref kw)])) rfl rfl (hb hby d_prog_7_method_3_23)
    refine own_by (st7) ?_
    show own_Go p.tables e below (T7.setTop (mkF m 26 #[.val (.ref a), .val (.int k), .val (.int dc), .val (.int fl)] [(.int ct), (.ref a), (.ref kw)])) _
    refine own_by (fun zt zk => XS.dupX1 X7.here hx rfl (hb hby d_prog_7_method_3_26) rfl rfl rfl zk) ?_
    show own_Go p.tables e below (T7.setTop (mkF m 27 #[.val (.ref a), .val (.int k), .val (.int dc), .val (.int fl)] [(.int ct), (.ref a), (.int ct), (.ref kw)])) _
    refine own_by (fun zt zk => XS.iconst X7.here hx rfl (hb hby d_prog_7_method_3_27) zk) ?_
    show own_Go p.tables e below (T7.setTop (mkF m 28 #[.val (.ref a), .val (.int k), .val (.int dc), .val (.int fl)] [(.int (1 : Int32)), (.int ct), (.ref a), (.int ct), (.ref kw)])) _
    refine own_by (fun zt zk => XS.iadd X7.here hx rfl (hb hby d_prog_7_method_3_28) rfl zk) ?_
    show own_Go p.tables e below (T7.setTop (mkF m 29 #[.val (.ref a), .val (.int k), .val (.int dc), .val (.int fl)] [(.int (ct + (1 : Int32))), (.ref a), (.int ct), (.ref kw)])) _
    obtain ⟨T8, hea8, X8, e8, W8, st8⟩ := putF X7 hx hZ hown (host := "") (Or.inl (hw _ (List.mem_of_getElem? (i := 36) rfl))) Via.refl e7 (kFn.other W5 (Or.inl kn1)) (kE.wr W5) (Or.inl (hw _ (List.mem_of_getElem? (i := 37) rfl))) (hw _ (List.mem_of_getElem? (i := 2) rfl)) (ty := .int) (by decide) rfl rfl (g := (mkF m 29 #[.val (.ref a), .val (.int k), .val (.int dc), .val (.int fl)] [(.int (ct + (1 : Int32))), (.ref a), (.int ct), (.ref kw)])) rfl rfl (hb hby d_prog_7_method_3_29)
    have Fw8 := ((kFn.other W5 (Or.inl kn1))).same W8
    have N8 := Fr.snoc X8 N5 kga
    have K8 : Keep h0 hea8 [a, ci, kw, wf] := K5.wr W8 (Or.inl (List.mem_of_getElem? (i := 0) rfl))
    refine own_by (st8) ?_
    show own_Go p.tables e below (T8.setTop (mkF m 32 #[.val (.ref a), .val (.int k), .val (.int dc), .val (.int fl)] [(.int ct), (.ref kw)])) _
    refine own_by (fun zt zk => XS.iloadN X8.here hx rfl (hb hby d_prog_7_method_3_32) rfl zk) ?_
    show own_Go p.tables e below (T8.setTop (mkF m 33 #[.val (.ref a), .val (.int k), .val (.int dc), .val (.int fl)] [(.int k), (.int ct), (.ref kw)])) _
    obtain ⟨T9, hea9, X9, e9, W9, V9, st9⟩ := own_stI X8 hx hZ e8 ((kAk.other W5 (Ne.symm kn4)).other W8 (Ne.symm kn2)) (j := ct) (k := cn) c0 ck hct3 (g := (mkF m 33 #[.val (.ref a), .val (.int k), .val (.int dc), .val (.int fl)] [(.int k), (.int ct), (.ref kw)])) rfl rfl (hb hby d_prog_7_method_3_33)
    have N9 := Fr.snoc X9 N8 kgk
    have K9 : Keep h0 hea9 [a, ci, kw, wf] := K8.wr W9 (Or.inl (List.mem_of_getElem? (i := 2) rfl))
    refine own_by (st9) ?_
    show own_Go p.tables e below (T9.setTop (mkF m 34 #[.val (.ref a), .val (.int k), .val (.int dc), .val (.int fl)] [])) _
    refine own_by (fun zt zk => XS.aloadN X9.here hx rfl (hb hby d_prog_7_method_3_34) rfl rfl zk) ?_
    show own_Go p.tables e below (T9.setTop (mkF m 35 #[.val (.ref a), .val (.int k), .val (.int dc), .val (.int fl)] [(.ref a)])) _
    have c11 := (((kFw.other W5 (Or.inl kn1)).other W8 (Or.inr (slot_ne (Or.inr (hw _ (List.mem_of_getElem? (i := 20) rfl))) (Or.inl (hw _ (List.mem_of_getElem? (i := 37) rfl))) (by decide) (t := (.array .int)) (t' := .int) (by decide) (by decide)))).other W9 (Or.inl kn2))
    obtain ⟨T10, X10, e10, st10⟩ := getF X9 hx hZ hown (host := "") (Or.inl (hw _ (List.mem_of_getElem? (i := 19) rfl))) Via.refl e9 c11 (g := (mkF m 35 #[.val (.ref a), .val (.int k), .val (.int dc), .val (.int fl)] [(.ref a)])) rfl rfl (hb hby d_prog_7_method_3_35)
    refine own_by (st10) ?_
    show own_Go p.tables e below (T10.setTop (mkF m 38 #[.val (.ref a), .val (.int k), .val (.int dc), .val (.int fl)] [(.ref wf)])) _
    refine own_by (fun zt zk => XS.iloadN X10.here hx rfl (hb hby d_prog_7_method_3_38) rfl zk) ?_
    show own_Go p.tables e below (T10.setTop (mkF m 39 #[.val (.ref a), .val (.int k), .val (.int dc), .val (.int fl)] [(.int k), (.ref wf)])) _
    refine own_by (fun zt zk => XS.iloadN X10.here hx rfl (hb hby d_prog_7_method_3_39) rfl zk) ?_
    show own_Go p.tables e below (T10.setTop (mkF m 40 #[.val (.ref a), .val (.int k), .val (.int dc), .val (.int fl)] [(.int fl), (.int k), (.ref wf)])) _
    have c13 := (((kAw.other W5 (Ne.symm kn5)).other W8 (Ne.symm kn3)).other W9 (Ne.symm kn6))
    obtain ⟨T12, hea12, X12, e12, W12, V12, st12⟩ := own_stI X10 hx hZ e10 c13 (j := k) (k := kn) i0 ik hk3 (g := (mkF m 40 #[.val (.ref a), .val (.int k), .val (.int dc), .val (.int fl)] [(.int fl), (.int k), (.ref wf)])) rfl rfl (hb hby d_prog_7_method_3_40)
    have N12 := Fr.snoc X12 N9 kgw
    have K12 : Keep h0 hea12 [a, ci, kw, wf] := K9.wr W12 (Or.inl (List.mem_of_getElem? (i := 3) rfl))
    refine own_by (st12) ?_
    show own_Go p.tables e below (T12.setTop (mkF m 41 #[.val (.ref a), .val (.int k), .val (.int dc), .val (.int fl)] [])) _
    refine own_by (fun zt zk => XS.goto X12.here hx rfl (pc0 := 41) (pc' := 54) rfl (hb hby d_prog_7_method_3_41) (by decide) (by decide) zk) ?_
    show own_Go p.tables e below (T12.setTop (mkF m 54 #[.val (.ref a), .val (.int k), .val (.int dc), .val (.int fl)] [])) _
    have c14 := ((((kFc.other W5 (Or.inl kn1)).other W8 (Or.inr (slot_ne (Or.inr (hw _ (List.mem_of_getElem? (i := 12) rfl))) (Or.inl (hw _ (List.mem_of_getElem? (i := 37) rfl))) (by decide) (t := (.array .int)) (t' := .int) (by decide) (by decide)))).other W9 (Or.inl kn2)).other W12 (Or.inl kn3))
    have c15 := ((((kFk.other W5 (Or.inl kn1)).other W8 (Or.inr (slot_ne (Or.inr (hw _ (List.mem_of_getElem? (i := 18) rfl))) (Or.inl (hw _ (List.mem_of_getElem? (i := 37) rfl))) (by decide) (t := (.array .int)) (t' := .int) (by decide) (by decide)))).other W9 (Or.inl kn2)).other W12 (Or.inl kn3))
    have c16 := ((((kFo.other W5 (Or.inl kn1)).other W8 (Or.inr (slot_ne (Or.inl (hw _ (List.mem_of_getElem? (i := 44) rfl))) (Or.inl (hw _ (List.mem_of_getElem? (i := 37) rfl))) (by decide) (t := .int) (t' := .int) (by decide) (by decide)))).other W9 (Or.inl kn2)).other W12 (Or.inl kn3))
    exact own_retV X12 hx Bd.notSynchronized Bd.returns (hb hby d_prog_7_method_3_54) (by (try rw [e12]); exact ⟨rfl, N12, K12, Or.inr ⟨h1, ⟨((((kE.wr W5).wr W8).wr W9).wr W12), c14, c15, (c11.other W12 (Or.inl kn3)), ((Fw8.other W9 (Or.inl kn2)).other W12 (Or.inl kn3)), c16, (((V5.other W8 (Ne.symm kn1)).other W9 kn4).other W12 kn5), (V9.other W12 kn6), V12, kga, kgc, kgk, kgw, kn1, kn2, kn3, kn4, kn5, kn6⟩⟩⟩) (by decide) (by decide)
theorem d_prog_7_method_2_0 : decode prog_7_method_2_code 0 = .ok (.aload_n 0, 1) := by decide +kernel
theorem d_prog_7_method_2_1 : decode prog_7_method_2_code 1 = .ok (.iconst 0, 1) := by decide +kernel
theorem d_prog_7_method_2_2 : decode prog_7_method_2_code 2 = .ok (.putfield 40, 3) := by decide +kernel
theorem d_prog_7_method_2_5 : decode prog_7_method_2_code 5 = .ok (.iconst 0, 1) := by decide +kernel
theorem d_prog_7_method_2_6 : decode prog_7_method_2_code 6 = .ok (.istore_n 1, 1) := by decide +kernel
theorem d_prog_7_method_2_7 : decode prog_7_method_2_code 7 = .ok (.iload_n 1, 1) := by decide +kernel
theorem d_prog_7_method_2_8 : decode prog_7_method_2_code 8 = .ok (.aload_n 0, 1) := by decide +kernel
theorem d_prog_7_method_2_9 : decode prog_7_method_2_code 9 = .ok (.getfield 44, 3) := by decide +kernel
theorem d_prog_7_method_2_12 : decode prog_7_method_2_code 12 = .ok (.if_icmp .ge 47, 3) := by decide +kernel
theorem d_prog_7_method_2_59 : decode prog_7_method_2_code 59 = .ok (.aload_n 0, 1) := by decide +kernel
theorem d_prog_7_method_2_60 : decode prog_7_method_2_code 60 = .ok (.iconst 0, 1) := by decide +kernel
theorem d_prog_7_method_2_61 : decode prog_7_method_2_code 61 = .ok (.putfield 44, 3) := by decide +kernel
theorem d_prog_7_method_2_64 : decode prog_7_method_2_code 64 = .ok (.return_, 1) := by decide +kernel
def Q_rm_clear (Z : State) (a : Addr) (ci kw wf : Addr) (fC fK fW : Nat → Int32) (ct : Int32) (h0 : Heap) (n0 : Nat) (v : Option Value) (h : Heap) (L : List Loc) : Prop := v = none ∧ Fr n0 L ∧ Keep h0 h [a, ci, kw, wf] ∧ own_CK Z n0 h a ci kw wf fC fK fW (0 : Int32)
theorem ef_rm_clear (m : MethodId) (a : Addr) : entryFrame m #[(.ref a)] 3 = mkF m 0 #[.val (.ref a), .unset, .unset] [] := by first | (simp [entryFrame, mkF, argsToLocals, Value.category]; done) | rfl
set_option maxRecDepth 65536 in
set_option maxHeartbeats 40000000 in
theorem rm_clear (l : Launch) (Z : State) (a0 : Array Value) (hw : ∀ d ∈ tables_1, d.before a0 Z = true) (ws : List Jvm.Cond) (a : Addr) (ci kw wf : Addr) (fC fK fW : Nat → Int32) (ct : Int32) (h0 : Heap) (n0 : Nat) (Z0 : n0 ≤ h0.size) (CK0 : own_CK Z n0 h0 a ci kw wf fC fK fW ct) :
    MetFree l (⟨"com/example/aprox/aprox/CountedKeywords", "clear", "()V"⟩ : MethodName) (head1 (Jvm.Cond.code (⟨"com/example/aprox/aprox/CountedKeywords", "clear", "()V"⟩ : MethodName) prog_7_method_2_code 3 none :: ws) ({ frames := 0, cells := 0, slots := 0, locals := 0 } : Room)) (fun zA zU => zA = #[(.ref a)] ∧ Z.Warmed39 zU.vm ∧ zU.heap = h0) (fun _ _ _ _ _ => True) (fun _ zU zo zW => ∃ zv zL, zo = .returned zv ∧ (Q_rm_clear Z a ci kw wf fC fK fW ct h0 n0) zv zW.heap zL ∧ FrameEnd zU zo zW zL ({ frames := 0, cells := 0, slots := 0, locals := 0 } : Room).cells ({ frames := 0, cells := 0, slots := 0, locals := 0 } : Room).slots) := by
  refine MetFree.of_bodySF (plainFor_of_name pn_52) hisR ?_
  intro p e s m args below meth c s₁ Bd hml0 hP hK
  obtain ⟨rfl, hZ, hh⟩ := hP
  have hx := Bd.exec
  have hby := Bd.bytes
  have hml : c.maxLocals = 3 := hml0
  have hown : s.vm.findClass "com/example/aprox/aprox/CountedKeywords" = some m.cls := findClass_of_methodNamed Bd.named
  have hnm := (name_of_methodNamed Bd.named Bd.method).1
  have X0 : Stand p l e ({ frames := 0, cells := 0, slots := 0, locals := 0 } : Room) s m #[(.ref a)] below meth c s₁ [] 0 0 := Stand.of_body Bd
  have e0 : s₁.heap = h0 := by rw [← hh, Bd.state]; rfl
  have N0 := Fr.nil n0
  refine own_out (Q := Q_rm_clear Z a ci kw wf fC fK fW ct h0 n0) ?_
  refine own_cast (ef_rm_clear m a) ?_
  show own_Go p.tables e below (s₁.setTop (mkF m 0 #[.val (.ref a), .unset, .unset] [])) _
  obtain ⟨kE, kFc, kFk, kFw, kFn, kFo, kAc, kAk, kAw, kga, kgc, kgk, kgw, kn1, kn2, kn3, kn4, kn5, kn6⟩ := CK0
  show own_Go p.tables e below (s₁.setTop (mkF m 0 #[.val (.ref a), .unset, .unset] [])) _
  refine own_by (fun zt zk => XS.aloadN X0.here hx rfl (hb hby d_prog_7_method_2_0) rfl rfl zk) ?_
  show own_Go p.tables e below (s₁.setTop (mkF m 1 #[.val (.ref a), .unset, .unset] [(.ref a)])) _
  refine own_by (fun zt zk => XS.iconst X0.here hx rfl (hb hby d_prog_7_method_2_1) zk) ?_
  show own_Go p.tables e below (s₁.setTop (mkF m 2 #[.val (.ref a), .unset, .unset] [(.int (0 : Int32)), (.ref a)])) _
  obtain ⟨T1, hea1, X1, e1, W1, st1⟩ := putF X0 hx hZ hown (host := "") (Or.inl (hw _ (List.mem_of_getElem? (i := 36) rfl))) Via.refl e0 kFn kE (Or.inl (hw _ (List.mem_of_getElem? (i := 37) rfl))) (hw _ (List.mem_of_getElem? (i := 2) rfl)) (ty := .int) (by decide) rfl rfl (g := (mkF m 2 #[.val (.ref a), .unset, .unset] [(.int (0 : Int32)), (.ref a)])) rfl rfl (hb hby d_prog_7_method_2_2)
  have Fw1 := (kFn).same W1
  have N1 := Fr.snoc X1 N0 kga
  have K1 : Keep h0 hea1 [a, ci, kw, wf] := (Keep.refl h0 [a, ci, kw, wf]).wr W1 (Or.inl (List.mem_of_getElem? (i := 0) rfl))
  refine own_by (st1) ?_
  show own_Go p.tables e below (T1.setTop (mkF m 5 #[.val (.ref a), .unset, .unset] [])) _
  refine own_by (fun zt zk => XS.iconst X1.here hx rfl (hb hby d_prog_7_method_2_5) zk) ?_
  show own_Go p.tables e below (T1.setTop (mkF m 6 #[.val (.ref a), .unset, .unset] [(.int (0 : Int32))])) _
  refine own_by (fun zt zk => XS.istoreN X1.here hx rfl (hb hby d_prog_7_method_2_6) rfl (l' := #[.val (.ref a), .val (.int (0 : Int32)), .unset]) rfl zk) ?_
  show own_Go p.tables e below (T1.setTop (mkF m 7 #[.val (.ref a), .val (.int (0 : Int32)), .unset] [])) _
  refine own_by (fun zt zk => XS.iloadN X1.here hx rfl (hb hby d_prog_7_method_2_7) rfl zk) ?_
  show own_Go p.tables e below (T1.setTop (mkF m 8 #[.val (.ref a), .val (.int (0 : Int32)), .unset] [(.int (0 : Int32))])) _
  refine own_by (fun zt zk => XS.aloadN X1.here hx rfl (hb hby d_prog_7_method_2_8) rfl rfl zk) ?_
  show own_Go p.tables e below (T1.setTop (mkF m 9 #[.val (.ref a), .val (.int (0 : Int32)), .unset] [(.ref a), (.int (0 : Int32))])) _
  have c3 := (kFo.other W1 (Or.inr (slot_ne (Or.inl (hw _ (List.mem_of_getElem? (i := 44) rfl))) (Or.inl (hw _ (List.mem_of_getElem? (i := 37) rfl))) (by decide) (t := .int) (t' := .int) (by decide) (by decide))))
  obtain ⟨T2, X2, e2, st2⟩ := getF X1 hx hZ hown (host := "") (Or.inl (hw _ (List.mem_of_getElem? (i := 43) rfl))) Via.refl e1 c3 (g := (mkF m 9 #[.val (.ref a), .val (.int (0 : Int32)), .unset] [(.ref a), (.int (0 : Int32))])) rfl rfl (hb hby d_prog_7_method_2_9)
  refine own_by (st2) ?_
  show own_Go p.tables e below (T2.setTop (mkF m 12 #[.val (.ref a), .val (.int (0 : Int32)), .unset] [(.int (0 : Int32)), (.int (0 : Int32))])) _
  refine own_by (fun zt zk => XS.icmpYes X2.here hx rfl (pc0 := 12) (pc' := 59) rfl (hb hby d_prog_7_method_2_12) rfl (flt (by decide)).2.1 (by decide) (by decide) zk) ?_
  show own_Go p.tables e below (T2.setTop (mkF m 59 #[.val (.ref a), .val (.int (0 : Int32)), .unset] [])) _
  refine own_by (fun zt zk => XS.aloadN X2.here hx rfl (hb hby d_prog_7_method_2_59) rfl rfl zk) ?_
  show own_Go p.tables e below (T2.setTop (mkF m 60 #[.val (.ref a), .val (.int (0 : Int32)), .unset] [(.ref a)])) _
  refine own_by (fun zt zk => XS.iconst X2.here hx rfl (hb hby d_prog_7_method_2_60) zk) ?_
  show own_Go p.tables e below (T2.setTop (mkF m 61 #[.val (.ref a), .val (.int (0 : Int32)), .unset] [(.int (0 : Int32)), (.ref a)])) _
  obtain ⟨T4, hea4, X4, e4, W4, st4⟩ := putF X2 hx hZ hown (host := "") (Or.inl (hw _ (List.mem_of_getElem? (i := 43) rfl))) Via.refl e2 c3 (kE.wr W1) (Or.inl (hw _ (List.mem_of_getElem? (i := 44) rfl))) (hw _ (List.mem_of_getElem? (i := 2) rfl)) (ty := .int) (by decide) rfl rfl (g := (mkF m 61 #[.val (.ref a), .val (.int (0 : Int32)), .unset] [(.int (0 : Int32)), (.ref a)])) rfl rfl (hb hby d_prog_7_method_2_61)
  have Fw4 := (c3).same W4
  have N4 := Fr.snoc X4 N1 kga
  have K4 : Keep h0 hea4 [a, ci, kw, wf] := K1.wr W4 (Or.inl (List.mem_of_getElem? (i := 0) rfl))
  refine own_by (st4) ?_
  show own_Go p.tables e below (T4.setTop (mkF m 64 #[.val (.ref a), .val (.int (0 : Int32)), .unset] [])) _
  have c5 := ((kFc.other W1 (Or.inr (slot_ne (Or.inr (hw _ (List.mem_of_getElem? (i := 12) rfl))) (Or.inl (hw _ (List.mem_of_getElem? (i := 37) rfl))) (by decide) (t := (.array .int)) (t' := .int) (by decide) (by decide)))).other W4 (Or.inr (slot_ne (Or.inr (hw _ (List.mem_of_getElem? (i := 12) rfl))) (Or.inl (hw _ (List.mem_of_getElem? (i := 44) rfl))) (by decide) (t := (.array .int)) (t' := .int) (by decide) (by decide))))
  have c6 := ((kFk.other W1 (Or.inr (slot_ne (Or.inr (hw _ (List.mem_of_getElem? (i := 18) rfl))) (Or.inl (hw _ (List.mem_of_getElem? (i := 37) rfl))) (by decide) (t := (.array .int)) (t' := .int) (by decide) (by decide)))).other W4 (Or.inr (slot_ne (Or.inr (hw _ (List.mem_of_getElem? (i := 18) rfl))) (Or.inl (hw _ (List.mem_of_getElem? (i := 44) rfl))) (by decide) (t := (.array .int)) (t' := .int) (by decide) (by decide))))
  have c7 := ((kFw.other W1 (Or.inr (slot_ne (Or.inr (hw _ (List.mem_of_getElem? (i := 20) rfl))) (Or.inl (hw _ (List.mem_of_getElem? (i := 37) rfl))) (by decide) (t := (.array .int)) (t' := .int) (by decide) (by decide)))).other W4 (Or.inr (slot_ne (Or.inr (hw _ (List.mem_of_getElem? (i := 20) rfl))) (Or.inl (hw _ (List.mem_of_getElem? (i := 44) rfl))) (by decide) (t := (.array .int)) (t' := .int) (by decide) (by decide))))
  have c8 := (Fw1.other W4 (Or.inr (slot_ne (Or.inl (hw _ (List.mem_of_getElem? (i := 37) rfl))) (Or.inl (hw _ (List.mem_of_getElem? (i := 44) rfl))) (by decide) (t := .int) (t' := .int) (by decide) (by decide))))
  exact own_retV X4 hx Bd.notSynchronized Bd.returns (hb hby d_prog_7_method_2_64) (by (try rw [e4]); exact ⟨rfl, N4, K4, ⟨((kE.wr W1).wr W4), c5, c6, c7, c8, Fw4, ((kAc.other W1 (Ne.symm kn1)).other W4 (Ne.symm kn1)), ((kAk.other W1 (Ne.symm kn2)).other W4 (Ne.symm kn2)), ((kAw.other W1 (Ne.symm kn3)).other W4 (Ne.symm kn3)), kga, kgc, kgk, kgw, kn1, kn2, kn3, kn4, kn5, kn6⟩⟩) (by decide) (by decide)
theorem d_prog_7_method_6_0 : decode prog_7_method_6_code 0 = .ok (.aload_n 0, 1) := by decide +kernel
theorem d_prog_7_method_6_1 : decode prog_7_method_6_code 1 = .ok (.getfield 40, 3) := by decide +kernel
theorem d_prog_7_method_6_4 : decode prog_7_method_6_code 4 = .ok (.ireturn, 1) := by decide +kernel
theorem ef_rm_count (m : MethodId) (a : Addr) : entryFrame m #[(.ref a)] 1 = mkF m 0 #[.val (.ref a)] [] := by first | (simp [entryFrame, mkF, argsToLocals, Value.category]; done) | rfl
set_option maxRecDepth 65536 in
set_option maxHeartbeats 40000000 in
theorem rm_count (l : Launch) (Z : State) (a0 : Array Value) (hw : ∀ d ∈ tables_1, d.before a0 Z = true) (ws : List Jvm.Cond) (a : Addr) (ci kw wf : Addr) (fC fK fW : Nat → Int32) (ct : Int32) (h0 : Heap) (n0 : Nat) (Z0 : n0 ≤ h0.size) (CK0 : own_CK Z n0 h0 a ci kw wf fC fK fW ct) :
    MetFree l (⟨"com/example/aprox/aprox/CountedKeywords", "count", "()I"⟩ : MethodName) (head1 (Jvm.Cond.code (⟨"com/example/aprox/aprox/CountedKeywords", "count", "()I"⟩ : MethodName) prog_7_method_6_code 1 (some .int) :: ws) ({ frames := 0, cells := 0, slots := 0, locals := 0 } : Room)) (fun zA zU => zA = #[(.ref a)] ∧ Z.Warmed39 zU.vm ∧ zU.heap = h0) (fun _ _ _ _ _ => True) (fun _ zU zo zW => ∃ zv zL, zo = .returned zv ∧ (own_QI h0 n0 ct) zv zW.heap zL ∧ FrameEnd zU zo zW zL ({ frames := 0, cells := 0, slots := 0, locals := 0 } : Room).cells ({ frames := 0, cells := 0, slots := 0, locals := 0 } : Room).slots) := by
  refine MetFree.of_bodySF (plainFor_of_name pn_52) hisR ?_
  intro p e s m args below meth c s₁ Bd hml0 hP hK
  obtain ⟨rfl, hZ, hh⟩ := hP
  have hx := Bd.exec
  have hby := Bd.bytes
  have hml : c.maxLocals = 1 := hml0
  have hown : s.vm.findClass "com/example/aprox/aprox/CountedKeywords" = some m.cls := findClass_of_methodNamed Bd.named
  have hnm := (name_of_methodNamed Bd.named Bd.method).1
  have X0 : Stand p l e ({ frames := 0, cells := 0, slots := 0, locals := 0 } : Room) s m #[(.ref a)] below meth c s₁ [] 0 0 := Stand.of_body Bd
  have e0 : s₁.heap = h0 := by rw [← hh, Bd.state]; rfl
  have N0 := Fr.nil n0
  refine own_out (Q := own_QI h0 n0 ct) ?_
  refine own_cast (ef_rm_count m a) ?_
  show own_Go p.tables e below (s₁.setTop (mkF m 0 #[.val (.ref a)] [])) _
  obtain ⟨kE, kFc, kFk, kFw, kFn, kFo, kAc, kAk, kAw, kga, kgc, kgk, kgw, kn1, kn2, kn3, kn4, kn5, kn6⟩ := CK0
  show own_Go p.tables e below (s₁.setTop (mkF m 0 #[.val (.ref a)] [])) _
  refine own_by (fun zt zk => XS.aloadN X0.here hx rfl (hb hby d_prog_7_method_6_0) rfl rfl zk) ?_
  show own_Go p.tables e below (s₁.setTop (mkF m 1 #[.val (.ref a)] [(.ref a)])) _
  obtain ⟨T1, X1, e1, st1⟩ := getF X0 hx hZ hown (host := "") (Or.inl (hw _ (List.mem_of_getElem? (i := 36) rfl))) Via.refl e0 kFn (g := (mkF m 1 #[.val (.ref a)] [(.ref a)])) rfl rfl (hb hby d_prog_7_method_6_1)
  refine own_by (st1) ?_
  show own_Go p.tables e below (T1.setTop (mkF m 4 #[.val (.ref a)] [(.int ct)])) _
  exact own_retI X1 hx Bd.notSynchronized Bd.returns (hb hby d_prog_7_method_6_4) (by (try rw [e1]); exact ⟨_, rfl, N0, rfl, rfl⟩) (by decide) (by decide)
theorem d_prog_7_method_7_0 : decode prog_7_method_7_code 0 = .ok (.aload_n 0, 1) := by decide +kernel
theorem d_prog_7_method_7_1 : decode prog_7_method_7_code 1 = .ok (.getfield 19, 3) := by decide +kernel
theorem d_prog_7_method_7_4 : decode prog_7_method_7_code 4 = .ok (.iload_n 1, 1) := by decide +kernel
theorem d_prog_7_method_7_5 : decode prog_7_method_7_code 5 = .ok (.iaload, 1) := by decide +kernel
theorem d_prog_7_method_7_6 : decode prog_7_method_7_code 6 = .ok (.ireturn, 1) := by decide +kernel
theorem ef_rm_kw (m : MethodId) (a : Addr) (k : Int32) : entryFrame m #[(.ref a), (.int k)] 2 = mkF m 0 #[.val (.ref a), .val (.int k)] [] := by first | (simp [entryFrame, mkF, argsToLocals, Value.category]; done) | rfl
set_option maxRecDepth 65536 in
set_option maxHeartbeats 40000000 in
theorem rm_kw (l : Launch) (Z : State) (a0 : Array Value) (hw : ∀ d ∈ tables_1, d.before a0 Z = true) (ws : List Jvm.Cond) (a : Addr) (k : Int32) (ci kw wf : Addr) (fC fK fW : Nat → Int32) (ct : Int32) (kn : Nat) (h0 : Heap) (n0 : Nat) (Z0 : n0 ≤ h0.size) (CK0 : own_CK Z n0 h0 a ci kw wf fC fK fW ct) (hk : k = Int32.ofNat kn) (hk3 : kn < 3) :
    MetFree l (⟨"com/example/aprox/aprox/CountedKeywords", "keyword", "(I)I"⟩ : MethodName) (head1 (Jvm.Cond.code (⟨"com/example/aprox/aprox/CountedKeywords", "keyword", "(I)I"⟩ : MethodName) prog_7_method_7_code 2 (some .int) :: ws) ({ frames := 0, cells := 0, slots := 0, locals := 0 } : Room)) (fun zA zU => zA = #[(.ref a), (.int k)] ∧ Z.Warmed39 zU.vm ∧ zU.heap = h0) (fun _ _ _ _ _ => True) (fun _ zU zo zW => ∃ zv zL, zo = .returned zv ∧ (own_QI h0 n0 (fK kn)) zv zW.heap zL ∧ FrameEnd zU zo zW zL ({ frames := 0, cells := 0, slots := 0, locals := 0 } : Room).cells ({ frames := 0, cells := 0, slots := 0, locals := 0 } : Room).slots) := by
  refine MetFree.of_bodySF (plainFor_of_name pn_52) hisR ?_
  intro p e s m args below meth c s₁ Bd hml0 hP hK
  obtain ⟨rfl, hZ, hh⟩ := hP
  have hx := Bd.exec
  have hby := Bd.bytes
  have hml : c.maxLocals = 2 := hml0
  have hown : s.vm.findClass "com/example/aprox/aprox/CountedKeywords" = some m.cls := findClass_of_methodNamed Bd.named
  have hnm := (name_of_methodNamed Bd.named Bd.method).1
  have X0 : Stand p l e ({ frames := 0, cells := 0, slots := 0, locals := 0 } : Room) s m #[(.ref a), (.int k)] below meth c s₁ [] 0 0 := Stand.of_body Bd
  have e0 : s₁.heap = h0 := by rw [← hh, Bd.state]; rfl
  have N0 := Fr.nil n0
  refine own_out (Q := own_QI h0 n0 (fK kn)) ?_
  refine own_cast (ef_rm_kw m a k) ?_
  show own_Go p.tables e below (s₁.setTop (mkF m 0 #[.val (.ref a), .val (.int k)] [])) _
  obtain ⟨kE, kFc, kFk, kFw, kFn, kFo, kAc, kAk, kAw, kga, kgc, kgk, kgw, kn1, kn2, kn3, kn4, kn5, kn6⟩ := CK0
  show own_Go p.tables e below (s₁.setTop (mkF m 0 #[.val (.ref a), .val (.int k)] [])) _
  obtain ⟨i0, ik⟩ := own_ixN hk hk3
  refine own_by (fun zt zk => XS.aloadN X0.here hx rfl (hb hby d_prog_7_method_7_0) rfl rfl zk) ?_
  show own_Go p.tables e below (s₁.setTop (mkF m 1 #[.val (.ref a), .val (.int k)] [(.ref a)])) _
  obtain ⟨T1, X1, e1, st1⟩ := getF X0 hx hZ hown (host := "") (Or.inl (hw _ (List.mem_of_getElem? (i := 17) rfl))) Via.refl e0 kFk (g := (mkF m 1 #[.val (.ref a), .val (.int k)] [(.ref a)])) rfl rfl (hb hby d_prog_7_method_7_1)
  refine own_by (st1) ?_
  show own_Go p.tables e below (T1.setTop (mkF m 4 #[.val (.ref a), .val (.int k)] [(.ref kw)])) _
  refine own_by (fun zt zk => XS.iloadN X1.here hx rfl (hb hby d_prog_7_method_7_4) rfl zk) ?_
  show own_Go p.tables e below (T1.setTop (mkF m 5 #[.val (.ref a), .val (.int k)] [(.int k), (.ref kw)])) _
  refine own_by (own_ldI X1 hx hZ e1 kAk (j := k) (k := kn) i0 ik hk3 (g := (mkF m 5 #[.val (.ref a), .val (.int k)] [(.int k), (.ref kw)])) rfl rfl (hb hby d_prog_7_method_7_5)) ?_
  show own_Go p.tables e below (T1.setTop (mkF m 6 #[.val (.ref a), .val (.int k)] [(.int (fK kn))])) _
  exact own_retI X1 hx Bd.notSynchronized Bd.returns (hb hby d_prog_7_method_7_6) (by (try rw [e1]); exact ⟨_, rfl, N0, rfl, rfl⟩) (by decide) (by decide)
theorem d_prog_7_method_8_0 : decode prog_7_method_8_code 0 = .ok (.aload_n 0, 1) := by decide +kernel
theorem d_prog_7_method_8_1 : decode prog_7_method_8_code 1 = .ok (.getfield 22, 3) := by decide +kernel
theorem d_prog_7_method_8_4 : decode prog_7_method_8_code 4 = .ok (.iload_n 1, 1) := by decide +kernel
theorem d_prog_7_method_8_5 : decode prog_7_method_8_code 5 = .ok (.iaload, 1) := by decide +kernel
theorem d_prog_7_method_8_6 : decode prog_7_method_8_code 6 = .ok (.ireturn, 1) := by decide +kernel
theorem ef_rm_wf (m : MethodId) (a : Addr) (k : Int32) : entryFrame m #[(.ref a), (.int k)] 2 = mkF m 0 #[.val (.ref a), .val (.int k)] [] := by first | (simp [entryFrame, mkF, argsToLocals, Value.category]; done) | rfl
set_option maxRecDepth 65536 in
set_option maxHeartbeats 40000000 in
theorem rm_wf (l : Launch) (Z : State) (a0 : Array Value) (hw : ∀ d ∈ tables_1, d.before a0 Z = true) (ws : List Jvm.Cond) (a : Addr) (k : Int32) (ci kw wf : Addr) (fC fK fW : Nat → Int32) (ct : Int32) (kn : Nat) (h0 : Heap) (n0 : Nat) (Z0 : n0 ≤ h0.size) (CK0 : own_CK Z n0 h0 a ci kw wf fC fK fW ct) (hk : k = Int32.ofNat kn) (hk3 : kn < 3) :
    MetFree l (⟨"com/example/aprox/aprox/CountedKeywords", "wholeFields", "(I)I"⟩ : MethodName) (head1 (Jvm.Cond.code (⟨"com/example/aprox/aprox/CountedKeywords", "wholeFields", "(I)I"⟩ : MethodName) prog_7_method_8_code 2 (some .int) :: ws) ({ frames := 0, cells := 0, slots := 0, locals := 0 } : Room)) (fun zA zU => zA = #[(.ref a), (.int k)] ∧ Z.Warmed39 zU.vm ∧ zU.heap = h0) (fun _ _ _ _ _ => True) (fun _ zU zo zW => ∃ zv zL, zo = .returned zv ∧ (own_QI h0 n0 (fW kn)) zv zW.heap zL ∧ FrameEnd zU zo zW zL ({ frames := 0, cells := 0, slots := 0, locals := 0 } : Room).cells ({ frames := 0, cells := 0, slots := 0, locals := 0 } : Room).slots) := by
  refine MetFree.of_bodySF (plainFor_of_name pn_52) hisR ?_
  intro p e s m args below meth c s₁ Bd hml0 hP hK
  obtain ⟨rfl, hZ, hh⟩ := hP
  have hx := Bd.exec
  have hby := Bd.bytes
  have hml : c.maxLocals = 2 := hml0
  have hown : s.vm.findClass "com/example/aprox/aprox/CountedKeywords" = some m.cls := findClass_of_methodNamed Bd.named
  have hnm := (name_of_methodNamed Bd.named Bd.method).1
  have X0 : Stand p l e ({ frames := 0, cells := 0, slots := 0, locals := 0 } : Room) s m #[(.ref a), (.int k)] below meth c s₁ [] 0 0 := Stand.of_body Bd
  have e0 : s₁.heap = h0 := by rw [← hh, Bd.state]; rfl
  have N0 := Fr.nil n0
  refine own_out (Q := own_QI h0 n0 (fW kn)) ?_
  refine own_cast (ef_rm_wf m a k) ?_
  show own_Go p.tables e below (s₁.setTop (mkF m 0 #[.val (.ref a), .val (.int k)] [])) _
  obtain ⟨kE, kFc, kFk, kFw, kFn, kFo, kAc, kAk, kAw, kga, kgc, kgk, kgw, kn1, kn2, kn3, kn4, kn5, kn6⟩ := CK0
  show own_Go p.tables e below (s₁.setTop (mkF m 0 #[.val (.ref a), .val (.int k)] [])) _
  obtain ⟨i0, ik⟩ := own_ixN hk hk3
  refine own_by (fun zt zk => XS.aloadN X0.here hx rfl (hb hby d_prog_7_method_8_0) rfl rfl zk) ?_
  show own_Go p.tables e below (s₁.setTop (mkF m 1 #[.val (.ref a), .val (.int k)] [(.ref a)])) _
  obtain ⟨T1, X1, e1, st1⟩ := getF X0 hx hZ hown (host := "") (Or.inl (hw _ (List.mem_of_getElem? (i := 19) rfl))) Via.refl e0 kFw (g := (mkF m 1 #[.val (.ref a), .val (.int k)] [(.ref a)])) rfl rfl (hb hby d_prog_7_method_8_1)
  refine own_by (st1) ?_
  show own_Go p.tables e below (T1.setTop (mkF m 4 #[.val (.ref a), .val (.int k)] [(.ref wf)])) _
  refine own_by (fun zt zk => XS.iloadN X1.here hx rfl (hb hby d_prog_7_method_8_4) rfl zk) ?_
  show own_Go p.tables e below (T1.setTop (mkF m 5 #[.val (.ref a), .val (.int k)] [(.int k), (.ref wf)])) _
  refine own_by (own_ldI X1 hx hZ e1 kAw (j := k) (k := kn) i0 ik hk3 (g := (mkF m 5 #[.val (.ref a), .val (.int k)] [(.int k), (.ref wf)])) rfl rfl (hb hby d_prog_7_method_8_5)) ?_
  show own_Go p.tables e below (T1.setTop (mkF m 6 #[.val (.ref a), .val (.int k)] [(.int (fW kn))])) _
  exact own_retI X1 hx Bd.notSynchronized Bd.returns (hb hby d_prog_7_method_8_6) (by (try rw [e1]); exact ⟨_, rfl, N0, rfl, rfl⟩) (by decide) (by decide)
theorem pd_116 : parseMethodDescriptor "(I)V" = some ⟨[.int], none⟩ := by decide +kernel
theorem pd_117 : parseMethodDescriptor "(III)V" = some ⟨[.int, .int, .int], none⟩ := by decide +kernel
theorem pd_118 : parseMethodDescriptor "()V" = some ⟨[], none⟩ := by decide +kernel
theorem pd_119 : parseMethodDescriptor "()I" = some ⟨[], some .int⟩ := by decide +kernel
theorem pd_120 : parseMethodDescriptor "(I)I" = some ⟨[.int], some .int⟩ := by decide +kernel
theorem ef_rm_law (m : MethodId) (keys : Int32) (docs : Int64) (f1 : Int32) (f2 : Int32) (f3 : Int32) (f4 : Int32) : entryFrame m #[(.int keys), (.long docs), (.int f1), (.int f2), (.int f3), (.int f4)] maxLocals = mkF m 0 #[.val (.int keys), .val (.long docs), .second, .val (.int f1), .val (.int f2), .val (.int f3), .val (.int f4), .unset, .unset, .unset, .unset, .unset, .unset, .unset, .unset, .unset, .unset] [] := by first | (simp [entryFrame, mkF, argsToLocals, Value.category, maxLocals]; done) | rfl
theorem pn_121 : plainName "com/example/aprox/aprox/CountedKeywordsAddPinLaw" = true := by first | (simp [plainName, overriddenIn]; done) | decide +kernel
set_option maxRecDepth 65536 in
set_option maxHeartbeats 40000000 in
theorem rm_law (l : Launch) (Z : State) (a0 : Array Value) (hw : ∀ d ∈ tables_1, d.before a0 Z = true) (ws : List Jvm.Cond) (keys : Int32) (docs : Int64) (f1 : Int32) (f2 : Int32) (f3 : Int32) (f4 : Int32) (h0 : Heap) (n0 : Nat) (Z0 : n0 ≤ h0.size)  :
    MetFree l x (head1 (Jvm.Cond.code x code maxLocals ret :: ws) room_1) (fun zA zU => zA = #[(.int keys), (.long docs), (.int f1), (.int f2), (.int f3), (.int f4)] ∧ Z.Warmed39 zU.vm ∧ zU.heap = h0) (fun _ _ _ _ _ => True) (fun _ zU zo zW => ∃ zv zL, zo = .returned zv ∧ (fun v h L => v = some (.int 1) ∧ Fr n0 L) zv zW.heap zL ∧ FrameEnd zU zo zW zL 8 30) := by
  refine MetFree.of_bodySF (plainFor_of_name pn_121) hisR ?_
  intro p e s m args below meth c s₁ Bd hml0 hP hK
  obtain ⟨rfl, hZ, hh⟩ := hP
  have hx := Bd.exec
  have hby := Bd.bytes
  have hml : c.maxLocals = 17 := hml0
  have hown : s.vm.findClass "com/example/aprox/aprox/CountedKeywordsAddPinLaw" = some m.cls := findClass_of_methodNamed Bd.named
  have hnm := (name_of_methodNamed Bd.named Bd.method).1
  have X0 : Stand p l e room_1 s m #[(.int keys), (.long docs), (.int f1), (.int f2), (.int f3), (.int f4)] below meth c s₁ [] 0 0 := Stand.of_body Bd
  have e0 : s₁.heap = h0 := by rw [← hh, Bd.state]; rfl
  have N0 := Fr.nil n0
  refine own_out (Q := fun v h L => v = some (.int 1) ∧ Fr n0 L) ?_
  refine own_cast (ef_rm_law m keys docs f1 f2 f3 f4) ?_
  show own_Go p.tables e below (s₁.setTop (mkF m 0 #[.val (.int keys), .val (.long docs), .second, .val (.int f1), .val (.int f2), .val (.int f3), .val (.int f4), .unset, .unset, .unset, .unset, .unset, .unset, .unset, .unset, .unset, .unset] [])) _
  refine own_by (fun zt zk => XS.iloadN X0.here hx rfl (hb hby at_0) rfl zk) ?_
  show own_Go p.tables e below (s₁.setTop (mkF m 1 #[.val (.int keys), .val (.long docs), .second, .val (.int f1), .val (.int f2), .val (.int f3), .val (.int f4), .unset, .unset, .unset, .unset, .unset, .unset, .unset, .unset, .unset, .unset] [(.int keys)])) _
  refine own_by (fun zt zk => XS.sipush X0.here hx rfl (hb hby at_1) zk) ?_
  show own_Go p.tables e below (s₁.setTop (mkF m 4 #[.val (.int keys), .val (.long docs), .second, .val (.int f1), .val (.int f2), .val (.int f3), .val (.int f4), .unset, .unset, .unset, .unset, .unset, .unset, .unset, .unset, .unset, .unset] [(.int (255 : Int32)), (.int keys)])) _
  refine own_by (fun zt zk => XS.iand X0.here hx rfl (hb hby at_4) rfl zk) ?_
  show own_Go p.tables e below (s₁.setTop (mkF m 5 #[.val (.int keys), .val (.long docs), .second, .val (.int f1), .val (.int f2), .val (.int f3), .val (.int f4), .unset, .unset, .unset, .unset, .unset, .unset, .unset, .unset, .unset, .unset] [(.int (keys &&& (255 : Int32)))])) _
  refine own_by (fun zt zk => XS.iconst X0.here hx rfl (hb hby at_5) zk) ?_
  show own_Go p.tables e below (s₁.setTop (mkF m 6 #[.val (.int keys), .val (.long docs), .second, .val (.int f1), .val (.int f2), .val (.int f3), .val (.int f4), .unset, .unset, .unset, .unset, .unset, .unset, .unset, .unset, .unset, .unset] [(.int (3 : Int32)), (.int (keys &&& (255 : Int32)))])) _
  refine own_by (fun zt zk => Jvm.RoadKit.iremM X0 hx rfl (hb hby at_6) rfl (by decide) zk) ?_
  show own_Go p.tables e below (s₁.setTop (mkF m 7 #[.val (.int keys), .val (.long docs), .second, .val (.int f1), .val (.int f2), .val (.int f3), .val (.int f4), .unset, .unset, .unset, .unset, .unset, .unset, .unset, .unset, .unset, .unset] [(.int ((keys &&& (255 : Int32)) % (3 : Int32)))])) _
  obtain ⟨k1, hk1⟩ : ∃ z, z = ((keys &&& (255 : Int32)) % (3 : Int32)) := ⟨_, rfl⟩
  rw [← hk1]
  show own_Go p.tables e below (s₁.setTop (mkF m 7 #[.val (.int keys), .val (.long docs), .second, .val (.int f1), .val (.int f2), .val (.int f3), .val (.int f4), .unset, .unset, .unset, .unset, .unset, .unset, .unset, .unset, .unset, .unset] [(.int k1)])) _
  obtain ⟨n1, hn1, hm1⟩ : ∃ n : Nat, n < 3 ∧ k1 = Int32.ofNat n := own_k3 hk1
  refine own_by (fun zt zk => XS.istore X0.here hx rfl (hb hby at_7) rfl (l' := #[.val (.int keys), .val (.long docs), .second, .val (.int f1), .val (.int f2), .val (.int f3), .val (.int f4), .val (.int k1), .unset, .unset, .unset, .unset, .unset, .unset, .unset, .unset, .unset]) rfl zk) ?_
  show own_Go p.tables e below (s₁.setTop (mkF m 9 #[.val (.int keys), .val (.long docs), .second, .val (.int f1), .val (.int f2), .val (.int f3), .val (.int f4), .val (.int k1), .unset, .unset, .unset, .unset, .unset, .unset, .unset, .unset, .unset] [])) _
  refine own_by (fun zt zk => XS.iloadN X0.here hx rfl (hb hby at_9) rfl zk) ?_
  show own_Go p.tables e below (s₁.setTop (mkF m 10 #[.val (.int keys), .val (.long docs), .second, .val (.int f1), .val (.int f2), .val (.int f3), .val (.int f4), .val (.int k1), .unset, .unset, .unset, .unset, .unset, .unset, .unset, .unset, .unset] [(.int keys)])) _
  refine own_by (fun zt zk => XS.bipush X0.here hx rfl (hb hby at_10) zk) ?_
  show own_Go p.tables e below (s₁.setTop (mkF m 12 #[.val (.int keys), .val (.long docs), .second, .val (.int f1), .val (.int f2), .val (.int f3), .val (.int f4), .val (.int k1), .unset, .unset, .unset, .unset, .unset, .unset, .unset, .unset, .unset] [(.int (8 : Int32)), (.int keys)])) _
  refine own_by (fun zt zk => XS.iushr X0.here hx rfl (hb hby at_12) rfl zk) ?_
  show own_Go p.tables e below (s₁.setTop (mkF m 13 #[.val (.int keys), .val (.long docs), .second, .val (.int f1), .val (.int f2), .val (.int f3), .val (.int f4), .val (.int k1), .unset, .unset, .unset, .unset, .unset, .unset, .unset, .unset, .unset] [(.int ((keys.toUInt32 >>> ((8 : Int32) &&& 31).toUInt32).toInt32))])) _
  refine own_by (fun zt zk => XS.sipush X0.here hx rfl (hb hby at_13) zk) ?_
  show own_Go p.tables e below (s₁.setTop (mkF m 16 #[.val (.int keys), .val (.long docs), .second, .val (.int f1), .val (.int f2), .val (.int f3), .val (.int f4), .val (.int k1), .unset, .unset, .unset, .unset, .unset, .unset, .unset, .unset, .unset] [(.int (255 : Int32)), (.int ((keys.toUInt32 >>> ((8 : Int32) &&& 31).toUInt32).toInt32))])) _
  refine own_by (fun zt zk => XS.iand X0.here hx rfl (hb hby at_16) rfl zk) ?_
  show own_Go p.tables e below (s₁.setTop (mkF m 17 #[.val (.int keys), .val (.long docs), .second, .val (.int f1), .val (.int f2), .val (.int f3), .val (.int f4), .val (.int k1), .unset, .unset, .unset, .unset, .unset, .unset, .unset, .unset, .unset] [(.int (((keys.toUInt32 >>> ((8 : Int32) &&& 31).toUInt32).toInt32) &&& (255 : Int32)))])) _
  refine own_by (fun zt zk => XS.iconst X0.here hx rfl (hb hby at_17) zk) ?_
  show own_Go p.tables e below (s₁.setTop (mkF m 18 #[.val (.int keys), .val (.long docs), .second, .val (.int f1), .val (.int f2), .val (.int f3), .val (.int f4), .val (.int k1), .unset, .unset, .unset, .unset, .unset, .unset, .unset, .unset, .unset] [(.int (3 : Int32)), (.int (((keys.toUInt32 >>> ((8 : Int32) &&& 31).toUInt32).toInt32) &&& (255 : Int32)))])) _
  refine own_by (fun zt zk => Jvm.RoadKit.iremM X0 hx rfl (hb hby at_18) rfl (by decide) zk) ?_
  show own_Go p.tables e below (s₁.setTop (mkF m 19 #[.val (.int keys), .val (.long docs), .second, .val (.int f1), .val (.int f2), .val (.int f3), .val (.int f4), .val (.int k1), .unset, .unset, .unset, .unset, .unset, .unset, .unset, .unset, .unset] [(.int ((((keys.toUInt32 >>> ((8 : Int32) &&& 31).toUInt32).toInt32) &&& (255 : Int32)) % (3 : Int32)))])) _
  obtain ⟨k2, hk2⟩ : ∃ z, z = ((((keys.toUInt32 >>> ((8 : Int32) &&& 31).toUInt32).toInt32) &&& (255 : Int32)) % (3 : Int32)) := ⟨_, rfl⟩
  rw [← hk2]
  show own_Go p.tables e below (s₁.setTop (mkF m 19 #[.val (.int keys), .val (.long docs), .second, .val (.int f1), .val (.int f2), .val (.int f3), .val (.int f4), .val (.int k1), .unset, .unset, .unset, .unset, .unset, .unset, .unset, .unset, .unset] [(.int k2)])) _
  obtain ⟨n2, hn2, hm2⟩ : ∃ n : Nat, n < 3 ∧ k2 = Int32.ofNat n := own_k3 hk2
  refine own_by (fun zt zk => XS.istore X0.here hx rfl (hb hby at_19) rfl (l' := #[.val (.int keys), .val (.long docs), .second, .val (.int f1), .val (.int f2), .val (.int f3), .val (.int f4), .val (.int k1), .val (.int k2), .unset, .unset, .unset, .unset, .unset, .unset, .unset, .unset]) rfl zk) ?_
  show own_Go p.tables e below (s₁.setTop (mkF m 21 #[.val (.int keys), .val (.long docs), .second, .val (.int f1), .val (.int f2), .val (.int f3), .val (.int f4), .val (.int k1), .val (.int k2), .unset, .unset, .unset, .unset, .unset, .unset, .unset, .unset] [])) _
  refine own_by (fun zt zk => XS.iloadN X0.here hx rfl (hb hby at_21) rfl zk) ?_
  show own_Go p.tables e below (s₁.setTop (mkF m 22 #[.val (.int keys), .val (.long docs), .second, .val (.int f1), .val (.int f2), .val (.int f3), .val (.int f4), .val (.int k1), .val (.int k2), .unset, .unset, .unset, .unset, .unset, .unset, .unset, .unset] [(.int keys)])) _
  refine own_by (fun zt zk => XS.bipush X0.here hx rfl (hb hby at_22) zk) ?_
  show own_Go p.tables e below (s₁.setTop (mkF m 24 #[.val (.int keys), .val (.long docs), .second, .val (.int f1), .val (.int f2), .val (.int f3), .val (.int f4), .val (.int k1), .val (.int k2), .unset, .unset, .unset, .unset, .unset, .unset, .unset, .unset] [(.int (16 : Int32)), (.int keys)])) _
  refine own_by (fun zt zk => XS.iushr X0.here hx rfl (hb hby at_24) rfl zk) ?_
  show own_Go p.tables e below (s₁.setTop (mkF m 25 #[.val (.int keys), .val (.long docs), .second, .val (.int f1), .val (.int f2), .val (.int f3), .val (.int f4), .val (.int k1), .val (.int k2), .unset, .unset, .unset, .unset, .unset, .unset, .unset, .unset] [(.int ((keys.toUInt32 >>> ((16 : Int32) &&& 31).toUInt32).toInt32))])) _
  refine own_by (fun zt zk => XS.sipush X0.here hx rfl (hb hby at_25) zk) ?_
  show own_Go p.tables e below (s₁.setTop (mkF m 28 #[.val (.int keys), .val (.long docs), .second, .val (.int f1), .val (.int f2), .val (.int f3), .val (.int f4), .val (.int k1), .val (.int k2), .unset, .unset, .unset, .unset, .unset, .unset, .unset, .unset] [(.int (255 : Int32)), (.int ((keys.toUInt32 >>> ((16 : Int32) &&& 31).toUInt32).toInt32))])) _
  refine own_by (fun zt zk => XS.iand X0.here hx rfl (hb hby at_28) rfl zk) ?_
  show own_Go p.tables e below (s₁.setTop (mkF m 29 #[.val (.int keys), .val (.long docs), .second, .val (.int f1), .val (.int f2), .val (.int f3), .val (.int f4), .val (.int k1), .val (.int k2), .unset, .unset, .unset, .unset, .unset, .unset, .unset, .unset] [(.int (((keys.toUInt32 >>> ((16 : Int32) &&& 31).toUInt32).toInt32) &&& (255 : Int32)))])) _
  refine own_by (fun zt zk => XS.iconst X0.here hx rfl (hb hby at_29) zk) ?_
  show own_Go p.tables e below (s₁.setTop (mkF m 30 #[.val (.int keys), .val (.long docs), .second, .val (.int f1), .val (.int f2), .val (.int f3), .val (.int f4), .val (.int k1), .val (.int k2), .unset, .unset, .unset, .unset, .unset, .unset, .unset, .unset] [(.int (3 : Int32)), (.int (((keys.toUInt32 >>> ((16 : Int32) &&& 31).toUInt32).toInt32) &&& (255 : Int32)))])) _
  refine own_by (fun zt zk => Jvm.RoadKit.iremM X0 hx rfl (hb hby at_30) rfl (by decide) zk) ?_
  show own_Go p.tables e below (s₁.setTop (mkF m 31 #[.val (.int keys), .val (.long docs), .second, .val (.int f1), .val (.int f2), .val (.int f3), .val (.int f4), .val (.int k1), .val (.int k2), .unset, .unset, .unset, .unset, .unset, .unset, .unset, .unset] [(.int ((((keys.toUInt32 >>> ((16 : Int32) &&& 31).toUInt32).toInt32) &&& (255 : Int32)) % (3 : Int32)))])) _
  obtain ⟨k3, hk3⟩ : ∃ z, z = ((((keys.toUInt32 >>> ((16 : Int32) &&& 31).toUInt32).toInt32) &&& (255 : Int32)) % (3 : Int32)) := ⟨_, rfl⟩
  rw [← hk3]
  show own_Go p.tables e below (s₁.setTop (mkF m 31 #[.val (.int keys), .val (.long docs), .second, .val (.int f1), .val (.int f2), .val (.int f3), .val (.int f4), .val (.int k1), .val (.int k2), .unset, .unset, .unset, .unset, .unset, .unset, .unset, .unset] [(.int k3)])) _
  obtain ⟨n3, hn3, hm3⟩ : ∃ n : Nat, n < 3 ∧ k3 = Int32.ofNat n := own_k3 hk3
  refine own_by (fun zt zk => XS.istore X0.here hx rfl (hb hby at_31) rfl (l' := #[.val (.int keys), .val (.long docs), .second, .val (.int f1), .val (.int f2), .val (.int f3), .val (.int f4), .val (.int k1), .val (.int k2), .val (.int k3), .unset, .unset, .unset, .unset, .unset, .unset, .unset]) rfl zk) ?_
  show own_Go p.tables e below (s₁.setTop (mkF m 33 #[.val (.int keys), .val (.long docs), .second, .val (.int f1), .val (.int f2), .val (.int f3), .val (.int f4), .val (.int k1), .val (.int k2), .val (.int k3), .unset, .unset, .unset, .unset, .unset, .unset, .unset] [])) _
  refine own_by (fun zt zk => XS.iloadN X0.here hx rfl (hb hby at_33) rfl zk) ?_
  show own_Go p.tables e below (s₁.setTop (mkF m 34 #[.val (.int keys), .val (.long docs), .second, .val (.int f1), .val (.int f2), .val (.int f3), .val (.int f4), .val (.int k1), .val (.int k2), .val (.int k3), .unset, .unset, .unset, .unset, .unset, .unset, .unset] [(.int keys)])) _
  refine own_by (fun zt zk => XS.bipush X0.here hx rfl (hb hby at_34) zk) ?_
  show own_Go p.tables e below (s₁.setTop (mkF m 36 #[.val (.int keys), .val (.long docs), .second, .val (.int f1), .val (.int f2), .val (.int f3), .val (.int f4), .val (.int k1), .val (.int k2), .val (.int k3), .unset, .unset, .unset, .unset, .unset, .unset, .unset] [(.int (24 : Int32)), (.int keys)])) _
  refine own_by (fun zt zk => XS.iushr X0.here hx rfl (hb hby at_36) rfl zk) ?_
  show own_Go p.tables e below (s₁.setTop (mkF m 37 #[.val (.int keys), .val (.long docs), .second, .val (.int f1), .val (.int f2), .val (.int f3), .val (.int f4), .val (.int k1), .val (.int k2), .val (.int k3), .unset, .unset, .unset, .unset, .unset, .unset, .unset] [(.int ((keys.toUInt32 >>> ((24 : Int32) &&& 31).toUInt32).toInt32))])) _
  refine own_by (fun zt zk => XS.sipush X0.here hx rfl (hb hby at_37) zk) ?_
  show own_Go p.tables e below (s₁.setTop (mkF m 40 #[.val (.int keys), .val (.long docs), .second, .val (.int f1), .val (.int f2), .val (.int f3), .val (.int f4), .val (.int k1), .val (.int k2), .val (.int k3), .unset, .unset, .unset, .unset, .unset, .unset, .unset] [(.int (255 : Int32)), (.int ((keys.toUInt32 >>> ((24 : Int32) &&& 31).toUInt32).toInt32))])) _
  refine own_by (fun zt zk => XS.iand X0.here hx rfl (hb hby at_40) rfl zk) ?_
  show own_Go p.tables e below (s₁.setTop (mkF m 41 #[.val (.int keys), .val (.long docs), .second, .val (.int f1), .val (.int f2), .val (.int f3), .val (.int f4), .val (.int k1), .val (.int k2), .val (.int k3), .unset, .unset, .unset, .unset, .unset, .unset, .unset] [(.int (((keys.toUInt32 >>> ((24 : Int32) &&& 31).toUInt32).toInt32) &&& (255 : Int32)))])) _
  refine own_by (fun zt zk => XS.iconst X0.here hx rfl (hb hby at_41) zk) ?_
  show own_Go p.tables e below (s₁.setTop (mkF m 42 #[.val (.int keys), .val (.long docs), .second, .val (.int f1), .val (.int f2), .val (.int f3), .val (.int f4), .val (.int k1), .val (.int k2), .val (.int k3), .unset, .unset, .unset, .unset, .unset, .unset, .unset] [(.int (3 : Int32)), (.int (((keys.toUInt32 >>> ((24 : Int32) &&& 31).toUInt32).toInt32) &&& (255 : Int32)))])) _
  refine own_by (fun zt zk => Jvm.RoadKit.iremM X0 hx rfl (hb hby at_42) rfl (by decide) zk) ?_
  show own_Go p.tables e below (s₁.setTop (mkF m 43 #[.val (.int keys), .val (.long docs), .second, .val (.int f1), .val (.int f2), .val (.int f3), .val (.int f4), .val (.int k1), .val (.int k2), .val (.int k3), .unset, .unset, .unset, .unset, .unset, .unset, .unset] [(.int ((((keys.toUInt32 >>> ((24 : Int32) &&& 31).toUInt32).toInt32) &&& (255 : Int32)) % (3 : Int32)))])) _
  obtain ⟨k4, hk4⟩ : ∃ z, z = ((((keys.toUInt32 >>> ((24 : Int32) &&& 31).toUInt32).toInt32) &&& (255 : Int32)) % (3 : Int32)) := ⟨_, rfl⟩
  rw [← hk4]
  show own_Go p.tables e below (s₁.setTop (mkF m 43 #[.val (.int keys), .val (.long docs), .second, .val (.int f1), .val (.int f2), .val (.int f3), .val (.int f4), .val (.int k1), .val (.int k2), .val (.int k3), .unset, .unset, .unset, .unset, .unset, .unset, .unset] [(.int k4)])) _
  obtain ⟨n4, hn4, hm4⟩ : ∃ n : Nat, n < 3 ∧ k4 = Int32.ofNat n := own_k3 hk4
  refine own_by (fun zt zk => XS.istore X0.here hx rfl (hb hby at_43) rfl (l' := #[.val (.int keys), .val (.long docs), .second, .val (.int f1), .val (.int f2), .val (.int f3), .val (.int f4), .val (.int k1), .val (.int k2), .val (.int k3), .val (.int k4), .unset, .unset, .unset, .unset, .unset, .unset]) rfl zk) ?_
  show own_Go p.tables e below (s₁.setTop (mkF m 45 #[.val (.int keys), .val (.long docs), .second, .val (.int f1), .val (.int f2), .val (.int f3), .val (.int f4), .val (.int k1), .val (.int k2), .val (.int k3), .val (.int k4), .unset, .unset, .unset, .unset, .unset, .unset] [])) _
  refine own_by (fun zt zk => XS.lloadN X0.here hx rfl (hb hby at_45) rfl zk) ?_
  show own_Go p.tables e below (s₁.setTop (mkF m 46 #[.val (.int keys), .val (.long docs), .second, .val (.int f1), .val (.int f2), .val (.int f3), .val (.int f4), .val (.int k1), .val (.int k2), .val (.int k3), .val (.int k4), .unset, .unset, .unset, .unset, .unset, .unset] [(.long docs)])) _
  refine own_by (X0.ldc2Long hx hown (mvT hZ (hw _ (List.mem_of_getElem? (i := 0) rfl))) (g := (mkF m 46 #[.val (.int keys), .val (.long docs), .second, .val (.int f1), .val (.int f2), .val (.int f3), .val (.int f4), .val (.int k1), .val (.int k2), .val (.int k3), .val (.int k4), .unset, .unset, .unset, .unset, .unset, .unset] [(.long docs)])) rfl (hb hby at_46)) ?_
  show own_Go p.tables e below (s₁.setTop (mkF m 49 #[.val (.int keys), .val (.long docs), .second, .val (.int f1), .val (.int f2), .val (.int f3), .val (.int f4), .val (.int k1), .val (.int k2), .val (.int k3), .val (.int k4), .unset, .unset, .unset, .unset, .unset, .unset] [(.long (1073741823 : Int64)), (.long docs)])) _
  refine own_by (fun zt zk => XS.land X0.here hx rfl (hb hby at_49) rfl zk) ?_
  show own_Go p.tables e below (s₁.setTop (mkF m 50 #[.val (.int keys), .val (.long docs), .second, .val (.int f1), .val (.int f2), .val (.int f3), .val (.int f4), .val (.int k1), .val (.int k2), .val (.int k3), .val (.int k4), .unset, .unset, .unset, .unset, .unset, .unset] [(.long (docs &&& (1073741823 : Int64)))])) _
  refine own_by (fun zt zk => XS.l2i X0.here hx rfl (hb hby at_50) rfl zk) ?_
  show own_Go p.tables e below (s₁.setTop (mkF m 51 #[.val (.int keys), .val (.long docs), .second, .val (.int f1), .val (.int f2), .val (.int f3), .val (.int f4), .val (.int k1), .val (.int k2), .val (.int k3), .val (.int k4), .unset, .unset, .unset, .unset, .unset, .unset] [(.int ((docs &&& (1073741823 : Int64)).toInt32))])) _
  obtain ⟨d1, hd1⟩ : ∃ z, z = ((docs &&& (1073741823 : Int64)).toInt32) := ⟨_, rfl⟩
  rw [← hd1]
  show own_Go p.tables e below (s₁.setTop (mkF m 51 #[.val (.int keys), .val (.long docs), .second, .val (.int f1), .val (.int f2), .val (.int f3), .val (.int f4), .val (.int k1), .val (.int k2), .val (.int k3), .val (.int k4), .unset, .unset, .unset, .unset, .unset, .unset] [(.int d1)])) _
  refine own_by (fun zt zk => XS.istore X0.here hx rfl (hb hby at_51) rfl (l' := #[.val (.int keys), .val (.long docs), .second, .val (.int f1), .val (.int f2), .val (.int f3), .val (.int f4), .val (.int k1), .val (.int k2), .val (.int k3), .val (.int k4), .val (.int d1), .unset, .unset, .unset, .unset, .unset]) rfl zk) ?_
  show own_Go p.tables e below (s₁.setTop (mkF m 53 #[.val (.int keys), .val (.long docs), .second, .val (.int f1), .val (.int f2), .val (.int f3), .val (.int f4), .val (.int k1), .val (.int k2), .val (.int k3), .val (.int k4), .val (.int d1), .unset, .unset, .unset, .unset, .unset] [])) _
  refine own_by (fun zt zk => XS.iload X0.here hx rfl (hb hby at_53) rfl zk) ?_
  show own_Go p.tables e below (s₁.setTop (mkF m 55 #[.val (.int keys), .val (.long docs), .second, .val (.int f1), .val (.int f2), .val (.int f3), .val (.int f4), .val (.int k1), .val (.int k2), .val (.int k3), .val (.int k4), .val (.int d1), .unset, .unset, .unset, .unset, .unset] [(.int d1)])) _
  refine own_by (fun zt zk => XS.iconst X0.here hx rfl (hb hby at_55) zk) ?_
  show own_Go p.tables e below (s₁.setTop (mkF m 56 #[.val (.int keys), .val (.long docs), .second, .val (.int f1), .val (.int f2), .val (.int f3), .val (.int f4), .val (.int k1), .val (.int k2), .val (.int k3), .val (.int k4), .val (.int d1), .unset, .unset, .unset, .unset, .unset] [(.int (1 : Int32)), (.int d1)])) _
  refine own_by (fun zt zk => XS.iadd X0.here hx rfl (hb hby at_56) rfl zk) ?_
  show own_Go p.tables e below (s₁.setTop (mkF m 57 #[.val (.int keys), .val (.long docs), .second, .val (.int f1), .val (.int f2), .val (.int f3), .val (.int f4), .val (.int k1), .val (.int k2), .val (.int k3), .val (.int k4), .val (.int d1), .unset, .unset, .unset, .unset, .unset] [(.int (d1 + (1 : Int32)))])) _
  refine own_by (fun zt zk => XS.lloadN X0.here hx rfl (hb hby at_57) rfl zk) ?_
  show own_Go p.tables e below (s₁.setTop (mkF m 58 #[.val (.int keys), .val (.long docs), .second, .val (.int f1), .val (.int f2), .val (.int f3), .val (.int f4), .val (.int k1), .val (.int k2), .val (.int k3), .val (.int k4), .val (.int d1), .unset, .unset, .unset, .unset, .unset] [(.long docs), (.int (d1 + (1 : Int32)))])) _
  refine own_by (fun zt zk => XS.bipush X0.here hx rfl (hb hby at_58) zk) ?_
  show own_Go p.tables e below (s₁.setTop (mkF m 60 #[.val (.int keys), .val (.long docs), .second, .val (.int f1), .val (.int f2), .val (.int f3), .val (.int f4), .val (.int k1), .val (.int k2), .val (.int k3), .val (.int k4), .val (.int d1), .unset, .unset, .unset, .unset, .unset] [(.int (32 : Int32)), (.long docs), (.int (d1 + (1 : Int32)))])) _
  refine own_by (fun zt zk => XS.lushr X0.here hx rfl (hb hby at_60) rfl zk) ?_
  show own_Go p.tables e below (s₁.setTop (mkF m 61 #[.val (.int keys), .val (.long docs), .second, .val (.int f1), .val (.int f2), .val (.int f3), .val (.int f4), .val (.int k1), .val (.int k2), .val (.int k3), .val (.int k4), .val (.int d1), .unset, .unset, .unset, .unset, .unset] [(.long ((docs.toUInt64 >>> ((32 : Int32) &&& 0x3f).toInt64.toUInt64).toInt64)), (.int (d1 + (1 : Int32)))])) _
  refine own_by (X0.ldc2Long hx hown (mvT hZ (hw _ (List.mem_of_getElem? (i := 0) rfl))) (g := (mkF m 61 #[.val (.int keys), .val (.long docs), .second, .val (.int f1), .val (.int f2), .val (.int f3), .val (.int f4), .val (.int k1), .val (.int k2), .val (.int k3), .val (.int k4), .val (.int d1), .unset, .unset, .unset, .unset, .unset] [(.long ((docs.toUInt64 >>> ((32 : Int32) &&& 0x3f).toInt64.toUInt64).toInt64)), (.int (d1 + (1 : Int32)))])) rfl (hb hby at_61)) ?_
  show own_Go p.tables e below (s₁.setTop (mkF m 64 #[.val (.int keys), .val (.long docs), .second, .val (.int f1), .val (.int f2), .val (.int f3), .val (.int f4), .val (.int k1), .val (.int k2), .val (.int k3), .val (.int k4), .val (.int d1), .unset, .unset, .unset, .unset, .unset] [(.long (1073741823 : Int64)), (.long ((docs.toUInt64 >>> ((32 : Int32) &&& 0x3f).toInt64.toUInt64).toInt64)), (.int (d1 + (1 : Int32)))])) _
  refine own_by (fun zt zk => XS.land X0.here hx rfl (hb hby at_64) rfl zk) ?_
  show own_Go p.tables e below (s₁.setTop (mkF m 65 #[.val (.int keys), .val (.long docs), .second, .val (.int f1), .val (.int f2), .val (.int f3), .val (.int f4), .val (.int k1), .val (.int k2), .val (.int k3), .val (.int k4), .val (.int d1), .unset, .unset, .unset, .unset, .unset] [(.long (((docs.toUInt64 >>> ((32 : Int32) &&& 0x3f).toInt64.toUInt64).toInt64) &&& (1073741823 : Int64))), (.int (d1 + (1 : Int32)))])) _
  refine own_by (fun zt zk => XS.l2i X0.here hx rfl (hb hby at_65) rfl zk) ?_
  show own_Go p.tables e below (s₁.setTop (mkF m 66 #[.val (.int keys), .val (.long docs), .second, .val (.int f1), .val (.int f2), .val (.int f3), .val (.int f4), .val (.int k1), .val (.int k2), .val (.int k3), .val (.int k4), .val (.int d1), .unset, .unset, .unset, .unset, .unset] [(.int ((((docs.toUInt64 >>> ((32 : Int32) &&& 0x3f).toInt64.toUInt64).toInt64) &&& (1073741823 : Int64)).toInt32)), (.int (d1 + (1 : Int32)))])) _
  refine own_by (fun zt zk => XS.iadd X0.here hx rfl (hb hby at_66) rfl zk) ?_
  show own_Go p.tables e below (s₁.setTop (mkF m 67 #[.val (.int keys), .val (.long docs), .second, .val (.int f1), .val (.int f2), .val (.int f3), .val (.int f4), .val (.int k1), .val (.int k2), .val (.int k3), .val (.int k4), .val (.int d1), .unset, .unset, .unset, .unset, .unset] [(.int ((d1 + (1 : Int32)) + ((((docs.toUInt64 >>> ((32 : Int32) &&& 0x3f).toInt64.toUInt64).toInt64) &&& (1073741823 : Int64)).toInt32)))])) _
  obtain ⟨d2, hd2⟩ : ∃ z, z = ((d1 + (1 : Int32)) + ((((docs.toUInt64 >>> ((32 : Int32) &&& 0x3f).toInt64.toUInt64).toInt64) &&& (1073741823 : Int64)).toInt32)) := ⟨_, rfl⟩
  rw [← hd2]
  show own_Go p.tables e below (s₁.setTop (mkF m 67 #[.val (.int keys), .val (.long docs), .second, .val (.int f1), .val (.int f2), .val (.int f3), .val (.int f4), .val (.int k1), .val (.int k2), .val (.int k3), .val (.int k4), .val (.int d1), .unset, .unset, .unset, .unset, .unset] [(.int d2)])) _
  refine own_by (fun zt zk => XS.istore X0.here hx rfl (hb hby at_67) rfl (l' := #[.val (.int keys), .val (.long docs), .second, .val (.int f1), .val (.int f2), .val (.int f3), .val (.int f4), .val (.int k1), .val (.int k2), .val (.int k3), .val (.int k4), .val (.int d1), .val (.int d2), .unset, .unset, .unset, .unset]) rfl zk) ?_
  show own_Go p.tables e below (s₁.setTop (mkF m 69 #[.val (.int keys), .val (.long docs), .second, .val (.int f1), .val (.int f2), .val (.int f3), .val (.int f4), .val (.int k1), .val (.int k2), .val (.int k3), .val (.int k4), .val (.int d1), .val (.int d2), .unset, .unset, .unset, .unset] [])) _
  obtain ⟨T1, hea1, X1, e1, E1, A1, D1, -, st1⟩ := newO X0 hx hZ hown (hw _ (List.mem_of_getElem? (i := 1) rfl)) (hw _ (List.mem_of_getElem? (i := 2) rfl)) (hw _ (List.mem_of_getElem? (i := 3) rfl)) e0 (g := (mkF m 69 #[.val (.int keys), .val (.long docs), .second, .val (.int f1), .val (.int f2), .val (.int f3), .val (.int f4), .val (.int k1), .val (.int k2), .val (.int k3), .val (.int k4), .val (.int d1), .val (.int d2), .unset, .unset, .unset, .unset] [])) rfl (hb hby at_69) (by decide) (by decide)
  obtain ⟨a, g1⟩ : ∃ z, z = h0.size := ⟨_, rfl⟩
  rw [← g1] at A1 D1 st1
  have sz_a : h0.size ≤ a := Nat.le_trans (Keep.refl h0 []).1 (Nat.le_of_eq g1.symm)
  have K1 : Keep h0 hea1 [] := (Keep.refl h0 []).ext E1
  refine own_by (st1) ?_
  have F1_countedIn : Fld Z hea1 a "com/example/aprox/aprox/CountedKeywords" "countedIn" "[I" .null := D1 (Or.inr (hw _ (List.mem_of_getElem? (i := 12) rfl))) (ty := (.array .int)) (by decide)
  have F1_keywords : Fld Z hea1 a "com/example/aprox/aprox/CountedKeywords" "keywords" "[I" .null := D1 (Or.inr (hw _ (List.mem_of_getElem? (i := 18) rfl))) (ty := (.array .int)) (by decide)
  have F1_wholeFields : Fld Z hea1 a "com/example/aprox/aprox/CountedKeywords" "wholeFields" "[I" .null := D1 (Or.inr (hw _ (List.mem_of_getElem? (i := 20) rfl))) (ty := (.array .int)) (by decide)
  have F1_someFields : Fld Z hea1 a "com/example/aprox/aprox/CountedKeywords" "someFields" "[I" .null := D1 (Or.inr (hw _ (List.mem_of_getElem? (i := 22) rfl))) (ty := (.array .int)) (by decide)
  have F1_occurrenceBits : Fld Z hea1 a "com/example/aprox/aprox/CountedKeywords" "occurrenceBits" "[[J" .null := D1 (Or.inr (hw _ (List.mem_of_getElem? (i := 26) rfl))) (ty := (.array (.array .long))) (by decide)
  have F1_usedBits : Fld Z hea1 a "com/example/aprox/aprox/CountedKeywords" "usedBits" "[I" .null := D1 (Or.inr (hw _ (List.mem_of_getElem? (i := 28) rfl))) (ty := (.array .int)) (by decide)
  have F1_oneByOne : Fld Z hea1 a "com/example/aprox/aprox/CountedKeywords" "oneByOne" "[I" .null := D1 (Or.inr (hw _ (List.mem_of_getElem? (i := 30) rfl))) (ty := (.array .int)) (by decide)
  have F1_count : Fld Z hea1 a "com/example/aprox/aprox/CountedKeywords" "count" "I" (.int (0 : Int32)) := D1 (Or.inl (hw _ (List.mem_of_getElem? (i := 37) rfl))) (ty := .int) (by decide)
  have F1_oneByOneCount : Fld Z hea1 a "com/example/aprox/aprox/CountedKeywords" "oneByOneCount" "I" (.int (0 : Int32)) := D1 (Or.inl (hw _ (List.mem_of_getElem? (i := 44) rfl))) (ty := .int) (by decide)
  show own_Go p.tables e below (T1.setTop (mkF m 72 #[.val (.int keys), .val (.long docs), .second, .val (.int f1), .val (.int f2), .val (.int f3), .val (.int f4), .val (.int k1), .val (.int k2), .val (.int k3), .val (.int k4), .val (.int d1), .val (.int d2), .unset, .unset, .unset, .unset] [(.ref a)])) _
  refine own_by (fun zt zk => XS.dup X1.here hx rfl (hb hby at_72) rfl rfl zk) ?_
  show own_Go p.tables e below (T1.setTop (mkF m 73 #[.val (.int keys), .val (.long docs), .second, .val (.int f1), .val (.int f2), .val (.int f3), .val (.int f4), .val (.int k1), .val (.int k2), .val (.int k3), .val (.int k4), .val (.int d1), .val (.int d2), .unset, .unset, .unset, .unset] [(.ref a), (.ref a)])) _
  refine own_by (fun zt zk => XS.iconst X1.here hx rfl (hb hby at_73) zk) ?_
  show own_Go p.tables e below (T1.setTop (mkF m 74 #[.val (.int keys), .val (.long docs), .second, .val (.int f1), .val (.int f2), .val (.int f3), .val (.int f4), .val (.int k1), .val (.int k2), .val (.int k3), .val (.int k4), .val (.int d1), .val (.int d2), .unset, .unset, .unset, .unset] [(.int (3 : Int32)), (.ref a), (.ref a)])) _
  have hdd := own_dd hd1 hd2
  obtain ⟨_, _, ⟨T2, L2, k2, n2⟩, -, X2, ⟨Lc2, hQ2, l2, y2, z2⟩, st2⟩ := X1.specialBack hx (y := (⟨"com/example/aprox/aprox/CountedKeywords", "<init>", "(I)V"⟩ : MethodName)) rfl hown (mvT hZ (hw _ (List.mem_of_getElem? (i := 4) rfl))) (mvT hZ (hw _ (List.mem_of_getElem? (i := 5) rfl))) (mvT hZ (hw _ (List.mem_of_getElem? (i := 6) rfl))) (by decide) (backOf (W := 1) (rm_new l Z a0 hw [] a (3 : Int32)  hea1 n0 (Nat.le_trans Z0 K1.1) A1 (Nat.le_trans Z0 sz_a) rfl F1_countedIn F1_keywords F1_wholeFields F1_someFields F1_occurrenceBits F1_usedBits F1_oneByOne F1_count F1_oneByOneCount) hZ (hw _ (List.mem_of_getElem? (i := 6) rfl)) (hw _ (List.mem_of_getElem? (i := 3) rfl)) (by decide) (by decide)) (g := (mkF m 74 #[.val (.int keys), .val (.long docs), .second, .val (.int f1), .val (.int f2), .val (.int f3), .val (.int f4), .val (.int k1), .val (.int k2), .val (.int k3), .val (.int k4), .val (.int d1), .val (.int d2), .unset, .unset, .unset, .unset] [(.int (3 : Int32)), (.ref a), (.ref a)])) rfl (by rw [hml]; rfl) (Steps.refl _) (a := a) (argsL := [(.int (3 : Int32))]) (rest := [(.ref a)]) (lenOf pd_116 rfl) rfl (by show 2 * 0 + _ ≤ _; exact Nat.le_of_eq rfl) (hb hby at_74) (fun _ _ => ⟨rfl, e1, (by decide : 1 + 7 ≤ _), (by decide : 9 + 21 ≤ _)⟩)
  dsimp only [Pt.U, Pt.locs, Pt.cells, Pt.slots] at X2 l2 y2 z2 st2 hQ2
  subst l2 y2 z2
  obtain ⟨rfl, N2q, Kc2, ci, kw, wf, sc2, sk2, sw2, CK2⟩ := hQ2
  have N2 := Fr.app N0 N2q
  have K2 : Keep h0 T2.heap [] := K1.trans Kc2 (allS (Or.inr sz_a) all0)
  refine own_tr st2 ?_
  show own_Go p.tables e below (T2.setTop (mkF m 77 #[.val (.int keys), .val (.long docs), .second, .val (.int f1), .val (.int f2), .val (.int f3), .val (.int f4), .val (.int k1), .val (.int k2), .val (.int k3), .val (.int k4), .val (.int d1), .val (.int d2), .unset, .unset, .unset, .unset] [(.ref a)])) _
  have sz_ci : h0.size ≤ ci := Nat.le_trans K1.1 sc2
  have sz_kw : h0.size ≤ kw := Nat.le_trans K1.1 sk2
  have sz_wf : h0.size ≤ wf := Nat.le_trans K1.1 sw2
  have EECK2 := CK2.1
  refine own_by (fun zt zk => XS.astore X2.here hx rfl (hb hby at_77) rfl rfl (l' := #[.val (.int keys), .val (.long docs), .second, .val (.int f1), .val (.int f2), .val (.int f3), .val (.int f4), .val (.int k1), .val (.int k2), .val (.int k3), .val (.int k4), .val (.int d1), .val (.int d2), .val (.ref a), .unset, .unset, .unset]) rfl zk) ?_
  show own_Go p.tables e below (T2.setTop (mkF m 79 #[.val (.int keys), .val (.long docs), .second, .val (.int f1), .val (.int f2), .val (.int f3), .val (.int f4), .val (.int k1), .val (.int k2), .val (.int k3), .val (.int k4), .val (.int d1), .val (.int d2), .val (.ref a), .unset, .unset, .unset] [])) _
  refine own_by (fun zt zk => XS.aload X2.here hx rfl (hb hby at_79) rfl rfl zk) ?_
  show own_Go p.tables e below (T2.setTop (mkF m 81 #[.val (.int keys), .val (.long docs), .second, .val (.int f1), .val (.int f2), .val (.int f3), .val (.int f4), .val (.int k1), .val (.int k2), .val (.int k3), .val (.int k4), .val (.int d1), .val (.int d2), .val (.ref a), .unset, .unset, .unset] [(.ref a)])) _
  refine own_by (fun zt zk => XS.iload X2.here hx rfl (hb hby at_81) rfl zk) ?_
  show own_Go p.tables e below (T2.setTop (mkF m 83 #[.val (.int keys), .val (.long docs), .second, .val (.int f1), .val (.int f2), .val (.int f3), .val (.int f4), .val (.int k1), .val (.int k2), .val (.int k3), .val (.int k4), .val (.int d1), .val (.int d2), .val (.ref a), .unset, .unset, .unset] [(.int k1), (.ref a)])) _
  refine own_by (fun zt zk => XS.iload X2.here hx rfl (hb hby at_83) rfl zk) ?_
  show own_Go p.tables e below (T2.setTop (mkF m 85 #[.val (.int keys), .val (.long docs), .second, .val (.int f1), .val (.int f2), .val (.int f3), .val (.int f4), .val (.int k1), .val (.int k2), .val (.int k3), .val (.int k4), .val (.int d1), .val (.int d2), .val (.ref a), .unset, .unset, .unset] [(.int d1), (.int k1), (.ref a)])) _
  refine own_by (fun zt zk => XS.iloadN X2.here hx rfl (hb hby at_85) rfl zk) ?_
  show own_Go p.tables e below (T2.setTop (mkF m 86 #[.val (.int keys), .val (.long docs), .second, .val (.int f1), .val (.int f2), .val (.int f3), .val (.int f4), .val (.int k1), .val (.int k2), .val (.int k3), .val (.int k4), .val (.int d1), .val (.int d2), .val (.ref a), .unset, .unset, .unset] [(.int f1), (.int d1), (.int k1), (.ref a)])) _
  obtain ⟨cq3, kq3, q3a, q3b, q3c⟩ := isOf hZ rfl EECK2
  obtain ⟨_, _, ⟨T3, L3, k3, n3⟩, -, X3, ⟨Lc3, hQ3, l3, y3, z3⟩, st3⟩ := X2.virtualBack hx (y := (⟨"com/example/aprox/aprox/CountedKeywords", "add", "(III)V"⟩ : MethodName)) (z := (⟨"com/example/aprox/aprox/CountedKeywords", "add", "(III)V"⟩ : MethodName)) hown (mvT hZ (hw _ (List.mem_of_getElem? (i := 31) rfl))) (mvT hZ (hw _ (List.mem_of_getElem? (i := 32) rfl))) (notFace_of_selects (args := #[]) (mvT hZ (hw _ (List.mem_of_getElem? (i := 34) rfl)))) (mvT hZ (hw _ (List.mem_of_getElem? (i := 34) rfl))) (mvT hZ (hw _ (List.mem_of_getElem? (i := 33) rfl))) (by decide) (backOf (W := 0) (rm_add l Z a0 hw [] a k1 d1 f1 ci kw wf (fun _ => (-1 : Int32)) (fun _ => (0 : Int32)) (fun _ => (0 : Int32)) (0 : Int32) n1 0 T2.heap n0 (Nat.le_trans Z0 K2.1) CK2 hm1 hn1 rfl (by decide)) hZ (hw _ (List.mem_of_getElem? (i := 35) rfl)) (hw _ (List.mem_of_getElem? (i := 3) rfl)) (by decide) (by decide)) q3a q3c (g := (mkF m 86 #[.val (.int keys), .val (.long docs), .second, .val (.int f1), .val (.int f2), .val (.int f3), .val (.int f4), .val (.int k1), .val (.int k2), .val (.int k3), .val (.int k4), .val (.int d1), .val (.int d2), .val (.ref a), .unset, .unset, .unset] [(.int f1), (.int d1), (.int k1), (.ref a)])) rfl (by rw [hml]; rfl) (Steps.refl _) (argsL := [(.int k1), (.int d1), (.int f1)]) (rest := []) (lenOf pd_117 rfl) rfl (by show 2 * 0 + _ ≤ _; exact Nat.le_of_eq rfl) (hb hby at_86) (fun _ _ => ⟨rfl, rfl, (by decide : 8 + 0 ≤ _), (by decide : 30 + 0 ≤ _)⟩)
  dsimp only [Pt.U, Pt.locs, Pt.cells, Pt.slots] at X3 l3 y3 z3 st3 hQ3
  subst l3 y3 z3
  obtain ⟨rfl, N3q, Kc3, CK3⟩ := hQ3
  have N3 := Fr.app N2 N3q
  have K3 : Keep h0 T3.heap [] := K2.trans Kc3 (allS (Or.inr sz_a) (allS (Or.inr sz_ci) (allS (Or.inr sz_kw) (allS (Or.inr sz_wf) all0))))
  refine own_tr st3 ?_
  show own_Go p.tables e below (T3.setTop (mkF m 89 #[.val (.int keys), .val (.long docs), .second, .val (.int f1), .val (.int f2), .val (.int f3), .val (.int f4), .val (.int k1), .val (.int k2), .val (.int k3), .val (.int k4), .val (.int d1), .val (.int d2), .val (.ref a), .unset, .unset, .unset] [])) _
  have CKa := (CK3.resolve_left fun q => own_m1 hdd q.1).2
  have EECKa := CKa.1
  refine own_by (fun zt zk => XS.aload X3.here hx rfl (hb hby at_89) rfl rfl zk) ?_
  show own_Go p.tables e below (T3.setTop (mkF m 91 #[.val (.int keys), .val (.long docs), .second, .val (.int f1), .val (.int f2), .val (.int f3), .val (.int f4), .val (.int k1), .val (.int k2), .val (.int k3), .val (.int k4), .val (.int d1), .val (.int d2), .val (.ref a), .unset, .unset, .unset] [(.ref a)])) _
  refine own_by (fun zt zk => XS.iload X3.here hx rfl (hb hby at_91) rfl zk) ?_
  show own_Go p.tables e below (T3.setTop (mkF m 93 #[.val (.int keys), .val (.long docs), .second, .val (.int f1), .val (.int f2), .val (.int f3), .val (.int f4), .val (.int k1), .val (.int k2), .val (.int k3), .val (.int k4), .val (.int d1), .val (.int d2), .val (.ref a), .unset, .unset, .unset] [(.int k2), (.ref a)])) _
  refine own_by (fun zt zk => XS.iload X3.here hx rfl (hb hby at_93) rfl zk) ?_
  show own_Go p.tables e below (T3.setTop (mkF m 95 #[.val (.int keys), .val (.long docs), .second, .val (.int f1), .val (.int f2), .val (.int f3), .val (.int f4), .val (.int k1), .val (.int k2), .val (.int k3), .val (.int k4), .val (.int d1), .val (.int d2), .val (.ref a), .unset, .unset, .unset] [(.int d1), (.int k2), (.ref a)])) _
  refine own_by (fun zt zk => XS.iload X3.here hx rfl (hb hby at_95) rfl zk) ?_
  show own_Go p.tables e below (T3.setTop (mkF m 97 #[.val (.int keys), .val (.long docs), .second, .val (.int f1), .val (.int f2), .val (.int f3), .val (.int f4), .val (.int k1), .val (.int k2), .val (.int k3), .val (.int k4), .val (.int d1), .val (.int d2), .val (.ref a), .unset, .unset, .unset] [(.int f2), (.int d1), (.int k2), (.ref a)])) _
  obtain ⟨cq4, kq4, q4a, q4b, q4c⟩ := isOf hZ rfl EECKa
  obtain ⟨_, _, ⟨T4, L4, k4, n4⟩, -, X4, ⟨Lc4, hQ4, l4, y4, z4⟩, st4⟩ := X3.virtualBack hx (y := (⟨"com/example/aprox/aprox/CountedKeywords", "add", "(III)V"⟩ : MethodName)) (z := (⟨"com/example/aprox/aprox/CountedKeywords", "add", "(III)V"⟩ : MethodName)) hown (mvT hZ (hw _ (List.mem_of_getElem? (i := 31) rfl))) (mvT hZ (hw _ (List.mem_of_getElem? (i := 32) rfl))) (notFace_of_selects (args := #[]) (mvT hZ (hw _ (List.mem_of_getElem? (i := 34) rfl)))) (mvT hZ (hw _ (List.mem_of_getElem? (i := 34) rfl))) (mvT hZ (hw _ (List.mem_of_getElem? (i := 33) rfl))) (by decide) (backOf (W := 0) (rm_add l Z a0 hw [] a k2 d1 f2 ci kw wf _ _ _ _ n2 1 T3.heap n0 (Nat.le_trans Z0 K3.1) CKa hm2 hn2 (by decide) (by decide)) hZ (hw _ (List.mem_of_getElem? (i := 35) rfl)) (hw _ (List.mem_of_getElem? (i := 3) rfl)) (by decide) (by decide)) q4a q4c (g := (mkF m 97 #[.val (.int keys), .val (.long docs), .second, .val (.int f1), .val (.int f2), .val (.int f3), .val (.int f4), .val (.int k1), .val (.int k2), .val (.int k3), .val (.int k4), .val (.int d1), .val (.int d2), .val (.ref a), .unset, .unset, .unset] [(.int f2), (.int d1), (.int k2), (.ref a)])) rfl (by rw [hml]; rfl) (Steps.refl _) (argsL := [(.int k2), (.int d1), (.int f2)]) (rest := []) (lenOf pd_117 rfl) rfl (by show 2 * 0 + _ ≤ _; exact Nat.le_of_eq rfl) (hb hby at_97) (fun _ _ => ⟨rfl, rfl, (by decide : 8 + 0 ≤ _), (by decide : 30 + 0 ≤ _)⟩)
  dsimp only [Pt.U, Pt.locs, Pt.cells, Pt.slots] at X4 l4 y4 z4 st4 hQ4
  subst l4 y4 z4
  obtain ⟨rfl, N4q, Kc4, CK4⟩ := hQ4
  have N4 := Fr.app N3 N4q
  have K4 : Keep h0 T4.heap [] := K3.trans Kc4 (allS (Or.inr sz_a) (allS (Or.inr sz_ci) (allS (Or.inr sz_kw) (allS (Or.inr sz_wf) all0))))
  refine own_tr st4 ?_
  show own_Go p.tables e below (T4.setTop (mkF m 100 #[.val (.int keys), .val (.long docs), .second, .val (.int f1), .val (.int f2), .val (.int f3), .val (.int f4), .val (.int k1), .val (.int k2), .val (.int k3), .val (.int k4), .val (.int d1), .val (.int d2), .val (.ref a), .unset, .unset, .unset] [])) _
  obtain ⟨fC, fK, fW, ct, CKb, hC⟩ : ∃ fC fK fW ct, own_CK Z n0 T4.heap a ci kw wf fC fK fW ct ∧ (∀ i, fC i = -1 ∨ fC i = d1) := by
    rcases CK4 with ⟨-, q⟩ | ⟨-, q⟩
    · exact ⟨_, _, _, _, q, own_upd1 fun _ => Or.inl rfl⟩
    · exact ⟨_, _, _, _, q, own_upd1 (own_upd1 fun _ => Or.inl rfl)⟩
  have EECKb := CKb.1
  refine own_by (fun zt zk => XS.aload X4.here hx rfl (hb hby at_100) rfl rfl zk) ?_
  show own_Go p.tables e below (T4.setTop (mkF m 102 #[.val (.int keys), .val (.long docs), .second, .val (.int f1), .val (.int f2), .val (.int f3), .val (.int f4), .val (.int k1), .val (.int k2), .val (.int k3), .val (.int k4), .val (.int d1), .val (.int d2), .val (.ref a), .unset, .unset, .unset] [(.ref a)])) _
  obtain ⟨cq5, kq5, q5a, q5b, q5c⟩ := isOf hZ rfl EECKb
  obtain ⟨_, _, ⟨T5, L5, k5, n5⟩, -, X5, ⟨Lc5, hQ5, l5, y5, z5⟩, st5⟩ := X4.virtualBack hx (y := (⟨"com/example/aprox/aprox/CountedKeywords", "clear", "()V"⟩ : MethodName)) (z := (⟨"com/example/aprox/aprox/CountedKeywords", "clear", "()V"⟩ : MethodName)) hown (mvT hZ (hw _ (List.mem_of_getElem? (i := 38) rfl))) (mvT hZ (hw _ (List.mem_of_getElem? (i := 39) rfl))) (notFace_of_selects (args := #[]) (mvT hZ (hw _ (List.mem_of_getElem? (i := 41) rfl)))) (mvT hZ (hw _ (List.mem_of_getElem? (i := 41) rfl))) (mvT hZ (hw _ (List.mem_of_getElem? (i := 40) rfl))) (by decide) (backOf (W := 0) (rm_clear l Z a0 hw [] a ci kw wf fC fK fW ct T4.heap n0 (Nat.le_trans Z0 K4.1) CKb) hZ (hw _ (List.mem_of_getElem? (i := 42) rfl)) (hw _ (List.mem_of_getElem? (i := 3) rfl)) (by decide) (by decide)) q5a q5c (g := (mkF m 102 #[.val (.int keys), .val (.long docs), .second, .val (.int f1), .val (.int f2), .val (.int f3), .val (.int f4), .val (.int k1), .val (.int k2), .val (.int k3), .val (.int k4), .val (.int d1), .val (.int d2), .val (.ref a), .unset, .unset, .unset] [(.ref a)])) rfl (by rw [hml]; rfl) (Steps.refl _) (argsL := []) (rest := []) (lenOf pd_118 rfl) rfl (by show 2 * 0 + _ ≤ _; exact Nat.le_of_eq rfl) (hb hby at_102) (fun _ _ => ⟨rfl, rfl, (by decide : 8 + 0 ≤ _), (by decide : 30 + 0 ≤ _)⟩)
  dsimp only [Pt.U, Pt.locs, Pt.cells, Pt.slots] at X5 l5 y5 z5 st5 hQ5
  subst l5 y5 z5
  obtain ⟨rfl, N5q, Kc5, CKc⟩ := hQ5
  have N5 := Fr.app N4 N5q
  have K5 : Keep h0 T5.heap [] := K4.trans Kc5 (allS (Or.inr sz_a) (allS (Or.inr sz_ci) (allS (Or.inr sz_kw) (allS (Or.inr sz_wf) all0))))
  refine own_tr st5 ?_
  show own_Go p.tables e below (T5.setTop (mkF m 105 #[.val (.int keys), .val (.long docs), .second, .val (.int f1), .val (.int f2), .val (.int f3), .val (.int f4), .val (.int k1), .val (.int k2), .val (.int k3), .val (.int k4), .val (.int d1), .val (.int d2), .val (.ref a), .unset, .unset, .unset] [])) _
  have EECKc := CKc.1
  refine own_by (fun zt zk => XS.aload X5.here hx rfl (hb hby at_105) rfl rfl zk) ?_
  show own_Go p.tables e below (T5.setTop (mkF m 107 #[.val (.int keys), .val (.long docs), .second, .val (.int f1), .val (.int f2), .val (.int f3), .val (.int f4), .val (.int k1), .val (.int k2), .val (.int k3), .val (.int k4), .val (.int d1), .val (.int d2), .val (.ref a), .unset, .unset, .unset] [(.ref a)])) _
  refine own_by (fun zt zk => XS.iload X5.here hx rfl (hb hby at_107) rfl zk) ?_
  show own_Go p.tables e below (T5.setTop (mkF m 109 #[.val (.int keys), .val (.long docs), .second, .val (.int f1), .val (.int f2), .val (.int f3), .val (.int f4), .val (.int k1), .val (.int k2), .val (.int k3), .val (.int k4), .val (.int d1), .val (.int d2), .val (.ref a), .unset, .unset, .unset] [(.int k3), (.ref a)])) _
  refine own_by (fun zt zk => XS.iload X5.here hx rfl (hb hby at_109) rfl zk) ?_
  show own_Go p.tables e below (T5.setTop (mkF m 111 #[.val (.int keys), .val (.long docs), .second, .val (.int f1), .val (.int f2), .val (.int f3), .val (.int f4), .val (.int k1), .val (.int k2), .val (.int k3), .val (.int k4), .val (.int d1), .val (.int d2), .val (.ref a), .unset, .unset, .unset] [(.int d2), (.int k3), (.ref a)])) _
  refine own_by (fun zt zk => XS.iload X5.here hx rfl (hb hby at_111) rfl zk) ?_
  show own_Go p.tables e below (T5.setTop (mkF m 113 #[.val (.int keys), .val (.long docs), .second, .val (.int f1), .val (.int f2), .val (.int f3), .val (.int f4), .val (.int k1), .val (.int k2), .val (.int k3), .val (.int k4), .val (.int d1), .val (.int d2), .val (.ref a), .unset, .unset, .unset] [(.int f3), (.int d2), (.int k3), (.ref a)])) _
  obtain ⟨cq6, kq6, q6a, q6b, q6c⟩ := isOf hZ rfl EECKc
  obtain ⟨_, _, ⟨T6, L6, k6, n6⟩, -, X6, ⟨Lc6, hQ6, l6, y6, z6⟩, st6⟩ := X5.virtualBack hx (y := (⟨"com/example/aprox/aprox/CountedKeywords", "add", "(III)V"⟩ : MethodName)) (z := (⟨"com/example/aprox/aprox/CountedKeywords", "add", "(III)V"⟩ : MethodName)) hown (mvT hZ (hw _ (List.mem_of_getElem? (i := 31) rfl))) (mvT hZ (hw _ (List.mem_of_getElem? (i := 32) rfl))) (notFace_of_selects (args := #[]) (mvT hZ (hw _ (List.mem_of_getElem? (i := 34) rfl)))) (mvT hZ (hw _ (List.mem_of_getElem? (i := 34) rfl))) (mvT hZ (hw _ (List.mem_of_getElem? (i := 33) rfl))) (by decide) (backOf (W := 0) (rm_add l Z a0 hw [] a k3 d2 f3 ci kw wf fC fK fW (0 : Int32) n3 0 T5.heap n0 (Nat.le_trans Z0 K5.1) CKc hm3 hn3 rfl (by decide)) hZ (hw _ (List.mem_of_getElem? (i := 35) rfl)) (hw _ (List.mem_of_getElem? (i := 3) rfl)) (by decide) (by decide)) q6a q6c (g := (mkF m 113 #[.val (.int keys), .val (.long docs), .second, .val (.int f1), .val (.int f2), .val (.int f3), .val (.int f4), .val (.int k1), .val (.int k2), .val (.int k3), .val (.int k4), .val (.int d1), .val (.int d2), .val (.ref a), .unset, .unset, .unset] [(.int f3), (.int d2), (.int k3), (.ref a)])) rfl (by rw [hml]; rfl) (Steps.refl _) (argsL := [(.int k3), (.int d2), (.int f3)]) (rest := []) (lenOf pd_117 rfl) rfl (by show 2 * 0 + _ ≤ _; exact Nat.le_of_eq rfl) (hb hby at_113) (fun _ _ => ⟨rfl, rfl, (by decide : 8 + 0 ≤ _), (by decide : 30 + 0 ≤ _)⟩)
  dsimp only [Pt.U, Pt.locs, Pt.cells, Pt.slots] at X6 l6 y6 z6 st6 hQ6
  subst l6 y6 z6
  obtain ⟨rfl, N6q, Kc6, CK6⟩ := hQ6
  have N6 := Fr.app N5 N6q
  have K6 : Keep h0 T6.heap [] := K5.trans Kc6 (allS (Or.inr sz_a) (allS (Or.inr sz_ci) (allS (Or.inr sz_kw) (allS (Or.inr sz_wf) all0))))
  refine own_tr st6 ?_
  show own_Go p.tables e below (T6.setTop (mkF m 116 #[.val (.int keys), .val (.long docs), .second, .val (.int f1), .val (.int f2), .val (.int f3), .val (.int f4), .val (.int k1), .val (.int k2), .val (.int k3), .val (.int k4), .val (.int d1), .val (.int d2), .val (.ref a), .unset, .unset, .unset] [])) _
  have CKd := (CK6.resolve_left fun q => own_m2 hdd (hC n3) q.1).2
  have EECKd := CKd.1
  refine own_by (fun zt zk => XS.aload X6.here hx rfl (hb hby at_116) rfl rfl zk) ?_
  show own_Go p.tables e below (T6.setTop (mkF m 118 #[.val (.int keys), .val (.long docs), .second, .val (.int f1), .val (.int f2), .val (.int f3), .val (.int f4), .val (.int k1), .val (.int k2), .val (.int k3), .val (.int k4), .val (.int d1), .val (.int d2), .val (.ref a), .unset, .unset, .unset] [(.ref a)])) _
  refine own_by (fun zt zk => XS.iload X6.here hx rfl (hb hby at_118) rfl zk) ?_
  show own_Go p.tables e below (T6.setTop (mkF m 120 #[.val (.int keys), .val (.long docs), .second, .val (.int f1), .val (.int f2), .val (.int f3), .val (.int f4), .val (.int k1), .val (.int k2), .val (.int k3), .val (.int k4), .val (.int d1), .val (.int d2), .val (.ref a), .unset, .unset, .unset] [(.int k4), (.ref a)])) _
  refine own_by (fun zt zk => XS.iload X6.here hx rfl (hb hby at_120) rfl zk) ?_
  show own_Go p.tables e below (T6.setTop (mkF m 122 #[.val (.int keys), .val (.long docs), .second, .val (.int f1), .val (.int f2), .val (.int f3), .val (.int f4), .val (.int k1), .val (.int k2), .val (.int k3), .val (.int k4), .val (.int d1), .val (.int d2), .val (.ref a), .unset, .unset, .unset] [(.int d2), (.int k4), (.ref a)])) _
  refine own_by (fun zt zk => XS.iload X6.here hx rfl (hb hby at_122) rfl zk) ?_
  show own_Go p.tables e below (T6.setTop (mkF m 124 #[.val (.int keys), .val (.long docs), .second, .val (.int f1), .val (.int f2), .val (.int f3), .val (.int f4), .val (.int k1), .val (.int k2), .val (.int k3), .val (.int k4), .val (.int d1), .val (.int d2), .val (.ref a), .unset, .unset, .unset] [(.int f4), (.int d2), (.int k4), (.ref a)])) _
  obtain ⟨cq7, kq7, q7a, q7b, q7c⟩ := isOf hZ rfl EECKd
  obtain ⟨_, _, ⟨T7, L7, k7, n7⟩, -, X7, ⟨Lc7, hQ7, l7, y7, z7⟩, st7⟩ := X6.virtualBack hx (y := (⟨"com/example/aprox/aprox/CountedKeywords", "add", "(III)V"⟩ : MethodName)) (z := (⟨"com/example/aprox/aprox/CountedKeywords", "add", "(III)V"⟩ : MethodName)) hown (mvT hZ (hw _ (List.mem_of_getElem? (i := 31) rfl))) (mvT hZ (hw _ (List.mem_of_getElem? (i := 32) rfl))) (notFace_of_selects (args := #[]) (mvT hZ (hw _ (List.mem_of_getElem? (i := 34) rfl)))) (mvT hZ (hw _ (List.mem_of_getElem? (i := 34) rfl))) (mvT hZ (hw _ (List.mem_of_getElem? (i := 33) rfl))) (by decide) (backOf (W := 0) (rm_add l Z a0 hw [] a k4 d2 f4 ci kw wf _ _ _ _ n4 1 T6.heap n0 (Nat.le_trans Z0 K6.1) CKd hm4 hn4 (by decide) (by decide)) hZ (hw _ (List.mem_of_getElem? (i := 35) rfl)) (hw _ (List.mem_of_getElem? (i := 3) rfl)) (by decide) (by decide)) q7a q7c (g := (mkF m 124 #[.val (.int keys), .val (.long docs), .second, .val (.int f1), .val (.int f2), .val (.int f3), .val (.int f4), .val (.int k1), .val (.int k2), .val (.int k3), .val (.int k4), .val (.int d1), .val (.int d2), .val (.ref a), .unset, .unset, .unset] [(.int f4), (.int d2), (.int k4), (.ref a)])) rfl (by rw [hml]; rfl) (Steps.refl _) (argsL := [(.int k4), (.int d2), (.int f4)]) (rest := []) (lenOf pd_117 rfl) rfl (by show 2 * 0 + _ ≤ _; exact Nat.le_of_eq rfl) (hb hby at_124) (fun _ _ => ⟨rfl, rfl, (by decide : 8 + 0 ≤ _), (by decide : 30 + 0 ≤ _)⟩)
  dsimp only [Pt.U, Pt.locs, Pt.cells, Pt.slots] at X7 l7 y7 z7 st7 hQ7
  subst l7 y7 z7
  obtain ⟨rfl, N7q, Kc7, CKe⟩ := hQ7
  have N7 := Fr.app N6 N7q
  have K7 : Keep h0 T7.heap [] := K6.trans Kc7 (allS (Or.inr sz_a) (allS (Or.inr sz_ci) (allS (Or.inr sz_kw) (allS (Or.inr sz_wf) all0))))
  refine own_tr st7 ?_
  show own_Go p.tables e below (T7.setTop (mkF m 127 #[.val (.int keys), .val (.long docs), .second, .val (.int f1), .val (.int f2), .val (.int f3), .val (.int f4), .val (.int k1), .val (.int k2), .val (.int k3), .val (.int k4), .val (.int d1), .val (.int d2), .val (.ref a), .unset, .unset, .unset] [])) _
  refine own_by (fun zt zk => XS.iload X7.here hx rfl (hb hby at_127) rfl zk) ?_
  show own_Go p.tables e below (T7.setTop (mkF m 129 #[.val (.int keys), .val (.long docs), .second, .val (.int f1), .val (.int f2), .val (.int f3), .val (.int f4), .val (.int k1), .val (.int k2), .val (.int k3), .val (.int k4), .val (.int d1), .val (.int d2), .val (.ref a), .unset, .unset, .unset] [(.int k3)])) _
  refine own_by (fun zt zk => XS.iload X7.here hx rfl (hb hby at_129) rfl zk) ?_
  show own_Go p.tables e below (T7.setTop (mkF m 131 #[.val (.int keys), .val (.long docs), .second, .val (.int f1), .val (.int f2), .val (.int f3), .val (.int f4), .val (.int k1), .val (.int k2), .val (.int k3), .val (.int k4), .val (.int d1), .val (.int d2), .val (.ref a), .unset, .unset, .unset] [(.int k4), (.int k3)])) _
  by_cases h1 : k3 = k4
  · refine own_by (fun zt zk => XS.icmpNo X7.here hx rfl (hb hby at_131) rfl (teq h1).2 zk) ?_
    show own_Go p.tables e below (T7.setTop (mkF m 134 #[.val (.int keys), .val (.long docs), .second, .val (.int f1), .val (.int f2), .val (.int f3), .val (.int f4), .val (.int k1), .val (.int k2), .val (.int k3), .val (.int k4), .val (.int d1), .val (.int d2), .val (.ref a), .unset, .unset, .unset] [])) _
    have hnn : n3 = n4 := own_nn hm3 hm4 hn3 hn4 h1
    have CKf := (CKe.resolve_right fun q => q.1 (by rw [hnn]; exact own_upd_at _ _ _)).2
    have EECKf := CKf.1
    refine own_by (fun zt zk => XS.iconst X7.here hx rfl (hb hby at_134) zk) ?_
    show own_Go p.tables e below (T7.setTop (mkF m 135 #[.val (.int keys), .val (.long docs), .second, .val (.int f1), .val (.int f2), .val (.int f3), .val (.int f4), .val (.int k1), .val (.int k2), .val (.int k3), .val (.int k4), .val (.int d1), .val (.int d2), .val (.ref a), .unset, .unset, .unset] [(.int (1 : Int32))])) _
    refine own_by (fun zt zk => XS.goto X7.here hx rfl (pc0 := 135) (pc' := 139) rfl (hb hby at_135) (by decide) (by decide) zk) ?_
    show own_Go p.tables e below (T7.setTop (mkF m 139 #[.val (.int keys), .val (.long docs), .second, .val (.int f1), .val (.int f2), .val (.int f3), .val (.int f4), .val (.int k1), .val (.int k2), .val (.int k3), .val (.int k4), .val (.int d1), .val (.int d2), .val (.ref a), .unset, .unset, .unset] [(.int (1 : Int32))])) _
    refine own_by (fun zt zk => XS.istore X7.here hx rfl (hb hby at_139) rfl (l' := #[.val (.int keys), .val (.long docs), .second, .val (.int f1), .val (.int f2), .val (.int f3), .val (.int f4), .val (.int k1), .val (.int k2), .val (.int k3), .val (.int k4), .val (.int d1), .val (.int d2), .val (.ref a), .val (.int (1 : Int32)), .unset, .unset]) rfl zk) ?_
    show own_Go p.tables e below (T7.setTop (mkF m 141 #[.val (.int keys), .val (.long docs), .second, .val (.int f1), .val (.int f2), .val (.int f3), .val (.int f4), .val (.int k1), .val (.int k2), .val (.int k3), .val (.int k4), .val (.int d1), .val (.int d2), .val (.ref a), .val (.int (1 : Int32)), .unset, .unset] [])) _
    refine own_by (fun zt zk => XS.aload X7.here hx rfl (hb hby at_141) rfl rfl zk) ?_
    show own_Go p.tables e below (T7.setTop (mkF m 143 #[.val (.int keys), .val (.long docs), .second, .val (.int f1), .val (.int f2), .val (.int f3), .val (.int f4), .val (.int k1), .val (.int k2), .val (.int k3), .val (.int k4), .val (.int d1), .val (.int d2), .val (.ref a), .val (.int (1 : Int32)), .unset, .unset] [(.ref a)])) _
    obtain ⟨cq8, kq8, q8a, q8b, q8c⟩ := isOf hZ rfl EECKf
    obtain ⟨_, _, ⟨T8, L8, k8, n8⟩, -, X8, ⟨Lc8, hQ8, l8, y8, z8⟩, st8⟩ := X7.virtualBack hx (y := (⟨"com/example/aprox/aprox/CountedKeywords", "count", "()I"⟩ : MethodName)) (z := (⟨"com/example/aprox/aprox/CountedKeywords", "count", "()I"⟩ : MethodName)) hown (mvT hZ (hw _ (List.mem_of_getElem? (i := 45) rfl))) (mvT hZ (hw _ (List.mem_of_getElem? (i := 46) rfl))) (notFace_of_selects (args := #[]) (mvT hZ (hw _ (List.mem_of_getElem? (i := 48) rfl)))) (mvT hZ (hw _ (List.mem_of_getElem? (i := 48) rfl))) (mvT hZ (hw _ (List.mem_of_getElem? (i := 47) rfl))) (by decide) (backOf (W := 0) (rm_count l Z a0 hw [] a ci kw wf _ _ _ _ T7.heap n0 (Nat.le_trans Z0 K7.1) CKf) hZ (hw _ (List.mem_of_getElem? (i := 49) rfl)) (hw _ (List.mem_of_getElem? (i := 3) rfl)) (by decide) (by decide)) q8a q8c (g := (mkF m 143 #[.val (.int keys), .val (.long docs), .second, .val (.int f1), .val (.int f2), .val (.int f3), .val (.int f4), .val (.int k1), .val (.int k2), .val (.int k3), .val (.int k4), .val (.int d1), .val (.int d2), .val (.ref a), .val (.int (1 : Int32)), .unset, .unset] [(.ref a)])) rfl (by rw [hml]; rfl) (Steps.refl _) (argsL := []) (rest := []) (lenOf pd_119 rfl) rfl (by show 2 * 0 + _ ≤ _; exact Nat.le_of_eq rfl) (hb hby at_143) (fun _ _ => ⟨rfl, rfl, (by decide : 8 + 0 ≤ _), (by decide : 30 + 0 ≤ _)⟩)
    dsimp only [Pt.U, Pt.locs, Pt.cells, Pt.slots] at X8 l8 y8 z8 st8 hQ8
    subst l8 y8 z8
    obtain ⟨ct1, rfl, N8q, eh8, hct1⟩ := hQ8
    have N8 := Fr.app N7 N8q
    refine own_tr st8 ?_
    show own_Go p.tables e below (T8.setTop (mkF m 146 #[.val (.int keys), .val (.long docs), .second, .val (.int f1), .val (.int f2), .val (.int f3), .val (.int f4), .val (.int k1), .val (.int k2), .val (.int k3), .val (.int k4), .val (.int d1), .val (.int d2), .val (.ref a), .val (.int (1 : Int32)), .unset, .unset] [(.int ct1)])) _
    have e1 : ct1 = (1 : Int32) := by rw [hct1]; decide
    refine own_by (fun zt zk => XS.iload X8.here hx rfl (hb hby at_146) rfl zk) ?_
    show own_Go p.tables e below (T8.setTop (mkF m 148 #[.val (.int keys), .val (.long docs), .second, .val (.int f1), .val (.int f2), .val (.int f3), .val (.int f4), .val (.int k1), .val (.int k2), .val (.int k3), .val (.int k4), .val (.int d1), .val (.int d2), .val (.ref a), .val (.int (1 : Int32)), .unset, .unset] [(.int (1 : Int32)), (.int ct1)])) _
    refine own_by (fun zt zk => XS.ifNo X8.here hx rfl (hb hby at_148) rfl ((if0 _ _).trans (feq (by decide)).1) zk) ?_
    show own_Go p.tables e below (T8.setTop (mkF m 151 #[.val (.int keys), .val (.long docs), .second, .val (.int f1), .val (.int f2), .val (.int f3), .val (.int f4), .val (.int k1), .val (.int k2), .val (.int k3), .val (.int k4), .val (.int d1), .val (.int d2), .val (.ref a), .val (.int (1 : Int32)), .unset, .unset] [(.int ct1)])) _
    refine own_by (fun zt zk => XS.iconst X8.here hx rfl (hb hby at_151) zk) ?_
    show own_Go p.tables e below (T8.setTop (mkF m 152 #[.val (.int keys), .val (.long docs), .second, .val (.int f1), .val (.int f2), .val (.int f3), .val (.int f4), .val (.int k1), .val (.int k2), .val (.int k3), .val (.int k4), .val (.int d1), .val (.int d2), .val (.ref a), .val (.int (1 : Int32)), .unset, .unset] [(.int (1 : Int32)), (.int ct1)])) _
    refine own_by (fun zt zk => XS.goto X8.here hx rfl (pc0 := 152) (pc' := 156) rfl (hb hby at_152) (by decide) (by decide) zk) ?_
    show own_Go p.tables e below (T8.setTop (mkF m 156 #[.val (.int keys), .val (.long docs), .second, .val (.int f1), .val (.int f2), .val (.int f3), .val (.int f4), .val (.int k1), .val (.int k2), .val (.int k3), .val (.int k4), .val (.int d1), .val (.int d2), .val (.ref a), .val (.int (1 : Int32)), .unset, .unset] [(.int (1 : Int32)), (.int ct1)])) _
    refine own_by (fun zt zk => XS.icmpYes X8.here hx rfl (pc0 := 156) (pc' := 161) rfl (hb hby at_156) rfl (teq e1).1 (by decide) (by decide) zk) ?_
    show own_Go p.tables e below (T8.setTop (mkF m 161 #[.val (.int keys), .val (.long docs), .second, .val (.int f1), .val (.int f2), .val (.int f3), .val (.int f4), .val (.int k1), .val (.int k2), .val (.int k3), .val (.int k4), .val (.int d1), .val (.int d2), .val (.ref a), .val (.int (1 : Int32)), .unset, .unset] [])) _
    refine own_by (fun zt zk => XS.aload X8.here hx rfl (hb hby at_161) rfl rfl zk) ?_
    show own_Go p.tables e below (T8.setTop (mkF m 163 #[.val (.int keys), .val (.long docs), .second, .val (.int f1), .val (.int f2), .val (.int f3), .val (.int f4), .val (.int k1), .val (.int k2), .val (.int k3), .val (.int k4), .val (.int d1), .val (.int d2), .val (.ref a), .val (.int (1 : Int32)), .unset, .unset] [(.ref a)])) _
    refine own_by (fun zt zk => XS.iconst X8.here hx rfl (hb hby at_163) zk) ?_
    show own_Go p.tables e below (T8.setTop (mkF m 164 #[.val (.int keys), .val (.long docs), .second, .val (.int f1), .val (.int f2), .val (.int f3), .val (.int f4), .val (.int k1), .val (.int k2), .val (.int k3), .val (.int k4), .val (.int d1), .val (.int d2), .val (.ref a), .val (.int (1 : Int32)), .unset, .unset] [(.int (0 : Int32)), (.ref a)])) _
    obtain ⟨cq9, kq9, q9a, q9b, q9c⟩ := isOf hZ eh8 EECKf
    obtain ⟨_, _, ⟨T9, L9, k9, n9⟩, -, X9, ⟨Lc9, hQ9, l9, y9, z9⟩, st9⟩ := X8.virtualBack hx (y := (⟨"com/example/aprox/aprox/CountedKeywords", "keyword", "(I)I"⟩ : MethodName)) (z := (⟨"com/example/aprox/aprox/CountedKeywords", "keyword", "(I)I"⟩ : MethodName)) hown (mvT hZ (hw _ (List.mem_of_getElem? (i := 50) rfl))) (mvT hZ (hw _ (List.mem_of_getElem? (i := 51) rfl))) (notFace_of_selects (args := #[]) (mvT hZ (hw _ (List.mem_of_getElem? (i := 53) rfl)))) (mvT hZ (hw _ (List.mem_of_getElem? (i := 53) rfl))) (mvT hZ (hw _ (List.mem_of_getElem? (i := 52) rfl))) (by decide) (backOf (W := 0) (rm_kw l Z a0 hw [] a (0 : Int32) ci kw wf _ _ _ _ 0 T7.heap n0 (Nat.le_trans Z0 K7.1) CKf rfl (by decide)) hZ (hw _ (List.mem_of_getElem? (i := 54) rfl)) (hw _ (List.mem_of_getElem? (i := 3) rfl)) (by decide) (by decide)) q9a q9c (g := (mkF m 164 #[.val (.int keys), .val (.long docs), .second, .val (.int f1), .val (.int f2), .val (.int f3), .val (.int f4), .val (.int k1), .val (.int k2), .val (.int k3), .val (.int k4), .val (.int d1), .val (.int d2), .val (.ref a), .val (.int (1 : Int32)), .unset, .unset] [(.int (0 : Int32)), (.ref a)])) rfl (by rw [hml]; rfl) (Steps.refl _) (argsL := [(.int (0 : Int32))]) (rest := []) (lenOf pd_120 rfl) rfl (by show 2 * 0 + _ ≤ _; exact Nat.le_of_eq rfl) (hb hby at_164) (fun _ _ => ⟨rfl, eh8, (by decide : 8 + 0 ≤ _), (by decide : 30 + 0 ≤ _)⟩)
    dsimp only [Pt.U, Pt.locs, Pt.cells, Pt.slots] at X9 l9 y9 z9 st9 hQ9
    subst l9 y9 z9
    obtain ⟨w0, rfl, N9q, eh9, hw0⟩ := hQ9
    have N9 := Fr.app N8 N9q
    refine own_tr st9 ?_
    show own_Go p.tables e below (T9.setTop (mkF m 167 #[.val (.int keys), .val (.long docs), .second, .val (.int f1), .val (.int f2), .val (.int f3), .val (.int f4), .val (.int k1), .val (.int k2), .val (.int k3), .val (.int k4), .val (.int d1), .val (.int d2), .val (.ref a), .val (.int (1 : Int32)), .unset, .unset] [(.int w0)])) _
    have e2 : w0 = k3 := by rw [hw0]; rfl
    refine own_by (fun zt zk => XS.iload X9.here hx rfl (hb hby at_167) rfl zk) ?_
    show own_Go p.tables e below (T9.setTop (mkF m 169 #[.val (.int keys), .val (.long docs), .second, .val (.int f1), .val (.int f2), .val (.int f3), .val (.int f4), .val (.int k1), .val (.int k2), .val (.int k3), .val (.int k4), .val (.int d1), .val (.int d2), .val (.ref a), .val (.int (1 : Int32)), .unset, .unset] [(.int k3), (.int w0)])) _
    refine own_by (fun zt zk => XS.icmpYes X9.here hx rfl (pc0 := 169) (pc' := 174) rfl (hb hby at_169) rfl (teq e2).1 (by decide) (by decide) zk) ?_
    show own_Go p.tables e below (T9.setTop (mkF m 174 #[.val (.int keys), .val (.long docs), .second, .val (.int f1), .val (.int f2), .val (.int f3), .val (.int f4), .val (.int k1), .val (.int k2), .val (.int k3), .val (.int k4), .val (.int d1), .val (.int d2), .val (.ref a), .val (.int (1 : Int32)), .unset, .unset] [])) _
    refine own_by (fun zt zk => XS.iload X9.here hx rfl (hb hby at_174) rfl zk) ?_
    show own_Go p.tables e below (T9.setTop (mkF m 176 #[.val (.int keys), .val (.long docs), .second, .val (.int f1), .val (.int f2), .val (.int f3), .val (.int f4), .val (.int k1), .val (.int k2), .val (.int k3), .val (.int k4), .val (.int d1), .val (.int d2), .val (.ref a), .val (.int (1 : Int32)), .unset, .unset] [(.int (1 : Int32))])) _
    refine own_by (fun zt zk => XS.ifYes X9.here hx rfl (pc0 := 176) (pc' := 192) rfl (hb hby at_176) rfl ((if0 _ _).trans (feq (by decide)).2) (by decide) (by decide) zk) ?_
    show own_Go p.tables e below (T9.setTop (mkF m 192 #[.val (.int keys), .val (.long docs), .second, .val (.int f1), .val (.int f2), .val (.int f3), .val (.int f4), .val (.int k1), .val (.int k2), .val (.int k3), .val (.int k4), .val (.int d1), .val (.int d2), .val (.ref a), .val (.int (1 : Int32)), .unset, .unset] [])) _
    refine own_by (fun zt zk => XS.iload X9.here hx rfl (hb hby at_192) rfl zk) ?_
    show own_Go p.tables e below (T9.setTop (mkF m 194 #[.val (.int keys), .val (.long docs), .second, .val (.int f1), .val (.int f2), .val (.int f3), .val (.int f4), .val (.int k1), .val (.int k2), .val (.int k3), .val (.int k4), .val (.int d1), .val (.int d2), .val (.ref a), .val (.int (1 : Int32)), .unset, .unset] [(.int (1 : Int32))])) _
    refine own_by (fun zt zk => XS.ifNo X9.here hx rfl (hb hby at_194) rfl ((if0 _ _).trans (feq (by decide)).1) zk) ?_
    show own_Go p.tables e below (T9.setTop (mkF m 197 #[.val (.int keys), .val (.long docs), .second, .val (.int f1), .val (.int f2), .val (.int f3), .val (.int f4), .val (.int k1), .val (.int k2), .val (.int k3), .val (.int k4), .val (.int d1), .val (.int d2), .val (.ref a), .val (.int (1 : Int32)), .unset, .unset] [])) _
    refine own_by (fun zt zk => XS.iload X9.here hx rfl (hb hby at_197) rfl zk) ?_
    show own_Go p.tables e below (T9.setTop (mkF m 199 #[.val (.int keys), .val (.long docs), .second, .val (.int f1), .val (.int f2), .val (.int f3), .val (.int f4), .val (.int k1), .val (.int k2), .val (.int k3), .val (.int k4), .val (.int d1), .val (.int d2), .val (.ref a), .val (.int (1 : Int32)), .unset, .unset] [(.int f3)])) _
    refine own_by (fun zt zk => XS.iload X9.here hx rfl (hb hby at_199) rfl zk) ?_
    show own_Go p.tables e below (T9.setTop (mkF m 201 #[.val (.int keys), .val (.long docs), .second, .val (.int f1), .val (.int f2), .val (.int f3), .val (.int f4), .val (.int k1), .val (.int k2), .val (.int k3), .val (.int k4), .val (.int d1), .val (.int d2), .val (.ref a), .val (.int (1 : Int32)), .unset, .unset] [(.int f4), (.int f3)])) _
    refine own_by (fun zt zk => XS.ior X9.here hx rfl (hb hby at_201) rfl zk) ?_
    show own_Go p.tables e below (T9.setTop (mkF m 202 #[.val (.int keys), .val (.long docs), .second, .val (.int f1), .val (.int f2), .val (.int f3), .val (.int f4), .val (.int k1), .val (.int k2), .val (.int k3), .val (.int k4), .val (.int d1), .val (.int d2), .val (.ref a), .val (.int (1 : Int32)), .unset, .unset] [(.int (f3 ||| f4))])) _
    refine own_by (fun zt zk => XS.goto X9.here hx rfl (pc0 := 202) (pc' := 207) rfl (hb hby at_202) (by decide) (by decide) zk) ?_
    show own_Go p.tables e below (T9.setTop (mkF m 207 #[.val (.int keys), .val (.long docs), .second, .val (.int f1), .val (.int f2), .val (.int f3), .val (.int f4), .val (.int k1), .val (.int k2), .val (.int k3), .val (.int k4), .val (.int d1), .val (.int d2), .val (.ref a), .val (.int (1 : Int32)), .unset, .unset] [(.int (f3 ||| f4))])) _
    refine own_by (fun zt zk => XS.istore X9.here hx rfl (hb hby at_207) rfl (l' := #[.val (.int keys), .val (.long docs), .second, .val (.int f1), .val (.int f2), .val (.int f3), .val (.int f4), .val (.int k1), .val (.int k2), .val (.int k3), .val (.int k4), .val (.int d1), .val (.int d2), .val (.ref a), .val (.int (1 : Int32)), .val (.int (f3 ||| f4)), .unset]) rfl zk) ?_
    show own_Go p.tables e below (T9.setTop (mkF m 209 #[.val (.int keys), .val (.long docs), .second, .val (.int f1), .val (.int f2), .val (.int f3), .val (.int f4), .val (.int k1), .val (.int k2), .val (.int k3), .val (.int k4), .val (.int d1), .val (.int d2), .val (.ref a), .val (.int (1 : Int32)), .val (.int (f3 ||| f4)), .unset] [])) _
    refine own_by (fun zt zk => XS.iload X9.here hx rfl (hb hby at_209) rfl zk) ?_
    show own_Go p.tables e below (T9.setTop (mkF m 211 #[.val (.int keys), .val (.long docs), .second, .val (.int f1), .val (.int f2), .val (.int f3), .val (.int f4), .val (.int k1), .val (.int k2), .val (.int k3), .val (.int k4), .val (.int d1), .val (.int d2), .val (.ref a), .val (.int (1 : Int32)), .val (.int (f3 ||| f4)), .unset] [(.int (1 : Int32))])) _
    refine own_by (fun zt zk => XS.ifNo X9.here hx rfl (hb hby at_211) rfl ((if0 _ _).trans (feq (by decide)).1) zk) ?_
    show own_Go p.tables e below (T9.setTop (mkF m 214 #[.val (.int keys), .val (.long docs), .second, .val (.int f1), .val (.int f2), .val (.int f3), .val (.int f4), .val (.int k1), .val (.int k2), .val (.int k3), .val (.int k4), .val (.int d1), .val (.int d2), .val (.ref a), .val (.int (1 : Int32)), .val (.int (f3 ||| f4)), .unset] [])) _
    refine own_by (fun zt zk => XS.iload X9.here hx rfl (hb hby at_214) rfl zk) ?_
    show own_Go p.tables e below (T9.setTop (mkF m 216 #[.val (.int keys), .val (.long docs), .second, .val (.int f1), .val (.int f2), .val (.int f3), .val (.int f4), .val (.int k1), .val (.int k2), .val (.int k3), .val (.int k4), .val (.int d1), .val (.int d2), .val (.ref a), .val (.int (1 : Int32)), .val (.int (f3 ||| f4)), .unset] [(.int f3)])) _
    refine own_by (fun zt zk => XS.iload X9.here hx rfl (hb hby at_216) rfl zk) ?_
    show own_Go p.tables e below (T9.setTop (mkF m 218 #[.val (.int keys), .val (.long docs), .second, .val (.int f1), .val (.int f2), .val (.int f3), .val (.int f4), .val (.int k1), .val (.int k2), .val (.int k3), .val (.int k4), .val (.int d1), .val (.int d2), .val (.ref a), .val (.int (1 : Int32)), .val (.int (f3 ||| f4)), .unset] [(.int f4), (.int f3)])) _
    refine own_by (fun zt zk => XS.ior X9.here hx rfl (hb hby at_218) rfl zk) ?_
    show own_Go p.tables e below (T9.setTop (mkF m 219 #[.val (.int keys), .val (.long docs), .second, .val (.int f1), .val (.int f2), .val (.int f3), .val (.int f4), .val (.int k1), .val (.int k2), .val (.int k3), .val (.int k4), .val (.int d1), .val (.int d2), .val (.ref a), .val (.int (1 : Int32)), .val (.int (f3 ||| f4)), .unset] [(.int (f3 ||| f4))])) _
    refine own_by (fun zt zk => XS.goto X9.here hx rfl (pc0 := 219) (pc' := 224) rfl (hb hby at_219) (by decide) (by decide) zk) ?_
    show own_Go p.tables e below (T9.setTop (mkF m 224 #[.val (.int keys), .val (.long docs), .second, .val (.int f1), .val (.int f2), .val (.int f3), .val (.int f4), .val (.int k1), .val (.int k2), .val (.int k3), .val (.int k4), .val (.int d1), .val (.int d2), .val (.ref a), .val (.int (1 : Int32)), .val (.int (f3 ||| f4)), .unset] [(.int (f3 ||| f4))])) _
    refine own_by (fun zt zk => XS.istore X9.here hx rfl (hb hby at_224) rfl (l' := #[.val (.int keys), .val (.long docs), .second, .val (.int f1), .val (.int f2), .val (.int f3), .val (.int f4), .val (.int k1), .val (.int k2), .val (.int k3), .val (.int k4), .val (.int d1), .val (.int d2), .val (.ref a), .val (.int (1 : Int32)), .val (.int (f3 ||| f4)), .val (.int (f3 ||| f4))]) rfl zk) ?_
    show own_Go p.tables e below (T9.setTop (mkF m 226 #[.val (.int keys), .val (.long docs), .second, .val (.int f1), .val (.int f2), .val (.int f3), .val (.int f4), .val (.int k1), .val (.int k2), .val (.int k3), .val (.int k4), .val (.int d1), .val (.int d2), .val (.ref a), .val (.int (1 : Int32)), .val (.int (f3 ||| f4)), .val (.int (f3 ||| f4))] [])) _
    refine own_by (fun zt zk => XS.aload X9.here hx rfl (hb hby at_226) rfl rfl zk) ?_
    show own_Go p.tables e below (T9.setTop (mkF m 228 #[.val (.int keys), .val (.long docs), .second, .val (.int f1), .val (.int f2), .val (.int f3), .val (.int f4), .val (.int k1), .val (.int k2), .val (.int k3), .val (.int k4), .val (.int d1), .val (.int d2), .val (.ref a), .val (.int (1 : Int32)), .val (.int (f3 ||| f4)), .val (.int (f3 ||| f4))] [(.ref a)])) _
    refine own_by (fun zt zk => XS.iload X9.here hx rfl (hb hby at_228) rfl zk) ?_
    show own_Go p.tables e below (T9.setTop (mkF m 230 #[.val (.int keys), .val (.long docs), .second, .val (.int f1), .val (.int f2), .val (.int f3), .val (.int f4), .val (.int k1), .val (.int k2), .val (.int k3), .val (.int k4), .val (.int d1), .val (.int d2), .val (.ref a), .val (.int (1 : Int32)), .val (.int (f3 ||| f4)), .val (.int (f3 ||| f4))] [(.int k3), (.ref a)])) _
    obtain ⟨cq10, kq10, q10a, q10b, q10c⟩ := isOf hZ eh9 EECKf
    obtain ⟨_, _, ⟨T10, L10, k10, n10⟩, -, X10, ⟨Lc10, hQ10, l10, y10, z10⟩, st10⟩ := X9.virtualBack hx (y := (⟨"com/example/aprox/aprox/CountedKeywords", "wholeFields", "(I)I"⟩ : MethodName)) (z := (⟨"com/example/aprox/aprox/CountedKeywords", "wholeFields", "(I)I"⟩ : MethodName)) hown (mvT hZ (hw _ (List.mem_of_getElem? (i := 55) rfl))) (mvT hZ (hw _ (List.mem_of_getElem? (i := 56) rfl))) (notFace_of_selects (args := #[]) (mvT hZ (hw _ (List.mem_of_getElem? (i := 58) rfl)))) (mvT hZ (hw _ (List.mem_of_getElem? (i := 58) rfl))) (mvT hZ (hw _ (List.mem_of_getElem? (i := 57) rfl))) (by decide) (backOf (W := 0) (rm_wf l Z a0 hw [] a k3 ci kw wf _ _ _ _ n3 T7.heap n0 (Nat.le_trans Z0 K7.1) CKf hm3 hn3) hZ (hw _ (List.mem_of_getElem? (i := 59) rfl)) (hw _ (List.mem_of_getElem? (i := 3) rfl)) (by decide) (by decide)) q10a q10c (g := (mkF m 230 #[.val (.int keys), .val (.long docs), .second, .val (.int f1), .val (.int f2), .val (.int f3), .val (.int f4), .val (.int k1), .val (.int k2), .val (.int k3), .val (.int k4), .val (.int d1), .val (.int d2), .val (.ref a), .val (.int (1 : Int32)), .val (.int (f3 ||| f4)), .val (.int (f3 ||| f4))] [(.int k3), (.ref a)])) rfl (by rw [hml]; rfl) (Steps.refl _) (argsL := [(.int k3)]) (rest := []) (lenOf pd_120 rfl) rfl (by show 2 * 0 + _ ≤ _; exact Nat.le_of_eq rfl) (hb hby at_230) (fun _ _ => ⟨rfl, eh9, (by decide : 8 + 0 ≤ _), (by decide : 30 + 0 ≤ _)⟩)
    dsimp only [Pt.U, Pt.locs, Pt.cells, Pt.slots] at X10 l10 y10 z10 st10 hQ10
    subst l10 y10 z10
    obtain ⟨u3, rfl, N10q, eh10, hu3⟩ := hQ10
    have N10 := Fr.app N9 N10q
    refine own_tr st10 ?_
    show own_Go p.tables e below (T10.setTop (mkF m 233 #[.val (.int keys), .val (.long docs), .second, .val (.int f1), .val (.int f2), .val (.int f3), .val (.int f4), .val (.int k1), .val (.int k2), .val (.int k3), .val (.int k4), .val (.int d1), .val (.int d2), .val (.ref a), .val (.int (1 : Int32)), .val (.int (f3 ||| f4)), .val (.int (f3 ||| f4))] [(.int u3)])) _
    have e4 : u3 = (f3 ||| f4) := by rw [hu3, hnn, own_upd_at, own_upd_at]
    refine own_by (fun zt zk => XS.iload X10.here hx rfl (hb hby at_233) rfl zk) ?_
    show own_Go p.tables e below (T10.setTop (mkF m 235 #[.val (.int keys), .val (.long docs), .second, .val (.int f1), .val (.int f2), .val (.int f3), .val (.int f4), .val (.int k1), .val (.int k2), .val (.int k3), .val (.int k4), .val (.int d1), .val (.int d2), .val (.ref a), .val (.int (1 : Int32)), .val (.int (f3 ||| f4)), .val (.int (f3 ||| f4))] [(.int (f3 ||| f4)), (.int u3)])) _
    refine own_by (fun zt zk => XS.icmpNo X10.here hx rfl (hb hby at_235) rfl (teq e4).2 zk) ?_
    show own_Go p.tables e below (T10.setTop (mkF m 238 #[.val (.int keys), .val (.long docs), .second, .val (.int f1), .val (.int f2), .val (.int f3), .val (.int f4), .val (.int k1), .val (.int k2), .val (.int k3), .val (.int k4), .val (.int d1), .val (.int d2), .val (.ref a), .val (.int (1 : Int32)), .val (.int (f3 ||| f4)), .val (.int (f3 ||| f4))] [])) _
    refine own_by (fun zt zk => XS.aload X10.here hx rfl (hb hby at_238) rfl rfl zk) ?_
    show own_Go p.tables e below (T10.setTop (mkF m 240 #[.val (.int keys), .val (.long docs), .second, .val (.int f1), .val (.int f2), .val (.int f3), .val (.int f4), .val (.int k1), .val (.int k2), .val (.int k3), .val (.int k4), .val (.int d1), .val (.int d2), .val (.ref a), .val (.int (1 : Int32)), .val (.int (f3 ||| f4)), .val (.int (f3 ||| f4))] [(.ref a)])) _
    refine own_by (fun zt zk => XS.iload X10.here hx rfl (hb hby at_240) rfl zk) ?_
    show own_Go p.tables e below (T10.setTop (mkF m 242 #[.val (.int keys), .val (.long docs), .second, .val (.int f1), .val (.int f2), .val (.int f3), .val (.int f4), .val (.int k1), .val (.int k2), .val (.int k3), .val (.int k4), .val (.int d1), .val (.int d2), .val (.ref a), .val (.int (1 : Int32)), .val (.int (f3 ||| f4)), .val (.int (f3 ||| f4))] [(.int k4), (.ref a)])) _
    obtain ⟨cq11, kq11, q11a, q11b, q11c⟩ := isOf hZ eh10 EECKf
    obtain ⟨_, _, ⟨T11, L11, k11, n11⟩, -, X11, ⟨Lc11, hQ11, l11, y11, z11⟩, st11⟩ := X10.virtualBack hx (y := (⟨"com/example/aprox/aprox/CountedKeywords", "wholeFields", "(I)I"⟩ : MethodName)) (z := (⟨"com/example/aprox/aprox/CountedKeywords", "wholeFields", "(I)I"⟩ : MethodName)) hown (mvT hZ (hw _ (List.mem_of_getElem? (i := 55) rfl))) (mvT hZ (hw _ (List.mem_of_getElem? (i := 56) rfl))) (notFace_of_selects (args := #[]) (mvT hZ (hw _ (List.mem_of_getElem? (i := 58) rfl)))) (mvT hZ (hw _ (List.mem_of_getElem? (i := 58) rfl))) (mvT hZ (hw _ (List.mem_of_getElem? (i := 57) rfl))) (by decide) (backOf (W := 0) (rm_wf l Z a0 hw [] a k4 ci kw wf _ _ _ _ n4 T7.heap n0 (Nat.le_trans Z0 K7.1) CKf hm4 hn4) hZ (hw _ (List.mem_of_getElem? (i := 59) rfl)) (hw _ (List.mem_of_getElem? (i := 3) rfl)) (by decide) (by decide)) q11a q11c (g := (mkF m 242 #[.val (.int keys), .val (.long docs), .second, .val (.int f1), .val (.int f2), .val (.int f3), .val (.int f4), .val (.int k1), .val (.int k2), .val (.int k3), .val (.int k4), .val (.int d1), .val (.int d2), .val (.ref a), .val (.int (1 : Int32)), .val (.int (f3 ||| f4)), .val (.int (f3 ||| f4))] [(.int k4), (.ref a)])) rfl (by rw [hml]; rfl) (Steps.refl _) (argsL := [(.int k4)]) (rest := []) (lenOf pd_120 rfl) rfl (by show 2 * 0 + _ ≤ _; exact Nat.le_of_eq rfl) (hb hby at_242) (fun _ _ => ⟨rfl, eh10, (by decide : 8 + 0 ≤ _), (by decide : 30 + 0 ≤ _)⟩)
    dsimp only [Pt.U, Pt.locs, Pt.cells, Pt.slots] at X11 l11 y11 z11 st11 hQ11
    subst l11 y11 z11
    obtain ⟨u4, rfl, N11q, eh11, hu4⟩ := hQ11
    have N11 := Fr.app N10 N11q
    refine own_tr st11 ?_
    show own_Go p.tables e below (T11.setTop (mkF m 245 #[.val (.int keys), .val (.long docs), .second, .val (.int f1), .val (.int f2), .val (.int f3), .val (.int f4), .val (.int k1), .val (.int k2), .val (.int k3), .val (.int k4), .val (.int d1), .val (.int d2), .val (.ref a), .val (.int (1 : Int32)), .val (.int (f3 ||| f4)), .val (.int (f3 ||| f4))] [(.int u4)])) _
    have e5 : u4 = (f3 ||| f4) := by rw [hu4, hnn, own_upd_at, own_upd_at]
    refine own_by (fun zt zk => XS.iload X11.here hx rfl (hb hby at_245) rfl zk) ?_
    show own_Go p.tables e below (T11.setTop (mkF m 247 #[.val (.int keys), .val (.long docs), .second, .val (.int f1), .val (.int f2), .val (.int f3), .val (.int f4), .val (.int k1), .val (.int k2), .val (.int k3), .val (.int k4), .val (.int d1), .val (.int d2), .val (.ref a), .val (.int (1 : Int32)), .val (.int (f3 ||| f4)), .val (.int (f3 ||| f4))] [(.int (f3 ||| f4)), (.int u4)])) _
    refine own_by (fun zt zk => XS.icmpNo X11.here hx rfl (hb hby at_247) rfl (teq e5).2 zk) ?_
    show own_Go p.tables e below (T11.setTop (mkF m 250 #[.val (.int keys), .val (.long docs), .second, .val (.int f1), .val (.int f2), .val (.int f3), .val (.int f4), .val (.int k1), .val (.int k2), .val (.int k3), .val (.int k4), .val (.int d1), .val (.int d2), .val (.ref a), .val (.int (1 : Int32)), .val (.int (f3 ||| f4)), .val (.int (f3 ||| f4))] [])) _
    refine own_by (fun zt zk => XS.iconst X11.here hx rfl (hb hby at_250) zk) ?_
    show own_Go p.tables e below (T11.setTop (mkF m 251 #[.val (.int keys), .val (.long docs), .second, .val (.int f1), .val (.int f2), .val (.int f3), .val (.int f4), .val (.int k1), .val (.int k2), .val (.int k3), .val (.int k4), .val (.int d1), .val (.int d2), .val (.ref a), .val (.int (1 : Int32)), .val (.int (f3 ||| f4)), .val (.int (f3 ||| f4))] [(.int (1 : Int32))])) _
    refine own_by (fun zt zk => XS.goto X11.here hx rfl (pc0 := 251) (pc' := 255) rfl (hb hby at_251) (by decide) (by decide) zk) ?_
    show own_Go p.tables e below (T11.setTop (mkF m 255 #[.val (.int keys), .val (.long docs), .second, .val (.int f1), .val (.int f2), .val (.int f3), .val (.int f4), .val (.int k1), .val (.int k2), .val (.int k3), .val (.int k4), .val (.int d1), .val (.int d2), .val (.ref a), .val (.int (1 : Int32)), .val (.int (f3 ||| f4)), .val (.int (f3 ||| f4))] [(.int (1 : Int32))])) _
    exact own_retN X11 hx Bd.notSynchronized (t := .boolean) Bd.returns (by simp) (by decide) (hb hby at_255) (by (try rw [eh11]); exact ⟨rfl, N11⟩) (by decide) (by decide)
  · refine own_by (fun zt zk => XS.icmpYes X7.here hx rfl (pc0 := 131) (pc' := 138) rfl (hb hby at_131) rfl (feq h1).2 (by decide) (by decide) zk) ?_
    show own_Go p.tables e below (T7.setTop (mkF m 138 #[.val (.int keys), .val (.long docs), .second, .val (.int f1), .val (.int f2), .val (.int f3), .val (.int f4), .val (.int k1), .val (.int k2), .val (.int k3), .val (.int k4), .val (.int d1), .val (.int d2), .val (.ref a), .unset, .unset, .unset] [])) _
    have hnn : n3 ≠ n4 := fun q => h1 (by rw [hm3, hm4, q])
    have CKf := (CKe.resolve_left fun q => own_m2 hdd (hC n4) ((own_upd_ne _ _ hnn.symm).symm.trans q.1)).2
    have EECKf := CKf.1
    refine own_by (fun zt zk => XS.iconst X7.here hx rfl (hb hby at_138) zk) ?_
    show own_Go p.tables e below (T7.setTop (mkF m 139 #[.val (.int keys), .val (.long docs), .second, .val (.int f1), .val (.int f2), .val (.int f3), .val (.int f4), .val (.int k1), .val (.int k2), .val (.int k3), .val (.int k4), .val (.int d1), .val (.int d2), .val (.ref a), .unset, .unset, .unset] [(.int (0 : Int32))])) _
    refine own_by (fun zt zk => XS.istore X7.here hx rfl (hb hby at_139) rfl (l' := #[.val (.int keys), .val (.long docs), .second, .val (.int f1), .val (.int f2), .val (.int f3), .val (.int f4), .val (.int k1), .val (.int k2), .val (.int k3), .val (.int k4), .val (.int d1), .val (.int d2), .val (.ref a), .val (.int (0 : Int32)), .unset, .unset]) rfl zk) ?_
    show own_Go p.tables e below (T7.setTop (mkF m 141 #[.val (.int keys), .val (.long docs), .second, .val (.int f1), .val (.int f2), .val (.int f3), .val (.int f4), .val (.int k1), .val (.int k2), .val (.int k3), .val (.int k4), .val (.int d1), .val (.int d2), .val (.ref a), .val (.int (0 : Int32)), .unset, .unset] [])) _
    refine own_by (fun zt zk => XS.aload X7.here hx rfl (hb hby at_141) rfl rfl zk) ?_
    show own_Go p.tables e below (T7.setTop (mkF m 143 #[.val (.int keys), .val (.long docs), .second, .val (.int f1), .val (.int f2), .val (.int f3), .val (.int f4), .val (.int k1), .val (.int k2), .val (.int k3), .val (.int k4), .val (.int d1), .val (.int d2), .val (.ref a), .val (.int (0 : Int32)), .unset, .unset] [(.ref a)])) _
    obtain ⟨cq12, kq12, q12a, q12b, q12c⟩ := isOf hZ rfl EECKf
    obtain ⟨_, _, ⟨T12, L12, k12, n12⟩, -, X12, ⟨Lc12, hQ12, l12, y12, z12⟩, st12⟩ := X7.virtualBack hx (y := (⟨"com/example/aprox/aprox/CountedKeywords", "count", "()I"⟩ : MethodName)) (z := (⟨"com/example/aprox/aprox/CountedKeywords", "count", "()I"⟩ : MethodName)) hown (mvT hZ (hw _ (List.mem_of_getElem? (i := 45) rfl))) (mvT hZ (hw _ (List.mem_of_getElem? (i := 46) rfl))) (notFace_of_selects (args := #[]) (mvT hZ (hw _ (List.mem_of_getElem? (i := 48) rfl)))) (mvT hZ (hw _ (List.mem_of_getElem? (i := 48) rfl))) (mvT hZ (hw _ (List.mem_of_getElem? (i := 47) rfl))) (by decide) (backOf (W := 0) (rm_count l Z a0 hw [] a ci kw wf _ _ _ _ T7.heap n0 (Nat.le_trans Z0 K7.1) CKf) hZ (hw _ (List.mem_of_getElem? (i := 49) rfl)) (hw _ (List.mem_of_getElem? (i := 3) rfl)) (by decide) (by decide)) q12a q12c (g := (mkF m 143 #[.val (.int keys), .val (.long docs), .second, .val (.int f1), .val (.int f2), .val (.int f3), .val (.int f4), .val (.int k1), .val (.int k2), .val (.int k3), .val (.int k4), .val (.int d1), .val (.int d2), .val (.ref a), .val (.int (0 : Int32)), .unset, .unset] [(.ref a)])) rfl (by rw [hml]; rfl) (Steps.refl _) (argsL := []) (rest := []) (lenOf pd_119 rfl) rfl (by show 2 * 0 + _ ≤ _; exact Nat.le_of_eq rfl) (hb hby at_143) (fun _ _ => ⟨rfl, rfl, (by decide : 8 + 0 ≤ _), (by decide : 30 + 0 ≤ _)⟩)
    dsimp only [Pt.U, Pt.locs, Pt.cells, Pt.slots] at X12 l12 y12 z12 st12 hQ12
    subst l12 y12 z12
    obtain ⟨ct1, rfl, N12q, eh12, hct1⟩ := hQ12
    have N12 := Fr.app N7 N12q
    refine own_tr st12 ?_
    show own_Go p.tables e below (T12.setTop (mkF m 146 #[.val (.int keys), .val (.long docs), .second, .val (.int f1), .val (.int f2), .val (.int f3), .val (.int f4), .val (.int k1), .val (.int k2), .val (.int k3), .val (.int k4), .val (.int d1), .val (.int d2), .val (.ref a), .val (.int (0 : Int32)), .unset, .unset] [(.int ct1)])) _
    have e1 : ct1 = (2 : Int32) := by rw [hct1]; decide
    refine own_by (fun zt zk => XS.iload X12.here hx rfl (hb hby at_146) rfl zk) ?_
    show own_Go p.tables e below (T12.setTop (mkF m 148 #[.val (.int keys), .val (.long docs), .second, .val (.int f1), .val (.int f2), .val (.int f3), .val (.int f4), .val (.int k1), .val (.int k2), .val (.int k3), .val (.int k4), .val (.int d1), .val (.int d2), .val (.ref a), .val (.int (0 : Int32)), .unset, .unset] [(.int (0 : Int32)), (.int ct1)])) _
    refine own_by (fun zt zk => XS.ifYes X12.here hx rfl (pc0 := 148) (pc' := 155) rfl (hb hby at_148) rfl ((if0 _ _).trans (teq rfl).1) (by decide) (by decide) zk) ?_
    show own_Go p.tables e below (T12.setTop (mkF m 155 #[.val (.int keys), .val (.long docs), .second, .val (.int f1), .val (.int f2), .val (.int f3), .val (.int f4), .val (.int k1), .val (.int k2), .val (.int k3), .val (.int k4), .val (.int d1), .val (.int d2), .val (.ref a), .val (.int (0 : Int32)), .unset, .unset] [(.int ct1)])) _
    refine own_by (fun zt zk => XS.iconst X12.here hx rfl (hb hby at_155) zk) ?_
    show own_Go p.tables e below (T12.setTop (mkF m 156 #[.val (.int keys), .val (.long docs), .second, .val (.int f1), .val (.int f2), .val (.int f3), .val (.int f4), .val (.int k1), .val (.int k2), .val (.int k3), .val (.int k4), .val (.int d1), .val (.int d2), .val (.ref a), .val (.int (0 : Int32)), .unset, .unset] [(.int (2 : Int32)), (.int ct1)])) _
    refine own_by (fun zt zk => XS.icmpYes X12.here hx rfl (pc0 := 156) (pc' := 161) rfl (hb hby at_156) rfl (teq e1).1 (by decide) (by decide) zk) ?_
    show own_Go p.tables e below (T12.setTop (mkF m 161 #[.val (.int keys), .val (.long docs), .second, .val (.int f1), .val (.int f2), .val (.int f3), .val (.int f4), .val (.int k1), .val (.int k2), .val (.int k3), .val (.int k4), .val (.int d1), .val (.int d2), .val (.ref a), .val (.int (0 : Int32)), .unset, .unset] [])) _
    refine own_by (fun zt zk => XS.aload X12.here hx rfl (hb hby at_161) rfl rfl zk) ?_
    show own_Go p.tables e below (T12.setTop (mkF m 163 #[.val (.int keys), .val (.long docs), .second, .val (.int f1), .val (.int f2), .val (.int f3), .val (.int f4), .val (.int k1), .val (.int k2), .val (.int k3), .val (.int k4), .val (.int d1), .val (.int d2), .val (.ref a), .val (.int (0 : Int32)), .unset, .unset] [(.ref a)])) _
    refine own_by (fun zt zk => XS.iconst X12.here hx rfl (hb hby at_163) zk) ?_
    show own_Go p.tables e below (T12.setTop (mkF m 164 #[.val (.int keys), .val (.long docs), .second, .val (.int f1), .val (.int f2), .val (.int f3), .val (.int f4), .val (.int k1), .val (.int k2), .val (.int k3), .val (.int k4), .val (.int d1), .val (.int d2), .val (.ref a), .val (.int (0 : Int32)), .unset, .unset] [(.int (0 : Int32)), (.ref a)])) _
    obtain ⟨cq13, kq13, q13a, q13b, q13c⟩ := isOf hZ eh12 EECKf
    obtain ⟨_, _, ⟨T13, L13, k13, n13⟩, -, X13, ⟨Lc13, hQ13, l13, y13, z13⟩, st13⟩ := X12.virtualBack hx (y := (⟨"com/example/aprox/aprox/CountedKeywords", "keyword", "(I)I"⟩ : MethodName)) (z := (⟨"com/example/aprox/aprox/CountedKeywords", "keyword", "(I)I"⟩ : MethodName)) hown (mvT hZ (hw _ (List.mem_of_getElem? (i := 50) rfl))) (mvT hZ (hw _ (List.mem_of_getElem? (i := 51) rfl))) (notFace_of_selects (args := #[]) (mvT hZ (hw _ (List.mem_of_getElem? (i := 53) rfl)))) (mvT hZ (hw _ (List.mem_of_getElem? (i := 53) rfl))) (mvT hZ (hw _ (List.mem_of_getElem? (i := 52) rfl))) (by decide) (backOf (W := 0) (rm_kw l Z a0 hw [] a (0 : Int32) ci kw wf _ _ _ _ 0 T7.heap n0 (Nat.le_trans Z0 K7.1) CKf rfl (by decide)) hZ (hw _ (List.mem_of_getElem? (i := 54) rfl)) (hw _ (List.mem_of_getElem? (i := 3) rfl)) (by decide) (by decide)) q13a q13c (g := (mkF m 164 #[.val (.int keys), .val (.long docs), .second, .val (.int f1), .val (.int f2), .val (.int f3), .val (.int f4), .val (.int k1), .val (.int k2), .val (.int k3), .val (.int k4), .val (.int d1), .val (.int d2), .val (.ref a), .val (.int (0 : Int32)), .unset, .unset] [(.int (0 : Int32)), (.ref a)])) rfl (by rw [hml]; rfl) (Steps.refl _) (argsL := [(.int (0 : Int32))]) (rest := []) (lenOf pd_120 rfl) rfl (by show 2 * 0 + _ ≤ _; exact Nat.le_of_eq rfl) (hb hby at_164) (fun _ _ => ⟨rfl, eh12, (by decide : 8 + 0 ≤ _), (by decide : 30 + 0 ≤ _)⟩)
    dsimp only [Pt.U, Pt.locs, Pt.cells, Pt.slots] at X13 l13 y13 z13 st13 hQ13
    subst l13 y13 z13
    obtain ⟨w0, rfl, N13q, eh13, hw0⟩ := hQ13
    have N13 := Fr.app N12 N13q
    refine own_tr st13 ?_
    show own_Go p.tables e below (T13.setTop (mkF m 167 #[.val (.int keys), .val (.long docs), .second, .val (.int f1), .val (.int f2), .val (.int f3), .val (.int f4), .val (.int k1), .val (.int k2), .val (.int k3), .val (.int k4), .val (.int d1), .val (.int d2), .val (.ref a), .val (.int (0 : Int32)), .unset, .unset] [(.int w0)])) _
    have e2 : w0 = k3 := by rw [hw0]; rfl
    refine own_by (fun zt zk => XS.iload X13.here hx rfl (hb hby at_167) rfl zk) ?_
    show own_Go p.tables e below (T13.setTop (mkF m 169 #[.val (.int keys), .val (.long docs), .second, .val (.int f1), .val (.int f2), .val (.int f3), .val (.int f4), .val (.int k1), .val (.int k2), .val (.int k3), .val (.int k4), .val (.int d1), .val (.int d2), .val (.ref a), .val (.int (0 : Int32)), .unset, .unset] [(.int k3), (.int w0)])) _
    refine own_by (fun zt zk => XS.icmpYes X13.here hx rfl (pc0 := 169) (pc' := 174) rfl (hb hby at_169) rfl (teq e2).1 (by decide) (by decide) zk) ?_
    show own_Go p.tables e below (T13.setTop (mkF m 174 #[.val (.int keys), .val (.long docs), .second, .val (.int f1), .val (.int f2), .val (.int f3), .val (.int f4), .val (.int k1), .val (.int k2), .val (.int k3), .val (.int k4), .val (.int d1), .val (.int d2), .val (.ref a), .val (.int (0 : Int32)), .unset, .unset] [])) _
    refine own_by (fun zt zk => XS.iload X13.here hx rfl (hb hby at_174) rfl zk) ?_
    show own_Go p.tables e below (T13.setTop (mkF m 176 #[.val (.int keys), .val (.long docs), .second, .val (.int f1), .val (.int f2), .val (.int f3), .val (.int f4), .val (.int k1), .val (.int k2), .val (.int k3), .val (.int k4), .val (.int d1), .val (.int d2), .val (.ref a), .val (.int (0 : Int32)), .unset, .unset] [(.int (0 : Int32))])) _
    refine own_by (fun zt zk => XS.ifNo X13.here hx rfl (hb hby at_176) rfl ((if0 _ _).trans (teq rfl).2) zk) ?_
    show own_Go p.tables e below (T13.setTop (mkF m 179 #[.val (.int keys), .val (.long docs), .second, .val (.int f1), .val (.int f2), .val (.int f3), .val (.int f4), .val (.int k1), .val (.int k2), .val (.int k3), .val (.int k4), .val (.int d1), .val (.int d2), .val (.ref a), .val (.int (0 : Int32)), .unset, .unset] [])) _
    refine own_by (fun zt zk => XS.aload X13.here hx rfl (hb hby at_179) rfl rfl zk) ?_
    show own_Go p.tables e below (T13.setTop (mkF m 181 #[.val (.int keys), .val (.long docs), .second, .val (.int f1), .val (.int f2), .val (.int f3), .val (.int f4), .val (.int k1), .val (.int k2), .val (.int k3), .val (.int k4), .val (.int d1), .val (.int d2), .val (.ref a), .val (.int (0 : Int32)), .unset, .unset] [(.ref a)])) _
    refine own_by (fun zt zk => XS.iconst X13.here hx rfl (hb hby at_181) zk) ?_
    show own_Go p.tables e below (T13.setTop (mkF m 182 #[.val (.int keys), .val (.long docs), .second, .val (.int f1), .val (.int f2), .val (.int f3), .val (.int f4), .val (.int k1), .val (.int k2), .val (.int k3), .val (.int k4), .val (.int d1), .val (.int d2), .val (.ref a), .val (.int (0 : Int32)), .unset, .unset] [(.int (1 : Int32)), (.ref a)])) _
    obtain ⟨cq14, kq14, q14a, q14b, q14c⟩ := isOf hZ eh13 EECKf
    obtain ⟨_, _, ⟨T14, L14, k14, n14⟩, -, X14, ⟨Lc14, hQ14, l14, y14, z14⟩, st14⟩ := X13.virtualBack hx (y := (⟨"com/example/aprox/aprox/CountedKeywords", "keyword", "(I)I"⟩ : MethodName)) (z := (⟨"com/example/aprox/aprox/CountedKeywords", "keyword", "(I)I"⟩ : MethodName)) hown (mvT hZ (hw _ (List.mem_of_getElem? (i := 50) rfl))) (mvT hZ (hw _ (List.mem_of_getElem? (i := 51) rfl))) (notFace_of_selects (args := #[]) (mvT hZ (hw _ (List.mem_of_getElem? (i := 53) rfl)))) (mvT hZ (hw _ (List.mem_of_getElem? (i := 53) rfl))) (mvT hZ (hw _ (List.mem_of_getElem? (i := 52) rfl))) (by decide) (backOf (W := 0) (rm_kw l Z a0 hw [] a (1 : Int32) ci kw wf _ _ _ _ 1 T7.heap n0 (Nat.le_trans Z0 K7.1) CKf rfl (by decide)) hZ (hw _ (List.mem_of_getElem? (i := 54) rfl)) (hw _ (List.mem_of_getElem? (i := 3) rfl)) (by decide) (by decide)) q14a q14c (g := (mkF m 182 #[.val (.int keys), .val (.long docs), .second, .val (.int f1), .val (.int f2), .val (.int f3), .val (.int f4), .val (.int k1), .val (.int k2), .val (.int k3), .val (.int k4), .val (.int d1), .val (.int d2), .val (.ref a), .val (.int (0 : Int32)), .unset, .unset] [(.int (1 : Int32)), (.ref a)])) rfl (by rw [hml]; rfl) (Steps.refl _) (argsL := [(.int (1 : Int32))]) (rest := []) (lenOf pd_120 rfl) rfl (by show 2 * 0 + _ ≤ _; exact Nat.le_of_eq rfl) (hb hby at_182) (fun _ _ => ⟨rfl, eh13, (by decide : 8 + 0 ≤ _), (by decide : 30 + 0 ≤ _)⟩)
    dsimp only [Pt.U, Pt.locs, Pt.cells, Pt.slots] at X14 l14 y14 z14 st14 hQ14
    subst l14 y14 z14
    obtain ⟨w1, rfl, N14q, eh14, hw1⟩ := hQ14
    have N14 := Fr.app N13 N14q
    refine own_tr st14 ?_
    show own_Go p.tables e below (T14.setTop (mkF m 185 #[.val (.int keys), .val (.long docs), .second, .val (.int f1), .val (.int f2), .val (.int f3), .val (.int f4), .val (.int k1), .val (.int k2), .val (.int k3), .val (.int k4), .val (.int d1), .val (.int d2), .val (.ref a), .val (.int (0 : Int32)), .unset, .unset] [(.int w1)])) _
    have e3 : w1 = k4 := by rw [hw1]; rfl
    refine own_by (fun zt zk => XS.iload X14.here hx rfl (hb hby at_185) rfl zk) ?_
    show own_Go p.tables e below (T14.setTop (mkF m 187 #[.val (.int keys), .val (.long docs), .second, .val (.int f1), .val (.int f2), .val (.int f3), .val (.int f4), .val (.int k1), .val (.int k2), .val (.int k3), .val (.int k4), .val (.int d1), .val (.int d2), .val (.ref a), .val (.int (0 : Int32)), .unset, .unset] [(.int k4), (.int w1)])) _
    refine own_by (fun zt zk => XS.icmpYes X14.here hx rfl (pc0 := 187) (pc' := 192) rfl (hb hby at_187) rfl (teq e3).1 (by decide) (by decide) zk) ?_
    show own_Go p.tables e below (T14.setTop (mkF m 192 #[.val (.int keys), .val (.long docs), .second, .val (.int f1), .val (.int f2), .val (.int f3), .val (.int f4), .val (.int k1), .val (.int k2), .val (.int k3), .val (.int k4), .val (.int d1), .val (.int d2), .val (.ref a), .val (.int (0 : Int32)), .unset, .unset] [])) _
    refine own_by (fun zt zk => XS.iload X14.here hx rfl (hb hby at_192) rfl zk) ?_
    show own_Go p.tables e below (T14.setTop (mkF m 194 #[.val (.int keys), .val (.long docs), .second, .val (.int f1), .val (.int f2), .val (.int f3), .val (.int f4), .val (.int k1), .val (.int k2), .val (.int k3), .val (.int k4), .val (.int d1), .val (.int d2), .val (.ref a), .val (.int (0 : Int32)), .unset, .unset] [(.int (0 : Int32))])) _
    refine own_by (fun zt zk => XS.ifYes X14.here hx rfl (pc0 := 194) (pc' := 205) rfl (hb hby at_194) rfl ((if0 _ _).trans (teq rfl).1) (by decide) (by decide) zk) ?_
    show own_Go p.tables e below (T14.setTop (mkF m 205 #[.val (.int keys), .val (.long docs), .second, .val (.int f1), .val (.int f2), .val (.int f3), .val (.int f4), .val (.int k1), .val (.int k2), .val (.int k3), .val (.int k4), .val (.int d1), .val (.int d2), .val (.ref a), .val (.int (0 : Int32)), .unset, .unset] [])) _
    refine own_by (fun zt zk => XS.iload X14.here hx rfl (hb hby at_205) rfl zk) ?_
    show own_Go p.tables e below (T14.setTop (mkF m 207 #[.val (.int keys), .val (.long docs), .second, .val (.int f1), .val (.int f2), .val (.int f3), .val (.int f4), .val (.int k1), .val (.int k2), .val (.int k3), .val (.int k4), .val (.int d1), .val (.int d2), .val (.ref a), .val (.int (0 : Int32)), .unset, .unset] [(.int f3)])) _
    refine own_by (fun zt zk => XS.istore X14.here hx rfl (hb hby at_207) rfl (l' := #[.val (.int keys), .val (.long docs), .second, .val (.int f1), .val (.int f2), .val (.int f3), .val (.int f4), .val (.int k1), .val (.int k2), .val (.int k3), .val (.int k4), .val (.int d1), .val (.int d2), .val (.ref a), .val (.int (0 : Int32)), .val (.int f3), .unset]) rfl zk) ?_
    show own_Go p.tables e below (T14.setTop (mkF m 209 #[.val (.int keys), .val (.long docs), .second, .val (.int f1), .val (.int f2), .val (.int f3), .val (.int f4), .val (.int k1), .val (.int k2), .val (.int k3), .val (.int k4), .val (.int d1), .val (.int d2), .val (.ref a), .val (.int (0 : Int32)), .val (.int f3), .unset] [])) _
    refine own_by (fun zt zk => XS.iload X14.here hx rfl (hb hby at_209) rfl zk) ?_
    show own_Go p.tables e below (T14.setTop (mkF m 211 #[.val (.int keys), .val (.long docs), .second, .val (.int f1), .val (.int f2), .val (.int f3), .val (.int f4), .val (.int k1), .val (.int k2), .val (.int k3), .val (.int k4), .val (.int d1), .val (.int d2), .val (.ref a), .val (.int (0 : Int32)), .val (.int f3), .unset] [(.int (0 : Int32))])) _
    refine own_by (fun zt zk => XS.ifYes X14.here hx rfl (pc0 := 211) (pc' := 222) rfl (hb hby at_211) rfl ((if0 _ _).trans (teq rfl).1) (by decide) (by decide) zk) ?_
    show own_Go p.tables e below (T14.setTop (mkF m 222 #[.val (.int keys), .val (.long docs), .second, .val (.int f1), .val (.int f2), .val (.int f3), .val (.int f4), .val (.int k1), .val (.int k2), .val (.int k3), .val (.int k4), .val (.int d1), .val (.int d2), .val (.ref a), .val (.int (0 : Int32)), .val (.int f3), .unset] [])) _
    refine own_by (fun zt zk => XS.iload X14.here hx rfl (hb hby at_222) rfl zk) ?_
    show own_Go p.tables e below (T14.setTop (mkF m 224 #[.val (.int keys), .val (.long docs), .second, .val (.int f1), .val (.int f2), .val (.int f3), .val (.int f4), .val (.int k1), .val (.int k2), .val (.int k3), .val (.int k4), .val (.int d1), .val (.int d2), .val (.ref a), .val (.int (0 : Int32)), .val (.int f3), .unset] [(.int f4)])) _
    refine own_by (fun zt zk => XS.istore X14.here hx rfl (hb hby at_224) rfl (l' := #[.val (.int keys), .val (.long docs), .second, .val (.int f1), .val (.int f2), .val (.int f3), .val (.int f4), .val (.int k1), .val (.int k2), .val (.int k3), .val (.int k4), .val (.int d1), .val (.int d2), .val (.ref a), .val (.int (0 : Int32)), .val (.int f3), .val (.int f4)]) rfl zk) ?_
    show own_Go p.tables e below (T14.setTop (mkF m 226 #[.val (.int keys), .val (.long docs), .second, .val (.int f1), .val (.int f2), .val (.int f3), .val (.int f4), .val (.int k1), .val (.int k2), .val (.int k3), .val (.int k4), .val (.int d1), .val (.int d2), .val (.ref a), .val (.int (0 : Int32)), .val (.int f3), .val (.int f4)] [])) _
    refine own_by (fun zt zk => XS.aload X14.here hx rfl (hb hby at_226) rfl rfl zk) ?_
    show own_Go p.tables e below (T14.setTop (mkF m 228 #[.val (.int keys), .val (.long docs), .second, .val (.int f1), .val (.int f2), .val (.int f3), .val (.int f4), .val (.int k1), .val (.int k2), .val (.int k3), .val (.int k4), .val (.int d1), .val (.int d2), .val (.ref a), .val (.int (0 : Int32)), .val (.int f3), .val (.int f4)] [(.ref a)])) _
    refine own_by (fun zt zk => XS.iload X14.here hx rfl (hb hby at_228) rfl zk) ?_
    show own_Go p.tables e below (T14.setTop (mkF m 230 #[.val (.int keys), .val (.long docs), .second, .val (.int f1), .val (.int f2), .val (.int f3), .val (.int f4), .val (.int k1), .val (.int k2), .val (.int k3), .val (.int k4), .val (.int d1), .val (.int d2), .val (.ref a), .val (.int (0 : Int32)), .val (.int f3), .val (.int f4)] [(.int k3), (.ref a)])) _
    obtain ⟨cq15, kq15, q15a, q15b, q15c⟩ := isOf hZ eh14 EECKf
    obtain ⟨_, _, ⟨T15, L15, k15, n15⟩, -, X15, ⟨Lc15, hQ15, l15, y15, z15⟩, st15⟩ := X14.virtualBack hx (y := (⟨"com/example/aprox/aprox/CountedKeywords", "wholeFields", "(I)I"⟩ : MethodName)) (z := (⟨"com/example/aprox/aprox/CountedKeywords", "wholeFields", "(I)I"⟩ : MethodName)) hown (mvT hZ (hw _ (List.mem_of_getElem? (i := 55) rfl))) (mvT hZ (hw _ (List.mem_of_getElem? (i := 56) rfl))) (notFace_of_selects (args := #[]) (mvT hZ (hw _ (List.mem_of_getElem? (i := 58) rfl)))) (mvT hZ (hw _ (List.mem_of_getElem? (i := 58) rfl))) (mvT hZ (hw _ (List.mem_of_getElem? (i := 57) rfl))) (by decide) (backOf (W := 0) (rm_wf l Z a0 hw [] a k3 ci kw wf _ _ _ _ n3 T7.heap n0 (Nat.le_trans Z0 K7.1) CKf hm3 hn3) hZ (hw _ (List.mem_of_getElem? (i := 59) rfl)) (hw _ (List.mem_of_getElem? (i := 3) rfl)) (by decide) (by decide)) q15a q15c (g := (mkF m 230 #[.val (.int keys), .val (.long docs), .second, .val (.int f1), .val (.int f2), .val (.int f3), .val (.int f4), .val (.int k1), .val (.int k2), .val (.int k3), .val (.int k4), .val (.int d1), .val (.int d2), .val (.ref a), .val (.int (0 : Int32)), .val (.int f3), .val (.int f4)] [(.int k3), (.ref a)])) rfl (by rw [hml]; rfl) (Steps.refl _) (argsL := [(.int k3)]) (rest := []) (lenOf pd_120 rfl) rfl (by show 2 * 0 + _ ≤ _; exact Nat.le_of_eq rfl) (hb hby at_230) (fun _ _ => ⟨rfl, eh14, (by decide : 8 + 0 ≤ _), (by decide : 30 + 0 ≤ _)⟩)
    dsimp only [Pt.U, Pt.locs, Pt.cells, Pt.slots] at X15 l15 y15 z15 st15 hQ15
    subst l15 y15 z15
    obtain ⟨u3, rfl, N15q, eh15, hu3⟩ := hQ15
    have N15 := Fr.app N14 N15q
    refine own_tr st15 ?_
    show own_Go p.tables e below (T15.setTop (mkF m 233 #[.val (.int keys), .val (.long docs), .second, .val (.int f1), .val (.int f2), .val (.int f3), .val (.int f4), .val (.int k1), .val (.int k2), .val (.int k3), .val (.int k4), .val (.int d1), .val (.int d2), .val (.ref a), .val (.int (0 : Int32)), .val (.int f3), .val (.int f4)] [(.int u3)])) _
    have e4 : u3 = f3 := by rw [hu3, own_upd_ne _ _ hnn, own_upd_at]
    refine own_by (fun zt zk => XS.iload X15.here hx rfl (hb hby at_233) rfl zk) ?_
    show own_Go p.tables e below (T15.setTop (mkF m 235 #[.val (.int keys), .val (.long docs), .second, .val (.int f1), .val (.int f2), .val (.int f3), .val (.int f4), .val (.int k1), .val (.int k2), .val (.int k3), .val (.int k4), .val (.int d1), .val (.int d2), .val (.ref a), .val (.int (0 : Int32)), .val (.int f3), .val (.int f4)] [(.int f3), (.int u3)])) _
    refine own_by (fun zt zk => XS.icmpNo X15.here hx rfl (hb hby at_235) rfl (teq e4).2 zk) ?_
    show own_Go p.tables e below (T15.setTop (mkF m 238 #[.val (.int keys), .val (.long docs), .second, .val (.int f1), .val (.int f2), .val (.int f3), .val (.int f4), .val (.int k1), .val (.int k2), .val (.int k3), .val (.int k4), .val (.int d1), .val (.int d2), .val (.ref a), .val (.int (0 : Int32)), .val (.int f3), .val (.int f4)] [])) _
    refine own_by (fun zt zk => XS.aload X15.here hx rfl (hb hby at_238) rfl rfl zk) ?_
    show own_Go p.tables e below (T15.setTop (mkF m 240 #[.val (.int keys), .val (.long docs), .second, .val (.int f1), .val (.int f2), .val (.int f3), .val (.int f4), .val (.int k1), .val (.int k2), .val (.int k3), .val (.int k4), .val (.int d1), .val (.int d2), .val (.ref a), .val (.int (0 : Int32)), .val (.int f3), .val (.int f4)] [(.ref a)])) _
    refine own_by (fun zt zk => XS.iload X15.here hx rfl (hb hby at_240) rfl zk) ?_
    show own_Go p.tables e below (T15.setTop (mkF m 242 #[.val (.int keys), .val (.long docs), .second, .val (.int f1), .val (.int f2), .val (.int f3), .val (.int f4), .val (.int k1), .val (.int k2), .val (.int k3), .val (.int k4), .val (.int d1), .val (.int d2), .val (.ref a), .val (.int (0 : Int32)), .val (.int f3), .val (.int f4)] [(.int k4), (.ref a)])) _
    obtain ⟨cq16, kq16, q16a, q16b, q16c⟩ := isOf hZ eh15 EECKf
    obtain ⟨_, _, ⟨T16, L16, k16, n16⟩, -, X16, ⟨Lc16, hQ16, l16, y16, z16⟩, st16⟩ := X15.virtualBack hx (y := (⟨"com/example/aprox/aprox/CountedKeywords", "wholeFields", "(I)I"⟩ : MethodName)) (z := (⟨"com/example/aprox/aprox/CountedKeywords", "wholeFields", "(I)I"⟩ : MethodName)) hown (mvT hZ (hw _ (List.mem_of_getElem? (i := 55) rfl))) (mvT hZ (hw _ (List.mem_of_getElem? (i := 56) rfl))) (notFace_of_selects (args := #[]) (mvT hZ (hw _ (List.mem_of_getElem? (i := 58) rfl)))) (mvT hZ (hw _ (List.mem_of_getElem? (i := 58) rfl))) (mvT hZ (hw _ (List.mem_of_getElem? (i := 57) rfl))) (by decide) (backOf (W := 0) (rm_wf l Z a0 hw [] a k4 ci kw wf _ _ _ _ n4 T7.heap n0 (Nat.le_trans Z0 K7.1) CKf hm4 hn4) hZ (hw _ (List.mem_of_getElem? (i := 59) rfl)) (hw _ (List.mem_of_getElem? (i := 3) rfl)) (by decide) (by decide)) q16a q16c (g := (mkF m 242 #[.val (.int keys), .val (.long docs), .second, .val (.int f1), .val (.int f2), .val (.int f3), .val (.int f4), .val (.int k1), .val (.int k2), .val (.int k3), .val (.int k4), .val (.int d1), .val (.int d2), .val (.ref a), .val (.int (0 : Int32)), .val (.int f3), .val (.int f4)] [(.int k4), (.ref a)])) rfl (by rw [hml]; rfl) (Steps.refl _) (argsL := [(.int k4)]) (rest := []) (lenOf pd_120 rfl) rfl (by show 2 * 0 + _ ≤ _; exact Nat.le_of_eq rfl) (hb hby at_242) (fun _ _ => ⟨rfl, eh15, (by decide : 8 + 0 ≤ _), (by decide : 30 + 0 ≤ _)⟩)
    dsimp only [Pt.U, Pt.locs, Pt.cells, Pt.slots] at X16 l16 y16 z16 st16 hQ16
    subst l16 y16 z16
    obtain ⟨u4, rfl, N16q, eh16, hu4⟩ := hQ16
    have N16 := Fr.app N15 N16q
    refine own_tr st16 ?_
    show own_Go p.tables e below (T16.setTop (mkF m 245 #[.val (.int keys), .val (.long docs), .second, .val (.int f1), .val (.int f2), .val (.int f3), .val (.int f4), .val (.int k1), .val (.int k2), .val (.int k3), .val (.int k4), .val (.int d1), .val (.int d2), .val (.ref a), .val (.int (0 : Int32)), .val (.int f3), .val (.int f4)] [(.int u4)])) _
    have e5 : u4 = f4 := by rw [hu4, own_upd_at]
    refine own_by (fun zt zk => XS.iload X16.here hx rfl (hb hby at_245) rfl zk) ?_
    show own_Go p.tables e below (T16.setTop (mkF m 247 #[.val (.int keys), .val (.long docs), .second, .val (.int f1), .val (.int f2), .val (.int f3), .val (.int f4), .val (.int k1), .val (.int k2), .val (.int k3), .val (.int k4), .val (.int d1), .val (.int d2), .val (.ref a), .val (.int (0 : Int32)), .val (.int f3), .val (.int f4)] [(.int f4), (.int u4)])) _
    refine own_by (fun zt zk => XS.icmpNo X16.here hx rfl (hb hby at_247) rfl (teq e5).2 zk) ?_
    show own_Go p.tables e below (T16.setTop (mkF m 250 #[.val (.int keys), .val (.long docs), .second, .val (.int f1), .val (.int f2), .val (.int f3), .val (.int f4), .val (.int k1), .val (.int k2), .val (.int k3), .val (.int k4), .val (.int d1), .val (.int d2), .val (.ref a), .val (.int (0 : Int32)), .val (.int f3), .val (.int f4)] [])) _
    refine own_by (fun zt zk => XS.iconst X16.here hx rfl (hb hby at_250) zk) ?_
    show own_Go p.tables e below (T16.setTop (mkF m 251 #[.val (.int keys), .val (.long docs), .second, .val (.int f1), .val (.int f2), .val (.int f3), .val (.int f4), .val (.int k1), .val (.int k2), .val (.int k3), .val (.int k4), .val (.int d1), .val (.int d2), .val (.ref a), .val (.int (0 : Int32)), .val (.int f3), .val (.int f4)] [(.int (1 : Int32))])) _
    refine own_by (fun zt zk => XS.goto X16.here hx rfl (pc0 := 251) (pc' := 255) rfl (hb hby at_251) (by decide) (by decide) zk) ?_
    show own_Go p.tables e below (T16.setTop (mkF m 255 #[.val (.int keys), .val (.long docs), .second, .val (.int f1), .val (.int f2), .val (.int f3), .val (.int f4), .val (.int k1), .val (.int k2), .val (.int k3), .val (.int k4), .val (.int d1), .val (.int d2), .val (.ref a), .val (.int (0 : Int32)), .val (.int f3), .val (.int f4)] [(.int (1 : Int32))])) _
    exact own_retN X16 hx Bd.notSynchronized (t := .boolean) Bd.returns (by simp) (by decide) (hb hby at_255) (by (try rw [eh16]); exact ⟨rfl, N16⟩) (by decide) (by decide)
set_option maxRecDepth 65536 in
set_option maxHeartbeats 40000000 in
theorem comes_1 {Post : Tables → Env → Array Value → State → Outcome → State → Prop} (hpost : ∀ tb e args s v u, (limb_1_1.after args s (.returned v) u = true ∧ limb_1_2.after args s (.returned v) u = true ∧ True) → FrameEnd s (.returned v) u (Jvm.fieldLocs frame_1_writes args s ++ Jvm.arrayLocs frame_1_arrays args s ++ Jvm.staticLocs frame_1_statics s) 24 128 → Post tb e args s (.returned v) u) :
    ArmFor flags0 classFile x code maxLocals ret World_1 tables_1 room_1 Calls_1 rest_1 Pre_1 Post := by
  intro l hfl _ _ p e ha hc hk s m args below hf hA hF happ hP
  obtain ⟨hcalls, hrest, hpre⟩ := hP
  obtain ⟨-, -, -, hnamed, -, -, -, hat⟩ := (Spec.applies_iff hf).mp happ
  obtain ⟨hg, hn⟩ := and_e (Cond.before_iff.mp (show (Jvm.Cond.and given_1 narrow_1).before args s = true from hpre))
  obtain ⟨hcount, t0⟩ := and_e hg
  obtain ⟨g0, t1⟩ := and_e t0
  obtain ⟨g1, t2⟩ := and_e t1
  obtain ⟨g2, t3⟩ := and_e t2
  obtain ⟨g3, t4⟩ := and_e t3
  obtain ⟨g4, t5⟩ := and_e t4
  obtain ⟨w0, w1, w2, w3, w4, w5, rfl⟩ : ∃ w0 w1 w2 w3 w4 w5 : Value, args = #[w0, w1, w2, w3, w4, w5] := by
    have hs : args.size = 6 := by simpa [Cond.value, given_1] using hcount
    obtain ⟨L⟩ := args
    match L, hs with
    | [w0, w1, w2, w3, w4, w5], _ => exact ⟨w0, w1, w2, w3, w4, w5, rfl⟩
  have hw := fun d (hd : d ∈ tables_1) => atoms_spec (ws := Jvm.Cond.code x code maxLocals ret :: tables_1) hat d (List.mem_cons_of_mem _ hd)
  obtain ⟨i0, ei0⟩ := is_v g0
  obtain rfl : w0 = (.int i0) := Option.some.inj ei0
  obtain ⟨i1, ei1⟩ := isL_v g1
  obtain rfl : w1 = (.long i1) := Option.some.inj ei1
  obtain ⟨i2, ei2⟩ := is_v g2
  obtain rfl : w2 = (.int i2) := Option.some.inj ei2
  obtain ⟨i3, ei3⟩ := is_v g3
  obtain rfl : w3 = (.int i3) := Option.some.inj ei3
  obtain ⟨i4, ei4⟩ := is_v g4
  obtain rfl : w4 = (.int i4) := Option.some.inj ei4
  obtain ⟨i5, ei5⟩ := is_v t5
  obtain rfl : w5 = (.int i5) := Option.some.inj ei5
  obtain ⟨n, o, h1, h2, h3, _, L, rfl, ⟨rfl, N⟩, hq⟩ := rm_law l s _ hw tables_1 i0 i1 i2 i3 i4 i5 s.heap s.heap.size (Nat.le_refl _) p e ha hc hk s m _ below hf ((Spec.applies_iff_loose hf).mp happ).1 ⟨rfl, State.Warmed39.refl s, rfl⟩ trivial
  refine ⟨n, _, h1, h2, h3, hpost _ _ _ _ _ _ ⟨Cond.after_iff.mpr rfl, Cond.after_iff.mpr (eq_i res_at (Term.int_eval (1)) rfl), trivial⟩ ⟨hq.1, hq.2.1, (hq.2.2.sift fun y hy => Or.inr (N y hy)).mono (by decide) (by decide)⟩⟩
theorem main_1_1 : Claimed_1_1 := comes_1 fun _ _ _ _ _ _ h hF => ⟨h.1, hF⟩
theorem main_1_2 : Claimed_1_2 := comes_1 fun _ _ _ _ _ _ h hF => ⟨h.2.1, hF⟩
end Jvm.Pilot.@@N@@
namespace Jvm.Pilot.@@N@@
open Jvm Jvm.ClassFile Sem Op Lib Jvm.Free Jvm.Stand Jvm.Pilot.@@N@@.Jvm.D
/-! MADE BY PROGRAM (witnessworld.py) out of the Statement's table words and the real class files: 10 classes; the members and pool entries that the words name. The judged class is class 1, her method 1. -/
namespace start1
open Jvm.ClassFile
def u (s : String) : CpInfo := .utf8 (stringToUtf16 s)
/-- a pool by its gaps: so many unusable entries, then the entry; so many at the end -/
def gap : Nat → List CpInfo → List CpInfo
  | 0, r => r
  | n + 1, r => .unusable :: gap n r
def poolList (es : List (Nat × CpInfo)) (last : Nat) : List CpInfo := es.foldr (fun e r => gap e.1 (e.2 :: r)) (gap last [])
def pool (es : List (Nat × CpInfo)) (last : Nat) : Array CpInfo := ⟨poolList es last⟩
def fileOf (pool : Array CpInfo) (this : Nat) (attrs : Array Attribute := #[]) (ms : Array MethodInfo := #[]) (fl : Nat := 33) (sup : Nat := 0) (ifs : Array Nat := #[]) (fds : Array FieldInfo := #[]) : ClassFile where
  minorVersion := 0
  majorVersion := 65
  constantPool := pool
  accessFlags := fl
  thisClass := this
  superClass := sup
  interfaces := ifs
  fields := fds
  methods := ms
  attributes := attrs
def plain (name : String) (sup : Option ClassId) : Class where
  name := name
  kind := .ordinary
  loader := none
  accessFlags := 33
  super := sup
  interfaces := #[]
  cf := none
  fields := #[]
  methods := #[]
  instanceTypes := #[]
  staticTypes := #[]
  resolved := #[]
  callSites := []
  init := .initialized
  statics := none
  mirror := none

def pool0 : Array CpInfo := pool [(5, u "<init>"), (0, u "()V"), (1, .class_ 10), (1, u "java/lang/Object")] 113

def k0c0 : Code := { maxStack := 0, maxLocals := 1, code := object_method_1_code, exceptionTable := #[], attributes := #[] }
def k0m0 : Method := { name := "<init>", desc := "()V", sig := { parameters := [], returnType := none }, accessFlags := 1, code := some k0c0 }
/-- java/lang/Object -/
def k0 : Class := { plain "java/lang/Object" none with
  accessFlags := 33
  interfaces := #[]
  cf := some (fileOf pool0 8 #[] #[{ accessFlags := 1, nameIndex := 5, descriptorIndex := 6, attributes := #[] }] 33 0 #[] #[])
  fields := #[]
  methods := #[k0m0]
  instanceTypes := #[]
  staticTypes := #[]
  resolved := Array.replicate 124 none
  statics := none }

def pool1 : Array CpInfo := pool [(2, .class_ 4), (1, u "java/lang/Object"), (0, u "<init>"), (0, u "()V"), (0, .long 1073741823), (1, .class_ 10), (0, u "com/example/aprox/aprox/CountedKeywords"), (0, .methodref 9 12), (0, .nameAndType 5 13), (0, u "(I)V"), (0, .methodref 9 15), (0, .nameAndType 16 17), (0, u "add"), (0, u "(III)V"), (0, .methodref 9 19), (0, .nameAndType 20 6), (0, u "clear"), (0, .methodref 9 22), (0, .nameAndType 23 24), (0, u "count"), (0, u "()I"), (0, .methodref 9 26), (0, .nameAndType 27 28), (0, u "keyword"), (0, u "(I)I"), (0, .methodref 9 30), (0, .nameAndType 31 28), (0, u "wholeFields"), (0, .class_ 33), (0, u "com/example/aprox/aprox/CountedKeywordsAddPinLaw"), (2, u "law"), (0, u "(IJIIII)Z")] 3

def k1m0 : Method := { name := "<init>", desc := "()V", sig := { parameters := [], returnType := none }, accessFlags := 1, code := none }
def k1c1 : Code := { maxStack := 5, maxLocals := 17, code := code, exceptionTable := #[], attributes := #[] }
def k1m1 : Method := { name := "law", desc := "(IJIIII)Z", sig := { parameters := [.int, .long, .int, .int, .int, .int], returnType := some .boolean }, accessFlags := 9, code := some k1c1 }
/-- com/example/aprox/aprox/CountedKeywordsAddPinLaw -/
def k1 : Class := { plain "com/example/aprox/aprox/CountedKeywordsAddPinLaw" (some 0) with
  accessFlags := 49
  interfaces := #[]
  cf := some (fileOf pool1 32 #[] #[{ accessFlags := 1, nameIndex := 5, descriptorIndex := 6, attributes := #[] }, { accessFlags := 9, nameIndex := 36, descriptorIndex := 37, attributes := #[] }] 49 2 #[] #[])
  fields := #[]
  methods := #[k1m0, k1m1]
  instanceTypes := #[]
  staticTypes := #[]
  resolved := Array.replicate 41 none
  statics := none }

def pool2 : Array CpInfo := pool [(1, .methodref 2 3), (0, .class_ 4), (0, .nameAndType 5 6), (0, u "java/lang/Object"), (0, u "<init>"), (0, u "()V"), (0, .fieldref 8 9), (0, .class_ 10), (0, .nameAndType 11 12), (0, u "com/example/aprox/aprox/CountedKeywords"), (0, u "countedIn"), (0, u "[I"), (0, .methodref 14 15), (0, .class_ 16), (0, .nameAndType 17 18), (0, u "java/util/Arrays"), (0, u "fill"), (0, u "([II)V"), (0, .fieldref 8 20), (0, .nameAndType 21 12), (0, u "keywords"), (0, .fieldref 8 23), (0, .nameAndType 24 12), (0, u "wholeFields"), (0, .fieldref 8 26), (0, .nameAndType 27 12), (0, u "someFields"), (0, .class_ 29), (0, u "[J"), (0, .fieldref 8 31), (0, .nameAndType 32 33), (0, u "occurrenceBits"), (0, u "[[J"), (0, .fieldref 8 35), (0, .nameAndType 36 12), (0, u "usedBits"), (0, .fieldref 8 38), (0, .nameAndType 39 12), (0, u "oneByOne"), (0, .fieldref 8 41), (0, .nameAndType 42 43), (0, u "count"), (0, u "I"), (0, .fieldref 8 45), (0, .nameAndType 46 43), (0, u "oneByOneCount"), (17, u "SORTED_ONE_BY_ONE"), (2, u "(I)V"), (2, u "clear"), (1, u "add"), (0, u "(III)V"), (1, u "()I"), (0, u "keyword"), (0, u "(I)I")] 4

def k2c0 : Code := { maxStack := 2, maxLocals := 2, code := prog_7_method_1_code, exceptionTable := #[], attributes := #[] }
def k2m0 : Method := { name := "<init>", desc := "(I)V", sig := { parameters := [.int], returnType := none }, accessFlags := 0, code := some k2c0 }
def k2c1 : Code := { maxStack := 5, maxLocals := 3, code := prog_7_method_2_code, exceptionTable := #[], attributes := #[] }
def k2m1 : Method := { name := "clear", desc := "()V", sig := { parameters := [], returnType := none }, accessFlags := 0, code := some k2c1 }
def k2c2 : Code := { maxStack := 5, maxLocals := 4, code := prog_7_method_3_code, exceptionTable := #[], attributes := #[] }
def k2m2 : Method := { name := "add", desc := "(III)V", sig := { parameters := [.int, .int, .int], returnType := none }, accessFlags := 0, code := some k2c2 }
def k2c3 : Code := { maxStack := 1, maxLocals := 1, code := prog_7_method_6_code, exceptionTable := #[], attributes := #[] }
def k2m3 : Method := { name := "count", desc := "()I", sig := { parameters := [], returnType := some .int }, accessFlags := 0, code := some k2c3 }
def k2c4 : Code := { maxStack := 2, maxLocals := 2, code := prog_7_method_7_code, exceptionTable := #[], attributes := #[] }
def k2m4 : Method := { name := "keyword", desc := "(I)I", sig := { parameters := [.int], returnType := some .int }, accessFlags := 0, code := some k2c4 }
def k2c5 : Code := { maxStack := 2, maxLocals := 2, code := prog_7_method_8_code, exceptionTable := #[], attributes := #[] }
def k2m5 : Method := { name := "wholeFields", desc := "(I)I", sig := { parameters := [.int], returnType := some .int }, accessFlags := 0, code := some k2c5 }
/-- com/example/aprox/aprox/CountedKeywords -/
def k2 : Class := { plain "com/example/aprox/aprox/CountedKeywords" (some 0) with
  accessFlags := 32
  interfaces := #[]
  cf := some (fileOf pool2 8 #[] #[{ accessFlags := 0, nameIndex := 5, descriptorIndex := 67, attributes := #[] }, { accessFlags := 0, nameIndex := 70, descriptorIndex := 6, attributes := #[] }, { accessFlags := 0, nameIndex := 72, descriptorIndex := 73, attributes := #[] }, { accessFlags := 0, nameIndex := 42, descriptorIndex := 75, attributes := #[] }, { accessFlags := 0, nameIndex := 76, descriptorIndex := 77, attributes := #[] }, { accessFlags := 0, nameIndex := 24, descriptorIndex := 77, attributes := #[] }] 32 2 #[] #[{ accessFlags := 26, nameIndex := 64, descriptorIndex := 43, attributes := #[] }, { accessFlags := 18, nameIndex := 11, descriptorIndex := 12, attributes := #[] }, { accessFlags := 18, nameIndex := 21, descriptorIndex := 12, attributes := #[] }, { accessFlags := 2, nameIndex := 42, descriptorIndex := 43, attributes := #[] }, { accessFlags := 18, nameIndex := 24, descriptorIndex := 12, attributes := #[] }, { accessFlags := 18, nameIndex := 27, descriptorIndex := 12, attributes := #[] }, { accessFlags := 18, nameIndex := 32, descriptorIndex := 33, attributes := #[] }, { accessFlags := 18, nameIndex := 36, descriptorIndex := 12, attributes := #[] }, { accessFlags := 18, nameIndex := 39, descriptorIndex := 12, attributes := #[] }, { accessFlags := 2, nameIndex := 46, descriptorIndex := 43, attributes := #[] }])
  fields := #[{ name := "SORTED_ONE_BY_ONE", type := .int, accessFlags := 26, slot := 0, constantValue := 0 }, { name := "countedIn", type := (.array .int), accessFlags := 18, slot := 0, constantValue := 0 }, { name := "keywords", type := (.array .int), accessFlags := 18, slot := 1, constantValue := 0 }, { name := "count", type := .int, accessFlags := 2, slot := 2, constantValue := 0 }, { name := "wholeFields", type := (.array .int), accessFlags := 18, slot := 3, constantValue := 0 }, { name := "someFields", type := (.array .int), accessFlags := 18, slot := 4, constantValue := 0 }, { name := "occurrenceBits", type := (.array (.array .long)), accessFlags := 18, slot := 5, constantValue := 0 }, { name := "usedBits", type := (.array .int), accessFlags := 18, slot := 6, constantValue := 0 }, { name := "oneByOne", type := (.array .int), accessFlags := 18, slot := 7, constantValue := 0 }, { name := "oneByOneCount", type := .int, accessFlags := 2, slot := 8, constantValue := 0 }]
  methods := #[k2m0, k2m1, k2m2, k2m3, k2m4, k2m5]
  instanceTypes := #[(.array .int), (.array .int), .int, (.array .int), (.array .int), (.array (.array .long)), (.array .int), (.array .int), .int]
  staticTypes := #[.int]
  resolved := Array.replicate 82 none
  statics := none }

def pool3 : Array CpInfo := pool [(2, .class_ 4), (1, u "java/lang/Object"), (0, u "<init>"), (0, u "()V"), (7, .class_ 16), (1, u "java/util/Arrays"), (57, .class_ 76), (1, u "java/util/Arrays$NaturalOrder"), (36, .class_ 115), (1, u "java/util/Arrays$LegacyMergeSort"), (1, u "Z"), (257, .class_ 376), (0, u "java/util/Arrays$ArrayList"), (68, u "$assertionsDisabled"), (269, u "MIN_ARRAY_SORT_GRAN"), (0, u "I"), (2, u "INSERTIONSORT_THRESHOLD"), (120, u "fill"), (4, u "([II)V"), (129, .class_ 976), (0, u "java/util/Arrays$ArrayItr")] 52

def k3m0 : Method := { name := "<init>", desc := "()V", sig := { parameters := [], returnType := none }, accessFlags := 2, code := none }
def k3c1 : Code := { maxStack := 3, maxLocals := 4, code := jdk_65_method_103_code, exceptionTable := #[], attributes := #[] }
def k3m1 : Method := { name := "fill", desc := "([II)V", sig := { parameters := [(.array .int), .int], returnType := none }, accessFlags := 9, code := some k3c1 }
/-- java/util/Arrays -/
def k3 : Class := { plain "java/util/Arrays" (some 0) with
  accessFlags := 49
  interfaces := #[]
  cf := some (fileOf pool3 14 #[.nestMembers #[975, 375, 113, 74]] #[{ accessFlags := 2, nameIndex := 5, descriptorIndex := 6, attributes := #[] }, { accessFlags := 9, nameIndex := 840, descriptorIndex := 845, attributes := #[] }] 49 2 #[] #[{ accessFlags := 26, nameIndex := 715, descriptorIndex := 716, attributes := #[] }, { accessFlags := 26, nameIndex := 719, descriptorIndex := 716, attributes := #[] }, { accessFlags := 4120, nameIndex := 445, descriptorIndex := 117, attributes := #[] }])
  fields := #[{ name := "MIN_ARRAY_SORT_GRAN", type := .int, accessFlags := 26, slot := 0, constantValue := 0 }, { name := "INSERTIONSORT_THRESHOLD", type := .int, accessFlags := 26, slot := 1, constantValue := 0 }, { name := "$assertionsDisabled", type := .boolean, accessFlags := 4120, slot := 2, constantValue := 0 }]
  methods := #[k3m0, k3m1]
  instanceTypes := #[]
  staticTypes := #[.int, .int, .boolean]
  resolved := Array.replicate 1029 none
  statics := none }

def pool4 : Array CpInfo := pool [(1, u "java/lang/Cloneable"), (0, .class_ 1), (0, u "java/lang/Object"), (0, .class_ 3)] 3

/-- java/lang/Cloneable -/
def k4 : Class := { plain "java/lang/Cloneable" (some 0) with
  accessFlags := 1537
  interfaces := #[]
  cf := some (fileOf pool4 2 #[] #[] 1537 4 #[] #[])
  fields := #[]
  methods := #[]
  instanceTypes := #[]
  staticTypes := #[]
  resolved := Array.replicate 8 none
  statics := none }

def pool5 : Array CpInfo := pool [(1, u "java/io/Serializable"), (0, .class_ 1), (0, u "java/lang/Object"), (0, .class_ 3)] 3

/-- java/io/Serializable -/
def k5 : Class := { plain "java/io/Serializable" (some 0) with
  accessFlags := 1537
  interfaces := #[]
  cf := some (fileOf pool5 2 #[] #[] 1537 4 #[] #[])
  fields := #[]
  methods := #[]
  instanceTypes := #[]
  staticTypes := #[]
  resolved := Array.replicate 8 none
  statics := none }

/-- the primitive byte -/
def k6 : Class := { plain "byte" none with kind := .primitive 'B', accessFlags := 0x411 }
/-- [B -/
def k7 : Class := { plain "[B" (some 0) with kind := .array 6 .byte, interfaces := #[4, 5], accessFlags := 1041 }

/-- the primitive int -/
def k8 : Class := { plain "int" none with kind := .primitive 'I', accessFlags := 0x411 }
/-- [I -/
def k9 : Class := { plain "[I" (some 0) with kind := .array 8 .int, interfaces := #[4, 5], accessFlags := 1041 }

/-- the primitive long, and two array classes -/
def k10 : Class := { plain "long" none with kind := .primitive 'J', accessFlags := 0x411 }
def k11 : Class := { plain "[J" (some 0) with kind := .array 10 .long, interfaces := #[4, 5], accessFlags := 1041 }
def k12 : Class := { plain "[[J" (some 0) with kind := .array 11 (.array .long), interfaces := #[4, 5], accessFlags := 1041 }

def heap : Heap := #[]
def classes : Array Class := #[k0, k1, k2, k3, k4, k5, k6, k7, k8, k9, k10, k11, k12]
def interned : List (Array UInt16 × Addr) := []
def slotsUsed : Nat := 0
def theMethod : MethodId := ⟨1, 1⟩
def args0 : Array Value := #[.int 5, .long 5, .int 5, .int 5, .int 5, .int 5]
def aboutOver (below : List Frame) : State where
  vm := { classes := classes, interned := interned.toArray }
  heap := heap
  slotsUsed := slotsUsed
  threads := #[{ frames := .invoking theMethod args0 :: below }]
def below0 : List Frame := [.native { method := ⟨0, 0⟩, args := #[] }]
def about1 : State := aboutOver below0
def p0 : Program := .bare "" "" ""
def e0 : Env := launch0.env 0 0 0
theorem w_frames : about1.frames = Frame.invoking theMethod args0 :: below0 := rfl
set_option maxRecDepth 65536 in
theorem w_args : argsFit about1.vm theMethod args0 = true := by decide +kernel
set_option maxRecDepth 65536 in
theorem w_heap : heapFits about1 = true := by decide +kernel
set_option maxRecDepth 65536 in
theorem w_runnable : about1.curStatus? = some .runnable := by decide +kernel
set_option maxRecDepth 65536 in
theorem w_alone : about1.alone = true := by decide +kernel
set_option maxRecDepth 65536 in
theorem w_named : about1.methodNamed? x = some theMethod := by decide +kernel
set_option maxRecDepth 65536 in
theorem w_hears : about1.hears theMethod below0 = true := by decide +kernel
set_option maxRecDepth 65536 in
theorem w_ripe : about1.ripe theMethod args0 below0 = true := by decide +kernel
theorem w_running : about1.status = .running := rfl
set_option maxRecDepth 65536 in
theorem w_room : about1.hasRoom e0.platform room_1 = true :=
  launch0.hasRoom_least _ room_1 (by decide +kernel) (by decide +kernel) (by decide +kernel) (by decide +kernel) (by decide +kernel) (by decide +kernel)
theorem allAtoms_all (ts : List Jvm.Cond) (a : Array Jvm.Value) (st : Jvm.State) : (allAtoms ts).before a st = ts.all (fun c => c.before a st) := by
  induction ts with
  | nil => rfl
  | cons c t ih =>
    show (Jvm.Cond.and c (allAtoms t)).before a st = _
    rw [Jvm.Cond.before_and, ih, List.all_cons]
def words1 : List Jvm.Cond := Jvm.Cond.code x code maxLocals ret :: tables_1
/-- a 'code' word, met by the world's own term for the bytes: nothing is compared byte by byte -/
theorem code_word {y : MethodName} {bytes : ByteArray} {mx : Nat} {rt : Option FieldType} {a : Array Value} {s : State} {m : MethodId} {meth : Method} {c : Code} (h1 : s.methodNamed? y = some m) (h2 : s.vm.method? m = some meth) (h3 : meth.code = some c) (h4 : c.code = bytes)
    (h5 : (c.maxLocals == mx && c.exceptionTable.isEmpty && decide (c.maxStack ≤ mostOperands) && decide (meth.sig.returnType = rt) && !meth.locks && decide (parseMethodDescriptor y.desc = some meth.sig)) = true) : (Jvm.Cond.code y bytes mx rt).before a s = true := by
  simp only [Bool.and_eq_true, beq_iff_eq, Bool.not_eq_true', decide_eq_true_eq] at h5
  obtain ⟨⟨⟨⟨⟨g1, g2⟩, g3⟩, g4⟩, g5⟩, g6⟩ := h5
  simp [Cond.before, Cond.holds, Cond.value, h1, h2, h3, h4, g1, g2, g3, g4, g5, g6]
def isCode : Jvm.Cond → Bool
  | .code _ _ _ _ => true
  | _ => false
theorem all_split {L : List Jvm.Cond} {P : Jvm.Cond → Bool} (h1 : L.all (fun c => isCode c || P c) = true) (h2 : ∀ c ∈ L.filter isCode, P c = true) : L.all P = true := by
  refine List.all_eq_true.mpr fun c hc => ?_
  have h := List.all_eq_true.mp h1 c hc
  rcases Bool.eq_false_or_eq_true (isCode c) with hi | hi
  · exact h2 c (List.mem_filter.mpr ⟨hc, hi⟩)
  · simpa [hi] using h
set_option maxRecDepth 65536 in
theorem w_c0 : (Jvm.Cond.code x code maxLocals ret).before args0 about1 = true := code_word (m := ⟨1, 1⟩) (meth := k1m1) (c := k1c1) (by decide +kernel) rfl rfl rfl (by decide +kernel)
set_option maxRecDepth 65536 in
theorem w_c1 : (Jvm.Cond.code ({ cls := "com/example/aprox/aprox/CountedKeywords", name := "<init>", desc := "(I)V" } : Jvm.MethodName) prog_7_method_1_code (2 : Nat) (Option.none : Option Jvm.ClassFile.FieldType)).before args0 about1 = true := code_word (m := ⟨2, 0⟩) (meth := k2m0) (c := k2c0) (by decide +kernel) rfl rfl rfl (by decide +kernel)
set_option maxRecDepth 65536 in
theorem w_c2 : (Jvm.Cond.code ({ cls := "java/lang/Object", name := "<init>", desc := "()V" } : Jvm.MethodName) object_method_1_code (1 : Nat) (Option.none : Option Jvm.ClassFile.FieldType)).before args0 about1 = true := code_word (m := ⟨0, 0⟩) (meth := k0m0) (c := k0c0) (by decide +kernel) rfl rfl rfl (by decide +kernel)
set_option maxRecDepth 65536 in
theorem w_c3 : (Jvm.Cond.code ({ cls := "java/util/Arrays", name := "fill", desc := "([II)V" } : Jvm.MethodName) jdk_65_method_103_code (4 : Nat) (Option.none : Option Jvm.ClassFile.FieldType)).before args0 about1 = true := code_word (m := ⟨3, 1⟩) (meth := k3m1) (c := k3c1) (by decide +kernel) rfl rfl rfl (by decide +kernel)
set_option maxRecDepth 65536 in
theorem w_c4 : (Jvm.Cond.code ({ cls := "com/example/aprox/aprox/CountedKeywords", name := "add", desc := "(III)V" } : Jvm.MethodName) prog_7_method_3_code (4 : Nat) (Option.none : Option Jvm.ClassFile.FieldType)).before args0 about1 = true := code_word (m := ⟨2, 2⟩) (meth := k2m2) (c := k2c2) (by decide +kernel) rfl rfl rfl (by decide +kernel)
set_option maxRecDepth 65536 in
theorem w_c5 : (Jvm.Cond.code ({ cls := "com/example/aprox/aprox/CountedKeywords", name := "clear", desc := "()V" } : Jvm.MethodName) prog_7_method_2_code (3 : Nat) (Option.none : Option Jvm.ClassFile.FieldType)).before args0 about1 = true := code_word (m := ⟨2, 1⟩) (meth := k2m1) (c := k2c1) (by decide +kernel) rfl rfl rfl (by decide +kernel)
set_option maxRecDepth 65536 in
theorem w_c6 : (Jvm.Cond.code ({ cls := "com/example/aprox/aprox/CountedKeywords", name := "count", desc := "()I" } : Jvm.MethodName) prog_7_method_6_code (1 : Nat) (Option.some Jvm.ClassFile.FieldType.int)).before args0 about1 = true := code_word (m := ⟨2, 3⟩) (meth := k2m3) (c := k2c3) (by decide +kernel) rfl rfl rfl (by decide +kernel)
set_option maxRecDepth 65536 in
theorem w_c7 : (Jvm.Cond.code ({ cls := "com/example/aprox/aprox/CountedKeywords", name := "keyword", desc := "(I)I" } : Jvm.MethodName) prog_7_method_7_code (2 : Nat) (Option.some Jvm.ClassFile.FieldType.int)).before args0 about1 = true := code_word (m := ⟨2, 4⟩) (meth := k2m4) (c := k2c4) (by decide +kernel) rfl rfl rfl (by decide +kernel)
set_option maxRecDepth 65536 in
theorem w_c8 : (Jvm.Cond.code ({ cls := "com/example/aprox/aprox/CountedKeywords", name := "wholeFields", desc := "(I)I" } : Jvm.MethodName) prog_7_method_8_code (2 : Nat) (Option.some Jvm.ClassFile.FieldType.int)).before args0 about1 = true := code_word (m := ⟨2, 5⟩) (meth := k2m5) (c := k2c5) (by decide +kernel) rfl rfl rfl (by decide +kernel)
def codes1 : List Jvm.Cond := [Jvm.Cond.code x code maxLocals ret, Jvm.Cond.code ({ cls := "com/example/aprox/aprox/CountedKeywords", name := "<init>", desc := "(I)V" } : Jvm.MethodName) prog_7_method_1_code (2 : Nat) (Option.none : Option Jvm.ClassFile.FieldType), Jvm.Cond.code ({ cls := "java/lang/Object", name := "<init>", desc := "()V" } : Jvm.MethodName) object_method_1_code (1 : Nat) (Option.none : Option Jvm.ClassFile.FieldType), Jvm.Cond.code ({ cls := "java/util/Arrays", name := "fill", desc := "([II)V" } : Jvm.MethodName) jdk_65_method_103_code (4 : Nat) (Option.none : Option Jvm.ClassFile.FieldType), Jvm.Cond.code ({ cls := "com/example/aprox/aprox/CountedKeywords", name := "add", desc := "(III)V" } : Jvm.MethodName) prog_7_method_3_code (4 : Nat) (Option.none : Option Jvm.ClassFile.FieldType), Jvm.Cond.code ({ cls := "com/example/aprox/aprox/CountedKeywords", name := "clear", desc := "()V" } : Jvm.MethodName) prog_7_method_2_code (3 : Nat) (Option.none : Option Jvm.ClassFile.FieldType), Jvm.Cond.code ({ cls := "com/example/aprox/aprox/CountedKeywords", name := "count", desc := "()I" } : Jvm.MethodName) prog_7_method_6_code (1 : Nat) (Option.some Jvm.ClassFile.FieldType.int), Jvm.Cond.code ({ cls := "com/example/aprox/aprox/CountedKeywords", name := "keyword", desc := "(I)I" } : Jvm.MethodName) prog_7_method_7_code (2 : Nat) (Option.some Jvm.ClassFile.FieldType.int), Jvm.Cond.code ({ cls := "com/example/aprox/aprox/CountedKeywords", name := "wholeFields", desc := "(I)I" } : Jvm.MethodName) prog_7_method_8_code (2 : Nat) (Option.some Jvm.ClassFile.FieldType.int)]
set_option maxRecDepth 65536 in
theorem codes_eq : words1.filter isCode = codes1 := rfl
theorem w_codes : ∀ c ∈ words1.filter isCode, c.before args0 about1 = true := by
  rw [codes_eq]
  intro c hc
  simp only [codes1, List.mem_cons, List.not_mem_nil, or_false] at hc
  rcases hc with rfl | rfl | rfl | rfl | rfl | rfl | rfl | rfl | rfl
  · exact w_c0
  · exact w_c1
  · exact w_c2
  · exact w_c3
  · exact w_c4
  · exact w_c5
  · exact w_c6
  · exact w_c7
  · exact w_c8
set_option maxRecDepth 65536 in
theorem w_t1 : (words1.take 24).all (fun c => isCode c || c.before args0 about1) = true := by decide +kernel
set_option maxRecDepth 65536 in
theorem w_t2 : ((words1.drop 24).take 24).all (fun c => isCode c || c.before args0 about1) = true := by decide +kernel
set_option maxRecDepth 65536 in
theorem w_t3 : ((words1.drop 24).drop 24).all (fun c => isCode c || c.before args0 about1) = true := by decide +kernel
theorem w_tables : (allAtoms (Jvm.Cond.code x code maxLocals ret :: tables_1)).before args0 about1 = true := by
  rw [allAtoms_all]
  show words1.all (fun c => c.before args0 about1) = true
  refine all_split ?_ w_codes
  rw [← List.take_append_drop 24 words1, List.all_append, w_t1, ← List.take_append_drop 24 (words1.drop 24), List.all_append, w_t2, w_t3]
  rfl
set_option maxRecDepth 65536 in
theorem w_case : (Jvm.Cond.and given_1 narrow_1).before args0 about1 = true := by decide +kernel
theorem w_applies : (headSpec (Jvm.Cond.code x code maxLocals ret :: tables_1) room_1).applies x e0.platform about1 = true :=
  (Spec.applies_iff w_frames).mpr ⟨w_running, w_runnable, w_alone, w_named, w_hears, w_ripe, w_room, w_tables⟩
theorem atStart : AtStart classFile x code maxLocals ret World_1 tables_1 room_1 Calls_1 rest_1 Pre_1 launch0 p0 e0 about1 theMethod args0 below0 :=
  ⟨lists_1, trivial, launch0.admits_env _ _ _, launch0.least_env, fairChoices_fair.cas, fairChoices_fair.clock, w_frames, w_args, w_heap, w_applies, trivial, trivial, w_case⟩
end start1
theorem witness_1 : WitnessClaimed_1 := ⟨start1.p0, start1.e0, start1.about1, start1.theMethod, start1.args0, start1.below0, start1.atStart⟩
end Jvm.Pilot.@@N@@
