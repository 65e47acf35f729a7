import JvmDerived
import JvmDerived.Pilot.@@N@@Statement
import JvmDerived.Pilot.@@N@@Code
set_option linter.unusedVariables false
set_option linter.unusedSimpArgs false

namespace Jvm.Pilot.@@N@@
open Jvm Jvm.ClassFile Sem Op Lib Jvm.Free Jvm.Stand Jvm.LawKit Jvm.RoadKit Bundle Jvm.Pilot.@@N@@.Jvm.D
/-! own kit: the walk's goal carried forward, arrays as functions -/
def own_Fin (below : List Frame) (s : State) (Q : Option Value → Heap → List Loc → Prop) (k n : Nat) (t : State) : Prop :=
  ∃ o, t.status = .running ∧ Ended t below o ∧ ∃ v L, o = .returned v ∧ Q v t.heap L ∧ FrameEnd s o t L k n
def own_Go (tb : Tables) (e : Env) (below : List Frame) (S : State) (P : State → Prop) : Prop := ∃ t, Steps tb e below S t ∧ P t
theorem own_by {tb : Tables} {e : Env} {below : List Frame} {S S' : State} {P : State → Prop} (k : ∀ t, Steps tb e below S' t → Steps tb e below S t) (h : own_Go tb e below S' P) : own_Go tb e below S P := by
  obtain ⟨t, a, b⟩ := h
  exact ⟨t, k t a, b⟩
theorem own_tr {tb : Tables} {e : Env} {below : List Frame} {S S' : State} {P : State → Prop} (k : Steps tb e below S S') (h : own_Go tb e below S' P) : own_Go tb e below S P := by
  obtain ⟨t, a, b⟩ := h
  exact ⟨t, k.trans a, b⟩
theorem own_out {tb : Tables} {e : Env} {below : List Frame} {S s : State} {Q : Option Value → Heap → List Loc → Prop} {k n : Nat} (h : own_Go tb e below S (own_Fin below s Q k n)) :
    ∃ s₂ o, Steps tb e below S s₂ ∧ s₂.status = .running ∧ Ended s₂ below o ∧ ∃ v L, o = .returned v ∧ Q v s₂.heap L ∧ FrameEnd s o s₂ L k n := by
  obtain ⟨t, a, o, b, c, d⟩ := h
  exact ⟨t, o, a, b, c, d⟩
theorem own_cast {tb : Tables} {e : Env} {below : List Frame} {T : State} {g g' : JFrame} {P : State → Prop} (q : g = g') (h : own_Go tb e below (T.setTop g') P) : own_Go tb e below (T.setTop g) P := q ▸ h
section OwnEnd
variable {p : Program} {l : Launch} {e : Env} {R : Room} {s : State} {m : MethodId} {args : Array Value} {below : List Frame} {meth : Method} {c : Code} {T : State} {locs : List Loc} {cells slots : Nat} {Q : Option Value → Heap → List Loc → Prop} {k n : Nat}
theorem own_ret (X : Stand p l e R s m args below meth c T locs cells slots) (hx : p.tables.exec = Jvm.exec) (hlocks : meth.locks = false) {pc : Nat} {Ls : Array Slot} {w : Value} {t : FieldType} {i : Instr} {rest : List Value} (hret : meth.sig.returnType = some t) (hn : narrow t w = w)
    (hi : (i = .ireturn ∧ (t = .int ∨ t = .boolean ∨ t = .byte ∨ t = .char ∨ t = .short) ∧ ∃ z, w = .int z) ∨ (i = .lreturn ∧ t = .long ∧ ∃ z, w = .long z) ∨ (i = .dreturn ∧ t = .double ∧ ∃ z, w = .double z) ∨ (i = .freturn ∧ t = .float ∧ ∃ z, w = .float z) ∨ (i = .areturn ∧ t.isReference = true ∧ w.isRef = true))
    (hd : decode c.code pc = .ok (i, 1)) (hQ : Q (some w) T.heap locs) (h1 : cells ≤ k) (h2 : slots ≤ n) :
    own_Go p.tables e below (T.setTop (mkF m pc Ls (w :: rest))) (own_Fin below s Q k n) := by
  obtain ⟨fs, hr, hrun, hended, hW, hsame⟩ := X.leave (v := some w) (fun h => by rw [hret] at h; cases h) hlocks
  exact ⟨_, retOut X hx hret hn hi hd hr, _, hrun, hended, _, _, rfl, hQ, ⟨_, rfl⟩, hW, hsame.mono h1 h2⟩
theorem own_retI (X : Stand p l e R s m args below meth c T locs cells slots) (hx : p.tables.exec = Jvm.exec) (hlocks : meth.locks = false) {pc : Nat} {Ls : Array Slot} {z : Int32} {rest : List Value} (hret : meth.sig.returnType = some .int)
    (hd : decode c.code pc = .ok (.ireturn, 1)) (hQ : Q (some (.int z)) T.heap locs) (h1 : cells ≤ k) (h2 : slots ≤ n) :
    own_Go p.tables e below (T.setTop (mkF m pc Ls (.int z :: rest))) (own_Fin below s Q k n) :=
  own_ret X hx hlocks hret rfl (Or.inl ⟨rfl, Or.inl rfl, _, rfl⟩) hd hQ h1 h2
theorem own_retJ (X : Stand p l e R s m args below meth c T locs cells slots) (hx : p.tables.exec = Jvm.exec) (hlocks : meth.locks = false) {pc : Nat} {Ls : Array Slot} {z : Int64} {rest : List Value} (hret : meth.sig.returnType = some .long)
    (hd : decode c.code pc = .ok (.lreturn, 1)) (hQ : Q (some (.long z)) T.heap locs) (h1 : cells ≤ k) (h2 : slots ≤ n) :
    own_Go p.tables e below (T.setTop (mkF m pc Ls (.long z :: rest))) (own_Fin below s Q k n) :=
  own_ret X hx hlocks hret rfl (Or.inr (Or.inl ⟨rfl, rfl, _, rfl⟩)) hd hQ h1 h2
theorem own_retA (X : Stand p l e R s m args below meth c T locs cells slots) (hx : p.tables.exec = Jvm.exec) (hlocks : meth.locks = false) {pc : Nat} {Ls : Array Slot} {w : Value} {t : FieldType} {rest : List Value} (hret : meth.sig.returnType = some t) (ht : t.isReference = true) (hw : w.isRef = true) (hn : narrow t w = w)
    (hd : decode c.code pc = .ok (.areturn, 1)) (hQ : Q (some w) T.heap locs) (h1 : cells ≤ k) (h2 : slots ≤ n) :
    own_Go p.tables e below (T.setTop (mkF m pc Ls (w :: rest))) (own_Fin below s Q k n) :=
  own_ret X hx hlocks hret hn (Or.inr (Or.inr (Or.inr (Or.inr ⟨rfl, ht, hw⟩)))) hd hQ h1 h2
theorem own_retN (X : Stand p l e R s m args below meth c T locs cells slots) (hx : p.tables.exec = Jvm.exec) (hlocks : meth.locks = false) {pc : Nat} {Ls : Array Slot} {z : Int32} {t : FieldType} {rest : List Value} (hret : meth.sig.returnType = some t) (ht : t = .boolean ∨ t = .byte ∨ t = .char ∨ t = .short) (hn : nar t z = z)
    (hd : decode c.code pc = .ok (.ireturn, 1)) (hQ : Q (some (.int z)) T.heap locs) (h1 : cells ≤ k) (h2 : slots ≤ n) :
    own_Go p.tables e below (T.setTop (mkF m pc Ls (.int z :: rest))) (own_Fin below s Q k n) := by
  obtain ⟨fs, hr, hrun, hended, hW, hsame⟩ := X.leave (v := some (.int (nar t z))) (fun h => by rw [hret] at h; cases h) hlocks
  exact ⟨_, retN X hx hret ht hd hr, _, hrun, hended, _, _, rfl, (by rw [hn]; exact hQ), ⟨_, rfl⟩, hW, hsame.mono h1 h2⟩
theorem own_retV (X : Stand p l e R s m args below meth c T locs cells slots) (hx : p.tables.exec = Jvm.exec) (hlocks : meth.locks = false) {pc : Nat} {Ls : Array Slot} (hret : meth.sig.returnType = none)
    (hd : decode c.code pc = .ok (.return_, 1)) (hQ : Q none T.heap locs) (h1 : cells ≤ k) (h2 : slots ≤ n) :
    own_Go p.tables e below (T.setTop (mkF m pc Ls [])) (own_Fin below s Q k n) := by
  obtain ⟨fs, hr, hrun, hended, hW, hsame⟩ := X.leave (v := none) (fun _ => rfl) hlocks
  exact ⟨_, X.returnOut hx hret hd hr, _, hrun, hended, _, _, rfl, hQ, ⟨_, rfl⟩, hW, hsame.mono h1 h2⟩
end OwnEnd
/-- one place of a function changed -/
def own_upd {α : Type} (f : Nat → α) (k : Nat) (x : α) : Nat → α := fun i => if i = k then x else f i
theorem own_upd_at {α : Type} (f : Nat → α) (k : Nat) (x : α) : own_upd f k x k = x := by simp [own_upd]
theorem own_upd_ne {α : Type} (f : Nat → α) {k i : Nat} (x : α) (h : i ≠ k) : own_upd f k x i = f i := by simp [own_upd, h]
/-- an array: its length, and what each place holds -/
def own_AF (Z : State) (h : Heap) (a : Addr) (ty : FieldType) (n : Nat) (f : Nat → Value) : Prop := ∃ c : Cell, Arr Z h a c ty ∧ c.slots.size = n ∧ ∀ i, i < n → c.slots[i]? = some (f i)
def own_AI (Z : State) (h : Heap) (a : Addr) (ty : FieldType) (n : Nat) (b : Nat → Int32) : Prop := own_AF Z h a ty n (fun i => .int (b i))
def own_AJ (Z : State) (h : Heap) (a : Addr) (n : Nat) (b : Nat → Int64) : Prop := own_AF Z h a .long n (fun i => .long (b i))
section OwnArr
variable {Z : State} {h h' : Heap} {a b : Addr} {ty : FieldType} {n : Nat} {f : Nat → Value} {ws : List Addr} {sl : Nat} {v : Value} {bi : Nat → Int32} {bj : Nat → Int64}
theorem own_AF.lt (F : own_AF Z h a ty n f) : a < h.size := by obtain ⟨c, A, -⟩ := F; exact A.lt
theorem own_AF.ext (F : own_AF Z h a ty n f) (E : Ext h h') : own_AF Z h' a ty n f := by obtain ⟨c, A, r⟩ := F; exact ⟨c, A.ext E, r⟩
theorem own_AF.other (F : own_AF Z h b ty n f) (W : Wr h h' a sl v) (q : b ≠ a) : own_AF Z h' b ty n f := by obtain ⟨c, A, r⟩ := F; exact ⟨c, A.other W q, r⟩
theorem own_AF.keep (F : own_AF Z h a ty n f) (K : Keep h h' ws) (q : a ∉ ws) : own_AF Z h' a ty n f := by obtain ⟨c, A, r⟩ := F; exact ⟨c, ⟨K.2.1 a c A.1 q, A.2⟩, r⟩
theorem own_AF.congr (F : own_AF Z h a ty n f) {f' : Nat → Value} (q : ∀ i, i < n → f i = f' i) : own_AF Z h a ty n f' := by obtain ⟨c, A, S, r⟩ := F; exact ⟨c, A, S, fun i hi => by rw [← q i hi]; exact r i hi⟩
theorem own_AF.new {k : ClassId} {z : Int32} (A : Arr Z h a (newA k ty z) ty) (hz : z.toNatClampNeg = n) : own_AF Z h a ty n (fun _ => defaultValue ty) := by
  subst hz
  exact ⟨_, A, sz_new _ _ _, fun i hi => by simp [newA, hi]⟩
theorem own_AF.st (F : own_AF Z h a ty n f) (W : Wr h h' a sl v) : own_AF Z h' a ty n (own_upd f sl v) := by
  obtain ⟨c, A, S, r⟩ := F
  refine ⟨_, A.same W, by rw [sz_set]; exact S, fun i hi => ?_⟩
  by_cases u : i = sl
  · subst u; rw [own_upd_at]; simp [Cell.setSlot, S, hi]
  · rw [own_upd_ne _ _ u]
    simp only [Cell.setSlot]
    rw [Array.getElem?_setIfInBounds_ne (fun q => u q.symm)]; exact r i hi
theorem own_AI.st {x : Int32} (F : own_AI Z h a ty n bi) (W : Wr h h' a sl (.int x)) : own_AI Z h' a ty n (own_upd bi sl x) :=
  (own_AF.st F W).congr fun i _ => by by_cases u : i = sl <;> simp [own_upd, u]
theorem own_AJ.st {x : Int64} (F : own_AJ Z h a n bj) (W : Wr h h' a sl (.long x)) : own_AJ Z h' a n (own_upd bj sl x) :=
  (own_AF.st F W).congr fun i _ => by by_cases u : i = sl <;> simp [own_upd, u]
theorem own_AI.lt (F : own_AI Z h a ty n bi) : a < h.size := own_AF.lt F
theorem own_AI.ext (F : own_AI Z h a ty n bi) (E : Ext h h') : own_AI Z h' a ty n bi := own_AF.ext F E
theorem own_AI.other (F : own_AI Z h b ty n bi) (W : Wr h h' a sl v) (q : b ≠ a) : own_AI Z h' b ty n bi := own_AF.other F W q
theorem own_AI.keep (F : own_AI Z h a ty n bi) (K : Keep h h' ws) (q : a ∉ ws) : own_AI Z h' a ty n bi := own_AF.keep F K q
theorem own_AI.congr (F : own_AI Z h a ty n bi) {b' : Nat → Int32} (q : ∀ i, i < n → bi i = b' i) : own_AI Z h a ty n b' := own_AF.congr F fun i hi => by rw [q i hi]
theorem own_AJ.lt (F : own_AJ Z h a n bj) : a < h.size := own_AF.lt F
theorem own_AJ.ext (F : own_AJ Z h a n bj) (E : Ext h h') : own_AJ Z h' a n bj := own_AF.ext F E
theorem own_AJ.other (F : own_AJ Z h b n bj) (W : Wr h h' a sl v) (q : b ≠ a) : own_AJ Z h' b n bj := own_AF.other F W q
theorem own_AJ.keep (F : own_AJ Z h a n bj) (K : Keep h h' ws) (q : a ∉ ws) : own_AJ Z h' a n bj := own_AF.keep F K q
theorem own_AJ.congr (F : own_AJ Z h a n bj) {b' : Nat → Int64} (q : ∀ i, i < n → bj i = b' i) : own_AJ Z h a n b' := own_AF.congr F fun i hi => by rw [q i hi]
variable {p : Program} {l : Launch} {e : Env} {R : Room} {s : State} {m : MethodId} {args : Array Value} {below : List Frame} {meth : Method} {c : Code} {T : State} {locs : List Loc} {cells slots : Nat} {j : Int32} {k : Nat} {g : JFrame} {rest : List Value}
theorem own_in {cl : Cell} (S : cl.slots.size = n) (h0 : ¬ j < 0) (hk : j.toNatClampNeg = k) (hlt : k < n) : ¬ (j < 0 ∨ cl.slots.size ≤ j.toNatClampNeg) := by
  rintro (q | q)
  · exact h0 q
  · rw [S, hk] at q; omega
theorem own_ldB (X : Stand p l e R s m args below meth c T locs cells slots) (hx : p.tables.exec = Jvm.exec) (hZ : Z.Warmed39 s.vm) (eT : T.heap = h) (A : own_AI Z h a .byte n bi) (h0 : ¬ j < 0) (hk : j.toNatClampNeg = k) (hlt : k < n) (hg : g.method = m) (hs : g.stack = .int j :: .ref a :: rest) (hd : decode c.code g.pc = .ok (.baload, 1)) :
    ∀ target, Steps p.tables e below (T.setTop { g with pc := g.pc + 1, stack := .int (bi k) :: rest }) target → Steps p.tables e below (T.setTop g) target := by
  obtain ⟨cl, Ar, S, H⟩ := A
  exact X.baloadBytes hx (v := .int (bi k)) (by rw [eT]; exact Ar.1) (State.isArrayOf_alike hZ.alike Ar.2.1) Ar.2.2 (own_in S h0 hk hlt) (by rw [hk]; exact H k hlt) hg hs hd
theorem own_ldI (X : Stand p l e R s m args below meth c T locs cells slots) (hx : p.tables.exec = Jvm.exec) (hZ : Z.Warmed39 s.vm) (eT : T.heap = h) (A : own_AI Z h a .int n bi) (h0 : ¬ j < 0) (hk : j.toNatClampNeg = k) (hlt : k < n) (hg : g.method = m) (hs : g.stack = .int j :: .ref a :: rest) (hd : decode c.code g.pc = .ok (.iaload, 1)) :
    ∀ target, Steps p.tables e below (T.setTop { g with pc := g.pc + 1, stack := .int (bi k) :: rest }) target → Steps p.tables e below (T.setTop g) target := by
  obtain ⟨cl, Ar, S, H⟩ := A
  exact X.iaload hx (v := .int (bi k)) (by rw [eT]; exact Ar.1) (State.isArrayOf_alike hZ.alike Ar.2.1) Ar.2.2 (own_in S h0 hk hlt) (by rw [hk]; exact H k hlt) hg hs hd
theorem own_ldJ (X : Stand p l e R s m args below meth c T locs cells slots) (hx : p.tables.exec = Jvm.exec) (hZ : Z.Warmed39 s.vm) (eT : T.heap = h) (A : own_AJ Z h a n bj) (h0 : ¬ j < 0) (hk : j.toNatClampNeg = k) (hlt : k < n) (hg : g.method = m) (hs : g.stack = .int j :: .ref a :: rest) (hd : decode c.code g.pc = .ok (.laload, 1)) :
    ∀ target, Steps p.tables e below (T.setTop { g with pc := g.pc + 1, stack := .long (bj k) :: rest }) target → Steps p.tables e below (T.setTop g) target := by
  obtain ⟨cl, Ar, S, H⟩ := A
  exact X.laload hx (v := .long (bj k)) (by rw [eT]; exact Ar.1) (State.isArrayOf_alike hZ.alike Ar.2.1) Ar.2.2 (own_in S h0 hk hlt) (by rw [hk]; exact H k hlt) hg hs hd
theorem own_len (X : Stand p l e R s m args below meth c T locs cells slots) (hx : p.tables.exec = Jvm.exec) (hZ : Z.Warmed39 s.vm) (eT : T.heap = h) (A : own_AF Z h a ty n f) {z : Int32} (hz : n.toInt32 = z) (hg : g.method = m) (hs : g.stack = .ref a :: rest) (hd : decode c.code g.pc = .ok (.arraylength, 1)) :
    ∀ target, Steps p.tables e below (T.setTop { g with pc := g.pc + 1, stack := .int z :: rest }) target → Steps p.tables e below (T.setTop g) target := by
  obtain ⟨cl, Ar, S, H⟩ := A
  intro t hr
  refine X.arraylength hx (by rw [eT]; exact Ar.1) (State.isArrayOf_alike hZ.alike Ar.2.1) hg hs hd t ?_
  rw [S, hz]; exact hr
theorem own_stB (X : Stand p l e R s m args below meth c T locs cells slots) (hx : p.tables.exec = Jvm.exec) (hZ : Z.Warmed39 s.vm) (eT : T.heap = h) (A : own_AI Z h a .byte n bi) {x : Int32} (h0 : ¬ j < 0) (hk : j.toNatClampNeg = k) (hlt : k < n) (hg : g.method = m) (hs : g.stack = .int x :: .int j :: .ref a :: rest) (hd : decode c.code g.pc = .ok (.bastore, 1)) :
    ∃ T' h', Stand p l e R s m args below meth c T' (locs ++ [⟨a, k⟩]) cells slots ∧ T'.heap = h' ∧ Wr h h' a k (.int (x.toInt8.toInt32)) ∧ own_AI Z h' a .byte n (own_upd bi k (x.toInt8.toInt32)) ∧ ∀ target, Steps p.tables e below (T'.setTop { g with pc := g.pc + 1, stack := rest }) target → Steps p.tables e below (T.setTop g) target := by
  obtain ⟨cl, Ar, S, H⟩ := id A
  obtain ⟨T', h', X', e', W, st⟩ := stB X hx hZ eT Ar (own_in S h0 hk hlt) hg hs hd
  rw [hk] at X' W
  exact ⟨T', h', X', e', W, A.st W, st⟩
theorem own_stI (X : Stand p l e R s m args below meth c T locs cells slots) (hx : p.tables.exec = Jvm.exec) (hZ : Z.Warmed39 s.vm) (eT : T.heap = h) (A : own_AI Z h a .int n bi) {x : Int32} (h0 : ¬ j < 0) (hk : j.toNatClampNeg = k) (hlt : k < n) (hg : g.method = m) (hs : g.stack = .int x :: .int j :: .ref a :: rest) (hd : decode c.code g.pc = .ok (.iastore, 1)) :
    ∃ T' h', Stand p l e R s m args below meth c T' (locs ++ [⟨a, k⟩]) cells slots ∧ T'.heap = h' ∧ Wr h h' a k (.int x) ∧ own_AI Z h' a .int n (own_upd bi k x) ∧ ∀ target, Steps p.tables e below (T'.setTop { g with pc := g.pc + 1, stack := rest }) target → Steps p.tables e below (T.setTop g) target := by
  obtain ⟨cl, Ar, S, H⟩ := id A
  obtain ⟨T', h', X', e', W, st⟩ := stI X hx hZ eT Ar (own_in S h0 hk hlt) hg hs hd
  rw [hk] at X' W
  exact ⟨T', h', X', e', W, A.st W, st⟩
theorem own_stJ (X : Stand p l e R s m args below meth c T locs cells slots) (hx : p.tables.exec = Jvm.exec) (hZ : Z.Warmed39 s.vm) (eT : T.heap = h) (A : own_AJ Z h a n bj) {x : Int64} (h0 : ¬ j < 0) (hk : j.toNatClampNeg = k) (hlt : k < n) (hg : g.method = m) (hs : g.stack = .long x :: .int j :: .ref a :: rest) (hd : decode c.code g.pc = .ok (.lastore, 1)) :
    ∃ T' h', Stand p l e R s m args below meth c T' (locs ++ [⟨a, k⟩]) cells slots ∧ T'.heap = h' ∧ Wr h h' a k (.long x) ∧ own_AJ Z h' a n (own_upd bj k x) ∧ ∀ target, Steps p.tables e below (T'.setTop { g with pc := g.pc + 1, stack := rest }) target → Steps p.tables e below (T.setTop g) target := by
  obtain ⟨cl, Ar, S, H⟩ := id A
  obtain ⟨T', h', X', e', W, st⟩ := stJ X hx hZ eT Ar (own_in S h0 hk hlt) hg hs hd
  rw [hk] at X' W
  exact ⟨T', h', X', e', W, A.st W, st⟩
end OwnArr
/-- what a body leaves that returns an int (a long) and writes nothing -/
def own_QI (h0 : Heap) (n0 : Nat) (f : Int32) (v : Option Value) (h : Heap) (L : List Loc) : Prop := ∃ r : Int32, v = some (.int r) ∧ Fr n0 L ∧ h = h0 ∧ r = f
def own_QJ (h0 : Heap) (n0 : Nat) (f : Int64) (v : Option Value) (h : Heap) (L : List Loc) : Prop := ∃ r : Int64, v = some (.long r) ∧ Fr n0 L ∧ h = h0 ∧ r = f
theorem own_nb {z : Int32} (h : z = 0 ∨ z = 1) : nar .boolean z = z := by rcases h with rfl | rfl <;> decide
/-! sums, differences and products that don't wrap -/
theorem own_add {x y : Int32} (h1 : -2147483648 ≤ x.toInt + y.toInt) (h2 : x.toInt + y.toInt < 2147483648) : (x + y).toInt = x.toInt + y.toInt := by
  have a := c_iadd x y; have b := (x + y).toInt_lt; have c := (x + y).le_toInt; omega
theorem own_sub' {x y : Int32} (h1 : -2147483648 ≤ x.toInt - y.toInt) (h2 : x.toInt - y.toInt < 2147483648) : (x - y).toInt = x.toInt - y.toInt := by
  have a := c_isub x y; have b := (x - y).toInt_lt; have c := (x - y).le_toInt; omega
theorem own_mul {x y : Int32} {t : Int} (ht : x.toInt * y.toInt = t) (h1 : -2147483648 ≤ t) (h2 : t < 2147483648) : (x * y).toInt = t := by
  have a := c_imul x y; rw [ht] at a; have b := (x * y).toInt_lt; have c := (x * y).le_toInt; omega
theorem own_addL {x y : Int64} (h1 : -9223372036854775808 ≤ x.toInt + y.toInt) (h2 : x.toInt + y.toInt < 9223372036854775808) : (x + y).toInt = x.toInt + y.toInt := by
  have a := c_ladd x y; have b := (x + y).toInt_lt; have c := (x + y).le_toInt; omega
theorem own_subL {x y : Int64} (h1 : -9223372036854775808 ≤ x.toInt - y.toInt) (h2 : x.toInt - y.toInt < 9223372036854775808) : (x - y).toInt = x.toInt - y.toInt := by
  have a := c_lsub x y; have b := (x - y).toInt_lt; have c := (x - y).le_toInt; omega
theorem own_mulL {x y : Int64} {t : Int} (ht : x.toInt * y.toInt = t) (h1 : -9223372036854775808 ≤ t) (h2 : t < 9223372036854775808) : (x * y).toInt = t := by
  have a := c_lmul x y; rw [ht] at a; have b := (x * y).toInt_lt; have c := (x * y).le_toInt; omega
def own_ab (r y : Int64) : Int64 := if (0 : Int64) < r then (if r < ((2 : Int64) * ((16 : Int64) + y)) then ((((((16 : Int64) + y) + r) - (1 : Int64)) / r) * r) else y) else y
theorem own_nz {r : Int64} (h : (0 : Int64) < r) : r ≠ 0 := by
  rintro rfl; exact absurd h (by decide)
/-- the regions' size: 0 or a power of two -/
def own_P (r : Int64) : Prop := r = 0 ∨ ∃ k : Nat, k ≤ 62 ∧ r.toInt = ((2 ^ k : Nat) : Int) ∧ (r - 1).toBitVec.toNat = 2 ^ k - 1
def own_B (y : Int64) : Prop := 0 ≤ y.toInt ∧ y.toInt < 2305843009213693952
set_option maxRecDepth 100000 in
theorem own_pw : ∀ n : Fin 63, ((1 : Int64) <<< ((Int32.ofNat n.val) &&& 0x3f).toInt64).toInt = ((2 ^ n.val : Nat) : Int) ∧ (((1 : Int64) <<< ((Int32.ofNat n.val) &&& 0x3f).toInt64) - 1).toBitVec.toNat = 2 ^ n.val - 1 := by decide +kernel
theorem own_isP {sel r : Int64} {kk : Int32} (hk : kk = (sel &&& (63 : Int64)).toInt32) (hr : r = (if kk = (63 : Int32) then (0 : Int64) else ((1 : Int64) <<< (kk &&& 0x3f).toInt64))) : own_P r := by
  have m := c_maskL sel 63 6 (by decide) (by decide)
  have t := c_l2i (sel &&& 63)
  rw [← hk] at t
  have b1 := kk.toInt_lt; have b2 := kk.le_toInt
  by_cases q : kk = 63
  · left; rw [hr, if_pos q]
  · right
    rw [if_neg q] at hr
    have q' : ¬ kk.toInt = 63 := fun z => q (Int32.toInt_inj.mp (by rw [z]; decide))
    have k0 : 0 ≤ kk.toInt ∧ kk.toInt ≤ 62 := by constructor <;> omega
    have e : kk = Int32.ofNat kk.toInt.toNat := by
      apply Int32.toInt_inj.mp
      rw [Int32.toInt_ofNat_small (by omega)]; omega
    have t2 := own_pw ⟨kk.toInt.toNat, by omega⟩
    simp only [] at t2
    rw [← e] at t2
    exact ⟨kk.toInt.toNat, by omega, by rw [hr]; exact t2.1, by rw [hr]; exact t2.2⟩
theorem own_isB {u y : Int64} (h : y = (u &&& (2305843009213693951 : Int64))) : own_B y := by
  have m := c_maskL u 2305843009213693951 61 (by decide) (by decide)
  unfold own_B; rw [h, m]; constructor <;> omega
theorem own_pos {k : Nat} (hk : k ≤ 62) : 0 < ((2 ^ k : Nat) : Int) ∧ ((2 ^ k : Nat) : Int) ≤ 4611686018427387904 := by
  have h1 : 0 < 2 ^ k := Nat.two_pow_pos k
  have h2 : 2 ^ k ≤ 2 ^ 62 := Nat.pow_le_pow_right (by decide) hk
  constructor <;> omega
theorem own_p0 {r : Int64} (h : own_P r) : ¬ r < (0 : Int64) := by
  rcases h with rfl | ⟨k, hk, e, -⟩
  · decide
  · have := own_pos hk
    rw [Int64.lt_iff_toInt_lt, e, show (0 : Int64).toInt = 0 by decide]; omega
theorem own_and {r g : Int64} {k : Nat} (hk : k ≤ 62) (e2 : (r - 1).toBitVec.toNat = 2 ^ k - 1) (hg : g.toInt % ((2 ^ k : Nat) : Int) = 0) : (g &&& (r - (1 : Int64))) = (0 : Int64) := by
  have m := c_maskL g (r - 1) k (by omega) e2
  apply Int64.toInt_inj.mp
  rw [m, hg]; decide
theorem own_p1 {r : Int64} (h : own_P r) : (r &&& (r - (1 : Int64))) = (0 : Int64) := by
  rcases h with rfl | ⟨k, hk, e, e2⟩
  · decide
  · exact own_and hk e2 (by rw [e]; exact Int.emod_self)
theorem own_big {r y wh got : Int64} (hp : own_P r) (hb : own_B y) (h1 : (0 : Int64) < r) (h2 : (r >>> ((1 : Int32) &&& 0x3f).toInt64) < wh) (hw : wh = (y + (16 : Int64))) (hg : got = own_ab r y) :
    (got &&& (r - (1 : Int64))) = (0 : Int64) ∧ ¬ got < wh ∧ (got - wh) < r := by
  rcases hp with rfl | ⟨k, hk, e, e2⟩
  · exact absurd h1 (by decide)
  obtain ⟨p1, p2⟩ := own_pos hk
  obtain ⟨b1, b2⟩ := hb
  rw [Int64.lt_iff_toInt_lt] at h2
  have s1 := c_lshr r 1 1 (by decide)
  rw [s1] at h2
  have a1 := c_ladd y 16; rw [← hw, show (16 : Int64).toInt = 16 by decide] at a1
  have a2 := c_ladd 16 y; rw [show (16 : Int64).toInt = 16 by decide] at a2
  have r1 := wh.toInt_lt; have r2 := wh.le_toInt
  have r3 := (16 + y).toInt_lt; have r4 := (16 + y).le_toInt
  have a3 := c_lmul 2 (16 + y); rw [show (2 : Int64).toInt = 2 by decide] at a3
  have r5 := (2 * (16 + y)).toInt_lt; have r6 := (2 * (16 + y)).le_toInt
  have h3 : r < ((2 : Int64) * ((16 : Int64) + y)) := by rw [Int64.lt_iff_toInt_lt, e]; rw [e] at h2; omega
  unfold own_ab at hg
  rw [if_pos h1, if_pos h3] at hg
  have a4 := c_ladd (16 + y) r
  have r7 := (16 + y + r).toInt_lt; have r8 := (16 + y + r).le_toInt
  have a5 := c_lsub (16 + y + r) 1; rw [show (1 : Int64).toInt = 1 by decide] at a5
  have r9 := (16 + y + r - 1).toInt_lt; have r10 := (16 + y + r - 1).le_toInt
  have d := (c_ldiv (16 + y + r - 1) r r.toInt rfl (by intro q; rw [q] at h1; exact absurd h1 (by decide))).1 (by rw [e] at *; omega)
  have a6 := c_lmul ((16 + y + r - 1) / r) r
  rw [← hg, d] at a6
  have v1 : (16 + y + r - 1).toInt = y.toInt + 15 + r.toInt := by rw [e] at *; omega
  have e1 := Int.ediv_mul_le (16 + y + r - 1).toInt (show r.toInt ≠ 0 by rw [e]; omega)
  have e3 := Int.lt_ediv_add_one_mul_self (16 + y + r - 1).toInt (show 0 < r.toInt by rw [e]; omega)
  rw [Int.add_mul, Int.one_mul] at e3
  have gz : ((16 + y + r - 1).toInt / r.toInt * r.toInt) % r.toInt = 0 := Int.mul_emod_left _ _
  generalize (16 + y + r - 1).toInt / r.toInt * r.toInt = t at *
  have r11 := got.toInt_lt; have r12 := got.le_toInt
  have gt : got.toInt = t := by rw [e] at *; omega
  have a7 := c_lsub got wh
  have r13 := (got - wh).toInt_lt; have r14 := (got - wh).le_toInt
  refine ⟨own_and hk e2 (by rw [gt, ← e]; exact gz), ?_, ?_⟩
  · rw [Int64.lt_iff_toInt_lt]; rw [e] at *; omega
  · rw [Int64.lt_iff_toInt_lt]; rw [e] at *; omega
theorem own_small {r y wh got : Int64} (hp : own_P r) (hb : own_B y) (h1 : ¬ (0 : Int64) < r ∨ ¬ (r >>> ((1 : Int32) &&& 0x3f).toInt64) < wh) (hw : wh = (y + (16 : Int64))) (hg : got = own_ab r y) : got = y := by
  unfold own_ab at hg
  by_cases q : (0 : Int64) < r
  · rw [if_pos q] at hg
    rcases h1 with h1 | h1
    · exact absurd q h1
    · have h3 : ¬ r < ((2 : Int64) * ((16 : Int64) + y)) := by
        obtain ⟨b1, b2⟩ := hb
        have s1 := c_lshr r 1 1 (by decide)
        rw [Int64.lt_iff_toInt_lt, s1] at h1
        have a1 := c_ladd y 16; rw [← hw, show (16 : Int64).toInt = 16 by decide] at a1
        have a2 := c_ladd 16 y; rw [show (16 : Int64).toInt = 16 by decide] at a2
        have r1 := wh.toInt_lt; have r2 := wh.le_toInt
        have r3 := (16 + y).toInt_lt; have r4 := (16 + y).le_toInt
        have a3 := c_lmul 2 (16 + y); rw [show (2 : Int64).toInt = 2 by decide] at a3
        have r5 := (2 * (16 + y)).toInt_lt; have r6 := (2 * (16 + y)).le_toInt
        rw [Int64.lt_iff_toInt_lt]; omega
      rw [if_neg h3] at hg; exact hg
  · rw [if_neg q] at hg; exact hg
theorem d_jdk_29_method_66_0 : decode jdk_29_method_66_code 0 = .ok (.lload_n 0, 1) := by decide +kernel
theorem d_jdk_29_method_66_1 : decode jdk_29_method_66_code 1 = .ok (.lload_n 2, 1) := by decide +kernel
theorem d_jdk_29_method_66_2 : decode jdk_29_method_66_code 2 = .ok (.lcmp, 1) := by decide +kernel
theorem d_jdk_29_method_66_3 : decode jdk_29_method_66_code 3 = .ok (.ifCond .lt 7, 3) := by decide +kernel
theorem d_jdk_29_method_66_10 : decode jdk_29_method_66_code 10 = .ok (.lload_n 2, 1) := by decide +kernel
theorem d_jdk_29_method_66_6 : decode jdk_29_method_66_code 6 = .ok (.lload_n 0, 1) := by decide +kernel
theorem d_jdk_29_method_66_7 : decode jdk_29_method_66_code 7 = .ok (.goto 4, 3) := by decide +kernel
theorem d_jdk_29_method_66_11 : decode jdk_29_method_66_code 11 = .ok (.lreturn, 1) := by decide +kernel
theorem ef_rm_max (m : MethodId) (p1 : Int64) (p2 : Int64) : entryFrame m #[(.long p1), (.long p2)] 4 = mkF m 0 #[.val (.long p1), .second, .val (.long p2), .second] [] := by first | (simp [entryFrame, mkF, argsToLocals, Value.category]; done) | rfl
set_option maxRecDepth 65536 in
set_option maxHeartbeats 40000000 in
theorem rm_max (l : Launch) (Z : State) (a0 : Array Value) (hw : ∀ d ∈ tables_1, d.before a0 Z = true) (ws : List Jvm.Cond) (p1 : Int64) (p2 : Int64) (h0 : Heap) (n0 : Nat) (Z0 : n0 ≤ h0.size)  :
    MetFree l (⟨"java/lang/Math", "max", "(JJ)J"⟩ : MethodName) (head1 (Jvm.Cond.code (⟨"java/lang/Math", "max", "(JJ)J"⟩ : MethodName) jdk_29_method_66_code 4 (some .long) :: ws) ({ frames := 0, cells := 0, slots := 0, locals := 0 } : Room)) (fun zA zU => zA = #[(.long p1), (.long p2)] ∧ Z.Warmed39 zU.vm ∧ zU.heap = h0) (fun _ _ _ _ _ => True) (fun _ zU zo zW => ∃ zv zL, zo = .returned zv ∧ (own_QJ h0 n0 (if p1 < p2 then p2 else p1)) zv zW.heap zL ∧ FrameEnd zU zo zW zL ({ frames := 0, cells := 0, slots := 0, locals := 0 } : Room).cells ({ frames := 0, cells := 0, slots := 0, locals := 0 } : Room).slots) := by
  refine MetFree.of_bodySF (Jvm.Free.JP.mathPlain rfl (by decide +kernel)) hisR ?_
  intro p e s m args below meth c s₁ Bd hml0 hP hK
  obtain ⟨rfl, hZ, hh⟩ := hP
  have hx := Bd.exec
  have hby := Bd.bytes
  have hml : c.maxLocals = 4 := hml0
  have hown : s.vm.findClass "java/lang/Math" = some m.cls := findClass_of_methodNamed Bd.named
  have hnm := (name_of_methodNamed Bd.named Bd.method).1
  have X0 : Stand p l e ({ frames := 0, cells := 0, slots := 0, locals := 0 } : Room) s m #[(.long p1), (.long p2)] below meth c s₁ [] 0 0 := Stand.of_body Bd
  have e0 : s₁.heap = h0 := by rw [← hh, Bd.state]; rfl
  have N0 := Fr.nil n0
  refine own_out (Q := own_QJ h0 n0 (if p1 < p2 then p2 else p1)) ?_
  refine own_cast (ef_rm_max m p1 p2) ?_
  show own_Go p.tables e below (s₁.setTop (mkF m 0 #[.val (.long p1), .second, .val (.long p2), .second] [])) _
  obtain ⟨q, hq, sj2⟩ : ∃ (q : Int64), q = (if p1 < p2 then p2 else p1) ∧ ∀ t, Steps p.tables e below (s₁.setTop (mkF m 11 #[.val (.long p1), .second, .val (.long p2), .second] [(.long q)])) t → Steps p.tables e below (s₁.setTop (mkF m 0 #[.val (.long p1), .second, .val (.long p2), .second] [])) t := by
    by_cases j1 : p1 < p2
    · refine ⟨(p2), (if_pos j1).symm, fun t k => ?_⟩
      show Steps p.tables e below (s₁.setTop (mkF m 0 #[.val (.long p1), .second, .val (.long p2), .second] [])) _
      refine XS.lloadN X0.here hx rfl (hb hby d_jdk_29_method_66_0) rfl ?_
      show Steps p.tables e below (s₁.setTop (mkF m 1 #[.val (.long p1), .second, .val (.long p2), .second] [(.long p1)])) _
      refine XS.lloadN X0.here hx rfl (hb hby d_jdk_29_method_66_1) rfl ?_
      show Steps p.tables e below (s₁.setTop (mkF m 2 #[.val (.long p1), .second, .val (.long p2), .second] [(.long p2), (.long p1)])) _
      refine XS.lcmp X0.here hx rfl (hb hby d_jdk_29_method_66_2) rfl ?_
      show Steps p.tables e below (s₁.setTop (mkF m 3 #[.val (.long p1), .second, .val (.long p2), .second] [(.int (lcmpW p1 p2))])) _
      refine XS.ifYes X0.here hx rfl (pc0 := 3) (pc' := 10) rfl (hb hby d_jdk_29_method_66_3) rfl ((if0 _ _).trans (tlt ((lw_lt p1 p2).mpr j1)).1) (by decide) (by decide) ?_
      show Steps p.tables e below (s₁.setTop (mkF m 10 #[.val (.long p1), .second, .val (.long p2), .second] [])) _
      refine XS.lloadN X0.here hx rfl (hb hby d_jdk_29_method_66_10) rfl ?_
      show Steps p.tables e below (s₁.setTop (mkF m 11 #[.val (.long p1), .second, .val (.long p2), .second] [(.long p2)])) _
      exact k
    · refine ⟨(p1), (if_neg j1).symm, fun t k => ?_⟩
      show Steps p.tables e below (s₁.setTop (mkF m 0 #[.val (.long p1), .second, .val (.long p2), .second] [])) _
      refine XS.lloadN X0.here hx rfl (hb hby d_jdk_29_method_66_0) rfl ?_
      show Steps p.tables e below (s₁.setTop (mkF m 1 #[.val (.long p1), .second, .val (.long p2), .second] [(.long p1)])) _
      refine XS.lloadN X0.here hx rfl (hb hby d_jdk_29_method_66_1) rfl ?_
      show Steps p.tables e below (s₁.setTop (mkF m 2 #[.val (.long p1), .second, .val (.long p2), .second] [(.long p2), (.long p1)])) _
      refine XS.lcmp X0.here hx rfl (hb hby d_jdk_29_method_66_2) rfl ?_
      show Steps p.tables e below (s₁.setTop (mkF m 3 #[.val (.long p1), .second, .val (.long p2), .second] [(.int (lcmpW p1 p2))])) _
      refine XS.ifNo X0.here hx rfl (hb hby d_jdk_29_method_66_3) rfl ((if0 _ _).trans (flt (fun q => j1 ((lw_lt p1 p2).mp q))).1) ?_
      show Steps p.tables e below (s₁.setTop (mkF m 6 #[.val (.long p1), .second, .val (.long p2), .second] [])) _
      refine XS.lloadN X0.here hx rfl (hb hby d_jdk_29_method_66_6) rfl ?_
      show Steps p.tables e below (s₁.setTop (mkF m 7 #[.val (.long p1), .second, .val (.long p2), .second] [(.long p1)])) _
      refine XS.goto X0.here hx rfl (pc0 := 7) (pc' := 11) rfl (hb hby d_jdk_29_method_66_7) (by decide) (by decide) ?_
      show Steps p.tables e below (s₁.setTop (mkF m 11 #[.val (.long p1), .second, .val (.long p2), .second] [(.long p1)])) _
      exact k
  refine own_by (sj2) ?_
  show own_Go p.tables e below (s₁.setTop (mkF m 11 #[.val (.long p1), .second, .val (.long p2), .second] [(.long q)])) _
  exact own_retJ X0 hx Bd.notSynchronized Bd.returns (hb hby d_jdk_29_method_66_11) (by (try rw [e0]); exact ⟨_, rfl, N0, rfl, hq⟩) (by decide) (by decide)
theorem d_jdk_30_method_1_0 : decode jdk_30_method_1_code 0 = .ok (.aload_n 0, 1) := by decide +kernel
theorem d_jdk_30_method_1_1 : decode jdk_30_method_1_code 1 = .ok (.invokespecial 1, 3) := by decide +kernel
theorem d_jdk_30_method_1_4 : decode jdk_30_method_1_code 4 = .ok (.return_, 1) := by decide +kernel
def Q_rm_rec (Z : State) (a : Addr) (h0 : Heap) (n0 : Nat) (v : Option Value) (h : Heap) (L : List Loc) : Prop := v = none ∧ Fr n0 L ∧ h = h0
theorem ef_rm_rec (m : MethodId) (a : Addr) : entryFrame m #[(.ref a)] 1 = mkF m 0 #[.val (.ref a)] [] := by first | (simp [entryFrame, mkF, argsToLocals, Value.category]; done) | rfl
theorem pn_11 : plainName "java/lang/Record" = true := by first | (simp [plainName, overriddenIn]; done) | decide +kernel
set_option maxRecDepth 65536 in
set_option maxHeartbeats 40000000 in
theorem rm_rec (l : Launch) (Z : State) (a0 : Array Value) (hw : ∀ d ∈ tables_1, d.before a0 Z = true) (ws : List Jvm.Cond) (a : Addr) (h0 : Heap) (n0 : Nat) (Z0 : n0 ≤ h0.size)  :
    MetFree l (⟨"java/lang/Record", "<init>", "()V"⟩ : MethodName) (head1 (Jvm.Cond.code (⟨"java/lang/Record", "<init>", "()V"⟩ : MethodName) jdk_30_method_1_code 1 none :: ws) ({ frames := 1, cells := 0, slots := 0, locals := 12 } : Room)) (fun zA zU => zA = #[(.ref a)] ∧ Z.Warmed39 zU.vm ∧ zU.heap = h0) (fun _ _ _ _ _ => True) (fun _ zU zo zW => ∃ zv zL, zo = .returned zv ∧ (Q_rm_rec Z a h0 n0) zv zW.heap zL ∧ FrameEnd zU zo zW zL ({ frames := 1, cells := 0, slots := 0, locals := 12 } : Room).cells ({ frames := 1, cells := 0, slots := 0, locals := 12 } : Room).slots) := by
  refine MetFree.of_bodySF (plainFor_of_name pn_11) hisR ?_
  intro p e s m args below meth c s₁ Bd hml0 hP hK
  obtain ⟨rfl, hZ, hh⟩ := hP
  have hx := Bd.exec
  have hby := Bd.bytes
  have hml : c.maxLocals = 1 := hml0
  have hown : s.vm.findClass "java/lang/Record" = some m.cls := findClass_of_methodNamed Bd.named
  have hnm := (name_of_methodNamed Bd.named Bd.method).1
  have X0 : Stand p l e ({ frames := 1, cells := 0, slots := 0, locals := 12 } : Room) s m #[(.ref a)] below meth c s₁ [] 0 0 := Stand.of_body Bd
  have e0 : s₁.heap = h0 := by rw [← hh, Bd.state]; rfl
  have N0 := Fr.nil n0
  refine own_out (Q := Q_rm_rec Z a h0 n0) ?_
  refine own_cast (ef_rm_rec m a) ?_
  show own_Go p.tables e below (s₁.setTop (mkF m 0 #[.val (.ref a)] [])) _
  refine own_by (fun t k => XS.aloadN X0.here hx rfl (hb hby d_jdk_30_method_1_0) rfl rfl k) ?_
  show own_Go p.tables e below (s₁.setTop (mkF m 1 #[.val (.ref a)] [(.ref a)])) _
  obtain ⟨T1, X1, e1, st1⟩ := initO X0 hx hZ hown (hw _ (List.mem_of_getElem? (i := 13) rfl)) (hw _ (List.mem_of_getElem? (i := 14) rfl)) (hw _ (List.mem_of_getElem? (i := 15) rfl)) e0 (g := (mkF m 1 #[.val (.ref a)] [(.ref a)])) rfl (by rw [hml]; rfl) rfl (hb hby d_jdk_30_method_1_1) (by decide) (W := 0) (by show 2 * 0 + _ ≤ _; exact Nat.le_of_eq rfl) (by decide)
  refine own_by (st1) ?_
  show own_Go p.tables e below (T1.setTop (mkF m 4 #[.val (.ref a)] [])) _
  exact own_retV X1 hx Bd.notSynchronized Bd.returns (hb hby d_jdk_30_method_1_4) (by (try rw [e1]); exact ⟨rfl, N0, rfl⟩) (by decide) (by decide)
theorem d_prog_116_method_1_0 : decode prog_116_method_1_code 0 = .ok (.aload_n 0, 1) := by decide +kernel
theorem d_prog_116_method_1_1 : decode prog_116_method_1_code 1 = .ok (.invokespecial 1, 3) := by decide +kernel
theorem pd_14 : parseMethodDescriptor "()V" = some ⟨[], none⟩ := by decide +kernel
theorem d_prog_116_method_1_4 : decode prog_116_method_1_code 4 = .ok (.lload_n 1, 1) := by decide +kernel
theorem d_prog_116_method_1_5 : decode prog_116_method_1_code 5 = .ok (.lconst 0, 1) := by decide +kernel
theorem d_prog_116_method_1_6 : decode prog_116_method_1_code 6 = .ok (.lcmp, 1) := by decide +kernel
theorem d_prog_116_method_1_7 : decode prog_116_method_1_code 7 = .ok (.ifCond .lt 13, 3) := by decide +kernel
theorem d_prog_116_method_1_10 : decode prog_116_method_1_code 10 = .ok (.lload_n 1, 1) := by decide +kernel
theorem d_prog_116_method_1_11 : decode prog_116_method_1_code 11 = .ok (.lload_n 1, 1) := by decide +kernel
theorem d_prog_116_method_1_12 : decode prog_116_method_1_code 12 = .ok (.lconst 1, 1) := by decide +kernel
theorem d_prog_116_method_1_13 : decode prog_116_method_1_code 13 = .ok (.lsub, 1) := by decide +kernel
theorem d_prog_116_method_1_14 : decode prog_116_method_1_code 14 = .ok (.land, 1) := by decide +kernel
theorem d_prog_116_method_1_15 : decode prog_116_method_1_code 15 = .ok (.lconst 0, 1) := by decide +kernel
theorem d_prog_116_method_1_16 : decode prog_116_method_1_code 16 = .ok (.lcmp, 1) := by decide +kernel
theorem d_prog_116_method_1_17 : decode prog_116_method_1_code 17 = .ok (.ifCond .eq 17, 3) := by decide +kernel
theorem d_prog_116_method_1_34 : decode prog_116_method_1_code 34 = .ok (.aload_n 0, 1) := by decide +kernel
theorem d_prog_116_method_1_35 : decode prog_116_method_1_code 35 = .ok (.lload_n 1, 1) := by decide +kernel
theorem d_prog_116_method_1_36 : decode prog_116_method_1_code 36 = .ok (.putfield 16, 3) := by decide +kernel
theorem d_prog_116_method_1_39 : decode prog_116_method_1_code 39 = .ok (.return_, 1) := by decide +kernel
def Q_rm_new (Z : State) (a : Addr) (r : Int64) (h0 : Heap) (n0 : Nat) (v : Option Value) (h : Heap) (L : List Loc) : Prop := v = none ∧ Fr n0 L ∧ Keep h0 h [a] ∧ Fld Z h a "com/example/tidemark/tidemark/service/HeapRegions" "regionBytes" "J" (.long r)
theorem ef_rm_new (m : MethodId) (a : Addr) (r : Int64) : entryFrame m #[(.ref a), (.long r)] 3 = mkF m 0 #[.val (.ref a), .val (.long r), .second] [] := by first | (simp [entryFrame, mkF, argsToLocals, Value.category]; done) | rfl
theorem pn_31 : plainName "com/example/tidemark/tidemark/service/HeapRegions" = true := by first | (simp [plainName, overriddenIn]; done) | decide +kernel
set_option maxRecDepth 65536 in
set_option maxHeartbeats 40000000 in
theorem rm_new (l : Launch) (Z : State) (a0 : Array Value) (hw : ∀ d ∈ tables_1, d.before a0 Z = true) (ws : List Jvm.Cond) (a : Addr) (r : Int64) (h0 : Heap) (n0 : Nat) (Z0 : n0 ≤ h0.size) (F_a : Fld Z h0 a "com/example/tidemark/tidemark/service/HeapRegions" "regionBytes" "J" (.long (0 : Int64))) (E_a : Exa Z h0 a "com/example/tidemark/tidemark/service/HeapRegions") (g_a : n0 ≤ a) (hr0 : ¬ r < (0 : Int64)) (hr1 : (r &&& (r - (1 : Int64))) = (0 : Int64)) :
    MetFree l (⟨"com/example/tidemark/tidemark/service/HeapRegions", "<init>", "(J)V"⟩ : MethodName) (head1 (Jvm.Cond.code (⟨"com/example/tidemark/tidemark/service/HeapRegions", "<init>", "(J)V"⟩ : MethodName) prog_116_method_1_code 3 none :: ws) ({ frames := 2, cells := 0, slots := 0, locals := 24 } : Room)) (fun zA zU => zA = #[(.ref a), (.long r)] ∧ Z.Warmed39 zU.vm ∧ zU.heap = h0) (fun _ _ _ _ _ => True) (fun _ zU zo zW => ∃ zv zL, zo = .returned zv ∧ (Q_rm_new Z a r h0 n0) zv zW.heap zL ∧ FrameEnd zU zo zW zL ({ frames := 2, cells := 0, slots := 0, locals := 24 } : Room).cells ({ frames := 2, cells := 0, slots := 0, locals := 24 } : Room).slots) := by
  refine MetFree.of_bodySF (plainFor_of_name pn_31) hisR ?_
  intro p e s m args below meth c s₁ Bd hml0 hP hK
  obtain ⟨rfl, hZ, hh⟩ := hP
  have hx := Bd.exec
  have hby := Bd.bytes
  have hml : c.maxLocals = 3 := hml0
  have hown : s.vm.findClass "com/example/tidemark/tidemark/service/HeapRegions" = some m.cls := findClass_of_methodNamed Bd.named
  have hnm := (name_of_methodNamed Bd.named Bd.method).1
  have X0 : Stand p l e ({ frames := 2, cells := 0, slots := 0, locals := 24 } : Room) s m #[(.ref a), (.long r)] below meth c s₁ [] 0 0 := Stand.of_body Bd
  have e0 : s₁.heap = h0 := by rw [← hh, Bd.state]; rfl
  have N0 := Fr.nil n0
  refine own_out (Q := Q_rm_new Z a r h0 n0) ?_
  refine own_cast (ef_rm_new m a r) ?_
  show own_Go p.tables e below (s₁.setTop (mkF m 0 #[.val (.ref a), .val (.long r), .second] [])) _
  refine own_by (fun t k => XS.aloadN X0.here hx rfl (hb hby d_prog_116_method_1_0) rfl rfl k) ?_
  show own_Go p.tables e below (s₁.setTop (mkF m 1 #[.val (.ref a), .val (.long r), .second] [(.ref a)])) _
  obtain ⟨_, _, ⟨T1, L1, k1, n1⟩, -, X1, ⟨Lc1, hQ1, l1, y1, z1⟩, st1⟩ := X0.specialBack hx (y := (⟨"java/lang/Record", "<init>", "()V"⟩ : MethodName)) rfl hown (mvT hZ (hw _ (List.mem_of_getElem? (i := 8) rfl))) (mvT hZ (hw _ (List.mem_of_getElem? (i := 9) rfl))) (mvT hZ (hw _ (List.mem_of_getElem? (i := 12) rfl))) (by decide) (backOf (W := 0) (rm_rec l Z a0 hw [] a  h0 n0 (Nat.le_trans Z0 (Keep.refl h0 [a]).1) ) hZ (hw _ (List.mem_of_getElem? (i := 12) rfl)) (hw _ (List.mem_of_getElem? (i := 11) rfl)) (by decide) (by decide)) (g := (mkF m 1 #[.val (.ref a), .val (.long r), .second] [(.ref a)])) rfl (by rw [hml]; rfl) (Steps.refl _) (a := a) (argsL := []) (rest := []) (lenOf pd_14 rfl) rfl (by show 2 * 0 + _ ≤ _; exact Nat.le_of_eq rfl) (hb hby d_prog_116_method_1_1) (fun _ _ => ⟨rfl, e0, (by decide : 0 + 0 ≤ _), (by decide : 0 + 0 ≤ _)⟩)
  dsimp only [Pt.U, Pt.locs, Pt.cells, Pt.slots] at X1 l1 y1 z1 st1 hQ1
  subst l1 y1 z1
  obtain ⟨rfl, N1q, eh1⟩ := hQ1
  have N1 := Fr.app N0 N1q
  refine own_tr st1 ?_
  show own_Go p.tables e below (T1.setTop (mkF m 4 #[.val (.ref a), .val (.long r), .second] [])) _
  refine own_by (fun t k => XS.lloadN X1.here hx rfl (hb hby d_prog_116_method_1_4) rfl k) ?_
  show own_Go p.tables e below (T1.setTop (mkF m 5 #[.val (.ref a), .val (.long r), .second] [(.long r)])) _
  refine own_by (fun t k => XS.lconst X1.here hx rfl (hb hby d_prog_116_method_1_5) k) ?_
  show own_Go p.tables e below (T1.setTop (mkF m 6 #[.val (.ref a), .val (.long r), .second] [(.long (0 : Int64)), (.long r)])) _
  refine own_by (fun t k => XS.lcmp X1.here hx rfl (hb hby d_prog_116_method_1_6) rfl k) ?_
  show own_Go p.tables e below (T1.setTop (mkF m 7 #[.val (.ref a), .val (.long r), .second] [(.int (lcmpW r (0 : Int64)))])) _
  refine own_by (fun t k => XS.ifNo X1.here hx rfl (hb hby d_prog_116_method_1_7) rfl ((if0 _ _).trans (flt (fun q => hr0 ((lw_lt r (0 : Int64)).mp q))).1) k) ?_
  show own_Go p.tables e below (T1.setTop (mkF m 10 #[.val (.ref a), .val (.long r), .second] [])) _
  refine own_by (fun t k => XS.lloadN X1.here hx rfl (hb hby d_prog_116_method_1_10) rfl k) ?_
  show own_Go p.tables e below (T1.setTop (mkF m 11 #[.val (.ref a), .val (.long r), .second] [(.long r)])) _
  refine own_by (fun t k => XS.lloadN X1.here hx rfl (hb hby d_prog_116_method_1_11) rfl k) ?_
  show own_Go p.tables e below (T1.setTop (mkF m 12 #[.val (.ref a), .val (.long r), .second] [(.long r), (.long r)])) _
  refine own_by (fun t k => XS.lconst X1.here hx rfl (hb hby d_prog_116_method_1_12) k) ?_
  show own_Go p.tables e below (T1.setTop (mkF m 13 #[.val (.ref a), .val (.long r), .second] [(.long (1 : Int64)), (.long r), (.long r)])) _
  refine own_by (fun t k => XS.lsub X1.here hx rfl (hb hby d_prog_116_method_1_13) rfl k) ?_
  show own_Go p.tables e below (T1.setTop (mkF m 14 #[.val (.ref a), .val (.long r), .second] [(.long (r - (1 : Int64))), (.long r)])) _
  refine own_by (fun t k => XS.land X1.here hx rfl (hb hby d_prog_116_method_1_14) rfl k) ?_
  show own_Go p.tables e below (T1.setTop (mkF m 15 #[.val (.ref a), .val (.long r), .second] [(.long (r &&& (r - (1 : Int64))))])) _
  refine own_by (fun t k => XS.lconst X1.here hx rfl (hb hby d_prog_116_method_1_15) k) ?_
  show own_Go p.tables e below (T1.setTop (mkF m 16 #[.val (.ref a), .val (.long r), .second] [(.long (0 : Int64)), (.long (r &&& (r - (1 : Int64))))])) _
  refine own_by (fun t k => XS.lcmp X1.here hx rfl (hb hby d_prog_116_method_1_16) rfl k) ?_
  show own_Go p.tables e below (T1.setTop (mkF m 17 #[.val (.ref a), .val (.long r), .second] [(.int (lcmpW (r &&& (r - (1 : Int64))) (0 : Int64)))])) _
  refine own_by (fun t k => XS.ifYes X1.here hx rfl (pc0 := 17) (pc' := 34) rfl (hb hby d_prog_116_method_1_17) rfl ((if0 _ _).trans (teq ((lw_eq (r &&& (r - (1 : Int64))) (0 : Int64)).mpr hr1)).1) (by decide) (by decide) k) ?_
  show own_Go p.tables e below (T1.setTop (mkF m 34 #[.val (.ref a), .val (.long r), .second] [])) _
  refine own_by (fun t k => XS.aloadN X1.here hx rfl (hb hby d_prog_116_method_1_34) rfl rfl k) ?_
  show own_Go p.tables e below (T1.setTop (mkF m 35 #[.val (.ref a), .val (.long r), .second] [(.ref a)])) _
  refine own_by (fun t k => XS.lloadN X1.here hx rfl (hb hby d_prog_116_method_1_35) rfl k) ?_
  show own_Go p.tables e below (T1.setTop (mkF m 36 #[.val (.ref a), .val (.long r), .second] [(.long r), (.ref a)])) _
  obtain ⟨T2, hea2, X2, e2, W2, st2⟩ := putF X1 hx hZ hown (host := "") (Or.inl (hw _ (List.mem_of_getElem? (i := 16) rfl))) Via.refl eh1 F_a E_a (Or.inr ⟨(hw _ (List.mem_of_getElem? (i := 17) rfl)), rfl, hnm⟩) (hw _ (List.mem_of_getElem? (i := 3) rfl)) (ty := .long) (by decide) rfl rfl (g := (mkF m 36 #[.val (.ref a), .val (.long r), .second] [(.long r), (.ref a)])) rfl rfl (hb hby d_prog_116_method_1_36)
  have Fw2 := (F_a).same W2
  have N2 := Fr.snoc X2 N1 g_a
  have K2 : Keep h0 hea2 [a] := (Keep.refl h0 [a]).wr W2 (Or.inl (List.mem_of_getElem? (i := 0) rfl))
  refine own_by (st2) ?_
  show own_Go p.tables e below (T2.setTop (mkF m 39 #[.val (.ref a), .val (.long r), .second] [])) _
  exact own_retV X2 hx Bd.notSynchronized Bd.returns (hb hby d_prog_116_method_1_39) (by (try rw [e2]); exact ⟨rfl, N2, K2, Fw2⟩) (by decide) (by decide)
theorem d_prog_116_method_4_0 : decode prog_116_method_4_code 0 = .ok (.ldc2_w 63, 3) := by decide +kernel
theorem d_prog_116_method_4_3 : decode prog_116_method_4_code 3 = .ok (.lload_n 1, 1) := by decide +kernel
theorem d_prog_116_method_4_4 : decode prog_116_method_4_code 4 = .ok (.ladd, 1) := by decide +kernel
theorem d_prog_116_method_4_5 : decode prog_116_method_4_code 5 = .ok (.lstore_n 3, 1) := by decide +kernel
theorem d_prog_116_method_4_6 : decode prog_116_method_4_code 6 = .ok (.lload_n 1, 1) := by decide +kernel
theorem d_prog_116_method_4_7 : decode prog_116_method_4_code 7 = .ok (.lstore 5, 2) := by decide +kernel
theorem d_prog_116_method_4_9 : decode prog_116_method_4_code 9 = .ok (.aload_n 0, 1) := by decide +kernel
theorem d_prog_116_method_4_10 : decode prog_116_method_4_code 10 = .ok (.getfield 16, 3) := by decide +kernel
theorem d_prog_116_method_4_13 : decode prog_116_method_4_code 13 = .ok (.lconst 0, 1) := by decide +kernel
theorem d_prog_116_method_4_14 : decode prog_116_method_4_code 14 = .ok (.lcmp, 1) := by decide +kernel
theorem d_prog_116_method_4_15 : decode prog_116_method_4_code 15 = .ok (.ifCond .le 36, 3) := by decide +kernel
theorem d_prog_116_method_4_18 : decode prog_116_method_4_code 18 = .ok (.ldc2_w 65, 3) := by decide +kernel
theorem d_prog_116_method_4_21 : decode prog_116_method_4_code 21 = .ok (.lload_n 3, 1) := by decide +kernel
theorem d_prog_116_method_4_22 : decode prog_116_method_4_code 22 = .ok (.lmul, 1) := by decide +kernel
theorem d_prog_116_method_4_23 : decode prog_116_method_4_code 23 = .ok (.aload_n 0, 1) := by decide +kernel
theorem d_prog_116_method_4_24 : decode prog_116_method_4_code 24 = .ok (.getfield 16, 3) := by decide +kernel
theorem d_prog_116_method_4_27 : decode prog_116_method_4_code 27 = .ok (.lcmp, 1) := by decide +kernel
theorem d_prog_116_method_4_28 : decode prog_116_method_4_code 28 = .ok (.ifCond .le 23, 3) := by decide +kernel
theorem d_prog_116_method_4_31 : decode prog_116_method_4_code 31 = .ok (.lload_n 3, 1) := by decide +kernel
theorem d_prog_116_method_4_32 : decode prog_116_method_4_code 32 = .ok (.aload_n 0, 1) := by decide +kernel
theorem d_prog_116_method_4_33 : decode prog_116_method_4_code 33 = .ok (.getfield 16, 3) := by decide +kernel
theorem d_prog_116_method_4_36 : decode prog_116_method_4_code 36 = .ok (.ladd, 1) := by decide +kernel
theorem d_prog_116_method_4_37 : decode prog_116_method_4_code 37 = .ok (.lconst 1, 1) := by decide +kernel
theorem d_prog_116_method_4_38 : decode prog_116_method_4_code 38 = .ok (.lsub, 1) := by decide +kernel
theorem d_prog_116_method_4_39 : decode prog_116_method_4_code 39 = .ok (.aload_n 0, 1) := by decide +kernel
theorem d_prog_116_method_4_40 : decode prog_116_method_4_code 40 = .ok (.getfield 16, 3) := by decide +kernel
theorem d_prog_116_method_4_43 : decode prog_116_method_4_code 43 = .ok (.ldiv, 1) := by decide +kernel
theorem d_prog_116_method_4_44 : decode prog_116_method_4_code 44 = .ok (.aload_n 0, 1) := by decide +kernel
theorem d_prog_116_method_4_45 : decode prog_116_method_4_code 45 = .ok (.getfield 16, 3) := by decide +kernel
theorem d_prog_116_method_4_48 : decode prog_116_method_4_code 48 = .ok (.lmul, 1) := by decide +kernel
theorem d_prog_116_method_4_49 : decode prog_116_method_4_code 49 = .ok (.lstore 5, 2) := by decide +kernel
theorem d_prog_116_method_4_51 : decode prog_116_method_4_code 51 = .ok (.lload 5, 2) := by decide +kernel
theorem d_prog_116_method_4_53 : decode prog_116_method_4_code 53 = .ok (.lreturn, 1) := by decide +kernel
theorem ef_rm_ab (m : MethodId) (a : Addr) (y : Int64) : entryFrame m #[(.ref a), (.long y)] 7 = mkF m 0 #[.val (.ref a), .val (.long y), .second, .unset, .unset, .unset, .unset] [] := by first | (simp [entryFrame, mkF, argsToLocals, Value.category]; done) | rfl
set_option maxRecDepth 65536 in
set_option maxHeartbeats 40000000 in
theorem rm_ab (l : Launch) (Z : State) (a0 : Array Value) (hw : ∀ d ∈ tables_1, d.before a0 Z = true) (ws : List Jvm.Cond) (a : Addr) (y : Int64) (r : Int64) (h0 : Heap) (n0 : Nat) (Z0 : n0 ≤ h0.size) (F_a : Fld Z h0 a "com/example/tidemark/tidemark/service/HeapRegions" "regionBytes" "J" (.long r)) :
    MetFree l (⟨"com/example/tidemark/tidemark/service/HeapRegions", "arrayBytes", "(J)J"⟩ : MethodName) (head1 (Jvm.Cond.code (⟨"com/example/tidemark/tidemark/service/HeapRegions", "arrayBytes", "(J)J"⟩ : MethodName) prog_116_method_4_code 7 (some .long) :: ws) ({ frames := 0, cells := 0, slots := 0, locals := 0 } : Room)) (fun zA zU => zA = #[(.ref a), (.long y)] ∧ Z.Warmed39 zU.vm ∧ zU.heap = h0) (fun _ _ _ _ _ => True) (fun _ zU zo zW => ∃ zv zL, zo = .returned zv ∧ (own_QJ h0 n0 (own_ab r y)) zv zW.heap zL ∧ FrameEnd zU zo zW zL ({ frames := 0, cells := 0, slots := 0, locals := 0 } : Room).cells ({ frames := 0, cells := 0, slots := 0, locals := 0 } : Room).slots) := by
  refine MetFree.of_bodySF (plainFor_of_name pn_31) hisR ?_
  intro p e s m args below meth c s₁ Bd hml0 hP hK
  obtain ⟨rfl, hZ, hh⟩ := hP
  have hx := Bd.exec
  have hby := Bd.bytes
  have hml : c.maxLocals = 7 := hml0
  have hown : s.vm.findClass "com/example/tidemark/tidemark/service/HeapRegions" = some m.cls := findClass_of_methodNamed Bd.named
  have hnm := (name_of_methodNamed Bd.named Bd.method).1
  have X0 : Stand p l e ({ frames := 0, cells := 0, slots := 0, locals := 0 } : Room) s m #[(.ref a), (.long y)] below meth c s₁ [] 0 0 := Stand.of_body Bd
  have e0 : s₁.heap = h0 := by rw [← hh, Bd.state]; rfl
  have N0 := Fr.nil n0
  refine own_out (Q := own_QJ h0 n0 (own_ab r y)) ?_
  refine own_cast (ef_rm_ab m a y) ?_
  show own_Go p.tables e below (s₁.setTop (mkF m 0 #[.val (.ref a), .val (.long y), .second, .unset, .unset, .unset, .unset] [])) _
  refine own_by (X0.ldc2Long hx hown (mvT hZ (hw _ (List.mem_of_getElem? (i := 23) rfl))) (g := (mkF m 0 #[.val (.ref a), .val (.long y), .second, .unset, .unset, .unset, .unset] [])) rfl (hb hby d_prog_116_method_4_0)) ?_
  show own_Go p.tables e below (s₁.setTop (mkF m 3 #[.val (.ref a), .val (.long y), .second, .unset, .unset, .unset, .unset] [(.long (16 : Int64))])) _
  refine own_by (fun t k => XS.lloadN X0.here hx rfl (hb hby d_prog_116_method_4_3) rfl k) ?_
  show own_Go p.tables e below (s₁.setTop (mkF m 4 #[.val (.ref a), .val (.long y), .second, .unset, .unset, .unset, .unset] [(.long y), (.long (16 : Int64))])) _
  refine own_by (fun t k => XS.ladd X0.here hx rfl (hb hby d_prog_116_method_4_4) rfl k) ?_
  show own_Go p.tables e below (s₁.setTop (mkF m 5 #[.val (.ref a), .val (.long y), .second, .unset, .unset, .unset, .unset] [(.long ((16 : Int64) + y))])) _
  refine own_by (fun t k => XS.lstoreN X0.here hx rfl (hb hby d_prog_116_method_4_5) rfl (l' := #[.val (.ref a), .val (.long y), .second, .val (.long ((16 : Int64) + y)), .second, .unset, .unset]) rfl k) ?_
  show own_Go p.tables e below (s₁.setTop (mkF m 6 #[.val (.ref a), .val (.long y), .second, .val (.long ((16 : Int64) + y)), .second, .unset, .unset] [])) _
  refine own_by (fun t k => XS.lloadN X0.here hx rfl (hb hby d_prog_116_method_4_6) rfl k) ?_
  show own_Go p.tables e below (s₁.setTop (mkF m 7 #[.val (.ref a), .val (.long y), .second, .val (.long ((16 : Int64) + y)), .second, .unset, .unset] [(.long y)])) _
  refine own_by (fun t k => XS.lstore X0.here hx rfl (hb hby d_prog_116_method_4_7) rfl (l' := #[.val (.ref a), .val (.long y), .second, .val (.long ((16 : Int64) + y)), .second, .val (.long y), .second]) rfl k) ?_
  show own_Go p.tables e below (s₁.setTop (mkF m 9 #[.val (.ref a), .val (.long y), .second, .val (.long ((16 : Int64) + y)), .second, .val (.long y), .second] [])) _
  refine own_by (fun t k => XS.aloadN X0.here hx rfl (hb hby d_prog_116_method_4_9) rfl rfl k) ?_
  show own_Go p.tables e below (s₁.setTop (mkF m 10 #[.val (.ref a), .val (.long y), .second, .val (.long ((16 : Int64) + y)), .second, .val (.long y), .second] [(.ref a)])) _
  obtain ⟨T1, X1, e1, st1⟩ := getF X0 hx hZ hown (host := "") (Or.inl (hw _ (List.mem_of_getElem? (i := 16) rfl))) Via.refl e0 F_a (g := (mkF m 10 #[.val (.ref a), .val (.long y), .second, .val (.long ((16 : Int64) + y)), .second, .val (.long y), .second] [(.ref a)])) rfl rfl (hb hby d_prog_116_method_4_10)
  refine own_by (st1) ?_
  show own_Go p.tables e below (T1.setTop (mkF m 13 #[.val (.ref a), .val (.long y), .second, .val (.long ((16 : Int64) + y)), .second, .val (.long y), .second] [(.long r)])) _
  refine own_by (fun t k => XS.lconst X1.here hx rfl (hb hby d_prog_116_method_4_13) k) ?_
  show own_Go p.tables e below (T1.setTop (mkF m 14 #[.val (.ref a), .val (.long y), .second, .val (.long ((16 : Int64) + y)), .second, .val (.long y), .second] [(.long (0 : Int64)), (.long r)])) _
  refine own_by (fun t k => XS.lcmp X1.here hx rfl (hb hby d_prog_116_method_4_14) rfl k) ?_
  show own_Go p.tables e below (T1.setTop (mkF m 15 #[.val (.ref a), .val (.long y), .second, .val (.long ((16 : Int64) + y)), .second, .val (.long y), .second] [(.int (lcmpW r (0 : Int64)))])) _
  by_cases h1 : (0 : Int64) < r
  · refine own_by (fun t k => XS.ifNo X1.here hx rfl (hb hby d_prog_116_method_4_15) rfl ((if0 _ _).trans (tlt ((lw_gt r (0 : Int64)).mpr h1)).2.2.2) k) ?_
    show own_Go p.tables e below (T1.setTop (mkF m 18 #[.val (.ref a), .val (.long y), .second, .val (.long ((16 : Int64) + y)), .second, .val (.long y), .second] [])) _
    refine own_by (X1.ldc2Long hx hown (mvT hZ (hw _ (List.mem_of_getElem? (i := 24) rfl))) (g := (mkF m 18 #[.val (.ref a), .val (.long y), .second, .val (.long ((16 : Int64) + y)), .second, .val (.long y), .second] [])) rfl (hb hby d_prog_116_method_4_18)) ?_
    show own_Go p.tables e below (T1.setTop (mkF m 21 #[.val (.ref a), .val (.long y), .second, .val (.long ((16 : Int64) + y)), .second, .val (.long y), .second] [(.long (2 : Int64))])) _
    refine own_by (fun t k => XS.lloadN X1.here hx rfl (hb hby d_prog_116_method_4_21) rfl k) ?_
    show own_Go p.tables e below (T1.setTop (mkF m 22 #[.val (.ref a), .val (.long y), .second, .val (.long ((16 : Int64) + y)), .second, .val (.long y), .second] [(.long ((16 : Int64) + y)), (.long (2 : Int64))])) _
    refine own_by (fun t k => XS.lmul X1.here hx rfl (hb hby d_prog_116_method_4_22) rfl k) ?_
    show own_Go p.tables e below (T1.setTop (mkF m 23 #[.val (.ref a), .val (.long y), .second, .val (.long ((16 : Int64) + y)), .second, .val (.long y), .second] [(.long ((2 : Int64) * ((16 : Int64) + y)))])) _
    refine own_by (fun t k => XS.aloadN X1.here hx rfl (hb hby d_prog_116_method_4_23) rfl rfl k) ?_
    show own_Go p.tables e below (T1.setTop (mkF m 24 #[.val (.ref a), .val (.long y), .second, .val (.long ((16 : Int64) + y)), .second, .val (.long y), .second] [(.ref a), (.long ((2 : Int64) * ((16 : Int64) + y)))])) _
    obtain ⟨T2, X2, e2, st2⟩ := getF X1 hx hZ hown (host := "") (Or.inl (hw _ (List.mem_of_getElem? (i := 16) rfl))) Via.refl e1 F_a (g := (mkF m 24 #[.val (.ref a), .val (.long y), .second, .val (.long ((16 : Int64) + y)), .second, .val (.long y), .second] [(.ref a), (.long ((2 : Int64) * ((16 : Int64) + y)))])) rfl rfl (hb hby d_prog_116_method_4_24)
    refine own_by (st2) ?_
    show own_Go p.tables e below (T2.setTop (mkF m 27 #[.val (.ref a), .val (.long y), .second, .val (.long ((16 : Int64) + y)), .second, .val (.long y), .second] [(.long r), (.long ((2 : Int64) * ((16 : Int64) + y)))])) _
    refine own_by (fun t k => XS.lcmp X2.here hx rfl (hb hby d_prog_116_method_4_27) rfl k) ?_
    show own_Go p.tables e below (T2.setTop (mkF m 28 #[.val (.ref a), .val (.long y), .second, .val (.long ((16 : Int64) + y)), .second, .val (.long y), .second] [(.int (lcmpW ((2 : Int64) * ((16 : Int64) + y)) r))])) _
    by_cases h2 : r < ((2 : Int64) * ((16 : Int64) + y))
    · refine own_by (fun t k => XS.ifNo X2.here hx rfl (hb hby d_prog_116_method_4_28) rfl ((if0 _ _).trans (tlt ((lw_gt ((2 : Int64) * ((16 : Int64) + y)) r).mpr h2)).2.2.2) k) ?_
      show own_Go p.tables e below (T2.setTop (mkF m 31 #[.val (.ref a), .val (.long y), .second, .val (.long ((16 : Int64) + y)), .second, .val (.long y), .second] [])) _
      refine own_by (fun t k => XS.lloadN X2.here hx rfl (hb hby d_prog_116_method_4_31) rfl k) ?_
      show own_Go p.tables e below (T2.setTop (mkF m 32 #[.val (.ref a), .val (.long y), .second, .val (.long ((16 : Int64) + y)), .second, .val (.long y), .second] [(.long ((16 : Int64) + y))])) _
      refine own_by (fun t k => XS.aloadN X2.here hx rfl (hb hby d_prog_116_method_4_32) rfl rfl k) ?_
      show own_Go p.tables e below (T2.setTop (mkF m 33 #[.val (.ref a), .val (.long y), .second, .val (.long ((16 : Int64) + y)), .second, .val (.long y), .second] [(.ref a), (.long ((16 : Int64) + y))])) _
      obtain ⟨T3, X3, e3, st3⟩ := getF X2 hx hZ hown (host := "") (Or.inl (hw _ (List.mem_of_getElem? (i := 16) rfl))) Via.refl e2 F_a (g := (mkF m 33 #[.val (.ref a), .val (.long y), .second, .val (.long ((16 : Int64) + y)), .second, .val (.long y), .second] [(.ref a), (.long ((16 : Int64) + y))])) rfl rfl (hb hby d_prog_116_method_4_33)
      refine own_by (st3) ?_
      show own_Go p.tables e below (T3.setTop (mkF m 36 #[.val (.ref a), .val (.long y), .second, .val (.long ((16 : Int64) + y)), .second, .val (.long y), .second] [(.long r), (.long ((16 : Int64) + y))])) _
      refine own_by (fun t k => XS.ladd X3.here hx rfl (hb hby d_prog_116_method_4_36) rfl k) ?_
      show own_Go p.tables e below (T3.setTop (mkF m 37 #[.val (.ref a), .val (.long y), .second, .val (.long ((16 : Int64) + y)), .second, .val (.long y), .second] [(.long (((16 : Int64) + y) + r))])) _
      refine own_by (fun t k => XS.lconst X3.here hx rfl (hb hby d_prog_116_method_4_37) k) ?_
      show own_Go p.tables e below (T3.setTop (mkF m 38 #[.val (.ref a), .val (.long y), .second, .val (.long ((16 : Int64) + y)), .second, .val (.long y), .second] [(.long (1 : Int64)), (.long (((16 : Int64) + y) + r))])) _
      refine own_by (fun t k => XS.lsub X3.here hx rfl (hb hby d_prog_116_method_4_38) rfl k) ?_
      show own_Go p.tables e below (T3.setTop (mkF m 39 #[.val (.ref a), .val (.long y), .second, .val (.long ((16 : Int64) + y)), .second, .val (.long y), .second] [(.long ((((16 : Int64) + y) + r) - (1 : Int64)))])) _
      refine own_by (fun t k => XS.aloadN X3.here hx rfl (hb hby d_prog_116_method_4_39) rfl rfl k) ?_
      show own_Go p.tables e below (T3.setTop (mkF m 40 #[.val (.ref a), .val (.long y), .second, .val (.long ((16 : Int64) + y)), .second, .val (.long y), .second] [(.ref a), (.long ((((16 : Int64) + y) + r) - (1 : Int64)))])) _
      obtain ⟨T4, X4, e4, st4⟩ := getF X3 hx hZ hown (host := "") (Or.inl (hw _ (List.mem_of_getElem? (i := 16) rfl))) Via.refl e3 F_a (g := (mkF m 40 #[.val (.ref a), .val (.long y), .second, .val (.long ((16 : Int64) + y)), .second, .val (.long y), .second] [(.ref a), (.long ((((16 : Int64) + y) + r) - (1 : Int64)))])) rfl rfl (hb hby d_prog_116_method_4_40)
      refine own_by (st4) ?_
      show own_Go p.tables e below (T4.setTop (mkF m 43 #[.val (.ref a), .val (.long y), .second, .val (.long ((16 : Int64) + y)), .second, .val (.long y), .second] [(.long r), (.long ((((16 : Int64) + y) + r) - (1 : Int64)))])) _
      refine own_by (fun t k => XS.ldiv X4.here hx rfl (hb hby d_prog_116_method_4_43) rfl (own_nz h1) k) ?_
      show own_Go p.tables e below (T4.setTop (mkF m 44 #[.val (.ref a), .val (.long y), .second, .val (.long ((16 : Int64) + y)), .second, .val (.long y), .second] [(.long (((((16 : Int64) + y) + r) - (1 : Int64)) / r))])) _
      refine own_by (fun t k => XS.aloadN X4.here hx rfl (hb hby d_prog_116_method_4_44) rfl rfl k) ?_
      show own_Go p.tables e below (T4.setTop (mkF m 45 #[.val (.ref a), .val (.long y), .second, .val (.long ((16 : Int64) + y)), .second, .val (.long y), .second] [(.ref a), (.long (((((16 : Int64) + y) + r) - (1 : Int64)) / r))])) _
      obtain ⟨T5, X5, e5, st5⟩ := getF X4 hx hZ hown (host := "") (Or.inl (hw _ (List.mem_of_getElem? (i := 16) rfl))) Via.refl e4 F_a (g := (mkF m 45 #[.val (.ref a), .val (.long y), .second, .val (.long ((16 : Int64) + y)), .second, .val (.long y), .second] [(.ref a), (.long (((((16 : Int64) + y) + r) - (1 : Int64)) / r))])) rfl rfl (hb hby d_prog_116_method_4_45)
      refine own_by (st5) ?_
      show own_Go p.tables e below (T5.setTop (mkF m 48 #[.val (.ref a), .val (.long y), .second, .val (.long ((16 : Int64) + y)), .second, .val (.long y), .second] [(.long r), (.long (((((16 : Int64) + y) + r) - (1 : Int64)) / r))])) _
      refine own_by (fun t k => XS.lmul X5.here hx rfl (hb hby d_prog_116_method_4_48) rfl k) ?_
      show own_Go p.tables e below (T5.setTop (mkF m 49 #[.val (.ref a), .val (.long y), .second, .val (.long ((16 : Int64) + y)), .second, .val (.long y), .second] [(.long ((((((16 : Int64) + y) + r) - (1 : Int64)) / r) * r))])) _
      refine own_by (fun t k => XS.lstore X5.here hx rfl (hb hby d_prog_116_method_4_49) rfl (l' := #[.val (.ref a), .val (.long y), .second, .val (.long ((16 : Int64) + y)), .second, .val (.long ((((((16 : Int64) + y) + r) - (1 : Int64)) / r) * r)), .second]) rfl k) ?_
      show own_Go p.tables e below (T5.setTop (mkF m 51 #[.val (.ref a), .val (.long y), .second, .val (.long ((16 : Int64) + y)), .second, .val (.long ((((((16 : Int64) + y) + r) - (1 : Int64)) / r) * r)), .second] [])) _
      refine own_by (fun t k => XS.lload X5.here hx rfl (hb hby d_prog_116_method_4_51) rfl k) ?_
      show own_Go p.tables e below (T5.setTop (mkF m 53 #[.val (.ref a), .val (.long y), .second, .val (.long ((16 : Int64) + y)), .second, .val (.long ((((((16 : Int64) + y) + r) - (1 : Int64)) / r) * r)), .second] [(.long ((((((16 : Int64) + y) + r) - (1 : Int64)) / r) * r))])) _
      exact own_retJ X5 hx Bd.notSynchronized Bd.returns (hb hby d_prog_116_method_4_53) (by (try rw [e5]); exact ⟨_, rfl, N0, rfl, ((if_pos h1).trans (if_pos h2)).symm⟩) (by decide) (by decide)
    · refine own_by (fun t k => XS.ifYes X2.here hx rfl (pc0 := 28) (pc' := 51) rfl (hb hby d_prog_116_method_4_28) rfl ((if0 _ _).trans (flt (fun q => h2 ((lw_gt ((2 : Int64) * ((16 : Int64) + y)) r).mp q))).2.2.2) (by decide) (by decide) k) ?_
      show own_Go p.tables e below (T2.setTop (mkF m 51 #[.val (.ref a), .val (.long y), .second, .val (.long ((16 : Int64) + y)), .second, .val (.long y), .second] [])) _
      refine own_by (fun t k => XS.lload X2.here hx rfl (hb hby d_prog_116_method_4_51) rfl k) ?_
      show own_Go p.tables e below (T2.setTop (mkF m 53 #[.val (.ref a), .val (.long y), .second, .val (.long ((16 : Int64) + y)), .second, .val (.long y), .second] [(.long y)])) _
      exact own_retJ X2 hx Bd.notSynchronized Bd.returns (hb hby d_prog_116_method_4_53) (by (try rw [e2]); exact ⟨_, rfl, N0, rfl, ((if_pos h1).trans (if_neg h2)).symm⟩) (by decide) (by decide)
  · refine own_by (fun t k => XS.ifYes X1.here hx rfl (pc0 := 15) (pc' := 51) rfl (hb hby d_prog_116_method_4_15) rfl ((if0 _ _).trans (flt (fun q => h1 ((lw_gt r (0 : Int64)).mp q))).2.2.2) (by decide) (by decide) k) ?_
    show own_Go p.tables e below (T1.setTop (mkF m 51 #[.val (.ref a), .val (.long y), .second, .val (.long ((16 : Int64) + y)), .second, .val (.long y), .second] [])) _
    refine own_by (fun t k => XS.lload X1.here hx rfl (hb hby d_prog_116_method_4_51) rfl k) ?_
    show own_Go p.tables e below (T1.setTop (mkF m 53 #[.val (.ref a), .val (.long y), .second, .val (.long ((16 : Int64) + y)), .second, .val (.long y), .second] [(.long y)])) _
    exact own_retJ X1 hx Bd.notSynchronized Bd.returns (hb hby d_prog_116_method_4_53) (by (try rw [e1]); exact ⟨_, rfl, N0, rfl, (if_neg h1).symm⟩) (by decide) (by decide)
theorem pd_65 : parseMethodDescriptor "(J)V" = some ⟨[.long], none⟩ := by decide +kernel
theorem pd_66 : parseMethodDescriptor "(J)J" = some ⟨[.long], some .long⟩ := by decide +kernel
theorem pd_67 : parseMethodDescriptor "(JJ)J" = some ⟨[.long, .long], some .long⟩ := by decide +kernel
theorem ef_rm_law (m : MethodId) (sel : Int64) (bb : Int64) (mode : Int32) (dd : Int32) : entryFrame m #[(.long sel), (.long bb), (.int mode), (.int dd)] maxLocals = mkF m 0 #[.val (.long sel), .second, .val (.long bb), .second, .val (.int mode), .val (.int dd), .unset, .unset, .unset, .unset, .unset, .unset, .unset, .unset, .unset, .unset, .unset, .unset, .unset, .unset, .unset] [] := by first | (simp [entryFrame, mkF, argsToLocals, Value.category, maxLocals]; done) | rfl
theorem pn_68 : plainName "com/example/tidemark/tidemark/service/HeapRegionsArrayBytesPinLaw" = true := by first | (simp [plainName, overriddenIn]; done) | decide +kernel
set_option maxRecDepth 65536 in
set_option maxHeartbeats 40000000 in
theorem rm_law (l : Launch) (Z : State) (a0 : Array Value) (hw : ∀ d ∈ tables_1, d.before a0 Z = true) (ws : List Jvm.Cond) (sel : Int64) (bb : Int64) (mode : Int32) (dd : Int32) (h0 : Heap) (n0 : Nat) (Z0 : n0 ≤ h0.size)  :
    MetFree l x (head1 (Jvm.Cond.code x code maxLocals ret :: ws) room_1) (fun zA zU => zA = #[(.long sel), (.long bb), (.int mode), (.int dd)] ∧ Z.Warmed39 zU.vm ∧ zU.heap = h0) (fun _ _ _ _ _ => True) (fun _ zU zo zW => ∃ zv zL, zo = .returned zv ∧ (fun v h L => v = some (.int 1) ∧ Fr n0 L) zv zW.heap zL ∧ FrameEnd zU zo zW zL 1 1) := by
  refine MetFree.of_bodySF (plainFor_of_name pn_68) hisR ?_
  intro p e s m args below meth c s₁ Bd hml0 hP hK
  obtain ⟨rfl, hZ, hh⟩ := hP
  have hx := Bd.exec
  have hby := Bd.bytes
  have hml : c.maxLocals = 21 := hml0
  have hown : s.vm.findClass "com/example/tidemark/tidemark/service/HeapRegionsArrayBytesPinLaw" = some m.cls := findClass_of_methodNamed Bd.named
  have hnm := (name_of_methodNamed Bd.named Bd.method).1
  have X0 : Stand p l e room_1 s m #[(.long sel), (.long bb), (.int mode), (.int dd)] below meth c s₁ [] 0 0 := Stand.of_body Bd
  have e0 : s₁.heap = h0 := by rw [← hh, Bd.state]; rfl
  have N0 := Fr.nil n0
  refine own_out (Q := fun v h L => v = some (.int 1) ∧ Fr n0 L) ?_
  refine own_cast (ef_rm_law m sel bb mode dd) ?_
  show own_Go p.tables e below (s₁.setTop (mkF m 0 #[.val (.long sel), .second, .val (.long bb), .second, .val (.int mode), .val (.int dd), .unset, .unset, .unset, .unset, .unset, .unset, .unset, .unset, .unset, .unset, .unset, .unset, .unset, .unset, .unset] [])) _
  refine own_by (X0.ldc2Long hx hown (mvT hZ (hw _ (List.mem_of_getElem? (i := 0) rfl))) (g := (mkF m 0 #[.val (.long sel), .second, .val (.long bb), .second, .val (.int mode), .val (.int dd), .unset, .unset, .unset, .unset, .unset, .unset, .unset, .unset, .unset, .unset, .unset, .unset, .unset, .unset, .unset] [])) rfl (hb hby at_0)) ?_
  show own_Go p.tables e below (s₁.setTop (mkF m 3 #[.val (.long sel), .second, .val (.long bb), .second, .val (.int mode), .val (.int dd), .unset, .unset, .unset, .unset, .unset, .unset, .unset, .unset, .unset, .unset, .unset, .unset, .unset, .unset, .unset] [(.long (2305843009213693951 : Int64))])) _
  refine own_by (fun t k => XS.lstore X0.here hx rfl (hb hby at_3) rfl (l' := #[.val (.long sel), .second, .val (.long bb), .second, .val (.int mode), .val (.int dd), .val (.long (2305843009213693951 : Int64)), .second, .unset, .unset, .unset, .unset, .unset, .unset, .unset, .unset, .unset, .unset, .unset, .unset, .unset]) rfl k) ?_
  show own_Go p.tables e below (s₁.setTop (mkF m 5 #[.val (.long sel), .second, .val (.long bb), .second, .val (.int mode), .val (.int dd), .val (.long (2305843009213693951 : Int64)), .second, .unset, .unset, .unset, .unset, .unset, .unset, .unset, .unset, .unset, .unset, .unset, .unset, .unset] [])) _
  refine own_by (fun t k => XS.lloadN X0.here hx rfl (hb hby at_5) rfl k) ?_
  show own_Go p.tables e below (s₁.setTop (mkF m 6 #[.val (.long sel), .second, .val (.long bb), .second, .val (.int mode), .val (.int dd), .val (.long (2305843009213693951 : Int64)), .second, .unset, .unset, .unset, .unset, .unset, .unset, .unset, .unset, .unset, .unset, .unset, .unset, .unset] [(.long sel)])) _
  refine own_by (X0.ldc2Long hx hown (mvT hZ (hw _ (List.mem_of_getElem? (i := 1) rfl))) (g := (mkF m 6 #[.val (.long sel), .second, .val (.long bb), .second, .val (.int mode), .val (.int dd), .val (.long (2305843009213693951 : Int64)), .second, .unset, .unset, .unset, .unset, .unset, .unset, .unset, .unset, .unset, .unset, .unset, .unset, .unset] [(.long sel)])) rfl (hb hby at_6)) ?_
  show own_Go p.tables e below (s₁.setTop (mkF m 9 #[.val (.long sel), .second, .val (.long bb), .second, .val (.int mode), .val (.int dd), .val (.long (2305843009213693951 : Int64)), .second, .unset, .unset, .unset, .unset, .unset, .unset, .unset, .unset, .unset, .unset, .unset, .unset, .unset] [(.long (63 : Int64)), (.long sel)])) _
  refine own_by (fun t k => XS.land X0.here hx rfl (hb hby at_9) rfl k) ?_
  show own_Go p.tables e below (s₁.setTop (mkF m 10 #[.val (.long sel), .second, .val (.long bb), .second, .val (.int mode), .val (.int dd), .val (.long (2305843009213693951 : Int64)), .second, .unset, .unset, .unset, .unset, .unset, .unset, .unset, .unset, .unset, .unset, .unset, .unset, .unset] [(.long (sel &&& (63 : Int64)))])) _
  refine own_by (fun t k => XS.l2i X0.here hx rfl (hb hby at_10) rfl k) ?_
  show own_Go p.tables e below (s₁.setTop (mkF m 11 #[.val (.long sel), .second, .val (.long bb), .second, .val (.int mode), .val (.int dd), .val (.long (2305843009213693951 : Int64)), .second, .unset, .unset, .unset, .unset, .unset, .unset, .unset, .unset, .unset, .unset, .unset, .unset, .unset] [(.int ((sel &&& (63 : Int64)).toInt32))])) _
  obtain ⟨kk, hkk⟩ : ∃ z, z = ((sel &&& (63 : Int64)).toInt32) := ⟨_, rfl⟩
  rw [← hkk]
  show own_Go p.tables e below (s₁.setTop (mkF m 11 #[.val (.long sel), .second, .val (.long bb), .second, .val (.int mode), .val (.int dd), .val (.long (2305843009213693951 : Int64)), .second, .unset, .unset, .unset, .unset, .unset, .unset, .unset, .unset, .unset, .unset, .unset, .unset, .unset] [(.int kk)])) _
  refine own_by (fun t k => XS.istore X0.here hx rfl (hb hby at_11) rfl (l' := #[.val (.long sel), .second, .val (.long bb), .second, .val (.int mode), .val (.int dd), .val (.long (2305843009213693951 : Int64)), .second, .val (.int kk), .unset, .unset, .unset, .unset, .unset, .unset, .unset, .unset, .unset, .unset, .unset, .unset]) rfl k) ?_
  show own_Go p.tables e below (s₁.setTop (mkF m 13 #[.val (.long sel), .second, .val (.long bb), .second, .val (.int mode), .val (.int dd), .val (.long (2305843009213693951 : Int64)), .second, .val (.int kk), .unset, .unset, .unset, .unset, .unset, .unset, .unset, .unset, .unset, .unset, .unset, .unset] [])) _
  refine own_by (fun t k => XS.iload X0.here hx rfl (hb hby at_13) rfl k) ?_
  show own_Go p.tables e below (s₁.setTop (mkF m 15 #[.val (.long sel), .second, .val (.long bb), .second, .val (.int mode), .val (.int dd), .val (.long (2305843009213693951 : Int64)), .second, .val (.int kk), .unset, .unset, .unset, .unset, .unset, .unset, .unset, .unset, .unset, .unset, .unset, .unset] [(.int kk)])) _
  refine own_by (fun t k => XS.bipush X0.here hx rfl (hb hby at_15) k) ?_
  show own_Go p.tables e below (s₁.setTop (mkF m 17 #[.val (.long sel), .second, .val (.long bb), .second, .val (.int mode), .val (.int dd), .val (.long (2305843009213693951 : Int64)), .second, .val (.int kk), .unset, .unset, .unset, .unset, .unset, .unset, .unset, .unset, .unset, .unset, .unset, .unset] [(.int (63 : Int32)), (.int kk)])) _
  obtain ⟨r, hr, sj2⟩ : ∃ (r : Int64), r = (if kk = (63 : Int32) then (0 : Int64) else ((1 : Int64) <<< (kk &&& 0x3f).toInt64)) ∧ ∀ t, Steps p.tables e below (s₁.setTop (mkF m 28 #[.val (.long sel), .second, .val (.long bb), .second, .val (.int mode), .val (.int dd), .val (.long (2305843009213693951 : Int64)), .second, .val (.int kk), .unset, .unset, .unset, .unset, .unset, .unset, .unset, .unset, .unset, .unset, .unset, .unset] [(.long r)])) t → Steps p.tables e below (s₁.setTop (mkF m 17 #[.val (.long sel), .second, .val (.long bb), .second, .val (.int mode), .val (.int dd), .val (.long (2305843009213693951 : Int64)), .second, .val (.int kk), .unset, .unset, .unset, .unset, .unset, .unset, .unset, .unset, .unset, .unset, .unset, .unset] [(.int (63 : Int32)), (.int kk)])) t := by
    by_cases j1 : kk = (63 : Int32)
    · refine ⟨((0 : Int64)), (if_pos j1).symm, fun t k => ?_⟩
      show Steps p.tables e below (s₁.setTop (mkF m 17 #[.val (.long sel), .second, .val (.long bb), .second, .val (.int mode), .val (.int dd), .val (.long (2305843009213693951 : Int64)), .second, .val (.int kk), .unset, .unset, .unset, .unset, .unset, .unset, .unset, .unset, .unset, .unset, .unset, .unset] [(.int (63 : Int32)), (.int kk)])) _
      refine XS.icmpNo X0.here hx rfl (hb hby at_17) rfl (teq j1).2 ?_
      show Steps p.tables e below (s₁.setTop (mkF m 20 #[.val (.long sel), .second, .val (.long bb), .second, .val (.int mode), .val (.int dd), .val (.long (2305843009213693951 : Int64)), .second, .val (.int kk), .unset, .unset, .unset, .unset, .unset, .unset, .unset, .unset, .unset, .unset, .unset, .unset] [])) _
      refine XS.lconst X0.here hx rfl (hb hby at_20) ?_
      show Steps p.tables e below (s₁.setTop (mkF m 21 #[.val (.long sel), .second, .val (.long bb), .second, .val (.int mode), .val (.int dd), .val (.long (2305843009213693951 : Int64)), .second, .val (.int kk), .unset, .unset, .unset, .unset, .unset, .unset, .unset, .unset, .unset, .unset, .unset, .unset] [(.long (0 : Int64))])) _
      refine XS.goto X0.here hx rfl (pc0 := 21) (pc' := 28) rfl (hb hby at_21) (by decide) (by decide) ?_
      show Steps p.tables e below (s₁.setTop (mkF m 28 #[.val (.long sel), .second, .val (.long bb), .second, .val (.int mode), .val (.int dd), .val (.long (2305843009213693951 : Int64)), .second, .val (.int kk), .unset, .unset, .unset, .unset, .unset, .unset, .unset, .unset, .unset, .unset, .unset, .unset] [(.long (0 : Int64))])) _
      exact k
    · refine ⟨(((1 : Int64) <<< (kk &&& 0x3f).toInt64)), (if_neg j1).symm, fun t k => ?_⟩
      show Steps p.tables e below (s₁.setTop (mkF m 17 #[.val (.long sel), .second, .val (.long bb), .second, .val (.int mode), .val (.int dd), .val (.long (2305843009213693951 : Int64)), .second, .val (.int kk), .unset, .unset, .unset, .unset, .unset, .unset, .unset, .unset, .unset, .unset, .unset, .unset] [(.int (63 : Int32)), (.int kk)])) _
      refine XS.icmpYes X0.here hx rfl (pc0 := 17) (pc' := 24) rfl (hb hby at_17) rfl (feq j1).2 (by decide) (by decide) ?_
      show Steps p.tables e below (s₁.setTop (mkF m 24 #[.val (.long sel), .second, .val (.long bb), .second, .val (.int mode), .val (.int dd), .val (.long (2305843009213693951 : Int64)), .second, .val (.int kk), .unset, .unset, .unset, .unset, .unset, .unset, .unset, .unset, .unset, .unset, .unset, .unset] [])) _
      refine XS.lconst X0.here hx rfl (hb hby at_24) ?_
      show Steps p.tables e below (s₁.setTop (mkF m 25 #[.val (.long sel), .second, .val (.long bb), .second, .val (.int mode), .val (.int dd), .val (.long (2305843009213693951 : Int64)), .second, .val (.int kk), .unset, .unset, .unset, .unset, .unset, .unset, .unset, .unset, .unset, .unset, .unset, .unset] [(.long (1 : Int64))])) _
      refine XS.iload X0.here hx rfl (hb hby at_25) rfl ?_
      show Steps p.tables e below (s₁.setTop (mkF m 27 #[.val (.long sel), .second, .val (.long bb), .second, .val (.int mode), .val (.int dd), .val (.long (2305843009213693951 : Int64)), .second, .val (.int kk), .unset, .unset, .unset, .unset, .unset, .unset, .unset, .unset, .unset, .unset, .unset, .unset] [(.int kk), (.long (1 : Int64))])) _
      refine XS.lshl X0.here hx rfl (hb hby at_27) rfl ?_
      show Steps p.tables e below (s₁.setTop (mkF m 28 #[.val (.long sel), .second, .val (.long bb), .second, .val (.int mode), .val (.int dd), .val (.long (2305843009213693951 : Int64)), .second, .val (.int kk), .unset, .unset, .unset, .unset, .unset, .unset, .unset, .unset, .unset, .unset, .unset, .unset] [(.long ((1 : Int64) <<< (kk &&& 0x3f).toInt64))])) _
      exact k
  refine own_by (sj2) ?_
  show own_Go p.tables e below (s₁.setTop (mkF m 28 #[.val (.long sel), .second, .val (.long bb), .second, .val (.int mode), .val (.int dd), .val (.long (2305843009213693951 : Int64)), .second, .val (.int kk), .unset, .unset, .unset, .unset, .unset, .unset, .unset, .unset, .unset, .unset, .unset, .unset] [(.long r)])) _
  refine own_by (fun t k => XS.lstore X0.here hx rfl (hb hby at_28) rfl (l' := #[.val (.long sel), .second, .val (.long bb), .second, .val (.int mode), .val (.int dd), .val (.long (2305843009213693951 : Int64)), .second, .val (.int kk), .val (.long r), .second, .unset, .unset, .unset, .unset, .unset, .unset, .unset, .unset, .unset, .unset]) rfl k) ?_
  show own_Go p.tables e below (s₁.setTop (mkF m 30 #[.val (.long sel), .second, .val (.long bb), .second, .val (.int mode), .val (.int dd), .val (.long (2305843009213693951 : Int64)), .second, .val (.int kk), .val (.long r), .second, .unset, .unset, .unset, .unset, .unset, .unset, .unset, .unset, .unset, .unset] [])) _
  refine own_by (fun t k => XS.iload X0.here hx rfl (hb hby at_30) rfl k) ?_
  show own_Go p.tables e below (s₁.setTop (mkF m 32 #[.val (.long sel), .second, .val (.long bb), .second, .val (.int mode), .val (.int dd), .val (.long (2305843009213693951 : Int64)), .second, .val (.int kk), .val (.long r), .second, .unset, .unset, .unset, .unset, .unset, .unset, .unset, .unset, .unset, .unset] [(.int dd)])) _
  refine own_by (fun t k => XS.bipush X0.here hx rfl (hb hby at_32) k) ?_
  show own_Go p.tables e below (s₁.setTop (mkF m 34 #[.val (.long sel), .second, .val (.long bb), .second, .val (.int mode), .val (.int dd), .val (.long (2305843009213693951 : Int64)), .second, .val (.int kk), .val (.long r), .second, .unset, .unset, .unset, .unset, .unset, .unset, .unset, .unset, .unset, .unset] [(.int (15 : Int32)), (.int dd)])) _
  refine own_by (fun t k => XS.iand X0.here hx rfl (hb hby at_34) rfl k) ?_
  show own_Go p.tables e below (s₁.setTop (mkF m 35 #[.val (.long sel), .second, .val (.long bb), .second, .val (.int mode), .val (.int dd), .val (.long (2305843009213693951 : Int64)), .second, .val (.int kk), .val (.long r), .second, .unset, .unset, .unset, .unset, .unset, .unset, .unset, .unset, .unset, .unset] [(.int (dd &&& (15 : Int32)))])) _
  refine own_by (fun t k => XS.bipush X0.here hx rfl (hb hby at_35) k) ?_
  show own_Go p.tables e below (s₁.setTop (mkF m 37 #[.val (.long sel), .second, .val (.long bb), .second, .val (.int mode), .val (.int dd), .val (.long (2305843009213693951 : Int64)), .second, .val (.int kk), .val (.long r), .second, .unset, .unset, .unset, .unset, .unset, .unset, .unset, .unset, .unset, .unset] [(.int (8 : Int32)), (.int (dd &&& (15 : Int32)))])) _
  refine own_by (fun t k => XS.isub X0.here hx rfl (hb hby at_37) rfl k) ?_
  show own_Go p.tables e below (s₁.setTop (mkF m 38 #[.val (.long sel), .second, .val (.long bb), .second, .val (.int mode), .val (.int dd), .val (.long (2305843009213693951 : Int64)), .second, .val (.int kk), .val (.long r), .second, .unset, .unset, .unset, .unset, .unset, .unset, .unset, .unset, .unset, .unset] [(.int ((dd &&& (15 : Int32)) - (8 : Int32)))])) _
  refine own_by (fun t k => XS.i2l X0.here hx rfl (hb hby at_38) rfl k) ?_
  show own_Go p.tables e below (s₁.setTop (mkF m 39 #[.val (.long sel), .second, .val (.long bb), .second, .val (.int mode), .val (.int dd), .val (.long (2305843009213693951 : Int64)), .second, .val (.int kk), .val (.long r), .second, .unset, .unset, .unset, .unset, .unset, .unset, .unset, .unset, .unset, .unset] [(.long (((dd &&& (15 : Int32)) - (8 : Int32)).toInt64))])) _
  obtain ⟨d8, hd8⟩ : ∃ z, z = (((dd &&& (15 : Int32)) - (8 : Int32)).toInt64) := ⟨_, rfl⟩
  rw [← hd8]
  show own_Go p.tables e below (s₁.setTop (mkF m 39 #[.val (.long sel), .second, .val (.long bb), .second, .val (.int mode), .val (.int dd), .val (.long (2305843009213693951 : Int64)), .second, .val (.int kk), .val (.long r), .second, .unset, .unset, .unset, .unset, .unset, .unset, .unset, .unset, .unset, .unset] [(.long d8)])) _
  refine own_by (fun t k => XS.lstore X0.here hx rfl (hb hby at_39) rfl (l' := #[.val (.long sel), .second, .val (.long bb), .second, .val (.int mode), .val (.int dd), .val (.long (2305843009213693951 : Int64)), .second, .val (.int kk), .val (.long r), .second, .val (.long d8), .second, .unset, .unset, .unset, .unset, .unset, .unset, .unset, .unset]) rfl k) ?_
  show own_Go p.tables e below (s₁.setTop (mkF m 41 #[.val (.long sel), .second, .val (.long bb), .second, .val (.int mode), .val (.int dd), .val (.long (2305843009213693951 : Int64)), .second, .val (.int kk), .val (.long r), .second, .val (.long d8), .second, .unset, .unset, .unset, .unset, .unset, .unset, .unset, .unset] [])) _
  refine own_by (fun t k => XS.iload X0.here hx rfl (hb hby at_41) rfl k) ?_
  show own_Go p.tables e below (s₁.setTop (mkF m 43 #[.val (.long sel), .second, .val (.long bb), .second, .val (.int mode), .val (.int dd), .val (.long (2305843009213693951 : Int64)), .second, .val (.int kk), .val (.long r), .second, .val (.long d8), .second, .unset, .unset, .unset, .unset, .unset, .unset, .unset, .unset] [(.int mode)])) _
  refine own_by (fun t k => XS.iconst X0.here hx rfl (hb hby at_43) k) ?_
  show own_Go p.tables e below (s₁.setTop (mkF m 44 #[.val (.long sel), .second, .val (.long bb), .second, .val (.int mode), .val (.int dd), .val (.long (2305843009213693951 : Int64)), .second, .val (.int kk), .val (.long r), .second, .val (.long d8), .second, .unset, .unset, .unset, .unset, .unset, .unset, .unset, .unset] [(.int (3 : Int32)), (.int mode)])) _
  refine own_by (fun t k => XS.iand X0.here hx rfl (hb hby at_44) rfl k) ?_
  show own_Go p.tables e below (s₁.setTop (mkF m 45 #[.val (.long sel), .second, .val (.long bb), .second, .val (.int mode), .val (.int dd), .val (.long (2305843009213693951 : Int64)), .second, .val (.int kk), .val (.long r), .second, .val (.long d8), .second, .unset, .unset, .unset, .unset, .unset, .unset, .unset, .unset] [(.int (mode &&& (3 : Int32)))])) _
  obtain ⟨md, hmd⟩ : ∃ z, z = (mode &&& (3 : Int32)) := ⟨_, rfl⟩
  rw [← hmd]
  show own_Go p.tables e below (s₁.setTop (mkF m 45 #[.val (.long sel), .second, .val (.long bb), .second, .val (.int mode), .val (.int dd), .val (.long (2305843009213693951 : Int64)), .second, .val (.int kk), .val (.long r), .second, .val (.long d8), .second, .unset, .unset, .unset, .unset, .unset, .unset, .unset, .unset] [(.int md)])) _
  refine own_by (fun t k => XS.istore X0.here hx rfl (hb hby at_45) rfl (l' := #[.val (.long sel), .second, .val (.long bb), .second, .val (.int mode), .val (.int dd), .val (.long (2305843009213693951 : Int64)), .second, .val (.int kk), .val (.long r), .second, .val (.long d8), .second, .val (.int md), .unset, .unset, .unset, .unset, .unset, .unset, .unset]) rfl k) ?_
  show own_Go p.tables e below (s₁.setTop (mkF m 47 #[.val (.long sel), .second, .val (.long bb), .second, .val (.int mode), .val (.int dd), .val (.long (2305843009213693951 : Int64)), .second, .val (.int kk), .val (.long r), .second, .val (.long d8), .second, .val (.int md), .unset, .unset, .unset, .unset, .unset, .unset, .unset] [])) _
  refine own_by (fun t k => XS.iload X0.here hx rfl (hb hby at_47) rfl k) ?_
  show own_Go p.tables e below (s₁.setTop (mkF m 49 #[.val (.long sel), .second, .val (.long bb), .second, .val (.int mode), .val (.int dd), .val (.long (2305843009213693951 : Int64)), .second, .val (.int kk), .val (.long r), .second, .val (.long d8), .second, .val (.int md), .unset, .unset, .unset, .unset, .unset, .unset, .unset] [(.int md)])) _
  have hp : own_P r := own_isP hkk hr
  by_cases hm : md = (0 : Int32)
  · refine own_by (fun t k => XS.ifNo X0.here hx rfl (hb hby at_49) rfl ((if0 _ _).trans (teq hm).2) k) ?_
    show own_Go p.tables e below (s₁.setTop (mkF m 52 #[.val (.long sel), .second, .val (.long bb), .second, .val (.int mode), .val (.int dd), .val (.long (2305843009213693951 : Int64)), .second, .val (.int kk), .val (.long r), .second, .val (.long d8), .second, .val (.int md), .unset, .unset, .unset, .unset, .unset, .unset, .unset] [])) _
    refine own_by (fun t k => XS.lloadN X0.here hx rfl (hb hby at_52) rfl k) ?_
    show own_Go p.tables e below (s₁.setTop (mkF m 53 #[.val (.long sel), .second, .val (.long bb), .second, .val (.int mode), .val (.int dd), .val (.long (2305843009213693951 : Int64)), .second, .val (.int kk), .val (.long r), .second, .val (.long d8), .second, .val (.int md), .unset, .unset, .unset, .unset, .unset, .unset, .unset] [(.long bb)])) _
    refine own_by (fun t k => XS.lload X0.here hx rfl (hb hby at_53) rfl k) ?_
    show own_Go p.tables e below (s₁.setTop (mkF m 55 #[.val (.long sel), .second, .val (.long bb), .second, .val (.int mode), .val (.int dd), .val (.long (2305843009213693951 : Int64)), .second, .val (.int kk), .val (.long r), .second, .val (.long d8), .second, .val (.int md), .unset, .unset, .unset, .unset, .unset, .unset, .unset] [(.long (2305843009213693951 : Int64)), (.long bb)])) _
    refine own_by (fun t k => XS.land X0.here hx rfl (hb hby at_55) rfl k) ?_
    show own_Go p.tables e below (s₁.setTop (mkF m 56 #[.val (.long sel), .second, .val (.long bb), .second, .val (.int mode), .val (.int dd), .val (.long (2305843009213693951 : Int64)), .second, .val (.int kk), .val (.long r), .second, .val (.long d8), .second, .val (.int md), .unset, .unset, .unset, .unset, .unset, .unset, .unset] [(.long (bb &&& (2305843009213693951 : Int64)))])) _
    obtain ⟨y, hy⟩ : ∃ z, z = (bb &&& (2305843009213693951 : Int64)) := ⟨_, rfl⟩
    rw [← hy]
    show own_Go p.tables e below (s₁.setTop (mkF m 56 #[.val (.long sel), .second, .val (.long bb), .second, .val (.int mode), .val (.int dd), .val (.long (2305843009213693951 : Int64)), .second, .val (.int kk), .val (.long r), .second, .val (.long d8), .second, .val (.int md), .unset, .unset, .unset, .unset, .unset, .unset, .unset] [(.long y)])) _
    have hbB : own_B y := own_isB hy
    refine own_by (fun t k => XS.lstore X0.here hx rfl (hb hby at_56) rfl (l' := #[.val (.long sel), .second, .val (.long bb), .second, .val (.int mode), .val (.int dd), .val (.long (2305843009213693951 : Int64)), .second, .val (.int kk), .val (.long r), .second, .val (.long d8), .second, .val (.int md), .val (.long y), .second, .unset, .unset, .unset, .unset, .unset]) rfl k) ?_
    show own_Go p.tables e below (s₁.setTop (mkF m 58 #[.val (.long sel), .second, .val (.long bb), .second, .val (.int mode), .val (.int dd), .val (.long (2305843009213693951 : Int64)), .second, .val (.int kk), .val (.long r), .second, .val (.long d8), .second, .val (.int md), .val (.long y), .second, .unset, .unset, .unset, .unset, .unset] [])) _
    refine own_by (fun t k => XS.goto X0.here hx rfl (pc0 := 58) (pc' := 130) rfl (hb hby at_58) (by decide) (by decide) k) ?_
    show own_Go p.tables e below (s₁.setTop (mkF m 130 #[.val (.long sel), .second, .val (.long bb), .second, .val (.int mode), .val (.int dd), .val (.long (2305843009213693951 : Int64)), .second, .val (.int kk), .val (.long r), .second, .val (.long d8), .second, .val (.int md), .val (.long y), .second, .unset, .unset, .unset, .unset, .unset] [])) _
    obtain ⟨T3, hea3, X3, e3, E3, A3, D3, -, st3⟩ := newO X0 hx hZ hown (hw _ (List.mem_of_getElem? (i := 2) rfl)) (hw _ (List.mem_of_getElem? (i := 3) rfl)) (hw _ (List.mem_of_getElem? (i := 4) rfl)) e0 (g := (mkF m 130 #[.val (.long sel), .second, .val (.long bb), .second, .val (.int mode), .val (.int dd), .val (.long (2305843009213693951 : Int64)), .second, .val (.int kk), .val (.long r), .second, .val (.long d8), .second, .val (.int md), .val (.long y), .second, .unset, .unset, .unset, .unset, .unset] [])) rfl (hb hby at_130) (by decide) (by decide)
    obtain ⟨ob, g3⟩ : ∃ z, z = h0.size := ⟨_, rfl⟩
    rw [← g3] at A3 D3 st3
    have sz_ob : h0.size ≤ ob := Nat.le_trans (Keep.refl h0 []).1 (Nat.le_of_eq g3.symm)
    have K3 : Keep h0 hea3 [] := (Keep.refl h0 []).ext E3
    refine own_by (st3) ?_
    have F3_regionBytes : Fld Z hea3 ob "com/example/tidemark/tidemark/service/HeapRegions" "regionBytes" "J" (.long (0 : Int64)) := D3 (Or.inr (hw _ (List.mem_of_getElem? (i := 17) rfl))) (ty := .long) (by decide)
    show own_Go p.tables e below (T3.setTop (mkF m 133 #[.val (.long sel), .second, .val (.long bb), .second, .val (.int mode), .val (.int dd), .val (.long (2305843009213693951 : Int64)), .second, .val (.int kk), .val (.long r), .second, .val (.long d8), .second, .val (.int md), .val (.long y), .second, .unset, .unset, .unset, .unset, .unset] [(.ref ob)])) _
    refine own_by (fun t k => XS.dup X3.here hx rfl (hb hby at_133) rfl rfl k) ?_
    show own_Go p.tables e below (T3.setTop (mkF m 134 #[.val (.long sel), .second, .val (.long bb), .second, .val (.int mode), .val (.int dd), .val (.long (2305843009213693951 : Int64)), .second, .val (.int kk), .val (.long r), .second, .val (.long d8), .second, .val (.int md), .val (.long y), .second, .unset, .unset, .unset, .unset, .unset] [(.ref ob), (.ref ob)])) _
    refine own_by (fun t k => XS.lload X3.here hx rfl (hb hby at_134) rfl k) ?_
    show own_Go p.tables e below (T3.setTop (mkF m 136 #[.val (.long sel), .second, .val (.long bb), .second, .val (.int mode), .val (.int dd), .val (.long (2305843009213693951 : Int64)), .second, .val (.int kk), .val (.long r), .second, .val (.long d8), .second, .val (.int md), .val (.long y), .second, .unset, .unset, .unset, .unset, .unset] [(.long r), (.ref ob), (.ref ob)])) _
    obtain ⟨_, _, ⟨T4, L4, k4, n4⟩, -, X4, ⟨Lc4, hQ4, l4, y4, z4⟩, st4⟩ := X3.specialBack hx (y := (⟨"com/example/tidemark/tidemark/service/HeapRegions", "<init>", "(J)V"⟩ : MethodName)) rfl hown (mvT hZ (hw _ (List.mem_of_getElem? (i := 5) rfl))) (mvT hZ (hw _ (List.mem_of_getElem? (i := 6) rfl))) (mvT hZ (hw _ (List.mem_of_getElem? (i := 7) rfl))) (by decide) (backOf (W := 1) (rm_new l Z a0 hw [] ob r  hea3 n0 (Nat.le_trans Z0 K3.1) F3_regionBytes A3 (Nat.le_trans Z0 sz_ob) (own_p0 hp) (own_p1 hp)) hZ (hw _ (List.mem_of_getElem? (i := 7) rfl)) (hw _ (List.mem_of_getElem? (i := 4) rfl)) (by decide) (by decide)) (g := (mkF m 136 #[.val (.long sel), .second, .val (.long bb), .second, .val (.int mode), .val (.int dd), .val (.long (2305843009213693951 : Int64)), .second, .val (.int kk), .val (.long r), .second, .val (.long d8), .second, .val (.int md), .val (.long y), .second, .unset, .unset, .unset, .unset, .unset] [(.long r), (.ref ob), (.ref ob)])) rfl (by rw [hml]; rfl) (Steps.refl _) (a := ob) (argsL := [(.long r)]) (rest := [(.ref ob)]) (lenOf pd_65 rfl) rfl (by show 2 * 0 + _ ≤ _; exact Nat.le_of_eq rfl) (hb hby at_136) (fun _ _ => ⟨rfl, e3, (by decide : 1 + 0 ≤ _), (by decide : 1 + 0 ≤ _)⟩)
    dsimp only [Pt.U, Pt.locs, Pt.cells, Pt.slots] at X4 l4 y4 z4 st4 hQ4
    subst l4 y4 z4
    obtain ⟨rfl, N4q, Kc4, Fc4⟩ := hQ4
    have N4 := Fr.app N0 N4q
    have K4 : Keep h0 T4.heap [] := K3.trans Kc4 (allS (Or.inr sz_ob) all0)
    refine own_tr st4 ?_
    show own_Go p.tables e below (T4.setTop (mkF m 139 #[.val (.long sel), .second, .val (.long bb), .second, .val (.int mode), .val (.int dd), .val (.long (2305843009213693951 : Int64)), .second, .val (.int kk), .val (.long r), .second, .val (.long d8), .second, .val (.int md), .val (.long y), .second, .unset, .unset, .unset, .unset, .unset] [(.ref ob)])) _
    refine own_by (fun t k => XS.astore X4.here hx rfl (hb hby at_139) rfl rfl (l' := #[.val (.long sel), .second, .val (.long bb), .second, .val (.int mode), .val (.int dd), .val (.long (2305843009213693951 : Int64)), .second, .val (.int kk), .val (.long r), .second, .val (.long d8), .second, .val (.int md), .val (.long y), .second, .val (.ref ob), .unset, .unset, .unset, .unset]) rfl k) ?_
    show own_Go p.tables e below (T4.setTop (mkF m 141 #[.val (.long sel), .second, .val (.long bb), .second, .val (.int mode), .val (.int dd), .val (.long (2305843009213693951 : Int64)), .second, .val (.int kk), .val (.long r), .second, .val (.long d8), .second, .val (.int md), .val (.long y), .second, .val (.ref ob), .unset, .unset, .unset, .unset] [])) _
    refine own_by (fun t k => XS.aload X4.here hx rfl (hb hby at_141) rfl rfl k) ?_
    show own_Go p.tables e below (T4.setTop (mkF m 143 #[.val (.long sel), .second, .val (.long bb), .second, .val (.int mode), .val (.int dd), .val (.long (2305843009213693951 : Int64)), .second, .val (.int kk), .val (.long r), .second, .val (.long d8), .second, .val (.int md), .val (.long y), .second, .val (.ref ob), .unset, .unset, .unset, .unset] [(.ref ob)])) _
    refine own_by (fun t k => XS.lload X4.here hx rfl (hb hby at_143) rfl k) ?_
    show own_Go p.tables e below (T4.setTop (mkF m 145 #[.val (.long sel), .second, .val (.long bb), .second, .val (.int mode), .val (.int dd), .val (.long (2305843009213693951 : Int64)), .second, .val (.int kk), .val (.long r), .second, .val (.long d8), .second, .val (.int md), .val (.long y), .second, .val (.ref ob), .unset, .unset, .unset, .unset] [(.long y), (.ref ob)])) _
    obtain ⟨cq5, kq5, q5a, q5b, q5c⟩ := isOf hZ rfl (A3.keep Kc4)
    obtain ⟨_, _, ⟨T5, L5, k5, n5⟩, -, X5, ⟨Lc5, hQ5, l5, y5, z5⟩, st5⟩ := X4.virtualBack hx (y := (⟨"com/example/tidemark/tidemark/service/HeapRegions", "arrayBytes", "(J)J"⟩ : MethodName)) (z := (⟨"com/example/tidemark/tidemark/service/HeapRegions", "arrayBytes", "(J)J"⟩ : MethodName)) hown (mvT hZ (hw _ (List.mem_of_getElem? (i := 18) rfl))) (mvT hZ (hw _ (List.mem_of_getElem? (i := 19) rfl))) (notFace_of_selects (args := #[]) (mvT hZ (hw _ (List.mem_of_getElem? (i := 21) rfl)))) (mvT hZ (hw _ (List.mem_of_getElem? (i := 21) rfl))) (mvT hZ (hw _ (List.mem_of_getElem? (i := 20) rfl))) (by decide) (backOf (W := 0) (rm_ab l Z a0 hw [] ob y r T4.heap n0 (Nat.le_trans Z0 K4.1) Fc4) hZ (hw _ (List.mem_of_getElem? (i := 22) rfl)) (hw _ (List.mem_of_getElem? (i := 4) rfl)) (by decide) (by decide)) q5a q5c (g := (mkF m 145 #[.val (.long sel), .second, .val (.long bb), .second, .val (.int mode), .val (.int dd), .val (.long (2305843009213693951 : Int64)), .second, .val (.int kk), .val (.long r), .second, .val (.long d8), .second, .val (.int md), .val (.long y), .second, .val (.ref ob), .unset, .unset, .unset, .unset] [(.long y), (.ref ob)])) rfl (by rw [hml]; rfl) (Steps.refl _) (argsL := [(.long y)]) (rest := []) (lenOf pd_66 rfl) rfl (by show 2 * 0 + _ ≤ _; exact Nat.le_of_eq rfl) (hb hby at_145) (fun _ _ => ⟨rfl, rfl, (by decide : 1 + 0 ≤ _), (by decide : 1 + 0 ≤ _)⟩)
    dsimp only [Pt.U, Pt.locs, Pt.cells, Pt.slots] at X5 l5 y5 z5 st5 hQ5
    subst l5 y5 z5
    obtain ⟨got, rfl, N5q, eh5, hgot⟩ := hQ5
    have N5 := Fr.app N4 N5q
    refine own_tr st5 ?_
    show own_Go p.tables e below (T5.setTop (mkF m 148 #[.val (.long sel), .second, .val (.long bb), .second, .val (.int mode), .val (.int dd), .val (.long (2305843009213693951 : Int64)), .second, .val (.int kk), .val (.long r), .second, .val (.long d8), .second, .val (.int md), .val (.long y), .second, .val (.ref ob), .unset, .unset, .unset, .unset] [(.long got)])) _
    refine own_by (fun t k => XS.lstore X5.here hx rfl (hb hby at_148) rfl (l' := #[.val (.long sel), .second, .val (.long bb), .second, .val (.int mode), .val (.int dd), .val (.long (2305843009213693951 : Int64)), .second, .val (.int kk), .val (.long r), .second, .val (.long d8), .second, .val (.int md), .val (.long y), .second, .val (.ref ob), .val (.long got), .second, .unset, .unset]) rfl k) ?_
    show own_Go p.tables e below (T5.setTop (mkF m 150 #[.val (.long sel), .second, .val (.long bb), .second, .val (.int mode), .val (.int dd), .val (.long (2305843009213693951 : Int64)), .second, .val (.int kk), .val (.long r), .second, .val (.long d8), .second, .val (.int md), .val (.long y), .second, .val (.ref ob), .val (.long got), .second, .unset, .unset] [])) _
    refine own_by (fun t k => XS.lload X5.here hx rfl (hb hby at_150) rfl k) ?_
    show own_Go p.tables e below (T5.setTop (mkF m 152 #[.val (.long sel), .second, .val (.long bb), .second, .val (.int mode), .val (.int dd), .val (.long (2305843009213693951 : Int64)), .second, .val (.int kk), .val (.long r), .second, .val (.long d8), .second, .val (.int md), .val (.long y), .second, .val (.ref ob), .val (.long got), .second, .unset, .unset] [(.long y)])) _
    refine own_by (X5.ldc2Long hx hown (mvT hZ (hw _ (List.mem_of_getElem? (i := 25) rfl))) (g := (mkF m 152 #[.val (.long sel), .second, .val (.long bb), .second, .val (.int mode), .val (.int dd), .val (.long (2305843009213693951 : Int64)), .second, .val (.int kk), .val (.long r), .second, .val (.long d8), .second, .val (.int md), .val (.long y), .second, .val (.ref ob), .val (.long got), .second, .unset, .unset] [(.long y)])) rfl (hb hby at_152)) ?_
    show own_Go p.tables e below (T5.setTop (mkF m 155 #[.val (.long sel), .second, .val (.long bb), .second, .val (.int mode), .val (.int dd), .val (.long (2305843009213693951 : Int64)), .second, .val (.int kk), .val (.long r), .second, .val (.long d8), .second, .val (.int md), .val (.long y), .second, .val (.ref ob), .val (.long got), .second, .unset, .unset] [(.long (16 : Int64)), (.long y)])) _
    refine own_by (fun t k => XS.ladd X5.here hx rfl (hb hby at_155) rfl k) ?_
    show own_Go p.tables e below (T5.setTop (mkF m 156 #[.val (.long sel), .second, .val (.long bb), .second, .val (.int mode), .val (.int dd), .val (.long (2305843009213693951 : Int64)), .second, .val (.int kk), .val (.long r), .second, .val (.long d8), .second, .val (.int md), .val (.long y), .second, .val (.ref ob), .val (.long got), .second, .unset, .unset] [(.long (y + (16 : Int64)))])) _
    obtain ⟨wh, hwh⟩ : ∃ z, z = (y + (16 : Int64)) := ⟨_, rfl⟩
    rw [← hwh]
    show own_Go p.tables e below (T5.setTop (mkF m 156 #[.val (.long sel), .second, .val (.long bb), .second, .val (.int mode), .val (.int dd), .val (.long (2305843009213693951 : Int64)), .second, .val (.int kk), .val (.long r), .second, .val (.long d8), .second, .val (.int md), .val (.long y), .second, .val (.ref ob), .val (.long got), .second, .unset, .unset] [(.long wh)])) _
    refine own_by (fun t k => XS.lstore X5.here hx rfl (hb hby at_156) rfl (l' := #[.val (.long sel), .second, .val (.long bb), .second, .val (.int mode), .val (.int dd), .val (.long (2305843009213693951 : Int64)), .second, .val (.int kk), .val (.long r), .second, .val (.long d8), .second, .val (.int md), .val (.long y), .second, .val (.ref ob), .val (.long got), .second, .val (.long wh), .second]) rfl k) ?_
    show own_Go p.tables e below (T5.setTop (mkF m 158 #[.val (.long sel), .second, .val (.long bb), .second, .val (.int mode), .val (.int dd), .val (.long (2305843009213693951 : Int64)), .second, .val (.int kk), .val (.long r), .second, .val (.long d8), .second, .val (.int md), .val (.long y), .second, .val (.ref ob), .val (.long got), .second, .val (.long wh), .second] [])) _
    refine own_by (fun t k => XS.lload X5.here hx rfl (hb hby at_158) rfl k) ?_
    show own_Go p.tables e below (T5.setTop (mkF m 160 #[.val (.long sel), .second, .val (.long bb), .second, .val (.int mode), .val (.int dd), .val (.long (2305843009213693951 : Int64)), .second, .val (.int kk), .val (.long r), .second, .val (.long d8), .second, .val (.int md), .val (.long y), .second, .val (.ref ob), .val (.long got), .second, .val (.long wh), .second] [(.long r)])) _
    refine own_by (fun t k => XS.lconst X5.here hx rfl (hb hby at_160) k) ?_
    show own_Go p.tables e below (T5.setTop (mkF m 161 #[.val (.long sel), .second, .val (.long bb), .second, .val (.int mode), .val (.int dd), .val (.long (2305843009213693951 : Int64)), .second, .val (.int kk), .val (.long r), .second, .val (.long d8), .second, .val (.int md), .val (.long y), .second, .val (.ref ob), .val (.long got), .second, .val (.long wh), .second] [(.long (0 : Int64)), (.long r)])) _
    refine own_by (fun t k => XS.lcmp X5.here hx rfl (hb hby at_161) rfl k) ?_
    show own_Go p.tables e below (T5.setTop (mkF m 162 #[.val (.long sel), .second, .val (.long bb), .second, .val (.int mode), .val (.int dd), .val (.long (2305843009213693951 : Int64)), .second, .val (.int kk), .val (.long r), .second, .val (.long d8), .second, .val (.int md), .val (.long y), .second, .val (.ref ob), .val (.long got), .second, .val (.long wh), .second] [(.int (lcmpW r (0 : Int64)))])) _
    by_cases h1 : (0 : Int64) < r
    · refine own_by (fun t k => XS.ifNo X5.here hx rfl (hb hby at_162) rfl ((if0 _ _).trans (tlt ((lw_gt r (0 : Int64)).mpr h1)).2.2.2) k) ?_
      show own_Go p.tables e below (T5.setTop (mkF m 165 #[.val (.long sel), .second, .val (.long bb), .second, .val (.int mode), .val (.int dd), .val (.long (2305843009213693951 : Int64)), .second, .val (.int kk), .val (.long r), .second, .val (.long d8), .second, .val (.int md), .val (.long y), .second, .val (.ref ob), .val (.long got), .second, .val (.long wh), .second] [])) _
      refine own_by (fun t k => XS.lload X5.here hx rfl (hb hby at_165) rfl k) ?_
      show own_Go p.tables e below (T5.setTop (mkF m 167 #[.val (.long sel), .second, .val (.long bb), .second, .val (.int mode), .val (.int dd), .val (.long (2305843009213693951 : Int64)), .second, .val (.int kk), .val (.long r), .second, .val (.long d8), .second, .val (.int md), .val (.long y), .second, .val (.ref ob), .val (.long got), .second, .val (.long wh), .second] [(.long wh)])) _
      refine own_by (fun t k => XS.lload X5.here hx rfl (hb hby at_167) rfl k) ?_
      show own_Go p.tables e below (T5.setTop (mkF m 169 #[.val (.long sel), .second, .val (.long bb), .second, .val (.int mode), .val (.int dd), .val (.long (2305843009213693951 : Int64)), .second, .val (.int kk), .val (.long r), .second, .val (.long d8), .second, .val (.int md), .val (.long y), .second, .val (.ref ob), .val (.long got), .second, .val (.long wh), .second] [(.long r), (.long wh)])) _
      refine own_by (fun t k => XS.iconst X5.here hx rfl (hb hby at_169) k) ?_
      show own_Go p.tables e below (T5.setTop (mkF m 170 #[.val (.long sel), .second, .val (.long bb), .second, .val (.int mode), .val (.int dd), .val (.long (2305843009213693951 : Int64)), .second, .val (.int kk), .val (.long r), .second, .val (.long d8), .second, .val (.int md), .val (.long y), .second, .val (.ref ob), .val (.long got), .second, .val (.long wh), .second] [(.int (1 : Int32)), (.long r), (.long wh)])) _
      refine own_by (fun t k => XS.lshr X5.here hx rfl (hb hby at_170) rfl k) ?_
      show own_Go p.tables e below (T5.setTop (mkF m 171 #[.val (.long sel), .second, .val (.long bb), .second, .val (.int mode), .val (.int dd), .val (.long (2305843009213693951 : Int64)), .second, .val (.int kk), .val (.long r), .second, .val (.long d8), .second, .val (.int md), .val (.long y), .second, .val (.ref ob), .val (.long got), .second, .val (.long wh), .second] [(.long (r >>> ((1 : Int32) &&& 0x3f).toInt64)), (.long wh)])) _
      refine own_by (fun t k => XS.lcmp X5.here hx rfl (hb hby at_171) rfl k) ?_
      show own_Go p.tables e below (T5.setTop (mkF m 172 #[.val (.long sel), .second, .val (.long bb), .second, .val (.int mode), .val (.int dd), .val (.long (2305843009213693951 : Int64)), .second, .val (.int kk), .val (.long r), .second, .val (.long d8), .second, .val (.int md), .val (.long y), .second, .val (.ref ob), .val (.long got), .second, .val (.long wh), .second] [(.int (lcmpW wh (r >>> ((1 : Int32) &&& 0x3f).toInt64)))])) _
      by_cases h2 : (r >>> ((1 : Int32) &&& 0x3f).toInt64) < wh
      · refine own_by (fun t k => XS.ifNo X5.here hx rfl (hb hby at_172) rfl ((if0 _ _).trans (tlt ((lw_gt wh (r >>> ((1 : Int32) &&& 0x3f).toInt64)).mpr h2)).2.2.2) k) ?_
        show own_Go p.tables e below (T5.setTop (mkF m 175 #[.val (.long sel), .second, .val (.long bb), .second, .val (.int mode), .val (.int dd), .val (.long (2305843009213693951 : Int64)), .second, .val (.int kk), .val (.long r), .second, .val (.long d8), .second, .val (.int md), .val (.long y), .second, .val (.ref ob), .val (.long got), .second, .val (.long wh), .second] [])) _
        obtain ⟨g1, g2, g3⟩ := own_big hp hbB h1 h2 hwh hgot
        refine own_by (fun t k => XS.lload X5.here hx rfl (hb hby at_175) rfl k) ?_
        show own_Go p.tables e below (T5.setTop (mkF m 177 #[.val (.long sel), .second, .val (.long bb), .second, .val (.int mode), .val (.int dd), .val (.long (2305843009213693951 : Int64)), .second, .val (.int kk), .val (.long r), .second, .val (.long d8), .second, .val (.int md), .val (.long y), .second, .val (.ref ob), .val (.long got), .second, .val (.long wh), .second] [(.long got)])) _
        refine own_by (fun t k => XS.lload X5.here hx rfl (hb hby at_177) rfl k) ?_
        show own_Go p.tables e below (T5.setTop (mkF m 179 #[.val (.long sel), .second, .val (.long bb), .second, .val (.int mode), .val (.int dd), .val (.long (2305843009213693951 : Int64)), .second, .val (.int kk), .val (.long r), .second, .val (.long d8), .second, .val (.int md), .val (.long y), .second, .val (.ref ob), .val (.long got), .second, .val (.long wh), .second] [(.long r), (.long got)])) _
        refine own_by (fun t k => XS.lconst X5.here hx rfl (hb hby at_179) k) ?_
        show own_Go p.tables e below (T5.setTop (mkF m 180 #[.val (.long sel), .second, .val (.long bb), .second, .val (.int mode), .val (.int dd), .val (.long (2305843009213693951 : Int64)), .second, .val (.int kk), .val (.long r), .second, .val (.long d8), .second, .val (.int md), .val (.long y), .second, .val (.ref ob), .val (.long got), .second, .val (.long wh), .second] [(.long (1 : Int64)), (.long r), (.long got)])) _
        refine own_by (fun t k => XS.lsub X5.here hx rfl (hb hby at_180) rfl k) ?_
        show own_Go p.tables e below (T5.setTop (mkF m 181 #[.val (.long sel), .second, .val (.long bb), .second, .val (.int mode), .val (.int dd), .val (.long (2305843009213693951 : Int64)), .second, .val (.int kk), .val (.long r), .second, .val (.long d8), .second, .val (.int md), .val (.long y), .second, .val (.ref ob), .val (.long got), .second, .val (.long wh), .second] [(.long (r - (1 : Int64))), (.long got)])) _
        refine own_by (fun t k => XS.land X5.here hx rfl (hb hby at_181) rfl k) ?_
        show own_Go p.tables e below (T5.setTop (mkF m 182 #[.val (.long sel), .second, .val (.long bb), .second, .val (.int mode), .val (.int dd), .val (.long (2305843009213693951 : Int64)), .second, .val (.int kk), .val (.long r), .second, .val (.long d8), .second, .val (.int md), .val (.long y), .second, .val (.ref ob), .val (.long got), .second, .val (.long wh), .second] [(.long (got &&& (r - (1 : Int64))))])) _
        refine own_by (fun t k => XS.lconst X5.here hx rfl (hb hby at_182) k) ?_
        show own_Go p.tables e below (T5.setTop (mkF m 183 #[.val (.long sel), .second, .val (.long bb), .second, .val (.int mode), .val (.int dd), .val (.long (2305843009213693951 : Int64)), .second, .val (.int kk), .val (.long r), .second, .val (.long d8), .second, .val (.int md), .val (.long y), .second, .val (.ref ob), .val (.long got), .second, .val (.long wh), .second] [(.long (0 : Int64)), (.long (got &&& (r - (1 : Int64))))])) _
        refine own_by (fun t k => XS.lcmp X5.here hx rfl (hb hby at_183) rfl k) ?_
        show own_Go p.tables e below (T5.setTop (mkF m 184 #[.val (.long sel), .second, .val (.long bb), .second, .val (.int mode), .val (.int dd), .val (.long (2305843009213693951 : Int64)), .second, .val (.int kk), .val (.long r), .second, .val (.long d8), .second, .val (.int md), .val (.long y), .second, .val (.ref ob), .val (.long got), .second, .val (.long wh), .second] [(.int (lcmpW (got &&& (r - (1 : Int64))) (0 : Int64)))])) _
        refine own_by (fun t k => XS.ifNo X5.here hx rfl (hb hby at_184) rfl ((if0 _ _).trans (teq ((lw_eq (got &&& (r - (1 : Int64))) (0 : Int64)).mpr g1)).2) k) ?_
        show own_Go p.tables e below (T5.setTop (mkF m 187 #[.val (.long sel), .second, .val (.long bb), .second, .val (.int mode), .val (.int dd), .val (.long (2305843009213693951 : Int64)), .second, .val (.int kk), .val (.long r), .second, .val (.long d8), .second, .val (.int md), .val (.long y), .second, .val (.ref ob), .val (.long got), .second, .val (.long wh), .second] [])) _
        refine own_by (fun t k => XS.lload X5.here hx rfl (hb hby at_187) rfl k) ?_
        show own_Go p.tables e below (T5.setTop (mkF m 189 #[.val (.long sel), .second, .val (.long bb), .second, .val (.int mode), .val (.int dd), .val (.long (2305843009213693951 : Int64)), .second, .val (.int kk), .val (.long r), .second, .val (.long d8), .second, .val (.int md), .val (.long y), .second, .val (.ref ob), .val (.long got), .second, .val (.long wh), .second] [(.long got)])) _
        refine own_by (fun t k => XS.lload X5.here hx rfl (hb hby at_189) rfl k) ?_
        show own_Go p.tables e below (T5.setTop (mkF m 191 #[.val (.long sel), .second, .val (.long bb), .second, .val (.int mode), .val (.int dd), .val (.long (2305843009213693951 : Int64)), .second, .val (.int kk), .val (.long r), .second, .val (.long d8), .second, .val (.int md), .val (.long y), .second, .val (.ref ob), .val (.long got), .second, .val (.long wh), .second] [(.long wh), (.long got)])) _
        refine own_by (fun t k => XS.lcmp X5.here hx rfl (hb hby at_191) rfl k) ?_
        show own_Go p.tables e below (T5.setTop (mkF m 192 #[.val (.long sel), .second, .val (.long bb), .second, .val (.int mode), .val (.int dd), .val (.long (2305843009213693951 : Int64)), .second, .val (.int kk), .val (.long r), .second, .val (.long d8), .second, .val (.int md), .val (.long y), .second, .val (.ref ob), .val (.long got), .second, .val (.long wh), .second] [(.int (lcmpW got wh))])) _
        refine own_by (fun t k => XS.ifNo X5.here hx rfl (hb hby at_192) rfl ((if0 _ _).trans (flt (fun q => g2 ((lw_lt got wh).mp q))).1) k) ?_
        show own_Go p.tables e below (T5.setTop (mkF m 195 #[.val (.long sel), .second, .val (.long bb), .second, .val (.int mode), .val (.int dd), .val (.long (2305843009213693951 : Int64)), .second, .val (.int kk), .val (.long r), .second, .val (.long d8), .second, .val (.int md), .val (.long y), .second, .val (.ref ob), .val (.long got), .second, .val (.long wh), .second] [])) _
        refine own_by (fun t k => XS.lload X5.here hx rfl (hb hby at_195) rfl k) ?_
        show own_Go p.tables e below (T5.setTop (mkF m 197 #[.val (.long sel), .second, .val (.long bb), .second, .val (.int mode), .val (.int dd), .val (.long (2305843009213693951 : Int64)), .second, .val (.int kk), .val (.long r), .second, .val (.long d8), .second, .val (.int md), .val (.long y), .second, .val (.ref ob), .val (.long got), .second, .val (.long wh), .second] [(.long got)])) _
        refine own_by (fun t k => XS.lload X5.here hx rfl (hb hby at_197) rfl k) ?_
        show own_Go p.tables e below (T5.setTop (mkF m 199 #[.val (.long sel), .second, .val (.long bb), .second, .val (.int mode), .val (.int dd), .val (.long (2305843009213693951 : Int64)), .second, .val (.int kk), .val (.long r), .second, .val (.long d8), .second, .val (.int md), .val (.long y), .second, .val (.ref ob), .val (.long got), .second, .val (.long wh), .second] [(.long wh), (.long got)])) _
        refine own_by (fun t k => XS.lsub X5.here hx rfl (hb hby at_199) rfl k) ?_
        show own_Go p.tables e below (T5.setTop (mkF m 200 #[.val (.long sel), .second, .val (.long bb), .second, .val (.int mode), .val (.int dd), .val (.long (2305843009213693951 : Int64)), .second, .val (.int kk), .val (.long r), .second, .val (.long d8), .second, .val (.int md), .val (.long y), .second, .val (.ref ob), .val (.long got), .second, .val (.long wh), .second] [(.long (got - wh))])) _
        refine own_by (fun t k => XS.lload X5.here hx rfl (hb hby at_200) rfl k) ?_
        show own_Go p.tables e below (T5.setTop (mkF m 202 #[.val (.long sel), .second, .val (.long bb), .second, .val (.int mode), .val (.int dd), .val (.long (2305843009213693951 : Int64)), .second, .val (.int kk), .val (.long r), .second, .val (.long d8), .second, .val (.int md), .val (.long y), .second, .val (.ref ob), .val (.long got), .second, .val (.long wh), .second] [(.long r), (.long (got - wh))])) _
        refine own_by (fun t k => XS.lcmp X5.here hx rfl (hb hby at_202) rfl k) ?_
        show own_Go p.tables e below (T5.setTop (mkF m 203 #[.val (.long sel), .second, .val (.long bb), .second, .val (.int mode), .val (.int dd), .val (.long (2305843009213693951 : Int64)), .second, .val (.int kk), .val (.long r), .second, .val (.long d8), .second, .val (.int md), .val (.long y), .second, .val (.ref ob), .val (.long got), .second, .val (.long wh), .second] [(.int (lcmpW (got - wh) r))])) _
        refine own_by (fun t k => XS.ifNo X5.here hx rfl (hb hby at_203) rfl ((if0 _ _).trans (tlt ((lw_lt (got - wh) r).mpr g3)).2.1) k) ?_
        show own_Go p.tables e below (T5.setTop (mkF m 206 #[.val (.long sel), .second, .val (.long bb), .second, .val (.int mode), .val (.int dd), .val (.long (2305843009213693951 : Int64)), .second, .val (.int kk), .val (.long r), .second, .val (.long d8), .second, .val (.int md), .val (.long y), .second, .val (.ref ob), .val (.long got), .second, .val (.long wh), .second] [])) _
        refine own_by (fun t k => XS.iconst X5.here hx rfl (hb hby at_206) k) ?_
        show own_Go p.tables e below (T5.setTop (mkF m 207 #[.val (.long sel), .second, .val (.long bb), .second, .val (.int mode), .val (.int dd), .val (.long (2305843009213693951 : Int64)), .second, .val (.int kk), .val (.long r), .second, .val (.long d8), .second, .val (.int md), .val (.long y), .second, .val (.ref ob), .val (.long got), .second, .val (.long wh), .second] [(.int (1 : Int32))])) _
        refine own_by (fun t k => XS.goto X5.here hx rfl (pc0 := 207) (pc' := 211) rfl (hb hby at_207) (by decide) (by decide) k) ?_
        show own_Go p.tables e below (T5.setTop (mkF m 211 #[.val (.long sel), .second, .val (.long bb), .second, .val (.int mode), .val (.int dd), .val (.long (2305843009213693951 : Int64)), .second, .val (.int kk), .val (.long r), .second, .val (.long d8), .second, .val (.int md), .val (.long y), .second, .val (.ref ob), .val (.long got), .second, .val (.long wh), .second] [(.int (1 : Int32))])) _
        exact own_retN X5 hx Bd.notSynchronized (t := .boolean) Bd.returns (by simp) (by decide) (hb hby at_211) (by (try rw [eh5]); exact ⟨rfl, N5⟩) (by decide) (by decide)
      · refine own_by (fun t k => XS.ifYes X5.here hx rfl (pc0 := 172) (pc' := 212) rfl (hb hby at_172) rfl ((if0 _ _).trans (flt (fun q => h2 ((lw_gt wh (r >>> ((1 : Int32) &&& 0x3f).toInt64)).mp q))).2.2.2) (by decide) (by decide) k) ?_
        show own_Go p.tables e below (T5.setTop (mkF m 212 #[.val (.long sel), .second, .val (.long bb), .second, .val (.int mode), .val (.int dd), .val (.long (2305843009213693951 : Int64)), .second, .val (.int kk), .val (.long r), .second, .val (.long d8), .second, .val (.int md), .val (.long y), .second, .val (.ref ob), .val (.long got), .second, .val (.long wh), .second] [])) _
        refine own_by (fun t k => XS.lload X5.here hx rfl (hb hby at_212) rfl k) ?_
        show own_Go p.tables e below (T5.setTop (mkF m 214 #[.val (.long sel), .second, .val (.long bb), .second, .val (.int mode), .val (.int dd), .val (.long (2305843009213693951 : Int64)), .second, .val (.int kk), .val (.long r), .second, .val (.long d8), .second, .val (.int md), .val (.long y), .second, .val (.ref ob), .val (.long got), .second, .val (.long wh), .second] [(.long got)])) _
        refine own_by (fun t k => XS.lload X5.here hx rfl (hb hby at_214) rfl k) ?_
        show own_Go p.tables e below (T5.setTop (mkF m 216 #[.val (.long sel), .second, .val (.long bb), .second, .val (.int mode), .val (.int dd), .val (.long (2305843009213693951 : Int64)), .second, .val (.int kk), .val (.long r), .second, .val (.long d8), .second, .val (.int md), .val (.long y), .second, .val (.ref ob), .val (.long got), .second, .val (.long wh), .second] [(.long y), (.long got)])) _
        refine own_by (fun t k => XS.lcmp X5.here hx rfl (hb hby at_216) rfl k) ?_
        show own_Go p.tables e below (T5.setTop (mkF m 217 #[.val (.long sel), .second, .val (.long bb), .second, .val (.int mode), .val (.int dd), .val (.long (2305843009213693951 : Int64)), .second, .val (.int kk), .val (.long r), .second, .val (.long d8), .second, .val (.int md), .val (.long y), .second, .val (.ref ob), .val (.long got), .second, .val (.long wh), .second] [(.int (lcmpW got y))])) _
        refine own_by (fun t k => XS.ifNo X5.here hx rfl (hb hby at_217) rfl ((if0 _ _).trans (teq ((lw_eq got y).mpr (own_small hp hbB (Or.inr h2) hwh hgot))).2) k) ?_
        show own_Go p.tables e below (T5.setTop (mkF m 220 #[.val (.long sel), .second, .val (.long bb), .second, .val (.int mode), .val (.int dd), .val (.long (2305843009213693951 : Int64)), .second, .val (.int kk), .val (.long r), .second, .val (.long d8), .second, .val (.int md), .val (.long y), .second, .val (.ref ob), .val (.long got), .second, .val (.long wh), .second] [])) _
        refine own_by (fun t k => XS.iconst X5.here hx rfl (hb hby at_220) k) ?_
        show own_Go p.tables e below (T5.setTop (mkF m 221 #[.val (.long sel), .second, .val (.long bb), .second, .val (.int mode), .val (.int dd), .val (.long (2305843009213693951 : Int64)), .second, .val (.int kk), .val (.long r), .second, .val (.long d8), .second, .val (.int md), .val (.long y), .second, .val (.ref ob), .val (.long got), .second, .val (.long wh), .second] [(.int (1 : Int32))])) _
        refine own_by (fun t k => XS.goto X5.here hx rfl (pc0 := 221) (pc' := 225) rfl (hb hby at_221) (by decide) (by decide) k) ?_
        show own_Go p.tables e below (T5.setTop (mkF m 225 #[.val (.long sel), .second, .val (.long bb), .second, .val (.int mode), .val (.int dd), .val (.long (2305843009213693951 : Int64)), .second, .val (.int kk), .val (.long r), .second, .val (.long d8), .second, .val (.int md), .val (.long y), .second, .val (.ref ob), .val (.long got), .second, .val (.long wh), .second] [(.int (1 : Int32))])) _
        exact own_retN X5 hx Bd.notSynchronized (t := .boolean) Bd.returns (by simp) (by decide) (hb hby at_225) (by (try rw [eh5]); exact ⟨rfl, N5⟩) (by decide) (by decide)
    · refine own_by (fun t k => XS.ifYes X5.here hx rfl (pc0 := 162) (pc' := 212) rfl (hb hby at_162) rfl ((if0 _ _).trans (flt (fun q => h1 ((lw_gt r (0 : Int64)).mp q))).2.2.2) (by decide) (by decide) k) ?_
      show own_Go p.tables e below (T5.setTop (mkF m 212 #[.val (.long sel), .second, .val (.long bb), .second, .val (.int mode), .val (.int dd), .val (.long (2305843009213693951 : Int64)), .second, .val (.int kk), .val (.long r), .second, .val (.long d8), .second, .val (.int md), .val (.long y), .second, .val (.ref ob), .val (.long got), .second, .val (.long wh), .second] [])) _
      refine own_by (fun t k => XS.lload X5.here hx rfl (hb hby at_212) rfl k) ?_
      show own_Go p.tables e below (T5.setTop (mkF m 214 #[.val (.long sel), .second, .val (.long bb), .second, .val (.int mode), .val (.int dd), .val (.long (2305843009213693951 : Int64)), .second, .val (.int kk), .val (.long r), .second, .val (.long d8), .second, .val (.int md), .val (.long y), .second, .val (.ref ob), .val (.long got), .second, .val (.long wh), .second] [(.long got)])) _
      refine own_by (fun t k => XS.lload X5.here hx rfl (hb hby at_214) rfl k) ?_
      show own_Go p.tables e below (T5.setTop (mkF m 216 #[.val (.long sel), .second, .val (.long bb), .second, .val (.int mode), .val (.int dd), .val (.long (2305843009213693951 : Int64)), .second, .val (.int kk), .val (.long r), .second, .val (.long d8), .second, .val (.int md), .val (.long y), .second, .val (.ref ob), .val (.long got), .second, .val (.long wh), .second] [(.long y), (.long got)])) _
      refine own_by (fun t k => XS.lcmp X5.here hx rfl (hb hby at_216) rfl k) ?_
      show own_Go p.tables e below (T5.setTop (mkF m 217 #[.val (.long sel), .second, .val (.long bb), .second, .val (.int mode), .val (.int dd), .val (.long (2305843009213693951 : Int64)), .second, .val (.int kk), .val (.long r), .second, .val (.long d8), .second, .val (.int md), .val (.long y), .second, .val (.ref ob), .val (.long got), .second, .val (.long wh), .second] [(.int (lcmpW got y))])) _
      refine own_by (fun t k => XS.ifNo X5.here hx rfl (hb hby at_217) rfl ((if0 _ _).trans (teq ((lw_eq got y).mpr (own_small hp hbB (Or.inl h1) hwh hgot))).2) k) ?_
      show own_Go p.tables e below (T5.setTop (mkF m 220 #[.val (.long sel), .second, .val (.long bb), .second, .val (.int mode), .val (.int dd), .val (.long (2305843009213693951 : Int64)), .second, .val (.int kk), .val (.long r), .second, .val (.long d8), .second, .val (.int md), .val (.long y), .second, .val (.ref ob), .val (.long got), .second, .val (.long wh), .second] [])) _
      refine own_by (fun t k => XS.iconst X5.here hx rfl (hb hby at_220) k) ?_
      show own_Go p.tables e below (T5.setTop (mkF m 221 #[.val (.long sel), .second, .val (.long bb), .second, .val (.int mode), .val (.int dd), .val (.long (2305843009213693951 : Int64)), .second, .val (.int kk), .val (.long r), .second, .val (.long d8), .second, .val (.int md), .val (.long y), .second, .val (.ref ob), .val (.long got), .second, .val (.long wh), .second] [(.int (1 : Int32))])) _
      refine own_by (fun t k => XS.goto X5.here hx rfl (pc0 := 221) (pc' := 225) rfl (hb hby at_221) (by decide) (by decide) k) ?_
      show own_Go p.tables e below (T5.setTop (mkF m 225 #[.val (.long sel), .second, .val (.long bb), .second, .val (.int mode), .val (.int dd), .val (.long (2305843009213693951 : Int64)), .second, .val (.int kk), .val (.long r), .second, .val (.long d8), .second, .val (.int md), .val (.long y), .second, .val (.ref ob), .val (.long got), .second, .val (.long wh), .second] [(.int (1 : Int32))])) _
      exact own_retN X5 hx Bd.notSynchronized (t := .boolean) Bd.returns (by simp) (by decide) (hb hby at_225) (by (try rw [eh5]); exact ⟨rfl, N5⟩) (by decide) (by decide)
  · refine own_by (fun t k => XS.ifYes X0.here hx rfl (pc0 := 49) (pc' := 61) rfl (hb hby at_49) rfl ((if0 _ _).trans (feq hm).2) (by decide) (by decide) k) ?_
    show own_Go p.tables e below (s₁.setTop (mkF m 61 #[.val (.long sel), .second, .val (.long bb), .second, .val (.int mode), .val (.int dd), .val (.long (2305843009213693951 : Int64)), .second, .val (.int kk), .val (.long r), .second, .val (.long d8), .second, .val (.int md), .unset, .unset, .unset, .unset, .unset, .unset, .unset] [])) _
    obtain ⟨raw, hraw, sj8⟩ : ∃ (raw : Int64), raw = (if md = (1 : Int32) then (((r >>> ((1 : Int32) &&& 0x3f).toInt64) - (16 : Int64)) + d8) else (if md = (2 : Int32) then ((r - (16 : Int64)) + d8) else (((r + (r >>> ((1 : Int32) &&& 0x3f).toInt64)) - (16 : Int64)) + d8))) ∧ ∀ t, Steps p.tables e below (s₁.setTop (mkF m 119 #[.val (.long sel), .second, .val (.long bb), .second, .val (.int mode), .val (.int dd), .val (.long (2305843009213693951 : Int64)), .second, .val (.int kk), .val (.long r), .second, .val (.long d8), .second, .val (.int md), .unset, .unset, .val (.long raw), .second, .unset, .unset, .unset] [])) t → Steps p.tables e below (s₁.setTop (mkF m 61 #[.val (.long sel), .second, .val (.long bb), .second, .val (.int mode), .val (.int dd), .val (.long (2305843009213693951 : Int64)), .second, .val (.int kk), .val (.long r), .second, .val (.long d8), .second, .val (.int md), .unset, .unset, .unset, .unset, .unset, .unset, .unset] [])) t := by
      by_cases j6 : md = (1 : Int32)
      · refine ⟨((((r >>> ((1 : Int32) &&& 0x3f).toInt64) - (16 : Int64)) + d8)), (if_pos j6).symm, fun t k => ?_⟩
        show Steps p.tables e below (s₁.setTop (mkF m 61 #[.val (.long sel), .second, .val (.long bb), .second, .val (.int mode), .val (.int dd), .val (.long (2305843009213693951 : Int64)), .second, .val (.int kk), .val (.long r), .second, .val (.long d8), .second, .val (.int md), .unset, .unset, .unset, .unset, .unset, .unset, .unset] [])) _
        refine XS.iload X0.here hx rfl (hb hby at_61) rfl ?_
        show Steps p.tables e below (s₁.setTop (mkF m 63 #[.val (.long sel), .second, .val (.long bb), .second, .val (.int mode), .val (.int dd), .val (.long (2305843009213693951 : Int64)), .second, .val (.int kk), .val (.long r), .second, .val (.long d8), .second, .val (.int md), .unset, .unset, .unset, .unset, .unset, .unset, .unset] [(.int md)])) _
        refine XS.iconst X0.here hx rfl (hb hby at_63) ?_
        show Steps p.tables e below (s₁.setTop (mkF m 64 #[.val (.long sel), .second, .val (.long bb), .second, .val (.int mode), .val (.int dd), .val (.long (2305843009213693951 : Int64)), .second, .val (.int kk), .val (.long r), .second, .val (.long d8), .second, .val (.int md), .unset, .unset, .unset, .unset, .unset, .unset, .unset] [(.int (1 : Int32)), (.int md)])) _
        refine XS.icmpNo X0.here hx rfl (hb hby at_64) rfl (teq j6).2 ?_
        show Steps p.tables e below (s₁.setTop (mkF m 67 #[.val (.long sel), .second, .val (.long bb), .second, .val (.int mode), .val (.int dd), .val (.long (2305843009213693951 : Int64)), .second, .val (.int kk), .val (.long r), .second, .val (.long d8), .second, .val (.int md), .unset, .unset, .unset, .unset, .unset, .unset, .unset] [])) _
        refine XS.lload X0.here hx rfl (hb hby at_67) rfl ?_
        show Steps p.tables e below (s₁.setTop (mkF m 69 #[.val (.long sel), .second, .val (.long bb), .second, .val (.int mode), .val (.int dd), .val (.long (2305843009213693951 : Int64)), .second, .val (.int kk), .val (.long r), .second, .val (.long d8), .second, .val (.int md), .unset, .unset, .unset, .unset, .unset, .unset, .unset] [(.long r)])) _
        refine XS.iconst X0.here hx rfl (hb hby at_69) ?_
        show Steps p.tables e below (s₁.setTop (mkF m 70 #[.val (.long sel), .second, .val (.long bb), .second, .val (.int mode), .val (.int dd), .val (.long (2305843009213693951 : Int64)), .second, .val (.int kk), .val (.long r), .second, .val (.long d8), .second, .val (.int md), .unset, .unset, .unset, .unset, .unset, .unset, .unset] [(.int (1 : Int32)), (.long r)])) _
        refine XS.lshr X0.here hx rfl (hb hby at_70) rfl ?_
        show Steps p.tables e below (s₁.setTop (mkF m 71 #[.val (.long sel), .second, .val (.long bb), .second, .val (.int mode), .val (.int dd), .val (.long (2305843009213693951 : Int64)), .second, .val (.int kk), .val (.long r), .second, .val (.long d8), .second, .val (.int md), .unset, .unset, .unset, .unset, .unset, .unset, .unset] [(.long (r >>> ((1 : Int32) &&& 0x3f).toInt64))])) _
        refine X0.ldc2Long hx hown (mvT hZ (hw _ (List.mem_of_getElem? (i := 25) rfl))) (g := (mkF m 71 #[.val (.long sel), .second, .val (.long bb), .second, .val (.int mode), .val (.int dd), .val (.long (2305843009213693951 : Int64)), .second, .val (.int kk), .val (.long r), .second, .val (.long d8), .second, .val (.int md), .unset, .unset, .unset, .unset, .unset, .unset, .unset] [(.long (r >>> ((1 : Int32) &&& 0x3f).toInt64))])) rfl (hb hby at_71) _ ?_
        show Steps p.tables e below (s₁.setTop (mkF m 74 #[.val (.long sel), .second, .val (.long bb), .second, .val (.int mode), .val (.int dd), .val (.long (2305843009213693951 : Int64)), .second, .val (.int kk), .val (.long r), .second, .val (.long d8), .second, .val (.int md), .unset, .unset, .unset, .unset, .unset, .unset, .unset] [(.long (16 : Int64)), (.long (r >>> ((1 : Int32) &&& 0x3f).toInt64))])) _
        refine XS.lsub X0.here hx rfl (hb hby at_74) rfl ?_
        show Steps p.tables e below (s₁.setTop (mkF m 75 #[.val (.long sel), .second, .val (.long bb), .second, .val (.int mode), .val (.int dd), .val (.long (2305843009213693951 : Int64)), .second, .val (.int kk), .val (.long r), .second, .val (.long d8), .second, .val (.int md), .unset, .unset, .unset, .unset, .unset, .unset, .unset] [(.long ((r >>> ((1 : Int32) &&& 0x3f).toInt64) - (16 : Int64)))])) _
        refine XS.lload X0.here hx rfl (hb hby at_75) rfl ?_
        show Steps p.tables e below (s₁.setTop (mkF m 77 #[.val (.long sel), .second, .val (.long bb), .second, .val (.int mode), .val (.int dd), .val (.long (2305843009213693951 : Int64)), .second, .val (.int kk), .val (.long r), .second, .val (.long d8), .second, .val (.int md), .unset, .unset, .unset, .unset, .unset, .unset, .unset] [(.long d8), (.long ((r >>> ((1 : Int32) &&& 0x3f).toInt64) - (16 : Int64)))])) _
        refine XS.ladd X0.here hx rfl (hb hby at_77) rfl ?_
        show Steps p.tables e below (s₁.setTop (mkF m 78 #[.val (.long sel), .second, .val (.long bb), .second, .val (.int mode), .val (.int dd), .val (.long (2305843009213693951 : Int64)), .second, .val (.int kk), .val (.long r), .second, .val (.long d8), .second, .val (.int md), .unset, .unset, .unset, .unset, .unset, .unset, .unset] [(.long (((r >>> ((1 : Int32) &&& 0x3f).toInt64) - (16 : Int64)) + d8))])) _
        refine XS.lstore X0.here hx rfl (hb hby at_78) rfl (l' := #[.val (.long sel), .second, .val (.long bb), .second, .val (.int mode), .val (.int dd), .val (.long (2305843009213693951 : Int64)), .second, .val (.int kk), .val (.long r), .second, .val (.long d8), .second, .val (.int md), .unset, .unset, .val (.long (((r >>> ((1 : Int32) &&& 0x3f).toInt64) - (16 : Int64)) + d8)), .second, .unset, .unset, .unset]) rfl ?_
        show Steps p.tables e below (s₁.setTop (mkF m 80 #[.val (.long sel), .second, .val (.long bb), .second, .val (.int mode), .val (.int dd), .val (.long (2305843009213693951 : Int64)), .second, .val (.int kk), .val (.long r), .second, .val (.long d8), .second, .val (.int md), .unset, .unset, .val (.long (((r >>> ((1 : Int32) &&& 0x3f).toInt64) - (16 : Int64)) + d8)), .second, .unset, .unset, .unset] [])) _
        refine XS.goto X0.here hx rfl (pc0 := 80) (pc' := 119) rfl (hb hby at_80) (by decide) (by decide) ?_
        show Steps p.tables e below (s₁.setTop (mkF m 119 #[.val (.long sel), .second, .val (.long bb), .second, .val (.int mode), .val (.int dd), .val (.long (2305843009213693951 : Int64)), .second, .val (.int kk), .val (.long r), .second, .val (.long d8), .second, .val (.int md), .unset, .unset, .val (.long (((r >>> ((1 : Int32) &&& 0x3f).toInt64) - (16 : Int64)) + d8)), .second, .unset, .unset, .unset] [])) _
        exact k
      · by_cases j7 : md = (2 : Int32)
        · refine ⟨(((r - (16 : Int64)) + d8)), ((if_neg j6).trans (if_pos j7)).symm, fun t k => ?_⟩
          show Steps p.tables e below (s₁.setTop (mkF m 61 #[.val (.long sel), .second, .val (.long bb), .second, .val (.int mode), .val (.int dd), .val (.long (2305843009213693951 : Int64)), .second, .val (.int kk), .val (.long r), .second, .val (.long d8), .second, .val (.int md), .unset, .unset, .unset, .unset, .unset, .unset, .unset] [])) _
          refine XS.iload X0.here hx rfl (hb hby at_61) rfl ?_
          show Steps p.tables e below (s₁.setTop (mkF m 63 #[.val (.long sel), .second, .val (.long bb), .second, .val (.int mode), .val (.int dd), .val (.long (2305843009213693951 : Int64)), .second, .val (.int kk), .val (.long r), .second, .val (.long d8), .second, .val (.int md), .unset, .unset, .unset, .unset, .unset, .unset, .unset] [(.int md)])) _
          refine XS.iconst X0.here hx rfl (hb hby at_63) ?_
          show Steps p.tables e below (s₁.setTop (mkF m 64 #[.val (.long sel), .second, .val (.long bb), .second, .val (.int mode), .val (.int dd), .val (.long (2305843009213693951 : Int64)), .second, .val (.int kk), .val (.long r), .second, .val (.long d8), .second, .val (.int md), .unset, .unset, .unset, .unset, .unset, .unset, .unset] [(.int (1 : Int32)), (.int md)])) _
          refine XS.icmpYes X0.here hx rfl (pc0 := 64) (pc' := 83) rfl (hb hby at_64) rfl (feq j6).2 (by decide) (by decide) ?_
          show Steps p.tables e below (s₁.setTop (mkF m 83 #[.val (.long sel), .second, .val (.long bb), .second, .val (.int mode), .val (.int dd), .val (.long (2305843009213693951 : Int64)), .second, .val (.int kk), .val (.long r), .second, .val (.long d8), .second, .val (.int md), .unset, .unset, .unset, .unset, .unset, .unset, .unset] [])) _
          refine XS.iload X0.here hx rfl (hb hby at_83) rfl ?_
          show Steps p.tables e below (s₁.setTop (mkF m 85 #[.val (.long sel), .second, .val (.long bb), .second, .val (.int mode), .val (.int dd), .val (.long (2305843009213693951 : Int64)), .second, .val (.int kk), .val (.long r), .second, .val (.long d8), .second, .val (.int md), .unset, .unset, .unset, .unset, .unset, .unset, .unset] [(.int md)])) _
          refine XS.iconst X0.here hx rfl (hb hby at_85) ?_
          show Steps p.tables e below (s₁.setTop (mkF m 86 #[.val (.long sel), .second, .val (.long bb), .second, .val (.int mode), .val (.int dd), .val (.long (2305843009213693951 : Int64)), .second, .val (.int kk), .val (.long r), .second, .val (.long d8), .second, .val (.int md), .unset, .unset, .unset, .unset, .unset, .unset, .unset] [(.int (2 : Int32)), (.int md)])) _
          refine XS.icmpNo X0.here hx rfl (hb hby at_86) rfl (teq j7).2 ?_
          show Steps p.tables e below (s₁.setTop (mkF m 89 #[.val (.long sel), .second, .val (.long bb), .second, .val (.int mode), .val (.int dd), .val (.long (2305843009213693951 : Int64)), .second, .val (.int kk), .val (.long r), .second, .val (.long d8), .second, .val (.int md), .unset, .unset, .unset, .unset, .unset, .unset, .unset] [])) _
          refine XS.lload X0.here hx rfl (hb hby at_89) rfl ?_
          show Steps p.tables e below (s₁.setTop (mkF m 91 #[.val (.long sel), .second, .val (.long bb), .second, .val (.int mode), .val (.int dd), .val (.long (2305843009213693951 : Int64)), .second, .val (.int kk), .val (.long r), .second, .val (.long d8), .second, .val (.int md), .unset, .unset, .unset, .unset, .unset, .unset, .unset] [(.long r)])) _
          refine X0.ldc2Long hx hown (mvT hZ (hw _ (List.mem_of_getElem? (i := 25) rfl))) (g := (mkF m 91 #[.val (.long sel), .second, .val (.long bb), .second, .val (.int mode), .val (.int dd), .val (.long (2305843009213693951 : Int64)), .second, .val (.int kk), .val (.long r), .second, .val (.long d8), .second, .val (.int md), .unset, .unset, .unset, .unset, .unset, .unset, .unset] [(.long r)])) rfl (hb hby at_91) _ ?_
          show Steps p.tables e below (s₁.setTop (mkF m 94 #[.val (.long sel), .second, .val (.long bb), .second, .val (.int mode), .val (.int dd), .val (.long (2305843009213693951 : Int64)), .second, .val (.int kk), .val (.long r), .second, .val (.long d8), .second, .val (.int md), .unset, .unset, .unset, .unset, .unset, .unset, .unset] [(.long (16 : Int64)), (.long r)])) _
          refine XS.lsub X0.here hx rfl (hb hby at_94) rfl ?_
          show Steps p.tables e below (s₁.setTop (mkF m 95 #[.val (.long sel), .second, .val (.long bb), .second, .val (.int mode), .val (.int dd), .val (.long (2305843009213693951 : Int64)), .second, .val (.int kk), .val (.long r), .second, .val (.long d8), .second, .val (.int md), .unset, .unset, .unset, .unset, .unset, .unset, .unset] [(.long (r - (16 : Int64)))])) _
          refine XS.lload X0.here hx rfl (hb hby at_95) rfl ?_
          show Steps p.tables e below (s₁.setTop (mkF m 97 #[.val (.long sel), .second, .val (.long bb), .second, .val (.int mode), .val (.int dd), .val (.long (2305843009213693951 : Int64)), .second, .val (.int kk), .val (.long r), .second, .val (.long d8), .second, .val (.int md), .unset, .unset, .unset, .unset, .unset, .unset, .unset] [(.long d8), (.long (r - (16 : Int64)))])) _
          refine XS.ladd X0.here hx rfl (hb hby at_97) rfl ?_
          show Steps p.tables e below (s₁.setTop (mkF m 98 #[.val (.long sel), .second, .val (.long bb), .second, .val (.int mode), .val (.int dd), .val (.long (2305843009213693951 : Int64)), .second, .val (.int kk), .val (.long r), .second, .val (.long d8), .second, .val (.int md), .unset, .unset, .unset, .unset, .unset, .unset, .unset] [(.long ((r - (16 : Int64)) + d8))])) _
          refine XS.lstore X0.here hx rfl (hb hby at_98) rfl (l' := #[.val (.long sel), .second, .val (.long bb), .second, .val (.int mode), .val (.int dd), .val (.long (2305843009213693951 : Int64)), .second, .val (.int kk), .val (.long r), .second, .val (.long d8), .second, .val (.int md), .unset, .unset, .val (.long ((r - (16 : Int64)) + d8)), .second, .unset, .unset, .unset]) rfl ?_
          show Steps p.tables e below (s₁.setTop (mkF m 100 #[.val (.long sel), .second, .val (.long bb), .second, .val (.int mode), .val (.int dd), .val (.long (2305843009213693951 : Int64)), .second, .val (.int kk), .val (.long r), .second, .val (.long d8), .second, .val (.int md), .unset, .unset, .val (.long ((r - (16 : Int64)) + d8)), .second, .unset, .unset, .unset] [])) _
          refine XS.goto X0.here hx rfl (pc0 := 100) (pc' := 119) rfl (hb hby at_100) (by decide) (by decide) ?_
          show Steps p.tables e below (s₁.setTop (mkF m 119 #[.val (.long sel), .second, .val (.long bb), .second, .val (.int mode), .val (.int dd), .val (.long (2305843009213693951 : Int64)), .second, .val (.int kk), .val (.long r), .second, .val (.long d8), .second, .val (.int md), .unset, .unset, .val (.long ((r - (16 : Int64)) + d8)), .second, .unset, .unset, .unset] [])) _
          exact k
        · refine ⟨((((r + (r >>> ((1 : Int32) &&& 0x3f).toInt64)) - (16 : Int64)) + d8)), ((if_neg j6).trans (if_neg j7)).symm, fun t k => ?_⟩
          show Steps p.tables e below (s₁.setTop (mkF m 61 #[.val (.long sel), .second, .val (.long bb), .second, .val (.int mode), .val (.int dd), .val (.long (2305843009213693951 : Int64)), .second, .val (.int kk), .val (.long r), .second, .val (.long d8), .second, .val (.int md), .unset, .unset, .unset, .unset, .unset, .unset, .unset] [])) _
          refine XS.iload X0.here hx rfl (hb hby at_61) rfl ?_
          show Steps p.tables e below (s₁.setTop (mkF m 63 #[.val (.long sel), .second, .val (.long bb), .second, .val (.int mode), .val (.int dd), .val (.long (2305843009213693951 : Int64)), .second, .val (.int kk), .val (.long r), .second, .val (.long d8), .second, .val (.int md), .unset, .unset, .unset, .unset, .unset, .unset, .unset] [(.int md)])) _
          refine XS.iconst X0.here hx rfl (hb hby at_63) ?_
          show Steps p.tables e below (s₁.setTop (mkF m 64 #[.val (.long sel), .second, .val (.long bb), .second, .val (.int mode), .val (.int dd), .val (.long (2305843009213693951 : Int64)), .second, .val (.int kk), .val (.long r), .second, .val (.long d8), .second, .val (.int md), .unset, .unset, .unset, .unset, .unset, .unset, .unset] [(.int (1 : Int32)), (.int md)])) _
          refine XS.icmpYes X0.here hx rfl (pc0 := 64) (pc' := 83) rfl (hb hby at_64) rfl (feq j6).2 (by decide) (by decide) ?_
          show Steps p.tables e below (s₁.setTop (mkF m 83 #[.val (.long sel), .second, .val (.long bb), .second, .val (.int mode), .val (.int dd), .val (.long (2305843009213693951 : Int64)), .second, .val (.int kk), .val (.long r), .second, .val (.long d8), .second, .val (.int md), .unset, .unset, .unset, .unset, .unset, .unset, .unset] [])) _
          refine XS.iload X0.here hx rfl (hb hby at_83) rfl ?_
          show Steps p.tables e below (s₁.setTop (mkF m 85 #[.val (.long sel), .second, .val (.long bb), .second, .val (.int mode), .val (.int dd), .val (.long (2305843009213693951 : Int64)), .second, .val (.int kk), .val (.long r), .second, .val (.long d8), .second, .val (.int md), .unset, .unset, .unset, .unset, .unset, .unset, .unset] [(.int md)])) _
          refine XS.iconst X0.here hx rfl (hb hby at_85) ?_
          show Steps p.tables e below (s₁.setTop (mkF m 86 #[.val (.long sel), .second, .val (.long bb), .second, .val (.int mode), .val (.int dd), .val (.long (2305843009213693951 : Int64)), .second, .val (.int kk), .val (.long r), .second, .val (.long d8), .second, .val (.int md), .unset, .unset, .unset, .unset, .unset, .unset, .unset] [(.int (2 : Int32)), (.int md)])) _
          refine XS.icmpYes X0.here hx rfl (pc0 := 86) (pc' := 103) rfl (hb hby at_86) rfl (feq j7).2 (by decide) (by decide) ?_
          show Steps p.tables e below (s₁.setTop (mkF m 103 #[.val (.long sel), .second, .val (.long bb), .second, .val (.int mode), .val (.int dd), .val (.long (2305843009213693951 : Int64)), .second, .val (.int kk), .val (.long r), .second, .val (.long d8), .second, .val (.int md), .unset, .unset, .unset, .unset, .unset, .unset, .unset] [])) _
          refine XS.lload X0.here hx rfl (hb hby at_103) rfl ?_
          show Steps p.tables e below (s₁.setTop (mkF m 105 #[.val (.long sel), .second, .val (.long bb), .second, .val (.int mode), .val (.int dd), .val (.long (2305843009213693951 : Int64)), .second, .val (.int kk), .val (.long r), .second, .val (.long d8), .second, .val (.int md), .unset, .unset, .unset, .unset, .unset, .unset, .unset] [(.long r)])) _
          refine XS.lload X0.here hx rfl (hb hby at_105) rfl ?_
          show Steps p.tables e below (s₁.setTop (mkF m 107 #[.val (.long sel), .second, .val (.long bb), .second, .val (.int mode), .val (.int dd), .val (.long (2305843009213693951 : Int64)), .second, .val (.int kk), .val (.long r), .second, .val (.long d8), .second, .val (.int md), .unset, .unset, .unset, .unset, .unset, .unset, .unset] [(.long r), (.long r)])) _
          refine XS.iconst X0.here hx rfl (hb hby at_107) ?_
          show Steps p.tables e below (s₁.setTop (mkF m 108 #[.val (.long sel), .second, .val (.long bb), .second, .val (.int mode), .val (.int dd), .val (.long (2305843009213693951 : Int64)), .second, .val (.int kk), .val (.long r), .second, .val (.long d8), .second, .val (.int md), .unset, .unset, .unset, .unset, .unset, .unset, .unset] [(.int (1 : Int32)), (.long r), (.long r)])) _
          refine XS.lshr X0.here hx rfl (hb hby at_108) rfl ?_
          show Steps p.tables e below (s₁.setTop (mkF m 109 #[.val (.long sel), .second, .val (.long bb), .second, .val (.int mode), .val (.int dd), .val (.long (2305843009213693951 : Int64)), .second, .val (.int kk), .val (.long r), .second, .val (.long d8), .second, .val (.int md), .unset, .unset, .unset, .unset, .unset, .unset, .unset] [(.long (r >>> ((1 : Int32) &&& 0x3f).toInt64)), (.long r)])) _
          refine XS.ladd X0.here hx rfl (hb hby at_109) rfl ?_
          show Steps p.tables e below (s₁.setTop (mkF m 110 #[.val (.long sel), .second, .val (.long bb), .second, .val (.int mode), .val (.int dd), .val (.long (2305843009213693951 : Int64)), .second, .val (.int kk), .val (.long r), .second, .val (.long d8), .second, .val (.int md), .unset, .unset, .unset, .unset, .unset, .unset, .unset] [(.long (r + (r >>> ((1 : Int32) &&& 0x3f).toInt64)))])) _
          refine X0.ldc2Long hx hown (mvT hZ (hw _ (List.mem_of_getElem? (i := 25) rfl))) (g := (mkF m 110 #[.val (.long sel), .second, .val (.long bb), .second, .val (.int mode), .val (.int dd), .val (.long (2305843009213693951 : Int64)), .second, .val (.int kk), .val (.long r), .second, .val (.long d8), .second, .val (.int md), .unset, .unset, .unset, .unset, .unset, .unset, .unset] [(.long (r + (r >>> ((1 : Int32) &&& 0x3f).toInt64)))])) rfl (hb hby at_110) _ ?_
          show Steps p.tables e below (s₁.setTop (mkF m 113 #[.val (.long sel), .second, .val (.long bb), .second, .val (.int mode), .val (.int dd), .val (.long (2305843009213693951 : Int64)), .second, .val (.int kk), .val (.long r), .second, .val (.long d8), .second, .val (.int md), .unset, .unset, .unset, .unset, .unset, .unset, .unset] [(.long (16 : Int64)), (.long (r + (r >>> ((1 : Int32) &&& 0x3f).toInt64)))])) _
          refine XS.lsub X0.here hx rfl (hb hby at_113) rfl ?_
          show Steps p.tables e below (s₁.setTop (mkF m 114 #[.val (.long sel), .second, .val (.long bb), .second, .val (.int mode), .val (.int dd), .val (.long (2305843009213693951 : Int64)), .second, .val (.int kk), .val (.long r), .second, .val (.long d8), .second, .val (.int md), .unset, .unset, .unset, .unset, .unset, .unset, .unset] [(.long ((r + (r >>> ((1 : Int32) &&& 0x3f).toInt64)) - (16 : Int64)))])) _
          refine XS.lload X0.here hx rfl (hb hby at_114) rfl ?_
          show Steps p.tables e below (s₁.setTop (mkF m 116 #[.val (.long sel), .second, .val (.long bb), .second, .val (.int mode), .val (.int dd), .val (.long (2305843009213693951 : Int64)), .second, .val (.int kk), .val (.long r), .second, .val (.long d8), .second, .val (.int md), .unset, .unset, .unset, .unset, .unset, .unset, .unset] [(.long d8), (.long ((r + (r >>> ((1 : Int32) &&& 0x3f).toInt64)) - (16 : Int64)))])) _
          refine XS.ladd X0.here hx rfl (hb hby at_116) rfl ?_
          show Steps p.tables e below (s₁.setTop (mkF m 117 #[.val (.long sel), .second, .val (.long bb), .second, .val (.int mode), .val (.int dd), .val (.long (2305843009213693951 : Int64)), .second, .val (.int kk), .val (.long r), .second, .val (.long d8), .second, .val (.int md), .unset, .unset, .unset, .unset, .unset, .unset, .unset] [(.long (((r + (r >>> ((1 : Int32) &&& 0x3f).toInt64)) - (16 : Int64)) + d8))])) _
          refine XS.lstore X0.here hx rfl (hb hby at_117) rfl (l' := #[.val (.long sel), .second, .val (.long bb), .second, .val (.int mode), .val (.int dd), .val (.long (2305843009213693951 : Int64)), .second, .val (.int kk), .val (.long r), .second, .val (.long d8), .second, .val (.int md), .unset, .unset, .val (.long (((r + (r >>> ((1 : Int32) &&& 0x3f).toInt64)) - (16 : Int64)) + d8)), .second, .unset, .unset, .unset]) rfl ?_
          show Steps p.tables e below (s₁.setTop (mkF m 119 #[.val (.long sel), .second, .val (.long bb), .second, .val (.int mode), .val (.int dd), .val (.long (2305843009213693951 : Int64)), .second, .val (.int kk), .val (.long r), .second, .val (.long d8), .second, .val (.int md), .unset, .unset, .val (.long (((r + (r >>> ((1 : Int32) &&& 0x3f).toInt64)) - (16 : Int64)) + d8)), .second, .unset, .unset, .unset] [])) _
          exact k
    refine own_by (sj8) ?_
    show own_Go p.tables e below (s₁.setTop (mkF m 119 #[.val (.long sel), .second, .val (.long bb), .second, .val (.int mode), .val (.int dd), .val (.long (2305843009213693951 : Int64)), .second, .val (.int kk), .val (.long r), .second, .val (.long d8), .second, .val (.int md), .unset, .unset, .val (.long raw), .second, .unset, .unset, .unset] [])) _
    refine own_by (fun t k => XS.lconst X0.here hx rfl (hb hby at_119) k) ?_
    show own_Go p.tables e below (s₁.setTop (mkF m 120 #[.val (.long sel), .second, .val (.long bb), .second, .val (.int mode), .val (.int dd), .val (.long (2305843009213693951 : Int64)), .second, .val (.int kk), .val (.long r), .second, .val (.long d8), .second, .val (.int md), .unset, .unset, .val (.long raw), .second, .unset, .unset, .unset] [(.long (0 : Int64))])) _
    refine own_by (fun t k => XS.lload X0.here hx rfl (hb hby at_120) rfl k) ?_
    show own_Go p.tables e below (s₁.setTop (mkF m 122 #[.val (.long sel), .second, .val (.long bb), .second, .val (.int mode), .val (.int dd), .val (.long (2305843009213693951 : Int64)), .second, .val (.int kk), .val (.long r), .second, .val (.long d8), .second, .val (.int md), .unset, .unset, .val (.long raw), .second, .unset, .unset, .unset] [(.long raw), (.long (0 : Int64))])) _
    obtain ⟨_, _, ⟨T9, L9, k9, n9⟩, -, X9, ⟨Lc9, hQ9, l9, y9, z9⟩, st9⟩ := Jvm.LawKit.callS X0 hx (y := (⟨"java/lang/Math", "max", "(JJ)J"⟩ : MethodName)) hown (mvT hZ (hw _ (List.mem_of_getElem? (i := 26) rfl))) (mvT hZ (hw _ (List.mem_of_getElem? (i := 27) rfl))) (mvT hZ (hw _ (List.mem_of_getElem? (i := 28) rfl))) (mvT hZ (hw _ (List.mem_of_getElem? (i := 29) rfl))) (by decide) (backOf (W := 0) (rm_max l Z a0 hw [] (0 : Int64) raw  h0 n0 (Nat.le_trans Z0 (Keep.refl h0 []).1) ) hZ (hw _ (List.mem_of_getElem? (i := 29) rfl)) (hw _ (List.mem_of_getElem? (i := 28) rfl)) (by decide) (by decide)) (g := (mkF m 122 #[.val (.long sel), .second, .val (.long bb), .second, .val (.int mode), .val (.int dd), .val (.long (2305843009213693951 : Int64)), .second, .val (.int kk), .val (.long r), .second, .val (.long d8), .second, .val (.int md), .unset, .unset, .val (.long raw), .second, .unset, .unset, .unset] [(.long raw), (.long (0 : Int64))])) rfl (by rw [hml]; rfl) (argsL := [(.long (0 : Int64)), (.long raw)]) (rest := []) (lenOf pd_67 rfl) rfl (by show 2 * 0 + _ ≤ _; exact Nat.le_of_eq rfl) (hb hby at_122) (fun _ _ => ⟨rfl, e0, (by decide : 0 + 0 ≤ _), (by decide : 0 + 0 ≤ _)⟩)
    dsimp only [Pt.U, Pt.locs, Pt.cells, Pt.slots] at X9 l9 y9 z9 st9 hQ9
    subst l9 y9 z9
    obtain ⟨mx, rfl, N9q, eh9, hmx⟩ := hQ9
    have N9 := Fr.app N0 N9q
    refine own_by (st9) ?_
    show own_Go p.tables e below (T9.setTop (mkF m 125 #[.val (.long sel), .second, .val (.long bb), .second, .val (.int mode), .val (.int dd), .val (.long (2305843009213693951 : Int64)), .second, .val (.int kk), .val (.long r), .second, .val (.long d8), .second, .val (.int md), .unset, .unset, .val (.long raw), .second, .unset, .unset, .unset] [(.long mx)])) _
    refine own_by (fun t k => XS.lload X9.here hx rfl (hb hby at_125) rfl k) ?_
    show own_Go p.tables e below (T9.setTop (mkF m 127 #[.val (.long sel), .second, .val (.long bb), .second, .val (.int mode), .val (.int dd), .val (.long (2305843009213693951 : Int64)), .second, .val (.int kk), .val (.long r), .second, .val (.long d8), .second, .val (.int md), .unset, .unset, .val (.long raw), .second, .unset, .unset, .unset] [(.long (2305843009213693951 : Int64)), (.long mx)])) _
    refine own_by (fun t k => XS.land X9.here hx rfl (hb hby at_127) rfl k) ?_
    show own_Go p.tables e below (T9.setTop (mkF m 128 #[.val (.long sel), .second, .val (.long bb), .second, .val (.int mode), .val (.int dd), .val (.long (2305843009213693951 : Int64)), .second, .val (.int kk), .val (.long r), .second, .val (.long d8), .second, .val (.int md), .unset, .unset, .val (.long raw), .second, .unset, .unset, .unset] [(.long (mx &&& (2305843009213693951 : Int64)))])) _
    obtain ⟨y, hy⟩ : ∃ z, z = (mx &&& (2305843009213693951 : Int64)) := ⟨_, rfl⟩
    rw [← hy]
    show own_Go p.tables e below (T9.setTop (mkF m 128 #[.val (.long sel), .second, .val (.long bb), .second, .val (.int mode), .val (.int dd), .val (.long (2305843009213693951 : Int64)), .second, .val (.int kk), .val (.long r), .second, .val (.long d8), .second, .val (.int md), .unset, .unset, .val (.long raw), .second, .unset, .unset, .unset] [(.long y)])) _
    have hbB : own_B y := own_isB hy
    refine own_by (fun t k => XS.lstore X9.here hx rfl (hb hby at_128) rfl (l' := #[.val (.long sel), .second, .val (.long bb), .second, .val (.int mode), .val (.int dd), .val (.long (2305843009213693951 : Int64)), .second, .val (.int kk), .val (.long r), .second, .val (.long d8), .second, .val (.int md), .val (.long y), .second, .val (.long raw), .second, .unset, .unset, .unset]) rfl k) ?_
    show own_Go p.tables e below (T9.setTop (mkF m 130 #[.val (.long sel), .second, .val (.long bb), .second, .val (.int mode), .val (.int dd), .val (.long (2305843009213693951 : Int64)), .second, .val (.int kk), .val (.long r), .second, .val (.long d8), .second, .val (.int md), .val (.long y), .second, .val (.long raw), .second, .unset, .unset, .unset] [])) _
    obtain ⟨T10, hea10, X10, e10, E10, A10, D10, -, st10⟩ := newO X9 hx hZ hown (hw _ (List.mem_of_getElem? (i := 2) rfl)) (hw _ (List.mem_of_getElem? (i := 3) rfl)) (hw _ (List.mem_of_getElem? (i := 4) rfl)) eh9 (g := (mkF m 130 #[.val (.long sel), .second, .val (.long bb), .second, .val (.int mode), .val (.int dd), .val (.long (2305843009213693951 : Int64)), .second, .val (.int kk), .val (.long r), .second, .val (.long d8), .second, .val (.int md), .val (.long y), .second, .val (.long raw), .second, .unset, .unset, .unset] [])) rfl (hb hby at_130) (by decide) (by decide)
    obtain ⟨ob, g10⟩ : ∃ z, z = h0.size := ⟨_, rfl⟩
    rw [← g10] at A10 D10 st10
    have sz_ob : h0.size ≤ ob := Nat.le_trans (Keep.refl h0 []).1 (Nat.le_of_eq g10.symm)
    have K10 : Keep h0 hea10 [] := (Keep.refl h0 []).ext E10
    refine own_by (st10) ?_
    have F10_regionBytes : Fld Z hea10 ob "com/example/tidemark/tidemark/service/HeapRegions" "regionBytes" "J" (.long (0 : Int64)) := D10 (Or.inr (hw _ (List.mem_of_getElem? (i := 17) rfl))) (ty := .long) (by decide)
    show own_Go p.tables e below (T10.setTop (mkF m 133 #[.val (.long sel), .second, .val (.long bb), .second, .val (.int mode), .val (.int dd), .val (.long (2305843009213693951 : Int64)), .second, .val (.int kk), .val (.long r), .second, .val (.long d8), .second, .val (.int md), .val (.long y), .second, .val (.long raw), .second, .unset, .unset, .unset] [(.ref ob)])) _
    refine own_by (fun t k => XS.dup X10.here hx rfl (hb hby at_133) rfl rfl k) ?_
    show own_Go p.tables e below (T10.setTop (mkF m 134 #[.val (.long sel), .second, .val (.long bb), .second, .val (.int mode), .val (.int dd), .val (.long (2305843009213693951 : Int64)), .second, .val (.int kk), .val (.long r), .second, .val (.long d8), .second, .val (.int md), .val (.long y), .second, .val (.long raw), .second, .unset, .unset, .unset] [(.ref ob), (.ref ob)])) _
    refine own_by (fun t k => XS.lload X10.here hx rfl (hb hby at_134) rfl k) ?_
    show own_Go p.tables e below (T10.setTop (mkF m 136 #[.val (.long sel), .second, .val (.long bb), .second, .val (.int mode), .val (.int dd), .val (.long (2305843009213693951 : Int64)), .second, .val (.int kk), .val (.long r), .second, .val (.long d8), .second, .val (.int md), .val (.long y), .second, .val (.long raw), .second, .unset, .unset, .unset] [(.long r), (.ref ob), (.ref ob)])) _
    obtain ⟨_, _, ⟨T11, L11, k11, n11⟩, -, X11, ⟨Lc11, hQ11, l11, y11, z11⟩, st11⟩ := X10.specialBack hx (y := (⟨"com/example/tidemark/tidemark/service/HeapRegions", "<init>", "(J)V"⟩ : MethodName)) rfl hown (mvT hZ (hw _ (List.mem_of_getElem? (i := 5) rfl))) (mvT hZ (hw _ (List.mem_of_getElem? (i := 6) rfl))) (mvT hZ (hw _ (List.mem_of_getElem? (i := 7) rfl))) (by decide) (backOf (W := 1) (rm_new l Z a0 hw [] ob r  hea10 n0 (Nat.le_trans Z0 K10.1) F10_regionBytes A10 (Nat.le_trans Z0 sz_ob) (own_p0 hp) (own_p1 hp)) hZ (hw _ (List.mem_of_getElem? (i := 7) rfl)) (hw _ (List.mem_of_getElem? (i := 4) rfl)) (by decide) (by decide)) (g := (mkF m 136 #[.val (.long sel), .second, .val (.long bb), .second, .val (.int mode), .val (.int dd), .val (.long (2305843009213693951 : Int64)), .second, .val (.int kk), .val (.long r), .second, .val (.long d8), .second, .val (.int md), .val (.long y), .second, .val (.long raw), .second, .unset, .unset, .unset] [(.long r), (.ref ob), (.ref ob)])) rfl (by rw [hml]; rfl) (Steps.refl _) (a := ob) (argsL := [(.long r)]) (rest := [(.ref ob)]) (lenOf pd_65 rfl) rfl (by show 2 * 0 + _ ≤ _; exact Nat.le_of_eq rfl) (hb hby at_136) (fun _ _ => ⟨rfl, e10, (by decide : 1 + 0 ≤ _), (by decide : 1 + 0 ≤ _)⟩)
    dsimp only [Pt.U, Pt.locs, Pt.cells, Pt.slots] at X11 l11 y11 z11 st11 hQ11
    subst l11 y11 z11
    obtain ⟨rfl, N11q, Kc11, Fc11⟩ := hQ11
    have N11 := Fr.app N9 N11q
    have K11 : Keep h0 T11.heap [] := K10.trans Kc11 (allS (Or.inr sz_ob) all0)
    refine own_tr st11 ?_
    show own_Go p.tables e below (T11.setTop (mkF m 139 #[.val (.long sel), .second, .val (.long bb), .second, .val (.int mode), .val (.int dd), .val (.long (2305843009213693951 : Int64)), .second, .val (.int kk), .val (.long r), .second, .val (.long d8), .second, .val (.int md), .val (.long y), .second, .val (.long raw), .second, .unset, .unset, .unset] [(.ref ob)])) _
    refine own_by (fun t k => XS.astore X11.here hx rfl (hb hby at_139) rfl rfl (l' := #[.val (.long sel), .second, .val (.long bb), .second, .val (.int mode), .val (.int dd), .val (.long (2305843009213693951 : Int64)), .second, .val (.int kk), .val (.long r), .second, .val (.long d8), .second, .val (.int md), .val (.long y), .second, .val (.ref ob), .unset, .unset, .unset, .unset]) rfl k) ?_
    show own_Go p.tables e below (T11.setTop (mkF m 141 #[.val (.long sel), .second, .val (.long bb), .second, .val (.int mode), .val (.int dd), .val (.long (2305843009213693951 : Int64)), .second, .val (.int kk), .val (.long r), .second, .val (.long d8), .second, .val (.int md), .val (.long y), .second, .val (.ref ob), .unset, .unset, .unset, .unset] [])) _
    refine own_by (fun t k => XS.aload X11.here hx rfl (hb hby at_141) rfl rfl k) ?_
    show own_Go p.tables e below (T11.setTop (mkF m 143 #[.val (.long sel), .second, .val (.long bb), .second, .val (.int mode), .val (.int dd), .val (.long (2305843009213693951 : Int64)), .second, .val (.int kk), .val (.long r), .second, .val (.long d8), .second, .val (.int md), .val (.long y), .second, .val (.ref ob), .unset, .unset, .unset, .unset] [(.ref ob)])) _
    refine own_by (fun t k => XS.lload X11.here hx rfl (hb hby at_143) rfl k) ?_
    show own_Go p.tables e below (T11.setTop (mkF m 145 #[.val (.long sel), .second, .val (.long bb), .second, .val (.int mode), .val (.int dd), .val (.long (2305843009213693951 : Int64)), .second, .val (.int kk), .val (.long r), .second, .val (.long d8), .second, .val (.int md), .val (.long y), .second, .val (.ref ob), .unset, .unset, .unset, .unset] [(.long y), (.ref ob)])) _
    obtain ⟨cq12, kq12, q12a, q12b, q12c⟩ := isOf hZ rfl (A10.keep Kc11)
    obtain ⟨_, _, ⟨T12, L12, k12, n12⟩, -, X12, ⟨Lc12, hQ12, l12, y12, z12⟩, st12⟩ := X11.virtualBack hx (y := (⟨"com/example/tidemark/tidemark/service/HeapRegions", "arrayBytes", "(J)J"⟩ : MethodName)) (z := (⟨"com/example/tidemark/tidemark/service/HeapRegions", "arrayBytes", "(J)J"⟩ : MethodName)) hown (mvT hZ (hw _ (List.mem_of_getElem? (i := 18) rfl))) (mvT hZ (hw _ (List.mem_of_getElem? (i := 19) rfl))) (notFace_of_selects (args := #[]) (mvT hZ (hw _ (List.mem_of_getElem? (i := 21) rfl)))) (mvT hZ (hw _ (List.mem_of_getElem? (i := 21) rfl))) (mvT hZ (hw _ (List.mem_of_getElem? (i := 20) rfl))) (by decide) (backOf (W := 0) (rm_ab l Z a0 hw [] ob y r T11.heap n0 (Nat.le_trans Z0 K11.1) Fc11) hZ (hw _ (List.mem_of_getElem? (i := 22) rfl)) (hw _ (List.mem_of_getElem? (i := 4) rfl)) (by decide) (by decide)) q12a q12c (g := (mkF m 145 #[.val (.long sel), .second, .val (.long bb), .second, .val (.int mode), .val (.int dd), .val (.long (2305843009213693951 : Int64)), .second, .val (.int kk), .val (.long r), .second, .val (.long d8), .second, .val (.int md), .val (.long y), .second, .val (.ref ob), .unset, .unset, .unset, .unset] [(.long y), (.ref ob)])) rfl (by rw [hml]; rfl) (Steps.refl _) (argsL := [(.long y)]) (rest := []) (lenOf pd_66 rfl) rfl (by show 2 * 0 + _ ≤ _; exact Nat.le_of_eq rfl) (hb hby at_145) (fun _ _ => ⟨rfl, rfl, (by decide : 1 + 0 ≤ _), (by decide : 1 + 0 ≤ _)⟩)
    dsimp only [Pt.U, Pt.locs, Pt.cells, Pt.slots] at X12 l12 y12 z12 st12 hQ12
    subst l12 y12 z12
    obtain ⟨got, rfl, N12q, eh12, hgot⟩ := hQ12
    have N12 := Fr.app N11 N12q
    refine own_tr st12 ?_
    show own_Go p.tables e below (T12.setTop (mkF m 148 #[.val (.long sel), .second, .val (.long bb), .second, .val (.int mode), .val (.int dd), .val (.long (2305843009213693951 : Int64)), .second, .val (.int kk), .val (.long r), .second, .val (.long d8), .second, .val (.int md), .val (.long y), .second, .val (.ref ob), .unset, .unset, .unset, .unset] [(.long got)])) _
    refine own_by (fun t k => XS.lstore X12.here hx rfl (hb hby at_148) rfl (l' := #[.val (.long sel), .second, .val (.long bb), .second, .val (.int mode), .val (.int dd), .val (.long (2305843009213693951 : Int64)), .second, .val (.int kk), .val (.long r), .second, .val (.long d8), .second, .val (.int md), .val (.long y), .second, .val (.ref ob), .val (.long got), .second, .unset, .unset]) rfl k) ?_
    show own_Go p.tables e below (T12.setTop (mkF m 150 #[.val (.long sel), .second, .val (.long bb), .second, .val (.int mode), .val (.int dd), .val (.long (2305843009213693951 : Int64)), .second, .val (.int kk), .val (.long r), .second, .val (.long d8), .second, .val (.int md), .val (.long y), .second, .val (.ref ob), .val (.long got), .second, .unset, .unset] [])) _
    refine own_by (fun t k => XS.lload X12.here hx rfl (hb hby at_150) rfl k) ?_
    show own_Go p.tables e below (T12.setTop (mkF m 152 #[.val (.long sel), .second, .val (.long bb), .second, .val (.int mode), .val (.int dd), .val (.long (2305843009213693951 : Int64)), .second, .val (.int kk), .val (.long r), .second, .val (.long d8), .second, .val (.int md), .val (.long y), .second, .val (.ref ob), .val (.long got), .second, .unset, .unset] [(.long y)])) _
    refine own_by (X12.ldc2Long hx hown (mvT hZ (hw _ (List.mem_of_getElem? (i := 25) rfl))) (g := (mkF m 152 #[.val (.long sel), .second, .val (.long bb), .second, .val (.int mode), .val (.int dd), .val (.long (2305843009213693951 : Int64)), .second, .val (.int kk), .val (.long r), .second, .val (.long d8), .second, .val (.int md), .val (.long y), .second, .val (.ref ob), .val (.long got), .second, .unset, .unset] [(.long y)])) rfl (hb hby at_152)) ?_
    show own_Go p.tables e below (T12.setTop (mkF m 155 #[.val (.long sel), .second, .val (.long bb), .second, .val (.int mode), .val (.int dd), .val (.long (2305843009213693951 : Int64)), .second, .val (.int kk), .val (.long r), .second, .val (.long d8), .second, .val (.int md), .val (.long y), .second, .val (.ref ob), .val (.long got), .second, .unset, .unset] [(.long (16 : Int64)), (.long y)])) _
    refine own_by (fun t k => XS.ladd X12.here hx rfl (hb hby at_155) rfl k) ?_
    show own_Go p.tables e below (T12.setTop (mkF m 156 #[.val (.long sel), .second, .val (.long bb), .second, .val (.int mode), .val (.int dd), .val (.long (2305843009213693951 : Int64)), .second, .val (.int kk), .val (.long r), .second, .val (.long d8), .second, .val (.int md), .val (.long y), .second, .val (.ref ob), .val (.long got), .second, .unset, .unset] [(.long (y + (16 : Int64)))])) _
    obtain ⟨wh, hwh⟩ : ∃ z, z = (y + (16 : Int64)) := ⟨_, rfl⟩
    rw [← hwh]
    show own_Go p.tables e below (T12.setTop (mkF m 156 #[.val (.long sel), .second, .val (.long bb), .second, .val (.int mode), .val (.int dd), .val (.long (2305843009213693951 : Int64)), .second, .val (.int kk), .val (.long r), .second, .val (.long d8), .second, .val (.int md), .val (.long y), .second, .val (.ref ob), .val (.long got), .second, .unset, .unset] [(.long wh)])) _
    refine own_by (fun t k => XS.lstore X12.here hx rfl (hb hby at_156) rfl (l' := #[.val (.long sel), .second, .val (.long bb), .second, .val (.int mode), .val (.int dd), .val (.long (2305843009213693951 : Int64)), .second, .val (.int kk), .val (.long r), .second, .val (.long d8), .second, .val (.int md), .val (.long y), .second, .val (.ref ob), .val (.long got), .second, .val (.long wh), .second]) rfl k) ?_
    show own_Go p.tables e below (T12.setTop (mkF m 158 #[.val (.long sel), .second, .val (.long bb), .second, .val (.int mode), .val (.int dd), .val (.long (2305843009213693951 : Int64)), .second, .val (.int kk), .val (.long r), .second, .val (.long d8), .second, .val (.int md), .val (.long y), .second, .val (.ref ob), .val (.long got), .second, .val (.long wh), .second] [])) _
    refine own_by (fun t k => XS.lload X12.here hx rfl (hb hby at_158) rfl k) ?_
    show own_Go p.tables e below (T12.setTop (mkF m 160 #[.val (.long sel), .second, .val (.long bb), .second, .val (.int mode), .val (.int dd), .val (.long (2305843009213693951 : Int64)), .second, .val (.int kk), .val (.long r), .second, .val (.long d8), .second, .val (.int md), .val (.long y), .second, .val (.ref ob), .val (.long got), .second, .val (.long wh), .second] [(.long r)])) _
    refine own_by (fun t k => XS.lconst X12.here hx rfl (hb hby at_160) k) ?_
    show own_Go p.tables e below (T12.setTop (mkF m 161 #[.val (.long sel), .second, .val (.long bb), .second, .val (.int mode), .val (.int dd), .val (.long (2305843009213693951 : Int64)), .second, .val (.int kk), .val (.long r), .second, .val (.long d8), .second, .val (.int md), .val (.long y), .second, .val (.ref ob), .val (.long got), .second, .val (.long wh), .second] [(.long (0 : Int64)), (.long r)])) _
    refine own_by (fun t k => XS.lcmp X12.here hx rfl (hb hby at_161) rfl k) ?_
    show own_Go p.tables e below (T12.setTop (mkF m 162 #[.val (.long sel), .second, .val (.long bb), .second, .val (.int mode), .val (.int dd), .val (.long (2305843009213693951 : Int64)), .second, .val (.int kk), .val (.long r), .second, .val (.long d8), .second, .val (.int md), .val (.long y), .second, .val (.ref ob), .val (.long got), .second, .val (.long wh), .second] [(.int (lcmpW r (0 : Int64)))])) _
    by_cases h1 : (0 : Int64) < r
    · refine own_by (fun t k => XS.ifNo X12.here hx rfl (hb hby at_162) rfl ((if0 _ _).trans (tlt ((lw_gt r (0 : Int64)).mpr h1)).2.2.2) k) ?_
      show own_Go p.tables e below (T12.setTop (mkF m 165 #[.val (.long sel), .second, .val (.long bb), .second, .val (.int mode), .val (.int dd), .val (.long (2305843009213693951 : Int64)), .second, .val (.int kk), .val (.long r), .second, .val (.long d8), .second, .val (.int md), .val (.long y), .second, .val (.ref ob), .val (.long got), .second, .val (.long wh), .second] [])) _
      refine own_by (fun t k => XS.lload X12.here hx rfl (hb hby at_165) rfl k) ?_
      show own_Go p.tables e below (T12.setTop (mkF m 167 #[.val (.long sel), .second, .val (.long bb), .second, .val (.int mode), .val (.int dd), .val (.long (2305843009213693951 : Int64)), .second, .val (.int kk), .val (.long r), .second, .val (.long d8), .second, .val (.int md), .val (.long y), .second, .val (.ref ob), .val (.long got), .second, .val (.long wh), .second] [(.long wh)])) _
      refine own_by (fun t k => XS.lload X12.here hx rfl (hb hby at_167) rfl k) ?_
      show own_Go p.tables e below (T12.setTop (mkF m 169 #[.val (.long sel), .second, .val (.long bb), .second, .val (.int mode), .val (.int dd), .val (.long (2305843009213693951 : Int64)), .second, .val (.int kk), .val (.long r), .second, .val (.long d8), .second, .val (.int md), .val (.long y), .second, .val (.ref ob), .val (.long got), .second, .val (.long wh), .second] [(.long r), (.long wh)])) _
      refine own_by (fun t k => XS.iconst X12.here hx rfl (hb hby at_169) k) ?_
      show own_Go p.tables e below (T12.setTop (mkF m 170 #[.val (.long sel), .second, .val (.long bb), .second, .val (.int mode), .val (.int dd), .val (.long (2305843009213693951 : Int64)), .second, .val (.int kk), .val (.long r), .second, .val (.long d8), .second, .val (.int md), .val (.long y), .second, .val (.ref ob), .val (.long got), .second, .val (.long wh), .second] [(.int (1 : Int32)), (.long r), (.long wh)])) _
      refine own_by (fun t k => XS.lshr X12.here hx rfl (hb hby at_170) rfl k) ?_
      show own_Go p.tables e below (T12.setTop (mkF m 171 #[.val (.long sel), .second, .val (.long bb), .second, .val (.int mode), .val (.int dd), .val (.long (2305843009213693951 : Int64)), .second, .val (.int kk), .val (.long r), .second, .val (.long d8), .second, .val (.int md), .val (.long y), .second, .val (.ref ob), .val (.long got), .second, .val (.long wh), .second] [(.long (r >>> ((1 : Int32) &&& 0x3f).toInt64)), (.long wh)])) _
      refine own_by (fun t k => XS.lcmp X12.here hx rfl (hb hby at_171) rfl k) ?_
      show own_Go p.tables e below (T12.setTop (mkF m 172 #[.val (.long sel), .second, .val (.long bb), .second, .val (.int mode), .val (.int dd), .val (.long (2305843009213693951 : Int64)), .second, .val (.int kk), .val (.long r), .second, .val (.long d8), .second, .val (.int md), .val (.long y), .second, .val (.ref ob), .val (.long got), .second, .val (.long wh), .second] [(.int (lcmpW wh (r >>> ((1 : Int32) &&& 0x3f).toInt64)))])) _
      by_cases h2 : (r >>> ((1 : Int32) &&& 0x3f).toInt64) < wh
      · refine own_by (fun t k => XS.ifNo X12.here hx rfl (hb hby at_172) rfl ((if0 _ _).trans (tlt ((lw_gt wh (r >>> ((1 : Int32) &&& 0x3f).toInt64)).mpr h2)).2.2.2) k) ?_
        show own_Go p.tables e below (T12.setTop (mkF m 175 #[.val (.long sel), .second, .val (.long bb), .second, .val (.int mode), .val (.int dd), .val (.long (2305843009213693951 : Int64)), .second, .val (.int kk), .val (.long r), .second, .val (.long d8), .second, .val (.int md), .val (.long y), .second, .val (.ref ob), .val (.long got), .second, .val (.long wh), .second] [])) _
        obtain ⟨g1, g2, g3⟩ := own_big hp hbB h1 h2 hwh hgot
        refine own_by (fun t k => XS.lload X12.here hx rfl (hb hby at_175) rfl k) ?_
        show own_Go p.tables e below (T12.setTop (mkF m 177 #[.val (.long sel), .second, .val (.long bb), .second, .val (.int mode), .val (.int dd), .val (.long (2305843009213693951 : Int64)), .second, .val (.int kk), .val (.long r), .second, .val (.long d8), .second, .val (.int md), .val (.long y), .second, .val (.ref ob), .val (.long got), .second, .val (.long wh), .second] [(.long got)])) _
        refine own_by (fun t k => XS.lload X12.here hx rfl (hb hby at_177) rfl k) ?_
        show own_Go p.tables e below (T12.setTop (mkF m 179 #[.val (.long sel), .second, .val (.long bb), .second, .val (.int mode), .val (.int dd), .val (.long (2305843009213693951 : Int64)), .second, .val (.int kk), .val (.long r), .second, .val (.long d8), .second, .val (.int md), .val (.long y), .second, .val (.ref ob), .val (.long got), .second, .val (.long wh), .second] [(.long r), (.long got)])) _
        refine own_by (fun t k => XS.lconst X12.here hx rfl (hb hby at_179) k) ?_
        show own_Go p.tables e below (T12.setTop (mkF m 180 #[.val (.long sel), .second, .val (.long bb), .second, .val (.int mode), .val (.int dd), .val (.long (2305843009213693951 : Int64)), .second, .val (.int kk), .val (.long r), .second, .val (.long d8), .second, .val (.int md), .val (.long y), .second, .val (.ref ob), .val (.long got), .second, .val (.long wh), .second] [(.long (1 : Int64)), (.long r), (.long got)])) _
        refine own_by (fun t k => XS.lsub X12.here hx rfl (hb hby at_180) rfl k) ?_
        show own_Go p.tables e below (T12.setTop (mkF m 181 #[.val (.long sel), .second, .val (.long bb), .second, .val (.int mode), .val (.int dd), .val (.long (2305843009213693951 : Int64)), .second, .val (.int kk), .val (.long r), .second, .val (.long d8), .second, .val (.int md), .val (.long y), .second, .val (.ref ob), .val (.long got), .second, .val (.long wh), .second] [(.long (r - (1 : Int64))), (.long got)])) _
        refine own_by (fun t k => XS.land X12.here hx rfl (hb hby at_181) rfl k) ?_
        show own_Go p.tables e below (T12.setTop (mkF m 182 #[.val (.long sel), .second, .val (.long bb), .second, .val (.int mode), .val (.int dd), .val (.long (2305843009213693951 : Int64)), .second, .val (.int kk), .val (.long r), .second, .val (.long d8), .second, .val (.int md), .val (.long y), .second, .val (.ref ob), .val (.long got), .second, .val (.long wh), .second] [(.long (got &&& (r - (1 : Int64))))])) _
        refine own_by (fun t k => XS.lconst X12.here hx rfl (hb hby at_182) k) ?_
        show own_Go p.tables e below (T12.setTop (mkF m 183 #[.val (.long sel), .second, .val (.long bb), .second, .val (.int mode), .val (.int dd), .val (.long (2305843009213693951 : Int64)), .second, .val (.int kk), .val (.long r), .second, .val (.long d8), .second, .val (.int md), .val (.long y), .second, .val (.ref ob), .val (.long got), .second, .val (.long wh), .second] [(.long (0 : Int64)), (.long (got &&& (r - (1 : Int64))))])) _
        refine own_by (fun t k => XS.lcmp X12.here hx rfl (hb hby at_183) rfl k) ?_
        show own_Go p.tables e below (T12.setTop (mkF m 184 #[.val (.long sel), .second, .val (.long bb), .second, .val (.int mode), .val (.int dd), .val (.long (2305843009213693951 : Int64)), .second, .val (.int kk), .val (.long r), .second, .val (.long d8), .second, .val (.int md), .val (.long y), .second, .val (.ref ob), .val (.long got), .second, .val (.long wh), .second] [(.int (lcmpW (got &&& (r - (1 : Int64))) (0 : Int64)))])) _
        refine own_by (fun t k => XS.ifNo X12.here hx rfl (hb hby at_184) rfl ((if0 _ _).trans (teq ((lw_eq (got &&& (r - (1 : Int64))) (0 : Int64)).mpr g1)).2) k) ?_
        show own_Go p.tables e below (T12.setTop (mkF m 187 #[.val (.long sel), .second, .val (.long bb), .second, .val (.int mode), .val (.int dd), .val (.long (2305843009213693951 : Int64)), .second, .val (.int kk), .val (.long r), .second, .val (.long d8), .second, .val (.int md), .val (.long y), .second, .val (.ref ob), .val (.long got), .second, .val (.long wh), .second] [])) _
        refine own_by (fun t k => XS.lload X12.here hx rfl (hb hby at_187) rfl k) ?_
        show own_Go p.tables e below (T12.setTop (mkF m 189 #[.val (.long sel), .second, .val (.long bb), .second, .val (.int mode), .val (.int dd), .val (.long (2305843009213693951 : Int64)), .second, .val (.int kk), .val (.long r), .second, .val (.long d8), .second, .val (.int md), .val (.long y), .second, .val (.ref ob), .val (.long got), .second, .val (.long wh), .second] [(.long got)])) _
        refine own_by (fun t k => XS.lload X12.here hx rfl (hb hby at_189) rfl k) ?_
        show own_Go p.tables e below (T12.setTop (mkF m 191 #[.val (.long sel), .second, .val (.long bb), .second, .val (.int mode), .val (.int dd), .val (.long (2305843009213693951 : Int64)), .second, .val (.int kk), .val (.long r), .second, .val (.long d8), .second, .val (.int md), .val (.long y), .second, .val (.ref ob), .val (.long got), .second, .val (.long wh), .second] [(.long wh), (.long got)])) _
        refine own_by (fun t k => XS.lcmp X12.here hx rfl (hb hby at_191) rfl k) ?_
        show own_Go p.tables e below (T12.setTop (mkF m 192 #[.val (.long sel), .second, .val (.long bb), .second, .val (.int mode), .val (.int dd), .val (.long (2305843009213693951 : Int64)), .second, .val (.int kk), .val (.long r), .second, .val (.long d8), .second, .val (.int md), .val (.long y), .second, .val (.ref ob), .val (.long got), .second, .val (.long wh), .second] [(.int (lcmpW got wh))])) _
        refine own_by (fun t k => XS.ifNo X12.here hx rfl (hb hby at_192) rfl ((if0 _ _).trans (flt (fun q => g2 ((lw_lt got wh).mp q))).1) k) ?_
        show own_Go p.tables e below (T12.setTop (mkF m 195 #[.val (.long sel), .second, .val (.long bb), .second, .val (.int mode), .val (.int dd), .val (.long (2305843009213693951 : Int64)), .second, .val (.int kk), .val (.long r), .second, .val (.long d8), .second, .val (.int md), .val (.long y), .second, .val (.ref ob), .val (.long got), .second, .val (.long wh), .second] [])) _
        refine own_by (fun t k => XS.lload X12.here hx rfl (hb hby at_195) rfl k) ?_
        show own_Go p.tables e below (T12.setTop (mkF m 197 #[.val (.long sel), .second, .val (.long bb), .second, .val (.int mode), .val (.int dd), .val (.long (2305843009213693951 : Int64)), .second, .val (.int kk), .val (.long r), .second, .val (.long d8), .second, .val (.int md), .val (.long y), .second, .val (.ref ob), .val (.long got), .second, .val (.long wh), .second] [(.long got)])) _
        refine own_by (fun t k => XS.lload X12.here hx rfl (hb hby at_197) rfl k) ?_
        show own_Go p.tables e below (T12.setTop (mkF m 199 #[.val (.long sel), .second, .val (.long bb), .second, .val (.int mode), .val (.int dd), .val (.long (2305843009213693951 : Int64)), .second, .val (.int kk), .val (.long r), .second, .val (.long d8), .second, .val (.int md), .val (.long y), .second, .val (.ref ob), .val (.long got), .second, .val (.long wh), .second] [(.long wh), (.long got)])) _
        refine own_by (fun t k => XS.lsub X12.here hx rfl (hb hby at_199) rfl k) ?_
        show own_Go p.tables e below (T12.setTop (mkF m 200 #[.val (.long sel), .second, .val (.long bb), .second, .val (.int mode), .val (.int dd), .val (.long (2305843009213693951 : Int64)), .second, .val (.int kk), .val (.long r), .second, .val (.long d8), .second, .val (.int md), .val (.long y), .second, .val (.ref ob), .val (.long got), .second, .val (.long wh), .second] [(.long (got - wh))])) _
        refine own_by (fun t k => XS.lload X12.here hx rfl (hb hby at_200) rfl k) ?_
        show own_Go p.tables e below (T12.setTop (mkF m 202 #[.val (.long sel), .second, .val (.long bb), .second, .val (.int mode), .val (.int dd), .val (.long (2305843009213693951 : Int64)), .second, .val (.int kk), .val (.long r), .second, .val (.long d8), .second, .val (.int md), .val (.long y), .second, .val (.ref ob), .val (.long got), .second, .val (.long wh), .second] [(.long r), (.long (got - wh))])) _
        refine own_by (fun t k => XS.lcmp X12.here hx rfl (hb hby at_202) rfl k) ?_
        show own_Go p.tables e below (T12.setTop (mkF m 203 #[.val (.long sel), .second, .val (.long bb), .second, .val (.int mode), .val (.int dd), .val (.long (2305843009213693951 : Int64)), .second, .val (.int kk), .val (.long r), .second, .val (.long d8), .second, .val (.int md), .val (.long y), .second, .val (.ref ob), .val (.long got), .second, .val (.long wh), .second] [(.int (lcmpW (got - wh) r))])) _
        refine own_by (fun t k => XS.ifNo X12.here hx rfl (hb hby at_203) rfl ((if0 _ _).trans (tlt ((lw_lt (got - wh) r).mpr g3)).2.1) k) ?_
        show own_Go p.tables e below (T12.setTop (mkF m 206 #[.val (.long sel), .second, .val (.long bb), .second, .val (.int mode), .val (.int dd), .val (.long (2305843009213693951 : Int64)), .second, .val (.int kk), .val (.long r), .second, .val (.long d8), .second, .val (.int md), .val (.long y), .second, .val (.ref ob), .val (.long got), .second, .val (.long wh), .second] [])) _
        refine own_by (fun t k => XS.iconst X12.here hx rfl (hb hby at_206) k) ?_
        show own_Go p.tables e below (T12.setTop (mkF m 207 #[.val (.long sel), .second, .val (.long bb), .second, .val (.int mode), .val (.int dd), .val (.long (2305843009213693951 : Int64)), .second, .val (.int kk), .val (.long r), .second, .val (.long d8), .second, .val (.int md), .val (.long y), .second, .val (.ref ob), .val (.long got), .second, .val (.long wh), .second] [(.int (1 : Int32))])) _
        refine own_by (fun t k => XS.goto X12.here hx rfl (pc0 := 207) (pc' := 211) rfl (hb hby at_207) (by decide) (by decide) k) ?_
        show own_Go p.tables e below (T12.setTop (mkF m 211 #[.val (.long sel), .second, .val (.long bb), .second, .val (.int mode), .val (.int dd), .val (.long (2305843009213693951 : Int64)), .second, .val (.int kk), .val (.long r), .second, .val (.long d8), .second, .val (.int md), .val (.long y), .second, .val (.ref ob), .val (.long got), .second, .val (.long wh), .second] [(.int (1 : Int32))])) _
        exact own_retN X12 hx Bd.notSynchronized (t := .boolean) Bd.returns (by simp) (by decide) (hb hby at_211) (by (try rw [eh12]); exact ⟨rfl, N12⟩) (by decide) (by decide)
      · refine own_by (fun t k => XS.ifYes X12.here hx rfl (pc0 := 172) (pc' := 212) rfl (hb hby at_172) rfl ((if0 _ _).trans (flt (fun q => h2 ((lw_gt wh (r >>> ((1 : Int32) &&& 0x3f).toInt64)).mp q))).2.2.2) (by decide) (by decide) k) ?_
        show own_Go p.tables e below (T12.setTop (mkF m 212 #[.val (.long sel), .second, .val (.long bb), .second, .val (.int mode), .val (.int dd), .val (.long (2305843009213693951 : Int64)), .second, .val (.int kk), .val (.long r), .second, .val (.long d8), .second, .val (.int md), .val (.long y), .second, .val (.ref ob), .val (.long got), .second, .val (.long wh), .second] [])) _
        refine own_by (fun t k => XS.lload X12.here hx rfl (hb hby at_212) rfl k) ?_
        show own_Go p.tables e below (T12.setTop (mkF m 214 #[.val (.long sel), .second, .val (.long bb), .second, .val (.int mode), .val (.int dd), .val (.long (2305843009213693951 : Int64)), .second, .val (.int kk), .val (.long r), .second, .val (.long d8), .second, .val (.int md), .val (.long y), .second, .val (.ref ob), .val (.long got), .second, .val (.long wh), .second] [(.long got)])) _
        refine own_by (fun t k => XS.lload X12.here hx rfl (hb hby at_214) rfl k) ?_
        show own_Go p.tables e below (T12.setTop (mkF m 216 #[.val (.long sel), .second, .val (.long bb), .second, .val (.int mode), .val (.int dd), .val (.long (2305843009213693951 : Int64)), .second, .val (.int kk), .val (.long r), .second, .val (.long d8), .second, .val (.int md), .val (.long y), .second, .val (.ref ob), .val (.long got), .second, .val (.long wh), .second] [(.long y), (.long got)])) _
        refine own_by (fun t k => XS.lcmp X12.here hx rfl (hb hby at_216) rfl k) ?_
        show own_Go p.tables e below (T12.setTop (mkF m 217 #[.val (.long sel), .second, .val (.long bb), .second, .val (.int mode), .val (.int dd), .val (.long (2305843009213693951 : Int64)), .second, .val (.int kk), .val (.long r), .second, .val (.long d8), .second, .val (.int md), .val (.long y), .second, .val (.ref ob), .val (.long got), .second, .val (.long wh), .second] [(.int (lcmpW got y))])) _
        refine own_by (fun t k => XS.ifNo X12.here hx rfl (hb hby at_217) rfl ((if0 _ _).trans (teq ((lw_eq got y).mpr (own_small hp hbB (Or.inr h2) hwh hgot))).2) k) ?_
        show own_Go p.tables e below (T12.setTop (mkF m 220 #[.val (.long sel), .second, .val (.long bb), .second, .val (.int mode), .val (.int dd), .val (.long (2305843009213693951 : Int64)), .second, .val (.int kk), .val (.long r), .second, .val (.long d8), .second, .val (.int md), .val (.long y), .second, .val (.ref ob), .val (.long got), .second, .val (.long wh), .second] [])) _
        refine own_by (fun t k => XS.iconst X12.here hx rfl (hb hby at_220) k) ?_
        show own_Go p.tables e below (T12.setTop (mkF m 221 #[.val (.long sel), .second, .val (.long bb), .second, .val (.int mode), .val (.int dd), .val (.long (2305843009213693951 : Int64)), .second, .val (.int kk), .val (.long r), .second, .val (.long d8), .second, .val (.int md), .val (.long y), .second, .val (.ref ob), .val (.long got), .second, .val (.long wh), .second] [(.int (1 : Int32))])) _
        refine own_by (fun t k => XS.goto X12.here hx rfl (pc0 := 221) (pc' := 225) rfl (hb hby at_221) (by decide) (by decide) k) ?_
        show own_Go p.tables e below (T12.setTop (mkF m 225 #[.val (.long sel), .second, .val (.long bb), .second, .val (.int mode), .val (.int dd), .val (.long (2305843009213693951 : Int64)), .second, .val (.int kk), .val (.long r), .second, .val (.long d8), .second, .val (.int md), .val (.long y), .second, .val (.ref ob), .val (.long got), .second, .val (.long wh), .second] [(.int (1 : Int32))])) _
        exact own_retN X12 hx Bd.notSynchronized (t := .boolean) Bd.returns (by simp) (by decide) (hb hby at_225) (by (try rw [eh12]); exact ⟨rfl, N12⟩) (by decide) (by decide)
    · refine own_by (fun t k => XS.ifYes X12.here hx rfl (pc0 := 162) (pc' := 212) rfl (hb hby at_162) rfl ((if0 _ _).trans (flt (fun q => h1 ((lw_gt r (0 : Int64)).mp q))).2.2.2) (by decide) (by decide) k) ?_
      show own_Go p.tables e below (T12.setTop (mkF m 212 #[.val (.long sel), .second, .val (.long bb), .second, .val (.int mode), .val (.int dd), .val (.long (2305843009213693951 : Int64)), .second, .val (.int kk), .val (.long r), .second, .val (.long d8), .second, .val (.int md), .val (.long y), .second, .val (.ref ob), .val (.long got), .second, .val (.long wh), .second] [])) _
      refine own_by (fun t k => XS.lload X12.here hx rfl (hb hby at_212) rfl k) ?_
      show own_Go p.tables e below (T12.setTop (mkF m 214 #[.val (.long sel), .second, .val (.long bb), .second, .val (.int mode), .val (.int dd), .val (.long (2305843009213693951 : Int64)), .second, .val (.int kk), .val (.long r), .second, .val (.long d8), .second, .val (.int md), .val (.long y), .second, .val (.ref ob), .val (.long got), .second, .val (.long wh), .second] [(.long got)])) _
      refine own_by (fun t k => XS.lload X12.here hx rfl (hb hby at_214) rfl k) ?_
      show own_Go p.tables e below (T12.setTop (mkF m 216 #[.val (.long sel), .second, .val (.long bb), .second, .val (.int mode), .val (.int dd), .val (.long (2305843009213693951 : Int64)), .second, .val (.int kk), .val (.long r), .second, .val (.long d8), .second, .val (.int md), .val (.long y), .second, .val (.ref ob), .val (.long got), .second, .val (.long wh), .second] [(.long y), (.long got)])) _
      refine own_by (fun t k => XS.lcmp X12.here hx rfl (hb hby at_216) rfl k) ?_
      show own_Go p.tables e below (T12.setTop (mkF m 217 #[.val (.long sel), .second, .val (.long bb), .second, .val (.int mode), .val (.int dd), .val (.long (2305843009213693951 : Int64)), .second, .val (.int kk), .val (.long r), .second, .val (.long d8), .second, .val (.int md), .val (.long y), .second, .val (.ref ob), .val (.long got), .second, .val (.long wh), .second] [(.int (lcmpW got y))])) _
      refine own_by (fun t k => XS.ifNo X12.here hx rfl (hb hby at_217) rfl ((if0 _ _).trans (teq ((lw_eq got y).mpr (own_small hp hbB (Or.inl h1) hwh hgot))).2) k) ?_
      show own_Go p.tables e below (T12.setTop (mkF m 220 #[.val (.long sel), .second, .val (.long bb), .second, .val (.int mode), .val (.int dd), .val (.long (2305843009213693951 : Int64)), .second, .val (.int kk), .val (.long r), .second, .val (.long d8), .second, .val (.int md), .val (.long y), .second, .val (.ref ob), .val (.long got), .second, .val (.long wh), .second] [])) _
      refine own_by (fun t k => XS.iconst X12.here hx rfl (hb hby at_220) k) ?_
      show own_Go p.tables e below (T12.setTop (mkF m 221 #[.val (.long sel), .second, .val (.long bb), .second, .val (.int mode), .val (.int dd), .val (.long (2305843009213693951 : Int64)), .second, .val (.int kk), .val (.long r), .second, .val (.long d8), .second, .val (.int md), .val (.long y), .second, .val (.ref ob), .val (.long got), .second, .val (.long wh), .second] [(.int (1 : Int32))])) _
      refine own_by (fun t k => XS.goto X12.here hx rfl (pc0 := 221) (pc' := 225) rfl (hb hby at_221) (by decide) (by decide) k) ?_
      show own_Go p.tables e below (T12.setTop (mkF m 225 #[.val (.long sel), .second, .val (.long bb), .second, .val (.int mode), .val (.int dd), .val (.long (2305843009213693951 : Int64)), .second, .val (.int kk), .val (.long r), .second, .val (.long d8), .second, .val (.int md), .val (.long y), .second, .val (.ref ob), .val (.long got), .second, .val (.long wh), .second] [(.int (1 : Int32))])) _
      exact own_retN X12 hx Bd.notSynchronized (t := .boolean) Bd.returns (by simp) (by decide) (hb hby at_225) (by (try rw [eh12]); exact ⟨rfl, N12⟩) (by decide) (by decide)
set_option maxRecDepth 65536 in
set_option maxHeartbeats 40000000 in
theorem comes_1 {Post : Tables → Env → Array Value → State → Outcome → State → Prop} (hpost : ∀ tb e args s v u, (limb_1_1.after args s (.returned v) u = true ∧ limb_1_2.after args s (.returned v) u = true ∧ True) → FrameEnd s (.returned v) u (Jvm.fieldLocs frame_1_writes args s ++ Jvm.arrayLocs frame_1_arrays args s ++ Jvm.staticLocs frame_1_statics s) 16 128 → Post tb e args s (.returned v) u) :
    ArmFor flags0 classFile x code maxLocals ret World_1 tables_1 room_1 Calls_1 rest_1 Pre_1 Post := by
  intro l hfl _ _ p e ha hc hk s m args below hf hA hF happ hP
  obtain ⟨hcalls, hrest, hpre⟩ := hP
  obtain ⟨-, -, -, hnamed, -, -, -, hat⟩ := (Spec.applies_iff hf).mp happ
  obtain ⟨hg, hn⟩ := and_e (Cond.before_iff.mp (show (Jvm.Cond.and given_1 narrow_1).before args s = true from hpre))
  obtain ⟨hcount, t0⟩ := and_e hg
  obtain ⟨g0, t1⟩ := and_e t0
  obtain ⟨g1, t2⟩ := and_e t1
  obtain ⟨g2, t3⟩ := and_e t2
  obtain ⟨w0, w1, w2, w3, rfl⟩ : ∃ w0 w1 w2 w3 : Value, args = #[w0, w1, w2, w3] := by
    have hs : args.size = 4 := by simpa [Cond.value, given_1] using hcount
    obtain ⟨L⟩ := args
    match L, hs with
    | [w0, w1, w2, w3], _ => exact ⟨w0, w1, w2, w3, rfl⟩
  have hw := fun d (hd : d ∈ tables_1) => atoms_spec (ws := Jvm.Cond.code x code maxLocals ret :: tables_1) hat d (List.mem_cons_of_mem _ hd)
  obtain ⟨i0, ei0⟩ := isL_v g0
  obtain rfl : w0 = (.long i0) := Option.some.inj ei0
  obtain ⟨i1, ei1⟩ := isL_v g1
  obtain rfl : w1 = (.long i1) := Option.some.inj ei1
  obtain ⟨i2, ei2⟩ := is_v g2
  obtain rfl : w2 = (.int i2) := Option.some.inj ei2
  obtain ⟨i3, ei3⟩ := is_v t3
  obtain rfl : w3 = (.int i3) := Option.some.inj ei3
  obtain ⟨n, o, h1, h2, h3, _, L, rfl, ⟨rfl, N⟩, hq⟩ := rm_law l s _ hw tables_1 i0 i1 i2 i3 s.heap s.heap.size (Nat.le_refl _) p e ha hc hk s m _ below hf ((Spec.applies_iff_loose hf).mp happ).1 ⟨rfl, State.Warmed39.refl s, rfl⟩ trivial
  refine ⟨n, _, h1, h2, h3, hpost _ _ _ _ _ _ ⟨Cond.after_iff.mpr rfl, Cond.after_iff.mpr (eq_i res_at (Term.int_eval (1)) rfl), trivial⟩ ⟨hq.1, hq.2.1, (hq.2.2.sift fun y hy => Or.inr (N y hy)).mono (by decide) (by decide)⟩⟩
theorem main_1_1 : Claimed_1_1 := comes_1 fun _ _ _ _ _ _ h hF => ⟨h.1, hF⟩
theorem main_1_2 : Claimed_1_2 := comes_1 fun _ _ _ _ _ _ h hF => ⟨h.2.1, hF⟩
end Jvm.Pilot.@@N@@
namespace Jvm.Pilot.@@N@@
open Jvm Jvm.ClassFile Sem Op Lib Jvm.Free Jvm.Stand Jvm.Pilot.@@N@@.Jvm.D
/-! MADE BY PROGRAM (witnessworld.py) out of the Statement's table words and the real class files: 11 classes; the members and pool entries that the words name. The judged class is class 1, her method 1. -/
namespace start1
open Jvm.ClassFile
def u (s : String) : CpInfo := .utf8 (stringToUtf16 s)
/-- a pool by its gaps: so many unusable entries, then the entry; so many at the end -/
def gap : Nat → List CpInfo → List CpInfo
  | 0, r => r
  | n + 1, r => .unusable :: gap n r
def poolList (es : List (Nat × CpInfo)) (last : Nat) : List CpInfo := es.foldr (fun e r => gap e.1 (e.2 :: r)) (gap last [])
def pool (es : List (Nat × CpInfo)) (last : Nat) : Array CpInfo := ⟨poolList es last⟩
def fileOf (pool : Array CpInfo) (this : Nat) (attrs : Array Attribute := #[]) (ms : Array MethodInfo := #[]) (fl : Nat := 33) (sup : Nat := 0) (ifs : Array Nat := #[]) (fds : Array FieldInfo := #[]) : ClassFile where
  minorVersion := 0
  majorVersion := 65
  constantPool := pool
  accessFlags := fl
  thisClass := this
  superClass := sup
  interfaces := ifs
  fields := fds
  methods := ms
  attributes := attrs
def plain (name : String) (sup : Option ClassId) : Class where
  name := name
  kind := .ordinary
  loader := none
  accessFlags := 33
  super := sup
  interfaces := #[]
  cf := none
  fields := #[]
  methods := #[]
  instanceTypes := #[]
  staticTypes := #[]
  resolved := #[]
  callSites := []
  init := .initialized
  statics := none
  mirror := none

def pool0 : Array CpInfo := pool [(5, u "<init>"), (0, u "()V"), (1, .class_ 10), (1, u "java/lang/Object")] 113

def k0c0 : Code := { maxStack := 0, maxLocals := 1, code := object_method_1_code, exceptionTable := #[], attributes := #[] }
def k0m0 : Method := { name := "<init>", desc := "()V", sig := { parameters := [], returnType := none }, accessFlags := 1, code := some k0c0 }
/-- java/lang/Object -/
def k0 : Class := { plain "java/lang/Object" none with
  accessFlags := 33
  interfaces := #[]
  cf := some (fileOf pool0 8 #[] #[{ accessFlags := 1, nameIndex := 5, descriptorIndex := 6, attributes := #[] }] 33 0 #[] #[])
  fields := #[]
  methods := #[k0m0]
  instanceTypes := #[]
  staticTypes := #[]
  resolved := Array.replicate 124 none
  statics := none }

def pool1 : Array CpInfo := pool [(2, .class_ 4), (1, u "java/lang/Object"), (0, u "<init>"), (0, u "()V"), (0, .long 2305843009213693951), (1, .long 63), (1, .long 16), (1, .methodref 14 15), (0, .class_ 16), (0, .nameAndType 17 18), (0, u "java/lang/Math"), (0, u "max"), (0, u "(JJ)J"), (0, .class_ 20), (0, u "com/example/tidemark/tidemark/service/HeapRegions"), (0, .methodref 19 22), (0, .nameAndType 5 23), (0, u "(J)V"), (0, .methodref 19 25), (0, .nameAndType 26 27), (0, u "arrayBytes"), (0, u "(J)J"), (0, .class_ 29), (0, u "com/example/tidemark/tidemark/service/HeapRegionsArrayBytesPinLaw"), (2, u "law"), (0, u "(JJII)Z")] 3

def k1m0 : Method := { name := "<init>", desc := "()V", sig := { parameters := [], returnType := none }, accessFlags := 1, code := none }
def k1c1 : Code := { maxStack := 6, maxLocals := 21, code := code, exceptionTable := #[], attributes := #[] }
def k1m1 : Method := { name := "law", desc := "(JJII)Z", sig := { parameters := [.long, .long, .int, .int], returnType := some .boolean }, accessFlags := 9, code := some k1c1 }
/-- com/example/tidemark/tidemark/service/HeapRegionsArrayBytesPinLaw -/
def k1 : Class := { plain "com/example/tidemark/tidemark/service/HeapRegionsArrayBytesPinLaw" (some 0) with
  accessFlags := 49
  interfaces := #[]
  cf := some (fileOf pool1 28 #[] #[{ accessFlags := 1, nameIndex := 5, descriptorIndex := 6, attributes := #[] }, { accessFlags := 9, nameIndex := 32, descriptorIndex := 33, attributes := #[] }] 49 2 #[] #[])
  fields := #[]
  methods := #[k1m0, k1m1]
  instanceTypes := #[]
  staticTypes := #[]
  resolved := Array.replicate 37 none
  statics := none }

def pool2 : Array CpInfo := pool [(1, .methodref 2 3), (0, .class_ 4), (0, .nameAndType 5 6), (0, u "java/lang/Object"), (0, u "<init>"), (0, u "()V"), (0, .class_ 8), (0, u "java/lang/Record")] 13

def k2c0 : Code := { maxStack := 1, maxLocals := 1, code := jdk_30_method_1_code, exceptionTable := #[], attributes := #[] }
def k2m0 : Method := { name := "<init>", desc := "()V", sig := { parameters := [], returnType := none }, accessFlags := 4, code := some k2c0 }
/-- java/lang/Record -/
def k2 : Class := { plain "java/lang/Record" (some 0) with
  accessFlags := 1057
  interfaces := #[]
  cf := some (fileOf pool2 7 #[] #[{ accessFlags := 4, nameIndex := 5, descriptorIndex := 6, attributes := #[] }] 1057 2 #[] #[])
  fields := #[]
  methods := #[k2m0]
  instanceTypes := #[]
  staticTypes := #[]
  resolved := Array.replicate 22 none
  statics := none }

def pool3 : Array CpInfo := pool [(1, .methodref 2 3), (0, .class_ 4), (0, .nameAndType 5 6), (0, u "java/lang/Record"), (0, u "<init>"), (0, u "()V"), (9, .fieldref 17 18), (0, .class_ 19), (0, .nameAndType 20 21), (0, u "com/example/tidemark/tidemark/service/HeapRegions"), (0, u "regionBytes"), (0, u "J"), (2, u "NONE"), (0, u "Lcom/example/tidemark/tidemark/service/HeapRegions;"), (36, u "(J)V"), (0, .long 16), (1, .long 2), (13, u "ARRAY_HEADER_BYTES"), (9, u "arrayBytes"), (0, u "(J)J")] 30

def k3c0 : Code := { maxStack := 6, maxLocals := 3, code := prog_116_method_1_code, exceptionTable := #[], attributes := #[] }
def k3m0 : Method := { name := "<init>", desc := "(J)V", sig := { parameters := [.long], returnType := none }, accessFlags := 1, code := some k3c0 }
def k3c1 : Code := { maxStack := 4, maxLocals := 7, code := prog_116_method_4_code, exceptionTable := #[], attributes := #[] }
def k3m1 : Method := { name := "arrayBytes", desc := "(J)J", sig := { parameters := [.long], returnType := some .long }, accessFlags := 1, code := some k3c1 }
/-- com/example/tidemark/tidemark/service/HeapRegions -/
def k3 : Class := { plain "com/example/tidemark/tidemark/service/HeapRegions" (some 2) with
  accessFlags := 49
  interfaces := #[]
  cf := some (fileOf pool3 17 #[] #[{ accessFlags := 1, nameIndex := 5, descriptorIndex := 62, attributes := #[] }, { accessFlags := 1, nameIndex := 89, descriptorIndex := 90, attributes := #[] }] 49 2 #[] #[{ accessFlags := 18, nameIndex := 20, descriptorIndex := 21, attributes := #[] }, { accessFlags := 25, nameIndex := 24, descriptorIndex := 25, attributes := #[] }, { accessFlags := 26, nameIndex := 79, descriptorIndex := 21, attributes := #[] }])
  fields := #[{ name := "regionBytes", type := .long, accessFlags := 18, slot := 0, constantValue := 0 }, { name := "NONE", type := (.object "com/example/tidemark/tidemark/service/HeapRegions"), accessFlags := 25, slot := 0, constantValue := 0 }, { name := "ARRAY_HEADER_BYTES", type := .long, accessFlags := 26, slot := 1, constantValue := 0 }]
  methods := #[k3m0, k3m1]
  instanceTypes := #[.long]
  staticTypes := #[(.object "com/example/tidemark/tidemark/service/HeapRegions"), .long]
  resolved := Array.replicate 121 none
  statics := none }

def pool4 : Array CpInfo := pool [(1, .class_ 2), (0, u "java/lang/Math"), (1, .class_ 6), (1, u "java/lang/Object"), (0, u "<init>"), (0, u "()V"), (89, .class_ 100), (1, u "java/lang/Math$RandomNumberGeneratorHolder"), (20, u "(JJ)J"), (50, u "negativeZeroFloatBits"), (0, u "J"), (2, u "negativeZeroDoubleBits"), (21, u "max"), (46, u "$assertionsDisabled"), (0, u "Z"), (91, u "twoToTheDoubleScaleDown"), (0, u "D"), (4, u "twoToTheDoubleScaleUp"), (9, u "E"), (3, u "PI"), (2, u "TAU"), (2, u "DEGREES_TO_RADIANS"), (0, u "RADIANS_TO_DEGREES")] 94

def k4m0 : Method := { name := "<init>", desc := "()V", sig := { parameters := [], returnType := none }, accessFlags := 2, code := none }
def k4c1 : Code := { maxStack := 4, maxLocals := 4, code := jdk_29_method_66_code, exceptionTable := #[], attributes := #[] }
def k4m1 : Method := { name := "max", desc := "(JJ)J", sig := { parameters := [.long, .long], returnType := some .long }, accessFlags := 9, code := some k4c1 }
/-- java/lang/Math -/
def k4 : Class := { plain "java/lang/Math" (some 0) with
  accessFlags := 49
  interfaces := #[]
  cf := some (fileOf pool4 1 #[.nestMembers #[98]] #[{ accessFlags := 2, nameIndex := 7, descriptorIndex := 8, attributes := #[] }, { accessFlags := 9, nameIndex := 198, descriptorIndex := 121, attributes := #[] }] 49 4 #[] #[{ accessFlags := 25, nameIndex := 354, descriptorIndex := 339, attributes := #[] }, { accessFlags := 25, nameIndex := 358, descriptorIndex := 339, attributes := #[] }, { accessFlags := 25, nameIndex := 361, descriptorIndex := 339, attributes := #[] }, { accessFlags := 26, nameIndex := 364, descriptorIndex := 339, attributes := #[] }, { accessFlags := 26, nameIndex := 365, descriptorIndex := 339, attributes := #[] }, { accessFlags := 26, nameIndex := 172, descriptorIndex := 173, attributes := #[] }, { accessFlags := 26, nameIndex := 176, descriptorIndex := 173, attributes := #[] }, { accessFlags := 8, nameIndex := 344, descriptorIndex := 339, attributes := #[] }, { accessFlags := 8, nameIndex := 338, descriptorIndex := 339, attributes := #[] }, { accessFlags := 4120, nameIndex := 245, descriptorIndex := 246, attributes := #[] }])
  fields := #[{ name := "E", type := .double, accessFlags := 25, slot := 0, constantValue := 0 }, { name := "PI", type := .double, accessFlags := 25, slot := 1, constantValue := 0 }, { name := "TAU", type := .double, accessFlags := 25, slot := 2, constantValue := 0 }, { name := "DEGREES_TO_RADIANS", type := .double, accessFlags := 26, slot := 3, constantValue := 0 }, { name := "RADIANS_TO_DEGREES", type := .double, accessFlags := 26, slot := 4, constantValue := 0 }, { name := "negativeZeroFloatBits", type := .long, accessFlags := 26, slot := 5, constantValue := 0 }, { name := "negativeZeroDoubleBits", type := .long, accessFlags := 26, slot := 6, constantValue := 0 }, { name := "twoToTheDoubleScaleUp", type := .double, accessFlags := 8, slot := 7, constantValue := 0 }, { name := "twoToTheDoubleScaleDown", type := .double, accessFlags := 8, slot := 8, constantValue := 0 }, { name := "$assertionsDisabled", type := .boolean, accessFlags := 4120, slot := 9, constantValue := 0 }]
  methods := #[k4m0, k4m1]
  instanceTypes := #[]
  staticTypes := #[.double, .double, .double, .double, .double, .long, .long, .double, .double, .boolean]
  resolved := Array.replicate 460 none
  statics := none }

def pool5 : Array CpInfo := pool [(1, u "java/lang/Cloneable"), (0, .class_ 1), (0, u "java/lang/Object"), (0, .class_ 3)] 3

/-- java/lang/Cloneable -/
def k5 : Class := { plain "java/lang/Cloneable" (some 0) with
  accessFlags := 1537
  interfaces := #[]
  cf := some (fileOf pool5 2 #[] #[] 1537 4 #[] #[])
  fields := #[]
  methods := #[]
  instanceTypes := #[]
  staticTypes := #[]
  resolved := Array.replicate 8 none
  statics := none }

def pool6 : Array CpInfo := pool [(1, u "java/io/Serializable"), (0, .class_ 1), (0, u "java/lang/Object"), (0, .class_ 3)] 3

/-- java/io/Serializable -/
def k6 : Class := { plain "java/io/Serializable" (some 0) with
  accessFlags := 1537
  interfaces := #[]
  cf := some (fileOf pool6 2 #[] #[] 1537 4 #[] #[])
  fields := #[]
  methods := #[]
  instanceTypes := #[]
  staticTypes := #[]
  resolved := Array.replicate 8 none
  statics := none }

/-- the primitive byte -/
def k7 : Class := { plain "byte" none with kind := .primitive 'B', accessFlags := 0x411 }
/-- [B -/
def k8 : Class := { plain "[B" (some 0) with kind := .array 7 .byte, interfaces := #[5, 6], accessFlags := 1041 }

/-- the primitive int -/
def k9 : Class := { plain "int" none with kind := .primitive 'I', accessFlags := 0x411 }
/-- [I -/
def k10 : Class := { plain "[I" (some 0) with kind := .array 9 .int, interfaces := #[5, 6], accessFlags := 1041 }

def heap : Heap := #[]
def classes : Array Class := #[k0, k1, k2, k3, k4, k5, k6, k7, k8, k9, k10]
def interned : List (Array UInt16 × Addr) := []
def slotsUsed : Nat := 0
def theMethod : MethodId := ⟨1, 1⟩
def args0 : Array Value := #[.long 5, .long 5, .int 5, .int 5]
def aboutOver (below : List Frame) : State where
  vm := { classes := classes, interned := interned.toArray }
  heap := heap
  slotsUsed := slotsUsed
  threads := #[{ frames := .invoking theMethod args0 :: below }]
def below0 : List Frame := [.native { method := ⟨0, 0⟩, args := #[] }]
def about1 : State := aboutOver below0
def p0 : Program := .bare "" "" ""
def e0 : Env := launch0.env 0 0 0
theorem w_frames : about1.frames = Frame.invoking theMethod args0 :: below0 := rfl
set_option maxRecDepth 65536 in
theorem w_args : argsFit about1.vm theMethod args0 = true := by decide +kernel
set_option maxRecDepth 65536 in
theorem w_heap : heapFits about1 = true := by decide +kernel
set_option maxRecDepth 65536 in
theorem w_runnable : about1.curStatus? = some .runnable := by decide +kernel
set_option maxRecDepth 65536 in
theorem w_alone : about1.alone = true := by decide +kernel
set_option maxRecDepth 65536 in
theorem w_named : about1.methodNamed? x = some theMethod := by decide +kernel
set_option maxRecDepth 65536 in
theorem w_hears : about1.hears theMethod below0 = true := by decide +kernel
set_option maxRecDepth 65536 in
theorem w_ripe : about1.ripe theMethod args0 below0 = true := by decide +kernel
theorem w_running : about1.status = .running := rfl
set_option maxRecDepth 65536 in
theorem w_room : about1.hasRoom e0.platform room_1 = true :=
  launch0.hasRoom_least _ room_1 (by decide +kernel) (by decide +kernel) (by decide +kernel) (by decide +kernel) (by decide +kernel) (by decide +kernel)
theorem allAtoms_all (ts : List Jvm.Cond) (a : Array Jvm.Value) (st : Jvm.State) : (allAtoms ts).before a st = ts.all (fun c => c.before a st) := by
  induction ts with
  | nil => rfl
  | cons c t ih =>
    show (Jvm.Cond.and c (allAtoms t)).before a st = _
    rw [Jvm.Cond.before_and, ih, List.all_cons]
def words1 : List Jvm.Cond := Jvm.Cond.code x code maxLocals ret :: tables_1
/-- a 'code' word, met by the world's own term for the bytes: nothing is compared byte by byte -/
theorem code_word {y : MethodName} {bytes : ByteArray} {mx : Nat} {rt : Option FieldType} {a : Array Value} {s : State} {m : MethodId} {meth : Method} {c : Code} (h1 : s.methodNamed? y = some m) (h2 : s.vm.method? m = some meth) (h3 : meth.code = some c) (h4 : c.code = bytes)
    (h5 : (c.maxLocals == mx && c.exceptionTable.isEmpty && decide (c.maxStack ≤ mostOperands) && decide (meth.sig.returnType = rt) && !meth.locks && decide (parseMethodDescriptor y.desc = some meth.sig)) = true) : (Jvm.Cond.code y bytes mx rt).before a s = true := by
  simp only [Bool.and_eq_true, beq_iff_eq, Bool.not_eq_true', decide_eq_true_eq] at h5
  obtain ⟨⟨⟨⟨⟨g1, g2⟩, g3⟩, g4⟩, g5⟩, g6⟩ := h5
  simp [Cond.before, Cond.holds, Cond.value, h1, h2, h3, h4, g1, g2, g3, g4, g5, g6]
def isCode : Jvm.Cond → Bool
  | .code _ _ _ _ => true
  | _ => false
theorem all_split {L : List Jvm.Cond} {P : Jvm.Cond → Bool} (h1 : L.all (fun c => isCode c || P c) = true) (h2 : ∀ c ∈ L.filter isCode, P c = true) : L.all P = true := by
  refine List.all_eq_true.mpr fun c hc => ?_
  have h := List.all_eq_true.mp h1 c hc
  rcases Bool.eq_false_or_eq_true (isCode c) with hi | hi
  · exact h2 c (List.mem_filter.mpr ⟨hc, hi⟩)
  · simpa [hi] using h
set_option maxRecDepth 65536 in
theorem w_c0 : (Jvm.Cond.code x code maxLocals ret).before args0 about1 = true := code_word (m := ⟨1, 1⟩) (meth := k1m1) (c := k1c1) (by decide +kernel) rfl rfl rfl (by decide +kernel)
set_option maxRecDepth 65536 in
theorem w_c1 : (Jvm.Cond.code ({ cls := "com/example/tidemark/tidemark/service/HeapRegions", name := "<init>", desc := "(J)V" } : Jvm.MethodName) prog_116_method_1_code (3 : Nat) (Option.none : Option Jvm.ClassFile.FieldType)).before args0 about1 = true := code_word (m := ⟨3, 0⟩) (meth := k3m0) (c := k3c0) (by decide +kernel) rfl rfl rfl (by decide +kernel)
set_option maxRecDepth 65536 in
theorem w_c2 : (Jvm.Cond.code ({ cls := "java/lang/Record", name := "<init>", desc := "()V" } : Jvm.MethodName) jdk_30_method_1_code (1 : Nat) (Option.none : Option Jvm.ClassFile.FieldType)).before args0 about1 = true := code_word (m := ⟨2, 0⟩) (meth := k2m0) (c := k2c0) (by decide +kernel) rfl rfl rfl (by decide +kernel)
set_option maxRecDepth 65536 in
theorem w_c3 : (Jvm.Cond.code ({ cls := "java/lang/Object", name := "<init>", desc := "()V" } : Jvm.MethodName) object_method_1_code (1 : Nat) (Option.none : Option Jvm.ClassFile.FieldType)).before args0 about1 = true := code_word (m := ⟨0, 0⟩) (meth := k0m0) (c := k0c0) (by decide +kernel) rfl rfl rfl (by decide +kernel)
set_option maxRecDepth 65536 in
theorem w_c4 : (Jvm.Cond.code ({ cls := "com/example/tidemark/tidemark/service/HeapRegions", name := "arrayBytes", desc := "(J)J" } : Jvm.MethodName) prog_116_method_4_code (7 : Nat) (Option.some Jvm.ClassFile.FieldType.long)).before args0 about1 = true := code_word (m := ⟨3, 1⟩) (meth := k3m1) (c := k3c1) (by decide +kernel) rfl rfl rfl (by decide +kernel)
set_option maxRecDepth 65536 in
theorem w_c5 : (Jvm.Cond.code ({ cls := "java/lang/Math", name := "max", desc := "(JJ)J" } : Jvm.MethodName) jdk_29_method_66_code (4 : Nat) (Option.some Jvm.ClassFile.FieldType.long)).before args0 about1 = true := code_word (m := ⟨4, 1⟩) (meth := k4m1) (c := k4c1) (by decide +kernel) rfl rfl rfl (by decide +kernel)
def codes1 : List Jvm.Cond := [Jvm.Cond.code x code maxLocals ret, Jvm.Cond.code ({ cls := "com/example/tidemark/tidemark/service/HeapRegions", name := "<init>", desc := "(J)V" } : Jvm.MethodName) prog_116_method_1_code (3 : Nat) (Option.none : Option Jvm.ClassFile.FieldType), Jvm.Cond.code ({ cls := "java/lang/Record", name := "<init>", desc := "()V" } : Jvm.MethodName) jdk_30_method_1_code (1 : Nat) (Option.none : Option Jvm.ClassFile.FieldType), Jvm.Cond.code ({ cls := "java/lang/Object", name := "<init>", desc := "()V" } : Jvm.MethodName) object_method_1_code (1 : Nat) (Option.none : Option Jvm.ClassFile.FieldType), Jvm.Cond.code ({ cls := "com/example/tidemark/tidemark/service/HeapRegions", name := "arrayBytes", desc := "(J)J" } : Jvm.MethodName) prog_116_method_4_code (7 : Nat) (Option.some Jvm.ClassFile.FieldType.long), Jvm.Cond.code ({ cls := "java/lang/Math", name := "max", desc := "(JJ)J" } : Jvm.MethodName) jdk_29_method_66_code (4 : Nat) (Option.some Jvm.ClassFile.FieldType.long)]
set_option maxRecDepth 65536 in
theorem codes_eq : words1.filter isCode = codes1 := rfl
theorem w_codes : ∀ c ∈ words1.filter isCode, c.before args0 about1 = true := by
  rw [codes_eq]
  intro c hc
  simp only [codes1, List.mem_cons, List.not_mem_nil, or_false] at hc
  rcases hc with rfl | rfl | rfl | rfl | rfl | rfl
  · exact w_c0
  · exact w_c1
  · exact w_c2
  · exact w_c3
  · exact w_c4
  · exact w_c5
set_option maxRecDepth 65536 in
theorem w_t1 : (words1.take 24).all (fun c => isCode c || c.before args0 about1) = true := by decide +kernel
set_option maxRecDepth 65536 in
theorem w_t2 : (words1.drop 24).all (fun c => isCode c || c.before args0 about1) = true := by decide +kernel
theorem w_tables : (allAtoms (Jvm.Cond.code x code maxLocals ret :: tables_1)).before args0 about1 = true := by
  rw [allAtoms_all]
  show words1.all (fun c => c.before args0 about1) = true
  refine all_split ?_ w_codes
  rw [← List.take_append_drop 24 words1, List.all_append, w_t1, w_t2]
  rfl
set_option maxRecDepth 65536 in
theorem w_case : (Jvm.Cond.and given_1 narrow_1).before args0 about1 = true := by decide +kernel
theorem w_applies : (headSpec (Jvm.Cond.code x code maxLocals ret :: tables_1) room_1).applies x e0.platform about1 = true :=
  (Spec.applies_iff w_frames).mpr ⟨w_running, w_runnable, w_alone, w_named, w_hears, w_ripe, w_room, w_tables⟩
theorem atStart : AtStart classFile x code maxLocals ret World_1 tables_1 room_1 Calls_1 rest_1 Pre_1 launch0 p0 e0 about1 theMethod args0 below0 :=
  ⟨lists_1, trivial, launch0.admits_env _ _ _, launch0.least_env, fairChoices_fair.cas, fairChoices_fair.clock, w_frames, w_args, w_heap, w_applies, trivial, trivial, w_case⟩
end start1
theorem witness_1 : WitnessClaimed_1 := ⟨start1.p0, start1.e0, start1.about1, start1.theMethod, start1.args0, start1.below0, start1.atStart⟩
end Jvm.Pilot.@@N@@
