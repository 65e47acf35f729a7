import JvmDerived
import JvmDerived.Pilot.@@N@@Statement
import JvmDerived.Pilot.@@N@@Code
set_option linter.unusedVariables false
set_option linter.unusedSimpArgs false

namespace Jvm.Pilot.@@N@@
open Jvm Jvm.ClassFile Sem Op Lib Jvm.Free Jvm.Stand Jvm.LawKit Jvm.RoadKit Bundle Jvm.Pilot.@@N@@.Jvm.D
/-! own kit: the walk's goal carried forward, arrays as functions -/
def own_Fin (below : List Frame) (s : State) (Q : Option Value → Heap → List Loc → Prop) (k n : Nat) (t : State) : Prop :=
  ∃ o, t.status = .running ∧ Ended t below o ∧ ∃ v L, o = .returned v ∧ Q v t.heap L ∧ FrameEnd s o t L k n
def own_Go (tb : Tables) (e : Env) (below : List Frame) (S : State) (P : State → Prop) : Prop := ∃ t, Steps tb e below S t ∧ P t
theorem own_by {tb : Tables} {e : Env} {below : List Frame} {S S' : State} {P : State → Prop} (k : ∀ t, Steps tb e below S' t → Steps tb e below S t) (h : own_Go tb e below S' P) : own_Go tb e below S P := by
  obtain ⟨t, a, b⟩ := h
  exact ⟨t, k t a, b⟩
theorem own_tr {tb : Tables} {e : Env} {below : List Frame} {S S' : State} {P : State → Prop} (k : Steps tb e below S S') (h : own_Go tb e below S' P) : own_Go tb e below S P := by
  obtain ⟨t, a, b⟩ := h
  exact ⟨t, k.trans a, b⟩
theorem own_out {tb : Tables} {e : Env} {below : List Frame} {S s : State} {Q : Option Value → Heap → List Loc → Prop} {k n : Nat} (h : own_Go tb e below S (own_Fin below s Q k n)) :
    ∃ s₂ o, Steps tb e below S s₂ ∧ s₂.status = .running ∧ Ended s₂ below o ∧ ∃ v L, o = .returned v ∧ Q v s₂.heap L ∧ FrameEnd s o s₂ L k n := by
  obtain ⟨t, a, o, b, c, d⟩ := h
  exact ⟨t, o, a, b, c, d⟩
theorem own_cast {tb : Tables} {e : Env} {below : List Frame} {T : State} {g g' : JFrame} {P : State → Prop} (q : g = g') (h : own_Go tb e below (T.setTop g') P) : own_Go tb e below (T.setTop g) P := q ▸ h
section OwnEnd
variable {p : Program} {l : Launch} {e : Env} {R : Room} {s : State} {m : MethodId} {args : Array Value} {below : List Frame} {meth : Method} {c : Code} {T : State} {locs : List Loc} {cells slots : Nat} {Q : Option Value → Heap → List Loc → Prop} {k n : Nat}
theorem own_ret (X : Stand p l e R s m args below meth c T locs cells slots) (hx : p.tables.exec = Jvm.exec) (hlocks : meth.locks = false) {pc : Nat} {Ls : Array Slot} {w : Value} {t : FieldType} {i : Instr} {rest : List Value} (hret : meth.sig.returnType = some t) (hn : narrow t w = w)
    (hi : (i = .ireturn ∧ (t = .int ∨ t = .boolean ∨ t = .byte ∨ t = .char ∨ t = .short) ∧ ∃ z, w = .int z) ∨ (i = .lreturn ∧ t = .long ∧ ∃ z, w = .long z) ∨ (i = .dreturn ∧ t = .double ∧ ∃ z, w = .double z) ∨ (i = .freturn ∧ t = .float ∧ ∃ z, w = .float z) ∨ (i = .areturn ∧ t.isReference = true ∧ w.isRef = true))
    (hd : decode c.code pc = .ok (i, 1)) (hQ : Q (some w) T.heap locs) (h1 : cells ≤ k) (h2 : slots ≤ n) :
    own_Go p.tables e below (T.setTop (mkF m pc Ls (w :: rest))) (own_Fin below s Q k n) := by
  obtain ⟨fs, hr, hrun, hended, hW, hsame⟩ := X.leave (v := some w) (fun h => by rw [hret] at h; cases h) hlocks
  exact ⟨_, retOut X hx hret hn hi hd hr, _, hrun, hended, _, _, rfl, hQ, ⟨_, rfl⟩, hW, hsame.mono h1 h2⟩
theorem own_retI (X : Stand p l e R s m args below meth c T locs cells slots) (hx : p.tables.exec = Jvm.exec) (hlocks : meth.locks = false) {pc : Nat} {Ls : Array Slot} {z : Int32} {rest : List Value} (hret : meth.sig.returnType = some .int)
    (hd : decode c.code pc = .ok (.ireturn, 1)) (hQ : Q (some (.int z)) T.heap locs) (h1 : cells ≤ k) (h2 : slots ≤ n) :
    own_Go p.tables e below (T.setTop (mkF m pc Ls (.int z :: rest))) (own_Fin below s Q k n) :=
  own_ret X hx hlocks hret rfl (Or.inl ⟨rfl, Or.inl rfl, _, rfl⟩) hd hQ h1 h2
theorem own_retJ (X : Stand p l e R s m args below meth c T locs cells slots) (hx : p.tables.exec = Jvm.exec) (hlocks : meth.locks = false) {pc : Nat} {Ls : Array Slot} {z : Int64} {rest : List Value} (hret : meth.sig.returnType = some .long)
    (hd : decode c.code pc = .ok (.lreturn, 1)) (hQ : Q (some (.long z)) T.heap locs) (h1 : cells ≤ k) (h2 : slots ≤ n) :
    own_Go p.tables e below (T.setTop (mkF m pc Ls (.long z :: rest))) (own_Fin below s Q k n) :=
  own_ret X hx hlocks hret rfl (Or.inr (Or.inl ⟨rfl, rfl, _, rfl⟩)) hd hQ h1 h2
theorem own_retA (X : Stand p l e R s m args below meth c T locs cells slots) (hx : p.tables.exec = Jvm.exec) (hlocks : meth.locks = false) {pc : Nat} {Ls : Array Slot} {w : Value} {t : FieldType} {rest : List Value} (hret : meth.sig.returnType = some t) (ht : t.isReference = true) (hw : w.isRef = true) (hn : narrow t w = w)
    (hd : decode c.code pc = .ok (.areturn, 1)) (hQ : Q (some w) T.heap locs) (h1 : cells ≤ k) (h2 : slots ≤ n) :
    own_Go p.tables e below (T.setTop (mkF m pc Ls (w :: rest))) (own_Fin below s Q k n) :=
  own_ret X hx hlocks hret hn (Or.inr (Or.inr (Or.inr (Or.inr ⟨rfl, ht, hw⟩)))) hd hQ h1 h2
theorem own_retN (X : Stand p l e R s m args below meth c T locs cells slots) (hx : p.tables.exec = Jvm.exec) (hlocks : meth.locks = false) {pc : Nat} {Ls : Array Slot} {z : Int32} {t : FieldType} {rest : List Value} (hret : meth.sig.returnType = some t) (ht : t = .boolean ∨ t = .byte ∨ t = .char ∨ t = .short) (hn : nar t z = z)
    (hd : decode c.code pc = .ok (.ireturn, 1)) (hQ : Q (some (.int z)) T.heap locs) (h1 : cells ≤ k) (h2 : slots ≤ n) :
    own_Go p.tables e below (T.setTop (mkF m pc Ls (.int z :: rest))) (own_Fin below s Q k n) := by
  obtain ⟨fs, hr, hrun, hended, hW, hsame⟩ := X.leave (v := some (.int (nar t z))) (fun h => by rw [hret] at h; cases h) hlocks
  exact ⟨_, retN X hx hret ht hd hr, _, hrun, hended, _, _, rfl, (by rw [hn]; exact hQ), ⟨_, rfl⟩, hW, hsame.mono h1 h2⟩
theorem own_retV (X : Stand p l e R s m args below meth c T locs cells slots) (hx : p.tables.exec = Jvm.exec) (hlocks : meth.locks = false) {pc : Nat} {Ls : Array Slot} (hret : meth.sig.returnType = none)
    (hd : decode c.code pc = .ok (.return_, 1)) (hQ : Q none T.heap locs) (h1 : cells ≤ k) (h2 : slots ≤ n) :
    own_Go p.tables e below (T.setTop (mkF m pc Ls [])) (own_Fin below s Q k n) := by
  obtain ⟨fs, hr, hrun, hended, hW, hsame⟩ := X.leave (v := none) (fun _ => rfl) hlocks
  exact ⟨_, X.returnOut hx hret hd hr, _, hrun, hended, _, _, rfl, hQ, ⟨_, rfl⟩, hW, hsame.mono h1 h2⟩
end OwnEnd
/-- one place of a function changed -/
def own_upd {α : Type} (f : Nat → α) (k : Nat) (x : α) : Nat → α := fun i => if i = k then x else f i
theorem own_upd_at {α : Type} (f : Nat → α) (k : Nat) (x : α) : own_upd f k x k = x := by simp [own_upd]
theorem own_upd_ne {α : Type} (f : Nat → α) {k i : Nat} (x : α) (h : i ≠ k) : own_upd f k x i = f i := by simp [own_upd, h]
/-- an array: its length, and what each place holds -/
def own_AF (Z : State) (h : Heap) (a : Addr) (ty : FieldType) (n : Nat) (f : Nat → Value) : Prop := ∃ c : Cell, Arr Z h a c ty ∧ c.slots.size = n ∧ ∀ i, i < n → c.slots[i]? = some (f i)
def own_AI (Z : State) (h : Heap) (a : Addr) (ty : FieldType) (n : Nat) (b : Nat → Int32) : Prop := own_AF Z h a ty n (fun i => .int (b i))
def own_AJ (Z : State) (h : Heap) (a : Addr) (n : Nat) (b : Nat → Int64) : Prop := own_AF Z h a .long n (fun i => .long (b i))
section OwnArr
variable {Z : State} {h h' : Heap} {a b : Addr} {ty : FieldType} {n : Nat} {f : Nat → Value} {ws : List Addr} {sl : Nat} {v : Value} {bi : Nat → Int32} {bj : Nat → Int64}
theorem own_AF.lt (F : own_AF Z h a ty n f) : a < h.size := by obtain ⟨c, A, -⟩ := F; exact A.lt
theorem own_AF.ext (F : own_AF Z h a ty n f) (E : Ext h h') : own_AF Z h' a ty n f := by obtain ⟨c, A, r⟩ := F; exact ⟨c, A.ext E, r⟩
theorem own_AF.other (F : own_AF Z h b ty n f) (W : Wr h h' a sl v) (q : b ≠ a) : own_AF Z h' b ty n f := by obtain ⟨c, A, r⟩ := F; exact ⟨c, A.other W q, r⟩
theorem own_AF.keep (F : own_AF Z h a ty n f) (K : Keep h h' ws) (q : a ∉ ws) : own_AF Z h' a ty n f := by obtain ⟨c, A, r⟩ := F; exact ⟨c, ⟨K.2.1 a c A.1 q, A.2⟩, r⟩
theorem own_AF.congr (F : own_AF Z h a ty n f) {f' : Nat → Value} (q : ∀ i, i < n → f i = f' i) : own_AF Z h a ty n f' := by obtain ⟨c, A, S, r⟩ := F; exact ⟨c, A, S, fun i hi => by rw [← q i hi]; exact r i hi⟩
theorem own_AF.new {k : ClassId} {z : Int32} (A : Arr Z h a (newA k ty z) ty) (hz : z.toNatClampNeg = n) : own_AF Z h a ty n (fun _ => defaultValue ty) := by
  subst hz
  exact ⟨_, A, sz_new _ _ _, fun i hi => by simp [newA, hi]⟩
theorem own_AF.st (F : own_AF Z h a ty n f) (W : Wr h h' a sl v) : own_AF Z h' a ty n (own_upd f sl v) := by
  obtain ⟨c, A, S, r⟩ := F
  refine ⟨_, A.same W, by rw [sz_set]; exact S, fun i hi => ?_⟩
  by_cases u : i = sl
  · subst u; rw [own_upd_at]; simp [Cell.setSlot, S, hi]
  · rw [own_upd_ne _ _ u]
    simp only [Cell.setSlot]
    rw [Array.getElem?_setIfInBounds_ne (fun q => u q.symm)]; exact r i hi
theorem own_AI.st {x : Int32} (F : own_AI Z h a ty n bi) (W : Wr h h' a sl (.int x)) : own_AI Z h' a ty n (own_upd bi sl x) :=
  (own_AF.st F W).congr fun i _ => by by_cases u : i = sl <;> simp [own_upd, u]
theorem own_AJ.st {x : Int64} (F : own_AJ Z h a n bj) (W : Wr h h' a sl (.long x)) : own_AJ Z h' a n (own_upd bj sl x) :=
  (own_AF.st F W).congr fun i _ => by by_cases u : i = sl <;> simp [own_upd, u]
theorem own_AI.lt (F : own_AI Z h a ty n bi) : a < h.size := own_AF.lt F
theorem own_AI.ext (F : own_AI Z h a ty n bi) (E : Ext h h') : own_AI Z h' a ty n bi := own_AF.ext F E
theorem own_AI.other (F : own_AI Z h b ty n bi) (W : Wr h h' a sl v) (q : b ≠ a) : own_AI Z h' b ty n bi := own_AF.other F W q
theorem own_AI.keep (F : own_AI Z h a ty n bi) (K : Keep h h' ws) (q : a ∉ ws) : own_AI Z h' a ty n bi := own_AF.keep F K q
theorem own_AI.congr (F : own_AI Z h a ty n bi) {b' : Nat → Int32} (q : ∀ i, i < n → bi i = b' i) : own_AI Z h a ty n b' := own_AF.congr F fun i hi => by rw [q i hi]
theorem own_AJ.lt (F : own_AJ Z h a n bj) : a < h.size := own_AF.lt F
theorem own_AJ.ext (F : own_AJ Z h a n bj) (E : Ext h h') : own_AJ Z h' a n bj := own_AF.ext F E
theorem own_AJ.other (F : own_AJ Z h b n bj) (W : Wr h h' a sl v) (q : b ≠ a) : own_AJ Z h' b n bj := own_AF.other F W q
theorem own_AJ.keep (F : own_AJ Z h a n bj) (K : Keep h h' ws) (q : a ∉ ws) : own_AJ Z h' a n bj := own_AF.keep F K q
theorem own_AJ.congr (F : own_AJ Z h a n bj) {b' : Nat → Int64} (q : ∀ i, i < n → bj i = b' i) : own_AJ Z h a n b' := own_AF.congr F fun i hi => by rw [q i hi]
variable {p : Program} {l : Launch} {e : Env} {R : Room} {s : State} {m : MethodId} {args : Array Value} {below : List Frame} {meth : Method} {c : Code} {T : State} {locs : List Loc} {cells slots : Nat} {j : Int32} {k : Nat} {g : JFrame} {rest : List Value}
theorem own_in {cl : Cell} (S : cl.slots.size = n) (h0 : ¬ j < 0) (hk : j.toNatClampNeg = k) (hlt : k < n) : ¬ (j < 0 ∨ cl.slots.size ≤ j.toNatClampNeg) := by
  rintro (q | q)
  · exact h0 q
  · rw [S, hk] at q; omega
theorem own_ldB (X : Stand p l e R s m args below meth c T locs cells slots) (hx : p.tables.exec = Jvm.exec) (hZ : Z.Warmed39 s.vm) (eT : T.heap = h) (A : own_AI Z h a .byte n bi) (h0 : ¬ j < 0) (hk : j.toNatClampNeg = k) (hlt : k < n) (hg : g.method = m) (hs : g.stack = .int j :: .ref a :: rest) (hd : decode c.code g.pc = .ok (.baload, 1)) :
    ∀ target, Steps p.tables e below (T.setTop { g with pc := g.pc + 1, stack := .int (bi k) :: rest }) target → Steps p.tables e below (T.setTop g) target := by
  obtain ⟨cl, Ar, S, H⟩ := A
  exact X.baloadBytes hx (v := .int (bi k)) (by rw [eT]; exact Ar.1) (State.isArrayOf_alike hZ.alike Ar.2.1) Ar.2.2 (own_in S h0 hk hlt) (by rw [hk]; exact H k hlt) hg hs hd
theorem own_ldI (X : Stand p l e R s m args below meth c T locs cells slots) (hx : p.tables.exec = Jvm.exec) (hZ : Z.Warmed39 s.vm) (eT : T.heap = h) (A : own_AI Z h a .int n bi) (h0 : ¬ j < 0) (hk : j.toNatClampNeg = k) (hlt : k < n) (hg : g.method = m) (hs : g.stack = .int j :: .ref a :: rest) (hd : decode c.code g.pc = .ok (.iaload, 1)) :
    ∀ target, Steps p.tables e below (T.setTop { g with pc := g.pc + 1, stack := .int (bi k) :: rest }) target → Steps p.tables e below (T.setTop g) target := by
  obtain ⟨cl, Ar, S, H⟩ := A
  exact X.iaload hx (v := .int (bi k)) (by rw [eT]; exact Ar.1) (State.isArrayOf_alike hZ.alike Ar.2.1) Ar.2.2 (own_in S h0 hk hlt) (by rw [hk]; exact H k hlt) hg hs hd
theorem own_ldJ (X : Stand p l e R s m args below meth c T locs cells slots) (hx : p.tables.exec = Jvm.exec) (hZ : Z.Warmed39 s.vm) (eT : T.heap = h) (A : own_AJ Z h a n bj) (h0 : ¬ j < 0) (hk : j.toNatClampNeg = k) (hlt : k < n) (hg : g.method = m) (hs : g.stack = .int j :: .ref a :: rest) (hd : decode c.code g.pc = .ok (.laload, 1)) :
    ∀ target, Steps p.tables e below (T.setTop { g with pc := g.pc + 1, stack := .long (bj k) :: rest }) target → Steps p.tables e below (T.setTop g) target := by
  obtain ⟨cl, Ar, S, H⟩ := A
  exact X.laload hx (v := .long (bj k)) (by rw [eT]; exact Ar.1) (State.isArrayOf_alike hZ.alike Ar.2.1) Ar.2.2 (own_in S h0 hk hlt) (by rw [hk]; exact H k hlt) hg hs hd
theorem own_len (X : Stand p l e R s m args below meth c T locs cells slots) (hx : p.tables.exec = Jvm.exec) (hZ : Z.Warmed39 s.vm) (eT : T.heap = h) (A : own_AF Z h a ty n f) {z : Int32} (hz : n.toInt32 = z) (hg : g.method = m) (hs : g.stack = .ref a :: rest) (hd : decode c.code g.pc = .ok (.arraylength, 1)) :
    ∀ target, Steps p.tables e below (T.setTop { g with pc := g.pc + 1, stack := .int z :: rest }) target → Steps p.tables e below (T.setTop g) target := by
  obtain ⟨cl, Ar, S, H⟩ := A
  intro t hr
  refine X.arraylength hx (by rw [eT]; exact Ar.1) (State.isArrayOf_alike hZ.alike Ar.2.1) hg hs hd t ?_
  rw [S, hz]; exact hr
theorem own_stB (X : Stand p l e R s m args below meth c T locs cells slots) (hx : p.tables.exec = Jvm.exec) (hZ : Z.Warmed39 s.vm) (eT : T.heap = h) (A : own_AI Z h a .byte n bi) {x : Int32} (h0 : ¬ j < 0) (hk : j.toNatClampNeg = k) (hlt : k < n) (hg : g.method = m) (hs : g.stack = .int x :: .int j :: .ref a :: rest) (hd : decode c.code g.pc = .ok (.bastore, 1)) :
    ∃ T' h', Stand p l e R s m args below meth c T' (locs ++ [⟨a, k⟩]) cells slots ∧ T'.heap = h' ∧ Wr h h' a k (.int (x.toInt8.toInt32)) ∧ own_AI Z h' a .byte n (own_upd bi k (x.toInt8.toInt32)) ∧ ∀ target, Steps p.tables e below (T'.setTop { g with pc := g.pc + 1, stack := rest }) target → Steps p.tables e below (T.setTop g) target := by
  obtain ⟨cl, Ar, S, H⟩ := id A
  obtain ⟨T', h', X', e', W, st⟩ := stB X hx hZ eT Ar (own_in S h0 hk hlt) hg hs hd
  rw [hk] at X' W
  exact ⟨T', h', X', e', W, A.st W, st⟩
theorem own_stI (X : Stand p l e R s m args below meth c T locs cells slots) (hx : p.tables.exec = Jvm.exec) (hZ : Z.Warmed39 s.vm) (eT : T.heap = h) (A : own_AI Z h a .int n bi) {x : Int32} (h0 : ¬ j < 0) (hk : j.toNatClampNeg = k) (hlt : k < n) (hg : g.method = m) (hs : g.stack = .int x :: .int j :: .ref a :: rest) (hd : decode c.code g.pc = .ok (.iastore, 1)) :
    ∃ T' h', Stand p l e R s m args below meth c T' (locs ++ [⟨a, k⟩]) cells slots ∧ T'.heap = h' ∧ Wr h h' a k (.int x) ∧ own_AI Z h' a .int n (own_upd bi k x) ∧ ∀ target, Steps p.tables e below (T'.setTop { g with pc := g.pc + 1, stack := rest }) target → Steps p.tables e below (T.setTop g) target := by
  obtain ⟨cl, Ar, S, H⟩ := id A
  obtain ⟨T', h', X', e', W, st⟩ := stI X hx hZ eT Ar (own_in S h0 hk hlt) hg hs hd
  rw [hk] at X' W
  exact ⟨T', h', X', e', W, A.st W, st⟩
theorem own_stJ (X : Stand p l e R s m args below meth c T locs cells slots) (hx : p.tables.exec = Jvm.exec) (hZ : Z.Warmed39 s.vm) (eT : T.heap = h) (A : own_AJ Z h a n bj) {x : Int64} (h0 : ¬ j < 0) (hk : j.toNatClampNeg = k) (hlt : k < n) (hg : g.method = m) (hs : g.stack = .long x :: .int j :: .ref a :: rest) (hd : decode c.code g.pc = .ok (.lastore, 1)) :
    ∃ T' h', Stand p l e R s m args below meth c T' (locs ++ [⟨a, k⟩]) cells slots ∧ T'.heap = h' ∧ Wr h h' a k (.long x) ∧ own_AJ Z h' a n (own_upd bj k x) ∧ ∀ target, Steps p.tables e below (T'.setTop { g with pc := g.pc + 1, stack := rest }) target → Steps p.tables e below (T.setTop g) target := by
  obtain ⟨cl, Ar, S, H⟩ := id A
  obtain ⟨T', h', X', e', W, st⟩ := stJ X hx hZ eT Ar (own_in S h0 hk hlt) hg hs hd
  rw [hk] at X' W
  exact ⟨T', h', X', e', W, A.st W, st⟩
end OwnArr
/-- what a body leaves that returns an int (a long) and writes nothing -/
def own_QI (h0 : Heap) (n0 : Nat) (f : Int32) (v : Option Value) (h : Heap) (L : List Loc) : Prop := ∃ r : Int32, v = some (.int r) ∧ Fr n0 L ∧ h = h0 ∧ r = f
def own_QJ (h0 : Heap) (n0 : Nat) (f : Int64) (v : Option Value) (h : Heap) (L : List Loc) : Prop := ∃ r : Int64, v = some (.long r) ∧ Fr n0 L ∧ h = h0 ∧ r = f
theorem own_nb {z : Int32} (h : z = 0 ∨ z = 1) : nar .boolean z = z := by rcases h with rfl | rfl <;> decide
/-! sums, differences and products that don't wrap -/
theorem own_add {x y : Int32} (h1 : -2147483648 ≤ x.toInt + y.toInt) (h2 : x.toInt + y.toInt < 2147483648) : (x + y).toInt = x.toInt + y.toInt := by
  have a := c_iadd x y; have b := (x + y).toInt_lt; have c := (x + y).le_toInt; omega
theorem own_sub' {x y : Int32} (h1 : -2147483648 ≤ x.toInt - y.toInt) (h2 : x.toInt - y.toInt < 2147483648) : (x - y).toInt = x.toInt - y.toInt := by
  have a := c_isub x y; have b := (x - y).toInt_lt; have c := (x - y).le_toInt; omega
theorem own_mul {x y : Int32} {t : Int} (ht : x.toInt * y.toInt = t) (h1 : -2147483648 ≤ t) (h2 : t < 2147483648) : (x * y).toInt = t := by
  have a := c_imul x y; rw [ht] at a; have b := (x * y).toInt_lt; have c := (x * y).le_toInt; omega
theorem own_addL {x y : Int64} (h1 : -9223372036854775808 ≤ x.toInt + y.toInt) (h2 : x.toInt + y.toInt < 9223372036854775808) : (x + y).toInt = x.toInt + y.toInt := by
  have a := c_ladd x y; have b := (x + y).toInt_lt; have c := (x + y).le_toInt; omega
theorem own_subL {x y : Int64} (h1 : -9223372036854775808 ≤ x.toInt - y.toInt) (h2 : x.toInt - y.toInt < 9223372036854775808) : (x - y).toInt = x.toInt - y.toInt := by
  have a := c_lsub x y; have b := (x - y).toInt_lt; have c := (x - y).le_toInt; omega
theorem own_mulL {x y : Int64} {t : Int} (ht : x.toInt * y.toInt = t) (h1 : -9223372036854775808 ≤ t) (h2 : t < 9223372036854775808) : (x * y).toInt = t := by
  have a := c_lmul x y; rw [ht] at a; have b := (x * y).toInt_lt; have c := (x * y).le_toInt; omega
theorem own_three {p1 : Int32} (h0 : ¬ p1 = 0) (h1 : ¬ p1 = 1) (h2 : ¬ p1 = 2) (hp : 0 ≤ p1.toInt ∧ p1.toInt ≤ 3) : p1 = 3 := by
  simp only [← Int32.toInt_inj] at h0 h1 h2 ⊢
  have e0 : (0 : Int32).toInt = 0 := by decide
  have e1 : (1 : Int32).toInt = 1 := by decide
  have e2 : (2 : Int32).toInt = 2 := by decide
  have e3 : (3 : Int32).toInt = 3 := by decide
  rw [e0] at h0; rw [e1] at h1; rw [e2] at h2; rw [e3]; omega
theorem own_ln3 {k ln : Int32} (h : ln = (k &&& (3 : Int32))) : 0 ≤ ln.toInt ∧ ln.toInt ≤ 3 := by
  have m := c_mask k 3 2 (by decide) (by decide)
  rw [h, m]; omega
def own_MX : Int64 := 9223372036854775807
theorem own_nn (x : Int64) : 0 ≤ (x &&& (9223372036854775807 : Int64)).toInt := by
  have m := c_maskL x 9223372036854775807 63 (by decide) (by decide)
  rw [m]; omega
theorem own_off {size0 gap0 sz rm g0 gp of : Int64} {k ln la : Int32} (hln : ln = (k &&& (3 : Int32)))
    (hsz : sz = (if (size0 &&& (9223372036854775807 : Int64)) < (ln.toInt64) then (ln.toInt64) else (size0 &&& (9223372036854775807 : Int64)))) (hrm : rm = (sz - (ln.toInt64)))
    (hg0 : g0 = (if rm < (gap0 &&& (9223372036854775807 : Int64)) then rm else (gap0 &&& (9223372036854775807 : Int64)))) (hgp : gp = (if la = (0 : Int32) then g0 else (0 : Int64))) (hof : of = (rm - gp)) :
    of.toInt = sz.toInt - ln.toInt - gp.toInt ∧ 0 ≤ of.toInt ∧ 0 ≤ gp.toInt ∧ 0 ≤ ln.toInt ∧ ln.toInt ≤ 3 := by
  obtain ⟨l0, l3⟩ := own_ln3 hln
  have s0 : ln.toInt ≤ sz.toInt := by
    rw [hsz]; split
    · rw [c_i2l]; omega
    · rename_i q; rw [Int64.lt_iff_toInt_lt, c_i2l] at q; omega
  have a1 := c_lsub sz ln.toInt64; rw [← hrm, c_i2l] at a1
  have b1 := rm.toInt_lt; have b2 := rm.le_toInt; have b3 := sz.toInt_lt
  have n0 := own_nn gap0
  have g1 : 0 ≤ g0.toInt ∧ g0.toInt ≤ rm.toInt := by
    rw [hg0]; split
    · omega
    · rename_i q; rw [Int64.lt_iff_toInt_lt] at q; omega
  have g2 : 0 ≤ gp.toInt ∧ gp.toInt ≤ rm.toInt := by
    rw [hgp]; split
    · exact g1
    · have : (0 : Int64).toInt = 0 := by decide
      omega
  have a2 := c_lsub rm gp; rw [← hof] at a2
  have b4 := of.toInt_lt; have b5 := of.le_toInt
  refine ⟨by omega, by omega, by omega, by omega, by omega⟩
theorem own_max {u v : Int64} {w : Int64} (h : w = (if u < v then v else u)) : u.toInt ≤ w.toInt := by
  rw [h]; split
  · rename_i q; rw [Int64.lt_iff_toInt_lt] at q; omega
  · omega
theorem own_maxI {u v w : Int32} (h : w = (if u < v then v else u)) : u.toInt ≤ w.toInt := by
  rw [h]; split
  · rename_i q; rw [Int32.lt_iff_toInt_lt] at q; omega
  · omega
theorem own_ok {size0 gap0 t sz rm g0 gp of tm li : Int64} {k ln la ld : Int32} (hln : ln = (k &&& (3 : Int32))) (hld : ld = (if (1 : Int32) < ((k.toUInt32 >>> ((3 : Int32) &&& 31).toUInt32).toInt32) then ((k.toUInt32 >>> ((3 : Int32) &&& 31).toUInt32).toInt32) else (1 : Int32)))
    (htm : tm = (if (1 : Int64) < (t &&& (9223372036854775807 : Int64)) then (t &&& (9223372036854775807 : Int64)) else (1 : Int64))) (hli : li = (if (1 : Int64) < ((t.toUInt64 >>> ((1 : Int32) &&& 0x3f).toInt64.toUInt64).toInt64) then ((t.toUInt64 >>> ((1 : Int32) &&& 0x3f).toInt64.toUInt64).toInt64) else (1 : Int64)))
    (hsz : sz = (if (size0 &&& (9223372036854775807 : Int64)) < (ln.toInt64) then (ln.toInt64) else (size0 &&& (9223372036854775807 : Int64)))) (hrm : rm = (sz - (ln.toInt64)))
    (hg0 : g0 = (if rm < (gap0 &&& (9223372036854775807 : Int64)) then rm else (gap0 &&& (9223372036854775807 : Int64)))) (hgp : gp = (if la = (0 : Int32) then g0 else (0 : Int64))) (hof : of = (rm - gp)) :
    (¬ tm < (1 : Int64)) ∧ (¬ ld < (1 : Int32)) ∧ (¬ li < (1 : Int64)) ∧ (¬ tm < (1 : Int64)) ∧ (¬ tm < tm) ∧ (¬ of < (0 : Int64)) ∧ (¬ sz < (of + ln.toInt64)) := by
  obtain ⟨o1, o2, o3, o4, o5⟩ := own_off hln hsz hrm hg0 hgp hof
  have m1 := own_max htm; have m2 := own_maxI hld; have m3 := own_max hli
  have e1 : (1 : Int64).toInt = 1 := by decide
  have e2 : (1 : Int32).toInt = 1 := by decide
  have e3 : (0 : Int64).toInt = 0 := by decide
  have a1 := c_ladd of ln.toInt64; rw [c_i2l] at a1
  have b1 := (of + ln.toInt64).toInt_lt; have b2 := (of + ln.toInt64).le_toInt; have b3 := sz.toInt_lt
  simp only [Int64.lt_iff_toInt_lt, Int32.lt_iff_toInt_lt, e1, e2, e3] at *
  refine ⟨by omega, by omega, by omega, by omega, by omega, by omega, by omega⟩
theorem own_main {size0 gap0 sz rm g0 gp of : Int64} {k ln la ex r : Int32} (hln : ln = (k &&& (3 : Int32)))
    (hsz : sz = (if (size0 &&& (9223372036854775807 : Int64)) < (ln.toInt64) then (ln.toInt64) else (size0 &&& (9223372036854775807 : Int64)))) (hrm : rm = (sz - (ln.toInt64)))
    (hg0 : g0 = (if rm < (gap0 &&& (9223372036854775807 : Int64)) then rm else (gap0 &&& (9223372036854775807 : Int64)))) (hgp : gp = (if la = (0 : Int32) then g0 else (0 : Int64))) (hof : of = (rm - gp))
    (hex : ex = (if gp = (0 : Int64) then (1 : Int32) else (0 : Int32))) (hr : r = (if (of + ln.toInt64) = sz then (1 : Int32) else (0 : Int32))) : r = ex := by
  obtain ⟨o1, o2, o3, o4, o5⟩ := own_off hln hsz hrm hg0 hgp hof
  have a1 := c_ladd of ln.toInt64; rw [c_i2l] at a1
  have b1 := (of + ln.toInt64).toInt_lt; have b2 := (of + ln.toInt64).le_toInt; have b3 := sz.toInt_lt
  have e3 : (0 : Int64).toInt = 0 := by decide
  have q : ((of + ln.toInt64) = sz) ↔ gp = 0 := by
    rw [← Int64.toInt_inj, ← Int64.toInt_inj, e3]
    constructor <;> intro z <;> omega
  rw [hr, hex]
  by_cases z : gp = 0
  · rw [if_pos z, if_pos (q.mpr z)]
  · rw [if_neg z, if_neg (fun y => z (q.mp y))]
theorem d_jdk_29_method_65_0 : decode jdk_29_method_65_code 0 = .ok (.iload_n 0, 1) := by decide +kernel
theorem d_jdk_29_method_65_1 : decode jdk_29_method_65_code 1 = .ok (.iload_n 1, 1) := by decide +kernel
theorem d_jdk_29_method_65_2 : decode jdk_29_method_65_code 2 = .ok (.if_icmp .lt 7, 3) := by decide +kernel
theorem d_jdk_29_method_65_9 : decode jdk_29_method_65_code 9 = .ok (.iload_n 1, 1) := by decide +kernel
theorem d_jdk_29_method_65_5 : decode jdk_29_method_65_code 5 = .ok (.iload_n 0, 1) := by decide +kernel
theorem d_jdk_29_method_65_6 : decode jdk_29_method_65_code 6 = .ok (.goto 4, 3) := by decide +kernel
theorem d_jdk_29_method_65_10 : decode jdk_29_method_65_code 10 = .ok (.ireturn, 1) := by decide +kernel
theorem ef_rm_maxI (m : MethodId) (p1 : Int32) (p2 : Int32) : entryFrame m #[(.int p1), (.int p2)] 2 = mkF m 0 #[.val (.int p1), .val (.int p2)] [] := by first | (simp [entryFrame, mkF, argsToLocals, Value.category]; done) | rfl
set_option maxRecDepth 65536 in
set_option maxHeartbeats 40000000 in
theorem rm_maxI (l : Launch) (Z : State) (a0 : Array Value) (hw : ∀ d ∈ tables_1, d.before a0 Z = true) (ws : List Jvm.Cond) (p1 : Int32) (p2 : Int32) (h0 : Heap) (n0 : Nat) (Z0 : n0 ≤ h0.size)  :
    MetFree l (⟨"java/lang/Math", "max", "(II)I"⟩ : MethodName) (head1 (Jvm.Cond.code (⟨"java/lang/Math", "max", "(II)I"⟩ : MethodName) jdk_29_method_65_code 2 (some .int) :: ws) ({ frames := 0, cells := 0, slots := 0, locals := 0 } : Room)) (fun zA zU => zA = #[(.int p1), (.int p2)] ∧ Z.Warmed39 zU.vm ∧ zU.heap = h0) (fun _ _ _ _ _ => True) (fun _ zU zo zW => ∃ zv zL, zo = .returned zv ∧ (own_QI h0 n0 (if p1 < p2 then p2 else p1)) zv zW.heap zL ∧ FrameEnd zU zo zW zL ({ frames := 0, cells := 0, slots := 0, locals := 0 } : Room).cells ({ frames := 0, cells := 0, slots := 0, locals := 0 } : Room).slots) := by
  refine MetFree.of_bodySF (Jvm.Free.JP.mathPlain rfl (by decide +kernel)) hisR ?_
  intro p e s m args below meth c s₁ Bd hml0 hP hK
  obtain ⟨rfl, hZ, hh⟩ := hP
  have hx := Bd.exec
  have hby := Bd.bytes
  have hml : c.maxLocals = 2 := hml0
  have hown : s.vm.findClass "java/lang/Math" = some m.cls := findClass_of_methodNamed Bd.named
  have hnm := (name_of_methodNamed Bd.named Bd.method).1
  have X0 : Stand p l e ({ frames := 0, cells := 0, slots := 0, locals := 0 } : Room) s m #[(.int p1), (.int p2)] below meth c s₁ [] 0 0 := Stand.of_body Bd
  have e0 : s₁.heap = h0 := by rw [← hh, Bd.state]; rfl
  have N0 := Fr.nil n0
  refine own_out (Q := own_QI h0 n0 (if p1 < p2 then p2 else p1)) ?_
  refine own_cast (ef_rm_maxI m p1 p2) ?_
  show own_Go p.tables e below (s₁.setTop (mkF m 0 #[.val (.int p1), .val (.int p2)] [])) _
  obtain ⟨q, hq, sj2⟩ : ∃ (q : Int32), q = (if p1 < p2 then p2 else p1) ∧ ∀ zt, Steps p.tables e below (s₁.setTop (mkF m 10 #[.val (.int p1), .val (.int p2)] [(.int q)])) zt → Steps p.tables e below (s₁.setTop (mkF m 0 #[.val (.int p1), .val (.int p2)] [])) zt := by
    by_cases j1 : p1 < p2
    · refine ⟨(p2), (if_pos j1).symm, fun zt zk => ?_⟩
      show Steps p.tables e below (s₁.setTop (mkF m 0 #[.val (.int p1), .val (.int p2)] [])) _
      refine XS.iloadN X0.here hx rfl (hb hby d_jdk_29_method_65_0) rfl ?_
      show Steps p.tables e below (s₁.setTop (mkF m 1 #[.val (.int p1), .val (.int p2)] [(.int p1)])) _
      refine XS.iloadN X0.here hx rfl (hb hby d_jdk_29_method_65_1) rfl ?_
      show Steps p.tables e below (s₁.setTop (mkF m 2 #[.val (.int p1), .val (.int p2)] [(.int p2), (.int p1)])) _
      refine XS.icmpYes X0.here hx rfl (pc0 := 2) (pc' := 9) rfl (hb hby d_jdk_29_method_65_2) rfl (tlt j1).1 (by decide) (by decide) ?_
      show Steps p.tables e below (s₁.setTop (mkF m 9 #[.val (.int p1), .val (.int p2)] [])) _
      refine XS.iloadN X0.here hx rfl (hb hby d_jdk_29_method_65_9) rfl ?_
      show Steps p.tables e below (s₁.setTop (mkF m 10 #[.val (.int p1), .val (.int p2)] [(.int p2)])) _
      exact zk
    · refine ⟨(p1), (if_neg j1).symm, fun zt zk => ?_⟩
      show Steps p.tables e below (s₁.setTop (mkF m 0 #[.val (.int p1), .val (.int p2)] [])) _
      refine XS.iloadN X0.here hx rfl (hb hby d_jdk_29_method_65_0) rfl ?_
      show Steps p.tables e below (s₁.setTop (mkF m 1 #[.val (.int p1), .val (.int p2)] [(.int p1)])) _
      refine XS.iloadN X0.here hx rfl (hb hby d_jdk_29_method_65_1) rfl ?_
      show Steps p.tables e below (s₁.setTop (mkF m 2 #[.val (.int p1), .val (.int p2)] [(.int p2), (.int p1)])) _
      refine XS.icmpNo X0.here hx rfl (hb hby d_jdk_29_method_65_2) rfl (flt j1).1 ?_
      show Steps p.tables e below (s₁.setTop (mkF m 5 #[.val (.int p1), .val (.int p2)] [])) _
      refine XS.iloadN X0.here hx rfl (hb hby d_jdk_29_method_65_5) rfl ?_
      show Steps p.tables e below (s₁.setTop (mkF m 6 #[.val (.int p1), .val (.int p2)] [(.int p1)])) _
      refine XS.goto X0.here hx rfl (pc0 := 6) (pc' := 10) rfl (hb hby d_jdk_29_method_65_6) (by decide) (by decide) ?_
      show Steps p.tables e below (s₁.setTop (mkF m 10 #[.val (.int p1), .val (.int p2)] [(.int p1)])) _
      exact zk
  refine own_by (sj2) ?_
  show own_Go p.tables e below (s₁.setTop (mkF m 10 #[.val (.int p1), .val (.int p2)] [(.int q)])) _
  exact own_retI X0 hx Bd.notSynchronized Bd.returns (hb hby d_jdk_29_method_65_10) (by (try rw [e0]); exact ⟨_, rfl, N0, rfl, hq⟩) (by decide) (by decide)
theorem d_jdk_29_method_66_0 : decode jdk_29_method_66_code 0 = .ok (.lload_n 0, 1) := by decide +kernel
theorem d_jdk_29_method_66_1 : decode jdk_29_method_66_code 1 = .ok (.lload_n 2, 1) := by decide +kernel
theorem d_jdk_29_method_66_2 : decode jdk_29_method_66_code 2 = .ok (.lcmp, 1) := by decide +kernel
theorem d_jdk_29_method_66_3 : decode jdk_29_method_66_code 3 = .ok (.ifCond .lt 7, 3) := by decide +kernel
theorem d_jdk_29_method_66_10 : decode jdk_29_method_66_code 10 = .ok (.lload_n 2, 1) := by decide +kernel
theorem d_jdk_29_method_66_6 : decode jdk_29_method_66_code 6 = .ok (.lload_n 0, 1) := by decide +kernel
theorem d_jdk_29_method_66_7 : decode jdk_29_method_66_code 7 = .ok (.goto 4, 3) := by decide +kernel
theorem d_jdk_29_method_66_11 : decode jdk_29_method_66_code 11 = .ok (.lreturn, 1) := by decide +kernel
theorem ef_rm_maxJ (m : MethodId) (p1 : Int64) (p2 : Int64) : entryFrame m #[(.long p1), (.long p2)] 4 = mkF m 0 #[.val (.long p1), .second, .val (.long p2), .second] [] := by first | (simp [entryFrame, mkF, argsToLocals, Value.category]; done) | rfl
set_option maxRecDepth 65536 in
set_option maxHeartbeats 40000000 in
theorem rm_maxJ (l : Launch) (Z : State) (a0 : Array Value) (hw : ∀ d ∈ tables_1, d.before a0 Z = true) (ws : List Jvm.Cond) (p1 : Int64) (p2 : Int64) (h0 : Heap) (n0 : Nat) (Z0 : n0 ≤ h0.size)  :
    MetFree l (⟨"java/lang/Math", "max", "(JJ)J"⟩ : MethodName) (head1 (Jvm.Cond.code (⟨"java/lang/Math", "max", "(JJ)J"⟩ : MethodName) jdk_29_method_66_code 4 (some .long) :: ws) ({ frames := 0, cells := 0, slots := 0, locals := 0 } : Room)) (fun zA zU => zA = #[(.long p1), (.long p2)] ∧ Z.Warmed39 zU.vm ∧ zU.heap = h0) (fun _ _ _ _ _ => True) (fun _ zU zo zW => ∃ zv zL, zo = .returned zv ∧ (own_QJ h0 n0 (if p1 < p2 then p2 else p1)) zv zW.heap zL ∧ FrameEnd zU zo zW zL ({ frames := 0, cells := 0, slots := 0, locals := 0 } : Room).cells ({ frames := 0, cells := 0, slots := 0, locals := 0 } : Room).slots) := by
  refine MetFree.of_bodySF (Jvm.Free.JP.mathPlain rfl (by decide +kernel)) hisR ?_
  intro p e s m args below meth c s₁ Bd hml0 hP hK
  obtain ⟨rfl, hZ, hh⟩ := hP
  have hx := Bd.exec
  have hby := Bd.bytes
  have hml : c.maxLocals = 4 := hml0
  have hown : s.vm.findClass "java/lang/Math" = some m.cls := findClass_of_methodNamed Bd.named
  have hnm := (name_of_methodNamed Bd.named Bd.method).1
  have X0 : Stand p l e ({ frames := 0, cells := 0, slots := 0, locals := 0 } : Room) s m #[(.long p1), (.long p2)] below meth c s₁ [] 0 0 := Stand.of_body Bd
  have e0 : s₁.heap = h0 := by rw [← hh, Bd.state]; rfl
  have N0 := Fr.nil n0
  refine own_out (Q := own_QJ h0 n0 (if p1 < p2 then p2 else p1)) ?_
  refine own_cast (ef_rm_maxJ m p1 p2) ?_
  show own_Go p.tables e below (s₁.setTop (mkF m 0 #[.val (.long p1), .second, .val (.long p2), .second] [])) _
  obtain ⟨q, hq, sj2⟩ : ∃ (q : Int64), q = (if p1 < p2 then p2 else p1) ∧ ∀ zt, Steps p.tables e below (s₁.setTop (mkF m 11 #[.val (.long p1), .second, .val (.long p2), .second] [(.long q)])) zt → Steps p.tables e below (s₁.setTop (mkF m 0 #[.val (.long p1), .second, .val (.long p2), .second] [])) zt := by
    by_cases j1 : p1 < p2
    · refine ⟨(p2), (if_pos j1).symm, fun zt zk => ?_⟩
      show Steps p.tables e below (s₁.setTop (mkF m 0 #[.val (.long p1), .second, .val (.long p2), .second] [])) _
      refine XS.lloadN X0.here hx rfl (hb hby d_jdk_29_method_66_0) rfl ?_
      show Steps p.tables e below (s₁.setTop (mkF m 1 #[.val (.long p1), .second, .val (.long p2), .second] [(.long p1)])) _
      refine XS.lloadN X0.here hx rfl (hb hby d_jdk_29_method_66_1) rfl ?_
      show Steps p.tables e below (s₁.setTop (mkF m 2 #[.val (.long p1), .second, .val (.long p2), .second] [(.long p2), (.long p1)])) _
      refine XS.lcmp X0.here hx rfl (hb hby d_jdk_29_method_66_2) rfl ?_
      show Steps p.tables e below (s₁.setTop (mkF m 3 #[.val (.long p1), .second, .val (.long p2), .second] [(.int (lcmpW p1 p2))])) _
      refine XS.ifYes X0.here hx rfl (pc0 := 3) (pc' := 10) rfl (hb hby d_jdk_29_method_66_3) rfl ((if0 _ _).trans (tlt ((lw_lt p1 p2).mpr j1)).1) (by decide) (by decide) ?_
      show Steps p.tables e below (s₁.setTop (mkF m 10 #[.val (.long p1), .second, .val (.long p2), .second] [])) _
      refine XS.lloadN X0.here hx rfl (hb hby d_jdk_29_method_66_10) rfl ?_
      show Steps p.tables e below (s₁.setTop (mkF m 11 #[.val (.long p1), .second, .val (.long p2), .second] [(.long p2)])) _
      exact zk
    · refine ⟨(p1), (if_neg j1).symm, fun zt zk => ?_⟩
      show Steps p.tables e below (s₁.setTop (mkF m 0 #[.val (.long p1), .second, .val (.long p2), .second] [])) _
      refine XS.lloadN X0.here hx rfl (hb hby d_jdk_29_method_66_0) rfl ?_
      show Steps p.tables e below (s₁.setTop (mkF m 1 #[.val (.long p1), .second, .val (.long p2), .second] [(.long p1)])) _
      refine XS.lloadN X0.here hx rfl (hb hby d_jdk_29_method_66_1) rfl ?_
      show Steps p.tables e below (s₁.setTop (mkF m 2 #[.val (.long p1), .second, .val (.long p2), .second] [(.long p2), (.long p1)])) _
      refine XS.lcmp X0.here hx rfl (hb hby d_jdk_29_method_66_2) rfl ?_
      show Steps p.tables e below (s₁.setTop (mkF m 3 #[.val (.long p1), .second, .val (.long p2), .second] [(.int (lcmpW p1 p2))])) _
      refine XS.ifNo X0.here hx rfl (hb hby d_jdk_29_method_66_3) rfl ((if0 _ _).trans (flt (fun q => j1 ((lw_lt p1 p2).mp q))).1) ?_
      show Steps p.tables e below (s₁.setTop (mkF m 6 #[.val (.long p1), .second, .val (.long p2), .second] [])) _
      refine XS.lloadN X0.here hx rfl (hb hby d_jdk_29_method_66_6) rfl ?_
      show Steps p.tables e below (s₁.setTop (mkF m 7 #[.val (.long p1), .second, .val (.long p2), .second] [(.long p1)])) _
      refine XS.goto X0.here hx rfl (pc0 := 7) (pc' := 11) rfl (hb hby d_jdk_29_method_66_7) (by decide) (by decide) ?_
      show Steps p.tables e below (s₁.setTop (mkF m 11 #[.val (.long p1), .second, .val (.long p2), .second] [(.long p1)])) _
      exact zk
  refine own_by (sj2) ?_
  show own_Go p.tables e below (s₁.setTop (mkF m 11 #[.val (.long p1), .second, .val (.long p2), .second] [(.long q)])) _
  exact own_retJ X0 hx Bd.notSynchronized Bd.returns (hb hby d_jdk_29_method_66_11) (by (try rw [e0]); exact ⟨_, rfl, N0, rfl, hq⟩) (by decide) (by decide)
theorem d_jdk_29_method_70_0 : decode jdk_29_method_70_code 0 = .ok (.lload_n 0, 1) := by decide +kernel
theorem d_jdk_29_method_70_1 : decode jdk_29_method_70_code 1 = .ok (.lload_n 2, 1) := by decide +kernel
theorem d_jdk_29_method_70_2 : decode jdk_29_method_70_code 2 = .ok (.lcmp, 1) := by decide +kernel
theorem d_jdk_29_method_70_3 : decode jdk_29_method_70_code 3 = .ok (.ifCond .gt 7, 3) := by decide +kernel
theorem d_jdk_29_method_70_10 : decode jdk_29_method_70_code 10 = .ok (.lload_n 2, 1) := by decide +kernel
theorem d_jdk_29_method_70_6 : decode jdk_29_method_70_code 6 = .ok (.lload_n 0, 1) := by decide +kernel
theorem d_jdk_29_method_70_7 : decode jdk_29_method_70_code 7 = .ok (.goto 4, 3) := by decide +kernel
theorem d_jdk_29_method_70_11 : decode jdk_29_method_70_code 11 = .ok (.lreturn, 1) := by decide +kernel
theorem ef_rm_minJ (m : MethodId) (p1 : Int64) (p2 : Int64) : entryFrame m #[(.long p1), (.long p2)] 4 = mkF m 0 #[.val (.long p1), .second, .val (.long p2), .second] [] := by first | (simp [entryFrame, mkF, argsToLocals, Value.category]; done) | rfl
set_option maxRecDepth 65536 in
set_option maxHeartbeats 40000000 in
theorem rm_minJ (l : Launch) (Z : State) (a0 : Array Value) (hw : ∀ d ∈ tables_1, d.before a0 Z = true) (ws : List Jvm.Cond) (p1 : Int64) (p2 : Int64) (h0 : Heap) (n0 : Nat) (Z0 : n0 ≤ h0.size)  :
    MetFree l (⟨"java/lang/Math", "min", "(JJ)J"⟩ : MethodName) (head1 (Jvm.Cond.code (⟨"java/lang/Math", "min", "(JJ)J"⟩ : MethodName) jdk_29_method_70_code 4 (some .long) :: ws) ({ frames := 0, cells := 0, slots := 0, locals := 0 } : Room)) (fun zA zU => zA = #[(.long p1), (.long p2)] ∧ Z.Warmed39 zU.vm ∧ zU.heap = h0) (fun _ _ _ _ _ => True) (fun _ zU zo zW => ∃ zv zL, zo = .returned zv ∧ (own_QJ h0 n0 (if p2 < p1 then p2 else p1)) zv zW.heap zL ∧ FrameEnd zU zo zW zL ({ frames := 0, cells := 0, slots := 0, locals := 0 } : Room).cells ({ frames := 0, cells := 0, slots := 0, locals := 0 } : Room).slots) := by
  refine MetFree.of_bodySF (Jvm.Free.JP.mathPlain rfl (by decide +kernel)) hisR ?_
  intro p e s m args below meth c s₁ Bd hml0 hP hK
  obtain ⟨rfl, hZ, hh⟩ := hP
  have hx := Bd.exec
  have hby := Bd.bytes
  have hml : c.maxLocals = 4 := hml0
  have hown : s.vm.findClass "java/lang/Math" = some m.cls := findClass_of_methodNamed Bd.named
  have hnm := (name_of_methodNamed Bd.named Bd.method).1
  have X0 : Stand p l e ({ frames := 0, cells := 0, slots := 0, locals := 0 } : Room) s m #[(.long p1), (.long p2)] below meth c s₁ [] 0 0 := Stand.of_body Bd
  have e0 : s₁.heap = h0 := by rw [← hh, Bd.state]; rfl
  have N0 := Fr.nil n0
  refine own_out (Q := own_QJ h0 n0 (if p2 < p1 then p2 else p1)) ?_
  refine own_cast (ef_rm_minJ m p1 p2) ?_
  show own_Go p.tables e below (s₁.setTop (mkF m 0 #[.val (.long p1), .second, .val (.long p2), .second] [])) _
  obtain ⟨q, hq, sj2⟩ : ∃ (q : Int64), q = (if p2 < p1 then p2 else p1) ∧ ∀ zt, Steps p.tables e below (s₁.setTop (mkF m 11 #[.val (.long p1), .second, .val (.long p2), .second] [(.long q)])) zt → Steps p.tables e below (s₁.setTop (mkF m 0 #[.val (.long p1), .second, .val (.long p2), .second] [])) zt := by
    by_cases j1 : p2 < p1
    · refine ⟨(p2), (if_pos j1).symm, fun zt zk => ?_⟩
      show Steps p.tables e below (s₁.setTop (mkF m 0 #[.val (.long p1), .second, .val (.long p2), .second] [])) _
      refine XS.lloadN X0.here hx rfl (hb hby d_jdk_29_method_70_0) rfl ?_
      show Steps p.tables e below (s₁.setTop (mkF m 1 #[.val (.long p1), .second, .val (.long p2), .second] [(.long p1)])) _
      refine XS.lloadN X0.here hx rfl (hb hby d_jdk_29_method_70_1) rfl ?_
      show Steps p.tables e below (s₁.setTop (mkF m 2 #[.val (.long p1), .second, .val (.long p2), .second] [(.long p2), (.long p1)])) _
      refine XS.lcmp X0.here hx rfl (hb hby d_jdk_29_method_70_2) rfl ?_
      show Steps p.tables e below (s₁.setTop (mkF m 3 #[.val (.long p1), .second, .val (.long p2), .second] [(.int (lcmpW p1 p2))])) _
      refine XS.ifYes X0.here hx rfl (pc0 := 3) (pc' := 10) rfl (hb hby d_jdk_29_method_70_3) rfl ((if0 _ _).trans (tlt ((lw_gt p1 p2).mpr j1)).2.2.1) (by decide) (by decide) ?_
      show Steps p.tables e below (s₁.setTop (mkF m 10 #[.val (.long p1), .second, .val (.long p2), .second] [])) _
      refine XS.lloadN X0.here hx rfl (hb hby d_jdk_29_method_70_10) rfl ?_
      show Steps p.tables e below (s₁.setTop (mkF m 11 #[.val (.long p1), .second, .val (.long p2), .second] [(.long p2)])) _
      exact zk
    · refine ⟨(p1), (if_neg j1).symm, fun zt zk => ?_⟩
      show Steps p.tables e below (s₁.setTop (mkF m 0 #[.val (.long p1), .second, .val (.long p2), .second] [])) _
      refine XS.lloadN X0.here hx rfl (hb hby d_jdk_29_method_70_0) rfl ?_
      show Steps p.tables e below (s₁.setTop (mkF m 1 #[.val (.long p1), .second, .val (.long p2), .second] [(.long p1)])) _
      refine XS.lloadN X0.here hx rfl (hb hby d_jdk_29_method_70_1) rfl ?_
      show Steps p.tables e below (s₁.setTop (mkF m 2 #[.val (.long p1), .second, .val (.long p2), .second] [(.long p2), (.long p1)])) _
      refine XS.lcmp X0.here hx rfl (hb hby d_jdk_29_method_70_2) rfl ?_
      show Steps p.tables e below (s₁.setTop (mkF m 3 #[.val (.long p1), .second, .val (.long p2), .second] [(.int (lcmpW p1 p2))])) _
      refine XS.ifNo X0.here hx rfl (hb hby d_jdk_29_method_70_3) rfl ((if0 _ _).trans (flt (fun q => j1 ((lw_gt p1 p2).mp q))).2.2.1) ?_
      show Steps p.tables e below (s₁.setTop (mkF m 6 #[.val (.long p1), .second, .val (.long p2), .second] [])) _
      refine XS.lloadN X0.here hx rfl (hb hby d_jdk_29_method_70_6) rfl ?_
      show Steps p.tables e below (s₁.setTop (mkF m 7 #[.val (.long p1), .second, .val (.long p2), .second] [(.long p1)])) _
      refine XS.goto X0.here hx rfl (pc0 := 7) (pc' := 11) rfl (hb hby d_jdk_29_method_70_7) (by decide) (by decide) ?_
      show Steps p.tables e below (s₁.setTop (mkF m 11 #[.val (.long p1), .second, .val (.long p2), .second] [(.long p1)])) _
      exact zk
  refine own_by (sj2) ?_
  show own_Go p.tables e below (s₁.setTop (mkF m 11 #[.val (.long p1), .second, .val (.long p2), .second] [(.long q)])) _
  exact own_retJ X0 hx Bd.notSynchronized Bd.returns (hb hby d_jdk_29_method_70_11) (by (try rw [e0]); exact ⟨_, rfl, N0, rfl, hq⟩) (by decide) (by decide)
theorem d_method_2_0 : decode method_2_code 0 = .ok (.iload_n 0, 1) := by decide +kernel
theorem d_method_2_1 : decode method_2_code 1 = .ok (.ifCond .ne 7, 3) := by decide +kernel
theorem d_method_2_4 : decode method_2_code 4 = .ok (.iconst 0, 1) := by decide +kernel
theorem d_method_2_5 : decode method_2_code 5 = .ok (.newarray .byte, 2) := by decide +kernel
theorem d_method_2_7 : decode method_2_code 7 = .ok (.areturn, 1) := by decide +kernel
theorem d_method_2_8 : decode method_2_code 8 = .ok (.iload_n 0, 1) := by decide +kernel
theorem d_method_2_9 : decode method_2_code 9 = .ok (.iconst 1, 1) := by decide +kernel
theorem d_method_2_10 : decode method_2_code 10 = .ok (.if_icmp .ne 12, 3) := by decide +kernel
theorem d_method_2_13 : decode method_2_code 13 = .ok (.iconst 1, 1) := by decide +kernel
theorem d_method_2_14 : decode method_2_code 14 = .ok (.newarray .byte, 2) := by decide +kernel
theorem d_method_2_16 : decode method_2_code 16 = .ok (.dup, 1) := by decide +kernel
theorem d_method_2_17 : decode method_2_code 17 = .ok (.iconst 0, 1) := by decide +kernel
theorem d_method_2_18 : decode method_2_code 18 = .ok (.iload_n 1, 1) := by decide +kernel
theorem d_method_2_19 : decode method_2_code 19 = .ok (.i2b, 1) := by decide +kernel
theorem d_method_2_20 : decode method_2_code 20 = .ok (.bastore, 1) := by decide +kernel
theorem d_method_2_21 : decode method_2_code 21 = .ok (.areturn, 1) := by decide +kernel
theorem d_method_2_22 : decode method_2_code 22 = .ok (.iload_n 0, 1) := by decide +kernel
theorem d_method_2_23 : decode method_2_code 23 = .ok (.iconst 2, 1) := by decide +kernel
theorem d_method_2_24 : decode method_2_code 24 = .ok (.if_icmp .ne 20, 3) := by decide +kernel
theorem d_method_2_27 : decode method_2_code 27 = .ok (.iconst 2, 1) := by decide +kernel
theorem d_method_2_28 : decode method_2_code 28 = .ok (.newarray .byte, 2) := by decide +kernel
theorem d_method_2_30 : decode method_2_code 30 = .ok (.dup, 1) := by decide +kernel
theorem d_method_2_31 : decode method_2_code 31 = .ok (.iconst 0, 1) := by decide +kernel
theorem d_method_2_32 : decode method_2_code 32 = .ok (.iload_n 1, 1) := by decide +kernel
theorem d_method_2_33 : decode method_2_code 33 = .ok (.i2b, 1) := by decide +kernel
theorem d_method_2_34 : decode method_2_code 34 = .ok (.bastore, 1) := by decide +kernel
theorem d_method_2_35 : decode method_2_code 35 = .ok (.dup, 1) := by decide +kernel
theorem d_method_2_36 : decode method_2_code 36 = .ok (.iconst 1, 1) := by decide +kernel
theorem d_method_2_37 : decode method_2_code 37 = .ok (.iload_n 1, 1) := by decide +kernel
theorem d_method_2_38 : decode method_2_code 38 = .ok (.bipush 8, 2) := by decide +kernel
theorem d_method_2_40 : decode method_2_code 40 = .ok (.ishr, 1) := by decide +kernel
theorem d_method_2_41 : decode method_2_code 41 = .ok (.i2b, 1) := by decide +kernel
theorem d_method_2_42 : decode method_2_code 42 = .ok (.bastore, 1) := by decide +kernel
theorem d_method_2_43 : decode method_2_code 43 = .ok (.areturn, 1) := by decide +kernel
theorem d_method_2_44 : decode method_2_code 44 = .ok (.iconst 3, 1) := by decide +kernel
theorem d_method_2_45 : decode method_2_code 45 = .ok (.newarray .byte, 2) := by decide +kernel
theorem d_method_2_47 : decode method_2_code 47 = .ok (.dup, 1) := by decide +kernel
theorem d_method_2_48 : decode method_2_code 48 = .ok (.iconst 0, 1) := by decide +kernel
theorem d_method_2_49 : decode method_2_code 49 = .ok (.iload_n 1, 1) := by decide +kernel
theorem d_method_2_50 : decode method_2_code 50 = .ok (.i2b, 1) := by decide +kernel
theorem d_method_2_51 : decode method_2_code 51 = .ok (.bastore, 1) := by decide +kernel
theorem d_method_2_52 : decode method_2_code 52 = .ok (.dup, 1) := by decide +kernel
theorem d_method_2_53 : decode method_2_code 53 = .ok (.iconst 1, 1) := by decide +kernel
theorem d_method_2_54 : decode method_2_code 54 = .ok (.iload_n 1, 1) := by decide +kernel
theorem d_method_2_55 : decode method_2_code 55 = .ok (.bipush 8, 2) := by decide +kernel
theorem d_method_2_57 : decode method_2_code 57 = .ok (.ishr, 1) := by decide +kernel
theorem d_method_2_58 : decode method_2_code 58 = .ok (.i2b, 1) := by decide +kernel
theorem d_method_2_59 : decode method_2_code 59 = .ok (.bastore, 1) := by decide +kernel
theorem d_method_2_60 : decode method_2_code 60 = .ok (.dup, 1) := by decide +kernel
theorem d_method_2_61 : decode method_2_code 61 = .ok (.iconst 2, 1) := by decide +kernel
theorem d_method_2_62 : decode method_2_code 62 = .ok (.iload_n 1, 1) := by decide +kernel
theorem d_method_2_63 : decode method_2_code 63 = .ok (.bipush 16, 2) := by decide +kernel
theorem d_method_2_65 : decode method_2_code 65 = .ok (.ishr, 1) := by decide +kernel
theorem d_method_2_66 : decode method_2_code 66 = .ok (.i2b, 1) := by decide +kernel
theorem d_method_2_67 : decode method_2_code 67 = .ok (.bastore, 1) := by decide +kernel
theorem d_method_2_68 : decode method_2_code 68 = .ok (.areturn, 1) := by decide +kernel
def Q_rm_part (Z : State) (p1 : Int32) (p2 : Int32) (h0 : Heap) (n0 : Nat) (v : Option Value) (h : Heap) (L : List Loc) : Prop := ∃ (b : Addr) (N : Nat) (f : Nat → Int32), v = some (.ref b) ∧ Fr n0 L ∧ Keep h0 h [] ∧ h0.size ≤ b ∧ own_AI Z h b .byte N f ∧ N.toInt32 = p1
theorem ef_rm_part (m : MethodId) (p1 : Int32) (p2 : Int32) : entryFrame m #[(.int p1), (.int p2)] 2 = mkF m 0 #[.val (.int p1), .val (.int p2)] [] := by first | (simp [entryFrame, mkF, argsToLocals, Value.category]; done) | rfl
theorem pn_79 : plainName "com/example/tidemark/tidemark/model/SnapshotRequestIsLastPinLaw" = true := by first | (simp [plainName, overriddenIn]; done) | decide +kernel
set_option maxRecDepth 65536 in
set_option maxHeartbeats 40000000 in
theorem rm_part (l : Launch) (Z : State) (a0 : Array Value) (hw : ∀ d ∈ tables_1, d.before a0 Z = true) (ws : List Jvm.Cond) (p1 : Int32) (p2 : Int32) (h0 : Heap) (n0 : Nat) (Z0 : n0 ≤ h0.size) (hp : 0 ≤ p1.toInt ∧ p1.toInt ≤ 3) :
    MetFree l (⟨"com/example/tidemark/tidemark/model/SnapshotRequestIsLastPinLaw", "part", "(II)[B"⟩ : MethodName) (head1 (Jvm.Cond.code (⟨"com/example/tidemark/tidemark/model/SnapshotRequestIsLastPinLaw", "part", "(II)[B"⟩ : MethodName) method_2_code 2 (some (.array .byte)) :: ws) ({ frames := 0, cells := 1, slots := 3, locals := 0 } : Room)) (fun zA zU => zA = #[(.int p1), (.int p2)] ∧ Z.Warmed39 zU.vm ∧ zU.heap = h0) (fun _ _ _ _ _ => True) (fun _ zU zo zW => ∃ zv zL, zo = .returned zv ∧ (Q_rm_part Z p1 p2 h0 n0) zv zW.heap zL ∧ FrameEnd zU zo zW zL ({ frames := 0, cells := 1, slots := 3, locals := 0 } : Room).cells ({ frames := 0, cells := 1, slots := 3, locals := 0 } : Room).slots) := by
  refine MetFree.of_bodySF (plainFor_of_name pn_79) hisR ?_
  intro p e s m args below meth c s₁ Bd hml0 hP hK
  obtain ⟨rfl, hZ, hh⟩ := hP
  have hx := Bd.exec
  have hby := Bd.bytes
  have hml : c.maxLocals = 2 := hml0
  have hown : s.vm.findClass "com/example/tidemark/tidemark/model/SnapshotRequestIsLastPinLaw" = some m.cls := findClass_of_methodNamed Bd.named
  have hnm := (name_of_methodNamed Bd.named Bd.method).1
  have X0 : Stand p l e ({ frames := 0, cells := 1, slots := 3, locals := 0 } : Room) s m #[(.int p1), (.int p2)] below meth c s₁ [] 0 0 := Stand.of_body Bd
  have e0 : s₁.heap = h0 := by rw [← hh, Bd.state]; rfl
  have N0 := Fr.nil n0
  refine own_out (Q := Q_rm_part Z p1 p2 h0 n0) ?_
  refine own_cast (ef_rm_part m p1 p2) ?_
  show own_Go p.tables e below (s₁.setTop (mkF m 0 #[.val (.int p1), .val (.int p2)] [])) _
  refine own_by (fun zt zk => XS.iloadN X0.here hx rfl (hb hby d_method_2_0) rfl zk) ?_
  show own_Go p.tables e below (s₁.setTop (mkF m 1 #[.val (.int p1), .val (.int p2)] [(.int p1)])) _
  by_cases h0' : p1 = (0 : Int32)
  · refine own_by (fun zt zk => XS.ifNo X0.here hx rfl (hb hby d_method_2_1) rfl ((if0 _ _).trans (teq h0').2) zk) ?_
    show own_Go p.tables e below (s₁.setTop (mkF m 4 #[.val (.int p1), .val (.int p2)] [])) _
    refine own_by (fun zt zk => XS.iconst X0.here hx rfl (hb hby d_method_2_4) zk) ?_
    show own_Go p.tables e below (s₁.setTop (mkF m 5 #[.val (.int p1), .val (.int p2)] [(.int (0 : Int32))])) _
    obtain ⟨T1, hea1, k1, X1, e1, E1, A1, st1⟩ := newP X0 hx hZ (hw _ (List.mem_of_getElem? (i := 15) rfl)) e0 (g := (mkF m 5 #[.val (.int p1), .val (.int p2)] [(.int (0 : Int32))])) rfl (hb hby d_method_2_5) rfl (by decide) (cap := 0) (by decide) (by decide) (by decide) (by decide)
    obtain ⟨b, g1⟩ : ∃ z, z = h0.size := ⟨_, rfl⟩
    rw [← g1] at A1 st1
    have sz_b : h0.size ≤ b := Nat.le_trans (Keep.refl h0 []).1 (Nat.le_of_eq g1.symm)
    have K1 : Keep h0 hea1 [] := (Keep.refl h0 []).ext E1
    refine own_by (st1) ?_
    have V1 : own_AI Z hea1 b .byte 0 (fun _ => (0 : Int32)) := own_AF.new A1 rfl
    show own_Go p.tables e below (T1.setTop (mkF m 7 #[.val (.int p1), .val (.int p2)] [(.ref b)])) _
    exact own_retA X1 hx Bd.notSynchronized Bd.returns rfl rfl rfl (hb hby d_method_2_7) (by (try rw [e1]); exact ⟨_, 0, _, rfl, N0, K1, sz_b, V1, h0'.symm⟩) (by decide) (by decide)
  · refine own_by (fun zt zk => XS.ifYes X0.here hx rfl (pc0 := 1) (pc' := 8) rfl (hb hby d_method_2_1) rfl ((if0 _ _).trans (feq h0').2) (by decide) (by decide) zk) ?_
    show own_Go p.tables e below (s₁.setTop (mkF m 8 #[.val (.int p1), .val (.int p2)] [])) _
    refine own_by (fun zt zk => XS.iloadN X0.here hx rfl (hb hby d_method_2_8) rfl zk) ?_
    show own_Go p.tables e below (s₁.setTop (mkF m 9 #[.val (.int p1), .val (.int p2)] [(.int p1)])) _
    refine own_by (fun zt zk => XS.iconst X0.here hx rfl (hb hby d_method_2_9) zk) ?_
    show own_Go p.tables e below (s₁.setTop (mkF m 10 #[.val (.int p1), .val (.int p2)] [(.int (1 : Int32)), (.int p1)])) _
    by_cases h1' : p1 = (1 : Int32)
    · refine own_by (fun zt zk => XS.icmpNo X0.here hx rfl (hb hby d_method_2_10) rfl (teq h1').2 zk) ?_
      show own_Go p.tables e below (s₁.setTop (mkF m 13 #[.val (.int p1), .val (.int p2)] [])) _
      refine own_by (fun zt zk => XS.iconst X0.here hx rfl (hb hby d_method_2_13) zk) ?_
      show own_Go p.tables e below (s₁.setTop (mkF m 14 #[.val (.int p1), .val (.int p2)] [(.int (1 : Int32))])) _
      obtain ⟨T2, hea2, k2, X2, e2, E2, A2, st2⟩ := newP X0 hx hZ (hw _ (List.mem_of_getElem? (i := 15) rfl)) e0 (g := (mkF m 14 #[.val (.int p1), .val (.int p2)] [(.int (1 : Int32))])) rfl (hb hby d_method_2_14) rfl (by decide) (cap := 1) (by decide) (by decide) (by decide) (by decide)
      obtain ⟨b, g2⟩ : ∃ z, z = h0.size := ⟨_, rfl⟩
      rw [← g2] at A2 st2
      have sz_b : h0.size ≤ b := Nat.le_trans (Keep.refl h0 []).1 (Nat.le_of_eq g2.symm)
      have K2 : Keep h0 hea2 [] := (Keep.refl h0 []).ext E2
      refine own_by (st2) ?_
      have V2 : own_AI Z hea2 b .byte 1 (fun _ => (0 : Int32)) := own_AF.new A2 rfl
      show own_Go p.tables e below (T2.setTop (mkF m 16 #[.val (.int p1), .val (.int p2)] [(.ref b)])) _
      refine own_by (fun zt zk => XS.dup X2.here hx rfl (hb hby d_method_2_16) rfl rfl zk) ?_
      show own_Go p.tables e below (T2.setTop (mkF m 17 #[.val (.int p1), .val (.int p2)] [(.ref b), (.ref b)])) _
      refine own_by (fun zt zk => XS.iconst X2.here hx rfl (hb hby d_method_2_17) zk) ?_
      show own_Go p.tables e below (T2.setTop (mkF m 18 #[.val (.int p1), .val (.int p2)] [(.int (0 : Int32)), (.ref b), (.ref b)])) _
      refine own_by (fun zt zk => XS.iloadN X2.here hx rfl (hb hby d_method_2_18) rfl zk) ?_
      show own_Go p.tables e below (T2.setTop (mkF m 19 #[.val (.int p1), .val (.int p2)] [(.int p2), (.int (0 : Int32)), (.ref b), (.ref b)])) _
      refine own_by (fun zt zk => XS.i2b X2.here hx rfl (hb hby d_method_2_19) rfl zk) ?_
      show own_Go p.tables e below (T2.setTop (mkF m 20 #[.val (.int p1), .val (.int p2)] [(.int (p2.toInt8.toInt32)), (.int (0 : Int32)), (.ref b), (.ref b)])) _
      obtain ⟨T3, hea3, X3, e3, W3, V3, st3⟩ := own_stB X2 hx hZ e2 V2 (j := (0 : Int32)) (k := 0) (by decide) rfl (by decide) (g := (mkF m 20 #[.val (.int p1), .val (.int p2)] [(.int (p2.toInt8.toInt32)), (.int (0 : Int32)), (.ref b), (.ref b)])) rfl rfl (hb hby d_method_2_20)
      have N3 := Fr.snoc X3 N0 (Nat.le_trans Z0 sz_b)
      have K3 : Keep h0 hea3 [] := K2.wr W3 (Or.inr sz_b)
      refine own_by (st3) ?_
      show own_Go p.tables e below (T3.setTop (mkF m 21 #[.val (.int p1), .val (.int p2)] [(.ref b)])) _
      exact own_retA X3 hx Bd.notSynchronized Bd.returns rfl rfl rfl (hb hby d_method_2_21) (by (try rw [e3]); exact ⟨_, 1, _, rfl, N3, K3, sz_b, V3, h1'.symm⟩) (by decide) (by decide)
    · refine own_by (fun zt zk => XS.icmpYes X0.here hx rfl (pc0 := 10) (pc' := 22) rfl (hb hby d_method_2_10) rfl (feq h1').2 (by decide) (by decide) zk) ?_
      show own_Go p.tables e below (s₁.setTop (mkF m 22 #[.val (.int p1), .val (.int p2)] [])) _
      refine own_by (fun zt zk => XS.iloadN X0.here hx rfl (hb hby d_method_2_22) rfl zk) ?_
      show own_Go p.tables e below (s₁.setTop (mkF m 23 #[.val (.int p1), .val (.int p2)] [(.int p1)])) _
      refine own_by (fun zt zk => XS.iconst X0.here hx rfl (hb hby d_method_2_23) zk) ?_
      show own_Go p.tables e below (s₁.setTop (mkF m 24 #[.val (.int p1), .val (.int p2)] [(.int (2 : Int32)), (.int p1)])) _
      by_cases h2' : p1 = (2 : Int32)
      · refine own_by (fun zt zk => XS.icmpNo X0.here hx rfl (hb hby d_method_2_24) rfl (teq h2').2 zk) ?_
        show own_Go p.tables e below (s₁.setTop (mkF m 27 #[.val (.int p1), .val (.int p2)] [])) _
        refine own_by (fun zt zk => XS.iconst X0.here hx rfl (hb hby d_method_2_27) zk) ?_
        show own_Go p.tables e below (s₁.setTop (mkF m 28 #[.val (.int p1), .val (.int p2)] [(.int (2 : Int32))])) _
        obtain ⟨T4, hea4, k4, X4, e4, E4, A4, st4⟩ := newP X0 hx hZ (hw _ (List.mem_of_getElem? (i := 15) rfl)) e0 (g := (mkF m 28 #[.val (.int p1), .val (.int p2)] [(.int (2 : Int32))])) rfl (hb hby d_method_2_28) rfl (by decide) (cap := 2) (by decide) (by decide) (by decide) (by decide)
        obtain ⟨b, g4⟩ : ∃ z, z = h0.size := ⟨_, rfl⟩
        rw [← g4] at A4 st4
        have sz_b : h0.size ≤ b := Nat.le_trans (Keep.refl h0 []).1 (Nat.le_of_eq g4.symm)
        have K4 : Keep h0 hea4 [] := (Keep.refl h0 []).ext E4
        refine own_by (st4) ?_
        have V4 : own_AI Z hea4 b .byte 2 (fun _ => (0 : Int32)) := own_AF.new A4 rfl
        show own_Go p.tables e below (T4.setTop (mkF m 30 #[.val (.int p1), .val (.int p2)] [(.ref b)])) _
        refine own_by (fun zt zk => XS.dup X4.here hx rfl (hb hby d_method_2_30) rfl rfl zk) ?_
        show own_Go p.tables e below (T4.setTop (mkF m 31 #[.val (.int p1), .val (.int p2)] [(.ref b), (.ref b)])) _
        refine own_by (fun zt zk => XS.iconst X4.here hx rfl (hb hby d_method_2_31) zk) ?_
        show own_Go p.tables e below (T4.setTop (mkF m 32 #[.val (.int p1), .val (.int p2)] [(.int (0 : Int32)), (.ref b), (.ref b)])) _
        refine own_by (fun zt zk => XS.iloadN X4.here hx rfl (hb hby d_method_2_32) rfl zk) ?_
        show own_Go p.tables e below (T4.setTop (mkF m 33 #[.val (.int p1), .val (.int p2)] [(.int p2), (.int (0 : Int32)), (.ref b), (.ref b)])) _
        refine own_by (fun zt zk => XS.i2b X4.here hx rfl (hb hby d_method_2_33) rfl zk) ?_
        show own_Go p.tables e below (T4.setTop (mkF m 34 #[.val (.int p1), .val (.int p2)] [(.int (p2.toInt8.toInt32)), (.int (0 : Int32)), (.ref b), (.ref b)])) _
        obtain ⟨T5, hea5, X5, e5, W5, V5, st5⟩ := own_stB X4 hx hZ e4 V4 (j := (0 : Int32)) (k := 0) (by decide) rfl (by decide) (g := (mkF m 34 #[.val (.int p1), .val (.int p2)] [(.int (p2.toInt8.toInt32)), (.int (0 : Int32)), (.ref b), (.ref b)])) rfl rfl (hb hby d_method_2_34)
        have N5 := Fr.snoc X5 N0 (Nat.le_trans Z0 sz_b)
        have K5 : Keep h0 hea5 [] := K4.wr W5 (Or.inr sz_b)
        refine own_by (st5) ?_
        show own_Go p.tables e below (T5.setTop (mkF m 35 #[.val (.int p1), .val (.int p2)] [(.ref b)])) _
        refine own_by (fun zt zk => XS.dup X5.here hx rfl (hb hby d_method_2_35) rfl rfl zk) ?_
        show own_Go p.tables e below (T5.setTop (mkF m 36 #[.val (.int p1), .val (.int p2)] [(.ref b), (.ref b)])) _
        refine own_by (fun zt zk => XS.iconst X5.here hx rfl (hb hby d_method_2_36) zk) ?_
        show own_Go p.tables e below (T5.setTop (mkF m 37 #[.val (.int p1), .val (.int p2)] [(.int (1 : Int32)), (.ref b), (.ref b)])) _
        refine own_by (fun zt zk => XS.iloadN X5.here hx rfl (hb hby d_method_2_37) rfl zk) ?_
        show own_Go p.tables e below (T5.setTop (mkF m 38 #[.val (.int p1), .val (.int p2)] [(.int p2), (.int (1 : Int32)), (.ref b), (.ref b)])) _
        refine own_by (fun zt zk => XS.bipush X5.here hx rfl (hb hby d_method_2_38) zk) ?_
        show own_Go p.tables e below (T5.setTop (mkF m 40 #[.val (.int p1), .val (.int p2)] [(.int (8 : Int32)), (.int p2), (.int (1 : Int32)), (.ref b), (.ref b)])) _
        refine own_by (fun zt zk => XS.ishr X5.here hx rfl (hb hby d_method_2_40) rfl zk) ?_
        show own_Go p.tables e below (T5.setTop (mkF m 41 #[.val (.int p1), .val (.int p2)] [(.int (p2 >>> ((8 : Int32) &&& 31))), (.int (1 : Int32)), (.ref b), (.ref b)])) _
        refine own_by (fun zt zk => XS.i2b X5.here hx rfl (hb hby d_method_2_41) rfl zk) ?_
        show own_Go p.tables e below (T5.setTop (mkF m 42 #[.val (.int p1), .val (.int p2)] [(.int ((p2 >>> ((8 : Int32) &&& 31)).toInt8.toInt32)), (.int (1 : Int32)), (.ref b), (.ref b)])) _
        obtain ⟨T6, hea6, X6, e6, W6, V6, st6⟩ := own_stB X5 hx hZ e5 V5 (j := (1 : Int32)) (k := 1) (by decide) rfl (by decide) (g := (mkF m 42 #[.val (.int p1), .val (.int p2)] [(.int ((p2 >>> ((8 : Int32) &&& 31)).toInt8.toInt32)), (.int (1 : Int32)), (.ref b), (.ref b)])) rfl rfl (hb hby d_method_2_42)
        have N6 := Fr.snoc X6 N5 (Nat.le_trans Z0 sz_b)
        have K6 : Keep h0 hea6 [] := K5.wr W6 (Or.inr sz_b)
        refine own_by (st6) ?_
        show own_Go p.tables e below (T6.setTop (mkF m 43 #[.val (.int p1), .val (.int p2)] [(.ref b)])) _
        exact own_retA X6 hx Bd.notSynchronized Bd.returns rfl rfl rfl (hb hby d_method_2_43) (by (try rw [e6]); exact ⟨_, 2, _, rfl, N6, K6, sz_b, V6, h2'.symm⟩) (by decide) (by decide)
      · refine own_by (fun zt zk => XS.icmpYes X0.here hx rfl (pc0 := 24) (pc' := 44) rfl (hb hby d_method_2_24) rfl (feq h2').2 (by decide) (by decide) zk) ?_
        show own_Go p.tables e below (s₁.setTop (mkF m 44 #[.val (.int p1), .val (.int p2)] [])) _
        refine own_by (fun zt zk => XS.iconst X0.here hx rfl (hb hby d_method_2_44) zk) ?_
        show own_Go p.tables e below (s₁.setTop (mkF m 45 #[.val (.int p1), .val (.int p2)] [(.int (3 : Int32))])) _
        obtain ⟨T7, hea7, k7, X7, e7, E7, A7, st7⟩ := newP X0 hx hZ (hw _ (List.mem_of_getElem? (i := 15) rfl)) e0 (g := (mkF m 45 #[.val (.int p1), .val (.int p2)] [(.int (3 : Int32))])) rfl (hb hby d_method_2_45) rfl (by decide) (cap := 3) (by decide) (by decide) (by decide) (by decide)
        obtain ⟨b, g7⟩ : ∃ z, z = h0.size := ⟨_, rfl⟩
        rw [← g7] at A7 st7
        have sz_b : h0.size ≤ b := Nat.le_trans (Keep.refl h0 []).1 (Nat.le_of_eq g7.symm)
        have K7 : Keep h0 hea7 [] := (Keep.refl h0 []).ext E7
        refine own_by (st7) ?_
        have V7 : own_AI Z hea7 b .byte 3 (fun _ => (0 : Int32)) := own_AF.new A7 rfl
        show own_Go p.tables e below (T7.setTop (mkF m 47 #[.val (.int p1), .val (.int p2)] [(.ref b)])) _
        refine own_by (fun zt zk => XS.dup X7.here hx rfl (hb hby d_method_2_47) rfl rfl zk) ?_
        show own_Go p.tables e below (T7.setTop (mkF m 48 #[.val (.int p1), .val (.int p2)] [(.ref b), (.ref b)])) _
        refine own_by (fun zt zk => XS.iconst X7.here hx rfl (hb hby d_method_2_48) zk) ?_
        show own_Go p.tables e below (T7.setTop (mkF m 49 #[.val (.int p1), .val (.int p2)] [(.int (0 : Int32)), (.ref b), (.ref b)])) _
        refine own_by (fun zt zk => XS.iloadN X7.here hx rfl (hb hby d_method_2_49) rfl zk) ?_
        show own_Go p.tables e below (T7.setTop (mkF m 50 #[.val (.int p1), .val (.int p2)] [(.int p2), (.int (0 : Int32)), (.ref b), (.ref b)])) _
        refine own_by (fun zt zk => XS.i2b X7.here hx rfl (hb hby d_method_2_50) rfl zk) ?_
        show own_Go p.tables e below (T7.setTop (mkF m 51 #[.val (.int p1), .val (.int p2)] [(.int (p2.toInt8.toInt32)), (.int (0 : Int32)), (.ref b), (.ref b)])) _
        obtain ⟨T8, hea8, X8, e8, W8, V8, st8⟩ := own_stB X7 hx hZ e7 V7 (j := (0 : Int32)) (k := 0) (by decide) rfl (by decide) (g := (mkF m 51 #[.val (.int p1), .val (.int p2)] [(.int (p2.toInt8.toInt32)), (.int (0 : Int32)), (.ref b), (.ref b)])) rfl rfl (hb hby d_method_2_51)
        have N8 := Fr.snoc X8 N0 (Nat.le_trans Z0 sz_b)
        have K8 : Keep h0 hea8 [] := K7.wr W8 (Or.inr sz_b)
        refine own_by (st8) ?_
        show own_Go p.tables e below (T8.setTop (mkF m 52 #[.val (.int p1), .val (.int p2)] [(.ref b)])) _
        refine own_by (fun zt zk => XS.dup X8.here hx rfl (hb hby d_method_2_52) rfl rfl zk) ?_
        show own_Go p.tables e below (T8.setTop (mkF m 53 #[.val (.int p1), .val (.int p2)] [(.ref b), (.ref b)])) _
        refine own_by (fun zt zk => XS.iconst X8.here hx rfl (hb hby d_method_2_53) zk) ?_
        show own_Go p.tables e below (T8.setTop (mkF m 54 #[.val (.int p1), .val (.int p2)] [(.int (1 : Int32)), (.ref b), (.ref b)])) _
        refine own_by (fun zt zk => XS.iloadN X8.here hx rfl (hb hby d_method_2_54) rfl zk) ?_
        show own_Go p.tables e below (T8.setTop (mkF m 55 #[.val (.int p1), .val (.int p2)] [(.int p2), (.int (1 : Int32)), (.ref b), (.ref b)])) _
        refine own_by (fun zt zk => XS.bipush X8.here hx rfl (hb hby d_method_2_55) zk) ?_
        show own_Go p.tables e below (T8.setTop (mkF m 57 #[.val (.int p1), .val (.int p2)] [(.int (8 : Int32)), (.int p2), (.int (1 : Int32)), (.ref b), (.ref b)])) _
        refine own_by (fun zt zk => XS.ishr X8.here hx rfl (hb hby d_method_2_57) rfl zk) ?_
        show own_Go p.tables e below (T8.setTop (mkF m 58 #[.val (.int p1), .val (.int p2)] [(.int (p2 >>> ((8 : Int32) &&& 31))), (.int (1 : Int32)), (.ref b), (.ref b)])) _
        refine own_by (fun zt zk => XS.i2b X8.here hx rfl (hb hby d_method_2_58) rfl zk) ?_
        show own_Go p.tables e below (T8.setTop (mkF m 59 #[.val (.int p1), .val (.int p2)] [(.int ((p2 >>> ((8 : Int32) &&& 31)).toInt8.toInt32)), (.int (1 : Int32)), (.ref b), (.ref b)])) _
        obtain ⟨T9, hea9, X9, e9, W9, V9, st9⟩ := own_stB X8 hx hZ e8 V8 (j := (1 : Int32)) (k := 1) (by decide) rfl (by decide) (g := (mkF m 59 #[.val (.int p1), .val (.int p2)] [(.int ((p2 >>> ((8 : Int32) &&& 31)).toInt8.toInt32)), (.int (1 : Int32)), (.ref b), (.ref b)])) rfl rfl (hb hby d_method_2_59)
        have N9 := Fr.snoc X9 N8 (Nat.le_trans Z0 sz_b)
        have K9 : Keep h0 hea9 [] := K8.wr W9 (Or.inr sz_b)
        refine own_by (st9) ?_
        show own_Go p.tables e below (T9.setTop (mkF m 60 #[.val (.int p1), .val (.int p2)] [(.ref b)])) _
        refine own_by (fun zt zk => XS.dup X9.here hx rfl (hb hby d_method_2_60) rfl rfl zk) ?_
        show own_Go p.tables e below (T9.setTop (mkF m 61 #[.val (.int p1), .val (.int p2)] [(.ref b), (.ref b)])) _
        refine own_by (fun zt zk => XS.iconst X9.here hx rfl (hb hby d_method_2_61) zk) ?_
        show own_Go p.tables e below (T9.setTop (mkF m 62 #[.val (.int p1), .val (.int p2)] [(.int (2 : Int32)), (.ref b), (.ref b)])) _
        refine own_by (fun zt zk => XS.iloadN X9.here hx rfl (hb hby d_method_2_62) rfl zk) ?_
        show own_Go p.tables e below (T9.setTop (mkF m 63 #[.val (.int p1), .val (.int p2)] [(.int p2), (.int (2 : Int32)), (.ref b), (.ref b)])) _
        refine own_by (fun zt zk => XS.bipush X9.here hx rfl (hb hby d_method_2_63) zk) ?_
        show own_Go p.tables e below (T9.setTop (mkF m 65 #[.val (.int p1), .val (.int p2)] [(.int (16 : Int32)), (.int p2), (.int (2 : Int32)), (.ref b), (.ref b)])) _
        refine own_by (fun zt zk => XS.ishr X9.here hx rfl (hb hby d_method_2_65) rfl zk) ?_
        show own_Go p.tables e below (T9.setTop (mkF m 66 #[.val (.int p1), .val (.int p2)] [(.int (p2 >>> ((16 : Int32) &&& 31))), (.int (2 : Int32)), (.ref b), (.ref b)])) _
        refine own_by (fun zt zk => XS.i2b X9.here hx rfl (hb hby d_method_2_66) rfl zk) ?_
        show own_Go p.tables e below (T9.setTop (mkF m 67 #[.val (.int p1), .val (.int p2)] [(.int ((p2 >>> ((16 : Int32) &&& 31)).toInt8.toInt32)), (.int (2 : Int32)), (.ref b), (.ref b)])) _
        obtain ⟨T10, hea10, X10, e10, W10, V10, st10⟩ := own_stB X9 hx hZ e9 V9 (j := (2 : Int32)) (k := 2) (by decide) rfl (by decide) (g := (mkF m 67 #[.val (.int p1), .val (.int p2)] [(.int ((p2 >>> ((16 : Int32) &&& 31)).toInt8.toInt32)), (.int (2 : Int32)), (.ref b), (.ref b)])) rfl rfl (hb hby d_method_2_67)
        have N10 := Fr.snoc X10 N9 (Nat.le_trans Z0 sz_b)
        have K10 : Keep h0 hea10 [] := K9.wr W10 (Or.inr sz_b)
        refine own_by (st10) ?_
        show own_Go p.tables e below (T10.setTop (mkF m 68 #[.val (.int p1), .val (.int p2)] [(.ref b)])) _
        exact own_retA X10 hx Bd.notSynchronized Bd.returns rfl rfl rfl (hb hby d_method_2_68) (by (try rw [e10]); exact ⟨_, 3, _, rfl, N10, K10, sz_b, V10, (own_three h0' h1' h2' hp).symm⟩) (by decide) (by decide)
theorem d_jdk_30_method_1_0 : decode jdk_30_method_1_code 0 = .ok (.aload_n 0, 1) := by decide +kernel
theorem d_jdk_30_method_1_1 : decode jdk_30_method_1_code 1 = .ok (.invokespecial 1, 3) := by decide +kernel
theorem d_jdk_30_method_1_4 : decode jdk_30_method_1_code 4 = .ok (.return_, 1) := by decide +kernel
def Q_rm_rec (Z : State) (a : Addr) (h0 : Heap) (n0 : Nat) (v : Option Value) (h : Heap) (L : List Loc) : Prop := v = none ∧ Fr n0 L ∧ h = h0
theorem ef_rm_rec (m : MethodId) (a : Addr) : entryFrame m #[(.ref a)] 1 = mkF m 0 #[.val (.ref a)] [] := by first | (simp [entryFrame, mkF, argsToLocals, Value.category]; done) | rfl
theorem pn_83 : plainName "java/lang/Record" = true := by first | (simp [plainName, overriddenIn]; done) | decide +kernel
set_option maxRecDepth 65536 in
set_option maxHeartbeats 40000000 in
theorem rm_rec (l : Launch) (Z : State) (a0 : Array Value) (hw : ∀ d ∈ tables_1, d.before a0 Z = true) (ws : List Jvm.Cond) (a : Addr) (h0 : Heap) (n0 : Nat) (Z0 : n0 ≤ h0.size)  :
    MetFree l (⟨"java/lang/Record", "<init>", "()V"⟩ : MethodName) (head1 (Jvm.Cond.code (⟨"java/lang/Record", "<init>", "()V"⟩ : MethodName) jdk_30_method_1_code 1 none :: ws) ({ frames := 1, cells := 0, slots := 0, locals := 12 } : Room)) (fun zA zU => zA = #[(.ref a)] ∧ Z.Warmed39 zU.vm ∧ zU.heap = h0) (fun _ _ _ _ _ => True) (fun _ zU zo zW => ∃ zv zL, zo = .returned zv ∧ (Q_rm_rec Z a h0 n0) zv zW.heap zL ∧ FrameEnd zU zo zW zL ({ frames := 1, cells := 0, slots := 0, locals := 12 } : Room).cells ({ frames := 1, cells := 0, slots := 0, locals := 12 } : Room).slots) := by
  refine MetFree.of_bodySF (plainFor_of_name pn_83) hisR ?_
  intro p e s m args below meth c s₁ Bd hml0 hP hK
  obtain ⟨rfl, hZ, hh⟩ := hP
  have hx := Bd.exec
  have hby := Bd.bytes
  have hml : c.maxLocals = 1 := hml0
  have hown : s.vm.findClass "java/lang/Record" = some m.cls := findClass_of_methodNamed Bd.named
  have hnm := (name_of_methodNamed Bd.named Bd.method).1
  have X0 : Stand p l e ({ frames := 1, cells := 0, slots := 0, locals := 12 } : Room) s m #[(.ref a)] below meth c s₁ [] 0 0 := Stand.of_body Bd
  have e0 : s₁.heap = h0 := by rw [← hh, Bd.state]; rfl
  have N0 := Fr.nil n0
  refine own_out (Q := Q_rm_rec Z a h0 n0) ?_
  refine own_cast (ef_rm_rec m a) ?_
  show own_Go p.tables e below (s₁.setTop (mkF m 0 #[.val (.ref a)] [])) _
  refine own_by (fun zt zk => XS.aloadN X0.here hx rfl (hb hby d_jdk_30_method_1_0) rfl rfl zk) ?_
  show own_Go p.tables e below (s₁.setTop (mkF m 1 #[.val (.ref a)] [(.ref a)])) _
  obtain ⟨T1, X1, e1, st1⟩ := initO X0 hx hZ hown (hw _ (List.mem_of_getElem? (i := 27) rfl)) (hw _ (List.mem_of_getElem? (i := 28) rfl)) (hw _ (List.mem_of_getElem? (i := 29) rfl)) e0 (g := (mkF m 1 #[.val (.ref a)] [(.ref a)])) rfl (by rw [hml]; rfl) rfl (hb hby d_jdk_30_method_1_1) (by decide) (W := 0) (by show 2 * 0 + _ ≤ _; exact Nat.le_of_eq rfl) (by decide)
  refine own_by (st1) ?_
  show own_Go p.tables e below (T1.setTop (mkF m 4 #[.val (.ref a)] [])) _
  exact own_retV X1 hx Bd.notSynchronized Bd.returns (hb hby d_jdk_30_method_1_4) (by (try rw [e1]); exact ⟨rfl, N0, rfl⟩) (by decide) (by decide)
theorem d_prog_77_method_1_0 : decode prog_77_method_1_code 0 = .ok (.aload_n 0, 1) := by decide +kernel
theorem d_prog_77_method_1_1 : decode prog_77_method_1_code 1 = .ok (.invokespecial 1, 3) := by decide +kernel
theorem pd_86 : parseMethodDescriptor "()V" = some ⟨[], none⟩ := by decide +kernel
theorem d_prog_77_method_1_4 : decode prog_77_method_1_code 4 = .ok (.lload_n 1, 1) := by decide +kernel
theorem d_prog_77_method_1_5 : decode prog_77_method_1_code 5 = .ok (.lconst 1, 1) := by decide +kernel
theorem d_prog_77_method_1_6 : decode prog_77_method_1_code 6 = .ok (.lcmp, 1) := by decide +kernel
theorem d_prog_77_method_1_7 : decode prog_77_method_1_code 7 = .ok (.ifCond .lt 49, 3) := by decide +kernel
theorem d_prog_77_method_1_10 : decode prog_77_method_1_code 10 = .ok (.iload_n 3, 1) := by decide +kernel
theorem d_prog_77_method_1_11 : decode prog_77_method_1_code 11 = .ok (.iconst 1, 1) := by decide +kernel
theorem d_prog_77_method_1_12 : decode prog_77_method_1_code 12 = .ok (.if_icmp .lt 44, 3) := by decide +kernel
theorem d_prog_77_method_1_15 : decode prog_77_method_1_code 15 = .ok (.lload 4, 2) := by decide +kernel
theorem d_prog_77_method_1_17 : decode prog_77_method_1_code 17 = .ok (.lconst 1, 1) := by decide +kernel
theorem d_prog_77_method_1_18 : decode prog_77_method_1_code 18 = .ok (.lcmp, 1) := by decide +kernel
theorem d_prog_77_method_1_19 : decode prog_77_method_1_code 19 = .ok (.ifCond .lt 37, 3) := by decide +kernel
theorem d_prog_77_method_1_22 : decode prog_77_method_1_code 22 = .ok (.lload 6, 2) := by decide +kernel
theorem d_prog_77_method_1_24 : decode prog_77_method_1_code 24 = .ok (.lconst 1, 1) := by decide +kernel
theorem d_prog_77_method_1_25 : decode prog_77_method_1_code 25 = .ok (.lcmp, 1) := by decide +kernel
theorem d_prog_77_method_1_26 : decode prog_77_method_1_code 26 = .ok (.ifCond .lt 30, 3) := by decide +kernel
theorem d_prog_77_method_1_29 : decode prog_77_method_1_code 29 = .ok (.lload 6, 2) := by decide +kernel
theorem d_prog_77_method_1_31 : decode prog_77_method_1_code 31 = .ok (.lload_n 1, 1) := by decide +kernel
theorem d_prog_77_method_1_32 : decode prog_77_method_1_code 32 = .ok (.lcmp, 1) := by decide +kernel
theorem d_prog_77_method_1_33 : decode prog_77_method_1_code 33 = .ok (.ifCond .gt 23, 3) := by decide +kernel
theorem d_prog_77_method_1_36 : decode prog_77_method_1_code 36 = .ok (.lload 11, 2) := by decide +kernel
theorem d_prog_77_method_1_38 : decode prog_77_method_1_code 38 = .ok (.lconst 0, 1) := by decide +kernel
theorem d_prog_77_method_1_39 : decode prog_77_method_1_code 39 = .ok (.lcmp, 1) := by decide +kernel
theorem d_prog_77_method_1_40 : decode prog_77_method_1_code 40 = .ok (.ifCond .lt 16, 3) := by decide +kernel
theorem d_prog_77_method_1_43 : decode prog_77_method_1_code 43 = .ok (.lload 11, 2) := by decide +kernel
theorem d_prog_77_method_1_45 : decode prog_77_method_1_code 45 = .ok (.aload 13, 2) := by decide +kernel
theorem d_prog_77_method_1_47 : decode prog_77_method_1_code 47 = .ok (.arraylength, 1) := by decide +kernel
theorem d_prog_77_method_1_48 : decode prog_77_method_1_code 48 = .ok (.i2l, 1) := by decide +kernel
theorem d_prog_77_method_1_49 : decode prog_77_method_1_code 49 = .ok (.ladd, 1) := by decide +kernel
theorem d_prog_77_method_1_50 : decode prog_77_method_1_code 50 = .ok (.lload 8, 2) := by decide +kernel
theorem d_prog_77_method_1_52 : decode prog_77_method_1_code 52 = .ok (.lcmp, 1) := by decide +kernel
theorem d_prog_77_method_1_53 : decode prog_77_method_1_code 53 = .ok (.ifCond .le 29, 3) := by decide +kernel
theorem d_prog_77_method_1_82 : decode prog_77_method_1_code 82 = .ok (.aload_n 0, 1) := by decide +kernel
theorem d_prog_77_method_1_83 : decode prog_77_method_1_code 83 = .ok (.lload_n 1, 1) := by decide +kernel
theorem d_prog_77_method_1_84 : decode prog_77_method_1_code 84 = .ok (.putfield 16, 3) := by decide +kernel
theorem d_prog_77_method_1_87 : decode prog_77_method_1_code 87 = .ok (.aload_n 0, 1) := by decide +kernel
theorem d_prog_77_method_1_88 : decode prog_77_method_1_code 88 = .ok (.iload_n 3, 1) := by decide +kernel
theorem d_prog_77_method_1_89 : decode prog_77_method_1_code 89 = .ok (.putfield 22, 3) := by decide +kernel
theorem d_prog_77_method_1_92 : decode prog_77_method_1_code 92 = .ok (.aload_n 0, 1) := by decide +kernel
theorem d_prog_77_method_1_93 : decode prog_77_method_1_code 93 = .ok (.lload 4, 2) := by decide +kernel
theorem d_prog_77_method_1_95 : decode prog_77_method_1_code 95 = .ok (.putfield 26, 3) := by decide +kernel
theorem d_prog_77_method_1_98 : decode prog_77_method_1_code 98 = .ok (.aload_n 0, 1) := by decide +kernel
theorem d_prog_77_method_1_99 : decode prog_77_method_1_code 99 = .ok (.lload 6, 2) := by decide +kernel
theorem d_prog_77_method_1_101 : decode prog_77_method_1_code 101 = .ok (.putfield 29, 3) := by decide +kernel
theorem d_prog_77_method_1_104 : decode prog_77_method_1_code 104 = .ok (.aload_n 0, 1) := by decide +kernel
theorem d_prog_77_method_1_105 : decode prog_77_method_1_code 105 = .ok (.lload 8, 2) := by decide +kernel
theorem d_prog_77_method_1_107 : decode prog_77_method_1_code 107 = .ok (.putfield 32, 3) := by decide +kernel
theorem d_prog_77_method_1_110 : decode prog_77_method_1_code 110 = .ok (.aload_n 0, 1) := by decide +kernel
theorem d_prog_77_method_1_111 : decode prog_77_method_1_code 111 = .ok (.iload 10, 2) := by decide +kernel
theorem d_prog_77_method_1_113 : decode prog_77_method_1_code 113 = .ok (.putfield 35, 3) := by decide +kernel
theorem d_prog_77_method_1_116 : decode prog_77_method_1_code 116 = .ok (.aload_n 0, 1) := by decide +kernel
theorem d_prog_77_method_1_117 : decode prog_77_method_1_code 117 = .ok (.lload 11, 2) := by decide +kernel
theorem d_prog_77_method_1_119 : decode prog_77_method_1_code 119 = .ok (.putfield 38, 3) := by decide +kernel
theorem d_prog_77_method_1_122 : decode prog_77_method_1_code 122 = .ok (.aload_n 0, 1) := by decide +kernel
theorem d_prog_77_method_1_123 : decode prog_77_method_1_code 123 = .ok (.aload 13, 2) := by decide +kernel
theorem d_prog_77_method_1_125 : decode prog_77_method_1_code 125 = .ok (.putfield 41, 3) := by decide +kernel
theorem d_prog_77_method_1_128 : decode prog_77_method_1_code 128 = .ok (.return_, 1) := by decide +kernel
def Q_rm_new (Z : State) (a : Addr) (t : Int64) (ld : Int32) (li : Int64) (lt : Int64) (sz : Int64) (ck : Int32) (of : Int64) (d : Addr) (N : Nat) (fd : Nat → Int32) (ln : Int32) (h0 : Heap) (n0 : Nat) (v : Option Value) (h : Heap) (L : List Loc) : Prop := v = none ∧ Fr n0 L ∧ Keep h0 h [a] ∧ Fld Z h a "com/example/tidemark/tidemark/model/SnapshotRequest" "offset" "J" (.long of) ∧ Fld Z h a "com/example/tidemark/tidemark/model/SnapshotRequest" "data" "[B" (.ref d) ∧ Fld Z h a "com/example/tidemark/tidemark/model/SnapshotRequest" "size" "J" (.long sz)
theorem ef_rm_new (m : MethodId) (a : Addr) (t : Int64) (ld : Int32) (li : Int64) (lt : Int64) (sz : Int64) (ck : Int32) (of : Int64) (d : Addr) : entryFrame m #[(.ref a), (.long t), (.int ld), (.long li), (.long lt), (.long sz), (.int ck), (.long of), (.ref d)] 14 = mkF m 0 #[.val (.ref a), .val (.long t), .second, .val (.int ld), .val (.long li), .second, .val (.long lt), .second, .val (.long sz), .second, .val (.int ck), .val (.long of), .second, .val (.ref d)] [] := by first | (simp [entryFrame, mkF, argsToLocals, Value.category]; done) | rfl
theorem pn_143 : plainName "com/example/tidemark/tidemark/model/SnapshotRequest" = true := by first | (simp [plainName, overriddenIn]; done) | decide +kernel
set_option maxRecDepth 65536 in
set_option maxHeartbeats 40000000 in
theorem rm_new (l : Launch) (Z : State) (a0 : Array Value) (hw : ∀ d ∈ tables_1, d.before a0 Z = true) (ws : List Jvm.Cond) (a : Addr) (t : Int64) (ld : Int32) (li : Int64) (lt : Int64) (sz : Int64) (ck : Int32) (of : Int64) (d : Addr) (N : Nat) (fd : Nat → Int32) (ln : Int32) (h0 : Heap) (n0 : Nat) (Z0 : n0 ≤ h0.size) (E_a : Exa Z h0 a "com/example/tidemark/tidemark/model/SnapshotRequest") (g_a : n0 ≤ a) (F_term : Fld Z h0 a "com/example/tidemark/tidemark/model/SnapshotRequest" "term" "J" (.long (0 : Int64))) (F_leader : Fld Z h0 a "com/example/tidemark/tidemark/model/SnapshotRequest" "leader" "I" (.int (0 : Int32))) (F_lastIndex : Fld Z h0 a "com/example/tidemark/tidemark/model/SnapshotRequest" "lastIndex" "J" (.long (0 : Int64))) (F_lastTerm : Fld Z h0 a "com/example/tidemark/tidemark/model/SnapshotRequest" "lastTerm" "J" (.long (0 : Int64))) (F_size : Fld Z h0 a "com/example/tidemark/tidemark/model/SnapshotRequest" "size" "J" (.long (0 : Int64))) (F_checksum : Fld Z h0 a "com/example/tidemark/tidemark/model/SnapshotRequest" "checksum" "I" (.int (0 : Int32))) (F_offset : Fld Z h0 a "com/example/tidemark/tidemark/model/SnapshotRequest" "offset" "J" (.long (0 : Int64))) (F_data : Fld Z h0 a "com/example/tidemark/tidemark/model/SnapshotRequest" "data" "[B" .null) (A_d : own_AI Z h0 d .byte N fd) (hN : N.toInt32 = ln) (ne_a_d : a ≠ d) (k1 : ¬ t < (1 : Int64)) (k2 : ¬ ld < (1 : Int32)) (k3 : ¬ li < (1 : Int64)) (k4 : ¬ lt < (1 : Int64)) (k5 : ¬ t < lt) (k6 : ¬ of < (0 : Int64)) (k7 : ¬ sz < (of + ln.toInt64)) :
    MetFree l (⟨"com/example/tidemark/tidemark/model/SnapshotRequest", "<init>", "(JIJJJIJ[B)V"⟩ : MethodName) (head1 (Jvm.Cond.code (⟨"com/example/tidemark/tidemark/model/SnapshotRequest", "<init>", "(JIJJJIJ[B)V"⟩ : MethodName) prog_77_method_1_code 14 none :: ws) ({ frames := 2, cells := 0, slots := 0, locals := 24 } : Room)) (fun zA zU => zA = #[(.ref a), (.long t), (.int ld), (.long li), (.long lt), (.long sz), (.int ck), (.long of), (.ref d)] ∧ Z.Warmed39 zU.vm ∧ zU.heap = h0) (fun _ _ _ _ _ => True) (fun _ zU zo zW => ∃ zv zL, zo = .returned zv ∧ (Q_rm_new Z a t ld li lt sz ck of d N fd ln h0 n0) zv zW.heap zL ∧ FrameEnd zU zo zW zL ({ frames := 2, cells := 0, slots := 0, locals := 24 } : Room).cells ({ frames := 2, cells := 0, slots := 0, locals := 24 } : Room).slots) := by
  refine MetFree.of_bodySF (plainFor_of_name pn_143) hisR ?_
  intro p e s m args below meth c s₁ Bd hml0 hP hK
  obtain ⟨rfl, hZ, hh⟩ := hP
  have hx := Bd.exec
  have hby := Bd.bytes
  have hml : c.maxLocals = 14 := hml0
  have hown : s.vm.findClass "com/example/tidemark/tidemark/model/SnapshotRequest" = some m.cls := findClass_of_methodNamed Bd.named
  have hnm := (name_of_methodNamed Bd.named Bd.method).1
  have X0 : Stand p l e ({ frames := 2, cells := 0, slots := 0, locals := 24 } : Room) s m #[(.ref a), (.long t), (.int ld), (.long li), (.long lt), (.long sz), (.int ck), (.long of), (.ref d)] below meth c s₁ [] 0 0 := Stand.of_body Bd
  have e0 : s₁.heap = h0 := by rw [← hh, Bd.state]; rfl
  have N0 := Fr.nil n0
  refine own_out (Q := Q_rm_new Z a t ld li lt sz ck of d N fd ln h0 n0) ?_
  refine own_cast (ef_rm_new m a t ld li lt sz ck of d) ?_
  show own_Go p.tables e below (s₁.setTop (mkF m 0 #[.val (.ref a), .val (.long t), .second, .val (.int ld), .val (.long li), .second, .val (.long lt), .second, .val (.long sz), .second, .val (.int ck), .val (.long of), .second, .val (.ref d)] [])) _
  refine own_by (fun zt zk => XS.aloadN X0.here hx rfl (hb hby d_prog_77_method_1_0) rfl rfl zk) ?_
  show own_Go p.tables e below (s₁.setTop (mkF m 1 #[.val (.ref a), .val (.long t), .second, .val (.int ld), .val (.long li), .second, .val (.long lt), .second, .val (.long sz), .second, .val (.int ck), .val (.long of), .second, .val (.ref d)] [(.ref a)])) _
  obtain ⟨_, _, ⟨T1, L1, k1, n1⟩, -, X1, ⟨Lc1, hQ1, l1, y1, z1⟩, st1⟩ := X0.specialBack hx (y := (⟨"java/lang/Record", "<init>", "()V"⟩ : MethodName)) rfl hown (mvT hZ (hw _ (List.mem_of_getElem? (i := 22) rfl))) (mvT hZ (hw _ (List.mem_of_getElem? (i := 23) rfl))) (mvT hZ (hw _ (List.mem_of_getElem? (i := 26) rfl))) (by decide) (backOf (W := 0) (rm_rec l Z a0 hw [] a  h0 n0 (Nat.le_trans Z0 (Keep.refl h0 [a]).1) ) hZ (hw _ (List.mem_of_getElem? (i := 26) rfl)) (hw _ (List.mem_of_getElem? (i := 25) rfl)) (by decide) (by decide)) (g := (mkF m 1 #[.val (.ref a), .val (.long t), .second, .val (.int ld), .val (.long li), .second, .val (.long lt), .second, .val (.long sz), .second, .val (.int ck), .val (.long of), .second, .val (.ref d)] [(.ref a)])) rfl (by rw [hml]; rfl) (Steps.refl _) (a := a) (argsL := []) (rest := []) (lenOf pd_86 rfl) rfl (by show 2 * 0 + _ ≤ _; exact Nat.le_of_eq rfl) (hb hby d_prog_77_method_1_1) (fun _ _ => ⟨rfl, e0, (by decide : 0 + 0 ≤ _), (by decide : 0 + 0 ≤ _)⟩)
  dsimp only [Pt.U, Pt.locs, Pt.cells, Pt.slots] at X1 l1 y1 z1 st1 hQ1
  subst l1 y1 z1
  obtain ⟨rfl, N1q, eh1⟩ := hQ1
  have N1 := Fr.app N0 N1q
  refine own_tr st1 ?_
  show own_Go p.tables e below (T1.setTop (mkF m 4 #[.val (.ref a), .val (.long t), .second, .val (.int ld), .val (.long li), .second, .val (.long lt), .second, .val (.long sz), .second, .val (.int ck), .val (.long of), .second, .val (.ref d)] [])) _
  refine own_by (fun zt zk => XS.lloadN X1.here hx rfl (hb hby d_prog_77_method_1_4) rfl zk) ?_
  show own_Go p.tables e below (T1.setTop (mkF m 5 #[.val (.ref a), .val (.long t), .second, .val (.int ld), .val (.long li), .second, .val (.long lt), .second, .val (.long sz), .second, .val (.int ck), .val (.long of), .second, .val (.ref d)] [(.long t)])) _
  refine own_by (fun zt zk => XS.lconst X1.here hx rfl (hb hby d_prog_77_method_1_5) zk) ?_
  show own_Go p.tables e below (T1.setTop (mkF m 6 #[.val (.ref a), .val (.long t), .second, .val (.int ld), .val (.long li), .second, .val (.long lt), .second, .val (.long sz), .second, .val (.int ck), .val (.long of), .second, .val (.ref d)] [(.long (1 : Int64)), (.long t)])) _
  refine own_by (fun zt zk => XS.lcmp X1.here hx rfl (hb hby d_prog_77_method_1_6) rfl zk) ?_
  show own_Go p.tables e below (T1.setTop (mkF m 7 #[.val (.ref a), .val (.long t), .second, .val (.int ld), .val (.long li), .second, .val (.long lt), .second, .val (.long sz), .second, .val (.int ck), .val (.long of), .second, .val (.ref d)] [(.int (lcmpW t (1 : Int64)))])) _
  refine own_by (fun zt zk => XS.ifNo X1.here hx rfl (hb hby d_prog_77_method_1_7) rfl ((if0 _ _).trans (flt (fun q => k1 ((lw_lt t (1 : Int64)).mp q))).1) zk) ?_
  show own_Go p.tables e below (T1.setTop (mkF m 10 #[.val (.ref a), .val (.long t), .second, .val (.int ld), .val (.long li), .second, .val (.long lt), .second, .val (.long sz), .second, .val (.int ck), .val (.long of), .second, .val (.ref d)] [])) _
  refine own_by (fun zt zk => XS.iloadN X1.here hx rfl (hb hby d_prog_77_method_1_10) rfl zk) ?_
  show own_Go p.tables e below (T1.setTop (mkF m 11 #[.val (.ref a), .val (.long t), .second, .val (.int ld), .val (.long li), .second, .val (.long lt), .second, .val (.long sz), .second, .val (.int ck), .val (.long of), .second, .val (.ref d)] [(.int ld)])) _
  refine own_by (fun zt zk => XS.iconst X1.here hx rfl (hb hby d_prog_77_method_1_11) zk) ?_
  show own_Go p.tables e below (T1.setTop (mkF m 12 #[.val (.ref a), .val (.long t), .second, .val (.int ld), .val (.long li), .second, .val (.long lt), .second, .val (.long sz), .second, .val (.int ck), .val (.long of), .second, .val (.ref d)] [(.int (1 : Int32)), (.int ld)])) _
  refine own_by (fun zt zk => XS.icmpNo X1.here hx rfl (hb hby d_prog_77_method_1_12) rfl (flt k2).1 zk) ?_
  show own_Go p.tables e below (T1.setTop (mkF m 15 #[.val (.ref a), .val (.long t), .second, .val (.int ld), .val (.long li), .second, .val (.long lt), .second, .val (.long sz), .second, .val (.int ck), .val (.long of), .second, .val (.ref d)] [])) _
  refine own_by (fun zt zk => XS.lload X1.here hx rfl (hb hby d_prog_77_method_1_15) rfl zk) ?_
  show own_Go p.tables e below (T1.setTop (mkF m 17 #[.val (.ref a), .val (.long t), .second, .val (.int ld), .val (.long li), .second, .val (.long lt), .second, .val (.long sz), .second, .val (.int ck), .val (.long of), .second, .val (.ref d)] [(.long li)])) _
  refine own_by (fun zt zk => XS.lconst X1.here hx rfl (hb hby d_prog_77_method_1_17) zk) ?_
  show own_Go p.tables e below (T1.setTop (mkF m 18 #[.val (.ref a), .val (.long t), .second, .val (.int ld), .val (.long li), .second, .val (.long lt), .second, .val (.long sz), .second, .val (.int ck), .val (.long of), .second, .val (.ref d)] [(.long (1 : Int64)), (.long li)])) _
  refine own_by (fun zt zk => XS.lcmp X1.here hx rfl (hb hby d_prog_77_method_1_18) rfl zk) ?_
  show own_Go p.tables e below (T1.setTop (mkF m 19 #[.val (.ref a), .val (.long t), .second, .val (.int ld), .val (.long li), .second, .val (.long lt), .second, .val (.long sz), .second, .val (.int ck), .val (.long of), .second, .val (.ref d)] [(.int (lcmpW li (1 : Int64)))])) _
  refine own_by (fun zt zk => XS.ifNo X1.here hx rfl (hb hby d_prog_77_method_1_19) rfl ((if0 _ _).trans (flt (fun q => k3 ((lw_lt li (1 : Int64)).mp q))).1) zk) ?_
  show own_Go p.tables e below (T1.setTop (mkF m 22 #[.val (.ref a), .val (.long t), .second, .val (.int ld), .val (.long li), .second, .val (.long lt), .second, .val (.long sz), .second, .val (.int ck), .val (.long of), .second, .val (.ref d)] [])) _
  refine own_by (fun zt zk => XS.lload X1.here hx rfl (hb hby d_prog_77_method_1_22) rfl zk) ?_
  show own_Go p.tables e below (T1.setTop (mkF m 24 #[.val (.ref a), .val (.long t), .second, .val (.int ld), .val (.long li), .second, .val (.long lt), .second, .val (.long sz), .second, .val (.int ck), .val (.long of), .second, .val (.ref d)] [(.long lt)])) _
  refine own_by (fun zt zk => XS.lconst X1.here hx rfl (hb hby d_prog_77_method_1_24) zk) ?_
  show own_Go p.tables e below (T1.setTop (mkF m 25 #[.val (.ref a), .val (.long t), .second, .val (.int ld), .val (.long li), .second, .val (.long lt), .second, .val (.long sz), .second, .val (.int ck), .val (.long of), .second, .val (.ref d)] [(.long (1 : Int64)), (.long lt)])) _
  refine own_by (fun zt zk => XS.lcmp X1.here hx rfl (hb hby d_prog_77_method_1_25) rfl zk) ?_
  show own_Go p.tables e below (T1.setTop (mkF m 26 #[.val (.ref a), .val (.long t), .second, .val (.int ld), .val (.long li), .second, .val (.long lt), .second, .val (.long sz), .second, .val (.int ck), .val (.long of), .second, .val (.ref d)] [(.int (lcmpW lt (1 : Int64)))])) _
  refine own_by (fun zt zk => XS.ifNo X1.here hx rfl (hb hby d_prog_77_method_1_26) rfl ((if0 _ _).trans (flt (fun q => k4 ((lw_lt lt (1 : Int64)).mp q))).1) zk) ?_
  show own_Go p.tables e below (T1.setTop (mkF m 29 #[.val (.ref a), .val (.long t), .second, .val (.int ld), .val (.long li), .second, .val (.long lt), .second, .val (.long sz), .second, .val (.int ck), .val (.long of), .second, .val (.ref d)] [])) _
  refine own_by (fun zt zk => XS.lload X1.here hx rfl (hb hby d_prog_77_method_1_29) rfl zk) ?_
  show own_Go p.tables e below (T1.setTop (mkF m 31 #[.val (.ref a), .val (.long t), .second, .val (.int ld), .val (.long li), .second, .val (.long lt), .second, .val (.long sz), .second, .val (.int ck), .val (.long of), .second, .val (.ref d)] [(.long lt)])) _
  refine own_by (fun zt zk => XS.lloadN X1.here hx rfl (hb hby d_prog_77_method_1_31) rfl zk) ?_
  show own_Go p.tables e below (T1.setTop (mkF m 32 #[.val (.ref a), .val (.long t), .second, .val (.int ld), .val (.long li), .second, .val (.long lt), .second, .val (.long sz), .second, .val (.int ck), .val (.long of), .second, .val (.ref d)] [(.long t), (.long lt)])) _
  refine own_by (fun zt zk => XS.lcmp X1.here hx rfl (hb hby d_prog_77_method_1_32) rfl zk) ?_
  show own_Go p.tables e below (T1.setTop (mkF m 33 #[.val (.ref a), .val (.long t), .second, .val (.int ld), .val (.long li), .second, .val (.long lt), .second, .val (.long sz), .second, .val (.int ck), .val (.long of), .second, .val (.ref d)] [(.int (lcmpW lt t))])) _
  refine own_by (fun zt zk => XS.ifNo X1.here hx rfl (hb hby d_prog_77_method_1_33) rfl ((if0 _ _).trans (flt (fun q => k5 ((lw_gt lt t).mp q))).2.2.1) zk) ?_
  show own_Go p.tables e below (T1.setTop (mkF m 36 #[.val (.ref a), .val (.long t), .second, .val (.int ld), .val (.long li), .second, .val (.long lt), .second, .val (.long sz), .second, .val (.int ck), .val (.long of), .second, .val (.ref d)] [])) _
  refine own_by (fun zt zk => XS.lload X1.here hx rfl (hb hby d_prog_77_method_1_36) rfl zk) ?_
  show own_Go p.tables e below (T1.setTop (mkF m 38 #[.val (.ref a), .val (.long t), .second, .val (.int ld), .val (.long li), .second, .val (.long lt), .second, .val (.long sz), .second, .val (.int ck), .val (.long of), .second, .val (.ref d)] [(.long of)])) _
  refine own_by (fun zt zk => XS.lconst X1.here hx rfl (hb hby d_prog_77_method_1_38) zk) ?_
  show own_Go p.tables e below (T1.setTop (mkF m 39 #[.val (.ref a), .val (.long t), .second, .val (.int ld), .val (.long li), .second, .val (.long lt), .second, .val (.long sz), .second, .val (.int ck), .val (.long of), .second, .val (.ref d)] [(.long (0 : Int64)), (.long of)])) _
  refine own_by (fun zt zk => XS.lcmp X1.here hx rfl (hb hby d_prog_77_method_1_39) rfl zk) ?_
  show own_Go p.tables e below (T1.setTop (mkF m 40 #[.val (.ref a), .val (.long t), .second, .val (.int ld), .val (.long li), .second, .val (.long lt), .second, .val (.long sz), .second, .val (.int ck), .val (.long of), .second, .val (.ref d)] [(.int (lcmpW of (0 : Int64)))])) _
  refine own_by (fun zt zk => XS.ifNo X1.here hx rfl (hb hby d_prog_77_method_1_40) rfl ((if0 _ _).trans (flt (fun q => k6 ((lw_lt of (0 : Int64)).mp q))).1) zk) ?_
  show own_Go p.tables e below (T1.setTop (mkF m 43 #[.val (.ref a), .val (.long t), .second, .val (.int ld), .val (.long li), .second, .val (.long lt), .second, .val (.long sz), .second, .val (.int ck), .val (.long of), .second, .val (.ref d)] [])) _
  refine own_by (fun zt zk => XS.lload X1.here hx rfl (hb hby d_prog_77_method_1_43) rfl zk) ?_
  show own_Go p.tables e below (T1.setTop (mkF m 45 #[.val (.ref a), .val (.long t), .second, .val (.int ld), .val (.long li), .second, .val (.long lt), .second, .val (.long sz), .second, .val (.int ck), .val (.long of), .second, .val (.ref d)] [(.long of)])) _
  refine own_by (fun zt zk => XS.aload X1.here hx rfl (hb hby d_prog_77_method_1_45) rfl rfl zk) ?_
  show own_Go p.tables e below (T1.setTop (mkF m 47 #[.val (.ref a), .val (.long t), .second, .val (.int ld), .val (.long li), .second, .val (.long lt), .second, .val (.long sz), .second, .val (.int ck), .val (.long of), .second, .val (.ref d)] [(.ref d), (.long of)])) _
  refine own_by (own_len X1 hx hZ eh1 A_d (z := ln) hN (g := (mkF m 47 #[.val (.ref a), .val (.long t), .second, .val (.int ld), .val (.long li), .second, .val (.long lt), .second, .val (.long sz), .second, .val (.int ck), .val (.long of), .second, .val (.ref d)] [(.ref d), (.long of)])) rfl rfl (hb hby d_prog_77_method_1_47)) ?_
  show own_Go p.tables e below (T1.setTop (mkF m 48 #[.val (.ref a), .val (.long t), .second, .val (.int ld), .val (.long li), .second, .val (.long lt), .second, .val (.long sz), .second, .val (.int ck), .val (.long of), .second, .val (.ref d)] [(.int ln), (.long of)])) _
  refine own_by (fun zt zk => XS.i2l X1.here hx rfl (hb hby d_prog_77_method_1_48) rfl zk) ?_
  show own_Go p.tables e below (T1.setTop (mkF m 49 #[.val (.ref a), .val (.long t), .second, .val (.int ld), .val (.long li), .second, .val (.long lt), .second, .val (.long sz), .second, .val (.int ck), .val (.long of), .second, .val (.ref d)] [(.long (ln.toInt64)), (.long of)])) _
  refine own_by (fun zt zk => XS.ladd X1.here hx rfl (hb hby d_prog_77_method_1_49) rfl zk) ?_
  show own_Go p.tables e below (T1.setTop (mkF m 50 #[.val (.ref a), .val (.long t), .second, .val (.int ld), .val (.long li), .second, .val (.long lt), .second, .val (.long sz), .second, .val (.int ck), .val (.long of), .second, .val (.ref d)] [(.long (of + (ln.toInt64)))])) _
  refine own_by (fun zt zk => XS.lload X1.here hx rfl (hb hby d_prog_77_method_1_50) rfl zk) ?_
  show own_Go p.tables e below (T1.setTop (mkF m 52 #[.val (.ref a), .val (.long t), .second, .val (.int ld), .val (.long li), .second, .val (.long lt), .second, .val (.long sz), .second, .val (.int ck), .val (.long of), .second, .val (.ref d)] [(.long sz), (.long (of + (ln.toInt64)))])) _
  refine own_by (fun zt zk => XS.lcmp X1.here hx rfl (hb hby d_prog_77_method_1_52) rfl zk) ?_
  show own_Go p.tables e below (T1.setTop (mkF m 53 #[.val (.ref a), .val (.long t), .second, .val (.int ld), .val (.long li), .second, .val (.long lt), .second, .val (.long sz), .second, .val (.int ck), .val (.long of), .second, .val (.ref d)] [(.int (lcmpW (of + (ln.toInt64)) sz))])) _
  refine own_by (fun zt zk => XS.ifYes X1.here hx rfl (pc0 := 53) (pc' := 82) rfl (hb hby d_prog_77_method_1_53) rfl ((if0 _ _).trans (flt (fun q => k7 ((lw_gt (of + (ln.toInt64)) sz).mp q))).2.2.2) (by decide) (by decide) zk) ?_
  show own_Go p.tables e below (T1.setTop (mkF m 82 #[.val (.ref a), .val (.long t), .second, .val (.int ld), .val (.long li), .second, .val (.long lt), .second, .val (.long sz), .second, .val (.int ck), .val (.long of), .second, .val (.ref d)] [])) _
  refine own_by (fun zt zk => XS.aloadN X1.here hx rfl (hb hby d_prog_77_method_1_82) rfl rfl zk) ?_
  show own_Go p.tables e below (T1.setTop (mkF m 83 #[.val (.ref a), .val (.long t), .second, .val (.int ld), .val (.long li), .second, .val (.long lt), .second, .val (.long sz), .second, .val (.int ck), .val (.long of), .second, .val (.ref d)] [(.ref a)])) _
  refine own_by (fun zt zk => XS.lloadN X1.here hx rfl (hb hby d_prog_77_method_1_83) rfl zk) ?_
  show own_Go p.tables e below (T1.setTop (mkF m 84 #[.val (.ref a), .val (.long t), .second, .val (.int ld), .val (.long li), .second, .val (.long lt), .second, .val (.long sz), .second, .val (.int ck), .val (.long of), .second, .val (.ref d)] [(.long t), (.ref a)])) _
  obtain ⟨T2, hea2, X2, e2, W2, st2⟩ := putF X1 hx hZ hown (host := "") (Or.inl (hw _ (List.mem_of_getElem? (i := 30) rfl))) Via.refl eh1 F_term E_a (Or.inr ⟨(hw _ (List.mem_of_getElem? (i := 31) rfl)), rfl, hnm⟩) (hw _ (List.mem_of_getElem? (i := 17) rfl)) (ty := .long) (by decide) rfl rfl (g := (mkF m 84 #[.val (.ref a), .val (.long t), .second, .val (.int ld), .val (.long li), .second, .val (.long lt), .second, .val (.long sz), .second, .val (.int ck), .val (.long of), .second, .val (.ref d)] [(.long t), (.ref a)])) rfl rfl (hb hby d_prog_77_method_1_84)
  have Fw2 := (F_term).same W2
  have N2 := Fr.snoc X2 N1 g_a
  have K2 : Keep h0 hea2 [a] := (Keep.refl h0 [a]).wr W2 (Or.inl (List.mem_of_getElem? (i := 0) rfl))
  refine own_by (st2) ?_
  show own_Go p.tables e below (T2.setTop (mkF m 87 #[.val (.ref a), .val (.long t), .second, .val (.int ld), .val (.long li), .second, .val (.long lt), .second, .val (.long sz), .second, .val (.int ck), .val (.long of), .second, .val (.ref d)] [])) _
  refine own_by (fun zt zk => XS.aloadN X2.here hx rfl (hb hby d_prog_77_method_1_87) rfl rfl zk) ?_
  show own_Go p.tables e below (T2.setTop (mkF m 88 #[.val (.ref a), .val (.long t), .second, .val (.int ld), .val (.long li), .second, .val (.long lt), .second, .val (.long sz), .second, .val (.int ck), .val (.long of), .second, .val (.ref d)] [(.ref a)])) _
  refine own_by (fun zt zk => XS.iloadN X2.here hx rfl (hb hby d_prog_77_method_1_88) rfl zk) ?_
  show own_Go p.tables e below (T2.setTop (mkF m 89 #[.val (.ref a), .val (.long t), .second, .val (.int ld), .val (.long li), .second, .val (.long lt), .second, .val (.long sz), .second, .val (.int ck), .val (.long of), .second, .val (.ref d)] [(.int ld), (.ref a)])) _
  have c4 := (F_leader.other W2 (Or.inr (slot_ne (Or.inr (hw _ (List.mem_of_getElem? (i := 33) rfl))) (Or.inr (hw _ (List.mem_of_getElem? (i := 31) rfl))) (by decide) (t := .int) (t' := .long) (by decide) (by decide))))
  obtain ⟨T3, hea3, X3, e3, W3, st3⟩ := putF X2 hx hZ hown (host := "") (Or.inl (hw _ (List.mem_of_getElem? (i := 32) rfl))) Via.refl e2 c4 (E_a.wr W2) (Or.inr ⟨(hw _ (List.mem_of_getElem? (i := 33) rfl)), rfl, hnm⟩) (hw _ (List.mem_of_getElem? (i := 17) rfl)) (ty := .int) (by decide) rfl rfl (g := (mkF m 89 #[.val (.ref a), .val (.long t), .second, .val (.int ld), .val (.long li), .second, .val (.long lt), .second, .val (.long sz), .second, .val (.int ck), .val (.long of), .second, .val (.ref d)] [(.int ld), (.ref a)])) rfl rfl (hb hby d_prog_77_method_1_89)
  have Fw3 := (c4).same W3
  have N3 := Fr.snoc X3 N2 g_a
  have K3 : Keep h0 hea3 [a] := K2.wr W3 (Or.inl (List.mem_of_getElem? (i := 0) rfl))
  refine own_by (st3) ?_
  show own_Go p.tables e below (T3.setTop (mkF m 92 #[.val (.ref a), .val (.long t), .second, .val (.int ld), .val (.long li), .second, .val (.long lt), .second, .val (.long sz), .second, .val (.int ck), .val (.long of), .second, .val (.ref d)] [])) _
  refine own_by (fun zt zk => XS.aloadN X3.here hx rfl (hb hby d_prog_77_method_1_92) rfl rfl zk) ?_
  show own_Go p.tables e below (T3.setTop (mkF m 93 #[.val (.ref a), .val (.long t), .second, .val (.int ld), .val (.long li), .second, .val (.long lt), .second, .val (.long sz), .second, .val (.int ck), .val (.long of), .second, .val (.ref d)] [(.ref a)])) _
  refine own_by (fun zt zk => XS.lload X3.here hx rfl (hb hby d_prog_77_method_1_93) rfl zk) ?_
  show own_Go p.tables e below (T3.setTop (mkF m 95 #[.val (.ref a), .val (.long t), .second, .val (.int ld), .val (.long li), .second, .val (.long lt), .second, .val (.long sz), .second, .val (.int ck), .val (.long of), .second, .val (.ref d)] [(.long li), (.ref a)])) _
  have c6 := ((F_lastIndex.other W2 (Or.inr (slot_ne (Or.inr (hw _ (List.mem_of_getElem? (i := 35) rfl))) (Or.inr (hw _ (List.mem_of_getElem? (i := 31) rfl))) (by decide) (t := .long) (t' := .long) (by decide) (by decide)))).other W3 (Or.inr (slot_ne (Or.inr (hw _ (List.mem_of_getElem? (i := 35) rfl))) (Or.inr (hw _ (List.mem_of_getElem? (i := 33) rfl))) (by decide) (t := .long) (t' := .int) (by decide) (by decide))))
  obtain ⟨T5, hea5, X5, e5, W5, st5⟩ := putF X3 hx hZ hown (host := "") (Or.inl (hw _ (List.mem_of_getElem? (i := 34) rfl))) Via.refl e3 c6 ((E_a.wr W2).wr W3) (Or.inr ⟨(hw _ (List.mem_of_getElem? (i := 35) rfl)), rfl, hnm⟩) (hw _ (List.mem_of_getElem? (i := 17) rfl)) (ty := .long) (by decide) rfl rfl (g := (mkF m 95 #[.val (.ref a), .val (.long t), .second, .val (.int ld), .val (.long li), .second, .val (.long lt), .second, .val (.long sz), .second, .val (.int ck), .val (.long of), .second, .val (.ref d)] [(.long li), (.ref a)])) rfl rfl (hb hby d_prog_77_method_1_95)
  have Fw5 := (c6).same W5
  have N5 := Fr.snoc X5 N3 g_a
  have K5 : Keep h0 hea5 [a] := K3.wr W5 (Or.inl (List.mem_of_getElem? (i := 0) rfl))
  refine own_by (st5) ?_
  show own_Go p.tables e below (T5.setTop (mkF m 98 #[.val (.ref a), .val (.long t), .second, .val (.int ld), .val (.long li), .second, .val (.long lt), .second, .val (.long sz), .second, .val (.int ck), .val (.long of), .second, .val (.ref d)] [])) _
  refine own_by (fun zt zk => XS.aloadN X5.here hx rfl (hb hby d_prog_77_method_1_98) rfl rfl zk) ?_
  show own_Go p.tables e below (T5.setTop (mkF m 99 #[.val (.ref a), .val (.long t), .second, .val (.int ld), .val (.long li), .second, .val (.long lt), .second, .val (.long sz), .second, .val (.int ck), .val (.long of), .second, .val (.ref d)] [(.ref a)])) _
  refine own_by (fun zt zk => XS.lload X5.here hx rfl (hb hby d_prog_77_method_1_99) rfl zk) ?_
  show own_Go p.tables e below (T5.setTop (mkF m 101 #[.val (.ref a), .val (.long t), .second, .val (.int ld), .val (.long li), .second, .val (.long lt), .second, .val (.long sz), .second, .val (.int ck), .val (.long of), .second, .val (.ref d)] [(.long lt), (.ref a)])) _
  have c8 := (((F_lastTerm.other W2 (Or.inr (slot_ne (Or.inr (hw _ (List.mem_of_getElem? (i := 37) rfl))) (Or.inr (hw _ (List.mem_of_getElem? (i := 31) rfl))) (by decide) (t := .long) (t' := .long) (by decide) (by decide)))).other W3 (Or.inr (slot_ne (Or.inr (hw _ (List.mem_of_getElem? (i := 37) rfl))) (Or.inr (hw _ (List.mem_of_getElem? (i := 33) rfl))) (by decide) (t := .long) (t' := .int) (by decide) (by decide)))).other W5 (Or.inr (slot_ne (Or.inr (hw _ (List.mem_of_getElem? (i := 37) rfl))) (Or.inr (hw _ (List.mem_of_getElem? (i := 35) rfl))) (by decide) (t := .long) (t' := .long) (by decide) (by decide))))
  obtain ⟨T7, hea7, X7, e7, W7, st7⟩ := putF X5 hx hZ hown (host := "") (Or.inl (hw _ (List.mem_of_getElem? (i := 36) rfl))) Via.refl e5 c8 (((E_a.wr W2).wr W3).wr W5) (Or.inr ⟨(hw _ (List.mem_of_getElem? (i := 37) rfl)), rfl, hnm⟩) (hw _ (List.mem_of_getElem? (i := 17) rfl)) (ty := .long) (by decide) rfl rfl (g := (mkF m 101 #[.val (.ref a), .val (.long t), .second, .val (.int ld), .val (.long li), .second, .val (.long lt), .second, .val (.long sz), .second, .val (.int ck), .val (.long of), .second, .val (.ref d)] [(.long lt), (.ref a)])) rfl rfl (hb hby d_prog_77_method_1_101)
  have Fw7 := (c8).same W7
  have N7 := Fr.snoc X7 N5 g_a
  have K7 : Keep h0 hea7 [a] := K5.wr W7 (Or.inl (List.mem_of_getElem? (i := 0) rfl))
  refine own_by (st7) ?_
  show own_Go p.tables e below (T7.setTop (mkF m 104 #[.val (.ref a), .val (.long t), .second, .val (.int ld), .val (.long li), .second, .val (.long lt), .second, .val (.long sz), .second, .val (.int ck), .val (.long of), .second, .val (.ref d)] [])) _
  refine own_by (fun zt zk => XS.aloadN X7.here hx rfl (hb hby d_prog_77_method_1_104) rfl rfl zk) ?_
  show own_Go p.tables e below (T7.setTop (mkF m 105 #[.val (.ref a), .val (.long t), .second, .val (.int ld), .val (.long li), .second, .val (.long lt), .second, .val (.long sz), .second, .val (.int ck), .val (.long of), .second, .val (.ref d)] [(.ref a)])) _
  refine own_by (fun zt zk => XS.lload X7.here hx rfl (hb hby d_prog_77_method_1_105) rfl zk) ?_
  show own_Go p.tables e below (T7.setTop (mkF m 107 #[.val (.ref a), .val (.long t), .second, .val (.int ld), .val (.long li), .second, .val (.long lt), .second, .val (.long sz), .second, .val (.int ck), .val (.long of), .second, .val (.ref d)] [(.long sz), (.ref a)])) _
  have c10 := ((((F_size.other W2 (Or.inr (slot_ne (Or.inr (hw _ (List.mem_of_getElem? (i := 39) rfl))) (Or.inr (hw _ (List.mem_of_getElem? (i := 31) rfl))) (by decide) (t := .long) (t' := .long) (by decide) (by decide)))).other W3 (Or.inr (slot_ne (Or.inr (hw _ (List.mem_of_getElem? (i := 39) rfl))) (Or.inr (hw _ (List.mem_of_getElem? (i := 33) rfl))) (by decide) (t := .long) (t' := .int) (by decide) (by decide)))).other W5 (Or.inr (slot_ne (Or.inr (hw _ (List.mem_of_getElem? (i := 39) rfl))) (Or.inr (hw _ (List.mem_of_getElem? (i := 35) rfl))) (by decide) (t := .long) (t' := .long) (by decide) (by decide)))).other W7 (Or.inr (slot_ne (Or.inr (hw _ (List.mem_of_getElem? (i := 39) rfl))) (Or.inr (hw _ (List.mem_of_getElem? (i := 37) rfl))) (by decide) (t := .long) (t' := .long) (by decide) (by decide))))
  obtain ⟨T9, hea9, X9, e9, W9, st9⟩ := putF X7 hx hZ hown (host := "") (Or.inl (hw _ (List.mem_of_getElem? (i := 38) rfl))) Via.refl e7 c10 ((((E_a.wr W2).wr W3).wr W5).wr W7) (Or.inr ⟨(hw _ (List.mem_of_getElem? (i := 39) rfl)), rfl, hnm⟩) (hw _ (List.mem_of_getElem? (i := 17) rfl)) (ty := .long) (by decide) rfl rfl (g := (mkF m 107 #[.val (.ref a), .val (.long t), .second, .val (.int ld), .val (.long li), .second, .val (.long lt), .second, .val (.long sz), .second, .val (.int ck), .val (.long of), .second, .val (.ref d)] [(.long sz), (.ref a)])) rfl rfl (hb hby d_prog_77_method_1_107)
  have Fw9 := (c10).same W9
  have N9 := Fr.snoc X9 N7 g_a
  have K9 : Keep h0 hea9 [a] := K7.wr W9 (Or.inl (List.mem_of_getElem? (i := 0) rfl))
  refine own_by (st9) ?_
  show own_Go p.tables e below (T9.setTop (mkF m 110 #[.val (.ref a), .val (.long t), .second, .val (.int ld), .val (.long li), .second, .val (.long lt), .second, .val (.long sz), .second, .val (.int ck), .val (.long of), .second, .val (.ref d)] [])) _
  refine own_by (fun zt zk => XS.aloadN X9.here hx rfl (hb hby d_prog_77_method_1_110) rfl rfl zk) ?_
  show own_Go p.tables e below (T9.setTop (mkF m 111 #[.val (.ref a), .val (.long t), .second, .val (.int ld), .val (.long li), .second, .val (.long lt), .second, .val (.long sz), .second, .val (.int ck), .val (.long of), .second, .val (.ref d)] [(.ref a)])) _
  refine own_by (fun zt zk => XS.iload X9.here hx rfl (hb hby d_prog_77_method_1_111) rfl zk) ?_
  show own_Go p.tables e below (T9.setTop (mkF m 113 #[.val (.ref a), .val (.long t), .second, .val (.int ld), .val (.long li), .second, .val (.long lt), .second, .val (.long sz), .second, .val (.int ck), .val (.long of), .second, .val (.ref d)] [(.int ck), (.ref a)])) _
  have c12 := (((((F_checksum.other W2 (Or.inr (slot_ne (Or.inr (hw _ (List.mem_of_getElem? (i := 41) rfl))) (Or.inr (hw _ (List.mem_of_getElem? (i := 31) rfl))) (by decide) (t := .int) (t' := .long) (by decide) (by decide)))).other W3 (Or.inr (slot_ne (Or.inr (hw _ (List.mem_of_getElem? (i := 41) rfl))) (Or.inr (hw _ (List.mem_of_getElem? (i := 33) rfl))) (by decide) (t := .int) (t' := .int) (by decide) (by decide)))).other W5 (Or.inr (slot_ne (Or.inr (hw _ (List.mem_of_getElem? (i := 41) rfl))) (Or.inr (hw _ (List.mem_of_getElem? (i := 35) rfl))) (by decide) (t := .int) (t' := .long) (by decide) (by decide)))).other W7 (Or.inr (slot_ne (Or.inr (hw _ (List.mem_of_getElem? (i := 41) rfl))) (Or.inr (hw _ (List.mem_of_getElem? (i := 37) rfl))) (by decide) (t := .int) (t' := .long) (by decide) (by decide)))).other W9 (Or.inr (slot_ne (Or.inr (hw _ (List.mem_of_getElem? (i := 41) rfl))) (Or.inr (hw _ (List.mem_of_getElem? (i := 39) rfl))) (by decide) (t := .int) (t' := .long) (by decide) (by decide))))
  obtain ⟨T11, hea11, X11, e11, W11, st11⟩ := putF X9 hx hZ hown (host := "") (Or.inl (hw _ (List.mem_of_getElem? (i := 40) rfl))) Via.refl e9 c12 (((((E_a.wr W2).wr W3).wr W5).wr W7).wr W9) (Or.inr ⟨(hw _ (List.mem_of_getElem? (i := 41) rfl)), rfl, hnm⟩) (hw _ (List.mem_of_getElem? (i := 17) rfl)) (ty := .int) (by decide) rfl rfl (g := (mkF m 113 #[.val (.ref a), .val (.long t), .second, .val (.int ld), .val (.long li), .second, .val (.long lt), .second, .val (.long sz), .second, .val (.int ck), .val (.long of), .second, .val (.ref d)] [(.int ck), (.ref a)])) rfl rfl (hb hby d_prog_77_method_1_113)
  have Fw11 := (c12).same W11
  have N11 := Fr.snoc X11 N9 g_a
  have K11 : Keep h0 hea11 [a] := K9.wr W11 (Or.inl (List.mem_of_getElem? (i := 0) rfl))
  refine own_by (st11) ?_
  show own_Go p.tables e below (T11.setTop (mkF m 116 #[.val (.ref a), .val (.long t), .second, .val (.int ld), .val (.long li), .second, .val (.long lt), .second, .val (.long sz), .second, .val (.int ck), .val (.long of), .second, .val (.ref d)] [])) _
  refine own_by (fun zt zk => XS.aloadN X11.here hx rfl (hb hby d_prog_77_method_1_116) rfl rfl zk) ?_
  show own_Go p.tables e below (T11.setTop (mkF m 117 #[.val (.ref a), .val (.long t), .second, .val (.int ld), .val (.long li), .second, .val (.long lt), .second, .val (.long sz), .second, .val (.int ck), .val (.long of), .second, .val (.ref d)] [(.ref a)])) _
  refine own_by (fun zt zk => XS.lload X11.here hx rfl (hb hby d_prog_77_method_1_117) rfl zk) ?_
  show own_Go p.tables e below (T11.setTop (mkF m 119 #[.val (.ref a), .val (.long t), .second, .val (.int ld), .val (.long li), .second, .val (.long lt), .second, .val (.long sz), .second, .val (.int ck), .val (.long of), .second, .val (.ref d)] [(.long of), (.ref a)])) _
  have c14 := ((((((F_offset.other W2 (Or.inr (slot_ne (Or.inr (hw _ (List.mem_of_getElem? (i := 43) rfl))) (Or.inr (hw _ (List.mem_of_getElem? (i := 31) rfl))) (by decide) (t := .long) (t' := .long) (by decide) (by decide)))).other W3 (Or.inr (slot_ne (Or.inr (hw _ (List.mem_of_getElem? (i := 43) rfl))) (Or.inr (hw _ (List.mem_of_getElem? (i := 33) rfl))) (by decide) (t := .long) (t' := .int) (by decide) (by decide)))).other W5 (Or.inr (slot_ne (Or.inr (hw _ (List.mem_of_getElem? (i := 43) rfl))) (Or.inr (hw _ (List.mem_of_getElem? (i := 35) rfl))) (by decide) (t := .long) (t' := .long) (by decide) (by decide)))).other W7 (Or.inr (slot_ne (Or.inr (hw _ (List.mem_of_getElem? (i := 43) rfl))) (Or.inr (hw _ (List.mem_of_getElem? (i := 37) rfl))) (by decide) (t := .long) (t' := .long) (by decide) (by decide)))).other W9 (Or.inr (slot_ne (Or.inr (hw _ (List.mem_of_getElem? (i := 43) rfl))) (Or.inr (hw _ (List.mem_of_getElem? (i := 39) rfl))) (by decide) (t := .long) (t' := .long) (by decide) (by decide)))).other W11 (Or.inr (slot_ne (Or.inr (hw _ (List.mem_of_getElem? (i := 43) rfl))) (Or.inr (hw _ (List.mem_of_getElem? (i := 41) rfl))) (by decide) (t := .long) (t' := .int) (by decide) (by decide))))
  obtain ⟨T13, hea13, X13, e13, W13, st13⟩ := putF X11 hx hZ hown (host := "") (Or.inl (hw _ (List.mem_of_getElem? (i := 42) rfl))) Via.refl e11 c14 ((((((E_a.wr W2).wr W3).wr W5).wr W7).wr W9).wr W11) (Or.inr ⟨(hw _ (List.mem_of_getElem? (i := 43) rfl)), rfl, hnm⟩) (hw _ (List.mem_of_getElem? (i := 17) rfl)) (ty := .long) (by decide) rfl rfl (g := (mkF m 119 #[.val (.ref a), .val (.long t), .second, .val (.int ld), .val (.long li), .second, .val (.long lt), .second, .val (.long sz), .second, .val (.int ck), .val (.long of), .second, .val (.ref d)] [(.long of), (.ref a)])) rfl rfl (hb hby d_prog_77_method_1_119)
  have Fw13 := (c14).same W13
  have N13 := Fr.snoc X13 N11 g_a
  have K13 : Keep h0 hea13 [a] := K11.wr W13 (Or.inl (List.mem_of_getElem? (i := 0) rfl))
  refine own_by (st13) ?_
  show own_Go p.tables e below (T13.setTop (mkF m 122 #[.val (.ref a), .val (.long t), .second, .val (.int ld), .val (.long li), .second, .val (.long lt), .second, .val (.long sz), .second, .val (.int ck), .val (.long of), .second, .val (.ref d)] [])) _
  refine own_by (fun zt zk => XS.aloadN X13.here hx rfl (hb hby d_prog_77_method_1_122) rfl rfl zk) ?_
  show own_Go p.tables e below (T13.setTop (mkF m 123 #[.val (.ref a), .val (.long t), .second, .val (.int ld), .val (.long li), .second, .val (.long lt), .second, .val (.long sz), .second, .val (.int ck), .val (.long of), .second, .val (.ref d)] [(.ref a)])) _
  refine own_by (fun zt zk => XS.aload X13.here hx rfl (hb hby d_prog_77_method_1_123) rfl rfl zk) ?_
  show own_Go p.tables e below (T13.setTop (mkF m 125 #[.val (.ref a), .val (.long t), .second, .val (.int ld), .val (.long li), .second, .val (.long lt), .second, .val (.long sz), .second, .val (.int ck), .val (.long of), .second, .val (.ref d)] [(.ref d), (.ref a)])) _
  have c16 := (((((((F_data.other W2 (Or.inr (slot_ne (Or.inr (hw _ (List.mem_of_getElem? (i := 45) rfl))) (Or.inr (hw _ (List.mem_of_getElem? (i := 31) rfl))) (by decide) (t := (.array .byte)) (t' := .long) (by decide) (by decide)))).other W3 (Or.inr (slot_ne (Or.inr (hw _ (List.mem_of_getElem? (i := 45) rfl))) (Or.inr (hw _ (List.mem_of_getElem? (i := 33) rfl))) (by decide) (t := (.array .byte)) (t' := .int) (by decide) (by decide)))).other W5 (Or.inr (slot_ne (Or.inr (hw _ (List.mem_of_getElem? (i := 45) rfl))) (Or.inr (hw _ (List.mem_of_getElem? (i := 35) rfl))) (by decide) (t := (.array .byte)) (t' := .long) (by decide) (by decide)))).other W7 (Or.inr (slot_ne (Or.inr (hw _ (List.mem_of_getElem? (i := 45) rfl))) (Or.inr (hw _ (List.mem_of_getElem? (i := 37) rfl))) (by decide) (t := (.array .byte)) (t' := .long) (by decide) (by decide)))).other W9 (Or.inr (slot_ne (Or.inr (hw _ (List.mem_of_getElem? (i := 45) rfl))) (Or.inr (hw _ (List.mem_of_getElem? (i := 39) rfl))) (by decide) (t := (.array .byte)) (t' := .long) (by decide) (by decide)))).other W11 (Or.inr (slot_ne (Or.inr (hw _ (List.mem_of_getElem? (i := 45) rfl))) (Or.inr (hw _ (List.mem_of_getElem? (i := 41) rfl))) (by decide) (t := (.array .byte)) (t' := .int) (by decide) (by decide)))).other W13 (Or.inr (slot_ne (Or.inr (hw _ (List.mem_of_getElem? (i := 45) rfl))) (Or.inr (hw _ (List.mem_of_getElem? (i := 43) rfl))) (by decide) (t := (.array .byte)) (t' := .long) (by decide) (by decide))))
  have c17 := (((((((E_a.wr W2).wr W3).wr W5).wr W7).wr W9).wr W11).wr W13)
  obtain ⟨T15, hea15, X15, e15, W15, st15⟩ := putF X13 hx hZ hown (host := "") (Or.inl (hw _ (List.mem_of_getElem? (i := 44) rfl))) Via.refl e13 c16 c17 (Or.inr ⟨(hw _ (List.mem_of_getElem? (i := 45) rfl)), rfl, hnm⟩) (hw _ (List.mem_of_getElem? (i := 17) rfl)) (ty := (.array .byte)) (by decide) rfl rfl (g := (mkF m 125 #[.val (.ref a), .val (.long t), .second, .val (.int ld), .val (.long li), .second, .val (.long lt), .second, .val (.long sz), .second, .val (.int ck), .val (.long of), .second, .val (.ref d)] [(.ref d), (.ref a)])) rfl rfl (hb hby d_prog_77_method_1_125)
  have Fw15 := (c16).same W15
  have N15 := Fr.snoc X15 N13 g_a
  have K15 : Keep h0 hea15 [a] := K13.wr W15 (Or.inl (List.mem_of_getElem? (i := 0) rfl))
  refine own_by (st15) ?_
  show own_Go p.tables e below (T15.setTop (mkF m 128 #[.val (.ref a), .val (.long t), .second, .val (.int ld), .val (.long li), .second, .val (.long lt), .second, .val (.long sz), .second, .val (.int ck), .val (.long of), .second, .val (.ref d)] [])) _
  have c18 := (Fw13.other W15 (Or.inr (slot_ne (Or.inr (hw _ (List.mem_of_getElem? (i := 43) rfl))) (Or.inr (hw _ (List.mem_of_getElem? (i := 45) rfl))) (by decide) (t := .long) (t' := (.array .byte)) (by decide) (by decide))))
  have c19 := (((Fw9.other W11 (Or.inr (slot_ne (Or.inr (hw _ (List.mem_of_getElem? (i := 39) rfl))) (Or.inr (hw _ (List.mem_of_getElem? (i := 41) rfl))) (by decide) (t := .long) (t' := .int) (by decide) (by decide)))).other W13 (Or.inr (slot_ne (Or.inr (hw _ (List.mem_of_getElem? (i := 39) rfl))) (Or.inr (hw _ (List.mem_of_getElem? (i := 43) rfl))) (by decide) (t := .long) (t' := .long) (by decide) (by decide)))).other W15 (Or.inr (slot_ne (Or.inr (hw _ (List.mem_of_getElem? (i := 39) rfl))) (Or.inr (hw _ (List.mem_of_getElem? (i := 45) rfl))) (by decide) (t := .long) (t' := (.array .byte)) (by decide) (by decide))))
  exact own_retV X15 hx Bd.notSynchronized Bd.returns (hb hby d_prog_77_method_1_128) (by (try rw [e15]); exact ⟨rfl, N15, K15, c18, Fw15, c19⟩) (by decide) (by decide)
theorem d_prog_77_method_2_0 : decode prog_77_method_2_code 0 = .ok (.aload_n 0, 1) := by decide +kernel
theorem d_prog_77_method_2_1 : decode prog_77_method_2_code 1 = .ok (.getfield 38, 3) := by decide +kernel
theorem d_prog_77_method_2_4 : decode prog_77_method_2_code 4 = .ok (.aload_n 0, 1) := by decide +kernel
theorem d_prog_77_method_2_5 : decode prog_77_method_2_code 5 = .ok (.getfield 41, 3) := by decide +kernel
theorem d_prog_77_method_2_8 : decode prog_77_method_2_code 8 = .ok (.arraylength, 1) := by decide +kernel
theorem d_prog_77_method_2_9 : decode prog_77_method_2_code 9 = .ok (.i2l, 1) := by decide +kernel
theorem d_prog_77_method_2_10 : decode prog_77_method_2_code 10 = .ok (.ladd, 1) := by decide +kernel
theorem d_prog_77_method_2_11 : decode prog_77_method_2_code 11 = .ok (.aload_n 0, 1) := by decide +kernel
theorem d_prog_77_method_2_12 : decode prog_77_method_2_code 12 = .ok (.getfield 32, 3) := by decide +kernel
theorem d_prog_77_method_2_15 : decode prog_77_method_2_code 15 = .ok (.lcmp, 1) := by decide +kernel
theorem d_prog_77_method_2_16 : decode prog_77_method_2_code 16 = .ok (.ifCond .ne 7, 3) := by decide +kernel
theorem d_prog_77_method_2_19 : decode prog_77_method_2_code 19 = .ok (.iconst 1, 1) := by decide +kernel
theorem d_prog_77_method_2_20 : decode prog_77_method_2_code 20 = .ok (.goto 4, 3) := by decide +kernel
theorem d_prog_77_method_2_23 : decode prog_77_method_2_code 23 = .ok (.iconst 0, 1) := by decide +kernel
theorem d_prog_77_method_2_24 : decode prog_77_method_2_code 24 = .ok (.ireturn, 1) := by decide +kernel
theorem ef_rm_last (m : MethodId) (a : Addr) : entryFrame m #[(.ref a)] 1 = mkF m 0 #[.val (.ref a)] [] := by first | (simp [entryFrame, mkF, argsToLocals, Value.category]; done) | rfl
set_option maxRecDepth 65536 in
set_option maxHeartbeats 40000000 in
theorem rm_last (l : Launch) (Z : State) (a0 : Array Value) (hw : ∀ d ∈ tables_1, d.before a0 Z = true) (ws : List Jvm.Cond) (a : Addr) (of : Int64) (d : Addr) (sz : Int64) (N : Nat) (fd : Nat → Int32) (ln : Int32) (h0 : Heap) (n0 : Nat) (Z0 : n0 ≤ h0.size) (F_offset : Fld Z h0 a "com/example/tidemark/tidemark/model/SnapshotRequest" "offset" "J" (.long of)) (F_data : Fld Z h0 a "com/example/tidemark/tidemark/model/SnapshotRequest" "data" "[B" (.ref d)) (F_size : Fld Z h0 a "com/example/tidemark/tidemark/model/SnapshotRequest" "size" "J" (.long sz)) (A_d : own_AI Z h0 d .byte N fd) (hN : N.toInt32 = ln) :
    MetFree l (⟨"com/example/tidemark/tidemark/model/SnapshotRequest", "isLast", "()Z"⟩ : MethodName) (head1 (Jvm.Cond.code (⟨"com/example/tidemark/tidemark/model/SnapshotRequest", "isLast", "()Z"⟩ : MethodName) prog_77_method_2_code 1 (some .boolean) :: ws) ({ frames := 0, cells := 0, slots := 0, locals := 0 } : Room)) (fun zA zU => zA = #[(.ref a)] ∧ Z.Warmed39 zU.vm ∧ zU.heap = h0) (fun _ _ _ _ _ => True) (fun _ zU zo zW => ∃ zv zL, zo = .returned zv ∧ (own_QI h0 n0 (if (of + (ln.toInt64)) = sz then (1 : Int32) else (0 : Int32))) zv zW.heap zL ∧ FrameEnd zU zo zW zL ({ frames := 0, cells := 0, slots := 0, locals := 0 } : Room).cells ({ frames := 0, cells := 0, slots := 0, locals := 0 } : Room).slots) := by
  refine MetFree.of_bodySF (plainFor_of_name pn_143) hisR ?_
  intro p e s m args below meth c s₁ Bd hml0 hP hK
  obtain ⟨rfl, hZ, hh⟩ := hP
  have hx := Bd.exec
  have hby := Bd.bytes
  have hml : c.maxLocals = 1 := hml0
  have hown : s.vm.findClass "com/example/tidemark/tidemark/model/SnapshotRequest" = some m.cls := findClass_of_methodNamed Bd.named
  have hnm := (name_of_methodNamed Bd.named Bd.method).1
  have X0 : Stand p l e ({ frames := 0, cells := 0, slots := 0, locals := 0 } : Room) s m #[(.ref a)] below meth c s₁ [] 0 0 := Stand.of_body Bd
  have e0 : s₁.heap = h0 := by rw [← hh, Bd.state]; rfl
  have N0 := Fr.nil n0
  refine own_out (Q := own_QI h0 n0 (if (of + (ln.toInt64)) = sz then (1 : Int32) else (0 : Int32))) ?_
  refine own_cast (ef_rm_last m a) ?_
  show own_Go p.tables e below (s₁.setTop (mkF m 0 #[.val (.ref a)] [])) _
  refine own_by (fun zt zk => XS.aloadN X0.here hx rfl (hb hby d_prog_77_method_2_0) rfl rfl zk) ?_
  show own_Go p.tables e below (s₁.setTop (mkF m 1 #[.val (.ref a)] [(.ref a)])) _
  obtain ⟨T1, X1, e1, st1⟩ := getF X0 hx hZ hown (host := "") (Or.inl (hw _ (List.mem_of_getElem? (i := 42) rfl))) Via.refl e0 F_offset (g := (mkF m 1 #[.val (.ref a)] [(.ref a)])) rfl rfl (hb hby d_prog_77_method_2_1)
  refine own_by (st1) ?_
  show own_Go p.tables e below (T1.setTop (mkF m 4 #[.val (.ref a)] [(.long of)])) _
  refine own_by (fun zt zk => XS.aloadN X1.here hx rfl (hb hby d_prog_77_method_2_4) rfl rfl zk) ?_
  show own_Go p.tables e below (T1.setTop (mkF m 5 #[.val (.ref a)] [(.ref a), (.long of)])) _
  obtain ⟨T2, X2, e2, st2⟩ := getF X1 hx hZ hown (host := "") (Or.inl (hw _ (List.mem_of_getElem? (i := 44) rfl))) Via.refl e1 F_data (g := (mkF m 5 #[.val (.ref a)] [(.ref a), (.long of)])) rfl rfl (hb hby d_prog_77_method_2_5)
  refine own_by (st2) ?_
  show own_Go p.tables e below (T2.setTop (mkF m 8 #[.val (.ref a)] [(.ref d), (.long of)])) _
  refine own_by (own_len X2 hx hZ e2 A_d (z := ln) hN (g := (mkF m 8 #[.val (.ref a)] [(.ref d), (.long of)])) rfl rfl (hb hby d_prog_77_method_2_8)) ?_
  show own_Go p.tables e below (T2.setTop (mkF m 9 #[.val (.ref a)] [(.int ln), (.long of)])) _
  refine own_by (fun zt zk => XS.i2l X2.here hx rfl (hb hby d_prog_77_method_2_9) rfl zk) ?_
  show own_Go p.tables e below (T2.setTop (mkF m 10 #[.val (.ref a)] [(.long (ln.toInt64)), (.long of)])) _
  refine own_by (fun zt zk => XS.ladd X2.here hx rfl (hb hby d_prog_77_method_2_10) rfl zk) ?_
  show own_Go p.tables e below (T2.setTop (mkF m 11 #[.val (.ref a)] [(.long (of + (ln.toInt64)))])) _
  refine own_by (fun zt zk => XS.aloadN X2.here hx rfl (hb hby d_prog_77_method_2_11) rfl rfl zk) ?_
  show own_Go p.tables e below (T2.setTop (mkF m 12 #[.val (.ref a)] [(.ref a), (.long (of + (ln.toInt64)))])) _
  obtain ⟨T3, X3, e3, st3⟩ := getF X2 hx hZ hown (host := "") (Or.inl (hw _ (List.mem_of_getElem? (i := 38) rfl))) Via.refl e2 F_size (g := (mkF m 12 #[.val (.ref a)] [(.ref a), (.long (of + (ln.toInt64)))])) rfl rfl (hb hby d_prog_77_method_2_12)
  refine own_by (st3) ?_
  show own_Go p.tables e below (T3.setTop (mkF m 15 #[.val (.ref a)] [(.long sz), (.long (of + (ln.toInt64)))])) _
  refine own_by (fun zt zk => XS.lcmp X3.here hx rfl (hb hby d_prog_77_method_2_15) rfl zk) ?_
  show own_Go p.tables e below (T3.setTop (mkF m 16 #[.val (.ref a)] [(.int (lcmpW (of + (ln.toInt64)) sz))])) _
  obtain ⟨q, hq, sj5⟩ : ∃ (q : Int32), q = (if (of + (ln.toInt64)) = sz then (1 : Int32) else (0 : Int32)) ∧ ∀ zt, Steps p.tables e below (T3.setTop (mkF m 24 #[.val (.ref a)] [(.int q)])) zt → Steps p.tables e below (T3.setTop (mkF m 16 #[.val (.ref a)] [(.int (lcmpW (of + (ln.toInt64)) sz))])) zt := by
    by_cases j4 : (of + (ln.toInt64)) = sz
    · refine ⟨((1 : Int32)), (if_pos j4).symm, fun zt zk => ?_⟩
      show Steps p.tables e below (T3.setTop (mkF m 16 #[.val (.ref a)] [(.int (lcmpW (of + (ln.toInt64)) sz))])) _
      refine XS.ifNo X3.here hx rfl (hb hby d_prog_77_method_2_16) rfl ((if0 _ _).trans (teq ((lw_eq (of + (ln.toInt64)) sz).mpr j4)).2) ?_
      show Steps p.tables e below (T3.setTop (mkF m 19 #[.val (.ref a)] [])) _
      refine XS.iconst X3.here hx rfl (hb hby d_prog_77_method_2_19) ?_
      show Steps p.tables e below (T3.setTop (mkF m 20 #[.val (.ref a)] [(.int (1 : Int32))])) _
      refine XS.goto X3.here hx rfl (pc0 := 20) (pc' := 24) rfl (hb hby d_prog_77_method_2_20) (by decide) (by decide) ?_
      show Steps p.tables e below (T3.setTop (mkF m 24 #[.val (.ref a)] [(.int (1 : Int32))])) _
      exact zk
    · refine ⟨((0 : Int32)), (if_neg j4).symm, fun zt zk => ?_⟩
      show Steps p.tables e below (T3.setTop (mkF m 16 #[.val (.ref a)] [(.int (lcmpW (of + (ln.toInt64)) sz))])) _
      refine XS.ifYes X3.here hx rfl (pc0 := 16) (pc' := 23) rfl (hb hby d_prog_77_method_2_16) rfl ((if0 _ _).trans (feq (fun q => j4 ((lw_eq (of + (ln.toInt64)) sz).mp q))).2) (by decide) (by decide) ?_
      show Steps p.tables e below (T3.setTop (mkF m 23 #[.val (.ref a)] [])) _
      refine XS.iconst X3.here hx rfl (hb hby d_prog_77_method_2_23) ?_
      show Steps p.tables e below (T3.setTop (mkF m 24 #[.val (.ref a)] [(.int (0 : Int32))])) _
      exact zk
  refine own_by (sj5) ?_
  show own_Go p.tables e below (T3.setTop (mkF m 24 #[.val (.ref a)] [(.int q)])) _
  exact own_retN X3 hx Bd.notSynchronized (t := .boolean) Bd.returns (by simp) (own_nb (by rw [hq]; (repeat' split) <;> first | exact Or.inl rfl | exact Or.inr rfl)) (hb hby d_prog_77_method_2_24) (by (try rw [e3]); exact ⟨_, rfl, N0, rfl, hq⟩) (by decide) (by decide)
theorem pd_159 : parseMethodDescriptor "(II)I" = some ⟨[.int, .int], some .int⟩ := by decide +kernel
theorem pd_160 : parseMethodDescriptor "(JJ)J" = some ⟨[.long, .long], some .long⟩ := by decide +kernel
theorem pd_161 : parseMethodDescriptor "(II)[B" = some ⟨[.int, .int], some (.array .byte)⟩ := by decide +kernel
theorem pd_162 : parseMethodDescriptor "(JIJJJIJ[B)V" = some ⟨[.long, .int, .long, .long, .long, .int, .long, (.array .byte)], none⟩ := by decide +kernel
theorem pd_163 : parseMethodDescriptor "()Z" = some ⟨[], some .boolean⟩ := by decide +kernel
theorem ef_rm_law (m : MethodId) (size0 : Int64) (gap0 : Int64) (k : Int32) (t : Int64) : entryFrame m #[(.long size0), (.long gap0), (.int k), (.long t)] maxLocals = mkF m 0 #[.val (.long size0), .second, .val (.long gap0), .second, .val (.int k), .val (.long t), .second, .unset, .unset, .unset, .unset, .unset, .unset, .unset, .unset, .unset, .unset, .unset, .unset, .unset, .unset, .unset, .unset, .unset, .unset, .unset, .unset] [] := by first | (simp [entryFrame, mkF, argsToLocals, Value.category, maxLocals]; done) | rfl
set_option maxRecDepth 65536 in
set_option maxHeartbeats 40000000 in
theorem rm_law (l : Launch) (Z : State) (a0 : Array Value) (hw : ∀ d ∈ tables_1, d.before a0 Z = true) (ws : List Jvm.Cond) (size0 : Int64) (gap0 : Int64) (k : Int32) (t : Int64) (h0 : Heap) (n0 : Nat) (Z0 : n0 ≤ h0.size)  :
    MetFree l x (head1 (Jvm.Cond.code x code maxLocals ret :: ws) room_1) (fun zA zU => zA = #[(.long size0), (.long gap0), (.int k), (.long t)] ∧ Z.Warmed39 zU.vm ∧ zU.heap = h0) (fun _ _ _ _ _ => True) (fun _ zU zo zW => ∃ zv zL, zo = .returned zv ∧ (fun v h L => v = some (.int 1) ∧ Fr n0 L) zv zW.heap zL ∧ FrameEnd zU zo zW zL 2 11) := by
  refine MetFree.of_bodySF (plainFor_of_name pn_79) hisR ?_
  intro p e s m args below meth c s₁ Bd hml0 hP hK
  obtain ⟨rfl, hZ, hh⟩ := hP
  have hx := Bd.exec
  have hby := Bd.bytes
  have hml : c.maxLocals = 27 := hml0
  have hown : s.vm.findClass "com/example/tidemark/tidemark/model/SnapshotRequestIsLastPinLaw" = some m.cls := findClass_of_methodNamed Bd.named
  have hnm := (name_of_methodNamed Bd.named Bd.method).1
  have X0 : Stand p l e room_1 s m #[(.long size0), (.long gap0), (.int k), (.long t)] below meth c s₁ [] 0 0 := Stand.of_body Bd
  have e0 : s₁.heap = h0 := by rw [← hh, Bd.state]; rfl
  have N0 := Fr.nil n0
  refine own_out (Q := fun v h L => v = some (.int 1) ∧ Fr n0 L) ?_
  refine own_cast (ef_rm_law m size0 gap0 k t) ?_
  show own_Go p.tables e below (s₁.setTop (mkF m 0 #[.val (.long size0), .second, .val (.long gap0), .second, .val (.int k), .val (.long t), .second, .unset, .unset, .unset, .unset, .unset, .unset, .unset, .unset, .unset, .unset, .unset, .unset, .unset, .unset, .unset, .unset, .unset, .unset, .unset, .unset] [])) _
  refine own_by (fun zt zk => XS.iload X0.here hx rfl (hb hby at_0) rfl zk) ?_
  show own_Go p.tables e below (s₁.setTop (mkF m 2 #[.val (.long size0), .second, .val (.long gap0), .second, .val (.int k), .val (.long t), .second, .unset, .unset, .unset, .unset, .unset, .unset, .unset, .unset, .unset, .unset, .unset, .unset, .unset, .unset, .unset, .unset, .unset, .unset, .unset, .unset] [(.int k)])) _
  refine own_by (fun zt zk => XS.iconst X0.here hx rfl (hb hby at_2) zk) ?_
  show own_Go p.tables e below (s₁.setTop (mkF m 3 #[.val (.long size0), .second, .val (.long gap0), .second, .val (.int k), .val (.long t), .second, .unset, .unset, .unset, .unset, .unset, .unset, .unset, .unset, .unset, .unset, .unset, .unset, .unset, .unset, .unset, .unset, .unset, .unset, .unset, .unset] [(.int (3 : Int32)), (.int k)])) _
  refine own_by (fun zt zk => XS.iand X0.here hx rfl (hb hby at_3) rfl zk) ?_
  show own_Go p.tables e below (s₁.setTop (mkF m 4 #[.val (.long size0), .second, .val (.long gap0), .second, .val (.int k), .val (.long t), .second, .unset, .unset, .unset, .unset, .unset, .unset, .unset, .unset, .unset, .unset, .unset, .unset, .unset, .unset, .unset, .unset, .unset, .unset, .unset, .unset] [(.int (k &&& (3 : Int32)))])) _
  obtain ⟨ln, hln⟩ : ∃ z, z = (k &&& (3 : Int32)) := ⟨_, rfl⟩
  rw [← hln]
  show own_Go p.tables e below (s₁.setTop (mkF m 4 #[.val (.long size0), .second, .val (.long gap0), .second, .val (.int k), .val (.long t), .second, .unset, .unset, .unset, .unset, .unset, .unset, .unset, .unset, .unset, .unset, .unset, .unset, .unset, .unset, .unset, .unset, .unset, .unset, .unset, .unset] [(.int ln)])) _
  refine own_by (fun zt zk => XS.istore X0.here hx rfl (hb hby at_4) rfl (l' := #[.val (.long size0), .second, .val (.long gap0), .second, .val (.int k), .val (.long t), .second, .val (.int ln), .unset, .unset, .unset, .unset, .unset, .unset, .unset, .unset, .unset, .unset, .unset, .unset, .unset, .unset, .unset, .unset, .unset, .unset, .unset]) rfl zk) ?_
  show own_Go p.tables e below (s₁.setTop (mkF m 6 #[.val (.long size0), .second, .val (.long gap0), .second, .val (.int k), .val (.long t), .second, .val (.int ln), .unset, .unset, .unset, .unset, .unset, .unset, .unset, .unset, .unset, .unset, .unset, .unset, .unset, .unset, .unset, .unset, .unset, .unset, .unset] [])) _
  refine own_by (fun zt zk => XS.iload X0.here hx rfl (hb hby at_6) rfl zk) ?_
  show own_Go p.tables e below (s₁.setTop (mkF m 8 #[.val (.long size0), .second, .val (.long gap0), .second, .val (.int k), .val (.long t), .second, .val (.int ln), .unset, .unset, .unset, .unset, .unset, .unset, .unset, .unset, .unset, .unset, .unset, .unset, .unset, .unset, .unset, .unset, .unset, .unset, .unset] [(.int k)])) _
  refine own_by (fun zt zk => XS.iconst X0.here hx rfl (hb hby at_8) zk) ?_
  show own_Go p.tables e below (s₁.setTop (mkF m 9 #[.val (.long size0), .second, .val (.long gap0), .second, .val (.int k), .val (.long t), .second, .val (.int ln), .unset, .unset, .unset, .unset, .unset, .unset, .unset, .unset, .unset, .unset, .unset, .unset, .unset, .unset, .unset, .unset, .unset, .unset, .unset] [(.int (2 : Int32)), (.int k)])) _
  refine own_by (fun zt zk => XS.ishr X0.here hx rfl (hb hby at_9) rfl zk) ?_
  show own_Go p.tables e below (s₁.setTop (mkF m 10 #[.val (.long size0), .second, .val (.long gap0), .second, .val (.int k), .val (.long t), .second, .val (.int ln), .unset, .unset, .unset, .unset, .unset, .unset, .unset, .unset, .unset, .unset, .unset, .unset, .unset, .unset, .unset, .unset, .unset, .unset, .unset] [(.int (k >>> ((2 : Int32) &&& 31)))])) _
  refine own_by (fun zt zk => XS.iconst X0.here hx rfl (hb hby at_10) zk) ?_
  show own_Go p.tables e below (s₁.setTop (mkF m 11 #[.val (.long size0), .second, .val (.long gap0), .second, .val (.int k), .val (.long t), .second, .val (.int ln), .unset, .unset, .unset, .unset, .unset, .unset, .unset, .unset, .unset, .unset, .unset, .unset, .unset, .unset, .unset, .unset, .unset, .unset, .unset] [(.int (1 : Int32)), (.int (k >>> ((2 : Int32) &&& 31)))])) _
  refine own_by (fun zt zk => XS.iand X0.here hx rfl (hb hby at_11) rfl zk) ?_
  show own_Go p.tables e below (s₁.setTop (mkF m 12 #[.val (.long size0), .second, .val (.long gap0), .second, .val (.int k), .val (.long t), .second, .val (.int ln), .unset, .unset, .unset, .unset, .unset, .unset, .unset, .unset, .unset, .unset, .unset, .unset, .unset, .unset, .unset, .unset, .unset, .unset, .unset] [(.int ((k >>> ((2 : Int32) &&& 31)) &&& (1 : Int32)))])) _
  obtain ⟨la, hla, sj2⟩ : ∃ (la : Int32), la = (if ((k >>> ((2 : Int32) &&& 31)) &&& (1 : Int32)) = (0 : Int32) then (0 : Int32) else (1 : Int32)) ∧ ∀ zt, Steps p.tables e below (s₁.setTop (mkF m 20 #[.val (.long size0), .second, .val (.long gap0), .second, .val (.int k), .val (.long t), .second, .val (.int ln), .unset, .unset, .unset, .unset, .unset, .unset, .unset, .unset, .unset, .unset, .unset, .unset, .unset, .unset, .unset, .unset, .unset, .unset, .unset] [(.int la)])) zt → Steps p.tables e below (s₁.setTop (mkF m 12 #[.val (.long size0), .second, .val (.long gap0), .second, .val (.int k), .val (.long t), .second, .val (.int ln), .unset, .unset, .unset, .unset, .unset, .unset, .unset, .unset, .unset, .unset, .unset, .unset, .unset, .unset, .unset, .unset, .unset, .unset, .unset] [(.int ((k >>> ((2 : Int32) &&& 31)) &&& (1 : Int32)))])) zt := by
    by_cases j1 : ((k >>> ((2 : Int32) &&& 31)) &&& (1 : Int32)) = (0 : Int32)
    · refine ⟨((0 : Int32)), (if_pos j1).symm, fun zt zk => ?_⟩
      show Steps p.tables e below (s₁.setTop (mkF m 12 #[.val (.long size0), .second, .val (.long gap0), .second, .val (.int k), .val (.long t), .second, .val (.int ln), .unset, .unset, .unset, .unset, .unset, .unset, .unset, .unset, .unset, .unset, .unset, .unset, .unset, .unset, .unset, .unset, .unset, .unset, .unset] [(.int ((k >>> ((2 : Int32) &&& 31)) &&& (1 : Int32)))])) _
      refine XS.ifYes X0.here hx rfl (pc0 := 12) (pc' := 19) rfl (hb hby at_12) rfl ((if0 _ _).trans (teq j1).1) (by decide) (by decide) ?_
      show Steps p.tables e below (s₁.setTop (mkF m 19 #[.val (.long size0), .second, .val (.long gap0), .second, .val (.int k), .val (.long t), .second, .val (.int ln), .unset, .unset, .unset, .unset, .unset, .unset, .unset, .unset, .unset, .unset, .unset, .unset, .unset, .unset, .unset, .unset, .unset, .unset, .unset] [])) _
      refine XS.iconst X0.here hx rfl (hb hby at_19) ?_
      show Steps p.tables e below (s₁.setTop (mkF m 20 #[.val (.long size0), .second, .val (.long gap0), .second, .val (.int k), .val (.long t), .second, .val (.int ln), .unset, .unset, .unset, .unset, .unset, .unset, .unset, .unset, .unset, .unset, .unset, .unset, .unset, .unset, .unset, .unset, .unset, .unset, .unset] [(.int (0 : Int32))])) _
      exact zk
    · refine ⟨((1 : Int32)), (if_neg j1).symm, fun zt zk => ?_⟩
      show Steps p.tables e below (s₁.setTop (mkF m 12 #[.val (.long size0), .second, .val (.long gap0), .second, .val (.int k), .val (.long t), .second, .val (.int ln), .unset, .unset, .unset, .unset, .unset, .unset, .unset, .unset, .unset, .unset, .unset, .unset, .unset, .unset, .unset, .unset, .unset, .unset, .unset] [(.int ((k >>> ((2 : Int32) &&& 31)) &&& (1 : Int32)))])) _
      refine XS.ifNo X0.here hx rfl (hb hby at_12) rfl ((if0 _ _).trans (feq j1).1) ?_
      show Steps p.tables e below (s₁.setTop (mkF m 15 #[.val (.long size0), .second, .val (.long gap0), .second, .val (.int k), .val (.long t), .second, .val (.int ln), .unset, .unset, .unset, .unset, .unset, .unset, .unset, .unset, .unset, .unset, .unset, .unset, .unset, .unset, .unset, .unset, .unset, .unset, .unset] [])) _
      refine XS.iconst X0.here hx rfl (hb hby at_15) ?_
      show Steps p.tables e below (s₁.setTop (mkF m 16 #[.val (.long size0), .second, .val (.long gap0), .second, .val (.int k), .val (.long t), .second, .val (.int ln), .unset, .unset, .unset, .unset, .unset, .unset, .unset, .unset, .unset, .unset, .unset, .unset, .unset, .unset, .unset, .unset, .unset, .unset, .unset] [(.int (1 : Int32))])) _
      refine XS.goto X0.here hx rfl (pc0 := 16) (pc' := 20) rfl (hb hby at_16) (by decide) (by decide) ?_
      show Steps p.tables e below (s₁.setTop (mkF m 20 #[.val (.long size0), .second, .val (.long gap0), .second, .val (.int k), .val (.long t), .second, .val (.int ln), .unset, .unset, .unset, .unset, .unset, .unset, .unset, .unset, .unset, .unset, .unset, .unset, .unset, .unset, .unset, .unset, .unset, .unset, .unset] [(.int (1 : Int32))])) _
      exact zk
  refine own_by (sj2) ?_
  show own_Go p.tables e below (s₁.setTop (mkF m 20 #[.val (.long size0), .second, .val (.long gap0), .second, .val (.int k), .val (.long t), .second, .val (.int ln), .unset, .unset, .unset, .unset, .unset, .unset, .unset, .unset, .unset, .unset, .unset, .unset, .unset, .unset, .unset, .unset, .unset, .unset, .unset] [(.int la)])) _
  refine own_by (fun zt zk => XS.istore X0.here hx rfl (hb hby at_20) rfl (l' := #[.val (.long size0), .second, .val (.long gap0), .second, .val (.int k), .val (.long t), .second, .val (.int ln), .val (.int la), .unset, .unset, .unset, .unset, .unset, .unset, .unset, .unset, .unset, .unset, .unset, .unset, .unset, .unset, .unset, .unset, .unset, .unset]) rfl zk) ?_
  show own_Go p.tables e below (s₁.setTop (mkF m 22 #[.val (.long size0), .second, .val (.long gap0), .second, .val (.int k), .val (.long t), .second, .val (.int ln), .val (.int la), .unset, .unset, .unset, .unset, .unset, .unset, .unset, .unset, .unset, .unset, .unset, .unset, .unset, .unset, .unset, .unset, .unset, .unset] [])) _
  refine own_by (fun zt zk => XS.iconst X0.here hx rfl (hb hby at_22) zk) ?_
  show own_Go p.tables e below (s₁.setTop (mkF m 23 #[.val (.long size0), .second, .val (.long gap0), .second, .val (.int k), .val (.long t), .second, .val (.int ln), .val (.int la), .unset, .unset, .unset, .unset, .unset, .unset, .unset, .unset, .unset, .unset, .unset, .unset, .unset, .unset, .unset, .unset, .unset, .unset] [(.int (1 : Int32))])) _
  refine own_by (fun zt zk => XS.iload X0.here hx rfl (hb hby at_23) rfl zk) ?_
  show own_Go p.tables e below (s₁.setTop (mkF m 25 #[.val (.long size0), .second, .val (.long gap0), .second, .val (.int k), .val (.long t), .second, .val (.int ln), .val (.int la), .unset, .unset, .unset, .unset, .unset, .unset, .unset, .unset, .unset, .unset, .unset, .unset, .unset, .unset, .unset, .unset, .unset, .unset] [(.int k), (.int (1 : Int32))])) _
  refine own_by (fun zt zk => XS.iconst X0.here hx rfl (hb hby at_25) zk) ?_
  show own_Go p.tables e below (s₁.setTop (mkF m 26 #[.val (.long size0), .second, .val (.long gap0), .second, .val (.int k), .val (.long t), .second, .val (.int ln), .val (.int la), .unset, .unset, .unset, .unset, .unset, .unset, .unset, .unset, .unset, .unset, .unset, .unset, .unset, .unset, .unset, .unset, .unset, .unset] [(.int (3 : Int32)), (.int k), (.int (1 : Int32))])) _
  refine own_by (fun zt zk => XS.iushr X0.here hx rfl (hb hby at_26) rfl zk) ?_
  show own_Go p.tables e below (s₁.setTop (mkF m 27 #[.val (.long size0), .second, .val (.long gap0), .second, .val (.int k), .val (.long t), .second, .val (.int ln), .val (.int la), .unset, .unset, .unset, .unset, .unset, .unset, .unset, .unset, .unset, .unset, .unset, .unset, .unset, .unset, .unset, .unset, .unset, .unset] [(.int ((k.toUInt32 >>> ((3 : Int32) &&& 31).toUInt32).toInt32)), (.int (1 : Int32))])) _
  obtain ⟨_, _, ⟨T3, L3, k3, n3⟩, -, X3, ⟨Lc3, hQ3, l3, y3, z3⟩, st3⟩ := Jvm.LawKit.callS X0 hx (y := (⟨"java/lang/Math", "max", "(II)I"⟩ : MethodName)) hown (mvT hZ (hw _ (List.mem_of_getElem? (i := 0) rfl))) (mvT hZ (hw _ (List.mem_of_getElem? (i := 1) rfl))) (mvT hZ (hw _ (List.mem_of_getElem? (i := 2) rfl))) (mvT hZ (hw _ (List.mem_of_getElem? (i := 3) rfl))) (by decide) (backOf (W := 0) (rm_maxI l Z a0 hw [] (1 : Int32) ((k.toUInt32 >>> ((3 : Int32) &&& 31).toUInt32).toInt32)  h0 n0 (Nat.le_trans Z0 (Keep.refl h0 []).1) ) hZ (hw _ (List.mem_of_getElem? (i := 3) rfl)) (hw _ (List.mem_of_getElem? (i := 2) rfl)) (by decide) (by decide)) (g := (mkF m 27 #[.val (.long size0), .second, .val (.long gap0), .second, .val (.int k), .val (.long t), .second, .val (.int ln), .val (.int la), .unset, .unset, .unset, .unset, .unset, .unset, .unset, .unset, .unset, .unset, .unset, .unset, .unset, .unset, .unset, .unset, .unset, .unset] [(.int ((k.toUInt32 >>> ((3 : Int32) &&& 31).toUInt32).toInt32)), (.int (1 : Int32))])) rfl (by rw [hml]; rfl) (argsL := [(.int (1 : Int32)), (.int ((k.toUInt32 >>> ((3 : Int32) &&& 31).toUInt32).toInt32))]) (rest := []) (lenOf pd_159 rfl) rfl (by show 2 * 0 + _ ≤ _; exact Nat.le_of_eq rfl) (hb hby at_27) (fun _ _ => ⟨rfl, e0, (by decide : 0 + 0 ≤ _), (by decide : 0 + 0 ≤ _)⟩)
  dsimp only [Pt.U, Pt.locs, Pt.cells, Pt.slots] at X3 l3 y3 z3 st3 hQ3
  subst l3 y3 z3
  obtain ⟨ld, rfl, N3q, eh3, hld⟩ := hQ3
  have N3 := Fr.app N0 N3q
  refine own_by (st3) ?_
  show own_Go p.tables e below (T3.setTop (mkF m 30 #[.val (.long size0), .second, .val (.long gap0), .second, .val (.int k), .val (.long t), .second, .val (.int ln), .val (.int la), .unset, .unset, .unset, .unset, .unset, .unset, .unset, .unset, .unset, .unset, .unset, .unset, .unset, .unset, .unset, .unset, .unset, .unset] [(.int ld)])) _
  refine own_by (fun zt zk => XS.istore X3.here hx rfl (hb hby at_30) rfl (l' := #[.val (.long size0), .second, .val (.long gap0), .second, .val (.int k), .val (.long t), .second, .val (.int ln), .val (.int la), .val (.int ld), .unset, .unset, .unset, .unset, .unset, .unset, .unset, .unset, .unset, .unset, .unset, .unset, .unset, .unset, .unset, .unset, .unset]) rfl zk) ?_
  show own_Go p.tables e below (T3.setTop (mkF m 32 #[.val (.long size0), .second, .val (.long gap0), .second, .val (.int k), .val (.long t), .second, .val (.int ln), .val (.int la), .val (.int ld), .unset, .unset, .unset, .unset, .unset, .unset, .unset, .unset, .unset, .unset, .unset, .unset, .unset, .unset, .unset, .unset, .unset] [])) _
  refine own_by (fun zt zk => XS.lconst X3.here hx rfl (hb hby at_32) zk) ?_
  show own_Go p.tables e below (T3.setTop (mkF m 33 #[.val (.long size0), .second, .val (.long gap0), .second, .val (.int k), .val (.long t), .second, .val (.int ln), .val (.int la), .val (.int ld), .unset, .unset, .unset, .unset, .unset, .unset, .unset, .unset, .unset, .unset, .unset, .unset, .unset, .unset, .unset, .unset, .unset] [(.long (1 : Int64))])) _
  refine own_by (fun zt zk => XS.lload X3.here hx rfl (hb hby at_33) rfl zk) ?_
  show own_Go p.tables e below (T3.setTop (mkF m 35 #[.val (.long size0), .second, .val (.long gap0), .second, .val (.int k), .val (.long t), .second, .val (.int ln), .val (.int la), .val (.int ld), .unset, .unset, .unset, .unset, .unset, .unset, .unset, .unset, .unset, .unset, .unset, .unset, .unset, .unset, .unset, .unset, .unset] [(.long t), (.long (1 : Int64))])) _
  refine own_by (X3.ldc2Long hx hown (mvT hZ (hw _ (List.mem_of_getElem? (i := 4) rfl))) (g := (mkF m 35 #[.val (.long size0), .second, .val (.long gap0), .second, .val (.int k), .val (.long t), .second, .val (.int ln), .val (.int la), .val (.int ld), .unset, .unset, .unset, .unset, .unset, .unset, .unset, .unset, .unset, .unset, .unset, .unset, .unset, .unset, .unset, .unset, .unset] [(.long t), (.long (1 : Int64))])) rfl (hb hby at_35)) ?_
  show own_Go p.tables e below (T3.setTop (mkF m 38 #[.val (.long size0), .second, .val (.long gap0), .second, .val (.int k), .val (.long t), .second, .val (.int ln), .val (.int la), .val (.int ld), .unset, .unset, .unset, .unset, .unset, .unset, .unset, .unset, .unset, .unset, .unset, .unset, .unset, .unset, .unset, .unset, .unset] [(.long (9223372036854775807 : Int64)), (.long t), (.long (1 : Int64))])) _
  refine own_by (fun zt zk => XS.land X3.here hx rfl (hb hby at_38) rfl zk) ?_
  show own_Go p.tables e below (T3.setTop (mkF m 39 #[.val (.long size0), .second, .val (.long gap0), .second, .val (.int k), .val (.long t), .second, .val (.int ln), .val (.int la), .val (.int ld), .unset, .unset, .unset, .unset, .unset, .unset, .unset, .unset, .unset, .unset, .unset, .unset, .unset, .unset, .unset, .unset, .unset] [(.long (t &&& (9223372036854775807 : Int64))), (.long (1 : Int64))])) _
  obtain ⟨_, _, ⟨T4, L4, k4, n4⟩, -, X4, ⟨Lc4, hQ4, l4, y4, z4⟩, st4⟩ := Jvm.LawKit.callS X3 hx (y := (⟨"java/lang/Math", "max", "(JJ)J"⟩ : MethodName)) hown (mvT hZ (hw _ (List.mem_of_getElem? (i := 5) rfl))) (mvT hZ (hw _ (List.mem_of_getElem? (i := 6) rfl))) (mvT hZ (hw _ (List.mem_of_getElem? (i := 2) rfl))) (mvT hZ (hw _ (List.mem_of_getElem? (i := 7) rfl))) (by decide) (backOf (W := 0) (rm_maxJ l Z a0 hw [] (1 : Int64) (t &&& (9223372036854775807 : Int64))  h0 n0 (Nat.le_trans Z0 (Keep.refl h0 []).1) ) hZ (hw _ (List.mem_of_getElem? (i := 7) rfl)) (hw _ (List.mem_of_getElem? (i := 2) rfl)) (by decide) (by decide)) (g := (mkF m 39 #[.val (.long size0), .second, .val (.long gap0), .second, .val (.int k), .val (.long t), .second, .val (.int ln), .val (.int la), .val (.int ld), .unset, .unset, .unset, .unset, .unset, .unset, .unset, .unset, .unset, .unset, .unset, .unset, .unset, .unset, .unset, .unset, .unset] [(.long (t &&& (9223372036854775807 : Int64))), (.long (1 : Int64))])) rfl (by rw [hml]; rfl) (argsL := [(.long (1 : Int64)), (.long (t &&& (9223372036854775807 : Int64)))]) (rest := []) (lenOf pd_160 rfl) rfl (by show 2 * 0 + _ ≤ _; exact Nat.le_of_eq rfl) (hb hby at_39) (fun _ _ => ⟨rfl, eh3, (by decide : 0 + 0 ≤ _), (by decide : 0 + 0 ≤ _)⟩)
  dsimp only [Pt.U, Pt.locs, Pt.cells, Pt.slots] at X4 l4 y4 z4 st4 hQ4
  subst l4 y4 z4
  obtain ⟨tm, rfl, N4q, eh4, htm⟩ := hQ4
  have N4 := Fr.app N3 N4q
  refine own_by (st4) ?_
  show own_Go p.tables e below (T4.setTop (mkF m 42 #[.val (.long size0), .second, .val (.long gap0), .second, .val (.int k), .val (.long t), .second, .val (.int ln), .val (.int la), .val (.int ld), .unset, .unset, .unset, .unset, .unset, .unset, .unset, .unset, .unset, .unset, .unset, .unset, .unset, .unset, .unset, .unset, .unset] [(.long tm)])) _
  refine own_by (fun zt zk => XS.lstore X4.here hx rfl (hb hby at_42) rfl (l' := #[.val (.long size0), .second, .val (.long gap0), .second, .val (.int k), .val (.long t), .second, .val (.int ln), .val (.int la), .val (.int ld), .val (.long tm), .second, .unset, .unset, .unset, .unset, .unset, .unset, .unset, .unset, .unset, .unset, .unset, .unset, .unset, .unset, .unset]) rfl zk) ?_
  show own_Go p.tables e below (T4.setTop (mkF m 44 #[.val (.long size0), .second, .val (.long gap0), .second, .val (.int k), .val (.long t), .second, .val (.int ln), .val (.int la), .val (.int ld), .val (.long tm), .second, .unset, .unset, .unset, .unset, .unset, .unset, .unset, .unset, .unset, .unset, .unset, .unset, .unset, .unset, .unset] [])) _
  refine own_by (fun zt zk => XS.lconst X4.here hx rfl (hb hby at_44) zk) ?_
  show own_Go p.tables e below (T4.setTop (mkF m 45 #[.val (.long size0), .second, .val (.long gap0), .second, .val (.int k), .val (.long t), .second, .val (.int ln), .val (.int la), .val (.int ld), .val (.long tm), .second, .unset, .unset, .unset, .unset, .unset, .unset, .unset, .unset, .unset, .unset, .unset, .unset, .unset, .unset, .unset] [(.long (1 : Int64))])) _
  refine own_by (fun zt zk => XS.lload X4.here hx rfl (hb hby at_45) rfl zk) ?_
  show own_Go p.tables e below (T4.setTop (mkF m 47 #[.val (.long size0), .second, .val (.long gap0), .second, .val (.int k), .val (.long t), .second, .val (.int ln), .val (.int la), .val (.int ld), .val (.long tm), .second, .unset, .unset, .unset, .unset, .unset, .unset, .unset, .unset, .unset, .unset, .unset, .unset, .unset, .unset, .unset] [(.long t), (.long (1 : Int64))])) _
  refine own_by (fun zt zk => XS.iconst X4.here hx rfl (hb hby at_47) zk) ?_
  show own_Go p.tables e below (T4.setTop (mkF m 48 #[.val (.long size0), .second, .val (.long gap0), .second, .val (.int k), .val (.long t), .second, .val (.int ln), .val (.int la), .val (.int ld), .val (.long tm), .second, .unset, .unset, .unset, .unset, .unset, .unset, .unset, .unset, .unset, .unset, .unset, .unset, .unset, .unset, .unset] [(.int (1 : Int32)), (.long t), (.long (1 : Int64))])) _
  refine own_by (fun zt zk => XS.lushr X4.here hx rfl (hb hby at_48) rfl zk) ?_
  show own_Go p.tables e below (T4.setTop (mkF m 49 #[.val (.long size0), .second, .val (.long gap0), .second, .val (.int k), .val (.long t), .second, .val (.int ln), .val (.int la), .val (.int ld), .val (.long tm), .second, .unset, .unset, .unset, .unset, .unset, .unset, .unset, .unset, .unset, .unset, .unset, .unset, .unset, .unset, .unset] [(.long ((t.toUInt64 >>> ((1 : Int32) &&& 0x3f).toInt64.toUInt64).toInt64)), (.long (1 : Int64))])) _
  obtain ⟨_, _, ⟨T5, L5, k5, n5⟩, -, X5, ⟨Lc5, hQ5, l5, y5, z5⟩, st5⟩ := Jvm.LawKit.callS X4 hx (y := (⟨"java/lang/Math", "max", "(JJ)J"⟩ : MethodName)) hown (mvT hZ (hw _ (List.mem_of_getElem? (i := 5) rfl))) (mvT hZ (hw _ (List.mem_of_getElem? (i := 6) rfl))) (mvT hZ (hw _ (List.mem_of_getElem? (i := 2) rfl))) (mvT hZ (hw _ (List.mem_of_getElem? (i := 7) rfl))) (by decide) (backOf (W := 0) (rm_maxJ l Z a0 hw [] (1 : Int64) ((t.toUInt64 >>> ((1 : Int32) &&& 0x3f).toInt64.toUInt64).toInt64)  h0 n0 (Nat.le_trans Z0 (Keep.refl h0 []).1) ) hZ (hw _ (List.mem_of_getElem? (i := 7) rfl)) (hw _ (List.mem_of_getElem? (i := 2) rfl)) (by decide) (by decide)) (g := (mkF m 49 #[.val (.long size0), .second, .val (.long gap0), .second, .val (.int k), .val (.long t), .second, .val (.int ln), .val (.int la), .val (.int ld), .val (.long tm), .second, .unset, .unset, .unset, .unset, .unset, .unset, .unset, .unset, .unset, .unset, .unset, .unset, .unset, .unset, .unset] [(.long ((t.toUInt64 >>> ((1 : Int32) &&& 0x3f).toInt64.toUInt64).toInt64)), (.long (1 : Int64))])) rfl (by rw [hml]; rfl) (argsL := [(.long (1 : Int64)), (.long ((t.toUInt64 >>> ((1 : Int32) &&& 0x3f).toInt64.toUInt64).toInt64))]) (rest := []) (lenOf pd_160 rfl) rfl (by show 2 * 0 + _ ≤ _; exact Nat.le_of_eq rfl) (hb hby at_49) (fun _ _ => ⟨rfl, eh4, (by decide : 0 + 0 ≤ _), (by decide : 0 + 0 ≤ _)⟩)
  dsimp only [Pt.U, Pt.locs, Pt.cells, Pt.slots] at X5 l5 y5 z5 st5 hQ5
  subst l5 y5 z5
  obtain ⟨li, rfl, N5q, eh5, hli⟩ := hQ5
  have N5 := Fr.app N4 N5q
  refine own_by (st5) ?_
  show own_Go p.tables e below (T5.setTop (mkF m 52 #[.val (.long size0), .second, .val (.long gap0), .second, .val (.int k), .val (.long t), .second, .val (.int ln), .val (.int la), .val (.int ld), .val (.long tm), .second, .unset, .unset, .unset, .unset, .unset, .unset, .unset, .unset, .unset, .unset, .unset, .unset, .unset, .unset, .unset] [(.long li)])) _
  refine own_by (fun zt zk => XS.lstore X5.here hx rfl (hb hby at_52) rfl (l' := #[.val (.long size0), .second, .val (.long gap0), .second, .val (.int k), .val (.long t), .second, .val (.int ln), .val (.int la), .val (.int ld), .val (.long tm), .second, .val (.long li), .second, .unset, .unset, .unset, .unset, .unset, .unset, .unset, .unset, .unset, .unset, .unset, .unset, .unset]) rfl zk) ?_
  show own_Go p.tables e below (T5.setTop (mkF m 54 #[.val (.long size0), .second, .val (.long gap0), .second, .val (.int k), .val (.long t), .second, .val (.int ln), .val (.int la), .val (.int ld), .val (.long tm), .second, .val (.long li), .second, .unset, .unset, .unset, .unset, .unset, .unset, .unset, .unset, .unset, .unset, .unset, .unset, .unset] [])) _
  refine own_by (fun zt zk => XS.lload X5.here hx rfl (hb hby at_54) rfl zk) ?_
  show own_Go p.tables e below (T5.setTop (mkF m 56 #[.val (.long size0), .second, .val (.long gap0), .second, .val (.int k), .val (.long t), .second, .val (.int ln), .val (.int la), .val (.int ld), .val (.long tm), .second, .val (.long li), .second, .unset, .unset, .unset, .unset, .unset, .unset, .unset, .unset, .unset, .unset, .unset, .unset, .unset] [(.long tm)])) _
  refine own_by (fun zt zk => XS.lstore X5.here hx rfl (hb hby at_56) rfl (l' := #[.val (.long size0), .second, .val (.long gap0), .second, .val (.int k), .val (.long t), .second, .val (.int ln), .val (.int la), .val (.int ld), .val (.long tm), .second, .val (.long li), .second, .val (.long tm), .second, .unset, .unset, .unset, .unset, .unset, .unset, .unset, .unset, .unset, .unset, .unset]) rfl zk) ?_
  show own_Go p.tables e below (T5.setTop (mkF m 58 #[.val (.long size0), .second, .val (.long gap0), .second, .val (.int k), .val (.long t), .second, .val (.int ln), .val (.int la), .val (.int ld), .val (.long tm), .second, .val (.long li), .second, .val (.long tm), .second, .unset, .unset, .unset, .unset, .unset, .unset, .unset, .unset, .unset, .unset, .unset] [])) _
  refine own_by (fun zt zk => XS.lloadN X5.here hx rfl (hb hby at_58) rfl zk) ?_
  show own_Go p.tables e below (T5.setTop (mkF m 59 #[.val (.long size0), .second, .val (.long gap0), .second, .val (.int k), .val (.long t), .second, .val (.int ln), .val (.int la), .val (.int ld), .val (.long tm), .second, .val (.long li), .second, .val (.long tm), .second, .unset, .unset, .unset, .unset, .unset, .unset, .unset, .unset, .unset, .unset, .unset] [(.long size0)])) _
  refine own_by (X5.ldc2Long hx hown (mvT hZ (hw _ (List.mem_of_getElem? (i := 4) rfl))) (g := (mkF m 59 #[.val (.long size0), .second, .val (.long gap0), .second, .val (.int k), .val (.long t), .second, .val (.int ln), .val (.int la), .val (.int ld), .val (.long tm), .second, .val (.long li), .second, .val (.long tm), .second, .unset, .unset, .unset, .unset, .unset, .unset, .unset, .unset, .unset, .unset, .unset] [(.long size0)])) rfl (hb hby at_59)) ?_
  show own_Go p.tables e below (T5.setTop (mkF m 62 #[.val (.long size0), .second, .val (.long gap0), .second, .val (.int k), .val (.long t), .second, .val (.int ln), .val (.int la), .val (.int ld), .val (.long tm), .second, .val (.long li), .second, .val (.long tm), .second, .unset, .unset, .unset, .unset, .unset, .unset, .unset, .unset, .unset, .unset, .unset] [(.long (9223372036854775807 : Int64)), (.long size0)])) _
  refine own_by (fun zt zk => XS.land X5.here hx rfl (hb hby at_62) rfl zk) ?_
  show own_Go p.tables e below (T5.setTop (mkF m 63 #[.val (.long size0), .second, .val (.long gap0), .second, .val (.int k), .val (.long t), .second, .val (.int ln), .val (.int la), .val (.int ld), .val (.long tm), .second, .val (.long li), .second, .val (.long tm), .second, .unset, .unset, .unset, .unset, .unset, .unset, .unset, .unset, .unset, .unset, .unset] [(.long (size0 &&& (9223372036854775807 : Int64)))])) _
  refine own_by (fun zt zk => XS.iload X5.here hx rfl (hb hby at_63) rfl zk) ?_
  show own_Go p.tables e below (T5.setTop (mkF m 65 #[.val (.long size0), .second, .val (.long gap0), .second, .val (.int k), .val (.long t), .second, .val (.int ln), .val (.int la), .val (.int ld), .val (.long tm), .second, .val (.long li), .second, .val (.long tm), .second, .unset, .unset, .unset, .unset, .unset, .unset, .unset, .unset, .unset, .unset, .unset] [(.int ln), (.long (size0 &&& (9223372036854775807 : Int64)))])) _
  refine own_by (fun zt zk => XS.i2l X5.here hx rfl (hb hby at_65) rfl zk) ?_
  show own_Go p.tables e below (T5.setTop (mkF m 66 #[.val (.long size0), .second, .val (.long gap0), .second, .val (.int k), .val (.long t), .second, .val (.int ln), .val (.int la), .val (.int ld), .val (.long tm), .second, .val (.long li), .second, .val (.long tm), .second, .unset, .unset, .unset, .unset, .unset, .unset, .unset, .unset, .unset, .unset, .unset] [(.long (ln.toInt64)), (.long (size0 &&& (9223372036854775807 : Int64)))])) _
  obtain ⟨_, _, ⟨T6, L6, k6, n6⟩, -, X6, ⟨Lc6, hQ6, l6, y6, z6⟩, st6⟩ := Jvm.LawKit.callS X5 hx (y := (⟨"java/lang/Math", "max", "(JJ)J"⟩ : MethodName)) hown (mvT hZ (hw _ (List.mem_of_getElem? (i := 5) rfl))) (mvT hZ (hw _ (List.mem_of_getElem? (i := 6) rfl))) (mvT hZ (hw _ (List.mem_of_getElem? (i := 2) rfl))) (mvT hZ (hw _ (List.mem_of_getElem? (i := 7) rfl))) (by decide) (backOf (W := 0) (rm_maxJ l Z a0 hw [] (size0 &&& (9223372036854775807 : Int64)) (ln.toInt64)  h0 n0 (Nat.le_trans Z0 (Keep.refl h0 []).1) ) hZ (hw _ (List.mem_of_getElem? (i := 7) rfl)) (hw _ (List.mem_of_getElem? (i := 2) rfl)) (by decide) (by decide)) (g := (mkF m 66 #[.val (.long size0), .second, .val (.long gap0), .second, .val (.int k), .val (.long t), .second, .val (.int ln), .val (.int la), .val (.int ld), .val (.long tm), .second, .val (.long li), .second, .val (.long tm), .second, .unset, .unset, .unset, .unset, .unset, .unset, .unset, .unset, .unset, .unset, .unset] [(.long (ln.toInt64)), (.long (size0 &&& (9223372036854775807 : Int64)))])) rfl (by rw [hml]; rfl) (argsL := [(.long (size0 &&& (9223372036854775807 : Int64))), (.long (ln.toInt64))]) (rest := []) (lenOf pd_160 rfl) rfl (by show 2 * 0 + _ ≤ _; exact Nat.le_of_eq rfl) (hb hby at_66) (fun _ _ => ⟨rfl, eh5, (by decide : 0 + 0 ≤ _), (by decide : 0 + 0 ≤ _)⟩)
  dsimp only [Pt.U, Pt.locs, Pt.cells, Pt.slots] at X6 l6 y6 z6 st6 hQ6
  subst l6 y6 z6
  obtain ⟨sz, rfl, N6q, eh6, hsz⟩ := hQ6
  have N6 := Fr.app N5 N6q
  refine own_by (st6) ?_
  show own_Go p.tables e below (T6.setTop (mkF m 69 #[.val (.long size0), .second, .val (.long gap0), .second, .val (.int k), .val (.long t), .second, .val (.int ln), .val (.int la), .val (.int ld), .val (.long tm), .second, .val (.long li), .second, .val (.long tm), .second, .unset, .unset, .unset, .unset, .unset, .unset, .unset, .unset, .unset, .unset, .unset] [(.long sz)])) _
  refine own_by (fun zt zk => XS.lstore X6.here hx rfl (hb hby at_69) rfl (l' := #[.val (.long size0), .second, .val (.long gap0), .second, .val (.int k), .val (.long t), .second, .val (.int ln), .val (.int la), .val (.int ld), .val (.long tm), .second, .val (.long li), .second, .val (.long tm), .second, .val (.long sz), .second, .unset, .unset, .unset, .unset, .unset, .unset, .unset, .unset, .unset]) rfl zk) ?_
  show own_Go p.tables e below (T6.setTop (mkF m 71 #[.val (.long size0), .second, .val (.long gap0), .second, .val (.int k), .val (.long t), .second, .val (.int ln), .val (.int la), .val (.int ld), .val (.long tm), .second, .val (.long li), .second, .val (.long tm), .second, .val (.long sz), .second, .unset, .unset, .unset, .unset, .unset, .unset, .unset, .unset, .unset] [])) _
  refine own_by (fun zt zk => XS.lload X6.here hx rfl (hb hby at_71) rfl zk) ?_
  show own_Go p.tables e below (T6.setTop (mkF m 73 #[.val (.long size0), .second, .val (.long gap0), .second, .val (.int k), .val (.long t), .second, .val (.int ln), .val (.int la), .val (.int ld), .val (.long tm), .second, .val (.long li), .second, .val (.long tm), .second, .val (.long sz), .second, .unset, .unset, .unset, .unset, .unset, .unset, .unset, .unset, .unset] [(.long sz)])) _
  refine own_by (fun zt zk => XS.iload X6.here hx rfl (hb hby at_73) rfl zk) ?_
  show own_Go p.tables e below (T6.setTop (mkF m 75 #[.val (.long size0), .second, .val (.long gap0), .second, .val (.int k), .val (.long t), .second, .val (.int ln), .val (.int la), .val (.int ld), .val (.long tm), .second, .val (.long li), .second, .val (.long tm), .second, .val (.long sz), .second, .unset, .unset, .unset, .unset, .unset, .unset, .unset, .unset, .unset] [(.int ln), (.long sz)])) _
  refine own_by (fun zt zk => XS.i2l X6.here hx rfl (hb hby at_75) rfl zk) ?_
  show own_Go p.tables e below (T6.setTop (mkF m 76 #[.val (.long size0), .second, .val (.long gap0), .second, .val (.int k), .val (.long t), .second, .val (.int ln), .val (.int la), .val (.int ld), .val (.long tm), .second, .val (.long li), .second, .val (.long tm), .second, .val (.long sz), .second, .unset, .unset, .unset, .unset, .unset, .unset, .unset, .unset, .unset] [(.long (ln.toInt64)), (.long sz)])) _
  refine own_by (fun zt zk => XS.lsub X6.here hx rfl (hb hby at_76) rfl zk) ?_
  show own_Go p.tables e below (T6.setTop (mkF m 77 #[.val (.long size0), .second, .val (.long gap0), .second, .val (.int k), .val (.long t), .second, .val (.int ln), .val (.int la), .val (.int ld), .val (.long tm), .second, .val (.long li), .second, .val (.long tm), .second, .val (.long sz), .second, .unset, .unset, .unset, .unset, .unset, .unset, .unset, .unset, .unset] [(.long (sz - (ln.toInt64)))])) _
  obtain ⟨rm, hrm⟩ : ∃ z, z = (sz - (ln.toInt64)) := ⟨_, rfl⟩
  rw [← hrm]
  show own_Go p.tables e below (T6.setTop (mkF m 77 #[.val (.long size0), .second, .val (.long gap0), .second, .val (.int k), .val (.long t), .second, .val (.int ln), .val (.int la), .val (.int ld), .val (.long tm), .second, .val (.long li), .second, .val (.long tm), .second, .val (.long sz), .second, .unset, .unset, .unset, .unset, .unset, .unset, .unset, .unset, .unset] [(.long rm)])) _
  refine own_by (fun zt zk => XS.lstore X6.here hx rfl (hb hby at_77) rfl (l' := #[.val (.long size0), .second, .val (.long gap0), .second, .val (.int k), .val (.long t), .second, .val (.int ln), .val (.int la), .val (.int ld), .val (.long tm), .second, .val (.long li), .second, .val (.long tm), .second, .val (.long sz), .second, .val (.long rm), .second, .unset, .unset, .unset, .unset, .unset, .unset, .unset]) rfl zk) ?_
  show own_Go p.tables e below (T6.setTop (mkF m 79 #[.val (.long size0), .second, .val (.long gap0), .second, .val (.int k), .val (.long t), .second, .val (.int ln), .val (.int la), .val (.int ld), .val (.long tm), .second, .val (.long li), .second, .val (.long tm), .second, .val (.long sz), .second, .val (.long rm), .second, .unset, .unset, .unset, .unset, .unset, .unset, .unset] [])) _
  refine own_by (fun zt zk => XS.lloadN X6.here hx rfl (hb hby at_79) rfl zk) ?_
  show own_Go p.tables e below (T6.setTop (mkF m 80 #[.val (.long size0), .second, .val (.long gap0), .second, .val (.int k), .val (.long t), .second, .val (.int ln), .val (.int la), .val (.int ld), .val (.long tm), .second, .val (.long li), .second, .val (.long tm), .second, .val (.long sz), .second, .val (.long rm), .second, .unset, .unset, .unset, .unset, .unset, .unset, .unset] [(.long gap0)])) _
  refine own_by (X6.ldc2Long hx hown (mvT hZ (hw _ (List.mem_of_getElem? (i := 4) rfl))) (g := (mkF m 80 #[.val (.long size0), .second, .val (.long gap0), .second, .val (.int k), .val (.long t), .second, .val (.int ln), .val (.int la), .val (.int ld), .val (.long tm), .second, .val (.long li), .second, .val (.long tm), .second, .val (.long sz), .second, .val (.long rm), .second, .unset, .unset, .unset, .unset, .unset, .unset, .unset] [(.long gap0)])) rfl (hb hby at_80)) ?_
  show own_Go p.tables e below (T6.setTop (mkF m 83 #[.val (.long size0), .second, .val (.long gap0), .second, .val (.int k), .val (.long t), .second, .val (.int ln), .val (.int la), .val (.int ld), .val (.long tm), .second, .val (.long li), .second, .val (.long tm), .second, .val (.long sz), .second, .val (.long rm), .second, .unset, .unset, .unset, .unset, .unset, .unset, .unset] [(.long (9223372036854775807 : Int64)), (.long gap0)])) _
  refine own_by (fun zt zk => XS.land X6.here hx rfl (hb hby at_83) rfl zk) ?_
  show own_Go p.tables e below (T6.setTop (mkF m 84 #[.val (.long size0), .second, .val (.long gap0), .second, .val (.int k), .val (.long t), .second, .val (.int ln), .val (.int la), .val (.int ld), .val (.long tm), .second, .val (.long li), .second, .val (.long tm), .second, .val (.long sz), .second, .val (.long rm), .second, .unset, .unset, .unset, .unset, .unset, .unset, .unset] [(.long (gap0 &&& (9223372036854775807 : Int64)))])) _
  refine own_by (fun zt zk => XS.lload X6.here hx rfl (hb hby at_84) rfl zk) ?_
  show own_Go p.tables e below (T6.setTop (mkF m 86 #[.val (.long size0), .second, .val (.long gap0), .second, .val (.int k), .val (.long t), .second, .val (.int ln), .val (.int la), .val (.int ld), .val (.long tm), .second, .val (.long li), .second, .val (.long tm), .second, .val (.long sz), .second, .val (.long rm), .second, .unset, .unset, .unset, .unset, .unset, .unset, .unset] [(.long rm), (.long (gap0 &&& (9223372036854775807 : Int64)))])) _
  obtain ⟨_, _, ⟨T7, L7, k7, n7⟩, -, X7, ⟨Lc7, hQ7, l7, y7, z7⟩, st7⟩ := Jvm.LawKit.callS X6 hx (y := (⟨"java/lang/Math", "min", "(JJ)J"⟩ : MethodName)) hown (mvT hZ (hw _ (List.mem_of_getElem? (i := 8) rfl))) (mvT hZ (hw _ (List.mem_of_getElem? (i := 9) rfl))) (mvT hZ (hw _ (List.mem_of_getElem? (i := 2) rfl))) (mvT hZ (hw _ (List.mem_of_getElem? (i := 10) rfl))) (by decide) (backOf (W := 0) (rm_minJ l Z a0 hw [] (gap0 &&& (9223372036854775807 : Int64)) rm  h0 n0 (Nat.le_trans Z0 (Keep.refl h0 []).1) ) hZ (hw _ (List.mem_of_getElem? (i := 10) rfl)) (hw _ (List.mem_of_getElem? (i := 2) rfl)) (by decide) (by decide)) (g := (mkF m 86 #[.val (.long size0), .second, .val (.long gap0), .second, .val (.int k), .val (.long t), .second, .val (.int ln), .val (.int la), .val (.int ld), .val (.long tm), .second, .val (.long li), .second, .val (.long tm), .second, .val (.long sz), .second, .val (.long rm), .second, .unset, .unset, .unset, .unset, .unset, .unset, .unset] [(.long rm), (.long (gap0 &&& (9223372036854775807 : Int64)))])) rfl (by rw [hml]; rfl) (argsL := [(.long (gap0 &&& (9223372036854775807 : Int64))), (.long rm)]) (rest := []) (lenOf pd_160 rfl) rfl (by show 2 * 0 + _ ≤ _; exact Nat.le_of_eq rfl) (hb hby at_86) (fun _ _ => ⟨rfl, eh6, (by decide : 0 + 0 ≤ _), (by decide : 0 + 0 ≤ _)⟩)
  dsimp only [Pt.U, Pt.locs, Pt.cells, Pt.slots] at X7 l7 y7 z7 st7 hQ7
  subst l7 y7 z7
  obtain ⟨g0, rfl, N7q, eh7, hg0⟩ := hQ7
  have N7 := Fr.app N6 N7q
  refine own_by (st7) ?_
  show own_Go p.tables e below (T7.setTop (mkF m 89 #[.val (.long size0), .second, .val (.long gap0), .second, .val (.int k), .val (.long t), .second, .val (.int ln), .val (.int la), .val (.int ld), .val (.long tm), .second, .val (.long li), .second, .val (.long tm), .second, .val (.long sz), .second, .val (.long rm), .second, .unset, .unset, .unset, .unset, .unset, .unset, .unset] [(.long g0)])) _
  refine own_by (fun zt zk => XS.lstore X7.here hx rfl (hb hby at_89) rfl (l' := #[.val (.long size0), .second, .val (.long gap0), .second, .val (.int k), .val (.long t), .second, .val (.int ln), .val (.int la), .val (.int ld), .val (.long tm), .second, .val (.long li), .second, .val (.long tm), .second, .val (.long sz), .second, .val (.long rm), .second, .val (.long g0), .second, .unset, .unset, .unset, .unset, .unset]) rfl zk) ?_
  show own_Go p.tables e below (T7.setTop (mkF m 91 #[.val (.long size0), .second, .val (.long gap0), .second, .val (.int k), .val (.long t), .second, .val (.int ln), .val (.int la), .val (.int ld), .val (.long tm), .second, .val (.long li), .second, .val (.long tm), .second, .val (.long sz), .second, .val (.long rm), .second, .val (.long g0), .second, .unset, .unset, .unset, .unset, .unset] [])) _
  refine own_by (fun zt zk => XS.iload X7.here hx rfl (hb hby at_91) rfl zk) ?_
  show own_Go p.tables e below (T7.setTop (mkF m 93 #[.val (.long size0), .second, .val (.long gap0), .second, .val (.int k), .val (.long t), .second, .val (.int ln), .val (.int la), .val (.int ld), .val (.long tm), .second, .val (.long li), .second, .val (.long tm), .second, .val (.long sz), .second, .val (.long rm), .second, .val (.long g0), .second, .unset, .unset, .unset, .unset, .unset] [(.int la)])) _
  obtain ⟨gp, hgp, sj9⟩ : ∃ (gp : Int64), gp = (if la = (0 : Int32) then g0 else (0 : Int64)) ∧ ∀ zt, Steps p.tables e below (T7.setTop (mkF m 99 #[.val (.long size0), .second, .val (.long gap0), .second, .val (.int k), .val (.long t), .second, .val (.int ln), .val (.int la), .val (.int ld), .val (.long tm), .second, .val (.long li), .second, .val (.long tm), .second, .val (.long sz), .second, .val (.long rm), .second, .val (.long gp), .second, .unset, .unset, .unset, .unset, .unset] [])) zt → Steps p.tables e below (T7.setTop (mkF m 93 #[.val (.long size0), .second, .val (.long gap0), .second, .val (.int k), .val (.long t), .second, .val (.int ln), .val (.int la), .val (.int ld), .val (.long tm), .second, .val (.long li), .second, .val (.long tm), .second, .val (.long sz), .second, .val (.long rm), .second, .val (.long g0), .second, .unset, .unset, .unset, .unset, .unset] [(.int la)])) zt := by
    by_cases j8 : la = (0 : Int32)
    · refine ⟨(g0), (if_pos j8).symm, fun zt zk => ?_⟩
      show Steps p.tables e below (T7.setTop (mkF m 93 #[.val (.long size0), .second, .val (.long gap0), .second, .val (.int k), .val (.long t), .second, .val (.int ln), .val (.int la), .val (.int ld), .val (.long tm), .second, .val (.long li), .second, .val (.long tm), .second, .val (.long sz), .second, .val (.long rm), .second, .val (.long g0), .second, .unset, .unset, .unset, .unset, .unset] [(.int la)])) _
      refine XS.ifYes X7.here hx rfl (pc0 := 93) (pc' := 99) rfl (hb hby at_93) rfl ((if0 _ _).trans (teq j8).1) (by decide) (by decide) ?_
      show Steps p.tables e below (T7.setTop (mkF m 99 #[.val (.long size0), .second, .val (.long gap0), .second, .val (.int k), .val (.long t), .second, .val (.int ln), .val (.int la), .val (.int ld), .val (.long tm), .second, .val (.long li), .second, .val (.long tm), .second, .val (.long sz), .second, .val (.long rm), .second, .val (.long g0), .second, .unset, .unset, .unset, .unset, .unset] [])) _
      exact zk
    · refine ⟨((0 : Int64)), (if_neg j8).symm, fun zt zk => ?_⟩
      show Steps p.tables e below (T7.setTop (mkF m 93 #[.val (.long size0), .second, .val (.long gap0), .second, .val (.int k), .val (.long t), .second, .val (.int ln), .val (.int la), .val (.int ld), .val (.long tm), .second, .val (.long li), .second, .val (.long tm), .second, .val (.long sz), .second, .val (.long rm), .second, .val (.long g0), .second, .unset, .unset, .unset, .unset, .unset] [(.int la)])) _
      refine XS.ifNo X7.here hx rfl (hb hby at_93) rfl ((if0 _ _).trans (feq j8).1) ?_
      show Steps p.tables e below (T7.setTop (mkF m 96 #[.val (.long size0), .second, .val (.long gap0), .second, .val (.int k), .val (.long t), .second, .val (.int ln), .val (.int la), .val (.int ld), .val (.long tm), .second, .val (.long li), .second, .val (.long tm), .second, .val (.long sz), .second, .val (.long rm), .second, .val (.long g0), .second, .unset, .unset, .unset, .unset, .unset] [])) _
      refine XS.lconst X7.here hx rfl (hb hby at_96) ?_
      show Steps p.tables e below (T7.setTop (mkF m 97 #[.val (.long size0), .second, .val (.long gap0), .second, .val (.int k), .val (.long t), .second, .val (.int ln), .val (.int la), .val (.int ld), .val (.long tm), .second, .val (.long li), .second, .val (.long tm), .second, .val (.long sz), .second, .val (.long rm), .second, .val (.long g0), .second, .unset, .unset, .unset, .unset, .unset] [(.long (0 : Int64))])) _
      refine XS.lstore X7.here hx rfl (hb hby at_97) rfl (l' := #[.val (.long size0), .second, .val (.long gap0), .second, .val (.int k), .val (.long t), .second, .val (.int ln), .val (.int la), .val (.int ld), .val (.long tm), .second, .val (.long li), .second, .val (.long tm), .second, .val (.long sz), .second, .val (.long rm), .second, .val (.long (0 : Int64)), .second, .unset, .unset, .unset, .unset, .unset]) rfl ?_
      show Steps p.tables e below (T7.setTop (mkF m 99 #[.val (.long size0), .second, .val (.long gap0), .second, .val (.int k), .val (.long t), .second, .val (.int ln), .val (.int la), .val (.int ld), .val (.long tm), .second, .val (.long li), .second, .val (.long tm), .second, .val (.long sz), .second, .val (.long rm), .second, .val (.long (0 : Int64)), .second, .unset, .unset, .unset, .unset, .unset] [])) _
      exact zk
  refine own_by (sj9) ?_
  show own_Go p.tables e below (T7.setTop (mkF m 99 #[.val (.long size0), .second, .val (.long gap0), .second, .val (.int k), .val (.long t), .second, .val (.int ln), .val (.int la), .val (.int ld), .val (.long tm), .second, .val (.long li), .second, .val (.long tm), .second, .val (.long sz), .second, .val (.long rm), .second, .val (.long gp), .second, .unset, .unset, .unset, .unset, .unset] [])) _
  refine own_by (fun zt zk => XS.lload X7.here hx rfl (hb hby at_99) rfl zk) ?_
  show own_Go p.tables e below (T7.setTop (mkF m 101 #[.val (.long size0), .second, .val (.long gap0), .second, .val (.int k), .val (.long t), .second, .val (.int ln), .val (.int la), .val (.int ld), .val (.long tm), .second, .val (.long li), .second, .val (.long tm), .second, .val (.long sz), .second, .val (.long rm), .second, .val (.long gp), .second, .unset, .unset, .unset, .unset, .unset] [(.long rm)])) _
  refine own_by (fun zt zk => XS.lload X7.here hx rfl (hb hby at_101) rfl zk) ?_
  show own_Go p.tables e below (T7.setTop (mkF m 103 #[.val (.long size0), .second, .val (.long gap0), .second, .val (.int k), .val (.long t), .second, .val (.int ln), .val (.int la), .val (.int ld), .val (.long tm), .second, .val (.long li), .second, .val (.long tm), .second, .val (.long sz), .second, .val (.long rm), .second, .val (.long gp), .second, .unset, .unset, .unset, .unset, .unset] [(.long gp), (.long rm)])) _
  refine own_by (fun zt zk => XS.lsub X7.here hx rfl (hb hby at_103) rfl zk) ?_
  show own_Go p.tables e below (T7.setTop (mkF m 104 #[.val (.long size0), .second, .val (.long gap0), .second, .val (.int k), .val (.long t), .second, .val (.int ln), .val (.int la), .val (.int ld), .val (.long tm), .second, .val (.long li), .second, .val (.long tm), .second, .val (.long sz), .second, .val (.long rm), .second, .val (.long gp), .second, .unset, .unset, .unset, .unset, .unset] [(.long (rm - gp))])) _
  obtain ⟨of, hof⟩ : ∃ z, z = (rm - gp) := ⟨_, rfl⟩
  rw [← hof]
  show own_Go p.tables e below (T7.setTop (mkF m 104 #[.val (.long size0), .second, .val (.long gap0), .second, .val (.int k), .val (.long t), .second, .val (.int ln), .val (.int la), .val (.int ld), .val (.long tm), .second, .val (.long li), .second, .val (.long tm), .second, .val (.long sz), .second, .val (.long rm), .second, .val (.long gp), .second, .unset, .unset, .unset, .unset, .unset] [(.long of)])) _
  refine own_by (fun zt zk => XS.lstore X7.here hx rfl (hb hby at_104) rfl (l' := #[.val (.long size0), .second, .val (.long gap0), .second, .val (.int k), .val (.long t), .second, .val (.int ln), .val (.int la), .val (.int ld), .val (.long tm), .second, .val (.long li), .second, .val (.long tm), .second, .val (.long sz), .second, .val (.long rm), .second, .val (.long gp), .second, .val (.long of), .second, .unset, .unset, .unset]) rfl zk) ?_
  show own_Go p.tables e below (T7.setTop (mkF m 106 #[.val (.long size0), .second, .val (.long gap0), .second, .val (.int k), .val (.long t), .second, .val (.int ln), .val (.int la), .val (.int ld), .val (.long tm), .second, .val (.long li), .second, .val (.long tm), .second, .val (.long sz), .second, .val (.long rm), .second, .val (.long gp), .second, .val (.long of), .second, .unset, .unset, .unset] [])) _
  refine own_by (fun zt zk => XS.iload X7.here hx rfl (hb hby at_106) rfl zk) ?_
  show own_Go p.tables e below (T7.setTop (mkF m 108 #[.val (.long size0), .second, .val (.long gap0), .second, .val (.int k), .val (.long t), .second, .val (.int ln), .val (.int la), .val (.int ld), .val (.long tm), .second, .val (.long li), .second, .val (.long tm), .second, .val (.long sz), .second, .val (.long rm), .second, .val (.long gp), .second, .val (.long of), .second, .unset, .unset, .unset] [(.int ln)])) _
  refine own_by (fun zt zk => XS.iload X7.here hx rfl (hb hby at_108) rfl zk) ?_
  show own_Go p.tables e below (T7.setTop (mkF m 110 #[.val (.long size0), .second, .val (.long gap0), .second, .val (.int k), .val (.long t), .second, .val (.int ln), .val (.int la), .val (.int ld), .val (.long tm), .second, .val (.long li), .second, .val (.long tm), .second, .val (.long sz), .second, .val (.long rm), .second, .val (.long gp), .second, .val (.long of), .second, .unset, .unset, .unset] [(.int k), (.int ln)])) _
  have hl3 := own_ln3 hln
  obtain ⟨_, _, ⟨T10, L10, k10, n10⟩, -, X10, ⟨Lc10, hQ10, l10, y10, z10⟩, st10⟩ := Jvm.LawKit.callS X7 hx (y := (⟨"com/example/tidemark/tidemark/model/SnapshotRequestIsLastPinLaw", "part", "(II)[B"⟩ : MethodName)) hown (mvT hZ (hw _ (List.mem_of_getElem? (i := 11) rfl))) (mvT hZ (hw _ (List.mem_of_getElem? (i := 12) rfl))) (mvT hZ (hw _ (List.mem_of_getElem? (i := 13) rfl))) (mvT hZ (hw _ (List.mem_of_getElem? (i := 14) rfl))) (by decide) (backOf (W := 0) (rm_part l Z a0 hw [] ln k  h0 n0 (Nat.le_trans Z0 (Keep.refl h0 []).1) hl3) hZ (hw _ (List.mem_of_getElem? (i := 14) rfl)) (hw _ (List.mem_of_getElem? (i := 13) rfl)) (by decide) (by decide)) (g := (mkF m 110 #[.val (.long size0), .second, .val (.long gap0), .second, .val (.int k), .val (.long t), .second, .val (.int ln), .val (.int la), .val (.int ld), .val (.long tm), .second, .val (.long li), .second, .val (.long tm), .second, .val (.long sz), .second, .val (.long rm), .second, .val (.long gp), .second, .val (.long of), .second, .unset, .unset, .unset] [(.int k), (.int ln)])) rfl (by rw [hml]; rfl) (argsL := [(.int ln), (.int k)]) (rest := []) (lenOf pd_161 rfl) rfl (by show 2 * 0 + _ ≤ _; exact Nat.le_of_eq rfl) (hb hby at_110) (fun _ _ => ⟨rfl, eh7, (by decide : 0 + 1 ≤ _), (by decide : 0 + 3 ≤ _)⟩)
  dsimp only [Pt.U, Pt.locs, Pt.cells, Pt.slots] at X10 l10 y10 z10 st10 hQ10
  subst l10 y10 z10
  obtain ⟨d, N, fd, rfl, N10q, Kc10, sz_d, V10, hN⟩ := hQ10
  have N10 := Fr.app N7 N10q
  have K10 : Keep h0 T10.heap [] := (Keep.refl h0 []).trans Kc10 all0
  refine own_by (st10) ?_
  show own_Go p.tables e below (T10.setTop (mkF m 113 #[.val (.long size0), .second, .val (.long gap0), .second, .val (.int k), .val (.long t), .second, .val (.int ln), .val (.int la), .val (.int ld), .val (.long tm), .second, .val (.long li), .second, .val (.long tm), .second, .val (.long sz), .second, .val (.long rm), .second, .val (.long gp), .second, .val (.long of), .second, .unset, .unset, .unset] [(.ref d)])) _
  refine own_by (fun zt zk => XS.astore X10.here hx rfl (hb hby at_113) rfl rfl (l' := #[.val (.long size0), .second, .val (.long gap0), .second, .val (.int k), .val (.long t), .second, .val (.int ln), .val (.int la), .val (.int ld), .val (.long tm), .second, .val (.long li), .second, .val (.long tm), .second, .val (.long sz), .second, .val (.long rm), .second, .val (.long gp), .second, .val (.long of), .second, .val (.ref d), .unset, .unset]) rfl zk) ?_
  show own_Go p.tables e below (T10.setTop (mkF m 115 #[.val (.long size0), .second, .val (.long gap0), .second, .val (.int k), .val (.long t), .second, .val (.int ln), .val (.int la), .val (.int ld), .val (.long tm), .second, .val (.long li), .second, .val (.long tm), .second, .val (.long sz), .second, .val (.long rm), .second, .val (.long gp), .second, .val (.long of), .second, .val (.ref d), .unset, .unset] [])) _
  obtain ⟨T11, hea11, X11, e11, E11, A11, D11, -, st11⟩ := newO X10 hx hZ hown (hw _ (List.mem_of_getElem? (i := 16) rfl)) (hw _ (List.mem_of_getElem? (i := 17) rfl)) (hw _ (List.mem_of_getElem? (i := 18) rfl)) rfl (g := (mkF m 115 #[.val (.long size0), .second, .val (.long gap0), .second, .val (.int k), .val (.long t), .second, .val (.int ln), .val (.int la), .val (.int ld), .val (.long tm), .second, .val (.long li), .second, .val (.long tm), .second, .val (.long sz), .second, .val (.long rm), .second, .val (.long gp), .second, .val (.long of), .second, .val (.ref d), .unset, .unset] [])) rfl (hb hby at_115) (by decide) (by decide)
  obtain ⟨ob, g11⟩ : ∃ z, z = T10.heap.size := ⟨_, rfl⟩
  rw [← g11] at A11 D11 st11
  have ne_ob_d : ob ≠ d := Nat.ne_of_gt (g11 ▸ (V10).lt)
  have sz_ob : h0.size ≤ ob := Nat.le_trans K10.1 (Nat.le_of_eq g11.symm)
  have K11 : Keep h0 hea11 [] := K10.ext E11
  refine own_by (st11) ?_
  have F11_term : Fld Z hea11 ob "com/example/tidemark/tidemark/model/SnapshotRequest" "term" "J" (.long (0 : Int64)) := D11 (Or.inr (hw _ (List.mem_of_getElem? (i := 31) rfl))) (ty := .long) (by decide)
  have F11_leader : Fld Z hea11 ob "com/example/tidemark/tidemark/model/SnapshotRequest" "leader" "I" (.int (0 : Int32)) := D11 (Or.inr (hw _ (List.mem_of_getElem? (i := 33) rfl))) (ty := .int) (by decide)
  have F11_lastIndex : Fld Z hea11 ob "com/example/tidemark/tidemark/model/SnapshotRequest" "lastIndex" "J" (.long (0 : Int64)) := D11 (Or.inr (hw _ (List.mem_of_getElem? (i := 35) rfl))) (ty := .long) (by decide)
  have F11_lastTerm : Fld Z hea11 ob "com/example/tidemark/tidemark/model/SnapshotRequest" "lastTerm" "J" (.long (0 : Int64)) := D11 (Or.inr (hw _ (List.mem_of_getElem? (i := 37) rfl))) (ty := .long) (by decide)
  have F11_size : Fld Z hea11 ob "com/example/tidemark/tidemark/model/SnapshotRequest" "size" "J" (.long (0 : Int64)) := D11 (Or.inr (hw _ (List.mem_of_getElem? (i := 39) rfl))) (ty := .long) (by decide)
  have F11_checksum : Fld Z hea11 ob "com/example/tidemark/tidemark/model/SnapshotRequest" "checksum" "I" (.int (0 : Int32)) := D11 (Or.inr (hw _ (List.mem_of_getElem? (i := 41) rfl))) (ty := .int) (by decide)
  have F11_offset : Fld Z hea11 ob "com/example/tidemark/tidemark/model/SnapshotRequest" "offset" "J" (.long (0 : Int64)) := D11 (Or.inr (hw _ (List.mem_of_getElem? (i := 43) rfl))) (ty := .long) (by decide)
  have F11_data : Fld Z hea11 ob "com/example/tidemark/tidemark/model/SnapshotRequest" "data" "[B" .null := D11 (Or.inr (hw _ (List.mem_of_getElem? (i := 45) rfl))) (ty := (.array .byte)) (by decide)
  show own_Go p.tables e below (T11.setTop (mkF m 118 #[.val (.long size0), .second, .val (.long gap0), .second, .val (.int k), .val (.long t), .second, .val (.int ln), .val (.int la), .val (.int ld), .val (.long tm), .second, .val (.long li), .second, .val (.long tm), .second, .val (.long sz), .second, .val (.long rm), .second, .val (.long gp), .second, .val (.long of), .second, .val (.ref d), .unset, .unset] [(.ref ob)])) _
  refine own_by (fun zt zk => XS.dup X11.here hx rfl (hb hby at_118) rfl rfl zk) ?_
  show own_Go p.tables e below (T11.setTop (mkF m 119 #[.val (.long size0), .second, .val (.long gap0), .second, .val (.int k), .val (.long t), .second, .val (.int ln), .val (.int la), .val (.int ld), .val (.long tm), .second, .val (.long li), .second, .val (.long tm), .second, .val (.long sz), .second, .val (.long rm), .second, .val (.long gp), .second, .val (.long of), .second, .val (.ref d), .unset, .unset] [(.ref ob), (.ref ob)])) _
  refine own_by (fun zt zk => XS.lload X11.here hx rfl (hb hby at_119) rfl zk) ?_
  show own_Go p.tables e below (T11.setTop (mkF m 121 #[.val (.long size0), .second, .val (.long gap0), .second, .val (.int k), .val (.long t), .second, .val (.int ln), .val (.int la), .val (.int ld), .val (.long tm), .second, .val (.long li), .second, .val (.long tm), .second, .val (.long sz), .second, .val (.long rm), .second, .val (.long gp), .second, .val (.long of), .second, .val (.ref d), .unset, .unset] [(.long tm), (.ref ob), (.ref ob)])) _
  refine own_by (fun zt zk => XS.iload X11.here hx rfl (hb hby at_121) rfl zk) ?_
  show own_Go p.tables e below (T11.setTop (mkF m 123 #[.val (.long size0), .second, .val (.long gap0), .second, .val (.int k), .val (.long t), .second, .val (.int ln), .val (.int la), .val (.int ld), .val (.long tm), .second, .val (.long li), .second, .val (.long tm), .second, .val (.long sz), .second, .val (.long rm), .second, .val (.long gp), .second, .val (.long of), .second, .val (.ref d), .unset, .unset] [(.int ld), (.long tm), (.ref ob), (.ref ob)])) _
  refine own_by (fun zt zk => XS.lload X11.here hx rfl (hb hby at_123) rfl zk) ?_
  show own_Go p.tables e below (T11.setTop (mkF m 125 #[.val (.long size0), .second, .val (.long gap0), .second, .val (.int k), .val (.long t), .second, .val (.int ln), .val (.int la), .val (.int ld), .val (.long tm), .second, .val (.long li), .second, .val (.long tm), .second, .val (.long sz), .second, .val (.long rm), .second, .val (.long gp), .second, .val (.long of), .second, .val (.ref d), .unset, .unset] [(.long li), (.int ld), (.long tm), (.ref ob), (.ref ob)])) _
  refine own_by (fun zt zk => XS.lload X11.here hx rfl (hb hby at_125) rfl zk) ?_
  show own_Go p.tables e below (T11.setTop (mkF m 127 #[.val (.long size0), .second, .val (.long gap0), .second, .val (.int k), .val (.long t), .second, .val (.int ln), .val (.int la), .val (.int ld), .val (.long tm), .second, .val (.long li), .second, .val (.long tm), .second, .val (.long sz), .second, .val (.long rm), .second, .val (.long gp), .second, .val (.long of), .second, .val (.ref d), .unset, .unset] [(.long tm), (.long li), (.int ld), (.long tm), (.ref ob), (.ref ob)])) _
  refine own_by (fun zt zk => XS.lload X11.here hx rfl (hb hby at_127) rfl zk) ?_
  show own_Go p.tables e below (T11.setTop (mkF m 129 #[.val (.long size0), .second, .val (.long gap0), .second, .val (.int k), .val (.long t), .second, .val (.int ln), .val (.int la), .val (.int ld), .val (.long tm), .second, .val (.long li), .second, .val (.long tm), .second, .val (.long sz), .second, .val (.long rm), .second, .val (.long gp), .second, .val (.long of), .second, .val (.ref d), .unset, .unset] [(.long sz), (.long tm), (.long li), (.int ld), (.long tm), (.ref ob), (.ref ob)])) _
  refine own_by (fun zt zk => XS.iload X11.here hx rfl (hb hby at_129) rfl zk) ?_
  show own_Go p.tables e below (T11.setTop (mkF m 131 #[.val (.long size0), .second, .val (.long gap0), .second, .val (.int k), .val (.long t), .second, .val (.int ln), .val (.int la), .val (.int ld), .val (.long tm), .second, .val (.long li), .second, .val (.long tm), .second, .val (.long sz), .second, .val (.long rm), .second, .val (.long gp), .second, .val (.long of), .second, .val (.ref d), .unset, .unset] [(.int k), (.long sz), (.long tm), (.long li), (.int ld), (.long tm), (.ref ob), (.ref ob)])) _
  refine own_by (fun zt zk => XS.lload X11.here hx rfl (hb hby at_131) rfl zk) ?_
  show own_Go p.tables e below (T11.setTop (mkF m 133 #[.val (.long size0), .second, .val (.long gap0), .second, .val (.int k), .val (.long t), .second, .val (.int ln), .val (.int la), .val (.int ld), .val (.long tm), .second, .val (.long li), .second, .val (.long tm), .second, .val (.long sz), .second, .val (.long rm), .second, .val (.long gp), .second, .val (.long of), .second, .val (.ref d), .unset, .unset] [(.long of), (.int k), (.long sz), (.long tm), (.long li), (.int ld), (.long tm), (.ref ob), (.ref ob)])) _
  refine own_by (fun zt zk => XS.aload X11.here hx rfl (hb hby at_133) rfl rfl zk) ?_
  show own_Go p.tables e below (T11.setTop (mkF m 135 #[.val (.long size0), .second, .val (.long gap0), .second, .val (.int k), .val (.long t), .second, .val (.int ln), .val (.int la), .val (.int ld), .val (.long tm), .second, .val (.long li), .second, .val (.long tm), .second, .val (.long sz), .second, .val (.long rm), .second, .val (.long gp), .second, .val (.long of), .second, .val (.ref d), .unset, .unset] [(.ref d), (.long of), (.int k), (.long sz), (.long tm), (.long li), (.int ld), (.long tm), (.ref ob), (.ref ob)])) _
  obtain ⟨k1, k2, k3, k4, k5, k6, k7⟩ := own_ok hln hld htm hli hsz hrm hg0 hgp hof
  obtain ⟨_, _, ⟨T12, L12, k12, n12⟩, -, X12, ⟨Lc12, hQ12, l12, y12, z12⟩, st12⟩ := X11.specialBack hx (y := (⟨"com/example/tidemark/tidemark/model/SnapshotRequest", "<init>", "(JIJJJIJ[B)V"⟩ : MethodName)) rfl hown (mvT hZ (hw _ (List.mem_of_getElem? (i := 19) rfl))) (mvT hZ (hw _ (List.mem_of_getElem? (i := 20) rfl))) (mvT hZ (hw _ (List.mem_of_getElem? (i := 21) rfl))) (by decide) (backOf (W := 1) (rm_new l Z a0 hw [] ob tm ld li tm sz k of d N fd ln hea11 n0 (Nat.le_trans Z0 K11.1) A11 (Nat.le_trans Z0 sz_ob) F11_term F11_leader F11_lastIndex F11_lastTerm F11_size F11_checksum F11_offset F11_data (V10.ext E11) hN ne_ob_d k1 k2 k3 k4 k5 k6 k7) hZ (hw _ (List.mem_of_getElem? (i := 21) rfl)) (hw _ (List.mem_of_getElem? (i := 18) rfl)) (by decide) (by decide)) (g := (mkF m 135 #[.val (.long size0), .second, .val (.long gap0), .second, .val (.int k), .val (.long t), .second, .val (.int ln), .val (.int la), .val (.int ld), .val (.long tm), .second, .val (.long li), .second, .val (.long tm), .second, .val (.long sz), .second, .val (.long rm), .second, .val (.long gp), .second, .val (.long of), .second, .val (.ref d), .unset, .unset] [(.ref d), (.long of), (.int k), (.long sz), (.long tm), (.long li), (.int ld), (.long tm), (.ref ob), (.ref ob)])) rfl (by rw [hml]; rfl) (Steps.refl _) (a := ob) (argsL := [(.long tm), (.int ld), (.long li), (.long tm), (.long sz), (.int k), (.long of), (.ref d)]) (rest := [(.ref ob)]) (lenOf pd_162 rfl) rfl (by show 2 * 0 + _ ≤ _; exact Nat.le_of_eq rfl) (hb hby at_135) (fun _ _ => ⟨rfl, e11, (by decide : 2 + 0 ≤ _), (by decide : 11 + 0 ≤ _)⟩)
  dsimp only [Pt.U, Pt.locs, Pt.cells, Pt.slots] at X12 l12 y12 z12 st12 hQ12
  subst l12 y12 z12
  obtain ⟨rfl, N12q, Kc12, F1_12, F2_12, F3_12⟩ := hQ12
  have N12 := Fr.app N10 N12q
  have K12 : Keep h0 T12.heap [] := K11.trans Kc12 (allS (Or.inr sz_ob) all0)
  refine own_tr st12 ?_
  show own_Go p.tables e below (T12.setTop (mkF m 138 #[.val (.long size0), .second, .val (.long gap0), .second, .val (.int k), .val (.long t), .second, .val (.int ln), .val (.int la), .val (.int ld), .val (.long tm), .second, .val (.long li), .second, .val (.long tm), .second, .val (.long sz), .second, .val (.long rm), .second, .val (.long gp), .second, .val (.long of), .second, .val (.ref d), .unset, .unset] [(.ref ob)])) _
  refine own_by (fun zt zk => XS.astore X12.here hx rfl (hb hby at_138) rfl rfl (l' := #[.val (.long size0), .second, .val (.long gap0), .second, .val (.int k), .val (.long t), .second, .val (.int ln), .val (.int la), .val (.int ld), .val (.long tm), .second, .val (.long li), .second, .val (.long tm), .second, .val (.long sz), .second, .val (.long rm), .second, .val (.long gp), .second, .val (.long of), .second, .val (.ref d), .val (.ref ob), .unset]) rfl zk) ?_
  show own_Go p.tables e below (T12.setTop (mkF m 140 #[.val (.long size0), .second, .val (.long gap0), .second, .val (.int k), .val (.long t), .second, .val (.int ln), .val (.int la), .val (.int ld), .val (.long tm), .second, .val (.long li), .second, .val (.long tm), .second, .val (.long sz), .second, .val (.long rm), .second, .val (.long gp), .second, .val (.long of), .second, .val (.ref d), .val (.ref ob), .unset] [])) _
  refine own_by (fun zt zk => XS.lload X12.here hx rfl (hb hby at_140) rfl zk) ?_
  show own_Go p.tables e below (T12.setTop (mkF m 142 #[.val (.long size0), .second, .val (.long gap0), .second, .val (.int k), .val (.long t), .second, .val (.int ln), .val (.int la), .val (.int ld), .val (.long tm), .second, .val (.long li), .second, .val (.long tm), .second, .val (.long sz), .second, .val (.long rm), .second, .val (.long gp), .second, .val (.long of), .second, .val (.ref d), .val (.ref ob), .unset] [(.long gp)])) _
  refine own_by (fun zt zk => XS.lconst X12.here hx rfl (hb hby at_142) zk) ?_
  show own_Go p.tables e below (T12.setTop (mkF m 143 #[.val (.long size0), .second, .val (.long gap0), .second, .val (.int k), .val (.long t), .second, .val (.int ln), .val (.int la), .val (.int ld), .val (.long tm), .second, .val (.long li), .second, .val (.long tm), .second, .val (.long sz), .second, .val (.long rm), .second, .val (.long gp), .second, .val (.long of), .second, .val (.ref d), .val (.ref ob), .unset] [(.long (0 : Int64)), (.long gp)])) _
  refine own_by (fun zt zk => XS.lcmp X12.here hx rfl (hb hby at_143) rfl zk) ?_
  show own_Go p.tables e below (T12.setTop (mkF m 144 #[.val (.long size0), .second, .val (.long gap0), .second, .val (.int k), .val (.long t), .second, .val (.int ln), .val (.int la), .val (.int ld), .val (.long tm), .second, .val (.long li), .second, .val (.long tm), .second, .val (.long sz), .second, .val (.long rm), .second, .val (.long gp), .second, .val (.long of), .second, .val (.ref d), .val (.ref ob), .unset] [(.int (lcmpW gp (0 : Int64)))])) _
  obtain ⟨ex, hex, sj14⟩ : ∃ (ex : Int32), ex = (if gp = (0 : Int64) then (1 : Int32) else (0 : Int32)) ∧ ∀ zt, Steps p.tables e below (T12.setTop (mkF m 152 #[.val (.long size0), .second, .val (.long gap0), .second, .val (.int k), .val (.long t), .second, .val (.int ln), .val (.int la), .val (.int ld), .val (.long tm), .second, .val (.long li), .second, .val (.long tm), .second, .val (.long sz), .second, .val (.long rm), .second, .val (.long gp), .second, .val (.long of), .second, .val (.ref d), .val (.ref ob), .unset] [(.int ex)])) zt → Steps p.tables e below (T12.setTop (mkF m 144 #[.val (.long size0), .second, .val (.long gap0), .second, .val (.int k), .val (.long t), .second, .val (.int ln), .val (.int la), .val (.int ld), .val (.long tm), .second, .val (.long li), .second, .val (.long tm), .second, .val (.long sz), .second, .val (.long rm), .second, .val (.long gp), .second, .val (.long of), .second, .val (.ref d), .val (.ref ob), .unset] [(.int (lcmpW gp (0 : Int64)))])) zt := by
    by_cases j13 : gp = (0 : Int64)
    · refine ⟨((1 : Int32)), (if_pos j13).symm, fun zt zk => ?_⟩
      show Steps p.tables e below (T12.setTop (mkF m 144 #[.val (.long size0), .second, .val (.long gap0), .second, .val (.int k), .val (.long t), .second, .val (.int ln), .val (.int la), .val (.int ld), .val (.long tm), .second, .val (.long li), .second, .val (.long tm), .second, .val (.long sz), .second, .val (.long rm), .second, .val (.long gp), .second, .val (.long of), .second, .val (.ref d), .val (.ref ob), .unset] [(.int (lcmpW gp (0 : Int64)))])) _
      refine XS.ifNo X12.here hx rfl (hb hby at_144) rfl ((if0 _ _).trans (teq ((lw_eq gp (0 : Int64)).mpr j13)).2) ?_
      show Steps p.tables e below (T12.setTop (mkF m 147 #[.val (.long size0), .second, .val (.long gap0), .second, .val (.int k), .val (.long t), .second, .val (.int ln), .val (.int la), .val (.int ld), .val (.long tm), .second, .val (.long li), .second, .val (.long tm), .second, .val (.long sz), .second, .val (.long rm), .second, .val (.long gp), .second, .val (.long of), .second, .val (.ref d), .val (.ref ob), .unset] [])) _
      refine XS.iconst X12.here hx rfl (hb hby at_147) ?_
      show Steps p.tables e below (T12.setTop (mkF m 148 #[.val (.long size0), .second, .val (.long gap0), .second, .val (.int k), .val (.long t), .second, .val (.int ln), .val (.int la), .val (.int ld), .val (.long tm), .second, .val (.long li), .second, .val (.long tm), .second, .val (.long sz), .second, .val (.long rm), .second, .val (.long gp), .second, .val (.long of), .second, .val (.ref d), .val (.ref ob), .unset] [(.int (1 : Int32))])) _
      refine XS.goto X12.here hx rfl (pc0 := 148) (pc' := 152) rfl (hb hby at_148) (by decide) (by decide) ?_
      show Steps p.tables e below (T12.setTop (mkF m 152 #[.val (.long size0), .second, .val (.long gap0), .second, .val (.int k), .val (.long t), .second, .val (.int ln), .val (.int la), .val (.int ld), .val (.long tm), .second, .val (.long li), .second, .val (.long tm), .second, .val (.long sz), .second, .val (.long rm), .second, .val (.long gp), .second, .val (.long of), .second, .val (.ref d), .val (.ref ob), .unset] [(.int (1 : Int32))])) _
      exact zk
    · refine ⟨((0 : Int32)), (if_neg j13).symm, fun zt zk => ?_⟩
      show Steps p.tables e below (T12.setTop (mkF m 144 #[.val (.long size0), .second, .val (.long gap0), .second, .val (.int k), .val (.long t), .second, .val (.int ln), .val (.int la), .val (.int ld), .val (.long tm), .second, .val (.long li), .second, .val (.long tm), .second, .val (.long sz), .second, .val (.long rm), .second, .val (.long gp), .second, .val (.long of), .second, .val (.ref d), .val (.ref ob), .unset] [(.int (lcmpW gp (0 : Int64)))])) _
      refine XS.ifYes X12.here hx rfl (pc0 := 144) (pc' := 151) rfl (hb hby at_144) rfl ((if0 _ _).trans (feq (fun q => j13 ((lw_eq gp (0 : Int64)).mp q))).2) (by decide) (by decide) ?_
      show Steps p.tables e below (T12.setTop (mkF m 151 #[.val (.long size0), .second, .val (.long gap0), .second, .val (.int k), .val (.long t), .second, .val (.int ln), .val (.int la), .val (.int ld), .val (.long tm), .second, .val (.long li), .second, .val (.long tm), .second, .val (.long sz), .second, .val (.long rm), .second, .val (.long gp), .second, .val (.long of), .second, .val (.ref d), .val (.ref ob), .unset] [])) _
      refine XS.iconst X12.here hx rfl (hb hby at_151) ?_
      show Steps p.tables e below (T12.setTop (mkF m 152 #[.val (.long size0), .second, .val (.long gap0), .second, .val (.int k), .val (.long t), .second, .val (.int ln), .val (.int la), .val (.int ld), .val (.long tm), .second, .val (.long li), .second, .val (.long tm), .second, .val (.long sz), .second, .val (.long rm), .second, .val (.long gp), .second, .val (.long of), .second, .val (.ref d), .val (.ref ob), .unset] [(.int (0 : Int32))])) _
      exact zk
  refine own_by (sj14) ?_
  show own_Go p.tables e below (T12.setTop (mkF m 152 #[.val (.long size0), .second, .val (.long gap0), .second, .val (.int k), .val (.long t), .second, .val (.int ln), .val (.int la), .val (.int ld), .val (.long tm), .second, .val (.long li), .second, .val (.long tm), .second, .val (.long sz), .second, .val (.long rm), .second, .val (.long gp), .second, .val (.long of), .second, .val (.ref d), .val (.ref ob), .unset] [(.int ex)])) _
  refine own_by (fun zt zk => XS.istore X12.here hx rfl (hb hby at_152) rfl (l' := #[.val (.long size0), .second, .val (.long gap0), .second, .val (.int k), .val (.long t), .second, .val (.int ln), .val (.int la), .val (.int ld), .val (.long tm), .second, .val (.long li), .second, .val (.long tm), .second, .val (.long sz), .second, .val (.long rm), .second, .val (.long gp), .second, .val (.long of), .second, .val (.ref d), .val (.ref ob), .val (.int ex)]) rfl zk) ?_
  show own_Go p.tables e below (T12.setTop (mkF m 154 #[.val (.long size0), .second, .val (.long gap0), .second, .val (.int k), .val (.long t), .second, .val (.int ln), .val (.int la), .val (.int ld), .val (.long tm), .second, .val (.long li), .second, .val (.long tm), .second, .val (.long sz), .second, .val (.long rm), .second, .val (.long gp), .second, .val (.long of), .second, .val (.ref d), .val (.ref ob), .val (.int ex)] [])) _
  refine own_by (fun zt zk => XS.aload X12.here hx rfl (hb hby at_154) rfl rfl zk) ?_
  show own_Go p.tables e below (T12.setTop (mkF m 156 #[.val (.long size0), .second, .val (.long gap0), .second, .val (.int k), .val (.long t), .second, .val (.int ln), .val (.int la), .val (.int ld), .val (.long tm), .second, .val (.long li), .second, .val (.long tm), .second, .val (.long sz), .second, .val (.long rm), .second, .val (.long gp), .second, .val (.long of), .second, .val (.ref d), .val (.ref ob), .val (.int ex)] [(.ref ob)])) _
  obtain ⟨cq15, kq15, q15a, q15b, q15c⟩ := isOf hZ rfl (A11.keep Kc12)
  obtain ⟨_, _, ⟨T15, L15, k15, n15⟩, -, X15, ⟨Lc15, hQ15, l15, y15, z15⟩, st15⟩ := X12.virtualBack hx (y := (⟨"com/example/tidemark/tidemark/model/SnapshotRequest", "isLast", "()Z"⟩ : MethodName)) (z := (⟨"com/example/tidemark/tidemark/model/SnapshotRequest", "isLast", "()Z"⟩ : MethodName)) hown (mvT hZ (hw _ (List.mem_of_getElem? (i := 46) rfl))) (mvT hZ (hw _ (List.mem_of_getElem? (i := 47) rfl))) (notFace_of_selects (args := #[]) (mvT hZ (hw _ (List.mem_of_getElem? (i := 49) rfl)))) (mvT hZ (hw _ (List.mem_of_getElem? (i := 49) rfl))) (mvT hZ (hw _ (List.mem_of_getElem? (i := 48) rfl))) (by decide) (backOf (W := 0) (rm_last l Z a0 hw [] ob of d sz N fd ln T12.heap n0 (Nat.le_trans Z0 K12.1) F1_12 F2_12 F3_12 ((V10.ext E11).keep Kc12 (ninS (Ne.symm ne_ob_d) nin0)) hN) hZ (hw _ (List.mem_of_getElem? (i := 50) rfl)) (hw _ (List.mem_of_getElem? (i := 18) rfl)) (by decide) (by decide)) q15a q15c (g := (mkF m 156 #[.val (.long size0), .second, .val (.long gap0), .second, .val (.int k), .val (.long t), .second, .val (.int ln), .val (.int la), .val (.int ld), .val (.long tm), .second, .val (.long li), .second, .val (.long tm), .second, .val (.long sz), .second, .val (.long rm), .second, .val (.long gp), .second, .val (.long of), .second, .val (.ref d), .val (.ref ob), .val (.int ex)] [(.ref ob)])) rfl (by rw [hml]; rfl) (Steps.refl _) (argsL := []) (rest := []) (lenOf pd_163 rfl) rfl (by show 2 * 0 + _ ≤ _; exact Nat.le_of_eq rfl) (hb hby at_156) (fun _ _ => ⟨rfl, rfl, (by decide : 2 + 0 ≤ _), (by decide : 11 + 0 ≤ _)⟩)
  dsimp only [Pt.U, Pt.locs, Pt.cells, Pt.slots] at X15 l15 y15 z15 st15 hQ15
  subst l15 y15 z15
  obtain ⟨r, rfl, N15q, eh15, hr⟩ := hQ15
  have N15 := Fr.app N12 N15q
  refine own_tr st15 ?_
  show own_Go p.tables e below (T15.setTop (mkF m 159 #[.val (.long size0), .second, .val (.long gap0), .second, .val (.int k), .val (.long t), .second, .val (.int ln), .val (.int la), .val (.int ld), .val (.long tm), .second, .val (.long li), .second, .val (.long tm), .second, .val (.long sz), .second, .val (.long rm), .second, .val (.long gp), .second, .val (.long of), .second, .val (.ref d), .val (.ref ob), .val (.int ex)] [(.int r)])) _
  have er : r = ex := own_main hln hsz hrm hg0 hgp hof hex hr
  refine own_by (fun zt zk => XS.iload X15.here hx rfl (hb hby at_159) rfl zk) ?_
  show own_Go p.tables e below (T15.setTop (mkF m 161 #[.val (.long size0), .second, .val (.long gap0), .second, .val (.int k), .val (.long t), .second, .val (.int ln), .val (.int la), .val (.int ld), .val (.long tm), .second, .val (.long li), .second, .val (.long tm), .second, .val (.long sz), .second, .val (.long rm), .second, .val (.long gp), .second, .val (.long of), .second, .val (.ref d), .val (.ref ob), .val (.int ex)] [(.int ex), (.int r)])) _
  refine own_by (fun zt zk => XS.icmpNo X15.here hx rfl (hb hby at_161) rfl (teq er).2 zk) ?_
  show own_Go p.tables e below (T15.setTop (mkF m 164 #[.val (.long size0), .second, .val (.long gap0), .second, .val (.int k), .val (.long t), .second, .val (.int ln), .val (.int la), .val (.int ld), .val (.long tm), .second, .val (.long li), .second, .val (.long tm), .second, .val (.long sz), .second, .val (.long rm), .second, .val (.long gp), .second, .val (.long of), .second, .val (.ref d), .val (.ref ob), .val (.int ex)] [])) _
  refine own_by (fun zt zk => XS.iconst X15.here hx rfl (hb hby at_164) zk) ?_
  show own_Go p.tables e below (T15.setTop (mkF m 165 #[.val (.long size0), .second, .val (.long gap0), .second, .val (.int k), .val (.long t), .second, .val (.int ln), .val (.int la), .val (.int ld), .val (.long tm), .second, .val (.long li), .second, .val (.long tm), .second, .val (.long sz), .second, .val (.long rm), .second, .val (.long gp), .second, .val (.long of), .second, .val (.ref d), .val (.ref ob), .val (.int ex)] [(.int (1 : Int32))])) _
  refine own_by (fun zt zk => XS.goto X15.here hx rfl (pc0 := 165) (pc' := 169) rfl (hb hby at_165) (by decide) (by decide) zk) ?_
  show own_Go p.tables e below (T15.setTop (mkF m 169 #[.val (.long size0), .second, .val (.long gap0), .second, .val (.int k), .val (.long t), .second, .val (.int ln), .val (.int la), .val (.int ld), .val (.long tm), .second, .val (.long li), .second, .val (.long tm), .second, .val (.long sz), .second, .val (.long rm), .second, .val (.long gp), .second, .val (.long of), .second, .val (.ref d), .val (.ref ob), .val (.int ex)] [(.int (1 : Int32))])) _
  exact own_retN X15 hx Bd.notSynchronized (t := .boolean) Bd.returns (by simp) (by decide) (hb hby at_169) (by (try rw [eh15]); exact ⟨rfl, N15⟩) (by decide) (by decide)
set_option maxRecDepth 65536 in
set_option maxHeartbeats 40000000 in
theorem comes_1 {Post : Tables → Env → Array Value → State → Outcome → State → Prop} (hpost : ∀ tb e args s v u, (limb_1_1.after args s (.returned v) u = true ∧ limb_1_2.after args s (.returned v) u = true ∧ True) → FrameEnd s (.returned v) u (Jvm.fieldLocs frame_1_writes args s ++ Jvm.arrayLocs frame_1_arrays args s ++ Jvm.staticLocs frame_1_statics s) 16 128 → Post tb e args s (.returned v) u) :
    ArmFor flags0 classFile x code maxLocals ret World_1 tables_1 room_1 Calls_1 rest_1 Pre_1 Post := by
  intro l hfl _ _ p e ha hc hk s m args below hf hA hF happ hP
  obtain ⟨hcalls, hrest, hpre⟩ := hP
  obtain ⟨-, -, -, hnamed, -, -, -, hat⟩ := (Spec.applies_iff hf).mp happ
  obtain ⟨hg, hn⟩ := and_e (Cond.before_iff.mp (show (Jvm.Cond.and given_1 narrow_1).before args s = true from hpre))
  obtain ⟨hcount, t0⟩ := and_e hg
  obtain ⟨g0, t1⟩ := and_e t0
  obtain ⟨g1, t2⟩ := and_e t1
  obtain ⟨g2, t3⟩ := and_e t2
  obtain ⟨w0, w1, w2, w3, rfl⟩ : ∃ w0 w1 w2 w3 : Value, args = #[w0, w1, w2, w3] := by
    have hs : args.size = 4 := by simpa [Cond.value, given_1] using hcount
    obtain ⟨L⟩ := args
    match L, hs with
    | [w0, w1, w2, w3], _ => exact ⟨w0, w1, w2, w3, rfl⟩
  have hw := fun d (hd : d ∈ tables_1) => atoms_spec (ws := Jvm.Cond.code x code maxLocals ret :: tables_1) hat d (List.mem_cons_of_mem _ hd)
  obtain ⟨i0, ei0⟩ := isL_v g0
  obtain rfl : w0 = (.long i0) := Option.some.inj ei0
  obtain ⟨i1, ei1⟩ := isL_v g1
  obtain rfl : w1 = (.long i1) := Option.some.inj ei1
  obtain ⟨i2, ei2⟩ := is_v g2
  obtain rfl : w2 = (.int i2) := Option.some.inj ei2
  obtain ⟨i3, ei3⟩ := isL_v t3
  obtain rfl : w3 = (.long i3) := Option.some.inj ei3
  obtain ⟨n, o, h1, h2, h3, _, L, rfl, ⟨rfl, N⟩, hq⟩ := rm_law l s _ hw tables_1 i0 i1 i2 i3 s.heap s.heap.size (Nat.le_refl _) p e ha hc hk s m _ below hf ((Spec.applies_iff_loose hf).mp happ).1 ⟨rfl, State.Warmed39.refl s, rfl⟩ trivial
  refine ⟨n, _, h1, h2, h3, hpost _ _ _ _ _ _ ⟨Cond.after_iff.mpr rfl, Cond.after_iff.mpr (eq_i res_at (Term.int_eval (1)) rfl), trivial⟩ ⟨hq.1, hq.2.1, (hq.2.2.sift fun y hy => Or.inr (N y hy)).mono (by decide) (by decide)⟩⟩
theorem main_1_1 : Claimed_1_1 := comes_1 fun _ _ _ _ _ _ h hF => ⟨h.1, hF⟩
theorem main_1_2 : Claimed_1_2 := comes_1 fun _ _ _ _ _ _ h hF => ⟨h.2.1, hF⟩
end Jvm.Pilot.@@N@@
namespace Jvm.Pilot.@@N@@
open Jvm Jvm.ClassFile Sem Op Lib Jvm.Free Jvm.Stand Jvm.Pilot.@@N@@.Jvm.D
/-! MADE BY PROGRAM (witnessworld.py) out of the Statement's table words and the real class files: 12 classes; the members and pool entries that the words name. The judged class is class 1, her method 2. -/
namespace start1
open Jvm.ClassFile
def u (s : String) : CpInfo := .utf8 (stringToUtf16 s)
/-- a pool by its gaps: so many unusable entries, then the entry; so many at the end -/
def gap : Nat → List CpInfo → List CpInfo
  | 0, r => r
  | n + 1, r => .unusable :: gap n r
def poolList (es : List (Nat × CpInfo)) (last : Nat) : List CpInfo := es.foldr (fun e r => gap e.1 (e.2 :: r)) (gap last [])
def pool (es : List (Nat × CpInfo)) (last : Nat) : Array CpInfo := ⟨poolList es last⟩
def fileOf (pool : Array CpInfo) (this : Nat) (attrs : Array Attribute := #[]) (ms : Array MethodInfo := #[]) (fl : Nat := 33) (sup : Nat := 0) (ifs : Array Nat := #[]) (fds : Array FieldInfo := #[]) : ClassFile where
  minorVersion := 0
  majorVersion := 65
  constantPool := pool
  accessFlags := fl
  thisClass := this
  superClass := sup
  interfaces := ifs
  fields := fds
  methods := ms
  attributes := attrs
def plain (name : String) (sup : Option ClassId) : Class where
  name := name
  kind := .ordinary
  loader := none
  accessFlags := 33
  super := sup
  interfaces := #[]
  cf := none
  fields := #[]
  methods := #[]
  instanceTypes := #[]
  staticTypes := #[]
  resolved := #[]
  callSites := []
  init := .initialized
  statics := none
  mirror := none

def pool0 : Array CpInfo := pool [(5, u "<init>"), (0, u "()V"), (1, .class_ 10), (1, u "java/lang/Object")] 113

def k0c0 : Code := { maxStack := 0, maxLocals := 1, code := object_method_1_code, exceptionTable := #[], attributes := #[] }
def k0m0 : Method := { name := "<init>", desc := "()V", sig := { parameters := [], returnType := none }, accessFlags := 1, code := some k0c0 }
/-- java/lang/Object -/
def k0 : Class := { plain "java/lang/Object" none with
  accessFlags := 33
  interfaces := #[]
  cf := some (fileOf pool0 8 #[] #[{ accessFlags := 1, nameIndex := 5, descriptorIndex := 6, attributes := #[] }] 33 0 #[] #[])
  fields := #[]
  methods := #[k0m0]
  instanceTypes := #[]
  staticTypes := #[]
  resolved := Array.replicate 124 none
  statics := none }

def pool1 : Array CpInfo := pool [(2, .class_ 4), (1, u "java/lang/Object"), (0, u "<init>"), (0, u "()V"), (0, .methodref 8 9), (0, .class_ 10), (0, .nameAndType 11 12), (0, u "java/lang/Math"), (0, u "max"), (0, u "(II)I"), (2, .long 9223372036854775807), (1, .methodref 8 18), (0, .nameAndType 11 19), (0, u "(JJ)J"), (0, .methodref 8 21), (0, .nameAndType 22 19), (0, u "min"), (0, .methodref 24 25), (0, .class_ 26), (0, .nameAndType 27 28), (0, u "com/example/tidemark/tidemark/model/SnapshotRequestIsLastPinLaw"), (0, u "part"), (0, u "(II)[B"), (0, .class_ 30), (0, u "com/example/tidemark/tidemark/model/SnapshotRequest"), (0, .methodref 29 32), (0, .nameAndType 5 33), (0, u "(JIJJJIJ[B)V"), (0, .methodref 29 35), (0, .nameAndType 36 37), (0, u "isLast"), (0, u "()Z"), (3, u "law"), (0, u "(JJIJ)Z")] 4

def k1m0 : Method := { name := "<init>", desc := "()V", sig := { parameters := [], returnType := none }, accessFlags := 2, code := none }
def k1c1 : Code := { maxStack := 5, maxLocals := 2, code := method_2_code, exceptionTable := #[], attributes := #[] }
def k1m1 : Method := { name := "part", desc := "(II)[B", sig := { parameters := [.int, .int], returnType := some (.array .byte) }, accessFlags := 10, code := some k1c1 }
def k1c2 : Code := { maxStack := 15, maxLocals := 27, code := code, exceptionTable := #[], attributes := #[] }
def k1m2 : Method := { name := "law", desc := "(JJIJ)Z", sig := { parameters := [.long, .long, .int, .long], returnType := some .boolean }, accessFlags := 9, code := some k1c2 }
/-- com/example/tidemark/tidemark/model/SnapshotRequestIsLastPinLaw -/
def k1 : Class := { plain "com/example/tidemark/tidemark/model/SnapshotRequestIsLastPinLaw" (some 0) with
  accessFlags := 49
  interfaces := #[]
  cf := some (fileOf pool1 24 #[] #[{ accessFlags := 2, nameIndex := 5, descriptorIndex := 6, attributes := #[] }, { accessFlags := 10, nameIndex := 27, descriptorIndex := 28, attributes := #[] }, { accessFlags := 9, nameIndex := 41, descriptorIndex := 42, attributes := #[] }] 49 2 #[] #[])
  fields := #[]
  methods := #[k1m0, k1m1, k1m2]
  instanceTypes := #[]
  staticTypes := #[]
  resolved := Array.replicate 47 none
  statics := none }

def pool2 : Array CpInfo := pool [(1, .class_ 2), (0, u "java/lang/Math"), (1, .class_ 6), (1, u "java/lang/Object"), (0, u "<init>"), (0, u "()V"), (89, .class_ 100), (1, u "java/lang/Math$RandomNumberGeneratorHolder"), (20, u "(JJ)J"), (50, u "negativeZeroFloatBits"), (0, u "J"), (2, u "negativeZeroDoubleBits"), (21, u "max"), (2, u "min"), (43, u "$assertionsDisabled"), (0, u "Z"), (88, u "(II)I"), (2, u "twoToTheDoubleScaleDown"), (0, u "D"), (4, u "twoToTheDoubleScaleUp"), (9, u "E"), (3, u "PI"), (2, u "TAU"), (2, u "DEGREES_TO_RADIANS"), (0, u "RADIANS_TO_DEGREES")] 94

def k2m0 : Method := { name := "<init>", desc := "()V", sig := { parameters := [], returnType := none }, accessFlags := 2, code := none }
def k2c1 : Code := { maxStack := 2, maxLocals := 2, code := jdk_29_method_65_code, exceptionTable := #[], attributes := #[] }
def k2m1 : Method := { name := "max", desc := "(II)I", sig := { parameters := [.int, .int], returnType := some .int }, accessFlags := 9, code := some k2c1 }
def k2c2 : Code := { maxStack := 4, maxLocals := 4, code := jdk_29_method_66_code, exceptionTable := #[], attributes := #[] }
def k2m2 : Method := { name := "max", desc := "(JJ)J", sig := { parameters := [.long, .long], returnType := some .long }, accessFlags := 9, code := some k2c2 }
def k2c3 : Code := { maxStack := 4, maxLocals := 4, code := jdk_29_method_70_code, exceptionTable := #[], attributes := #[] }
def k2m3 : Method := { name := "min", desc := "(JJ)J", sig := { parameters := [.long, .long], returnType := some .long }, accessFlags := 9, code := some k2c3 }
/-- java/lang/Math -/
def k2 : Class := { plain "java/lang/Math" (some 0) with
  accessFlags := 49
  interfaces := #[]
  cf := some (fileOf pool2 1 #[.nestMembers #[98]] #[{ accessFlags := 2, nameIndex := 7, descriptorIndex := 8, attributes := #[] }, { accessFlags := 9, nameIndex := 198, descriptorIndex := 335, attributes := #[] }, { accessFlags := 9, nameIndex := 198, descriptorIndex := 121, attributes := #[] }, { accessFlags := 9, nameIndex := 201, descriptorIndex := 121, attributes := #[] }] 49 4 #[] #[{ accessFlags := 25, nameIndex := 354, descriptorIndex := 339, attributes := #[] }, { accessFlags := 25, nameIndex := 358, descriptorIndex := 339, attributes := #[] }, { accessFlags := 25, nameIndex := 361, descriptorIndex := 339, attributes := #[] }, { accessFlags := 26, nameIndex := 364, descriptorIndex := 339, attributes := #[] }, { accessFlags := 26, nameIndex := 365, descriptorIndex := 339, attributes := #[] }, { accessFlags := 26, nameIndex := 172, descriptorIndex := 173, attributes := #[] }, { accessFlags := 26, nameIndex := 176, descriptorIndex := 173, attributes := #[] }, { accessFlags := 8, nameIndex := 344, descriptorIndex := 339, attributes := #[] }, { accessFlags := 8, nameIndex := 338, descriptorIndex := 339, attributes := #[] }, { accessFlags := 4120, nameIndex := 245, descriptorIndex := 246, attributes := #[] }])
  fields := #[{ name := "E", type := .double, accessFlags := 25, slot := 0, constantValue := 0 }, { name := "PI", type := .double, accessFlags := 25, slot := 1, constantValue := 0 }, { name := "TAU", type := .double, accessFlags := 25, slot := 2, constantValue := 0 }, { name := "DEGREES_TO_RADIANS", type := .double, accessFlags := 26, slot := 3, constantValue := 0 }, { name := "RADIANS_TO_DEGREES", type := .double, accessFlags := 26, slot := 4, constantValue := 0 }, { name := "negativeZeroFloatBits", type := .long, accessFlags := 26, slot := 5, constantValue := 0 }, { name := "negativeZeroDoubleBits", type := .long, accessFlags := 26, slot := 6, constantValue := 0 }, { name := "twoToTheDoubleScaleUp", type := .double, accessFlags := 8, slot := 7, constantValue := 0 }, { name := "twoToTheDoubleScaleDown", type := .double, accessFlags := 8, slot := 8, constantValue := 0 }, { name := "$assertionsDisabled", type := .boolean, accessFlags := 4120, slot := 9, constantValue := 0 }]
  methods := #[k2m0, k2m1, k2m2, k2m3]
  instanceTypes := #[]
  staticTypes := #[.double, .double, .double, .double, .double, .long, .long, .double, .double, .boolean]
  resolved := Array.replicate 460 none
  statics := none }

def pool3 : Array CpInfo := pool [(1, .methodref 2 3), (0, .class_ 4), (0, .nameAndType 5 6), (0, u "java/lang/Object"), (0, u "<init>"), (0, u "()V"), (0, .class_ 8), (0, u "java/lang/Record")] 13

def k3c0 : Code := { maxStack := 1, maxLocals := 1, code := jdk_30_method_1_code, exceptionTable := #[], attributes := #[] }
def k3m0 : Method := { name := "<init>", desc := "()V", sig := { parameters := [], returnType := none }, accessFlags := 4, code := some k3c0 }
/-- java/lang/Record -/
def k3 : Class := { plain "java/lang/Record" (some 0) with
  accessFlags := 1057
  interfaces := #[]
  cf := some (fileOf pool3 7 #[] #[{ accessFlags := 4, nameIndex := 5, descriptorIndex := 6, attributes := #[] }] 1057 2 #[] #[])
  fields := #[]
  methods := #[k3m0]
  instanceTypes := #[]
  staticTypes := #[]
  resolved := Array.replicate 22 none
  statics := none }

def pool4 : Array CpInfo := pool [(13, .class_ 14), (0, u "com/example/tidemark/tidemark/model/PeerRequest"), (33, .class_ 49), (0, u "java/lang/Object")] 54

/-- com/example/tidemark/tidemark/model/PeerRequest -/
def k4 : Class := { plain "com/example/tidemark/tidemark/model/PeerRequest" (some 0) with
  accessFlags := 1537
  interfaces := #[]
  cf := some (fileOf pool4 13 #[] #[] 1537 48 #[] #[])
  fields := #[]
  methods := #[]
  instanceTypes := #[]
  staticTypes := #[]
  resolved := Array.replicate 104 none
  statics := none }

def pool5 : Array CpInfo := pool [(1, .methodref 2 3), (0, .class_ 4), (0, .nameAndType 5 6), (0, u "java/lang/Record"), (0, u "<init>"), (0, u "()V"), (9, .fieldref 17 18), (0, .class_ 19), (0, .nameAndType 20 21), (0, u "com/example/tidemark/tidemark/model/SnapshotRequest"), (0, u "term"), (0, u "J"), (0, .fieldref 17 23), (0, .nameAndType 24 25), (0, u "leader"), (0, u "I"), (0, .fieldref 17 27), (0, .nameAndType 28 21), (0, u "lastIndex"), (0, .fieldref 17 30), (0, .nameAndType 31 21), (0, u "lastTerm"), (0, .fieldref 17 33), (0, .nameAndType 34 21), (0, u "size"), (0, .fieldref 17 36), (0, .nameAndType 37 25), (0, u "checksum"), (0, .fieldref 17 39), (0, .nameAndType 40 21), (0, u "offset"), (0, .fieldref 17 42), (0, .nameAndType 43 44), (0, u "data"), (0, u "[B"), (32, u "(JIJJJIJ[B)V"), (32, .class_ 111), (0, u "com/example/tidemark/tidemark/model/PeerRequest"), (0, u "TAG"), (0, u "B"), (7, u "isLast"), (0, u "()Z")] 62

def k5c0 : Code := { maxStack := 14, maxLocals := 14, code := prog_77_method_1_code, exceptionTable := #[], attributes := #[] }
def k5m0 : Method := { name := "<init>", desc := "(JIJJJIJ[B)V", sig := { parameters := [.long, .int, .long, .long, .long, .int, .long, (.array .byte)], returnType := none }, accessFlags := 1, code := some k5c0 }
def k5c1 : Code := { maxStack := 4, maxLocals := 1, code := prog_77_method_2_code, exceptionTable := #[], attributes := #[] }
def k5m1 : Method := { name := "isLast", desc := "()Z", sig := { parameters := [], returnType := some .boolean }, accessFlags := 1, code := some k5c1 }
/-- com/example/tidemark/tidemark/model/SnapshotRequest -/
def k5 : Class := { plain "com/example/tidemark/tidemark/model/SnapshotRequest" (some 3) with
  accessFlags := 49
  interfaces := #[4]
  cf := some (fileOf pool5 17 #[] #[{ accessFlags := 1, nameIndex := 5, descriptorIndex := 77, attributes := #[] }, { accessFlags := 1, nameIndex := 121, descriptorIndex := 122, attributes := #[] }] 49 2 #[110] #[{ accessFlags := 18, nameIndex := 20, descriptorIndex := 21, attributes := #[] }, { accessFlags := 18, nameIndex := 24, descriptorIndex := 25, attributes := #[] }, { accessFlags := 18, nameIndex := 28, descriptorIndex := 21, attributes := #[] }, { accessFlags := 18, nameIndex := 31, descriptorIndex := 21, attributes := #[] }, { accessFlags := 18, nameIndex := 34, descriptorIndex := 21, attributes := #[] }, { accessFlags := 18, nameIndex := 37, descriptorIndex := 25, attributes := #[] }, { accessFlags := 18, nameIndex := 40, descriptorIndex := 21, attributes := #[] }, { accessFlags := 18, nameIndex := 43, descriptorIndex := 44, attributes := #[] }, { accessFlags := 24, nameIndex := 112, descriptorIndex := 113, attributes := #[] }])
  fields := #[{ name := "term", type := .long, accessFlags := 18, slot := 0, constantValue := 0 }, { name := "leader", type := .int, accessFlags := 18, slot := 1, constantValue := 0 }, { name := "lastIndex", type := .long, accessFlags := 18, slot := 2, constantValue := 0 }, { name := "lastTerm", type := .long, accessFlags := 18, slot := 3, constantValue := 0 }, { name := "size", type := .long, accessFlags := 18, slot := 4, constantValue := 0 }, { name := "checksum", type := .int, accessFlags := 18, slot := 5, constantValue := 0 }, { name := "offset", type := .long, accessFlags := 18, slot := 6, constantValue := 0 }, { name := "data", type := (.array .byte), accessFlags := 18, slot := 7, constantValue := 0 }, { name := "TAG", type := .byte, accessFlags := 24, slot := 0, constantValue := 0 }]
  methods := #[k5m0, k5m1]
  instanceTypes := #[.long, .int, .long, .long, .long, .int, .long, (.array .byte)]
  staticTypes := #[.byte]
  resolved := Array.replicate 185 none
  statics := none }

def pool6 : Array CpInfo := pool [(1, u "java/lang/Cloneable"), (0, .class_ 1), (0, u "java/lang/Object"), (0, .class_ 3)] 3

/-- java/lang/Cloneable -/
def k6 : Class := { plain "java/lang/Cloneable" (some 0) with
  accessFlags := 1537
  interfaces := #[]
  cf := some (fileOf pool6 2 #[] #[] 1537 4 #[] #[])
  fields := #[]
  methods := #[]
  instanceTypes := #[]
  staticTypes := #[]
  resolved := Array.replicate 8 none
  statics := none }

def pool7 : Array CpInfo := pool [(1, u "java/io/Serializable"), (0, .class_ 1), (0, u "java/lang/Object"), (0, .class_ 3)] 3

/-- java/io/Serializable -/
def k7 : Class := { plain "java/io/Serializable" (some 0) with
  accessFlags := 1537
  interfaces := #[]
  cf := some (fileOf pool7 2 #[] #[] 1537 4 #[] #[])
  fields := #[]
  methods := #[]
  instanceTypes := #[]
  staticTypes := #[]
  resolved := Array.replicate 8 none
  statics := none }

/-- the primitive byte -/
def k8 : Class := { plain "byte" none with kind := .primitive 'B', accessFlags := 0x411 }
/-- [B -/
def k9 : Class := { plain "[B" (some 0) with kind := .array 8 .byte, interfaces := #[6, 7], accessFlags := 1041 }

/-- the primitive int -/
def k10 : Class := { plain "int" none with kind := .primitive 'I', accessFlags := 0x411 }
/-- [I -/
def k11 : Class := { plain "[I" (some 0) with kind := .array 10 .int, interfaces := #[6, 7], accessFlags := 1041 }

def heap : Heap := #[]
def classes : Array Class := #[k0, k1, k2, k3, k4, k5, k6, k7, k8, k9, k10, k11]
def interned : List (Array UInt16 × Addr) := []
def slotsUsed : Nat := 0
def theMethod : MethodId := ⟨1, 2⟩
def args0 : Array Value := #[.long 5, .long 5, .int 5, .long 5]
def aboutOver (below : List Frame) : State where
  vm := { classes := classes, interned := interned.toArray }
  heap := heap
  slotsUsed := slotsUsed
  threads := #[{ frames := .invoking theMethod args0 :: below }]
def below0 : List Frame := [.native { method := ⟨0, 0⟩, args := #[] }]
def about1 : State := aboutOver below0
def p0 : Program := .bare "" "" ""
def e0 : Env := launch0.env 0 0 0
theorem w_frames : about1.frames = Frame.invoking theMethod args0 :: below0 := rfl
set_option maxRecDepth 65536 in
theorem w_args : argsFit about1.vm theMethod args0 = true := by decide +kernel
set_option maxRecDepth 65536 in
theorem w_heap : heapFits about1 = true := by decide +kernel
set_option maxRecDepth 65536 in
theorem w_runnable : about1.curStatus? = some .runnable := by decide +kernel
set_option maxRecDepth 65536 in
theorem w_alone : about1.alone = true := by decide +kernel
set_option maxRecDepth 65536 in
theorem w_named : about1.methodNamed? x = some theMethod := by decide +kernel
set_option maxRecDepth 65536 in
theorem w_hears : about1.hears theMethod below0 = true := by decide +kernel
set_option maxRecDepth 65536 in
theorem w_ripe : about1.ripe theMethod args0 below0 = true := by decide +kernel
theorem w_running : about1.status = .running := rfl
set_option maxRecDepth 65536 in
theorem w_room : about1.hasRoom e0.platform room_1 = true :=
  launch0.hasRoom_least _ room_1 (by decide +kernel) (by decide +kernel) (by decide +kernel) (by decide +kernel) (by decide +kernel) (by decide +kernel)
theorem allAtoms_all (ts : List Jvm.Cond) (a : Array Jvm.Value) (st : Jvm.State) : (allAtoms ts).before a st = ts.all (fun c => c.before a st) := by
  induction ts with
  | nil => rfl
  | cons c t ih =>
    show (Jvm.Cond.and c (allAtoms t)).before a st = _
    rw [Jvm.Cond.before_and, ih, List.all_cons]
def words1 : List Jvm.Cond := Jvm.Cond.code x code maxLocals ret :: tables_1
/-- a 'code' word, met by the world's own term for the bytes: nothing is compared byte by byte -/
theorem code_word {y : MethodName} {bytes : ByteArray} {mx : Nat} {rt : Option FieldType} {a : Array Value} {s : State} {m : MethodId} {meth : Method} {c : Code} (h1 : s.methodNamed? y = some m) (h2 : s.vm.method? m = some meth) (h3 : meth.code = some c) (h4 : c.code = bytes)
    (h5 : (c.maxLocals == mx && c.exceptionTable.isEmpty && decide (c.maxStack ≤ mostOperands) && decide (meth.sig.returnType = rt) && !meth.locks && decide (parseMethodDescriptor y.desc = some meth.sig)) = true) : (Jvm.Cond.code y bytes mx rt).before a s = true := by
  simp only [Bool.and_eq_true, beq_iff_eq, Bool.not_eq_true', decide_eq_true_eq] at h5
  obtain ⟨⟨⟨⟨⟨g1, g2⟩, g3⟩, g4⟩, g5⟩, g6⟩ := h5
  simp [Cond.before, Cond.holds, Cond.value, h1, h2, h3, h4, g1, g2, g3, g4, g5, g6]
def isCode : Jvm.Cond → Bool
  | .code _ _ _ _ => true
  | _ => false
theorem all_split {L : List Jvm.Cond} {P : Jvm.Cond → Bool} (h1 : L.all (fun c => isCode c || P c) = true) (h2 : ∀ c ∈ L.filter isCode, P c = true) : L.all P = true := by
  refine List.all_eq_true.mpr fun c hc => ?_
  have h := List.all_eq_true.mp h1 c hc
  rcases Bool.eq_false_or_eq_true (isCode c) with hi | hi
  · exact h2 c (List.mem_filter.mpr ⟨hc, hi⟩)
  · simpa [hi] using h
set_option maxRecDepth 65536 in
theorem w_c0 : (Jvm.Cond.code x code maxLocals ret).before args0 about1 = true := code_word (m := ⟨1, 2⟩) (meth := k1m2) (c := k1c2) (by decide +kernel) rfl rfl rfl (by decide +kernel)
set_option maxRecDepth 65536 in
theorem w_c1 : (Jvm.Cond.code ({ cls := "java/lang/Math", name := "max", desc := "(II)I" } : Jvm.MethodName) jdk_29_method_65_code (2 : Nat) (Option.some Jvm.ClassFile.FieldType.int)).before args0 about1 = true := code_word (m := ⟨2, 1⟩) (meth := k2m1) (c := k2c1) (by decide +kernel) rfl rfl rfl (by decide +kernel)
set_option maxRecDepth 65536 in
theorem w_c2 : (Jvm.Cond.code ({ cls := "java/lang/Math", name := "max", desc := "(JJ)J" } : Jvm.MethodName) jdk_29_method_66_code (4 : Nat) (Option.some Jvm.ClassFile.FieldType.long)).before args0 about1 = true := code_word (m := ⟨2, 2⟩) (meth := k2m2) (c := k2c2) (by decide +kernel) rfl rfl rfl (by decide +kernel)
set_option maxRecDepth 65536 in
theorem w_c3 : (Jvm.Cond.code ({ cls := "java/lang/Math", name := "min", desc := "(JJ)J" } : Jvm.MethodName) jdk_29_method_70_code (4 : Nat) (Option.some Jvm.ClassFile.FieldType.long)).before args0 about1 = true := code_word (m := ⟨2, 3⟩) (meth := k2m3) (c := k2c3) (by decide +kernel) rfl rfl rfl (by decide +kernel)
set_option maxRecDepth 65536 in
theorem w_c4 : (Jvm.Cond.code ({ cls := "com/example/tidemark/tidemark/model/SnapshotRequestIsLastPinLaw", name := "part", desc := "(II)[B" } : Jvm.MethodName) method_2_code (2 : Nat) (Option.some (Jvm.ClassFile.FieldType.array Jvm.ClassFile.FieldType.byte))).before args0 about1 = true := code_word (m := ⟨1, 1⟩) (meth := k1m1) (c := k1c1) (by decide +kernel) rfl rfl rfl (by decide +kernel)
set_option maxRecDepth 65536 in
theorem w_c5 : (Jvm.Cond.code ({ cls := "com/example/tidemark/tidemark/model/SnapshotRequest", name := "<init>", desc := "(JIJJJIJ[B)V" } : Jvm.MethodName) prog_77_method_1_code (14 : Nat) (Option.none : Option Jvm.ClassFile.FieldType)).before args0 about1 = true := code_word (m := ⟨5, 0⟩) (meth := k5m0) (c := k5c0) (by decide +kernel) rfl rfl rfl (by decide +kernel)
set_option maxRecDepth 65536 in
theorem w_c6 : (Jvm.Cond.code ({ cls := "java/lang/Record", name := "<init>", desc := "()V" } : Jvm.MethodName) jdk_30_method_1_code (1 : Nat) (Option.none : Option Jvm.ClassFile.FieldType)).before args0 about1 = true := code_word (m := ⟨3, 0⟩) (meth := k3m0) (c := k3c0) (by decide +kernel) rfl rfl rfl (by decide +kernel)
set_option maxRecDepth 65536 in
theorem w_c7 : (Jvm.Cond.code ({ cls := "java/lang/Object", name := "<init>", desc := "()V" } : Jvm.MethodName) object_method_1_code (1 : Nat) (Option.none : Option Jvm.ClassFile.FieldType)).before args0 about1 = true := code_word (m := ⟨0, 0⟩) (meth := k0m0) (c := k0c0) (by decide +kernel) rfl rfl rfl (by decide +kernel)
set_option maxRecDepth 65536 in
theorem w_c8 : (Jvm.Cond.code ({ cls := "com/example/tidemark/tidemark/model/SnapshotRequest", name := "isLast", desc := "()Z" } : Jvm.MethodName) prog_77_method_2_code (1 : Nat) (Option.some Jvm.ClassFile.FieldType.boolean)).before args0 about1 = true := code_word (m := ⟨5, 1⟩) (meth := k5m1) (c := k5c1) (by decide +kernel) rfl rfl rfl (by decide +kernel)
def codes1 : List Jvm.Cond := [Jvm.Cond.code x code maxLocals ret, Jvm.Cond.code ({ cls := "java/lang/Math", name := "max", desc := "(II)I" } : Jvm.MethodName) jdk_29_method_65_code (2 : Nat) (Option.some Jvm.ClassFile.FieldType.int), Jvm.Cond.code ({ cls := "java/lang/Math", name := "max", desc := "(JJ)J" } : Jvm.MethodName) jdk_29_method_66_code (4 : Nat) (Option.some Jvm.ClassFile.FieldType.long), Jvm.Cond.code ({ cls := "java/lang/Math", name := "min", desc := "(JJ)J" } : Jvm.MethodName) jdk_29_method_70_code (4 : Nat) (Option.some Jvm.ClassFile.FieldType.long), Jvm.Cond.code ({ cls := "com/example/tidemark/tidemark/model/SnapshotRequestIsLastPinLaw", name := "part", desc := "(II)[B" } : Jvm.MethodName) method_2_code (2 : Nat) (Option.some (Jvm.ClassFile.FieldType.array Jvm.ClassFile.FieldType.byte)), Jvm.Cond.code ({ cls := "com/example/tidemark/tidemark/model/SnapshotRequest", name := "<init>", desc := "(JIJJJIJ[B)V" } : Jvm.MethodName) prog_77_method_1_code (14 : Nat) (Option.none : Option Jvm.ClassFile.FieldType), Jvm.Cond.code ({ cls := "java/lang/Record", name := "<init>", desc := "()V" } : Jvm.MethodName) jdk_30_method_1_code (1 : Nat) (Option.none : Option Jvm.ClassFile.FieldType), Jvm.Cond.code ({ cls := "java/lang/Object", name := "<init>", desc := "()V" } : Jvm.MethodName) object_method_1_code (1 : Nat) (Option.none : Option Jvm.ClassFile.FieldType), Jvm.Cond.code ({ cls := "com/example/tidemark/tidemark/model/SnapshotRequest", name := "isLast", desc := "()Z" } : Jvm.MethodName) prog_77_method_2_code (1 : Nat) (Option.some Jvm.ClassFile.FieldType.boolean)]
set_option maxRecDepth 65536 in
theorem codes_eq : words1.filter isCode = codes1 := rfl
theorem w_codes : ∀ c ∈ words1.filter isCode, c.before args0 about1 = true := by
  rw [codes_eq]
  intro c hc
  simp only [codes1, List.mem_cons, List.not_mem_nil, or_false] at hc
  rcases hc with rfl | rfl | rfl | rfl | rfl | rfl | rfl | rfl | rfl
  · exact w_c0
  · exact w_c1
  · exact w_c2
  · exact w_c3
  · exact w_c4
  · exact w_c5
  · exact w_c6
  · exact w_c7
  · exact w_c8
set_option maxRecDepth 65536 in
theorem w_t1 : (words1.take 24).all (fun c => isCode c || c.before args0 about1) = true := by decide +kernel
set_option maxRecDepth 65536 in
theorem w_t2 : ((words1.drop 24).take 24).all (fun c => isCode c || c.before args0 about1) = true := by decide +kernel
set_option maxRecDepth 65536 in
theorem w_t3 : ((words1.drop 24).drop 24).all (fun c => isCode c || c.before args0 about1) = true := by decide +kernel
theorem w_tables : (allAtoms (Jvm.Cond.code x code maxLocals ret :: tables_1)).before args0 about1 = true := by
  rw [allAtoms_all]
  show words1.all (fun c => c.before args0 about1) = true
  refine all_split ?_ w_codes
  rw [← List.take_append_drop 24 words1, List.all_append, w_t1, ← List.take_append_drop 24 (words1.drop 24), List.all_append, w_t2, w_t3]
  rfl
set_option maxRecDepth 65536 in
theorem w_case : (Jvm.Cond.and given_1 narrow_1).before args0 about1 = true := by decide +kernel
theorem w_applies : (headSpec (Jvm.Cond.code x code maxLocals ret :: tables_1) room_1).applies x e0.platform about1 = true :=
  (Spec.applies_iff w_frames).mpr ⟨w_running, w_runnable, w_alone, w_named, w_hears, w_ripe, w_room, w_tables⟩
theorem atStart : AtStart classFile x code maxLocals ret World_1 tables_1 room_1 Calls_1 rest_1 Pre_1 launch0 p0 e0 about1 theMethod args0 below0 :=
  ⟨lists_1, trivial, launch0.admits_env _ _ _, launch0.least_env, fairChoices_fair.cas, fairChoices_fair.clock, w_frames, w_args, w_heap, w_applies, trivial, trivial, w_case⟩
end start1
theorem witness_1 : WitnessClaimed_1 := ⟨start1.p0, start1.e0, start1.about1, start1.theMethod, start1.args0, start1.below0, start1.atStart⟩
end Jvm.Pilot.@@N@@
