import JvmDerived
import JvmDerived.Pilot.@@N@@Statement
import JvmDerived.Pilot.@@N@@Code
set_option linter.unusedVariables false
set_option linter.unusedSimpArgs false

namespace Jvm.Pilot.@@N@@
open Jvm Jvm.ClassFile Sem Op Lib Jvm.Free Jvm.Stand Jvm.LawKit Jvm.RoadKit Bundle Jvm.Pilot.@@N@@.Jvm.D
/-! own kit: the walk's goal carried forward, arrays as functions -/
def own_Fin (below : List Frame) (s : State) (Q : Option Value → Heap → List Loc → Prop) (k n : Nat) (t : State) : Prop :=
  ∃ o, t.status = .running ∧ Ended t below o ∧ ∃ v L, o = .returned v ∧ Q v t.heap L ∧ FrameEnd s o t L k n
def own_Go (tb : Tables) (e : Env) (below : List Frame) (S : State) (P : State → Prop) : Prop := ∃ t, Steps tb e below S t ∧ P t
theorem own_by {tb : Tables} {e : Env} {below : List Frame} {S S' : State} {P : State → Prop} (k : ∀ t, Steps tb e below S' t → Steps tb e below S t) (h : own_Go tb e below S' P) : own_Go tb e below S P := by
  obtain ⟨t, a, b⟩ := h
  exact ⟨t, k t a, b⟩
theorem own_tr {tb : Tables} {e : Env} {below : List Frame} {S S' : State} {P : State → Prop} (k : Steps tb e below S S') (h : own_Go tb e below S' P) : own_Go tb e below S P := by
  obtain ⟨t, a, b⟩ := h
  exact ⟨t, k.trans a, b⟩
theorem own_out {tb : Tables} {e : Env} {below : List Frame} {S s : State} {Q : Option Value → Heap → List Loc → Prop} {k n : Nat} (h : own_Go tb e below S (own_Fin below s Q k n)) :
    ∃ s₂ o, Steps tb e below S s₂ ∧ s₂.status = .running ∧ Ended s₂ below o ∧ ∃ v L, o = .returned v ∧ Q v s₂.heap L ∧ FrameEnd s o s₂ L k n := by
  obtain ⟨t, a, o, b, c, d⟩ := h
  exact ⟨t, o, a, b, c, d⟩
theorem own_cast {tb : Tables} {e : Env} {below : List Frame} {T : State} {g g' : JFrame} {P : State → Prop} (q : g = g') (h : own_Go tb e below (T.setTop g') P) : own_Go tb e below (T.setTop g) P := q ▸ h
section OwnEnd
variable {p : Program} {l : Launch} {e : Env} {R : Room} {s : State} {m : MethodId} {args : Array Value} {below : List Frame} {meth : Method} {c : Code} {T : State} {locs : List Loc} {cells slots : Nat} {Q : Option Value → Heap → List Loc → Prop} {k n : Nat}
theorem own_ret (X : Stand p l e R s m args below meth c T locs cells slots) (hx : p.tables.exec = Jvm.exec) (hlocks : meth.locks = false) {pc : Nat} {Ls : Array Slot} {w : Value} {t : FieldType} {i : Instr} {rest : List Value} (hret : meth.sig.returnType = some t) (hn : narrow t w = w)
    (hi : (i = .ireturn ∧ (t = .int ∨ t = .boolean ∨ t = .byte ∨ t = .char ∨ t = .short) ∧ ∃ z, w = .int z) ∨ (i = .lreturn ∧ t = .long ∧ ∃ z, w = .long z) ∨ (i = .dreturn ∧ t = .double ∧ ∃ z, w = .double z) ∨ (i = .freturn ∧ t = .float ∧ ∃ z, w = .float z) ∨ (i = .areturn ∧ t.isReference = true ∧ w.isRef = true))
    (hd : decode c.code pc = .ok (i, 1)) (hQ : Q (some w) T.heap locs) (h1 : cells ≤ k) (h2 : slots ≤ n) :
    own_Go p.tables e below (T.setTop (mkF m pc Ls (w :: rest))) (own_Fin below s Q k n) := by
  obtain ⟨fs, hr, hrun, hended, hW, hsame⟩ := X.leave (v := some w) (fun h => by rw [hret] at h; cases h) hlocks
  exact ⟨_, retOut X hx hret hn hi hd hr, _, hrun, hended, _, _, rfl, hQ, ⟨_, rfl⟩, hW, hsame.mono h1 h2⟩
theorem own_retI (X : Stand p l e R s m args below meth c T locs cells slots) (hx : p.tables.exec = Jvm.exec) (hlocks : meth.locks = false) {pc : Nat} {Ls : Array Slot} {z : Int32} {rest : List Value} (hret : meth.sig.returnType = some .int)
    (hd : decode c.code pc = .ok (.ireturn, 1)) (hQ : Q (some (.int z)) T.heap locs) (h1 : cells ≤ k) (h2 : slots ≤ n) :
    own_Go p.tables e below (T.setTop (mkF m pc Ls (.int z :: rest))) (own_Fin below s Q k n) :=
  own_ret X hx hlocks hret rfl (Or.inl ⟨rfl, Or.inl rfl, _, rfl⟩) hd hQ h1 h2
theorem own_retJ (X : Stand p l e R s m args below meth c T locs cells slots) (hx : p.tables.exec = Jvm.exec) (hlocks : meth.locks = false) {pc : Nat} {Ls : Array Slot} {z : Int64} {rest : List Value} (hret : meth.sig.returnType = some .long)
    (hd : decode c.code pc = .ok (.lreturn, 1)) (hQ : Q (some (.long z)) T.heap locs) (h1 : cells ≤ k) (h2 : slots ≤ n) :
    own_Go p.tables e below (T.setTop (mkF m pc Ls (.long z :: rest))) (own_Fin below s Q k n) :=
  own_ret X hx hlocks hret rfl (Or.inr (Or.inl ⟨rfl, rfl, _, rfl⟩)) hd hQ h1 h2
theorem own_retA (X : Stand p l e R s m args below meth c T locs cells slots) (hx : p.tables.exec = Jvm.exec) (hlocks : meth.locks = false) {pc : Nat} {Ls : Array Slot} {w : Value} {t : FieldType} {rest : List Value} (hret : meth.sig.returnType = some t) (ht : t.isReference = true) (hw : w.isRef = true) (hn : narrow t w = w)
    (hd : decode c.code pc = .ok (.areturn, 1)) (hQ : Q (some w) T.heap locs) (h1 : cells ≤ k) (h2 : slots ≤ n) :
    own_Go p.tables e below (T.setTop (mkF m pc Ls (w :: rest))) (own_Fin below s Q k n) :=
  own_ret X hx hlocks hret hn (Or.inr (Or.inr (Or.inr (Or.inr ⟨rfl, ht, hw⟩)))) hd hQ h1 h2
theorem own_retN (X : Stand p l e R s m args below meth c T locs cells slots) (hx : p.tables.exec = Jvm.exec) (hlocks : meth.locks = false) {pc : Nat} {Ls : Array Slot} {z : Int32} {t : FieldType} {rest : List Value} (hret : meth.sig.returnType = some t) (ht : t = .boolean ∨ t = .byte ∨ t = .char ∨ t = .short) (hn : nar t z = z)
    (hd : decode c.code pc = .ok (.ireturn, 1)) (hQ : Q (some (.int z)) T.heap locs) (h1 : cells ≤ k) (h2 : slots ≤ n) :
    own_Go p.tables e below (T.setTop (mkF m pc Ls (.int z :: rest))) (own_Fin below s Q k n) := by
  obtain ⟨fs, hr, hrun, hended, hW, hsame⟩ := X.leave (v := some (.int (nar t z))) (fun h => by rw [hret] at h; cases h) hlocks
  exact ⟨_, retN X hx hret ht hd hr, _, hrun, hended, _, _, rfl, (by rw [hn]; exact hQ), ⟨_, rfl⟩, hW, hsame.mono h1 h2⟩
theorem own_retV (X : Stand p l e R s m args below meth c T locs cells slots) (hx : p.tables.exec = Jvm.exec) (hlocks : meth.locks = false) {pc : Nat} {Ls : Array Slot} (hret : meth.sig.returnType = none)
    (hd : decode c.code pc = .ok (.return_, 1)) (hQ : Q none T.heap locs) (h1 : cells ≤ k) (h2 : slots ≤ n) :
    own_Go p.tables e below (T.setTop (mkF m pc Ls [])) (own_Fin below s Q k n) := by
  obtain ⟨fs, hr, hrun, hended, hW, hsame⟩ := X.leave (v := none) (fun _ => rfl) hlocks
  exact ⟨_, X.returnOut hx hret hd hr, _, hrun, hended, _, _, rfl, hQ, ⟨_, rfl⟩, hW, hsame.mono h1 h2⟩
end OwnEnd
/-- one place of a function changed -/
def own_upd {α : Type} (f : Nat → α) (k : Nat) (x : α) : Nat → α := fun i => if i = k then x else f i
theorem own_upd_at {α : Type} (f : Nat → α) (k : Nat) (x : α) : own_upd f k x k = x := by simp [own_upd]
theorem own_upd_ne {α : Type} (f : Nat → α) {k i : Nat} (x : α) (h : i ≠ k) : own_upd f k x i = f i := by simp [own_upd, h]
/-- an array: its length, and what each place holds -/
def own_AF (Z : State) (h : Heap) (a : Addr) (ty : FieldType) (n : Nat) (f : Nat → Value) : Prop := ∃ c : Cell, Arr Z h a c ty ∧ c.slots.size = n ∧ ∀ i, i < n → c.slots[i]? = some (f i)
def own_AI (Z : State) (h : Heap) (a : Addr) (ty : FieldType) (n : Nat) (b : Nat → Int32) : Prop := own_AF Z h a ty n (fun i => .int (b i))
def own_AJ (Z : State) (h : Heap) (a : Addr) (n : Nat) (b : Nat → Int64) : Prop := own_AF Z h a .long n (fun i => .long (b i))
section OwnArr
variable {Z : State} {h h' : Heap} {a b : Addr} {ty : FieldType} {n : Nat} {f : Nat → Value} {ws : List Addr} {sl : Nat} {v : Value} {bi : Nat → Int32} {bj : Nat → Int64}
theorem own_AF.lt (F : own_AF Z h a ty n f) : a < h.size := by obtain ⟨c, A, -⟩ := F; exact A.lt
theorem own_AF.ext (F : own_AF Z h a ty n f) (E : Ext h h') : own_AF Z h' a ty n f := by obtain ⟨c, A, r⟩ := F; exact ⟨c, A.ext E, r⟩
theorem own_AF.other (F : own_AF Z h b ty n f) (W : Wr h h' a sl v) (q : b ≠ a) : own_AF Z h' b ty n f := by obtain ⟨c, A, r⟩ := F; exact ⟨c, A.other W q, r⟩
theorem own_AF.keep (F : own_AF Z h a ty n f) (K : Keep h h' ws) (q : a ∉ ws) : own_AF Z h' a ty n f := by obtain ⟨c, A, r⟩ := F; exact ⟨c, ⟨K.2.1 a c A.1 q, A.2⟩, r⟩
theorem own_AF.congr (F : own_AF Z h a ty n f) {f' : Nat → Value} (q : ∀ i, i < n → f i = f' i) : own_AF Z h a ty n f' := by obtain ⟨c, A, S, r⟩ := F; exact ⟨c, A, S, fun i hi => by rw [← q i hi]; exact r i hi⟩
theorem own_AF.new {k : ClassId} {z : Int32} (A : Arr Z h a (newA k ty z) ty) (hz : z.toNatClampNeg = n) : own_AF Z h a ty n (fun _ => defaultValue ty) := by
  subst hz
  exact ⟨_, A, sz_new _ _ _, fun i hi => by simp [newA, hi]⟩
theorem own_AF.st (F : own_AF Z h a ty n f) (W : Wr h h' a sl v) : own_AF Z h' a ty n (own_upd f sl v) := by
  obtain ⟨c, A, S, r⟩ := F
  refine ⟨_, A.same W, by rw [sz_set]; exact S, fun i hi => ?_⟩
  by_cases u : i = sl
  · subst u; rw [own_upd_at]; simp [Cell.setSlot, S, hi]
  · rw [own_upd_ne _ _ u]
    simp only [Cell.setSlot]
    rw [Array.getElem?_setIfInBounds_ne (fun q => u q.symm)]; exact r i hi
theorem own_AI.st {x : Int32} (F : own_AI Z h a ty n bi) (W : Wr h h' a sl (.int x)) : own_AI Z h' a ty n (own_upd bi sl x) :=
  (own_AF.st F W).congr fun i _ => by by_cases u : i = sl <;> simp [own_upd, u]
theorem own_AJ.st {x : Int64} (F : own_AJ Z h a n bj) (W : Wr h h' a sl (.long x)) : own_AJ Z h' a n (own_upd bj sl x) :=
  (own_AF.st F W).congr fun i _ => by by_cases u : i = sl <;> simp [own_upd, u]
theorem own_AI.lt (F : own_AI Z h a ty n bi) : a < h.size := own_AF.lt F
theorem own_AI.ext (F : own_AI Z h a ty n bi) (E : Ext h h') : own_AI Z h' a ty n bi := own_AF.ext F E
theorem own_AI.other (F : own_AI Z h b ty n bi) (W : Wr h h' a sl v) (q : b ≠ a) : own_AI Z h' b ty n bi := own_AF.other F W q
theorem own_AI.keep (F : own_AI Z h a ty n bi) (K : Keep h h' ws) (q : a ∉ ws) : own_AI Z h' a ty n bi := own_AF.keep F K q
theorem own_AI.congr (F : own_AI Z h a ty n bi) {b' : Nat → Int32} (q : ∀ i, i < n → bi i = b' i) : own_AI Z h a ty n b' := own_AF.congr F fun i hi => by rw [q i hi]
theorem own_AJ.lt (F : own_AJ Z h a n bj) : a < h.size := own_AF.lt F
theorem own_AJ.ext (F : own_AJ Z h a n bj) (E : Ext h h') : own_AJ Z h' a n bj := own_AF.ext F E
theorem own_AJ.other (F : own_AJ Z h b n bj) (W : Wr h h' a sl v) (q : b ≠ a) : own_AJ Z h' b n bj := own_AF.other F W q
theorem own_AJ.keep (F : own_AJ Z h a n bj) (K : Keep h h' ws) (q : a ∉ ws) : own_AJ Z h' a n bj := own_AF.keep F K q
theorem own_AJ.congr (F : own_AJ Z h a n bj) {b' : Nat → Int64} (q : ∀ i, i < n → bj i = b' i) : own_AJ Z h a n b' := own_AF.congr F fun i hi => by rw [q i hi]
variable {p : Program} {l : Launch} {e : Env} {R : Room} {s : State} {m : MethodId} {args : Array Value} {below : List Frame} {meth : Method} {c : Code} {T : State} {locs : List Loc} {cells slots : Nat} {j : Int32} {k : Nat} {g : JFrame} {rest : List Value}
theorem own_in {cl : Cell} (S : cl.slots.size = n) (h0 : ¬ j < 0) (hk : j.toNatClampNeg = k) (hlt : k < n) : ¬ (j < 0 ∨ cl.slots.size ≤ j.toNatClampNeg) := by
  rintro (q | q)
  · exact h0 q
  · rw [S, hk] at q; omega
theorem own_ldB (X : Stand p l e R s m args below meth c T locs cells slots) (hx : p.tables.exec = Jvm.exec) (hZ : Z.Warmed39 s.vm) (eT : T.heap = h) (A : own_AI Z h a .byte n bi) (h0 : ¬ j < 0) (hk : j.toNatClampNeg = k) (hlt : k < n) (hg : g.method = m) (hs : g.stack = .int j :: .ref a :: rest) (hd : decode c.code g.pc = .ok (.baload, 1)) :
    ∀ target, Steps p.tables e below (T.setTop { g with pc := g.pc + 1, stack := .int (bi k) :: rest }) target → Steps p.tables e below (T.setTop g) target := by
  obtain ⟨cl, Ar, S, H⟩ := A
  exact X.baloadBytes hx (v := .int (bi k)) (by rw [eT]; exact Ar.1) (State.isArrayOf_alike hZ.alike Ar.2.1) Ar.2.2 (own_in S h0 hk hlt) (by rw [hk]; exact H k hlt) hg hs hd
theorem own_ldI (X : Stand p l e R s m args below meth c T locs cells slots) (hx : p.tables.exec = Jvm.exec) (hZ : Z.Warmed39 s.vm) (eT : T.heap = h) (A : own_AI Z h a .int n bi) (h0 : ¬ j < 0) (hk : j.toNatClampNeg = k) (hlt : k < n) (hg : g.method = m) (hs : g.stack = .int j :: .ref a :: rest) (hd : decode c.code g.pc = .ok (.iaload, 1)) :
    ∀ target, Steps p.tables e below (T.setTop { g with pc := g.pc + 1, stack := .int (bi k) :: rest }) target → Steps p.tables e below (T.setTop g) target := by
  obtain ⟨cl, Ar, S, H⟩ := A
  exact X.iaload hx (v := .int (bi k)) (by rw [eT]; exact Ar.1) (State.isArrayOf_alike hZ.alike Ar.2.1) Ar.2.2 (own_in S h0 hk hlt) (by rw [hk]; exact H k hlt) hg hs hd
theorem own_ldJ (X : Stand p l e R s m args below meth c T locs cells slots) (hx : p.tables.exec = Jvm.exec) (hZ : Z.Warmed39 s.vm) (eT : T.heap = h) (A : own_AJ Z h a n bj) (h0 : ¬ j < 0) (hk : j.toNatClampNeg = k) (hlt : k < n) (hg : g.method = m) (hs : g.stack = .int j :: .ref a :: rest) (hd : decode c.code g.pc = .ok (.laload, 1)) :
    ∀ target, Steps p.tables e below (T.setTop { g with pc := g.pc + 1, stack := .long (bj k) :: rest }) target → Steps p.tables e below (T.setTop g) target := by
  obtain ⟨cl, Ar, S, H⟩ := A
  exact X.laload hx (v := .long (bj k)) (by rw [eT]; exact Ar.1) (State.isArrayOf_alike hZ.alike Ar.2.1) Ar.2.2 (own_in S h0 hk hlt) (by rw [hk]; exact H k hlt) hg hs hd
theorem own_len (X : Stand p l e R s m args below meth c T locs cells slots) (hx : p.tables.exec = Jvm.exec) (hZ : Z.Warmed39 s.vm) (eT : T.heap = h) (A : own_AF Z h a ty n f) {z : Int32} (hz : n.toInt32 = z) (hg : g.method = m) (hs : g.stack = .ref a :: rest) (hd : decode c.code g.pc = .ok (.arraylength, 1)) :
    ∀ target, Steps p.tables e below (T.setTop { g with pc := g.pc + 1, stack := .int z :: rest }) target → Steps p.tables e below (T.setTop g) target := by
  obtain ⟨cl, Ar, S, H⟩ := A
  intro t hr
  refine X.arraylength hx (by rw [eT]; exact Ar.1) (State.isArrayOf_alike hZ.alike Ar.2.1) hg hs hd t ?_
  rw [S, hz]; exact hr
theorem own_stB (X : Stand p l e R s m args below meth c T locs cells slots) (hx : p.tables.exec = Jvm.exec) (hZ : Z.Warmed39 s.vm) (eT : T.heap = h) (A : own_AI Z h a .byte n bi) {x : Int32} (h0 : ¬ j < 0) (hk : j.toNatClampNeg = k) (hlt : k < n) (hg : g.method = m) (hs : g.stack = .int x :: .int j :: .ref a :: rest) (hd : decode c.code g.pc = .ok (.bastore, 1)) :
    ∃ T' h', Stand p l e R s m args below meth c T' (locs ++ [⟨a, k⟩]) cells slots ∧ T'.heap = h' ∧ Wr h h' a k (.int (x.toInt8.toInt32)) ∧ own_AI Z h' a .byte n (own_upd bi k (x.toInt8.toInt32)) ∧ ∀ target, Steps p.tables e below (T'.setTop { g with pc := g.pc + 1, stack := rest }) target → Steps p.tables e below (T.setTop g) target := by
  obtain ⟨cl, Ar, S, H⟩ := id A
  obtain ⟨T', h', X', e', W, st⟩ := stB X hx hZ eT Ar (own_in S h0 hk hlt) hg hs hd
  rw [hk] at X' W
  exact ⟨T', h', X', e', W, A.st W, st⟩
theorem own_stI (X : Stand p l e R s m args below meth c T locs cells slots) (hx : p.tables.exec = Jvm.exec) (hZ : Z.Warmed39 s.vm) (eT : T.heap = h) (A : own_AI Z h a .int n bi) {x : Int32} (h0 : ¬ j < 0) (hk : j.toNatClampNeg = k) (hlt : k < n) (hg : g.method = m) (hs : g.stack = .int x :: .int j :: .ref a :: rest) (hd : decode c.code g.pc = .ok (.iastore, 1)) :
    ∃ T' h', Stand p l e R s m args below meth c T' (locs ++ [⟨a, k⟩]) cells slots ∧ T'.heap = h' ∧ Wr h h' a k (.int x) ∧ own_AI Z h' a .int n (own_upd bi k x) ∧ ∀ target, Steps p.tables e below (T'.setTop { g with pc := g.pc + 1, stack := rest }) target → Steps p.tables e below (T.setTop g) target := by
  obtain ⟨cl, Ar, S, H⟩ := id A
  obtain ⟨T', h', X', e', W, st⟩ := stI X hx hZ eT Ar (own_in S h0 hk hlt) hg hs hd
  rw [hk] at X' W
  exact ⟨T', h', X', e', W, A.st W, st⟩
theorem own_stJ (X : Stand p l e R s m args below meth c T locs cells slots) (hx : p.tables.exec = Jvm.exec) (hZ : Z.Warmed39 s.vm) (eT : T.heap = h) (A : own_AJ Z h a n bj) {x : Int64} (h0 : ¬ j < 0) (hk : j.toNatClampNeg = k) (hlt : k < n) (hg : g.method = m) (hs : g.stack = .long x :: .int j :: .ref a :: rest) (hd : decode c.code g.pc = .ok (.lastore, 1)) :
    ∃ T' h', Stand p l e R s m args below meth c T' (locs ++ [⟨a, k⟩]) cells slots ∧ T'.heap = h' ∧ Wr h h' a k (.long x) ∧ own_AJ Z h' a n (own_upd bj k x) ∧ ∀ target, Steps p.tables e below (T'.setTop { g with pc := g.pc + 1, stack := rest }) target → Steps p.tables e below (T.setTop g) target := by
  obtain ⟨cl, Ar, S, H⟩ := id A
  obtain ⟨T', h', X', e', W, st⟩ := stJ X hx hZ eT Ar (own_in S h0 hk hlt) hg hs hd
  rw [hk] at X' W
  exact ⟨T', h', X', e', W, A.st W, st⟩
end OwnArr
/-- what a body leaves that returns an int (a long) and writes nothing -/
def own_QI (h0 : Heap) (n0 : Nat) (f : Int32) (v : Option Value) (h : Heap) (L : List Loc) : Prop := ∃ r : Int32, v = some (.int r) ∧ Fr n0 L ∧ h = h0 ∧ r = f
def own_QJ (h0 : Heap) (n0 : Nat) (f : Int64) (v : Option Value) (h : Heap) (L : List Loc) : Prop := ∃ r : Int64, v = some (.long r) ∧ Fr n0 L ∧ h = h0 ∧ r = f
theorem own_nb {z : Int32} (h : z = 0 ∨ z = 1) : nar .boolean z = z := by rcases h with rfl | rfl <;> decide
/-! sums, differences and products that don't wrap -/
theorem own_add {x y : Int32} (h1 : -2147483648 ≤ x.toInt + y.toInt) (h2 : x.toInt + y.toInt < 2147483648) : (x + y).toInt = x.toInt + y.toInt := by
  have a := c_iadd x y; have b := (x + y).toInt_lt; have c := (x + y).le_toInt; omega
theorem own_sub' {x y : Int32} (h1 : -2147483648 ≤ x.toInt - y.toInt) (h2 : x.toInt - y.toInt < 2147483648) : (x - y).toInt = x.toInt - y.toInt := by
  have a := c_isub x y; have b := (x - y).toInt_lt; have c := (x - y).le_toInt; omega
theorem own_mul {x y : Int32} {t : Int} (ht : x.toInt * y.toInt = t) (h1 : -2147483648 ≤ t) (h2 : t < 2147483648) : (x * y).toInt = t := by
  have a := c_imul x y; rw [ht] at a; have b := (x * y).toInt_lt; have c := (x * y).le_toInt; omega
theorem own_addL {x y : Int64} (h1 : -9223372036854775808 ≤ x.toInt + y.toInt) (h2 : x.toInt + y.toInt < 9223372036854775808) : (x + y).toInt = x.toInt + y.toInt := by
  have a := c_ladd x y; have b := (x + y).toInt_lt; have c := (x + y).le_toInt; omega
theorem own_subL {x y : Int64} (h1 : -9223372036854775808 ≤ x.toInt - y.toInt) (h2 : x.toInt - y.toInt < 9223372036854775808) : (x - y).toInt = x.toInt - y.toInt := by
  have a := c_lsub x y; have b := (x - y).toInt_lt; have c := (x - y).le_toInt; omega
theorem own_mulL {x y : Int64} {t : Int} (ht : x.toInt * y.toInt = t) (h1 : -9223372036854775808 ≤ t) (h2 : t < 9223372036854775808) : (x * y).toInt = t := by
  have a := c_lmul x y; rw [ht] at a; have b := (x * y).toInt_lt; have c := (x * y).le_toInt; omega
def own_rest (p : Int32) : Int32 := (if p < (48 : Int32) then (if p = (95 : Int32) then (1 : Int32) else (0 : Int32)) else (if (57 : Int32) < p then (if p = (95 : Int32) then (1 : Int32) else (0 : Int32)) else (1 : Int32)))
def own_low (p : Int32) : Int32 := (if p < (97 : Int32) then (0 : Int32) else (if (122 : Int32) < p then (0 : Int32) else (1 : Int32)))
def own_upp (p : Int32) : Int32 := (if p < (65 : Int32) then (0 : Int32) else (if (90 : Int32) < p then (0 : Int32) else (1 : Int32)))
def own_idp (p : Int32) : Int32 := if own_low p = 0 then (if own_upp p = 0 then own_rest p else 1) else 1
theorem own_id1 {p r1 r2 : Int32} (h1 : r1 = 0) (hr1 : r1 = own_low p) (hr2 : r2 = own_upp p) : own_idp p = (if r2 = 0 then own_rest p else 1) := by
  subst hr2; unfold own_idp; rw [← hr1, if_pos h1]
theorem own_id2 {p r1 : Int32} (h1 : ¬ r1 = 0) (hr1 : r1 = own_low p) : (1 : Int32) = own_idp p := by
  unfold own_idp; rw [← hr1, if_neg h1]
def own_ref (p : Int32) : Int32 := if p < (0 : Int32) then (0 : Int32) else (if p < (128 : Int32) then (if (((if p < (64 : Int32) then (287948901175001088 : Int64) else (576460745995190270 : Int64)).toUInt64 >>> ((p &&& (63 : Int32)) &&& 0x3f).toInt64.toUInt64).toInt64 &&& (1 : Int64)) = (0 : Int64) then (0 : Int32) else (1 : Int32)) else (0 : Int32))
set_option maxRecDepth 100000 in
theorem own_tab : ∀ n : Fin 128, own_idp (Int32.ofNat n.val) = own_ref (Int32.ofNat n.val) := by decide +kernel
theorem own_same (p : Int32) : own_idp p = own_ref p := by
  by_cases h : p < 0 ∨ ¬ p < 128
  · have e1 : own_ref p = 0 := by
      unfold own_ref
      rcases h with h | h
      · rw [if_pos h]
      · split
        · rfl
        · first | rfl | rw [if_neg h]
    rw [e1]
    rw [Int32.lt_iff_toInt_lt, Int32.lt_iff_toInt_lt] at h
    have z0 : (0 : Int32).toInt = 0 := by decide
    have z1 : (128 : Int32).toInt = 128 := by decide
    rw [z0, z1] at h
    have a1 : (97 : Int32).toInt = 97 := by decide
    have a2 : (122 : Int32).toInt = 122 := by decide
    have a3 : (65 : Int32).toInt = 65 := by decide
    have a4 : (90 : Int32).toInt = 90 := by decide
    have a5 : (48 : Int32).toInt = 48 := by decide
    have a6 : (57 : Int32).toInt = 57 := by decide
    have a7 : (95 : Int32).toInt = 95 := by decide
    have l : own_low p = 0 := by
      unfold own_low; simp only [Int32.lt_iff_toInt_lt, a1, a2]
      split
      · rfl
      · rw [if_pos (by omega)]
    have u : own_upp p = 0 := by
      unfold own_upp; simp only [Int32.lt_iff_toInt_lt, a3, a4]
      split
      · rfl
      · rw [if_pos (by omega)]
    have r : own_rest p = 0 := by
      have n95 : ¬ p = 95 := by rw [← Int32.toInt_inj, a7]; omega
      unfold own_rest; simp only [Int32.lt_iff_toInt_lt, a5, a6, if_neg n95]
      split
      · rfl
      · rw [if_pos (by omega)]
    unfold own_idp; rw [if_pos l, if_pos u, r]
  · have h1 : ¬ p < 0 := fun q => h (Or.inl q)
    have h2 : p < 128 := Classical.byContradiction fun q => h (Or.inr q)
    rw [Int32.lt_iff_toInt_lt] at h1 h2
    have z0 : (0 : Int32).toInt = 0 := by decide
    have z1 : (128 : Int32).toInt = 128 := by decide
    rw [z0] at h1; rw [z1] at h2
    have e : p = Int32.ofNat p.toInt.toNat := by
      apply Int32.toInt_inj.mp
      rw [Int32.toInt_ofNat_small (by omega)]; omega
    have t := own_tab ⟨p.toInt.toNat, by omega⟩
    rw [← e] at t
    exact t
theorem d_prog_8_method_3_0 : decode prog_8_method_3_code 0 = .ok (.iload_n 0, 1) := by decide +kernel
theorem d_prog_8_method_3_1 : decode prog_8_method_3_code 1 = .ok (.bipush 97, 2) := by decide +kernel
theorem d_prog_8_method_3_3 : decode prog_8_method_3_code 3 = .ok (.if_icmp .lt 13, 3) := by decide +kernel
theorem d_prog_8_method_3_16 : decode prog_8_method_3_code 16 = .ok (.iconst 0, 1) := by decide +kernel
theorem d_prog_8_method_3_6 : decode prog_8_method_3_code 6 = .ok (.iload_n 0, 1) := by decide +kernel
theorem d_prog_8_method_3_7 : decode prog_8_method_3_code 7 = .ok (.bipush 122, 2) := by decide +kernel
theorem d_prog_8_method_3_9 : decode prog_8_method_3_code 9 = .ok (.if_icmp .gt 7, 3) := by decide +kernel
theorem d_prog_8_method_3_12 : decode prog_8_method_3_code 12 = .ok (.iconst 1, 1) := by decide +kernel
theorem d_prog_8_method_3_13 : decode prog_8_method_3_code 13 = .ok (.goto 4, 3) := by decide +kernel
theorem d_prog_8_method_3_17 : decode prog_8_method_3_code 17 = .ok (.ireturn, 1) := by decide +kernel
theorem ef_rm_lower (m : MethodId) (p1 : Int32) : entryFrame m #[(.int p1)] 1 = mkF m 0 #[.val (.int p1)] [] := by first | (simp [entryFrame, mkF, argsToLocals, Value.category]; done) | rfl
theorem pn_10 : plainName "com/example/rewright/rewright/dlgp/Syntax" = true := by first | (simp [plainName, overriddenIn]; done) | decide +kernel
set_option maxRecDepth 65536 in
set_option maxHeartbeats 40000000 in
theorem rm_lower (l : Launch) (Z : State) (a0 : Array Value) (hw : ∀ d ∈ tables_1, d.before a0 Z = true) (ws : List Jvm.Cond) (p1 : Int32) (h0 : Heap) (n0 : Nat) (Z0 : n0 ≤ h0.size)  :
    MetFree l (⟨"com/example/rewright/rewright/dlgp/Syntax", "isLowerStart", "(I)Z"⟩ : MethodName) (head1 (Jvm.Cond.code (⟨"com/example/rewright/rewright/dlgp/Syntax", "isLowerStart", "(I)Z"⟩ : MethodName) prog_8_method_3_code 1 (some .boolean) :: ws) ({ frames := 0, cells := 0, slots := 0, locals := 0 } : Room)) (fun zA zU => zA = #[(.int p1)] ∧ Z.Warmed39 zU.vm ∧ zU.heap = h0) (fun _ _ _ _ _ => True) (fun _ zU zo zW => ∃ zv zL, zo = .returned zv ∧ (own_QI h0 n0 (if p1 < (97 : Int32) then (0 : Int32) else (if (122 : Int32) < p1 then (0 : Int32) else (1 : Int32)))) zv zW.heap zL ∧ FrameEnd zU zo zW zL ({ frames := 0, cells := 0, slots := 0, locals := 0 } : Room).cells ({ frames := 0, cells := 0, slots := 0, locals := 0 } : Room).slots) := by
  refine MetFree.of_bodySF (plainFor_of_name pn_10) hisR ?_
  intro p e s m args below meth c s₁ Bd hml0 hP hK
  obtain ⟨rfl, hZ, hh⟩ := hP
  have hx := Bd.exec
  have hby := Bd.bytes
  have hml : c.maxLocals = 1 := hml0
  have hown : s.vm.findClass "com/example/rewright/rewright/dlgp/Syntax" = some m.cls := findClass_of_methodNamed Bd.named
  have hnm := (name_of_methodNamed Bd.named Bd.method).1
  have X0 : Stand p l e ({ frames := 0, cells := 0, slots := 0, locals := 0 } : Room) s m #[(.int p1)] below meth c s₁ [] 0 0 := Stand.of_body Bd
  have e0 : s₁.heap = h0 := by rw [← hh, Bd.state]; rfl
  have N0 := Fr.nil n0
  refine own_out (Q := own_QI h0 n0 (if p1 < (97 : Int32) then (0 : Int32) else (if (122 : Int32) < p1 then (0 : Int32) else (1 : Int32)))) ?_
  refine own_cast (ef_rm_lower m p1) ?_
  show own_Go p.tables e below (s₁.setTop (mkF m 0 #[.val (.int p1)] [])) _
  obtain ⟨q, hq, sj3⟩ : ∃ (q : Int32), q = (if p1 < (97 : Int32) then (0 : Int32) else (if (122 : Int32) < p1 then (0 : Int32) else (1 : Int32))) ∧ ∀ t, Steps p.tables e below (s₁.setTop (mkF m 17 #[.val (.int p1)] [(.int q)])) t → Steps p.tables e below (s₁.setTop (mkF m 0 #[.val (.int p1)] [])) t := by
    by_cases j1 : p1 < (97 : Int32)
    · refine ⟨((0 : Int32)), (if_pos j1).symm, fun t k => ?_⟩
      show Steps p.tables e below (s₁.setTop (mkF m 0 #[.val (.int p1)] [])) _
      refine XS.iloadN X0.here hx rfl (hb hby d_prog_8_method_3_0) rfl ?_
      show Steps p.tables e below (s₁.setTop (mkF m 1 #[.val (.int p1)] [(.int p1)])) _
      refine XS.bipush X0.here hx rfl (hb hby d_prog_8_method_3_1) ?_
      show Steps p.tables e below (s₁.setTop (mkF m 3 #[.val (.int p1)] [(.int (97 : Int32)), (.int p1)])) _
      refine XS.icmpYes X0.here hx rfl (pc0 := 3) (pc' := 16) rfl (hb hby d_prog_8_method_3_3) rfl (tlt j1).1 (by decide) (by decide) ?_
      show Steps p.tables e below (s₁.setTop (mkF m 16 #[.val (.int p1)] [])) _
      refine XS.iconst X0.here hx rfl (hb hby d_prog_8_method_3_16) ?_
      show Steps p.tables e below (s₁.setTop (mkF m 17 #[.val (.int p1)] [(.int (0 : Int32))])) _
      exact k
    · by_cases j2 : (122 : Int32) < p1
      · refine ⟨((0 : Int32)), ((if_neg j1).trans (if_pos j2)).symm, fun t k => ?_⟩
        show Steps p.tables e below (s₁.setTop (mkF m 0 #[.val (.int p1)] [])) _
        refine XS.iloadN X0.here hx rfl (hb hby d_prog_8_method_3_0) rfl ?_
        show Steps p.tables e below (s₁.setTop (mkF m 1 #[.val (.int p1)] [(.int p1)])) _
        refine XS.bipush X0.here hx rfl (hb hby d_prog_8_method_3_1) ?_
        show Steps p.tables e below (s₁.setTop (mkF m 3 #[.val (.int p1)] [(.int (97 : Int32)), (.int p1)])) _
        refine XS.icmpNo X0.here hx rfl (hb hby d_prog_8_method_3_3) rfl (flt j1).1 ?_
        show Steps p.tables e below (s₁.setTop (mkF m 6 #[.val (.int p1)] [])) _
        refine XS.iloadN X0.here hx rfl (hb hby d_prog_8_method_3_6) rfl ?_
        show Steps p.tables e below (s₁.setTop (mkF m 7 #[.val (.int p1)] [(.int p1)])) _
        refine XS.bipush X0.here hx rfl (hb hby d_prog_8_method_3_7) ?_
        show Steps p.tables e below (s₁.setTop (mkF m 9 #[.val (.int p1)] [(.int (122 : Int32)), (.int p1)])) _
        refine XS.icmpYes X0.here hx rfl (pc0 := 9) (pc' := 16) rfl (hb hby d_prog_8_method_3_9) rfl (tlt j2).2.2.1 (by decide) (by decide) ?_
        show Steps p.tables e below (s₁.setTop (mkF m 16 #[.val (.int p1)] [])) _
        refine XS.iconst X0.here hx rfl (hb hby d_prog_8_method_3_16) ?_
        show Steps p.tables e below (s₁.setTop (mkF m 17 #[.val (.int p1)] [(.int (0 : Int32))])) _
        exact k
      · refine ⟨((1 : Int32)), ((if_neg j1).trans (if_neg j2)).symm, fun t k => ?_⟩
        show Steps p.tables e below (s₁.setTop (mkF m 0 #[.val (.int p1)] [])) _
        refine XS.iloadN X0.here hx rfl (hb hby d_prog_8_method_3_0) rfl ?_
        show Steps p.tables e below (s₁.setTop (mkF m 1 #[.val (.int p1)] [(.int p1)])) _
        refine XS.bipush X0.here hx rfl (hb hby d_prog_8_method_3_1) ?_
        show Steps p.tables e below (s₁.setTop (mkF m 3 #[.val (.int p1)] [(.int (97 : Int32)), (.int p1)])) _
        refine XS.icmpNo X0.here hx rfl (hb hby d_prog_8_method_3_3) rfl (flt j1).1 ?_
        show Steps p.tables e below (s₁.setTop (mkF m 6 #[.val (.int p1)] [])) _
        refine XS.iloadN X0.here hx rfl (hb hby d_prog_8_method_3_6) rfl ?_
        show Steps p.tables e below (s₁.setTop (mkF m 7 #[.val (.int p1)] [(.int p1)])) _
        refine XS.bipush X0.here hx rfl (hb hby d_prog_8_method_3_7) ?_
        show Steps p.tables e below (s₁.setTop (mkF m 9 #[.val (.int p1)] [(.int (122 : Int32)), (.int p1)])) _
        refine XS.icmpNo X0.here hx rfl (hb hby d_prog_8_method_3_9) rfl (flt j2).2.2.1 ?_
        show Steps p.tables e below (s₁.setTop (mkF m 12 #[.val (.int p1)] [])) _
        refine XS.iconst X0.here hx rfl (hb hby d_prog_8_method_3_12) ?_
        show Steps p.tables e below (s₁.setTop (mkF m 13 #[.val (.int p1)] [(.int (1 : Int32))])) _
        refine XS.goto X0.here hx rfl (pc0 := 13) (pc' := 17) rfl (hb hby d_prog_8_method_3_13) (by decide) (by decide) ?_
        show Steps p.tables e below (s₁.setTop (mkF m 17 #[.val (.int p1)] [(.int (1 : Int32))])) _
        exact k
  refine own_by (sj3) ?_
  show own_Go p.tables e below (s₁.setTop (mkF m 17 #[.val (.int p1)] [(.int q)])) _
  exact own_retN X0 hx Bd.notSynchronized (t := .boolean) Bd.returns (by simp) (own_nb (by rw [hq]; (repeat' split) <;> first | exact Or.inl rfl | exact Or.inr rfl)) (hb hby d_prog_8_method_3_17) (by (try rw [e0]); exact ⟨_, rfl, N0, rfl, hq⟩) (by decide) (by decide)
theorem d_prog_8_method_4_0 : decode prog_8_method_4_code 0 = .ok (.iload_n 0, 1) := by decide +kernel
theorem d_prog_8_method_4_1 : decode prog_8_method_4_code 1 = .ok (.bipush 65, 2) := by decide +kernel
theorem d_prog_8_method_4_3 : decode prog_8_method_4_code 3 = .ok (.if_icmp .lt 13, 3) := by decide +kernel
theorem d_prog_8_method_4_16 : decode prog_8_method_4_code 16 = .ok (.iconst 0, 1) := by decide +kernel
theorem d_prog_8_method_4_6 : decode prog_8_method_4_code 6 = .ok (.iload_n 0, 1) := by decide +kernel
theorem d_prog_8_method_4_7 : decode prog_8_method_4_code 7 = .ok (.bipush 90, 2) := by decide +kernel
theorem d_prog_8_method_4_9 : decode prog_8_method_4_code 9 = .ok (.if_icmp .gt 7, 3) := by decide +kernel
theorem d_prog_8_method_4_12 : decode prog_8_method_4_code 12 = .ok (.iconst 1, 1) := by decide +kernel
theorem d_prog_8_method_4_13 : decode prog_8_method_4_code 13 = .ok (.goto 4, 3) := by decide +kernel
theorem d_prog_8_method_4_17 : decode prog_8_method_4_code 17 = .ok (.ireturn, 1) := by decide +kernel
theorem ef_rm_upper (m : MethodId) (p1 : Int32) : entryFrame m #[(.int p1)] 1 = mkF m 0 #[.val (.int p1)] [] := by first | (simp [entryFrame, mkF, argsToLocals, Value.category]; done) | rfl
set_option maxRecDepth 65536 in
set_option maxHeartbeats 40000000 in
theorem rm_upper (l : Launch) (Z : State) (a0 : Array Value) (hw : ∀ d ∈ tables_1, d.before a0 Z = true) (ws : List Jvm.Cond) (p1 : Int32) (h0 : Heap) (n0 : Nat) (Z0 : n0 ≤ h0.size)  :
    MetFree l (⟨"com/example/rewright/rewright/dlgp/Syntax", "isUpperStart", "(I)Z"⟩ : MethodName) (head1 (Jvm.Cond.code (⟨"com/example/rewright/rewright/dlgp/Syntax", "isUpperStart", "(I)Z"⟩ : MethodName) prog_8_method_4_code 1 (some .boolean) :: ws) ({ frames := 0, cells := 0, slots := 0, locals := 0 } : Room)) (fun zA zU => zA = #[(.int p1)] ∧ Z.Warmed39 zU.vm ∧ zU.heap = h0) (fun _ _ _ _ _ => True) (fun _ zU zo zW => ∃ zv zL, zo = .returned zv ∧ (own_QI h0 n0 (if p1 < (65 : Int32) then (0 : Int32) else (if (90 : Int32) < p1 then (0 : Int32) else (1 : Int32)))) zv zW.heap zL ∧ FrameEnd zU zo zW zL ({ frames := 0, cells := 0, slots := 0, locals := 0 } : Room).cells ({ frames := 0, cells := 0, slots := 0, locals := 0 } : Room).slots) := by
  refine MetFree.of_bodySF (plainFor_of_name pn_10) hisR ?_
  intro p e s m args below meth c s₁ Bd hml0 hP hK
  obtain ⟨rfl, hZ, hh⟩ := hP
  have hx := Bd.exec
  have hby := Bd.bytes
  have hml : c.maxLocals = 1 := hml0
  have hown : s.vm.findClass "com/example/rewright/rewright/dlgp/Syntax" = some m.cls := findClass_of_methodNamed Bd.named
  have hnm := (name_of_methodNamed Bd.named Bd.method).1
  have X0 : Stand p l e ({ frames := 0, cells := 0, slots := 0, locals := 0 } : Room) s m #[(.int p1)] below meth c s₁ [] 0 0 := Stand.of_body Bd
  have e0 : s₁.heap = h0 := by rw [← hh, Bd.state]; rfl
  have N0 := Fr.nil n0
  refine own_out (Q := own_QI h0 n0 (if p1 < (65 : Int32) then (0 : Int32) else (if (90 : Int32) < p1 then (0 : Int32) else (1 : Int32)))) ?_
  refine own_cast (ef_rm_upper m p1) ?_
  show own_Go p.tables e below (s₁.setTop (mkF m 0 #[.val (.int p1)] [])) _
  obtain ⟨q, hq, sj3⟩ : ∃ (q : Int32), q = (if p1 < (65 : Int32) then (0 : Int32) else (if (90 : Int32) < p1 then (0 : Int32) else (1 : Int32))) ∧ ∀ t, Steps p.tables e below (s₁.setTop (mkF m 17 #[.val (.int p1)] [(.int q)])) t → Steps p.tables e below (s₁.setTop (mkF m 0 #[.val (.int p1)] [])) t := by
    by_cases j1 : p1 < (65 : Int32)
    · refine ⟨((0 : Int32)), (if_pos j1).symm, fun t k => ?_⟩
      show Steps p.tables e below (s₁.setTop (mkF m 0 #[.val (.int p1)] [])) _
      refine XS.iloadN X0.here hx rfl (hb hby d_prog_8_method_4_0) rfl ?_
      show Steps p.tables e below (s₁.setTop (mkF m 1 #[.val (.int p1)] [(.int p1)])) _
      refine XS.bipush X0.here hx rfl (hb hby d_prog_8_method_4_1) ?_
      show Steps p.tables e below (s₁.setTop (mkF m 3 #[.val (.int p1)] [(.int (65 : Int32)), (.int p1)])) _
      refine XS.icmpYes X0.here hx rfl (pc0 := 3) (pc' := 16) rfl (hb hby d_prog_8_method_4_3) rfl (tlt j1).1 (by decide) (by decide) ?_
      show Steps p.tables e below (s₁.setTop (mkF m 16 #[.val (.int p1)] [])) _
      refine XS.iconst X0.here hx rfl (hb hby d_prog_8_method_4_16) ?_
      show Steps p.tables e below (s₁.setTop (mkF m 17 #[.val (.int p1)] [(.int (0 : Int32))])) _
      exact k
    · by_cases j2 : (90 : Int32) < p1
      · refine ⟨((0 : Int32)), ((if_neg j1).trans (if_pos j2)).symm, fun t k => ?_⟩
        show Steps p.tables e below (s₁.setTop (mkF m 0 #[.val (.int p1)] [])) _
        refine XS.iloadN X0.here hx rfl (hb hby d_prog_8_method_4_0) rfl ?_
        show Steps p.tables e below (s₁.setTop (mkF m 1 #[.val (.int p1)] [(.int p1)])) _
        refine XS.bipush X0.here hx rfl (hb hby d_prog_8_method_4_1) ?_
        show Steps p.tables e below (s₁.setTop (mkF m 3 #[.val (.int p1)] [(.int (65 : Int32)), (.int p1)])) _
        refine XS.icmpNo X0.here hx rfl (hb hby d_prog_8_method_4_3) rfl (flt j1).1 ?_
        show Steps p.tables e below (s₁.setTop (mkF m 6 #[.val (.int p1)] [])) _
        refine XS.iloadN X0.here hx rfl (hb hby d_prog_8_method_4_6) rfl ?_
        show Steps p.tables e below (s₁.setTop (mkF m 7 #[.val (.int p1)] [(.int p1)])) _
        refine XS.bipush X0.here hx rfl (hb hby d_prog_8_method_4_7) ?_
        show Steps p.tables e below (s₁.setTop (mkF m 9 #[.val (.int p1)] [(.int (90 : Int32)), (.int p1)])) _
        refine XS.icmpYes X0.here hx rfl (pc0 := 9) (pc' := 16) rfl (hb hby d_prog_8_method_4_9) rfl (tlt j2).2.2.1 (by decide) (by decide) ?_
        show Steps p.tables e below (s₁.setTop (mkF m 16 #[.val (.int p1)] [])) _
        refine XS.iconst X0.here hx rfl (hb hby d_prog_8_method_4_16) ?_
        show Steps p.tables e below (s₁.setTop (mkF m 17 #[.val (.int p1)] [(.int (0 : Int32))])) _
        exact k
      · refine ⟨((1 : Int32)), ((if_neg j1).trans (if_neg j2)).symm, fun t k => ?_⟩
        show Steps p.tables e below (s₁.setTop (mkF m 0 #[.val (.int p1)] [])) _
        refine XS.iloadN X0.here hx rfl (hb hby d_prog_8_method_4_0) rfl ?_
        show Steps p.tables e below (s₁.setTop (mkF m 1 #[.val (.int p1)] [(.int p1)])) _
        refine XS.bipush X0.here hx rfl (hb hby d_prog_8_method_4_1) ?_
        show Steps p.tables e below (s₁.setTop (mkF m 3 #[.val (.int p1)] [(.int (65 : Int32)), (.int p1)])) _
        refine XS.icmpNo X0.here hx rfl (hb hby d_prog_8_method_4_3) rfl (flt j1).1 ?_
        show Steps p.tables e below (s₁.setTop (mkF m 6 #[.val (.int p1)] [])) _
        refine XS.iloadN X0.here hx rfl (hb hby d_prog_8_method_4_6) rfl ?_
        show Steps p.tables e below (s₁.setTop (mkF m 7 #[.val (.int p1)] [(.int p1)])) _
        refine XS.bipush X0.here hx rfl (hb hby d_prog_8_method_4_7) ?_
        show Steps p.tables e below (s₁.setTop (mkF m 9 #[.val (.int p1)] [(.int (90 : Int32)), (.int p1)])) _
        refine XS.icmpNo X0.here hx rfl (hb hby d_prog_8_method_4_9) rfl (flt j2).2.2.1 ?_
        show Steps p.tables e below (s₁.setTop (mkF m 12 #[.val (.int p1)] [])) _
        refine XS.iconst X0.here hx rfl (hb hby d_prog_8_method_4_12) ?_
        show Steps p.tables e below (s₁.setTop (mkF m 13 #[.val (.int p1)] [(.int (1 : Int32))])) _
        refine XS.goto X0.here hx rfl (pc0 := 13) (pc' := 17) rfl (hb hby d_prog_8_method_4_13) (by decide) (by decide) ?_
        show Steps p.tables e below (s₁.setTop (mkF m 17 #[.val (.int p1)] [(.int (1 : Int32))])) _
        exact k
  refine own_by (sj3) ?_
  show own_Go p.tables e below (s₁.setTop (mkF m 17 #[.val (.int p1)] [(.int q)])) _
  exact own_retN X0 hx Bd.notSynchronized (t := .boolean) Bd.returns (by simp) (own_nb (by rw [hq]; (repeat' split) <;> first | exact Or.inl rfl | exact Or.inr rfl)) (hb hby d_prog_8_method_4_17) (by (try rw [e0]); exact ⟨_, rfl, N0, rfl, hq⟩) (by decide) (by decide)
theorem d_prog_8_method_2_0 : decode prog_8_method_2_code 0 = .ok (.iload_n 0, 1) := by decide +kernel
theorem d_prog_8_method_2_1 : decode prog_8_method_2_code 1 = .ok (.invokestatic 7, 3) := by decide +kernel
theorem pd_23 : parseMethodDescriptor "(I)Z" = some ⟨[.int], some .boolean⟩ := by decide +kernel
theorem d_prog_8_method_2_4 : decode prog_8_method_2_code 4 = .ok (.ifCond .ne 28, 3) := by decide +kernel
theorem d_prog_8_method_2_7 : decode prog_8_method_2_code 7 = .ok (.iload_n 0, 1) := by decide +kernel
theorem d_prog_8_method_2_8 : decode prog_8_method_2_code 8 = .ok (.invokestatic 13, 3) := by decide +kernel
theorem d_prog_8_method_2_11 : decode prog_8_method_2_code 11 = .ok (.ifCond .ne 21, 3) := by decide +kernel
theorem d_prog_8_method_2_14 : decode prog_8_method_2_code 14 = .ok (.iload_n 0, 1) := by decide +kernel
theorem d_prog_8_method_2_15 : decode prog_8_method_2_code 15 = .ok (.bipush 48, 2) := by decide +kernel
theorem d_prog_8_method_2_17 : decode prog_8_method_2_code 17 = .ok (.if_icmp .lt 9, 3) := by decide +kernel
theorem d_prog_8_method_2_26 : decode prog_8_method_2_code 26 = .ok (.iload_n 0, 1) := by decide +kernel
theorem d_prog_8_method_2_27 : decode prog_8_method_2_code 27 = .ok (.bipush 95, 2) := by decide +kernel
theorem d_prog_8_method_2_29 : decode prog_8_method_2_code 29 = .ok (.if_icmp .ne 7, 3) := by decide +kernel
theorem d_prog_8_method_2_32 : decode prog_8_method_2_code 32 = .ok (.iconst 1, 1) := by decide +kernel
theorem d_prog_8_method_2_33 : decode prog_8_method_2_code 33 = .ok (.goto 4, 3) := by decide +kernel
theorem d_prog_8_method_2_36 : decode prog_8_method_2_code 36 = .ok (.iconst 0, 1) := by decide +kernel
theorem d_prog_8_method_2_20 : decode prog_8_method_2_code 20 = .ok (.iload_n 0, 1) := by decide +kernel
theorem d_prog_8_method_2_21 : decode prog_8_method_2_code 21 = .ok (.bipush 57, 2) := by decide +kernel
theorem d_prog_8_method_2_23 : decode prog_8_method_2_code 23 = .ok (.if_icmp .le 9, 3) := by decide +kernel
theorem d_prog_8_method_2_37 : decode prog_8_method_2_code 37 = .ok (.ireturn, 1) := by decide +kernel
theorem ef_rm_part (m : MethodId) (p1 : Int32) : entryFrame m #[(.int p1)] 1 = mkF m 0 #[.val (.int p1)] [] := by first | (simp [entryFrame, mkF, argsToLocals, Value.category]; done) | rfl
set_option maxRecDepth 65536 in
set_option maxHeartbeats 40000000 in
theorem rm_part (l : Launch) (Z : State) (a0 : Array Value) (hw : ∀ d ∈ tables_1, d.before a0 Z = true) (ws : List Jvm.Cond) (p1 : Int32) (h0 : Heap) (n0 : Nat) (Z0 : n0 ≤ h0.size)  :
    MetFree l (⟨"com/example/rewright/rewright/dlgp/Syntax", "isIdentifierPart", "(I)Z"⟩ : MethodName) (head1 (Jvm.Cond.code (⟨"com/example/rewright/rewright/dlgp/Syntax", "isIdentifierPart", "(I)Z"⟩ : MethodName) prog_8_method_2_code 1 (some .boolean) :: ws) ({ frames := 1, cells := 0, slots := 0, locals := 12 } : Room)) (fun zA zU => zA = #[(.int p1)] ∧ Z.Warmed39 zU.vm ∧ zU.heap = h0) (fun _ _ _ _ _ => True) (fun _ zU zo zW => ∃ zv zL, zo = .returned zv ∧ (own_QI h0 n0 (own_idp p1)) zv zW.heap zL ∧ FrameEnd zU zo zW zL ({ frames := 1, cells := 0, slots := 0, locals := 12 } : Room).cells ({ frames := 1, cells := 0, slots := 0, locals := 12 } : Room).slots) := by
  refine MetFree.of_bodySF (plainFor_of_name pn_10) hisR ?_
  intro p e s m args below meth c s₁ Bd hml0 hP hK
  obtain ⟨rfl, hZ, hh⟩ := hP
  have hx := Bd.exec
  have hby := Bd.bytes
  have hml : c.maxLocals = 1 := hml0
  have hown : s.vm.findClass "com/example/rewright/rewright/dlgp/Syntax" = some m.cls := findClass_of_methodNamed Bd.named
  have hnm := (name_of_methodNamed Bd.named Bd.method).1
  have X0 : Stand p l e ({ frames := 1, cells := 0, slots := 0, locals := 12 } : Room) s m #[(.int p1)] below meth c s₁ [] 0 0 := Stand.of_body Bd
  have e0 : s₁.heap = h0 := by rw [← hh, Bd.state]; rfl
  have N0 := Fr.nil n0
  refine own_out (Q := own_QI h0 n0 (own_idp p1)) ?_
  refine own_cast (ef_rm_part m p1) ?_
  show own_Go p.tables e below (s₁.setTop (mkF m 0 #[.val (.int p1)] [])) _
  refine own_by (fun t k => XS.iloadN X0.here hx rfl (hb hby d_prog_8_method_2_0) rfl k) ?_
  show own_Go p.tables e below (s₁.setTop (mkF m 1 #[.val (.int p1)] [(.int p1)])) _
  obtain ⟨_, _, ⟨T1, L1, k1, n1⟩, -, X1, ⟨Lc1, hQ1, l1, y1, z1⟩, st1⟩ := Jvm.LawKit.callS X0 hx (y := (⟨"com/example/rewright/rewright/dlgp/Syntax", "isLowerStart", "(I)Z"⟩ : MethodName)) hown (mvT hZ (hw _ (List.mem_of_getElem? (i := 4) rfl))) (mvT hZ (hw _ (List.mem_of_getElem? (i := 5) rfl))) (mvT hZ (hw _ (List.mem_of_getElem? (i := 2) rfl))) (mvT hZ (hw _ (List.mem_of_getElem? (i := 6) rfl))) (by decide) (backOf (W := 0) (rm_lower l Z a0 hw [] p1  h0 n0 (Nat.le_trans Z0 (Keep.refl h0 []).1) ) hZ (hw _ (List.mem_of_getElem? (i := 6) rfl)) (hw _ (List.mem_of_getElem? (i := 2) rfl)) (by decide) (by decide)) (g := (mkF m 1 #[.val (.int p1)] [(.int p1)])) rfl (by rw [hml]; rfl) (argsL := [(.int p1)]) (rest := []) (lenOf pd_23 rfl) rfl (by show 2 * 0 + _ ≤ _; exact Nat.le_of_eq rfl) (hb hby d_prog_8_method_2_1) (fun _ _ => ⟨rfl, e0, (by decide : 0 + 0 ≤ _), (by decide : 0 + 0 ≤ _)⟩)
  dsimp only [Pt.U, Pt.locs, Pt.cells, Pt.slots] at X1 l1 y1 z1 st1 hQ1
  subst l1 y1 z1
  obtain ⟨r1, rfl, N1q, eh1, hr1⟩ := hQ1
  have N1 := Fr.app N0 N1q
  refine own_by (st1) ?_
  show own_Go p.tables e below (T1.setTop (mkF m 4 #[.val (.int p1)] [(.int r1)])) _
  by_cases h1 : r1 = (0 : Int32)
  · refine own_by (fun t k => XS.ifNo X1.here hx rfl (hb hby d_prog_8_method_2_4) rfl ((if0 _ _).trans (teq h1).2) k) ?_
    show own_Go p.tables e below (T1.setTop (mkF m 7 #[.val (.int p1)] [])) _
    refine own_by (fun t k => XS.iloadN X1.here hx rfl (hb hby d_prog_8_method_2_7) rfl k) ?_
    show own_Go p.tables e below (T1.setTop (mkF m 8 #[.val (.int p1)] [(.int p1)])) _
    obtain ⟨_, _, ⟨T2, L2, k2, n2⟩, -, X2, ⟨Lc2, hQ2, l2, y2, z2⟩, st2⟩ := Jvm.LawKit.callS X1 hx (y := (⟨"com/example/rewright/rewright/dlgp/Syntax", "isUpperStart", "(I)Z"⟩ : MethodName)) hown (mvT hZ (hw _ (List.mem_of_getElem? (i := 7) rfl))) (mvT hZ (hw _ (List.mem_of_getElem? (i := 8) rfl))) (mvT hZ (hw _ (List.mem_of_getElem? (i := 2) rfl))) (mvT hZ (hw _ (List.mem_of_getElem? (i := 9) rfl))) (by decide) (backOf (W := 0) (rm_upper l Z a0 hw [] p1  h0 n0 (Nat.le_trans Z0 (Keep.refl h0 []).1) ) hZ (hw _ (List.mem_of_getElem? (i := 9) rfl)) (hw _ (List.mem_of_getElem? (i := 2) rfl)) (by decide) (by decide)) (g := (mkF m 8 #[.val (.int p1)] [(.int p1)])) rfl (by rw [hml]; rfl) (argsL := [(.int p1)]) (rest := []) (lenOf pd_23 rfl) rfl (by show 2 * 0 + _ ≤ _; exact Nat.le_of_eq rfl) (hb hby d_prog_8_method_2_8) (fun _ _ => ⟨rfl, eh1, (by decide : 0 + 0 ≤ _), (by decide : 0 + 0 ≤ _)⟩)
    dsimp only [Pt.U, Pt.locs, Pt.cells, Pt.slots] at X2 l2 y2 z2 st2 hQ2
    subst l2 y2 z2
    obtain ⟨r2, rfl, N2q, eh2, hr2⟩ := hQ2
    have N2 := Fr.app N1 N2q
    refine own_by (st2) ?_
    show own_Go p.tables e below (T2.setTop (mkF m 11 #[.val (.int p1)] [(.int r2)])) _
    obtain ⟨q, hq, sj8⟩ : ∃ (q : Int32), q = (if r2 = (0 : Int32) then (if p1 < (48 : Int32) then (if p1 = (95 : Int32) then (1 : Int32) else (0 : Int32)) else (if (57 : Int32) < p1 then (if p1 = (95 : Int32) then (1 : Int32) else (0 : Int32)) else (1 : Int32))) else (1 : Int32)) ∧ ∀ t, Steps p.tables e below (T2.setTop (mkF m 37 #[.val (.int p1)] [(.int q)])) t → Steps p.tables e below (T2.setTop (mkF m 11 #[.val (.int p1)] [(.int r2)])) t := by
      by_cases j3 : r2 = (0 : Int32)
      · by_cases j4 : p1 < (48 : Int32)
        · by_cases j5 : p1 = (95 : Int32)
          · refine ⟨((1 : Int32)), ((if_pos j3).trans ((if_pos j4).trans (if_pos j5))).symm, fun t k => ?_⟩
            show Steps p.tables e below (T2.setTop (mkF m 11 #[.val (.int p1)] [(.int r2)])) _
            refine XS.ifNo X2.here hx rfl (hb hby d_prog_8_method_2_11) rfl ((if0 _ _).trans (teq j3).2) ?_
            show Steps p.tables e below (T2.setTop (mkF m 14 #[.val (.int p1)] [])) _
            refine XS.iloadN X2.here hx rfl (hb hby d_prog_8_method_2_14) rfl ?_
            show Steps p.tables e below (T2.setTop (mkF m 15 #[.val (.int p1)] [(.int p1)])) _
            refine XS.bipush X2.here hx rfl (hb hby d_prog_8_method_2_15) ?_
            show Steps p.tables e below (T2.setTop (mkF m 17 #[.val (.int p1)] [(.int (48 : Int32)), (.int p1)])) _
            refine XS.icmpYes X2.here hx rfl (pc0 := 17) (pc' := 26) rfl (hb hby d_prog_8_method_2_17) rfl (tlt j4).1 (by decide) (by decide) ?_
            show Steps p.tables e below (T2.setTop (mkF m 26 #[.val (.int p1)] [])) _
            refine XS.iloadN X2.here hx rfl (hb hby d_prog_8_method_2_26) rfl ?_
            show Steps p.tables e below (T2.setTop (mkF m 27 #[.val (.int p1)] [(.int p1)])) _
            refine XS.bipush X2.here hx rfl (hb hby d_prog_8_method_2_27) ?_
            show Steps p.tables e below (T2.setTop (mkF m 29 #[.val (.int p1)] [(.int (95 : Int32)), (.int p1)])) _
            refine XS.icmpNo X2.here hx rfl (hb hby d_prog_8_method_2_29) rfl (teq j5).2 ?_
            show Steps p.tables e below (T2.setTop (mkF m 32 #[.val (.int p1)] [])) _
            refine XS.iconst X2.here hx rfl (hb hby d_prog_8_method_2_32) ?_
            show Steps p.tables e below (T2.setTop (mkF m 33 #[.val (.int p1)] [(.int (1 : Int32))])) _
            refine XS.goto X2.here hx rfl (pc0 := 33) (pc' := 37) rfl (hb hby d_prog_8_method_2_33) (by decide) (by decide) ?_
            show Steps p.tables e below (T2.setTop (mkF m 37 #[.val (.int p1)] [(.int (1 : Int32))])) _
            exact k
          · refine ⟨((0 : Int32)), ((if_pos j3).trans ((if_pos j4).trans (if_neg j5))).symm, fun t k => ?_⟩
            show Steps p.tables e below (T2.setTop (mkF m 11 #[.val (.int p1)] [(.int r2)])) _
            refine XS.ifNo X2.here hx rfl (hb hby d_prog_8_method_2_11) rfl ((if0 _ _).trans (teq j3).2) ?_
            show Steps p.tables e below (T2.setTop (mkF m 14 #[.val (.int p1)] [])) _
            refine XS.iloadN X2.here hx rfl (hb hby d_prog_8_method_2_14) rfl ?_
            show Steps p.tables e below (T2.setTop (mkF m 15 #[.val (.int p1)] [(.int p1)])) _
            refine XS.bipush X2.here hx rfl (hb hby d_prog_8_method_2_15) ?_
            show Steps p.tables e below (T2.setTop (mkF m 17 #[.val (.int p1)] [(.int (48 : Int32)), (.int p1)])) _
            refine XS.icmpYes X2.here hx rfl (pc0 := 17) (pc' := 26) rfl (hb hby d_prog_8_method_2_17) rfl (tlt j4).1 (by decide) (by decide) ?_
            show Steps p.tables e below (T2.setTop (mkF m 26 #[.val (.int p1)] [])) _
            refine XS.iloadN X2.here hx rfl (hb hby d_prog_8_method_2_26) rfl ?_
            show Steps p.tables e below (T2.setTop (mkF m 27 #[.val (.int p1)] [(.int p1)])) _
            refine XS.bipush X2.here hx rfl (hb hby d_prog_8_method_2_27) ?_
            show Steps p.tables e below (T2.setTop (mkF m 29 #[.val (.int p1)] [(.int (95 : Int32)), (.int p1)])) _
            refine XS.icmpYes X2.here hx rfl (pc0 := 29) (pc' := 36) rfl (hb hby d_prog_8_method_2_29) rfl (feq j5).2 (by decide) (by decide) ?_
            show Steps p.tables e below (T2.setTop (mkF m 36 #[.val (.int p1)] [])) _
            refine XS.iconst X2.here hx rfl (hb hby d_prog_8_method_2_36) ?_
            show Steps p.tables e below (T2.setTop (mkF m 37 #[.val (.int p1)] [(.int (0 : Int32))])) _
            exact k
        · by_cases j6 : (57 : Int32) < p1
          · by_cases j7 : p1 = (95 : Int32)
            · refine ⟨((1 : Int32)), ((if_pos j3).trans ((if_neg j4).trans ((if_pos j6).trans (if_pos j7)))).symm, fun t k => ?_⟩
              show Steps p.tables e below (T2.setTop (mkF m 11 #[.val (.int p1)] [(.int r2)])) _
              refine XS.ifNo X2.here hx rfl (hb hby d_prog_8_method_2_11) rfl ((if0 _ _).trans (teq j3).2) ?_
              show Steps p.tables e below (T2.setTop (mkF m 14 #[.val (.int p1)] [])) _
              refine XS.iloadN X2.here hx rfl (hb hby d_prog_8_method_2_14) rfl ?_
              show Steps p.tables e below (T2.setTop (mkF m 15 #[.val (.int p1)] [(.int p1)])) _
              refine XS.bipush X2.here hx rfl (hb hby d_prog_8_method_2_15) ?_
              show Steps p.tables e below (T2.setTop (mkF m 17 #[.val (.int p1)] [(.int (48 : Int32)), (.int p1)])) _
              refine XS.icmpNo X2.here hx rfl (hb hby d_prog_8_method_2_17) rfl (flt j4).1 ?_
              show Steps p.tables e below (T2.setTop (mkF m 20 #[.val (.int p1)] [])) _
              refine XS.iloadN X2.here hx rfl (hb hby d_prog_8_method_2_20) rfl ?_
              show Steps p.tables e below (T2.setTop (mkF m 21 #[.val (.int p1)] [(.int p1)])) _
              refine XS.bipush X2.here hx rfl (hb hby d_prog_8_method_2_21) ?_
              show Steps p.tables e below (T2.setTop (mkF m 23 #[.val (.int p1)] [(.int (57 : Int32)), (.int p1)])) _
              refine XS.icmpNo X2.here hx rfl (hb hby d_prog_8_method_2_23) rfl (tlt j6).2.2.2 ?_
              show Steps p.tables e below (T2.setTop (mkF m 26 #[.val (.int p1)] [])) _
              refine XS.iloadN X2.here hx rfl (hb hby d_prog_8_method_2_26) rfl ?_
              show Steps p.tables e below (T2.setTop (mkF m 27 #[.val (.int p1)] [(.int p1)])) _
              refine XS.bipush X2.here hx rfl (hb hby d_prog_8_method_2_27) ?_
              show Steps p.tables e below (T2.setTop (mkF m 29 #[.val (.int p1)] [(.int (95 : Int32)), (.int p1)])) _
              refine XS.icmpNo X2.here hx rfl (hb hby d_prog_8_method_2_29) rfl (teq j7).2 ?_
              show Steps p.tables e below (T2.setTop (mkF m 32 #[.val (.int p1)] [])) _
              refine XS.iconst X2.here hx rfl (hb hby d_prog_8_method_2_32) ?_
              show Steps p.tables e below (T2.setTop (mkF m 33 #[.val (.int p1)] [(.int (1 : Int32))])) _
              refine XS.goto X2.here hx rfl (pc0 := 33) (pc' := 37) rfl (hb hby d_prog_8_method_2_33) (by decide) (by decide) ?_
              show Steps p.tables e below (T2.setTop (mkF m 37 #[.val (.int p1)] [(.int (1 : Int32))])) _
              exact k
            · refine ⟨((0 : Int32)), ((if_pos j3).trans ((if_neg j4).trans ((if_pos j6).trans (if_neg j7)))).symm, fun t k => ?_⟩
              show Steps p.tables e below (T2.setTop (mkF m 11 #[.val (.int p1)] [(.int r2)])) _
              refine XS.ifNo X2.here hx rfl (hb hby d_prog_8_method_2_11) rfl ((if0 _ _).trans (teq j3).2) ?_
              show Steps p.tables e below (T2.setTop (mkF m 14 #[.val (.int p1)] [])) _
              refine XS.iloadN X2.here hx rfl (hb hby d_prog_8_method_2_14) rfl ?_
              show Steps p.tables e below (T2.setTop (mkF m 15 #[.val (.int p1)] [(.int p1)])) _
              refine XS.bipush X2.here hx rfl (hb hby d_prog_8_method_2_15) ?_
              show Steps p.tables e below (T2.setTop (mkF m 17 #[.val (.int p1)] [(.int (48 : Int32)), (.int p1)])) _
              refine XS.icmpNo X2.here hx rfl (hb hby d_prog_8_method_2_17) rfl (flt j4).1 ?_
              show Steps p.tables e below (T2.setTop (mkF m 20 #[.val (.int p1)] [])) _
              refine XS.iloadN X2.here hx rfl (hb hby d_prog_8_method_2_20) rfl ?_
              show Steps p.tables e below (T2.setTop (mkF m 21 #[.val (.int p1)] [(.int p1)])) _
              refine XS.bipush X2.here hx rfl (hb hby d_prog_8_method_2_21) ?_
              show Steps p.tables e below (T2.setTop (mkF m 23 #[.val (.int p1)] [(.int (57 : Int32)), (.int p1)])) _
              refine XS.icmpNo X2.here hx rfl (hb hby d_prog_8_method_2_23) rfl (tlt j6).2.2.2 ?_
              show Steps p.tables e below (T2.setTop (mkF m 26 #[.val (.int p1)] [])) _
              refine XS.iloadN X2.here hx rfl (hb hby d_prog_8_method_2_26) rfl ?_
              show Steps p.tables e below (T2.setTop (mkF m 27 #[.val (.int p1)] [(.int p1)])) _
              refine XS.bipush X2.here hx rfl (hb hby d_prog_8_method_2_27) ?_
              show Steps p.tables e below (T2.setTop (mkF m 29 #[.val (.int p1)] [(.int (95 : Int32)), (.int p1)])) _
              refine XS.icmpYes X2.here hx rfl (pc0 := 29) (pc' := 36) rfl (hb hby d_prog_8_method_2_29) rfl (feq j7).2 (by decide) (by decide) ?_
              show Steps p.tables e below (T2.setTop (mkF m 36 #[.val (.int p1)] [])) _
              refine XS.iconst X2.here hx rfl (hb hby d_prog_8_method_2_36) ?_
              show Steps p.tables e below (T2.setTop (mkF m 37 #[.val (.int p1)] [(.int (0 : Int32))])) _
              exact k
          · refine ⟨((1 : Int32)), ((if_pos j3).trans ((if_neg j4).trans (if_neg j6))).symm, fun t k => ?_⟩
            show Steps p.tables e below (T2.setTop (mkF m 11 #[.val (.int p1)] [(.int r2)])) _
            refine XS.ifNo X2.here hx rfl (hb hby d_prog_8_method_2_11) rfl ((if0 _ _).trans (teq j3).2) ?_
            show Steps p.tables e below (T2.setTop (mkF m 14 #[.val (.int p1)] [])) _
            refine XS.iloadN X2.here hx rfl (hb hby d_prog_8_method_2_14) rfl ?_
            show Steps p.tables e below (T2.setTop (mkF m 15 #[.val (.int p1)] [(.int p1)])) _
            refine XS.bipush X2.here hx rfl (hb hby d_prog_8_method_2_15) ?_
            show Steps p.tables e below (T2.setTop (mkF m 17 #[.val (.int p1)] [(.int (48 : Int32)), (.int p1)])) _
            refine XS.icmpNo X2.here hx rfl (hb hby d_prog_8_method_2_17) rfl (flt j4).1 ?_
            show Steps p.tables e below (T2.setTop (mkF m 20 #[.val (.int p1)] [])) _
            refine XS.iloadN X2.here hx rfl (hb hby d_prog_8_method_2_20) rfl ?_
            show Steps p.tables e below (T2.setTop (mkF m 21 #[.val (.int p1)] [(.int p1)])) _
            refine XS.bipush X2.here hx rfl (hb hby d_prog_8_method_2_21) ?_
            show Steps p.tables e below (T2.setTop (mkF m 23 #[.val (.int p1)] [(.int (57 : Int32)), (.int p1)])) _
            refine XS.icmpYes X2.here hx rfl (pc0 := 23) (pc' := 32) rfl (hb hby d_prog_8_method_2_23) rfl (flt j6).2.2.2 (by decide) (by decide) ?_
            show Steps p.tables e below (T2.setTop (mkF m 32 #[.val (.int p1)] [])) _
            refine XS.iconst X2.here hx rfl (hb hby d_prog_8_method_2_32) ?_
            show Steps p.tables e below (T2.setTop (mkF m 33 #[.val (.int p1)] [(.int (1 : Int32))])) _
            refine XS.goto X2.here hx rfl (pc0 := 33) (pc' := 37) rfl (hb hby d_prog_8_method_2_33) (by decide) (by decide) ?_
            show Steps p.tables e below (T2.setTop (mkF m 37 #[.val (.int p1)] [(.int (1 : Int32))])) _
            exact k
      · refine ⟨((1 : Int32)), (if_neg j3).symm, fun t k => ?_⟩
        show Steps p.tables e below (T2.setTop (mkF m 11 #[.val (.int p1)] [(.int r2)])) _
        refine XS.ifYes X2.here hx rfl (pc0 := 11) (pc' := 32) rfl (hb hby d_prog_8_method_2_11) rfl ((if0 _ _).trans (feq j3).2) (by decide) (by decide) ?_
        show Steps p.tables e below (T2.setTop (mkF m 32 #[.val (.int p1)] [])) _
        refine XS.iconst X2.here hx rfl (hb hby d_prog_8_method_2_32) ?_
        show Steps p.tables e below (T2.setTop (mkF m 33 #[.val (.int p1)] [(.int (1 : Int32))])) _
        refine XS.goto X2.here hx rfl (pc0 := 33) (pc' := 37) rfl (hb hby d_prog_8_method_2_33) (by decide) (by decide) ?_
        show Steps p.tables e below (T2.setTop (mkF m 37 #[.val (.int p1)] [(.int (1 : Int32))])) _
        exact k
    refine own_by (sj8) ?_
    show own_Go p.tables e below (T2.setTop (mkF m 37 #[.val (.int p1)] [(.int q)])) _
    exact own_retN X2 hx Bd.notSynchronized (t := .boolean) Bd.returns (by simp) (own_nb (by rw [hq]; (repeat' split) <;> first | exact Or.inl rfl | exact Or.inr rfl)) (hb hby d_prog_8_method_2_37) (by (try rw [eh2]); exact ⟨_, rfl, N2, rfl, by rw [own_id1 h1 hr1 hr2]; exact hq⟩) (by decide) (by decide)
  · refine own_by (fun t k => XS.ifYes X1.here hx rfl (pc0 := 4) (pc' := 32) rfl (hb hby d_prog_8_method_2_4) rfl ((if0 _ _).trans (feq h1).2) (by decide) (by decide) k) ?_
    show own_Go p.tables e below (T1.setTop (mkF m 32 #[.val (.int p1)] [])) _
    refine own_by (fun t k => XS.iconst X1.here hx rfl (hb hby d_prog_8_method_2_32) k) ?_
    show own_Go p.tables e below (T1.setTop (mkF m 33 #[.val (.int p1)] [(.int (1 : Int32))])) _
    refine own_by (fun t k => XS.goto X1.here hx rfl (pc0 := 33) (pc' := 37) rfl (hb hby d_prog_8_method_2_33) (by decide) (by decide) k) ?_
    show own_Go p.tables e below (T1.setTop (mkF m 37 #[.val (.int p1)] [(.int (1 : Int32))])) _
    exact own_retN X1 hx Bd.notSynchronized (t := .boolean) Bd.returns (by simp) (by decide) (hb hby d_prog_8_method_2_37) (by (try rw [eh1]); exact ⟨_, rfl, N1, rfl, own_id2 h1 hr1⟩) (by decide) (by decide)
theorem d_method_2_0 : decode method_2_code 0 = .ok (.iload_n 0, 1) := by decide +kernel
theorem d_method_2_1 : decode method_2_code 1 = .ok (.ifCond .lt 10, 3) := by decide +kernel
theorem d_method_2_11 : decode method_2_code 11 = .ok (.iconst 0, 1) := by decide +kernel
theorem d_method_2_12 : decode method_2_code 12 = .ok (.ireturn, 1) := by decide +kernel
theorem d_method_2_4 : decode method_2_code 4 = .ok (.iload_n 0, 1) := by decide +kernel
theorem d_method_2_5 : decode method_2_code 5 = .ok (.sipush 128, 3) := by decide +kernel
theorem d_method_2_8 : decode method_2_code 8 = .ok (.if_icmp .lt 5, 3) := by decide +kernel
theorem d_method_2_13 : decode method_2_code 13 = .ok (.iload_n 0, 1) := by decide +kernel
theorem d_method_2_14 : decode method_2_code 14 = .ok (.bipush 64, 2) := by decide +kernel
theorem d_method_2_16 : decode method_2_code 16 = .ok (.if_icmp .ge 9, 3) := by decide +kernel
theorem d_method_2_19 : decode method_2_code 19 = .ok (.ldc2_w 9, 3) := by decide +kernel
theorem d_method_2_22 : decode method_2_code 22 = .ok (.goto 6, 3) := by decide +kernel
theorem d_method_2_25 : decode method_2_code 25 = .ok (.ldc2_w 11, 3) := by decide +kernel
theorem d_method_2_28 : decode method_2_code 28 = .ok (.lstore_n 1, 1) := by decide +kernel
theorem d_method_2_29 : decode method_2_code 29 = .ok (.lload_n 1, 1) := by decide +kernel
theorem d_method_2_30 : decode method_2_code 30 = .ok (.iload_n 0, 1) := by decide +kernel
theorem d_method_2_31 : decode method_2_code 31 = .ok (.bipush 63, 2) := by decide +kernel
theorem d_method_2_33 : decode method_2_code 33 = .ok (.iand, 1) := by decide +kernel
theorem d_method_2_34 : decode method_2_code 34 = .ok (.lushr, 1) := by decide +kernel
theorem d_method_2_35 : decode method_2_code 35 = .ok (.lconst 1, 1) := by decide +kernel
theorem d_method_2_36 : decode method_2_code 36 = .ok (.land, 1) := by decide +kernel
theorem d_method_2_37 : decode method_2_code 37 = .ok (.lconst 0, 1) := by decide +kernel
theorem d_method_2_38 : decode method_2_code 38 = .ok (.lcmp, 1) := by decide +kernel
theorem d_method_2_39 : decode method_2_code 39 = .ok (.ifCond .eq 7, 3) := by decide +kernel
theorem d_method_2_46 : decode method_2_code 46 = .ok (.iconst 0, 1) := by decide +kernel
theorem d_method_2_42 : decode method_2_code 42 = .ok (.iconst 1, 1) := by decide +kernel
theorem d_method_2_43 : decode method_2_code 43 = .ok (.goto 4, 3) := by decide +kernel
theorem d_method_2_47 : decode method_2_code 47 = .ok (.ireturn, 1) := by decide +kernel
theorem ef_rm_ref (m : MethodId) (p1 : Int32) : entryFrame m #[(.int p1)] 3 = mkF m 0 #[.val (.int p1), .unset, .unset] [] := by first | (simp [entryFrame, mkF, argsToLocals, Value.category]; done) | rfl
theorem pn_69 : plainName "com/example/rewright/rewright/dlgp/SyntaxIsIdentifierPartPinLaw" = true := by first | (simp [plainName, overriddenIn]; done) | decide +kernel
set_option maxRecDepth 65536 in
set_option maxHeartbeats 40000000 in
theorem rm_ref (l : Launch) (Z : State) (a0 : Array Value) (hw : ∀ d ∈ tables_1, d.before a0 Z = true) (ws : List Jvm.Cond) (p1 : Int32) (h0 : Heap) (n0 : Nat) (Z0 : n0 ≤ h0.size)  :
    MetFree l (⟨"com/example/rewright/rewright/dlgp/SyntaxIsIdentifierPartPinLaw", "reference", "(I)Z"⟩ : MethodName) (head1 (Jvm.Cond.code (⟨"com/example/rewright/rewright/dlgp/SyntaxIsIdentifierPartPinLaw", "reference", "(I)Z"⟩ : MethodName) method_2_code 3 (some .boolean) :: ws) ({ frames := 0, cells := 0, slots := 0, locals := 0 } : Room)) (fun zA zU => zA = #[(.int p1)] ∧ Z.Warmed39 zU.vm ∧ zU.heap = h0) (fun _ _ _ _ _ => True) (fun _ zU zo zW => ∃ zv zL, zo = .returned zv ∧ (own_QI h0 n0 (own_ref p1)) zv zW.heap zL ∧ FrameEnd zU zo zW zL ({ frames := 0, cells := 0, slots := 0, locals := 0 } : Room).cells ({ frames := 0, cells := 0, slots := 0, locals := 0 } : Room).slots) := by
  refine MetFree.of_bodySF (plainFor_of_name pn_69) hisR ?_
  intro p e s m args below meth c s₁ Bd hml0 hP hK
  obtain ⟨rfl, hZ, hh⟩ := hP
  have hx := Bd.exec
  have hby := Bd.bytes
  have hml : c.maxLocals = 3 := hml0
  have hown : s.vm.findClass "com/example/rewright/rewright/dlgp/SyntaxIsIdentifierPartPinLaw" = some m.cls := findClass_of_methodNamed Bd.named
  have hnm := (name_of_methodNamed Bd.named Bd.method).1
  have X0 : Stand p l e ({ frames := 0, cells := 0, slots := 0, locals := 0 } : Room) s m #[(.int p1)] below meth c s₁ [] 0 0 := Stand.of_body Bd
  have e0 : s₁.heap = h0 := by rw [← hh, Bd.state]; rfl
  have N0 := Fr.nil n0
  refine own_out (Q := own_QI h0 n0 (own_ref p1)) ?_
  refine own_cast (ef_rm_ref m p1) ?_
  show own_Go p.tables e below (s₁.setTop (mkF m 0 #[.val (.int p1), .unset, .unset] [])) _
  refine own_by (fun t k => XS.iloadN X0.here hx rfl (hb hby d_method_2_0) rfl k) ?_
  show own_Go p.tables e below (s₁.setTop (mkF m 1 #[.val (.int p1), .unset, .unset] [(.int p1)])) _
  by_cases h1 : p1 < (0 : Int32)
  · refine own_by (fun t k => XS.ifYes X0.here hx rfl (pc0 := 1) (pc' := 11) rfl (hb hby d_method_2_1) rfl ((if0 _ _).trans (tlt h1).1) (by decide) (by decide) k) ?_
    show own_Go p.tables e below (s₁.setTop (mkF m 11 #[.val (.int p1), .unset, .unset] [])) _
    refine own_by (fun t k => XS.iconst X0.here hx rfl (hb hby d_method_2_11) k) ?_
    show own_Go p.tables e below (s₁.setTop (mkF m 12 #[.val (.int p1), .unset, .unset] [(.int (0 : Int32))])) _
    exact own_retN X0 hx Bd.notSynchronized (t := .boolean) Bd.returns (by simp) (by decide) (hb hby d_method_2_12) (by (try rw [e0]); exact ⟨_, rfl, N0, rfl, (if_pos h1).symm⟩) (by decide) (by decide)
  · refine own_by (fun t k => XS.ifNo X0.here hx rfl (hb hby d_method_2_1) rfl ((if0 _ _).trans (flt h1).1) k) ?_
    show own_Go p.tables e below (s₁.setTop (mkF m 4 #[.val (.int p1), .unset, .unset] [])) _
    refine own_by (fun t k => XS.iloadN X0.here hx rfl (hb hby d_method_2_4) rfl k) ?_
    show own_Go p.tables e below (s₁.setTop (mkF m 5 #[.val (.int p1), .unset, .unset] [(.int p1)])) _
    refine own_by (fun t k => XS.sipush X0.here hx rfl (hb hby d_method_2_5) k) ?_
    show own_Go p.tables e below (s₁.setTop (mkF m 8 #[.val (.int p1), .unset, .unset] [(.int (128 : Int32)), (.int p1)])) _
    by_cases h2 : p1 < (128 : Int32)
    · refine own_by (fun t k => XS.icmpYes X0.here hx rfl (pc0 := 8) (pc' := 13) rfl (hb hby d_method_2_8) rfl (tlt h2).1 (by decide) (by decide) k) ?_
      show own_Go p.tables e below (s₁.setTop (mkF m 13 #[.val (.int p1), .unset, .unset] [])) _
      obtain ⟨tb, htb, sj2⟩ : ∃ (tb : Int64), tb = (if p1 < (64 : Int32) then (287948901175001088 : Int64) else (576460745995190270 : Int64)) ∧ ∀ t, Steps p.tables e below (s₁.setTop (mkF m 28 #[.val (.int p1), .unset, .unset] [(.long tb)])) t → Steps p.tables e below (s₁.setTop (mkF m 13 #[.val (.int p1), .unset, .unset] [])) t := by
        by_cases j1 : p1 < (64 : Int32)
        · refine ⟨((287948901175001088 : Int64)), (if_pos j1).symm, fun t k => ?_⟩
          show Steps p.tables e below (s₁.setTop (mkF m 13 #[.val (.int p1), .unset, .unset] [])) _
          refine XS.iloadN X0.here hx rfl (hb hby d_method_2_13) rfl ?_
          show Steps p.tables e below (s₁.setTop (mkF m 14 #[.val (.int p1), .unset, .unset] [(.int p1)])) _
          refine XS.bipush X0.here hx rfl (hb hby d_method_2_14) ?_
          show Steps p.tables e below (s₁.setTop (mkF m 16 #[.val (.int p1), .unset, .unset] [(.int (64 : Int32)), (.int p1)])) _
          refine XS.icmpNo X0.here hx rfl (hb hby d_method_2_16) rfl (tlt j1).2.1 ?_
          show Steps p.tables e below (s₁.setTop (mkF m 19 #[.val (.int p1), .unset, .unset] [])) _
          refine X0.ldc2Long hx hown (mvT hZ (hw _ (List.mem_of_getElem? (i := 14) rfl))) (g := (mkF m 19 #[.val (.int p1), .unset, .unset] [])) rfl (hb hby d_method_2_19) _ ?_
          show Steps p.tables e below (s₁.setTop (mkF m 22 #[.val (.int p1), .unset, .unset] [(.long (287948901175001088 : Int64))])) _
          refine XS.goto X0.here hx rfl (pc0 := 22) (pc' := 28) rfl (hb hby d_method_2_22) (by decide) (by decide) ?_
          show Steps p.tables e below (s₁.setTop (mkF m 28 #[.val (.int p1), .unset, .unset] [(.long (287948901175001088 : Int64))])) _
          exact k
        · refine ⟨((576460745995190270 : Int64)), (if_neg j1).symm, fun t k => ?_⟩
          show Steps p.tables e below (s₁.setTop (mkF m 13 #[.val (.int p1), .unset, .unset] [])) _
          refine XS.iloadN X0.here hx rfl (hb hby d_method_2_13) rfl ?_
          show Steps p.tables e below (s₁.setTop (mkF m 14 #[.val (.int p1), .unset, .unset] [(.int p1)])) _
          refine XS.bipush X0.here hx rfl (hb hby d_method_2_14) ?_
          show Steps p.tables e below (s₁.setTop (mkF m 16 #[.val (.int p1), .unset, .unset] [(.int (64 : Int32)), (.int p1)])) _
          refine XS.icmpYes X0.here hx rfl (pc0 := 16) (pc' := 25) rfl (hb hby d_method_2_16) rfl (flt j1).2.1 (by decide) (by decide) ?_
          show Steps p.tables e below (s₁.setTop (mkF m 25 #[.val (.int p1), .unset, .unset] [])) _
          refine X0.ldc2Long hx hown (mvT hZ (hw _ (List.mem_of_getElem? (i := 15) rfl))) (g := (mkF m 25 #[.val (.int p1), .unset, .unset] [])) rfl (hb hby d_method_2_25) _ ?_
          show Steps p.tables e below (s₁.setTop (mkF m 28 #[.val (.int p1), .unset, .unset] [(.long (576460745995190270 : Int64))])) _
          exact k
      refine own_by (sj2) ?_
      show own_Go p.tables e below (s₁.setTop (mkF m 28 #[.val (.int p1), .unset, .unset] [(.long tb)])) _
      refine own_by (fun t k => XS.lstoreN X0.here hx rfl (hb hby d_method_2_28) rfl (l' := #[.val (.int p1), .val (.long tb), .second]) rfl k) ?_
      show own_Go p.tables e below (s₁.setTop (mkF m 29 #[.val (.int p1), .val (.long tb), .second] [])) _
      refine own_by (fun t k => XS.lloadN X0.here hx rfl (hb hby d_method_2_29) rfl k) ?_
      show own_Go p.tables e below (s₁.setTop (mkF m 30 #[.val (.int p1), .val (.long tb), .second] [(.long tb)])) _
      refine own_by (fun t k => XS.iloadN X0.here hx rfl (hb hby d_method_2_30) rfl k) ?_
      show own_Go p.tables e below (s₁.setTop (mkF m 31 #[.val (.int p1), .val (.long tb), .second] [(.int p1), (.long tb)])) _
      refine own_by (fun t k => XS.bipush X0.here hx rfl (hb hby d_method_2_31) k) ?_
      show own_Go p.tables e below (s₁.setTop (mkF m 33 #[.val (.int p1), .val (.long tb), .second] [(.int (63 : Int32)), (.int p1), (.long tb)])) _
      refine own_by (fun t k => XS.iand X0.here hx rfl (hb hby d_method_2_33) rfl k) ?_
      show own_Go p.tables e below (s₁.setTop (mkF m 34 #[.val (.int p1), .val (.long tb), .second] [(.int (p1 &&& (63 : Int32))), (.long tb)])) _
      refine own_by (fun t k => XS.lushr X0.here hx rfl (hb hby d_method_2_34) rfl k) ?_
      show own_Go p.tables e below (s₁.setTop (mkF m 35 #[.val (.int p1), .val (.long tb), .second] [(.long ((tb.toUInt64 >>> ((p1 &&& (63 : Int32)) &&& 0x3f).toInt64.toUInt64).toInt64))])) _
      refine own_by (fun t k => XS.lconst X0.here hx rfl (hb hby d_method_2_35) k) ?_
      show own_Go p.tables e below (s₁.setTop (mkF m 36 #[.val (.int p1), .val (.long tb), .second] [(.long (1 : Int64)), (.long ((tb.toUInt64 >>> ((p1 &&& (63 : Int32)) &&& 0x3f).toInt64.toUInt64).toInt64))])) _
      refine own_by (fun t k => XS.land X0.here hx rfl (hb hby d_method_2_36) rfl k) ?_
      show own_Go p.tables e below (s₁.setTop (mkF m 37 #[.val (.int p1), .val (.long tb), .second] [(.long (((tb.toUInt64 >>> ((p1 &&& (63 : Int32)) &&& 0x3f).toInt64.toUInt64).toInt64) &&& (1 : Int64)))])) _
      refine own_by (fun t k => XS.lconst X0.here hx rfl (hb hby d_method_2_37) k) ?_
      show own_Go p.tables e below (s₁.setTop (mkF m 38 #[.val (.int p1), .val (.long tb), .second] [(.long (0 : Int64)), (.long (((tb.toUInt64 >>> ((p1 &&& (63 : Int32)) &&& 0x3f).toInt64.toUInt64).toInt64) &&& (1 : Int64)))])) _
      refine own_by (fun t k => XS.lcmp X0.here hx rfl (hb hby d_method_2_38) rfl k) ?_
      show own_Go p.tables e below (s₁.setTop (mkF m 39 #[.val (.int p1), .val (.long tb), .second] [(.int (lcmpW (((tb.toUInt64 >>> ((p1 &&& (63 : Int32)) &&& 0x3f).toInt64.toUInt64).toInt64) &&& (1 : Int64)) (0 : Int64)))])) _
      obtain ⟨q, hq, sj4⟩ : ∃ (q : Int32), q = (if (((tb.toUInt64 >>> ((p1 &&& (63 : Int32)) &&& 0x3f).toInt64.toUInt64).toInt64) &&& (1 : Int64)) = (0 : Int64) then (0 : Int32) else (1 : Int32)) ∧ ∀ t, Steps p.tables e below (s₁.setTop (mkF m 47 #[.val (.int p1), .val (.long tb), .second] [(.int q)])) t → Steps p.tables e below (s₁.setTop (mkF m 39 #[.val (.int p1), .val (.long tb), .second] [(.int (lcmpW (((tb.toUInt64 >>> ((p1 &&& (63 : Int32)) &&& 0x3f).toInt64.toUInt64).toInt64) &&& (1 : Int64)) (0 : Int64)))])) t := by
        by_cases j3 : (((tb.toUInt64 >>> ((p1 &&& (63 : Int32)) &&& 0x3f).toInt64.toUInt64).toInt64) &&& (1 : Int64)) = (0 : Int64)
        · refine ⟨((0 : Int32)), (if_pos j3).symm, fun t k => ?_⟩
          show Steps p.tables e below (s₁.setTop (mkF m 39 #[.val (.int p1), .val (.long tb), .second] [(.int (lcmpW (((tb.toUInt64 >>> ((p1 &&& (63 : Int32)) &&& 0x3f).toInt64.toUInt64).toInt64) &&& (1 : Int64)) (0 : Int64)))])) _
          refine XS.ifYes X0.here hx rfl (pc0 := 39) (pc' := 46) rfl (hb hby d_method_2_39) rfl ((if0 _ _).trans (teq ((lw_eq (((tb.toUInt64 >>> ((p1 &&& (63 : Int32)) &&& 0x3f).toInt64.toUInt64).toInt64) &&& (1 : Int64)) (0 : Int64)).mpr j3)).1) (by decide) (by decide) ?_
          show Steps p.tables e below (s₁.setTop (mkF m 46 #[.val (.int p1), .val (.long tb), .second] [])) _
          refine XS.iconst X0.here hx rfl (hb hby d_method_2_46) ?_
          show Steps p.tables e below (s₁.setTop (mkF m 47 #[.val (.int p1), .val (.long tb), .second] [(.int (0 : Int32))])) _
          exact k
        · refine ⟨((1 : Int32)), (if_neg j3).symm, fun t k => ?_⟩
          show Steps p.tables e below (s₁.setTop (mkF m 39 #[.val (.int p1), .val (.long tb), .second] [(.int (lcmpW (((tb.toUInt64 >>> ((p1 &&& (63 : Int32)) &&& 0x3f).toInt64.toUInt64).toInt64) &&& (1 : Int64)) (0 : Int64)))])) _
          refine XS.ifNo X0.here hx rfl (hb hby d_method_2_39) rfl ((if0 _ _).trans (feq (fun q => j3 ((lw_eq (((tb.toUInt64 >>> ((p1 &&& (63 : Int32)) &&& 0x3f).toInt64.toUInt64).toInt64) &&& (1 : Int64)) (0 : Int64)).mp q))).1) ?_
          show Steps p.tables e below (s₁.setTop (mkF m 42 #[.val (.int p1), .val (.long tb), .second] [])) _
          refine XS.iconst X0.here hx rfl (hb hby d_method_2_42) ?_
          show Steps p.tables e below (s₁.setTop (mkF m 43 #[.val (.int p1), .val (.long tb), .second] [(.int (1 : Int32))])) _
          refine XS.goto X0.here hx rfl (pc0 := 43) (pc' := 47) rfl (hb hby d_method_2_43) (by decide) (by decide) ?_
          show Steps p.tables e below (s₁.setTop (mkF m 47 #[.val (.int p1), .val (.long tb), .second] [(.int (1 : Int32))])) _
          exact k
      refine own_by (sj4) ?_
      show own_Go p.tables e below (s₁.setTop (mkF m 47 #[.val (.int p1), .val (.long tb), .second] [(.int q)])) _
      exact own_retN X0 hx Bd.notSynchronized (t := .boolean) Bd.returns (by simp) (own_nb (by rw [hq]; (repeat' split) <;> first | exact Or.inl rfl | exact Or.inr rfl)) (hb hby d_method_2_47) (by (try rw [e0]); exact ⟨_, rfl, N0, rfl, by rw [hq, htb]; exact ((if_neg h1).trans (if_pos h2)).symm⟩) (by decide) (by decide)
    · refine own_by (fun t k => XS.icmpNo X0.here hx rfl (hb hby d_method_2_8) rfl (flt h2).1 k) ?_
      show own_Go p.tables e below (s₁.setTop (mkF m 11 #[.val (.int p1), .unset, .unset] [])) _
      refine own_by (fun t k => XS.iconst X0.here hx rfl (hb hby d_method_2_11) k) ?_
      show own_Go p.tables e below (s₁.setTop (mkF m 12 #[.val (.int p1), .unset, .unset] [(.int (0 : Int32))])) _
      exact own_retN X0 hx Bd.notSynchronized (t := .boolean) Bd.returns (by simp) (by decide) (hb hby d_method_2_12) (by (try rw [e0]); exact ⟨_, rfl, N0, rfl, ((if_neg h1).trans (if_neg h2)).symm⟩) (by decide) (by decide)
theorem ef_rm_law (m : MethodId) (a : Int32) (sel : Int32) : entryFrame m #[(.int a), (.int sel)] maxLocals = mkF m 0 #[.val (.int a), .val (.int sel), .unset, .unset] [] := by first | (simp [entryFrame, mkF, argsToLocals, Value.category, maxLocals]; done) | rfl
set_option maxRecDepth 65536 in
set_option maxHeartbeats 40000000 in
theorem rm_law (l : Launch) (Z : State) (a0 : Array Value) (hw : ∀ d ∈ tables_1, d.before a0 Z = true) (ws : List Jvm.Cond) (a : Int32) (sel : Int32) (h0 : Heap) (n0 : Nat) (Z0 : n0 ≤ h0.size)  :
    MetFree l x (head1 (Jvm.Cond.code x code maxLocals ret :: ws) room_1) (fun zA zU => zA = #[(.int a), (.int sel)] ∧ Z.Warmed39 zU.vm ∧ zU.heap = h0) (fun _ _ _ _ _ => True) (fun _ zU zo zW => ∃ zv zL, zo = .returned zv ∧ (fun v h L => v = some (.int 1) ∧ Fr n0 L) zv zW.heap zL ∧ FrameEnd zU zo zW zL 0 0) := by
  refine MetFree.of_bodySF (plainFor_of_name pn_69) hisR ?_
  intro p e s m args below meth c s₁ Bd hml0 hP hK
  obtain ⟨rfl, hZ, hh⟩ := hP
  have hx := Bd.exec
  have hby := Bd.bytes
  have hml : c.maxLocals = 4 := hml0
  have hown : s.vm.findClass "com/example/rewright/rewright/dlgp/SyntaxIsIdentifierPartPinLaw" = some m.cls := findClass_of_methodNamed Bd.named
  have hnm := (name_of_methodNamed Bd.named Bd.method).1
  have X0 : Stand p l e room_1 s m #[(.int a), (.int sel)] below meth c s₁ [] 0 0 := Stand.of_body Bd
  have e0 : s₁.heap = h0 := by rw [← hh, Bd.state]; rfl
  have N0 := Fr.nil n0
  refine own_out (Q := fun v h L => v = some (.int 1) ∧ Fr n0 L) ?_
  refine own_cast (ef_rm_law m a sel) ?_
  show own_Go p.tables e below (s₁.setTop (mkF m 0 #[.val (.int a), .val (.int sel), .unset, .unset] [])) _
  refine own_by (fun t k => XS.iloadN X0.here hx rfl (hb hby at_0) rfl k) ?_
  show own_Go p.tables e below (s₁.setTop (mkF m 1 #[.val (.int a), .val (.int sel), .unset, .unset] [(.int sel)])) _
  refine own_by (fun t k => XS.iconst X0.here hx rfl (hb hby at_1) k) ?_
  show own_Go p.tables e below (s₁.setTop (mkF m 2 #[.val (.int a), .val (.int sel), .unset, .unset] [(.int (3 : Int32)), (.int sel)])) _
  refine own_by (fun t k => XS.iand X0.here hx rfl (hb hby at_2) rfl k) ?_
  show own_Go p.tables e below (s₁.setTop (mkF m 3 #[.val (.int a), .val (.int sel), .unset, .unset] [(.int (sel &&& (3 : Int32)))])) _
  obtain ⟨md, hmd⟩ : ∃ z, z = (sel &&& (3 : Int32)) := ⟨_, rfl⟩
  rw [← hmd]
  show own_Go p.tables e below (s₁.setTop (mkF m 3 #[.val (.int a), .val (.int sel), .unset, .unset] [(.int md)])) _
  refine own_by (fun t k => XS.istoreN X0.here hx rfl (hb hby at_3) rfl (l' := #[.val (.int a), .val (.int sel), .val (.int md), .unset]) rfl k) ?_
  show own_Go p.tables e below (s₁.setTop (mkF m 4 #[.val (.int a), .val (.int sel), .val (.int md), .unset] [])) _
  refine own_by (fun t k => XS.iloadN X0.here hx rfl (hb hby at_4) rfl k) ?_
  show own_Go p.tables e below (s₁.setTop (mkF m 5 #[.val (.int a), .val (.int sel), .val (.int md), .unset] [(.int md)])) _
  obtain ⟨cc, hcc, sj4⟩ : ∃ (cc : Int32), cc = (if md = (0 : Int32) then a else (if md = (1 : Int32) then (a &&& (127 : Int32)) else (if md = (2 : Int32) then (a &&& (65535 : Int32)) else (a &&& (255 : Int32))))) ∧ ∀ t, Steps p.tables e below (s₁.setTop (mkF m 45 #[.val (.int a), .val (.int sel), .val (.int md), .val (.int cc)] [])) t → Steps p.tables e below (s₁.setTop (mkF m 5 #[.val (.int a), .val (.int sel), .val (.int md), .unset] [(.int md)])) t := by
    by_cases j1 : md = (0 : Int32)
    · refine ⟨(a), (if_pos j1).symm, fun t k => ?_⟩
      show Steps p.tables e below (s₁.setTop (mkF m 5 #[.val (.int a), .val (.int sel), .val (.int md), .unset] [(.int md)])) _
      refine XS.ifNo X0.here hx rfl (hb hby at_5) rfl ((if0 _ _).trans (teq j1).2) ?_
      show Steps p.tables e below (s₁.setTop (mkF m 8 #[.val (.int a), .val (.int sel), .val (.int md), .unset] [])) _
      refine XS.iloadN X0.here hx rfl (hb hby at_8) rfl ?_
      show Steps p.tables e below (s₁.setTop (mkF m 9 #[.val (.int a), .val (.int sel), .val (.int md), .unset] [(.int a)])) _
      refine XS.istoreN X0.here hx rfl (hb hby at_9) rfl (l' := #[.val (.int a), .val (.int sel), .val (.int md), .val (.int a)]) rfl ?_
      show Steps p.tables e below (s₁.setTop (mkF m 10 #[.val (.int a), .val (.int sel), .val (.int md), .val (.int a)] [])) _
      refine XS.goto X0.here hx rfl (pc0 := 10) (pc' := 45) rfl (hb hby at_10) (by decide) (by decide) ?_
      show Steps p.tables e below (s₁.setTop (mkF m 45 #[.val (.int a), .val (.int sel), .val (.int md), .val (.int a)] [])) _
      exact k
    · by_cases j2 : md = (1 : Int32)
      · refine ⟨((a &&& (127 : Int32))), ((if_neg j1).trans (if_pos j2)).symm, fun t k => ?_⟩
        show Steps p.tables e below (s₁.setTop (mkF m 5 #[.val (.int a), .val (.int sel), .val (.int md), .unset] [(.int md)])) _
        refine XS.ifYes X0.here hx rfl (pc0 := 5) (pc' := 13) rfl (hb hby at_5) rfl ((if0 _ _).trans (feq j1).2) (by decide) (by decide) ?_
        show Steps p.tables e below (s₁.setTop (mkF m 13 #[.val (.int a), .val (.int sel), .val (.int md), .unset] [])) _
        refine XS.iloadN X0.here hx rfl (hb hby at_13) rfl ?_
        show Steps p.tables e below (s₁.setTop (mkF m 14 #[.val (.int a), .val (.int sel), .val (.int md), .unset] [(.int md)])) _
        refine XS.iconst X0.here hx rfl (hb hby at_14) ?_
        show Steps p.tables e below (s₁.setTop (mkF m 15 #[.val (.int a), .val (.int sel), .val (.int md), .unset] [(.int (1 : Int32)), (.int md)])) _
        refine XS.icmpNo X0.here hx rfl (hb hby at_15) rfl (teq j2).2 ?_
        show Steps p.tables e below (s₁.setTop (mkF m 18 #[.val (.int a), .val (.int sel), .val (.int md), .unset] [])) _
        refine XS.iloadN X0.here hx rfl (hb hby at_18) rfl ?_
        show Steps p.tables e below (s₁.setTop (mkF m 19 #[.val (.int a), .val (.int sel), .val (.int md), .unset] [(.int a)])) _
        refine XS.bipush X0.here hx rfl (hb hby at_19) ?_
        show Steps p.tables e below (s₁.setTop (mkF m 21 #[.val (.int a), .val (.int sel), .val (.int md), .unset] [(.int (127 : Int32)), (.int a)])) _
        refine XS.iand X0.here hx rfl (hb hby at_21) rfl ?_
        show Steps p.tables e below (s₁.setTop (mkF m 22 #[.val (.int a), .val (.int sel), .val (.int md), .unset] [(.int (a &&& (127 : Int32)))])) _
        refine XS.istoreN X0.here hx rfl (hb hby at_22) rfl (l' := #[.val (.int a), .val (.int sel), .val (.int md), .val (.int (a &&& (127 : Int32)))]) rfl ?_
        show Steps p.tables e below (s₁.setTop (mkF m 23 #[.val (.int a), .val (.int sel), .val (.int md), .val (.int (a &&& (127 : Int32)))] [])) _
        refine XS.goto X0.here hx rfl (pc0 := 23) (pc' := 45) rfl (hb hby at_23) (by decide) (by decide) ?_
        show Steps p.tables e below (s₁.setTop (mkF m 45 #[.val (.int a), .val (.int sel), .val (.int md), .val (.int (a &&& (127 : Int32)))] [])) _
        exact k
      · by_cases j3 : md = (2 : Int32)
        · refine ⟨((a &&& (65535 : Int32))), ((if_neg j1).trans ((if_neg j2).trans (if_pos j3))).symm, fun t k => ?_⟩
          show Steps p.tables e below (s₁.setTop (mkF m 5 #[.val (.int a), .val (.int sel), .val (.int md), .unset] [(.int md)])) _
          refine XS.ifYes X0.here hx rfl (pc0 := 5) (pc' := 13) rfl (hb hby at_5) rfl ((if0 _ _).trans (feq j1).2) (by decide) (by decide) ?_
          show Steps p.tables e below (s₁.setTop (mkF m 13 #[.val (.int a), .val (.int sel), .val (.int md), .unset] [])) _
          refine XS.iloadN X0.here hx rfl (hb hby at_13) rfl ?_
          show Steps p.tables e below (s₁.setTop (mkF m 14 #[.val (.int a), .val (.int sel), .val (.int md), .unset] [(.int md)])) _
          refine XS.iconst X0.here hx rfl (hb hby at_14) ?_
          show Steps p.tables e below (s₁.setTop (mkF m 15 #[.val (.int a), .val (.int sel), .val (.int md), .unset] [(.int (1 : Int32)), (.int md)])) _
          refine XS.icmpYes X0.here hx rfl (pc0 := 15) (pc' := 26) rfl (hb hby at_15) rfl (feq j2).2 (by decide) (by decide) ?_
          show Steps p.tables e below (s₁.setTop (mkF m 26 #[.val (.int a), .val (.int sel), .val (.int md), .unset] [])) _
          refine XS.iloadN X0.here hx rfl (hb hby at_26) rfl ?_
          show Steps p.tables e below (s₁.setTop (mkF m 27 #[.val (.int a), .val (.int sel), .val (.int md), .unset] [(.int md)])) _
          refine XS.iconst X0.here hx rfl (hb hby at_27) ?_
          show Steps p.tables e below (s₁.setTop (mkF m 28 #[.val (.int a), .val (.int sel), .val (.int md), .unset] [(.int (2 : Int32)), (.int md)])) _
          refine XS.icmpNo X0.here hx rfl (hb hby at_28) rfl (teq j3).2 ?_
          show Steps p.tables e below (s₁.setTop (mkF m 31 #[.val (.int a), .val (.int sel), .val (.int md), .unset] [])) _
          refine XS.iloadN X0.here hx rfl (hb hby at_31) rfl ?_
          show Steps p.tables e below (s₁.setTop (mkF m 32 #[.val (.int a), .val (.int sel), .val (.int md), .unset] [(.int a)])) _
          refine X0.ldcInt hx hown (mvT hZ (hw _ (List.mem_of_getElem? (i := 16) rfl))) (g := (mkF m 32 #[.val (.int a), .val (.int sel), .val (.int md), .unset] [(.int a)])) rfl (hb hby at_32) _ ?_
          show Steps p.tables e below (s₁.setTop (mkF m 34 #[.val (.int a), .val (.int sel), .val (.int md), .unset] [(.int (65535 : Int32)), (.int a)])) _
          refine XS.iand X0.here hx rfl (hb hby at_34) rfl ?_
          show Steps p.tables e below (s₁.setTop (mkF m 35 #[.val (.int a), .val (.int sel), .val (.int md), .unset] [(.int (a &&& (65535 : Int32)))])) _
          refine XS.istoreN X0.here hx rfl (hb hby at_35) rfl (l' := #[.val (.int a), .val (.int sel), .val (.int md), .val (.int (a &&& (65535 : Int32)))]) rfl ?_
          show Steps p.tables e below (s₁.setTop (mkF m 36 #[.val (.int a), .val (.int sel), .val (.int md), .val (.int (a &&& (65535 : Int32)))] [])) _
          refine XS.goto X0.here hx rfl (pc0 := 36) (pc' := 45) rfl (hb hby at_36) (by decide) (by decide) ?_
          show Steps p.tables e below (s₁.setTop (mkF m 45 #[.val (.int a), .val (.int sel), .val (.int md), .val (.int (a &&& (65535 : Int32)))] [])) _
          exact k
        · refine ⟨((a &&& (255 : Int32))), ((if_neg j1).trans ((if_neg j2).trans (if_neg j3))).symm, fun t k => ?_⟩
          show Steps p.tables e below (s₁.setTop (mkF m 5 #[.val (.int a), .val (.int sel), .val (.int md), .unset] [(.int md)])) _
          refine XS.ifYes X0.here hx rfl (pc0 := 5) (pc' := 13) rfl (hb hby at_5) rfl ((if0 _ _).trans (feq j1).2) (by decide) (by decide) ?_
          show Steps p.tables e below (s₁.setTop (mkF m 13 #[.val (.int a), .val (.int sel), .val (.int md), .unset] [])) _
          refine XS.iloadN X0.here hx rfl (hb hby at_13) rfl ?_
          show Steps p.tables e below (s₁.setTop (mkF m 14 #[.val (.int a), .val (.int sel), .val (.int md), .unset] [(.int md)])) _
          refine XS.iconst X0.here hx rfl (hb hby at_14) ?_
          show Steps p.tables e below (s₁.setTop (mkF m 15 #[.val (.int a), .val (.int sel), .val (.int md), .unset] [(.int (1 : Int32)), (.int md)])) _
          refine XS.icmpYes X0.here hx rfl (pc0 := 15) (pc' := 26) rfl (hb hby at_15) rfl (feq j2).2 (by decide) (by decide) ?_
          show Steps p.tables e below (s₁.setTop (mkF m 26 #[.val (.int a), .val (.int sel), .val (.int md), .unset] [])) _
          refine XS.iloadN X0.here hx rfl (hb hby at_26) rfl ?_
          show Steps p.tables e below (s₁.setTop (mkF m 27 #[.val (.int a), .val (.int sel), .val (.int md), .unset] [(.int md)])) _
          refine XS.iconst X0.here hx rfl (hb hby at_27) ?_
          show Steps p.tables e below (s₁.setTop (mkF m 28 #[.val (.int a), .val (.int sel), .val (.int md), .unset] [(.int (2 : Int32)), (.int md)])) _
          refine XS.icmpYes X0.here hx rfl (pc0 := 28) (pc' := 39) rfl (hb hby at_28) rfl (feq j3).2 (by decide) (by decide) ?_
          show Steps p.tables e below (s₁.setTop (mkF m 39 #[.val (.int a), .val (.int sel), .val (.int md), .unset] [])) _
          refine XS.iloadN X0.here hx rfl (hb hby at_39) rfl ?_
          show Steps p.tables e below (s₁.setTop (mkF m 40 #[.val (.int a), .val (.int sel), .val (.int md), .unset] [(.int a)])) _
          refine XS.sipush X0.here hx rfl (hb hby at_40) ?_
          show Steps p.tables e below (s₁.setTop (mkF m 43 #[.val (.int a), .val (.int sel), .val (.int md), .unset] [(.int (255 : Int32)), (.int a)])) _
          refine XS.iand X0.here hx rfl (hb hby at_43) rfl ?_
          show Steps p.tables e below (s₁.setTop (mkF m 44 #[.val (.int a), .val (.int sel), .val (.int md), .unset] [(.int (a &&& (255 : Int32)))])) _
          refine XS.istoreN X0.here hx rfl (hb hby at_44) rfl (l' := #[.val (.int a), .val (.int sel), .val (.int md), .val (.int (a &&& (255 : Int32)))]) rfl ?_
          show Steps p.tables e below (s₁.setTop (mkF m 45 #[.val (.int a), .val (.int sel), .val (.int md), .val (.int (a &&& (255 : Int32)))] [])) _
          exact k
  refine own_by (sj4) ?_
  show own_Go p.tables e below (s₁.setTop (mkF m 45 #[.val (.int a), .val (.int sel), .val (.int md), .val (.int cc)] [])) _
  refine own_by (fun t k => XS.iloadN X0.here hx rfl (hb hby at_45) rfl k) ?_
  show own_Go p.tables e below (s₁.setTop (mkF m 46 #[.val (.int a), .val (.int sel), .val (.int md), .val (.int cc)] [(.int cc)])) _
  obtain ⟨_, _, ⟨T5, L5, k5, n5⟩, -, X5, ⟨Lc5, hQ5, l5, y5, z5⟩, st5⟩ := Jvm.LawKit.callS X0 hx (y := (⟨"com/example/rewright/rewright/dlgp/Syntax", "isIdentifierPart", "(I)Z"⟩ : MethodName)) hown (mvT hZ (hw _ (List.mem_of_getElem? (i := 0) rfl))) (mvT hZ (hw _ (List.mem_of_getElem? (i := 1) rfl))) (mvT hZ (hw _ (List.mem_of_getElem? (i := 2) rfl))) (mvT hZ (hw _ (List.mem_of_getElem? (i := 3) rfl))) (by decide) (backOf (W := 0) (rm_part l Z a0 hw [] cc  h0 n0 (Nat.le_trans Z0 (Keep.refl h0 []).1) ) hZ (hw _ (List.mem_of_getElem? (i := 3) rfl)) (hw _ (List.mem_of_getElem? (i := 2) rfl)) (by decide) (by decide)) (g := (mkF m 46 #[.val (.int a), .val (.int sel), .val (.int md), .val (.int cc)] [(.int cc)])) rfl (by rw [hml]; rfl) (argsL := [(.int cc)]) (rest := []) (lenOf pd_23 rfl) rfl (by show 2 * 0 + _ ≤ _; exact Nat.le_of_eq rfl) (hb hby at_46) (fun _ _ => ⟨rfl, e0, (by decide : 0 + 0 ≤ _), (by decide : 0 + 0 ≤ _)⟩)
  dsimp only [Pt.U, Pt.locs, Pt.cells, Pt.slots] at X5 l5 y5 z5 st5 hQ5
  subst l5 y5 z5
  obtain ⟨r1, rfl, N5q, eh5, hr1⟩ := hQ5
  have N5 := Fr.app N0 N5q
  refine own_by (st5) ?_
  show own_Go p.tables e below (T5.setTop (mkF m 49 #[.val (.int a), .val (.int sel), .val (.int md), .val (.int cc)] [(.int r1)])) _
  refine own_by (fun t k => XS.iloadN X5.here hx rfl (hb hby at_49) rfl k) ?_
  show own_Go p.tables e below (T5.setTop (mkF m 50 #[.val (.int a), .val (.int sel), .val (.int md), .val (.int cc)] [(.int cc), (.int r1)])) _
  obtain ⟨_, _, ⟨T6, L6, k6, n6⟩, -, X6, ⟨Lc6, hQ6, l6, y6, z6⟩, st6⟩ := Jvm.LawKit.callS X5 hx (y := (⟨"com/example/rewright/rewright/dlgp/SyntaxIsIdentifierPartPinLaw", "reference", "(I)Z"⟩ : MethodName)) hown (mvT hZ (hw _ (List.mem_of_getElem? (i := 10) rfl))) (mvT hZ (hw _ (List.mem_of_getElem? (i := 11) rfl))) (mvT hZ (hw _ (List.mem_of_getElem? (i := 12) rfl))) (mvT hZ (hw _ (List.mem_of_getElem? (i := 13) rfl))) (by decide) (backOf (W := 1) (rm_ref l Z a0 hw [] cc  h0 n0 (Nat.le_trans Z0 (Keep.refl h0 []).1) ) hZ (hw _ (List.mem_of_getElem? (i := 13) rfl)) (hw _ (List.mem_of_getElem? (i := 12) rfl)) (by decide) (by decide)) (g := (mkF m 50 #[.val (.int a), .val (.int sel), .val (.int md), .val (.int cc)] [(.int cc), (.int r1)])) rfl (by rw [hml]; rfl) (argsL := [(.int cc)]) (rest := [(.int r1)]) (lenOf pd_23 rfl) rfl (by show 2 * 0 + _ ≤ _; exact Nat.le_of_eq rfl) (hb hby at_50) (fun _ _ => ⟨rfl, eh5, (by decide : 0 + 0 ≤ _), (by decide : 0 + 0 ≤ _)⟩)
  dsimp only [Pt.U, Pt.locs, Pt.cells, Pt.slots] at X6 l6 y6 z6 st6 hQ6
  subst l6 y6 z6
  obtain ⟨r2, rfl, N6q, eh6, hr2⟩ := hQ6
  have N6 := Fr.app N5 N6q
  refine own_by (st6) ?_
  show own_Go p.tables e below (T6.setTop (mkF m 53 #[.val (.int a), .val (.int sel), .val (.int md), .val (.int cc)] [(.int r2), (.int r1)])) _
  have e12 : r1 = r2 := by rw [hr1, hr2]; exact own_same _
  refine own_by (fun t k => XS.icmpNo X6.here hx rfl (hb hby at_53) rfl (teq e12).2 k) ?_
  show own_Go p.tables e below (T6.setTop (mkF m 56 #[.val (.int a), .val (.int sel), .val (.int md), .val (.int cc)] [])) _
  refine own_by (fun t k => XS.iconst X6.here hx rfl (hb hby at_56) k) ?_
  show own_Go p.tables e below (T6.setTop (mkF m 57 #[.val (.int a), .val (.int sel), .val (.int md), .val (.int cc)] [(.int (1 : Int32))])) _
  refine own_by (fun t k => XS.goto X6.here hx rfl (pc0 := 57) (pc' := 61) rfl (hb hby at_57) (by decide) (by decide) k) ?_
  show own_Go p.tables e below (T6.setTop (mkF m 61 #[.val (.int a), .val (.int sel), .val (.int md), .val (.int cc)] [(.int (1 : Int32))])) _
  exact own_retN X6 hx Bd.notSynchronized (t := .boolean) Bd.returns (by simp) (by decide) (hb hby at_61) (by (try rw [eh6]); exact ⟨rfl, N6⟩) (by decide) (by decide)
set_option maxRecDepth 65536 in
set_option maxHeartbeats 40000000 in
theorem comes_1 {Post : Tables → Env → Array Value → State → Outcome → State → Prop} (hpost : ∀ tb e args s v u, (limb_1_1.after args s (.returned v) u = true ∧ limb_1_2.after args s (.returned v) u = true ∧ True) → FrameEnd s (.returned v) u (Jvm.fieldLocs frame_1_writes args s ++ Jvm.arrayLocs frame_1_arrays args s ++ Jvm.staticLocs frame_1_statics s) 0 0 → Post tb e args s (.returned v) u) :
    ArmFor flags0 classFile x code maxLocals ret World_1 tables_1 room_1 Calls_1 rest_1 Pre_1 Post := by
  intro l hfl _ _ p e ha hc hk s m args below hf hA hF happ hP
  obtain ⟨hcalls, hrest, hpre⟩ := hP
  obtain ⟨-, -, -, hnamed, -, -, -, hat⟩ := (Spec.applies_iff hf).mp happ
  obtain ⟨hg, hn⟩ := and_e (Cond.before_iff.mp (show (Jvm.Cond.and given_1 narrow_1).before args s = true from hpre))
  obtain ⟨hcount, t0⟩ := and_e hg
  obtain ⟨g0, t1⟩ := and_e t0
  obtain ⟨w0, w1, rfl⟩ : ∃ w0 w1 : Value, args = #[w0, w1] := by
    have hs : args.size = 2 := by simpa [Cond.value, given_1] using hcount
    obtain ⟨L⟩ := args
    match L, hs with
    | [w0, w1], _ => exact ⟨w0, w1, rfl⟩
  have hw := fun d (hd : d ∈ tables_1) => atoms_spec (ws := Jvm.Cond.code x code maxLocals ret :: tables_1) hat d (List.mem_cons_of_mem _ hd)
  obtain ⟨i0, ei0⟩ := is_v g0
  obtain rfl : w0 = (.int i0) := Option.some.inj ei0
  obtain ⟨i1, ei1⟩ := is_v t1
  obtain rfl : w1 = (.int i1) := Option.some.inj ei1
  obtain ⟨n, o, h1, h2, h3, _, L, rfl, ⟨rfl, N⟩, hq⟩ := rm_law l s _ hw tables_1 i0 i1 s.heap s.heap.size (Nat.le_refl _) p e ha hc hk s m _ below hf ((Spec.applies_iff_loose hf).mp happ).1 ⟨rfl, State.Warmed39.refl s, rfl⟩ trivial
  refine ⟨n, _, h1, h2, h3, hpost _ _ _ _ _ _ ⟨Cond.after_iff.mpr rfl, Cond.after_iff.mpr (eq_i res_at (Term.int_eval (1)) rfl), trivial⟩ ⟨hq.1, hq.2.1, (hq.2.2.sift fun y hy => Or.inr (N y hy)).mono (by decide) (by decide)⟩⟩
theorem main_1_1 : Claimed_1_1 := comes_1 fun _ _ _ _ _ _ h hF => ⟨h.1, hF⟩
theorem main_1_2 : Claimed_1_2 := comes_1 fun _ _ _ _ _ _ h hF => ⟨h.2.1, hF⟩
end Jvm.Pilot.@@N@@
namespace Jvm.Pilot.@@N@@
open Jvm Jvm.ClassFile Sem Op Lib Jvm.Free Jvm.Stand Jvm.Pilot.@@N@@.Jvm.D
/-! MADE BY PROGRAM (witnessworld.py) out of the Statement's table words and the real class files: 9 classes; the members and pool entries that the words name. The judged class is class 1, her method 2. -/
namespace start1
open Jvm.ClassFile
def u (s : String) : CpInfo := .utf8 (stringToUtf16 s)
/-- a pool by its gaps: so many unusable entries, then the entry; so many at the end -/
def gap : Nat → List CpInfo → List CpInfo
  | 0, r => r
  | n + 1, r => .unusable :: gap n r
def poolList (es : List (Nat × CpInfo)) (last : Nat) : List CpInfo := es.foldr (fun e r => gap e.1 (e.2 :: r)) (gap last [])
def pool (es : List (Nat × CpInfo)) (last : Nat) : Array CpInfo := ⟨poolList es last⟩
def fileOf (pool : Array CpInfo) (this : Nat) (attrs : Array Attribute := #[]) (ms : Array MethodInfo := #[]) (fl : Nat := 33) (sup : Nat := 0) (ifs : Array Nat := #[]) (fds : Array FieldInfo := #[]) : ClassFile where
  minorVersion := 0
  majorVersion := 65
  constantPool := pool
  accessFlags := fl
  thisClass := this
  superClass := sup
  interfaces := ifs
  fields := fds
  methods := ms
  attributes := attrs
def plain (name : String) (sup : Option ClassId) : Class where
  name := name
  kind := .ordinary
  loader := none
  accessFlags := 33
  super := sup
  interfaces := #[]
  cf := none
  fields := #[]
  methods := #[]
  instanceTypes := #[]
  staticTypes := #[]
  resolved := #[]
  callSites := []
  init := .initialized
  statics := none
  mirror := none

def pool0 : Array CpInfo := pool [(5, u "<init>"), (0, u "()V"), (1, .class_ 10), (1, u "java/lang/Object")] 113

def k0m0 : Method := { name := "<init>", desc := "()V", sig := { parameters := [], returnType := none }, accessFlags := 1, code := none }
/-- java/lang/Object -/
def k0 : Class := { plain "java/lang/Object" none with
  accessFlags := 33
  interfaces := #[]
  cf := some (fileOf pool0 8 #[] #[{ accessFlags := 1, nameIndex := 5, descriptorIndex := 6, attributes := #[] }] 33 0 #[] #[])
  fields := #[]
  methods := #[k0m0]
  instanceTypes := #[]
  staticTypes := #[]
  resolved := Array.replicate 124 none
  statics := none }

def pool1 : Array CpInfo := pool [(2, .class_ 4), (1, u "java/lang/Object"), (0, u "<init>"), (0, u "()V"), (0, .class_ 8), (0, u "com/example/rewright/rewright/dlgp/SyntaxIsIdentifierPartPinLaw"), (0, .long 287948901175001088), (1, .long 576460745995190270), (1, .integer 65535), (0, .methodref 15 16), (0, .class_ 17), (0, .nameAndType 18 19), (0, u "com/example/rewright/rewright/dlgp/Syntax"), (0, u "isIdentifierPart"), (0, u "(I)Z"), (0, .methodref 7 21), (0, .nameAndType 22 19), (0, u "reference"), (0, u "LOW"), (0, u "J"), (1, u "HIGH"), (3, u "law"), (0, u "(II)Z")] 2

def k1m0 : Method := { name := "<init>", desc := "()V", sig := { parameters := [], returnType := none }, accessFlags := 2, code := none }
def k1c1 : Code := { maxStack := 4, maxLocals := 3, code := method_2_code, exceptionTable := #[], attributes := #[] }
def k1m1 : Method := { name := "reference", desc := "(I)Z", sig := { parameters := [.int], returnType := some .boolean }, accessFlags := 10, code := some k1c1 }
def k1c2 : Code := { maxStack := 2, maxLocals := 4, code := code, exceptionTable := #[], attributes := #[] }
def k1m2 : Method := { name := "law", desc := "(II)Z", sig := { parameters := [.int, .int], returnType := some .boolean }, accessFlags := 9, code := some k1c2 }
/-- com/example/rewright/rewright/dlgp/SyntaxIsIdentifierPartPinLaw -/
def k1 : Class := { plain "com/example/rewright/rewright/dlgp/SyntaxIsIdentifierPartPinLaw" (some 0) with
  accessFlags := 49
  interfaces := #[]
  cf := some (fileOf pool1 7 #[] #[{ accessFlags := 2, nameIndex := 5, descriptorIndex := 6, attributes := #[] }, { accessFlags := 10, nameIndex := 22, descriptorIndex := 19, attributes := #[] }, { accessFlags := 9, nameIndex := 30, descriptorIndex := 31, attributes := #[] }] 49 2 #[] #[{ accessFlags := 26, nameIndex := 23, descriptorIndex := 24, attributes := #[] }, { accessFlags := 26, nameIndex := 26, descriptorIndex := 24, attributes := #[] }])
  fields := #[{ name := "LOW", type := .long, accessFlags := 26, slot := 0, constantValue := 0 }, { name := "HIGH", type := .long, accessFlags := 26, slot := 1, constantValue := 0 }]
  methods := #[k1m0, k1m1, k1m2]
  instanceTypes := #[]
  staticTypes := #[.long, .long]
  resolved := Array.replicate 34 none
  statics := none }

def pool2 : Array CpInfo := pool [(2, .class_ 4), (1, u "java/lang/Object"), (0, u "<init>"), (0, u "()V"), (0, .methodref 8 9), (0, .class_ 10), (0, .nameAndType 11 12), (0, u "com/example/rewright/rewright/dlgp/Syntax"), (0, u "isLowerStart"), (0, u "(I)Z"), (0, .methodref 8 14), (0, .nameAndType 15 12), (0, u "isUpperStart"), (40, u "ESCAPED"), (0, u "Ljava/lang/String;"), (3, u "ESCAPES"), (4, u "isIdentifierPart")] 27

def k2m0 : Method := { name := "<init>", desc := "()V", sig := { parameters := [], returnType := none }, accessFlags := 2, code := none }
def k2c1 : Code := { maxStack := 2, maxLocals := 1, code := prog_8_method_2_code, exceptionTable := #[], attributes := #[] }
def k2m1 : Method := { name := "isIdentifierPart", desc := "(I)Z", sig := { parameters := [.int], returnType := some .boolean }, accessFlags := 8, code := some k2c1 }
def k2c2 : Code := { maxStack := 2, maxLocals := 1, code := prog_8_method_3_code, exceptionTable := #[], attributes := #[] }
def k2m2 : Method := { name := "isLowerStart", desc := "(I)Z", sig := { parameters := [.int], returnType := some .boolean }, accessFlags := 8, code := some k2c2 }
def k2c3 : Code := { maxStack := 2, maxLocals := 1, code := prog_8_method_4_code, exceptionTable := #[], attributes := #[] }
def k2m3 : Method := { name := "isUpperStart", desc := "(I)Z", sig := { parameters := [.int], returnType := some .boolean }, accessFlags := 8, code := some k2c3 }
/-- com/example/rewright/rewright/dlgp/Syntax -/
def k2 : Class := { plain "com/example/rewright/rewright/dlgp/Syntax" (some 0) with
  accessFlags := 32
  interfaces := #[]
  cf := some (fileOf pool2 8 #[] #[{ accessFlags := 2, nameIndex := 5, descriptorIndex := 6, attributes := #[] }, { accessFlags := 8, nameIndex := 66, descriptorIndex := 12, attributes := #[] }, { accessFlags := 8, nameIndex := 11, descriptorIndex := 12, attributes := #[] }, { accessFlags := 8, nameIndex := 15, descriptorIndex := 12, attributes := #[] }] 32 2 #[] #[{ accessFlags := 24, nameIndex := 56, descriptorIndex := 57, attributes := #[] }, { accessFlags := 24, nameIndex := 61, descriptorIndex := 57, attributes := #[] }])
  fields := #[{ name := "ESCAPED", type := (.object "java/lang/String"), accessFlags := 24, slot := 0, constantValue := 0 }, { name := "ESCAPES", type := (.object "java/lang/String"), accessFlags := 24, slot := 1, constantValue := 0 }]
  methods := #[k2m0, k2m1, k2m2, k2m3]
  instanceTypes := #[]
  staticTypes := #[(.object "java/lang/String"), (.object "java/lang/String")]
  resolved := Array.replicate 94 none
  statics := none }

def pool3 : Array CpInfo := pool [(1, u "java/lang/Cloneable"), (0, .class_ 1), (0, u "java/lang/Object"), (0, .class_ 3)] 3

/-- java/lang/Cloneable -/
def k3 : Class := { plain "java/lang/Cloneable" (some 0) with
  accessFlags := 1537
  interfaces := #[]
  cf := some (fileOf pool3 2 #[] #[] 1537 4 #[] #[])
  fields := #[]
  methods := #[]
  instanceTypes := #[]
  staticTypes := #[]
  resolved := Array.replicate 8 none
  statics := none }

def pool4 : Array CpInfo := pool [(1, u "java/io/Serializable"), (0, .class_ 1), (0, u "java/lang/Object"), (0, .class_ 3)] 3

/-- java/io/Serializable -/
def k4 : Class := { plain "java/io/Serializable" (some 0) with
  accessFlags := 1537
  interfaces := #[]
  cf := some (fileOf pool4 2 #[] #[] 1537 4 #[] #[])
  fields := #[]
  methods := #[]
  instanceTypes := #[]
  staticTypes := #[]
  resolved := Array.replicate 8 none
  statics := none }

/-- the primitive byte -/
def k5 : Class := { plain "byte" none with kind := .primitive 'B', accessFlags := 0x411 }
/-- [B -/
def k6 : Class := { plain "[B" (some 0) with kind := .array 5 .byte, interfaces := #[3, 4], accessFlags := 1041 }

/-- the primitive int -/
def k7 : Class := { plain "int" none with kind := .primitive 'I', accessFlags := 0x411 }
/-- [I -/
def k8 : Class := { plain "[I" (some 0) with kind := .array 7 .int, interfaces := #[3, 4], accessFlags := 1041 }

def heap : Heap := #[]
def classes : Array Class := #[k0, k1, k2, k3, k4, k5, k6, k7, k8]
def interned : List (Array UInt16 × Addr) := []
def slotsUsed : Nat := 0
def theMethod : MethodId := ⟨1, 2⟩
def args0 : Array Value := #[.int 5, .int 5]
def aboutOver (below : List Frame) : State where
  vm := { classes := classes, interned := interned.toArray }
  heap := heap
  slotsUsed := slotsUsed
  threads := #[{ frames := .invoking theMethod args0 :: below }]
def below0 : List Frame := [.native { method := ⟨0, 0⟩, args := #[] }]
def about1 : State := aboutOver below0
def p0 : Program := .bare "" "" ""
def e0 : Env := launch0.env 0 0 0
theorem w_frames : about1.frames = Frame.invoking theMethod args0 :: below0 := rfl
set_option maxRecDepth 65536 in
theorem w_args : argsFit about1.vm theMethod args0 = true := by decide +kernel
set_option maxRecDepth 65536 in
theorem w_heap : heapFits about1 = true := by decide +kernel
set_option maxRecDepth 65536 in
theorem w_runnable : about1.curStatus? = some .runnable := by decide +kernel
set_option maxRecDepth 65536 in
theorem w_alone : about1.alone = true := by decide +kernel
set_option maxRecDepth 65536 in
theorem w_named : about1.methodNamed? x = some theMethod := by decide +kernel
set_option maxRecDepth 65536 in
theorem w_hears : about1.hears theMethod below0 = true := by decide +kernel
set_option maxRecDepth 65536 in
theorem w_ripe : about1.ripe theMethod args0 below0 = true := by decide +kernel
theorem w_running : about1.status = .running := rfl
set_option maxRecDepth 65536 in
theorem w_room : about1.hasRoom e0.platform room_1 = true :=
  launch0.hasRoom_least _ room_1 (by decide +kernel) (by decide +kernel) (by decide +kernel) (by decide +kernel) (by decide +kernel) (by decide +kernel)
theorem allAtoms_all (ts : List Jvm.Cond) (a : Array Jvm.Value) (st : Jvm.State) : (allAtoms ts).before a st = ts.all (fun c => c.before a st) := by
  induction ts with
  | nil => rfl
  | cons c t ih =>
    show (Jvm.Cond.and c (allAtoms t)).before a st = _
    rw [Jvm.Cond.before_and, ih, List.all_cons]
def words1 : List Jvm.Cond := Jvm.Cond.code x code maxLocals ret :: tables_1
/-- a 'code' word, met by the world's own term for the bytes: nothing is compared byte by byte -/
theorem code_word {y : MethodName} {bytes : ByteArray} {mx : Nat} {rt : Option FieldType} {a : Array Value} {s : State} {m : MethodId} {meth : Method} {c : Code} (h1 : s.methodNamed? y = some m) (h2 : s.vm.method? m = some meth) (h3 : meth.code = some c) (h4 : c.code = bytes)
    (h5 : (c.maxLocals == mx && c.exceptionTable.isEmpty && decide (c.maxStack ≤ mostOperands) && decide (meth.sig.returnType = rt) && !meth.locks && decide (parseMethodDescriptor y.desc = some meth.sig)) = true) : (Jvm.Cond.code y bytes mx rt).before a s = true := by
  simp only [Bool.and_eq_true, beq_iff_eq, Bool.not_eq_true', decide_eq_true_eq] at h5
  obtain ⟨⟨⟨⟨⟨g1, g2⟩, g3⟩, g4⟩, g5⟩, g6⟩ := h5
  simp [Cond.before, Cond.holds, Cond.value, h1, h2, h3, h4, g1, g2, g3, g4, g5, g6]
def isCode : Jvm.Cond → Bool
  | .code _ _ _ _ => true
  | _ => false
theorem all_split {L : List Jvm.Cond} {P : Jvm.Cond → Bool} (h1 : L.all (fun c => isCode c || P c) = true) (h2 : ∀ c ∈ L.filter isCode, P c = true) : L.all P = true := by
  refine List.all_eq_true.mpr fun c hc => ?_
  have h := List.all_eq_true.mp h1 c hc
  rcases Bool.eq_false_or_eq_true (isCode c) with hi | hi
  · exact h2 c (List.mem_filter.mpr ⟨hc, hi⟩)
  · simpa [hi] using h
set_option maxRecDepth 65536 in
theorem w_c0 : (Jvm.Cond.code x code maxLocals ret).before args0 about1 = true := code_word (m := ⟨1, 2⟩) (meth := k1m2) (c := k1c2) (by decide +kernel) rfl rfl rfl (by decide +kernel)
set_option maxRecDepth 65536 in
theorem w_c1 : (Jvm.Cond.code ({ cls := "com/example/rewright/rewright/dlgp/Syntax", name := "isIdentifierPart", desc := "(I)Z" } : Jvm.MethodName) prog_8_method_2_code (1 : Nat) (Option.some Jvm.ClassFile.FieldType.boolean)).before args0 about1 = true := code_word (m := ⟨2, 1⟩) (meth := k2m1) (c := k2c1) (by decide +kernel) rfl rfl rfl (by decide +kernel)
set_option maxRecDepth 65536 in
theorem w_c2 : (Jvm.Cond.code ({ cls := "com/example/rewright/rewright/dlgp/Syntax", name := "isLowerStart", desc := "(I)Z" } : Jvm.MethodName) prog_8_method_3_code (1 : Nat) (Option.some Jvm.ClassFile.FieldType.boolean)).before args0 about1 = true := code_word (m := ⟨2, 2⟩) (meth := k2m2) (c := k2c2) (by decide +kernel) rfl rfl rfl (by decide +kernel)
set_option maxRecDepth 65536 in
theorem w_c3 : (Jvm.Cond.code ({ cls := "com/example/rewright/rewright/dlgp/Syntax", name := "isUpperStart", desc := "(I)Z" } : Jvm.MethodName) prog_8_method_4_code (1 : Nat) (Option.some Jvm.ClassFile.FieldType.boolean)).before args0 about1 = true := code_word (m := ⟨2, 3⟩) (meth := k2m3) (c := k2c3) (by decide +kernel) rfl rfl rfl (by decide +kernel)
set_option maxRecDepth 65536 in
theorem w_c4 : (Jvm.Cond.code ({ cls := "com/example/rewright/rewright/dlgp/SyntaxIsIdentifierPartPinLaw", name := "reference", desc := "(I)Z" } : Jvm.MethodName) method_2_code (3 : Nat) (Option.some Jvm.ClassFile.FieldType.boolean)).before args0 about1 = true := code_word (m := ⟨1, 1⟩) (meth := k1m1) (c := k1c1) (by decide +kernel) rfl rfl rfl (by decide +kernel)
def codes1 : List Jvm.Cond := [Jvm.Cond.code x code maxLocals ret, Jvm.Cond.code ({ cls := "com/example/rewright/rewright/dlgp/Syntax", name := "isIdentifierPart", desc := "(I)Z" } : Jvm.MethodName) prog_8_method_2_code (1 : Nat) (Option.some Jvm.ClassFile.FieldType.boolean), Jvm.Cond.code ({ cls := "com/example/rewright/rewright/dlgp/Syntax", name := "isLowerStart", desc := "(I)Z" } : Jvm.MethodName) prog_8_method_3_code (1 : Nat) (Option.some Jvm.ClassFile.FieldType.boolean), Jvm.Cond.code ({ cls := "com/example/rewright/rewright/dlgp/Syntax", name := "isUpperStart", desc := "(I)Z" } : Jvm.MethodName) prog_8_method_4_code (1 : Nat) (Option.some Jvm.ClassFile.FieldType.boolean), Jvm.Cond.code ({ cls := "com/example/rewright/rewright/dlgp/SyntaxIsIdentifierPartPinLaw", name := "reference", desc := "(I)Z" } : Jvm.MethodName) method_2_code (3 : Nat) (Option.some Jvm.ClassFile.FieldType.boolean)]
set_option maxRecDepth 65536 in
theorem codes_eq : words1.filter isCode = codes1 := rfl
theorem w_codes : ∀ c ∈ words1.filter isCode, c.before args0 about1 = true := by
  rw [codes_eq]
  intro c hc
  simp only [codes1, List.mem_cons, List.not_mem_nil, or_false] at hc
  rcases hc with rfl | rfl | rfl | rfl | rfl
  · exact w_c0
  · exact w_c1
  · exact w_c2
  · exact w_c3
  · exact w_c4
set_option maxRecDepth 65536 in
theorem w_t1 : words1.all (fun c => isCode c || c.before args0 about1) = true := by decide +kernel
theorem w_tables : (allAtoms (Jvm.Cond.code x code maxLocals ret :: tables_1)).before args0 about1 = true := by
  rw [allAtoms_all]
  show words1.all (fun c => c.before args0 about1) = true
  refine all_split ?_ w_codes
  rw [w_t1]
set_option maxRecDepth 65536 in
theorem w_case : (Jvm.Cond.and given_1 narrow_1).before args0 about1 = true := by decide +kernel
theorem w_applies : (headSpec (Jvm.Cond.code x code maxLocals ret :: tables_1) room_1).applies x e0.platform about1 = true :=
  (Spec.applies_iff w_frames).mpr ⟨w_running, w_runnable, w_alone, w_named, w_hears, w_ripe, w_room, w_tables⟩
theorem atStart : AtStart classFile x code maxLocals ret World_1 tables_1 room_1 Calls_1 rest_1 Pre_1 launch0 p0 e0 about1 theMethod args0 below0 :=
  ⟨lists_1, trivial, launch0.admits_env _ _ _, launch0.least_env, fairChoices_fair.cas, fairChoices_fair.clock, w_frames, w_args, w_heap, w_applies, trivial, trivial, w_case⟩
end start1
theorem witness_1 : WitnessClaimed_1 := ⟨start1.p0, start1.e0, start1.about1, start1.theMethod, start1.args0, start1.below0, start1.atStart⟩
end Jvm.Pilot.@@N@@
