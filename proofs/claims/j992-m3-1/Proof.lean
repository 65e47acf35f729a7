import JvmDerived
import JvmDerived.Pilot.@@N@@Statement
import JvmDerived.Pilot.@@N@@Code
set_option linter.unusedVariables false
set_option linter.unusedSimpArgs false

namespace Jvm.Pilot.@@N@@
open Jvm Jvm.ClassFile Sem Op Lib Jvm.Free Jvm.Stand Jvm.LawKit Jvm.RoadKit Bundle Jvm.Pilot.@@N@@.Jvm.D
/-! own kit: the walk's goal carried forward, arrays as functions -/
def own_Fin (below : List Frame) (s : State) (Q : Option Value → Heap → List Loc → Prop) (k n : Nat) (t : State) : Prop :=
  ∃ o, t.status = .running ∧ Ended t below o ∧ ∃ v L, o = .returned v ∧ Q v t.heap L ∧ FrameEnd s o t L k n
def own_Go (tb : Tables) (e : Env) (below : List Frame) (S : State) (P : State → Prop) : Prop := ∃ t, Steps tb e below S t ∧ P t
theorem own_by {tb : Tables} {e : Env} {below : List Frame} {S S' : State} {P : State → Prop} (k : ∀ t, Steps tb e below S' t → Steps tb e below S t) (h : own_Go tb e below S' P) : own_Go tb e below S P := by
  obtain ⟨t, a, b⟩ := h
  exact ⟨t, k t a, b⟩
theorem own_tr {tb : Tables} {e : Env} {below : List Frame} {S S' : State} {P : State → Prop} (k : Steps tb e below S S') (h : own_Go tb e below S' P) : own_Go tb e below S P := by
  obtain ⟨t, a, b⟩ := h
  exact ⟨t, k.trans a, b⟩
theorem own_out {tb : Tables} {e : Env} {below : List Frame} {S s : State} {Q : Option Value → Heap → List Loc → Prop} {k n : Nat} (h : own_Go tb e below S (own_Fin below s Q k n)) :
    ∃ s₂ o, Steps tb e below S s₂ ∧ s₂.status = .running ∧ Ended s₂ below o ∧ ∃ v L, o = .returned v ∧ Q v s₂.heap L ∧ FrameEnd s o s₂ L k n := by
  obtain ⟨t, a, o, b, c, d⟩ := h
  exact ⟨t, o, a, b, c, d⟩
theorem own_cast {tb : Tables} {e : Env} {below : List Frame} {T : State} {g g' : JFrame} {P : State → Prop} (q : g = g') (h : own_Go tb e below (T.setTop g') P) : own_Go tb e below (T.setTop g) P := q ▸ h
section OwnEnd
variable {p : Program} {l : Launch} {e : Env} {R : Room} {s : State} {m : MethodId} {args : Array Value} {below : List Frame} {meth : Method} {c : Code} {T : State} {locs : List Loc} {cells slots : Nat} {Q : Option Value → Heap → List Loc → Prop} {k n : Nat}
theorem own_ret (X : Stand p l e R s m args below meth c T locs cells slots) (hx : p.tables.exec = Jvm.exec) (hlocks : meth.locks = false) {pc : Nat} {Ls : Array Slot} {w : Value} {t : FieldType} {i : Instr} {rest : List Value} (hret : meth.sig.returnType = some t) (hn : narrow t w = w)
    (hi : (i = .ireturn ∧ (t = .int ∨ t = .boolean ∨ t = .byte ∨ t = .char ∨ t = .short) ∧ ∃ z, w = .int z) ∨ (i = .lreturn ∧ t = .long ∧ ∃ z, w = .long z) ∨ (i = .dreturn ∧ t = .double ∧ ∃ z, w = .double z) ∨ (i = .freturn ∧ t = .float ∧ ∃ z, w = .float z) ∨ (i = .areturn ∧ t.isReference = true ∧ w.isRef = true))
    (hd : decode c.code pc = .ok (i, 1)) (hQ : Q (some w) T.heap locs) (h1 : cells ≤ k) (h2 : slots ≤ n) :
    own_Go p.tables e below (T.setTop (mkF m pc Ls (w :: rest))) (own_Fin below s Q k n) := by
  obtain ⟨fs, hr, hrun, hended, hW, hsame⟩ := X.leave (v := some w) (fun h => by rw [hret] at h; cases h) hlocks
  exact ⟨_, retOut X hx hret hn hi hd hr, _, hrun, hended, _, _, rfl, hQ, ⟨_, rfl⟩, hW, hsame.mono h1 h2⟩
theorem own_retI (X : Stand p l e R s m args below meth c T locs cells slots) (hx : p.tables.exec = Jvm.exec) (hlocks : meth.locks = false) {pc : Nat} {Ls : Array Slot} {z : Int32} {rest : List Value} (hret : meth.sig.returnType = some .int)
    (hd : decode c.code pc = .ok (.ireturn, 1)) (hQ : Q (some (.int z)) T.heap locs) (h1 : cells ≤ k) (h2 : slots ≤ n) :
    own_Go p.tables e below (T.setTop (mkF m pc Ls (.int z :: rest))) (own_Fin below s Q k n) :=
  own_ret X hx hlocks hret rfl (Or.inl ⟨rfl, Or.inl rfl, _, rfl⟩) hd hQ h1 h2
theorem own_retJ (X : Stand p l e R s m args below meth c T locs cells slots) (hx : p.tables.exec = Jvm.exec) (hlocks : meth.locks = false) {pc : Nat} {Ls : Array Slot} {z : Int64} {rest : List Value} (hret : meth.sig.returnType = some .long)
    (hd : decode c.code pc = .ok (.lreturn, 1)) (hQ : Q (some (.long z)) T.heap locs) (h1 : cells ≤ k) (h2 : slots ≤ n) :
    own_Go p.tables e below (T.setTop (mkF m pc Ls (.long z :: rest))) (own_Fin below s Q k n) :=
  own_ret X hx hlocks hret rfl (Or.inr (Or.inl ⟨rfl, rfl, _, rfl⟩)) hd hQ h1 h2
theorem own_retA (X : Stand p l e R s m args below meth c T locs cells slots) (hx : p.tables.exec = Jvm.exec) (hlocks : meth.locks = false) {pc : Nat} {Ls : Array Slot} {w : Value} {t : FieldType} {rest : List Value} (hret : meth.sig.returnType = some t) (ht : t.isReference = true) (hw : w.isRef = true) (hn : narrow t w = w)
    (hd : decode c.code pc = .ok (.areturn, 1)) (hQ : Q (some w) T.heap locs) (h1 : cells ≤ k) (h2 : slots ≤ n) :
    own_Go p.tables e below (T.setTop (mkF m pc Ls (w :: rest))) (own_Fin below s Q k n) :=
  own_ret X hx hlocks hret hn (Or.inr (Or.inr (Or.inr (Or.inr ⟨rfl, ht, hw⟩)))) hd hQ h1 h2
theorem own_retN (X : Stand p l e R s m args below meth c T locs cells slots) (hx : p.tables.exec = Jvm.exec) (hlocks : meth.locks = false) {pc : Nat} {Ls : Array Slot} {z : Int32} {t : FieldType} {rest : List Value} (hret : meth.sig.returnType = some t) (ht : t = .boolean ∨ t = .byte ∨ t = .char ∨ t = .short) (hn : nar t z = z)
    (hd : decode c.code pc = .ok (.ireturn, 1)) (hQ : Q (some (.int z)) T.heap locs) (h1 : cells ≤ k) (h2 : slots ≤ n) :
    own_Go p.tables e below (T.setTop (mkF m pc Ls (.int z :: rest))) (own_Fin below s Q k n) := by
  obtain ⟨fs, hr, hrun, hended, hW, hsame⟩ := X.leave (v := some (.int (nar t z))) (fun h => by rw [hret] at h; cases h) hlocks
  exact ⟨_, retN X hx hret ht hd hr, _, hrun, hended, _, _, rfl, (by rw [hn]; exact hQ), ⟨_, rfl⟩, hW, hsame.mono h1 h2⟩
theorem own_retV (X : Stand p l e R s m args below meth c T locs cells slots) (hx : p.tables.exec = Jvm.exec) (hlocks : meth.locks = false) {pc : Nat} {Ls : Array Slot} (hret : meth.sig.returnType = none)
    (hd : decode c.code pc = .ok (.return_, 1)) (hQ : Q none T.heap locs) (h1 : cells ≤ k) (h2 : slots ≤ n) :
    own_Go p.tables e below (T.setTop (mkF m pc Ls [])) (own_Fin below s Q k n) := by
  obtain ⟨fs, hr, hrun, hended, hW, hsame⟩ := X.leave (v := none) (fun _ => rfl) hlocks
  exact ⟨_, X.returnOut hx hret hd hr, _, hrun, hended, _, _, rfl, hQ, ⟨_, rfl⟩, hW, hsame.mono h1 h2⟩
end OwnEnd
/-- one place of a function changed -/
def own_upd {α : Type} (f : Nat → α) (k : Nat) (x : α) : Nat → α := fun i => if i = k then x else f i
theorem own_upd_at {α : Type} (f : Nat → α) (k : Nat) (x : α) : own_upd f k x k = x := by simp [own_upd]
theorem own_upd_ne {α : Type} (f : Nat → α) {k i : Nat} (x : α) (h : i ≠ k) : own_upd f k x i = f i := by simp [own_upd, h]
/-- an array: its length, and what each place holds -/
def own_AF (Z : State) (h : Heap) (a : Addr) (ty : FieldType) (n : Nat) (f : Nat → Value) : Prop := ∃ c : Cell, Arr Z h a c ty ∧ c.slots.size = n ∧ ∀ i, i < n → c.slots[i]? = some (f i)
def own_AI (Z : State) (h : Heap) (a : Addr) (ty : FieldType) (n : Nat) (b : Nat → Int32) : Prop := own_AF Z h a ty n (fun i => .int (b i))
def own_AJ (Z : State) (h : Heap) (a : Addr) (n : Nat) (b : Nat → Int64) : Prop := own_AF Z h a .long n (fun i => .long (b i))
section OwnArr
variable {Z : State} {h h' : Heap} {a b : Addr} {ty : FieldType} {n : Nat} {f : Nat → Value} {ws : List Addr} {sl : Nat} {v : Value} {bi : Nat → Int32} {bj : Nat → Int64}
theorem own_AF.lt (F : own_AF Z h a ty n f) : a < h.size := by obtain ⟨c, A, -⟩ := F; exact A.lt
theorem own_AF.ext (F : own_AF Z h a ty n f) (E : Ext h h') : own_AF Z h' a ty n f := by obtain ⟨c, A, r⟩ := F; exact ⟨c, A.ext E, r⟩
theorem own_AF.other (F : own_AF Z h b ty n f) (W : Wr h h' a sl v) (q : b ≠ a) : own_AF Z h' b ty n f := by obtain ⟨c, A, r⟩ := F; exact ⟨c, A.other W q, r⟩
theorem own_AF.keep (F : own_AF Z h a ty n f) (K : Keep h h' ws) (q : a ∉ ws) : own_AF Z h' a ty n f := by obtain ⟨c, A, r⟩ := F; exact ⟨c, ⟨K.2.1 a c A.1 q, A.2⟩, r⟩
theorem own_AF.congr (F : own_AF Z h a ty n f) {f' : Nat → Value} (q : ∀ i, i < n → f i = f' i) : own_AF Z h a ty n f' := by obtain ⟨c, A, S, r⟩ := F; exact ⟨c, A, S, fun i hi => by rw [← q i hi]; exact r i hi⟩
theorem own_AF.new {k : ClassId} {z : Int32} (A : Arr Z h a (newA k ty z) ty) (hz : z.toNatClampNeg = n) : own_AF Z h a ty n (fun _ => defaultValue ty) := by
  subst hz
  exact ⟨_, A, sz_new _ _ _, fun i hi => by simp [newA, hi]⟩
theorem own_AF.st (F : own_AF Z h a ty n f) (W : Wr h h' a sl v) : own_AF Z h' a ty n (own_upd f sl v) := by
  obtain ⟨c, A, S, r⟩ := F
  refine ⟨_, A.same W, by rw [sz_set]; exact S, fun i hi => ?_⟩
  by_cases u : i = sl
  · subst u; rw [own_upd_at]; simp [Cell.setSlot, S, hi]
  · rw [own_upd_ne _ _ u]
    simp only [Cell.setSlot]
    rw [Array.getElem?_setIfInBounds_ne (fun q => u q.symm)]; exact r i hi
theorem own_AI.st {x : Int32} (F : own_AI Z h a ty n bi) (W : Wr h h' a sl (.int x)) : own_AI Z h' a ty n (own_upd bi sl x) :=
  (own_AF.st F W).congr fun i _ => by by_cases u : i = sl <;> simp [own_upd, u]
theorem own_AJ.st {x : Int64} (F : own_AJ Z h a n bj) (W : Wr h h' a sl (.long x)) : own_AJ Z h' a n (own_upd bj sl x) :=
  (own_AF.st F W).congr fun i _ => by by_cases u : i = sl <;> simp [own_upd, u]
theorem own_AI.lt (F : own_AI Z h a ty n bi) : a < h.size := own_AF.lt F
theorem own_AI.ext (F : own_AI Z h a ty n bi) (E : Ext h h') : own_AI Z h' a ty n bi := own_AF.ext F E
theorem own_AI.other (F : own_AI Z h b ty n bi) (W : Wr h h' a sl v) (q : b ≠ a) : own_AI Z h' b ty n bi := own_AF.other F W q
theorem own_AI.keep (F : own_AI Z h a ty n bi) (K : Keep h h' ws) (q : a ∉ ws) : own_AI Z h' a ty n bi := own_AF.keep F K q
theorem own_AI.congr (F : own_AI Z h a ty n bi) {b' : Nat → Int32} (q : ∀ i, i < n → bi i = b' i) : own_AI Z h a ty n b' := own_AF.congr F fun i hi => by rw [q i hi]
theorem own_AJ.lt (F : own_AJ Z h a n bj) : a < h.size := own_AF.lt F
theorem own_AJ.ext (F : own_AJ Z h a n bj) (E : Ext h h') : own_AJ Z h' a n bj := own_AF.ext F E
theorem own_AJ.other (F : own_AJ Z h b n bj) (W : Wr h h' a sl v) (q : b ≠ a) : own_AJ Z h' b n bj := own_AF.other F W q
theorem own_AJ.keep (F : own_AJ Z h a n bj) (K : Keep h h' ws) (q : a ∉ ws) : own_AJ Z h' a n bj := own_AF.keep F K q
theorem own_AJ.congr (F : own_AJ Z h a n bj) {b' : Nat → Int64} (q : ∀ i, i < n → bj i = b' i) : own_AJ Z h a n b' := own_AF.congr F fun i hi => by rw [q i hi]
variable {p : Program} {l : Launch} {e : Env} {R : Room} {s : State} {m : MethodId} {args : Array Value} {below : List Frame} {meth : Method} {c : Code} {T : State} {locs : List Loc} {cells slots : Nat} {j : Int32} {k : Nat} {g : JFrame} {rest : List Value}
theorem own_in {cl : Cell} (S : cl.slots.size = n) (h0 : ¬ j < 0) (hk : j.toNatClampNeg = k) (hlt : k < n) : ¬ (j < 0 ∨ cl.slots.size ≤ j.toNatClampNeg) := by
  rintro (q | q)
  · exact h0 q
  · rw [S, hk] at q; omega
theorem own_ldB (X : Stand p l e R s m args below meth c T locs cells slots) (hx : p.tables.exec = Jvm.exec) (hZ : Z.Warmed39 s.vm) (eT : T.heap = h) (A : own_AI Z h a .byte n bi) (h0 : ¬ j < 0) (hk : j.toNatClampNeg = k) (hlt : k < n) (hg : g.method = m) (hs : g.stack = .int j :: .ref a :: rest) (hd : decode c.code g.pc = .ok (.baload, 1)) :
    ∀ target, Steps p.tables e below (T.setTop { g with pc := g.pc + 1, stack := .int (bi k) :: rest }) target → Steps p.tables e below (T.setTop g) target := by
  obtain ⟨cl, Ar, S, H⟩ := A
  exact X.baloadBytes hx (v := .int (bi k)) (by rw [eT]; exact Ar.1) (State.isArrayOf_alike hZ.alike Ar.2.1) Ar.2.2 (own_in S h0 hk hlt) (by rw [hk]; exact H k hlt) hg hs hd
theorem own_ldI (X : Stand p l e R s m args below meth c T locs cells slots) (hx : p.tables.exec = Jvm.exec) (hZ : Z.Warmed39 s.vm) (eT : T.heap = h) (A : own_AI Z h a .int n bi) (h0 : ¬ j < 0) (hk : j.toNatClampNeg = k) (hlt : k < n) (hg : g.method = m) (hs : g.stack = .int j :: .ref a :: rest) (hd : decode c.code g.pc = .ok (.iaload, 1)) :
    ∀ target, Steps p.tables e below (T.setTop { g with pc := g.pc + 1, stack := .int (bi k) :: rest }) target → Steps p.tables e below (T.setTop g) target := by
  obtain ⟨cl, Ar, S, H⟩ := A
  exact X.iaload hx (v := .int (bi k)) (by rw [eT]; exact Ar.1) (State.isArrayOf_alike hZ.alike Ar.2.1) Ar.2.2 (own_in S h0 hk hlt) (by rw [hk]; exact H k hlt) hg hs hd
theorem own_ldJ (X : Stand p l e R s m args below meth c T locs cells slots) (hx : p.tables.exec = Jvm.exec) (hZ : Z.Warmed39 s.vm) (eT : T.heap = h) (A : own_AJ Z h a n bj) (h0 : ¬ j < 0) (hk : j.toNatClampNeg = k) (hlt : k < n) (hg : g.method = m) (hs : g.stack = .int j :: .ref a :: rest) (hd : decode c.code g.pc = .ok (.laload, 1)) :
    ∀ target, Steps p.tables e below (T.setTop { g with pc := g.pc + 1, stack := .long (bj k) :: rest }) target → Steps p.tables e below (T.setTop g) target := by
  obtain ⟨cl, Ar, S, H⟩ := A
  exact X.laload hx (v := .long (bj k)) (by rw [eT]; exact Ar.1) (State.isArrayOf_alike hZ.alike Ar.2.1) Ar.2.2 (own_in S h0 hk hlt) (by rw [hk]; exact H k hlt) hg hs hd
theorem own_len (X : Stand p l e R s m args below meth c T locs cells slots) (hx : p.tables.exec = Jvm.exec) (hZ : Z.Warmed39 s.vm) (eT : T.heap = h) (A : own_AF Z h a ty n f) {z : Int32} (hz : n.toInt32 = z) (hg : g.method = m) (hs : g.stack = .ref a :: rest) (hd : decode c.code g.pc = .ok (.arraylength, 1)) :
    ∀ target, Steps p.tables e below (T.setTop { g with pc := g.pc + 1, stack := .int z :: rest }) target → Steps p.tables e below (T.setTop g) target := by
  obtain ⟨cl, Ar, S, H⟩ := A
  intro t hr
  refine X.arraylength hx (by rw [eT]; exact Ar.1) (State.isArrayOf_alike hZ.alike Ar.2.1) hg hs hd t ?_
  rw [S, hz]; exact hr
theorem own_stB (X : Stand p l e R s m args below meth c T locs cells slots) (hx : p.tables.exec = Jvm.exec) (hZ : Z.Warmed39 s.vm) (eT : T.heap = h) (A : own_AI Z h a .byte n bi) {x : Int32} (h0 : ¬ j < 0) (hk : j.toNatClampNeg = k) (hlt : k < n) (hg : g.method = m) (hs : g.stack = .int x :: .int j :: .ref a :: rest) (hd : decode c.code g.pc = .ok (.bastore, 1)) :
    ∃ T' h', Stand p l e R s m args below meth c T' (locs ++ [⟨a, k⟩]) cells slots ∧ T'.heap = h' ∧ Wr h h' a k (.int (x.toInt8.toInt32)) ∧ own_AI Z h' a .byte n (own_upd bi k (x.toInt8.toInt32)) ∧ ∀ target, Steps p.tables e below (T'.setTop { g with pc := g.pc + 1, stack := rest }) target → Steps p.tables e below (T.setTop g) target := by
  obtain ⟨cl, Ar, S, H⟩ := id A
  obtain ⟨T', h', X', e', W, st⟩ := stB X hx hZ eT Ar (own_in S h0 hk hlt) hg hs hd
  rw [hk] at X' W
  exact ⟨T', h', X', e', W, A.st W, st⟩
theorem own_stI (X : Stand p l e R s m args below meth c T locs cells slots) (hx : p.tables.exec = Jvm.exec) (hZ : Z.Warmed39 s.vm) (eT : T.heap = h) (A : own_AI Z h a .int n bi) {x : Int32} (h0 : ¬ j < 0) (hk : j.toNatClampNeg = k) (hlt : k < n) (hg : g.method = m) (hs : g.stack = .int x :: .int j :: .ref a :: rest) (hd : decode c.code g.pc = .ok (.iastore, 1)) :
    ∃ T' h', Stand p l e R s m args below meth c T' (locs ++ [⟨a, k⟩]) cells slots ∧ T'.heap = h' ∧ Wr h h' a k (.int x) ∧ own_AI Z h' a .int n (own_upd bi k x) ∧ ∀ target, Steps p.tables e below (T'.setTop { g with pc := g.pc + 1, stack := rest }) target → Steps p.tables e below (T.setTop g) target := by
  obtain ⟨cl, Ar, S, H⟩ := id A
  obtain ⟨T', h', X', e', W, st⟩ := stI X hx hZ eT Ar (own_in S h0 hk hlt) hg hs hd
  rw [hk] at X' W
  exact ⟨T', h', X', e', W, A.st W, st⟩
theorem own_stJ (X : Stand p l e R s m args below meth c T locs cells slots) (hx : p.tables.exec = Jvm.exec) (hZ : Z.Warmed39 s.vm) (eT : T.heap = h) (A : own_AJ Z h a n bj) {x : Int64} (h0 : ¬ j < 0) (hk : j.toNatClampNeg = k) (hlt : k < n) (hg : g.method = m) (hs : g.stack = .long x :: .int j :: .ref a :: rest) (hd : decode c.code g.pc = .ok (.lastore, 1)) :
    ∃ T' h', Stand p l e R s m args below meth c T' (locs ++ [⟨a, k⟩]) cells slots ∧ T'.heap = h' ∧ Wr h h' a k (.long x) ∧ own_AJ Z h' a n (own_upd bj k x) ∧ ∀ target, Steps p.tables e below (T'.setTop { g with pc := g.pc + 1, stack := rest }) target → Steps p.tables e below (T.setTop g) target := by
  obtain ⟨cl, Ar, S, H⟩ := id A
  obtain ⟨T', h', X', e', W, st⟩ := stJ X hx hZ eT Ar (own_in S h0 hk hlt) hg hs hd
  rw [hk] at X' W
  exact ⟨T', h', X', e', W, A.st W, st⟩
end OwnArr
/-- what a body leaves that returns an int (a long) and writes nothing -/
def own_QI (h0 : Heap) (n0 : Nat) (f : Int32) (v : Option Value) (h : Heap) (L : List Loc) : Prop := ∃ r : Int32, v = some (.int r) ∧ Fr n0 L ∧ h = h0 ∧ r = f
def own_QJ (h0 : Heap) (n0 : Nat) (f : Int64) (v : Option Value) (h : Heap) (L : List Loc) : Prop := ∃ r : Int64, v = some (.long r) ∧ Fr n0 L ∧ h = h0 ∧ r = f
theorem own_nb {z : Int32} (h : z = 0 ∨ z = 1) : nar .boolean z = z := by rcases h with rfl | rfl <;> decide
/-! sums, differences and products that don't wrap -/
theorem own_add {x y : Int32} (h1 : -2147483648 ≤ x.toInt + y.toInt) (h2 : x.toInt + y.toInt < 2147483648) : (x + y).toInt = x.toInt + y.toInt := by
  have a := c_iadd x y; have b := (x + y).toInt_lt; have c := (x + y).le_toInt; omega
theorem own_sub' {x y : Int32} (h1 : -2147483648 ≤ x.toInt - y.toInt) (h2 : x.toInt - y.toInt < 2147483648) : (x - y).toInt = x.toInt - y.toInt := by
  have a := c_isub x y; have b := (x - y).toInt_lt; have c := (x - y).le_toInt; omega
theorem own_mul {x y : Int32} {t : Int} (ht : x.toInt * y.toInt = t) (h1 : -2147483648 ≤ t) (h2 : t < 2147483648) : (x * y).toInt = t := by
  have a := c_imul x y; rw [ht] at a; have b := (x * y).toInt_lt; have c := (x * y).le_toInt; omega
theorem own_addL {x y : Int64} (h1 : -9223372036854775808 ≤ x.toInt + y.toInt) (h2 : x.toInt + y.toInt < 9223372036854775808) : (x + y).toInt = x.toInt + y.toInt := by
  have a := c_ladd x y; have b := (x + y).toInt_lt; have c := (x + y).le_toInt; omega
theorem own_subL {x y : Int64} (h1 : -9223372036854775808 ≤ x.toInt - y.toInt) (h2 : x.toInt - y.toInt < 9223372036854775808) : (x - y).toInt = x.toInt - y.toInt := by
  have a := c_lsub x y; have b := (x - y).toInt_lt; have c := (x - y).le_toInt; omega
theorem own_mulL {x y : Int64} {t : Int} (ht : x.toInt * y.toInt = t) (h1 : -9223372036854775808 ≤ t) (h2 : t < 9223372036854775808) : (x * y).toInt = t := by
  have a := c_lmul x y; rw [ht] at a; have b := (x * y).toInt_lt; have c := (x * y).le_toInt; omega
def own_fl (sd : Int64) : Nat → Int32 := (own_upd (own_upd (own_upd (own_upd (own_upd (own_upd (own_upd (own_upd (own_upd (own_upd (own_upd (own_upd (fun _ => (0 : Int32)) 0 (((sd.toInt32).toInt8.toInt32).toInt8.toInt32)) 1 (((((sd.toUInt64 >>> ((5 : Int32) &&& 0x3f).toInt64.toUInt64).toInt64).toInt32).toInt8.toInt32).toInt8.toInt32)) 2 (((((sd.toUInt64 >>> ((10 : Int32) &&& 0x3f).toInt64.toUInt64).toInt64).toInt32).toInt8.toInt32).toInt8.toInt32)) 3 (((((sd.toUInt64 >>> ((15 : Int32) &&& 0x3f).toInt64.toUInt64).toInt64).toInt32).toInt8.toInt32).toInt8.toInt32)) 4 (((((sd.toUInt64 >>> ((20 : Int32) &&& 0x3f).toInt64.toUInt64).toInt64).toInt32).toInt8.toInt32).toInt8.toInt32)) 5 (((((sd.toUInt64 >>> ((25 : Int32) &&& 0x3f).toInt64.toUInt64).toInt64).toInt32).toInt8.toInt32).toInt8.toInt32)) 6 (((((sd.toUInt64 >>> ((30 : Int32) &&& 0x3f).toInt64.toUInt64).toInt64).toInt32).toInt8.toInt32).toInt8.toInt32)) 7 (((((sd.toUInt64 >>> ((35 : Int32) &&& 0x3f).toInt64.toUInt64).toInt64).toInt32).toInt8.toInt32).toInt8.toInt32)) 8 (((((sd.toUInt64 >>> ((40 : Int32) &&& 0x3f).toInt64.toUInt64).toInt64).toInt32).toInt8.toInt32).toInt8.toInt32)) 9 (((((sd.toUInt64 >>> ((45 : Int32) &&& 0x3f).toInt64.toUInt64).toInt64).toInt32).toInt8.toInt32).toInt8.toInt32)) 10 (((((sd.toUInt64 >>> ((50 : Int32) &&& 0x3f).toInt64.toUInt64).toInt64).toInt32).toInt8.toInt32).toInt8.toInt32)) 11 (((((sd.toUInt64 >>> ((55 : Int32) &&& 0x3f).toInt64.toUInt64).toInt64).toInt32).toInt8.toInt32).toInt8.toInt32))
/-- where the writing ends -/
def own_N (F : Nat) : Nat := if F + 8 < 12 then F + 8 else 12
theorem own_N12 (F : Nat) : own_N F ≤ 12 := by unfold own_N; split <;> omega
theorem own_NF {F : Nat} (h : F ≤ 12) : F ≤ own_N F := by unfold own_N; split <;> omega
theorem own_nat {n : Nat} (h : n < 1000) : (Int32.ofNat n).toInt = n := Int32.toInt_ofNat_small (by omega)
/-- the k-th byte of the head -/
def own_bt (hd : Int64) (k : Nat) : Int32 := (((hd.toUInt64 >>> (((64 : Int32) - ((8 : Int32) * ((Int32.ofNat k) + (1 : Int32)))) &&& 0x3f).toInt64.toUInt64).toInt64.toInt32).toInt8.toInt32).toInt8.toInt32
def own_ph (hd : Int64) (F : Nat) (f : Nat → Int32) (n : Nat) : Nat → Int32 := fun i => if F ≤ i ∧ i < n then own_bt hd (i - F) else f i
def own_ex (fb : Nat → Int32) (hd : Int64) (i fr : Int32) (n : Nat) : Int32 := (if (i - fr) < (0 : Int32) then (fb n) else (if (i - fr) < (8 : Int32) then (((hd >>> (((8 : Int32) * ((7 : Int32) - (i - fr))) &&& 0x3f).toInt64).toInt32).toInt8.toInt32) else (fb n)))
def own_am (fa : Nat → Int32) (F : Nat) : Int64 := (((((((((((fa F).toInt64) &&& (255 : Int64)) <<< ((56 : Int32) &&& 0x3f).toInt64) ||| ((((fa (F + 1)).toInt64) &&& (255 : Int64)) <<< ((48 : Int32) &&& 0x3f).toInt64)) ||| ((((fa (F + 2)).toInt64) &&& (255 : Int64)) <<< ((40 : Int32) &&& 0x3f).toInt64)) ||| ((((fa (F + 3)).toInt64) &&& (255 : Int64)) <<< ((32 : Int32) &&& 0x3f).toInt64)) ||| ((((fa (F + 4)).toInt64) &&& (255 : Int64)) <<< ((24 : Int32) &&& 0x3f).toInt64)) ||| ((((fa (F + 5)).toInt64) &&& (255 : Int64)) <<< ((16 : Int32) &&& 0x3f).toInt64)) ||| ((((fa (F + 6)).toInt64) &&& (255 : Int64)) <<< ((8 : Int32) &&& 0x3f).toInt64)) ||| (((fa (F + 7)).toInt64) &&& (255 : Int64)))
theorem own_en {fr en : Int32} {F : Nat} (hfr : fr = Int32.ofNat F) (hF : F ≤ 12) (h : en = (if (fr + (8 : Int32)) < (12 : Int32) then (fr + (8 : Int32)) else (12 : Int32))) : en = Int32.ofNat (own_N F) := by
  have a := c_iadd fr 8
  have e1 : (8 : Int32).toInt = 8 := by decide
  have e2 : (12 : Int32).toInt = 12 := by decide
  have e3 : fr.toInt = F := by rw [hfr]; exact own_nat (by omega)
  rw [e1, e3] at a
  have b1 := (fr + 8).toInt_lt; have b2 := (fr + 8).le_toInt
  apply Int32.toInt_inj.mp
  rw [own_nat (by have := own_N12 F; omega), h]
  simp only [Int32.lt_iff_toInt_lt, e2]
  unfold own_N
  split
  · split <;> omega
  · split <;> omega
theorem own_ltN {a b : Nat} (h : a < b) (hb : b < 1000) : Int32.ofNat a < Int32.ofNat b := by
  rw [Int32.lt_iff_toInt_lt, own_nat (by omega), own_nat hb]; omega
theorem own_ixN {i : Int32} {j : Nat} (hi : i = Int32.ofNat j) (h : j < 12) : (¬ i < 0) ∧ i.toNatClampNeg = j := by
  have e : i.toInt = j := by rw [hi]; exact own_nat (by omega)
  have z : (0 : Int32).toInt = 0 := by decide
  refine ⟨by rw [Int32.lt_iff_toInt_lt, e, z]; omega, ?_⟩
  show i.toInt.toNat = j
  rw [e]; omega
theorem own_succN {i : Int32} {j : Nat} (hi : i = Int32.ofNat j) : (i + (1 : Int32)) = Int32.ofNat (j + 1) := by rw [hi]; exact (Int32.ofNat_add j 1).symm
theorem own_subN {i fr : Int32} {j F : Nat} (hi : i = Int32.ofNat j) (hfr : fr = Int32.ofNat F) (h : F ≤ j) (hj : j < 1000) : (i - fr) = Int32.ofNat (j - F) := by
  have a := c_isub i fr
  have e1 : i.toInt = j := by rw [hi]; exact own_nat hj
  have e2 : fr.toInt = F := by rw [hfr]; exact own_nat (by omega)
  rw [e1, e2] at a
  have b1 := (i - fr).toInt_lt; have b2 := (i - fr).le_toInt
  apply Int32.toInt_inj.mp
  rw [own_nat (by omega)]; omega
section OwnPh
variable {Z : State} {h : Heap} {a : Addr} {hd : Int64} {F : Nat} {f0 : Nat → Int32}
theorem own_ph0 (A : own_AI Z h a .byte 12 f0) : own_AI Z h a .byte 12 (own_ph hd F f0 F) := A.congr fun i _ => by
  unfold own_ph; rw [if_neg (by omega)]
theorem own_phN {j N : Nat} (A : own_AI Z h a .byte 12 (own_ph hd F f0 j)) (e : j = N) : own_AI Z h a .byte 12 (own_ph hd F f0 N) := e ▸ A
theorem own_phS {i fr : Int32} {j : Nat} (hfr : fr = Int32.ofNat F) (hi : i = Int32.ofNat j) (hFj : F ≤ j) (hj : j < 12)
    (A : own_AI Z h a .byte 12 (own_upd (own_ph hd F f0 j) j ((((hd.toUInt64 >>> (((64 : Int32) - ((8 : Int32) * ((i - fr) + (1 : Int32)))) &&& 0x3f).toInt64.toUInt64).toInt64.toInt32).toInt8.toInt32).toInt8.toInt32))) : own_AI Z h a .byte 12 (own_ph hd F f0 (j + 1)) := by
  refine A.congr fun x hx => ?_
  rw [own_subN hi hfr hFj (by omega)]
  by_cases q : x = j
  · subst q; rw [own_upd_at]; unfold own_ph; rw [if_pos (by omega)]; rfl
  · rw [own_upd_ne _ _ q]; unfold own_ph
    by_cases y : F ≤ x ∧ x < j
    · rw [if_pos y, if_pos (by omega)]
    · rw [if_neg y, if_neg (by omega)]
end OwnPh
theorem own_ix0 {fr : Int32} {F : Nat} (hfr : fr = Int32.ofNat F) (hF : F ≤ 4) : (¬ fr < 0) ∧ fr.toNatClampNeg = F ∧ F < 12 := by
  obtain ⟨p, q⟩ := own_ixN hfr (by omega)
  exact ⟨p, q, by omega⟩
theorem own_ixl {fr c : Int32} {F k : Nat} (hfr : fr = Int32.ofNat F) (hF : F ≤ 4) (hc : c = Int32.ofNat k) (hk : k ≤ 7) : (¬ (fr + c) < 0) ∧ (fr + c).toNatClampNeg = F + k ∧ F + k < 12 := by
  have e : (fr + c) = Int32.ofNat (F + k) := by rw [hfr, hc]; exact (Int32.ofNat_add F k).symm
  obtain ⟨p, q⟩ := own_ixN e (by omega)
  exact ⟨p, q, by omega⟩
theorem own_F {fs fr : Int32} (h : fr = ((fs &&& (2147483647 : Int32)) % (13 : Int32))) : ∃ F : Nat, F ≤ 12 ∧ fr = Int32.ofNat F := by
  have m := c_mask fs 2147483647 31 (by decide) (by decide)
  have r := (c_irem (fs &&& 2147483647) 13 13 (by decide)).1 (by rw [m]; omega)
  rw [← h] at r
  refine ⟨fr.toInt.toNat, by omega, ?_⟩
  apply Int32.toInt_inj.mp
  rw [own_nat (by omega)]; omega
theorem own_F4 {fr : Int32} {F : Nat} (hfr : fr = Int32.ofNat F) (hF : F ≤ 12) (h : ¬ (4 : Int32) < fr) : F ≤ 4 := by
  have e : fr.toInt = F := by rw [hfr]; exact own_nat (by omega)
  have z : (4 : Int32).toInt = 4 := by decide
  rw [Int32.lt_iff_toInt_lt, e, z] at h; omega
/-- a byte, by what it is modulo 256 -/
theorem own_i2b {x y : Int32} (h : (x.toInt - y.toInt) % 256 = 0) : x.toInt8.toInt32 = y.toInt8.toInt32 := by
  have a := c_i2b x; have b := c_i2b y
  apply Int32.toInt_inj.mp
  omega
theorem own_bb (x : Int32) : x.toInt8.toInt32.toInt8.toInt32 = x.toInt8.toInt32 := own_i2b (by have := c_i2b x; omega)
theorem own_ushr0 (x : Int64) (q : Int32) (hq : (q &&& 0x3f).toInt64.toUInt64 = 0) : (x.toUInt64 >>> (q &&& 0x3f).toInt64.toUInt64).toInt64 = x := by
  rw [hq]; simp
theorem own_bmod (hd : Int64) : ∀ k, k < 8 → ((own_bt hd k).toInt - hd.toInt / (2 ^ (56 - 8 * k) : Nat)) % 256 = 0 := by
  intro k hk
  have key : ∀ (y : Int64) (d : Int), (y.toInt - d) % 256 = 0 → ((y.toInt32.toInt8.toInt32).toInt8.toInt32.toInt - d) % 256 = 0 := by
    intro y d h
    rw [own_bb]
    have a := c_i2b y.toInt32; have b := c_l2i y
    omega
  unfold own_bt
  apply key
  match k, hk with
  | 0, _ => rw [c_lushr hd _ 56 (by decide) (by decide)]; omega
  | 1, _ => rw [c_lushr hd _ 48 (by decide) (by decide)]; omega
  | 2, _ => rw [c_lushr hd _ 40 (by decide) (by decide)]; omega
  | 3, _ => rw [c_lushr hd _ 32 (by decide) (by decide)]; omega
  | 4, _ => rw [c_lushr hd _ 24 (by decide) (by decide)]; omega
  | 5, _ => rw [c_lushr hd _ 16 (by decide) (by decide)]; omega
  | 6, _ => rw [c_lushr hd _ 8 (by decide) (by decide)]; omega
  | 7, _ => rw [own_ushr0 hd _ (by decide)]; omega
theorem own_sx (hd : Int64) : ∀ k, k < 8 → ((hd >>> (((8 : Int32) * ((7 : Int32) - (Int32.ofNat k))) &&& 0x3f).toInt64).toInt - hd.toInt / (2 ^ (56 - 8 * k) : Nat)) = 0 := by
  intro k hk
  match k, hk with
  | 0, _ => rw [c_lshr hd _ 56 (by decide)]; omega
  | 1, _ => rw [c_lshr hd _ 48 (by decide)]; omega
  | 2, _ => rw [c_lshr hd _ 40 (by decide)]; omega
  | 3, _ => rw [c_lshr hd _ 32 (by decide)]; omega
  | 4, _ => rw [c_lshr hd _ 24 (by decide)]; omega
  | 5, _ => rw [c_lshr hd _ 16 (by decide)]; omega
  | 6, _ => rw [c_lshr hd _ 8 (by decide)]; omega
  | 7, _ => rw [c_lshr hd _ 0 (by decide)]; omega
theorem own_bte (hd : Int64) (k : Nat) (hk : k < 8) : own_bt hd k = (hd >>> (((8 : Int32) * ((7 : Int32) - (Int32.ofNat k))) &&& 0x3f).toInt64).toInt32.toInt8.toInt32 := by
  have a := own_bmod hd k hk; have b := own_sx hd k hk
  have c := c_l2i (hd >>> (((8 : Int32) * ((7 : Int32) - (Int32.ofNat k))) &&& 0x3f).toInt64)
  have d := c_i2b (hd >>> (((8 : Int32) * ((7 : Int32) - (Int32.ofNat k))) &&& 0x3f).toInt64).toInt32
  have e : (own_bt hd k).toInt < 128 ∧ -128 ≤ (own_bt hd k).toInt := by
    unfold own_bt
    have := c_i2b ((hd.toUInt64 >>> (((64 : Int32) - ((8 : Int32) * ((Int32.ofNat k) + (1 : Int32)))) &&& 0x3f).toInt64.toUInt64).toInt64.toInt32).toInt8.toInt32
    omega
  generalize hd.toInt / (2 ^ (56 - 8 * k) : Nat) = t at *
  apply Int32.toInt_inj.mp
  omega
theorem own_at {hd : Int64} {f : Nat → Int32} {F i : Nat} {fr c : Int32} (hfr : fr = Int32.ofNat F) (hF : F ≤ 12) (hi : i < 12) (hc : c = Int32.ofNat i) : own_ph hd F f (own_N F) i = own_ex f hd c fr i := by
  have e1 : c.toInt = i := by rw [hc]; exact own_nat (by omega)
  have e2 : fr.toInt = F := by rw [hfr]; exact own_nat (by omega)
  have a := c_isub c fr; rw [e1, e2] at a
  have b1 := (c - fr).toInt_lt; have b2 := (c - fr).le_toInt
  have z : (0 : Int32).toInt = 0 := by decide
  have z8 : (8 : Int32).toInt = 8 := by decide
  unfold own_ex own_ph own_N
  by_cases q : F ≤ i
  · have s := own_subN hc hfr q (by omega)
    have n0 : ¬ (c - fr) < 0 := by rw [Int32.lt_iff_toInt_lt, z]; omega
    rw [if_neg n0]
    by_cases w : i < F + 8
    · have l8 : (c - fr) < 8 := by rw [Int32.lt_iff_toInt_lt, z8]; omega
      rw [if_pos l8, if_pos (by constructor; exact q; split <;> omega), s]
      exact own_bte hd (i - F) (by omega)
    · have l8 : ¬ (c - fr) < 8 := by rw [Int32.lt_iff_toInt_lt, z8]; omega
      rw [if_neg l8, if_neg (by rintro ⟨-, y⟩; split at y <;> omega)]
  · have n0 : (c - fr) < 0 := by rw [Int32.lt_iff_toInt_lt, z]; omega
    rw [if_pos n0, if_neg (by rintro ⟨y, -⟩; omega)]
theorem own_s0 {X : Int} {t : Int64} {b : Int32} (xg : X < 2 ^ 63) (xl : -2 ^ 63 ≤ X) (hb : (b.toInt - X / 72057594037927936) % 256 = 0) (ht : (t.toInt - b.toInt % 256 * (2 ^ 56 : Nat)) % 18446744073709551616 = 0) : t.toInt = X / 72057594037927936 * 72057594037927936 := by
  have g := t.toInt_lt; have l := t.le_toInt
  omega
theorem own_s1 {u : Int64} {X : Int} {t : Int64} {b : Int32} (xg : X < 2 ^ 63) (xl : -2 ^ 63 ≤ X) (hb : (b.toInt - X / 281474976710656) % 256 = 0) (ht : (t.toInt - b.toInt % 256 * (2 ^ 48 : Nat)) % 18446744073709551616 = 0) (hu : u.toInt = X / 72057594037927936 * 72057594037927936) : (u ||| t).toInt = X / 281474976710656 * 281474976710656 := by
  have g := t.toInt_lt; have l := t.le_toInt
  have tt : t.toInt = X / 281474976710656 % 256 * 281474976710656 := by omega
  have o := c_orL u t 56 (by decide) 72057594037927936 (by decide) (by omega) (by omega) (by omega)
  have og := (u ||| t).toInt_lt; have ol := (u ||| t).le_toInt
  omega
theorem own_s2 {u : Int64} {X : Int} {t : Int64} {b : Int32} (xg : X < 2 ^ 63) (xl : -2 ^ 63 ≤ X) (hb : (b.toInt - X / 1099511627776) % 256 = 0) (ht : (t.toInt - b.toInt % 256 * (2 ^ 40 : Nat)) % 18446744073709551616 = 0) (hu : u.toInt = X / 281474976710656 * 281474976710656) : (u ||| t).toInt = X / 1099511627776 * 1099511627776 := by
  have g := t.toInt_lt; have l := t.le_toInt
  have tt : t.toInt = X / 1099511627776 % 256 * 1099511627776 := by omega
  have o := c_orL u t 48 (by decide) 281474976710656 (by decide) (by omega) (by omega) (by omega)
  have og := (u ||| t).toInt_lt; have ol := (u ||| t).le_toInt
  omega
theorem own_s3 {u : Int64} {X : Int} {t : Int64} {b : Int32} (xg : X < 2 ^ 63) (xl : -2 ^ 63 ≤ X) (hb : (b.toInt - X / 4294967296) % 256 = 0) (ht : (t.toInt - b.toInt % 256 * (2 ^ 32 : Nat)) % 18446744073709551616 = 0) (hu : u.toInt = X / 1099511627776 * 1099511627776) : (u ||| t).toInt = X / 4294967296 * 4294967296 := by
  have g := t.toInt_lt; have l := t.le_toInt
  have tt : t.toInt = X / 4294967296 % 256 * 4294967296 := by omega
  have o := c_orL u t 40 (by decide) 1099511627776 (by decide) (by omega) (by omega) (by omega)
  have og := (u ||| t).toInt_lt; have ol := (u ||| t).le_toInt
  omega
theorem own_s4 {u : Int64} {X : Int} {t : Int64} {b : Int32} (xg : X < 2 ^ 63) (xl : -2 ^ 63 ≤ X) (hb : (b.toInt - X / 16777216) % 256 = 0) (ht : (t.toInt - b.toInt % 256 * (2 ^ 24 : Nat)) % 18446744073709551616 = 0) (hu : u.toInt = X / 4294967296 * 4294967296) : (u ||| t).toInt = X / 16777216 * 16777216 := by
  have g := t.toInt_lt; have l := t.le_toInt
  have tt : t.toInt = X / 16777216 % 256 * 16777216 := by omega
  have o := c_orL u t 32 (by decide) 4294967296 (by decide) (by omega) (by omega) (by omega)
  have og := (u ||| t).toInt_lt; have ol := (u ||| t).le_toInt
  omega
theorem own_s5 {u : Int64} {X : Int} {t : Int64} {b : Int32} (xg : X < 2 ^ 63) (xl : -2 ^ 63 ≤ X) (hb : (b.toInt - X / 65536) % 256 = 0) (ht : (t.toInt - b.toInt % 256 * (2 ^ 16 : Nat)) % 18446744073709551616 = 0) (hu : u.toInt = X / 16777216 * 16777216) : (u ||| t).toInt = X / 65536 * 65536 := by
  have g := t.toInt_lt; have l := t.le_toInt
  have tt : t.toInt = X / 65536 % 256 * 65536 := by omega
  have o := c_orL u t 24 (by decide) 16777216 (by decide) (by omega) (by omega) (by omega)
  have og := (u ||| t).toInt_lt; have ol := (u ||| t).le_toInt
  omega
theorem own_s6 {u : Int64} {X : Int} {t : Int64} {b : Int32} (xg : X < 2 ^ 63) (xl : -2 ^ 63 ≤ X) (hb : (b.toInt - X / 256) % 256 = 0) (ht : (t.toInt - b.toInt % 256 * (2 ^ 8 : Nat)) % 18446744073709551616 = 0) (hu : u.toInt = X / 65536 * 65536) : (u ||| t).toInt = X / 256 * 256 := by
  have g := t.toInt_lt; have l := t.le_toInt
  have tt : t.toInt = X / 256 % 256 * 256 := by omega
  have o := c_orL u t 16 (by decide) 65536 (by decide) (by omega) (by omega) (by omega)
  have og := (u ||| t).toInt_lt; have ol := (u ||| t).le_toInt
  omega
theorem own_s7 {u : Int64} {X : Int} {t : Int64} {b : Int32} (xg : X < 2 ^ 63) (xl : -2 ^ 63 ≤ X) (hb : (b.toInt - X) % 256 = 0) (ht : t.toInt = b.toInt % 256) (hu : u.toInt = X / 256 * 256) : (u ||| t).toInt = X := by
  have g := t.toInt_lt; have l := t.le_toInt
  have tt : t.toInt = X / 1 % 256 * 1 := by omega
  have o := c_orL u t 8 (by decide) 256 (by decide) (by omega) (by omega) (by omega)
  have og := (u ||| t).toInt_lt; have ol := (u ||| t).le_toInt
  omega
/-- eight bytes, put together -/
theorem own_put {x : Int64} {b0 b1 b2 b3 b4 b5 b6 b7 : Int32}
    (h0 : (b0.toInt - x.toInt / 72057594037927936) % 256 = 0) (h1 : (b1.toInt - x.toInt / 281474976710656) % 256 = 0) (h2 : (b2.toInt - x.toInt / 1099511627776) % 256 = 0) (h3 : (b3.toInt - x.toInt / 4294967296) % 256 = 0)
    (h4 : (b4.toInt - x.toInt / 16777216) % 256 = 0) (h5 : (b5.toInt - x.toInt / 65536) % 256 = 0) (h6 : (b6.toInt - x.toInt / 256) % 256 = 0) (h7 : (b7.toInt - x.toInt) % 256 = 0) :
    ((((((((((b0.toInt64) &&& (255 : Int64)) <<< ((56 : Int32) &&& 0x3f).toInt64) ||| (((b1.toInt64) &&& (255 : Int64)) <<< ((48 : Int32) &&& 0x3f).toInt64)) ||| (((b2.toInt64) &&& (255 : Int64)) <<< ((40 : Int32) &&& 0x3f).toInt64)) ||| (((b3.toInt64) &&& (255 : Int64)) <<< ((32 : Int32) &&& 0x3f).toInt64)) ||| (((b4.toInt64) &&& (255 : Int64)) <<< ((24 : Int32) &&& 0x3f).toInt64)) ||| (((b5.toInt64) &&& (255 : Int64)) <<< ((16 : Int32) &&& 0x3f).toInt64)) ||| (((b6.toInt64) &&& (255 : Int64)) <<< ((8 : Int32) &&& 0x3f).toInt64)) ||| ((b7.toInt64) &&& (255 : Int64))) = x := by
  have m : ∀ b : Int32, (b.toInt64 &&& (255 : Int64)).toInt = b.toInt % 256 := fun b => by
    have := c_maskL b.toInt64 255 8 (by decide) (by decide); rw [c_i2l] at this; exact this
  have xg := x.toInt_lt; have xl := x.le_toInt
  have s0 := c_lshl (b0.toInt64 &&& 255) 56 56 (by decide); rw [m] at s0
  have s1 := c_lshl (b1.toInt64 &&& 255) 48 48 (by decide); rw [m] at s1
  have s2 := c_lshl (b2.toInt64 &&& 255) 40 40 (by decide); rw [m] at s2
  have s3 := c_lshl (b3.toInt64 &&& 255) 32 32 (by decide); rw [m] at s3
  have s4 := c_lshl (b4.toInt64 &&& 255) 24 24 (by decide); rw [m] at s4
  have s5 := c_lshl (b5.toInt64 &&& 255) 16 16 (by decide); rw [m] at s5
  have s6 := c_lshl (b6.toInt64 &&& 255) 8 8 (by decide); rw [m] at s6
  have s7 := m b7
  have u0 := own_s0 xg xl h0 s0
  have u1 := own_s1 xg xl h1 s1 u0
  have u2 := own_s2 xg xl h2 s2 u1
  have u3 := own_s3 xg xl h3 s3 u2
  have u4 := own_s4 xg xl h4 s4 u3
  have u5 := own_s5 xg xl h5 s5 u4
  have u6 := own_s6 xg xl h6 s6 u5
  have u7 := own_s7 xg xl h7 s7 u6
  exact Int64.toInt_inj.mp u7
theorem own_asm (hd : Int64) (F : Nat) (f : Nat → Int32) (hF : F ≤ 4) : own_am (own_ph hd F f (own_N F)) F = hd := by
  have e : ∀ k, k < 8 → own_ph hd F f (own_N F) (F + k) = own_bt hd k := fun k hk => by
    have hN : F + k < own_N F := by unfold own_N; split <;> omega
    unfold own_ph; rw [if_pos ⟨by omega, hN⟩, show F + k - F = k by omega]
  unfold own_am
  rw [show own_ph hd F f (own_N F) F = own_bt hd 0 from e 0 (by decide), e 1 (by decide), e 2 (by decide), e 3 (by decide), e 4 (by decide), e 5 (by decide), e 6 (by decide), e 7 (by decide)]
  exact own_put (own_bmod hd 0 (by decide)) (own_bmod hd 1 (by decide)) (own_bmod hd 2 (by decide)) (own_bmod hd 3 (by decide)) (own_bmod hd 4 (by decide)) (own_bmod hd 5 (by decide)) (own_bmod hd 6 (by decide)) (by have := own_bmod hd 7 (by decide); simpa using this)
theorem d_method_3_0 : decode method_3_code 0 = .ok (.aload_n 0, 1) := by decide +kernel
theorem d_method_3_1 : decode method_3_code 1 = .ok (.iconst 0, 1) := by decide +kernel
theorem d_method_3_2 : decode method_3_code 2 = .ok (.lload_n 1, 1) := by decide +kernel
theorem d_method_3_3 : decode method_3_code 3 = .ok (.l2i, 1) := by decide +kernel
theorem d_method_3_4 : decode method_3_code 4 = .ok (.i2b, 1) := by decide +kernel
theorem d_method_3_5 : decode method_3_code 5 = .ok (.bastore, 1) := by decide +kernel
theorem d_method_3_6 : decode method_3_code 6 = .ok (.aload_n 0, 1) := by decide +kernel
theorem d_method_3_7 : decode method_3_code 7 = .ok (.iconst 1, 1) := by decide +kernel
theorem d_method_3_8 : decode method_3_code 8 = .ok (.lload_n 1, 1) := by decide +kernel
theorem d_method_3_9 : decode method_3_code 9 = .ok (.iconst 5, 1) := by decide +kernel
theorem d_method_3_10 : decode method_3_code 10 = .ok (.lushr, 1) := by decide +kernel
theorem d_method_3_11 : decode method_3_code 11 = .ok (.l2i, 1) := by decide +kernel
theorem d_method_3_12 : decode method_3_code 12 = .ok (.i2b, 1) := by decide +kernel
theorem d_method_3_13 : decode method_3_code 13 = .ok (.bastore, 1) := by decide +kernel
theorem d_method_3_14 : decode method_3_code 14 = .ok (.aload_n 0, 1) := by decide +kernel
theorem d_method_3_15 : decode method_3_code 15 = .ok (.iconst 2, 1) := by decide +kernel
theorem d_method_3_16 : decode method_3_code 16 = .ok (.lload_n 1, 1) := by decide +kernel
theorem d_method_3_17 : decode method_3_code 17 = .ok (.bipush 10, 2) := by decide +kernel
theorem d_method_3_19 : decode method_3_code 19 = .ok (.lushr, 1) := by decide +kernel
theorem d_method_3_20 : decode method_3_code 20 = .ok (.l2i, 1) := by decide +kernel
theorem d_method_3_21 : decode method_3_code 21 = .ok (.i2b, 1) := by decide +kernel
theorem d_method_3_22 : decode method_3_code 22 = .ok (.bastore, 1) := by decide +kernel
theorem d_method_3_23 : decode method_3_code 23 = .ok (.aload_n 0, 1) := by decide +kernel
theorem d_method_3_24 : decode method_3_code 24 = .ok (.iconst 3, 1) := by decide +kernel
theorem d_method_3_25 : decode method_3_code 25 = .ok (.lload_n 1, 1) := by decide +kernel
theorem d_method_3_26 : decode method_3_code 26 = .ok (.bipush 15, 2) := by decide +kernel
theorem d_method_3_28 : decode method_3_code 28 = .ok (.lushr, 1) := by decide +kernel
theorem d_method_3_29 : decode method_3_code 29 = .ok (.l2i, 1) := by decide +kernel
theorem d_method_3_30 : decode method_3_code 30 = .ok (.i2b, 1) := by decide +kernel
theorem d_method_3_31 : decode method_3_code 31 = .ok (.bastore, 1) := by decide +kernel
theorem d_method_3_32 : decode method_3_code 32 = .ok (.aload_n 0, 1) := by decide +kernel
theorem d_method_3_33 : decode method_3_code 33 = .ok (.iconst 4, 1) := by decide +kernel
theorem d_method_3_34 : decode method_3_code 34 = .ok (.lload_n 1, 1) := by decide +kernel
theorem d_method_3_35 : decode method_3_code 35 = .ok (.bipush 20, 2) := by decide +kernel
theorem d_method_3_37 : decode method_3_code 37 = .ok (.lushr, 1) := by decide +kernel
theorem d_method_3_38 : decode method_3_code 38 = .ok (.l2i, 1) := by decide +kernel
theorem d_method_3_39 : decode method_3_code 39 = .ok (.i2b, 1) := by decide +kernel
theorem d_method_3_40 : decode method_3_code 40 = .ok (.bastore, 1) := by decide +kernel
theorem d_method_3_41 : decode method_3_code 41 = .ok (.aload_n 0, 1) := by decide +kernel
theorem d_method_3_42 : decode method_3_code 42 = .ok (.iconst 5, 1) := by decide +kernel
theorem d_method_3_43 : decode method_3_code 43 = .ok (.lload_n 1, 1) := by decide +kernel
theorem d_method_3_44 : decode method_3_code 44 = .ok (.bipush 25, 2) := by decide +kernel
theorem d_method_3_46 : decode method_3_code 46 = .ok (.lushr, 1) := by decide +kernel
theorem d_method_3_47 : decode method_3_code 47 = .ok (.l2i, 1) := by decide +kernel
theorem d_method_3_48 : decode method_3_code 48 = .ok (.i2b, 1) := by decide +kernel
theorem d_method_3_49 : decode method_3_code 49 = .ok (.bastore, 1) := by decide +kernel
theorem d_method_3_50 : decode method_3_code 50 = .ok (.aload_n 0, 1) := by decide +kernel
theorem d_method_3_51 : decode method_3_code 51 = .ok (.bipush 6, 2) := by decide +kernel
theorem d_method_3_53 : decode method_3_code 53 = .ok (.lload_n 1, 1) := by decide +kernel
theorem d_method_3_54 : decode method_3_code 54 = .ok (.bipush 30, 2) := by decide +kernel
theorem d_method_3_56 : decode method_3_code 56 = .ok (.lushr, 1) := by decide +kernel
theorem d_method_3_57 : decode method_3_code 57 = .ok (.l2i, 1) := by decide +kernel
theorem d_method_3_58 : decode method_3_code 58 = .ok (.i2b, 1) := by decide +kernel
theorem d_method_3_59 : decode method_3_code 59 = .ok (.bastore, 1) := by decide +kernel
theorem d_method_3_60 : decode method_3_code 60 = .ok (.aload_n 0, 1) := by decide +kernel
theorem d_method_3_61 : decode method_3_code 61 = .ok (.bipush 7, 2) := by decide +kernel
theorem d_method_3_63 : decode method_3_code 63 = .ok (.lload_n 1, 1) := by decide +kernel
theorem d_method_3_64 : decode method_3_code 64 = .ok (.bipush 35, 2) := by decide +kernel
theorem d_method_3_66 : decode method_3_code 66 = .ok (.lushr, 1) := by decide +kernel
theorem d_method_3_67 : decode method_3_code 67 = .ok (.l2i, 1) := by decide +kernel
theorem d_method_3_68 : decode method_3_code 68 = .ok (.i2b, 1) := by decide +kernel
theorem d_method_3_69 : decode method_3_code 69 = .ok (.bastore, 1) := by decide +kernel
theorem d_method_3_70 : decode method_3_code 70 = .ok (.aload_n 0, 1) := by decide +kernel
theorem d_method_3_71 : decode method_3_code 71 = .ok (.bipush 8, 2) := by decide +kernel
theorem d_method_3_73 : decode method_3_code 73 = .ok (.lload_n 1, 1) := by decide +kernel
theorem d_method_3_74 : decode method_3_code 74 = .ok (.bipush 40, 2) := by decide +kernel
theorem d_method_3_76 : decode method_3_code 76 = .ok (.lushr, 1) := by decide +kernel
theorem d_method_3_77 : decode method_3_code 77 = .ok (.l2i, 1) := by decide +kernel
theorem d_method_3_78 : decode method_3_code 78 = .ok (.i2b, 1) := by decide +kernel
theorem d_method_3_79 : decode method_3_code 79 = .ok (.bastore, 1) := by decide +kernel
theorem d_method_3_80 : decode method_3_code 80 = .ok (.aload_n 0, 1) := by decide +kernel
theorem d_method_3_81 : decode method_3_code 81 = .ok (.bipush 9, 2) := by decide +kernel
theorem d_method_3_83 : decode method_3_code 83 = .ok (.lload_n 1, 1) := by decide +kernel
theorem d_method_3_84 : decode method_3_code 84 = .ok (.bipush 45, 2) := by decide +kernel
theorem d_method_3_86 : decode method_3_code 86 = .ok (.lushr, 1) := by decide +kernel
theorem d_method_3_87 : decode method_3_code 87 = .ok (.l2i, 1) := by decide +kernel
theorem d_method_3_88 : decode method_3_code 88 = .ok (.i2b, 1) := by decide +kernel
theorem d_method_3_89 : decode method_3_code 89 = .ok (.bastore, 1) := by decide +kernel
theorem d_method_3_90 : decode method_3_code 90 = .ok (.aload_n 0, 1) := by decide +kernel
theorem d_method_3_91 : decode method_3_code 91 = .ok (.bipush 10, 2) := by decide +kernel
theorem d_method_3_93 : decode method_3_code 93 = .ok (.lload_n 1, 1) := by decide +kernel
theorem d_method_3_94 : decode method_3_code 94 = .ok (.bipush 50, 2) := by decide +kernel
theorem d_method_3_96 : decode method_3_code 96 = .ok (.lushr, 1) := by decide +kernel
theorem d_method_3_97 : decode method_3_code 97 = .ok (.l2i, 1) := by decide +kernel
theorem d_method_3_98 : decode method_3_code 98 = .ok (.i2b, 1) := by decide +kernel
theorem d_method_3_99 : decode method_3_code 99 = .ok (.bastore, 1) := by decide +kernel
theorem d_method_3_100 : decode method_3_code 100 = .ok (.aload_n 0, 1) := by decide +kernel
theorem d_method_3_101 : decode method_3_code 101 = .ok (.bipush 11, 2) := by decide +kernel
theorem d_method_3_103 : decode method_3_code 103 = .ok (.lload_n 1, 1) := by decide +kernel
theorem d_method_3_104 : decode method_3_code 104 = .ok (.bipush 55, 2) := by decide +kernel
theorem d_method_3_106 : decode method_3_code 106 = .ok (.lushr, 1) := by decide +kernel
theorem d_method_3_107 : decode method_3_code 107 = .ok (.l2i, 1) := by decide +kernel
theorem d_method_3_108 : decode method_3_code 108 = .ok (.i2b, 1) := by decide +kernel
theorem d_method_3_109 : decode method_3_code 109 = .ok (.bastore, 1) := by decide +kernel
theorem d_method_3_110 : decode method_3_code 110 = .ok (.return_, 1) := by decide +kernel
def Q_rm_fill (Z : State) (a : Addr) (sd : Int64) (h0 : Heap) (n0 : Nat) (v : Option Value) (h : Heap) (L : List Loc) : Prop := v = none ∧ Fr n0 L ∧ Keep h0 h [a] ∧ own_AI Z h a .byte 12 (own_fl sd)
theorem ef_rm_fill (m : MethodId) (a : Addr) (sd : Int64) : entryFrame m #[(.ref a), (.long sd)] 3 = mkF m 0 #[.val (.ref a), .val (.long sd), .second] [] := by first | (simp [entryFrame, mkF, argsToLocals, Value.category]; done) | rfl
theorem pn_95 : plainName "com/example/ordinal/ordinal/KeysPutHeadPinLaw" = true := by first | (simp [plainName, overriddenIn]; done) | decide +kernel
set_option maxRecDepth 65536 in
set_option maxHeartbeats 40000000 in
theorem rm_fill (l : Launch) (Z : State) (a0 : Array Value) (hw : ∀ d ∈ tables_1, d.before a0 Z = true) (ws : List Jvm.Cond) (a : Addr) (sd : Int64) (h0 : Heap) (n0 : Nat) (Z0 : n0 ≤ h0.size) (A_a : own_AI Z h0 a .byte 12 (fun _ => (0 : Int32))) (g_a : n0 ≤ a) :
    MetFree l (⟨"com/example/ordinal/ordinal/KeysPutHeadPinLaw", "fill", "([BJ)V"⟩ : MethodName) (head1 (Jvm.Cond.code (⟨"com/example/ordinal/ordinal/KeysPutHeadPinLaw", "fill", "([BJ)V"⟩ : MethodName) method_3_code 3 none :: ws) ({ frames := 0, cells := 0, slots := 0, locals := 0 } : Room)) (fun zA zU => zA = #[(.ref a), (.long sd)] ∧ Z.Warmed39 zU.vm ∧ zU.heap = h0) (fun _ _ _ _ _ => True) (fun _ zU zo zW => ∃ zv zL, zo = .returned zv ∧ (Q_rm_fill Z a sd h0 n0) zv zW.heap zL ∧ FrameEnd zU zo zW zL ({ frames := 0, cells := 0, slots := 0, locals := 0 } : Room).cells ({ frames := 0, cells := 0, slots := 0, locals := 0 } : Room).slots) := by
  refine MetFree.of_bodySF (plainFor_of_name pn_95) hisR ?_
  intro p e s m args below meth c s₁ Bd hml0 hP hK
  obtain ⟨rfl, hZ, hh⟩ := hP
  have hx := Bd.exec
  have hby := Bd.bytes
  have hml : c.maxLocals = 3 := hml0
  have hown : s.vm.findClass "com/example/ordinal/ordinal/KeysPutHeadPinLaw" = some m.cls := findClass_of_methodNamed Bd.named
  have hnm := (name_of_methodNamed Bd.named Bd.method).1
  have X0 : Stand p l e ({ frames := 0, cells := 0, slots := 0, locals := 0 } : Room) s m #[(.ref a), (.long sd)] below meth c s₁ [] 0 0 := Stand.of_body Bd
  have e0 : s₁.heap = h0 := by rw [← hh, Bd.state]; rfl
  have N0 := Fr.nil n0
  refine own_out (Q := Q_rm_fill Z a sd h0 n0) ?_
  refine own_cast (ef_rm_fill m a sd) ?_
  show own_Go p.tables e below (s₁.setTop (mkF m 0 #[.val (.ref a), .val (.long sd), .second] [])) _
  refine own_by (fun t k => XS.aloadN X0.here hx rfl (hb hby d_method_3_0) rfl rfl k) ?_
  show own_Go p.tables e below (s₁.setTop (mkF m 1 #[.val (.ref a), .val (.long sd), .second] [(.ref a)])) _
  refine own_by (fun t k => XS.iconst X0.here hx rfl (hb hby d_method_3_1) k) ?_
  show own_Go p.tables e below (s₁.setTop (mkF m 2 #[.val (.ref a), .val (.long sd), .second] [(.int (0 : Int32)), (.ref a)])) _
  refine own_by (fun t k => XS.lloadN X0.here hx rfl (hb hby d_method_3_2) rfl k) ?_
  show own_Go p.tables e below (s₁.setTop (mkF m 3 #[.val (.ref a), .val (.long sd), .second] [(.long sd), (.int (0 : Int32)), (.ref a)])) _
  refine own_by (fun t k => XS.l2i X0.here hx rfl (hb hby d_method_3_3) rfl k) ?_
  show own_Go p.tables e below (s₁.setTop (mkF m 4 #[.val (.ref a), .val (.long sd), .second] [(.int (sd.toInt32)), (.int (0 : Int32)), (.ref a)])) _
  refine own_by (fun t k => XS.i2b X0.here hx rfl (hb hby d_method_3_4) rfl k) ?_
  show own_Go p.tables e below (s₁.setTop (mkF m 5 #[.val (.ref a), .val (.long sd), .second] [(.int ((sd.toInt32).toInt8.toInt32)), (.int (0 : Int32)), (.ref a)])) _
  obtain ⟨T1, hea1, X1, e1, W1, V1, st1⟩ := own_stB X0 hx hZ e0 A_a (j := (0 : Int32)) (k := 0) (by decide) rfl (by decide) (g := (mkF m 5 #[.val (.ref a), .val (.long sd), .second] [(.int ((sd.toInt32).toInt8.toInt32)), (.int (0 : Int32)), (.ref a)])) rfl rfl (hb hby d_method_3_5)
  have N1 := Fr.snoc X1 N0 g_a
  have K1 : Keep h0 hea1 [a] := (Keep.refl h0 [a]).wr W1 (Or.inl (List.mem_of_getElem? (i := 0) rfl))
  refine own_by (st1) ?_
  show own_Go p.tables e below (T1.setTop (mkF m 6 #[.val (.ref a), .val (.long sd), .second] [])) _
  refine own_by (fun t k => XS.aloadN X1.here hx rfl (hb hby d_method_3_6) rfl rfl k) ?_
  show own_Go p.tables e below (T1.setTop (mkF m 7 #[.val (.ref a), .val (.long sd), .second] [(.ref a)])) _
  refine own_by (fun t k => XS.iconst X1.here hx rfl (hb hby d_method_3_7) k) ?_
  show own_Go p.tables e below (T1.setTop (mkF m 8 #[.val (.ref a), .val (.long sd), .second] [(.int (1 : Int32)), (.ref a)])) _
  refine own_by (fun t k => XS.lloadN X1.here hx rfl (hb hby d_method_3_8) rfl k) ?_
  show own_Go p.tables e below (T1.setTop (mkF m 9 #[.val (.ref a), .val (.long sd), .second] [(.long sd), (.int (1 : Int32)), (.ref a)])) _
  refine own_by (fun t k => XS.iconst X1.here hx rfl (hb hby d_method_3_9) k) ?_
  show own_Go p.tables e below (T1.setTop (mkF m 10 #[.val (.ref a), .val (.long sd), .second] [(.int (5 : Int32)), (.long sd), (.int (1 : Int32)), (.ref a)])) _
  refine own_by (fun t k => XS.lushr X1.here hx rfl (hb hby d_method_3_10) rfl k) ?_
  show own_Go p.tables e below (T1.setTop (mkF m 11 #[.val (.ref a), .val (.long sd), .second] [(.long ((sd.toUInt64 >>> ((5 : Int32) &&& 0x3f).toInt64.toUInt64).toInt64)), (.int (1 : Int32)), (.ref a)])) _
  refine own_by (fun t k => XS.l2i X1.here hx rfl (hb hby d_method_3_11) rfl k) ?_
  show own_Go p.tables e below (T1.setTop (mkF m 12 #[.val (.ref a), .val (.long sd), .second] [(.int (((sd.toUInt64 >>> ((5 : Int32) &&& 0x3f).toInt64.toUInt64).toInt64).toInt32)), (.int (1 : Int32)), (.ref a)])) _
  refine own_by (fun t k => XS.i2b X1.here hx rfl (hb hby d_method_3_12) rfl k) ?_
  show own_Go p.tables e below (T1.setTop (mkF m 13 #[.val (.ref a), .val (.long sd), .second] [(.int ((((sd.toUInt64 >>> ((5 : Int32) &&& 0x3f).toInt64.toUInt64).toInt64).toInt32).toInt8.toInt32)), (.int (1 : Int32)), (.ref a)])) _
  obtain ⟨T2, hea2, X2, e2, W2, V2, st2⟩ := own_stB X1 hx hZ e1 V1 (j := (1 : Int32)) (k := 1) (by decide) rfl (by decide) (g := (mkF m 13 #[.val (.ref a), .val (.long sd), .second] [(.int ((((sd.toUInt64 >>> ((5 : Int32) &&& 0x3f).toInt64.toUInt64).toInt64).toInt32).toInt8.toInt32)), (.int (1 : Int32)), (.ref a)])) rfl rfl (hb hby d_method_3_13)
  have N2 := Fr.snoc X2 N1 g_a
  have K2 : Keep h0 hea2 [a] := K1.wr W2 (Or.inl (List.mem_of_getElem? (i := 0) rfl))
  refine own_by (st2) ?_
  show own_Go p.tables e below (T2.setTop (mkF m 14 #[.val (.ref a), .val (.long sd), .second] [])) _
  refine own_by (fun t k => XS.aloadN X2.here hx rfl (hb hby d_method_3_14) rfl rfl k) ?_
  show own_Go p.tables e below (T2.setTop (mkF m 15 #[.val (.ref a), .val (.long sd), .second] [(.ref a)])) _
  refine own_by (fun t k => XS.iconst X2.here hx rfl (hb hby d_method_3_15) k) ?_
  show own_Go p.tables e below (T2.setTop (mkF m 16 #[.val (.ref a), .val (.long sd), .second] [(.int (2 : Int32)), (.ref a)])) _
  refine own_by (fun t k => XS.lloadN X2.here hx rfl (hb hby d_method_3_16) rfl k) ?_
  show own_Go p.tables e below (T2.setTop (mkF m 17 #[.val (.ref a), .val (.long sd), .second] [(.long sd), (.int (2 : Int32)), (.ref a)])) _
  refine own_by (fun t k => XS.bipush X2.here hx rfl (hb hby d_method_3_17) k) ?_
  show own_Go p.tables e below (T2.setTop (mkF m 19 #[.val (.ref a), .val (.long sd), .second] [(.int (10 : Int32)), (.long sd), (.int (2 : Int32)), (.ref a)])) _
  refine own_by (fun t k => XS.lushr X2.here hx rfl (hb hby d_method_3_19) rfl k) ?_
  show own_Go p.tables e below (T2.setTop (mkF m 20 #[.val (.ref a), .val (.long sd), .second] [(.long ((sd.toUInt64 >>> ((10 : Int32) &&& 0x3f).toInt64.toUInt64).toInt64)), (.int (2 : Int32)), (.ref a)])) _
  refine own_by (fun t k => XS.l2i X2.here hx rfl (hb hby d_method_3_20) rfl k) ?_
  show own_Go p.tables e below (T2.setTop (mkF m 21 #[.val (.ref a), .val (.long sd), .second] [(.int (((sd.toUInt64 >>> ((10 : Int32) &&& 0x3f).toInt64.toUInt64).toInt64).toInt32)), (.int (2 : Int32)), (.ref a)])) _
  refine own_by (fun t k => XS.i2b X2.here hx rfl (hb hby d_method_3_21) rfl k) ?_
  show own_Go p.tables e below (T2.setTop (mkF m 22 #[.val (.ref a), .val (.long sd), .second] [(.int ((((sd.toUInt64 >>> ((10 : Int32) &&& 0x3f).toInt64.toUInt64).toInt64).toInt32).toInt8.toInt32)), (.int (2 : Int32)), (.ref a)])) _
  obtain ⟨T3, hea3, X3, e3, W3, V3, st3⟩ := own_stB X2 hx hZ e2 V2 (j := (2 : Int32)) (k := 2) (by decide) rfl (by decide) (g := (mkF m 22 #[.val (.ref a), .val (.long sd), .second] [(.int ((((sd.toUInt64 >>> ((10 : Int32) &&& 0x3f).toInt64.toUInt64).toInt64).toInt32).toInt8.toInt32)), (.int (2 : Int32)), (.ref a)])) rfl rfl (hb hby d_method_3_22)
  have N3 := Fr.snoc X3 N2 g_a
  have K3 : Keep h0 hea3 [a] := K2.wr W3 (Or.inl (List.mem_of_getElem? (i := 0) rfl))
  refine own_by (st3) ?_
  show own_Go p.tables e below (T3.setTop (mkF m 23 #[.val (.ref a), .val (.long sd), .second] [])) _
  refine own_by (fun t k => XS.aloadN X3.here hx rfl (hb hby d_method_3_23) rfl rfl k) ?_
  show own_Go p.tables e below (T3.setTop (mkF m 24 #[.val (.ref a), .val (.long sd), .second] [(.ref a)])) _
  refine own_by (fun t k => XS.iconst X3.here hx rfl (hb hby d_method_3_24) k) ?_
  show own_Go p.tables e below (T3.setTop (mkF m 25 #[.val (.ref a), .val (.long sd), .second] [(.int (3 : Int32)), (.ref a)])) _
  refine own_by (fun t k => XS.lloadN X3.here hx rfl (hb hby d_method_3_25) rfl k) ?_
  show own_Go p.tables e below (T3.setTop (mkF m 26 #[.val (.ref a), .val (.long sd), .second] [(.long sd), (.int (3 : Int32)), (.ref a)])) _
  refine own_by (fun t k => XS.bipush X3.here hx rfl (hb hby d_method_3_26) k) ?_
  show own_Go p.tables e below (T3.setTop (mkF m 28 #[.val (.ref a), .val (.long sd), .second] [(.int (15 : Int32)), (.long sd), (.int (3 : Int32)), (.ref a)])) _
  refine own_by (fun t k => XS.lushr X3.here hx rfl (hb hby d_method_3_28) rfl k) ?_
  show own_Go p.tables e below (T3.setTop (mkF m 29 #[.val (.ref a), .val (.long sd), .second] [(.long ((sd.toUInt64 >>> ((15 : Int32) &&& 0x3f).toInt64.toUInt64).toInt64)), (.int (3 : Int32)), (.ref a)])) _
  refine own_by (fun t k => XS.l2i X3.here hx rfl (hb hby d_method_3_29) rfl k) ?_
  show own_Go p.tables e below (T3.setTop (mkF m 30 #[.val (.ref a), .val (.long sd), .second] [(.int (((sd.toUInt64 >>> ((15 : Int32) &&& 0x3f).toInt64.toUInt64).toInt64).toInt32)), (.int (3 : Int32)), (.ref a)])) _
  refine own_by (fun t k => XS.i2b X3.here hx rfl (hb hby d_method_3_30) rfl k) ?_
  show own_Go p.tables e below (T3.setTop (mkF m 31 #[.val (.ref a), .val (.long sd), .second] [(.int ((((sd.toUInt64 >>> ((15 : Int32) &&& 0x3f).toInt64.toUInt64).toInt64).toInt32).toInt8.toInt32)), (.int (3 : Int32)), (.ref a)])) _
  obtain ⟨T4, hea4, X4, e4, W4, V4, st4⟩ := own_stB X3 hx hZ e3 V3 (j := (3 : Int32)) (k := 3) (by decide) rfl (by decide) (g := (mkF m 31 #[.val (.ref a), .val (.long sd), .second] [(.int ((((sd.toUInt64 >>> ((15 : Int32) &&& 0x3f).toInt64.toUInt64).toInt64).toInt32).toInt8.toInt32)), (.int (3 : Int32)), (.ref a)])) rfl rfl (hb hby d_method_3_31)
  have N4 := Fr.snoc X4 N3 g_a
  have K4 : Keep h0 hea4 [a] := K3.wr W4 (Or.inl (List.mem_of_getElem? (i := 0) rfl))
  refine own_by (st4) ?_
  show own_Go p.tables e below (T4.setTop (mkF m 32 #[.val (.ref a), .val (.long sd), .second] [])) _
  refine own_by (fun t k => XS.aloadN X4.here hx rfl (hb hby d_method_3_32) rfl rfl k) ?_
  show own_Go p.tables e below (T4.setTop (mkF m 33 #[.val (.ref a), .val (.long sd), .second] [(.ref a)])) _
  refine own_by (fun t k => XS.iconst X4.here hx rfl (hb hby d_method_3_33) k) ?_
  show own_Go p.tables e below (T4.setTop (mkF m 34 #[.val (.ref a), .val (.long sd), .second] [(.int (4 : Int32)), (.ref a)])) _
  refine own_by (fun t k => XS.lloadN X4.here hx rfl (hb hby d_method_3_34) rfl k) ?_
  show own_Go p.tables e below (T4.setTop (mkF m 35 #[.val (.ref a), .val (.long sd), .second] [(.long sd), (.int (4 : Int32)), (.ref a)])) _
  refine own_by (fun t k => XS.bipush X4.here hx rfl (hb hby d_method_3_35) k) ?_
  show own_Go p.tables e below (T4.setTop (mkF m 37 #[.val (.ref a), .val (.long sd), .second] [(.int (20 : Int32)), (.long sd), (.int (4 : Int32)), (.ref a)])) _
  refine own_by (fun t k => XS.lushr X4.here hx rfl (hb hby d_method_3_37) rfl k) ?_
  show own_Go p.tables e below (T4.setTop (mkF m 38 #[.val (.ref a), .val (.long sd), .second] [(.long ((sd.toUInt64 >>> ((20 : Int32) &&& 0x3f).toInt64.toUInt64).toInt64)), (.int (4 : Int32)), (.ref a)])) _
  refine own_by (fun t k => XS.l2i X4.here hx rfl (hb hby d_method_3_38) rfl k) ?_
  show own_Go p.tables e below (T4.setTop (mkF m 39 #[.val (.ref a), .val (.long sd), .second] [(.int (((sd.toUInt64 >>> ((20 : Int32) &&& 0x3f).toInt64.toUInt64).toInt64).toInt32)), (.int (4 : Int32)), (.ref a)])) _
  refine own_by (fun t k => XS.i2b X4.here hx rfl (hb hby d_method_3_39) rfl k) ?_
  show own_Go p.tables e below (T4.setTop (mkF m 40 #[.val (.ref a), .val (.long sd), .second] [(.int ((((sd.toUInt64 >>> ((20 : Int32) &&& 0x3f).toInt64.toUInt64).toInt64).toInt32).toInt8.toInt32)), (.int (4 : Int32)), (.ref a)])) _
  obtain ⟨T5, hea5, X5, e5, W5, V5, st5⟩ := own_stB X4 hx hZ e4 V4 (j := (4 : Int32)) (k := 4) (by decide) rfl (by decide) (g := (mkF m 40 #[.val (.ref a), .val (.long sd), .second] [(.int ((((sd.toUInt64 >>> ((20 : Int32) &&& 0x3f).toInt64.toUInt64).toInt64).toInt32).toInt8.toInt32)), (.int (4 : Int32)), (.ref a)])) rfl rfl (hb hby d_method_3_40)
  have N5 := Fr.snoc X5 N4 g_a
  have K5 : Keep h0 hea5 [a] := K4.wr W5 (Or.inl (List.mem_of_getElem? (i := 0) rfl))
  refine own_by (st5) ?_
  show own_Go p.tables e below (T5.setTop (mkF m 41 #[.val (.ref a), .val (.long sd), .second] [])) _
  refine own_by (fun t k => XS.aloadN X5.here hx rfl (hb hby d_method_3_41) rfl rfl k) ?_
  show own_Go p.tables e below (T5.setTop (mkF m 42 #[.val (.ref a), .val (.long sd), .second] [(.ref a)])) _
  refine own_by (fun t k => XS.iconst X5.here hx rfl (hb hby d_method_3_42) k) ?_
  show own_Go p.tables e below (T5.setTop (mkF m 43 #[.val (.ref a), .val (.long sd), .second] [(.int (5 : Int32)), (.ref a)])) _
  refine own_by (fun t k => XS.lloadN X5.here hx rfl (hb hby d_method_3_43) rfl k) ?_
  show own_Go p.tables e below (T5.setTop (mkF m 44 #[.val (.ref a), .val (.long sd), .second] [(.long sd), (.int (5 : Int32)), (.ref a)])) _
  refine own_by (fun t k => XS.bipush X5.here hx rfl (hb hby d_method_3_44) k) ?_
  show own_Go p.tables e below (T5.setTop (mkF m 46 #[.val (.ref a), .val (.long sd), .second] [(.int (25 : Int32)), (.long sd), (.int (5 : Int32)), (.ref a)])) _
  refine own_by (fun t k => XS.lushr X5.here hx rfl (hb hby d_method_3_46) rfl k) ?_
  show own_Go p.tables e below (T5.setTop (mkF m 47 #[.val (.ref a), .val (.long sd), .second] [(.long ((sd.toUInt64 >>> ((25 : Int32) &&& 0x3f).toInt64.toUInt64).toInt64)), (.int (5 : Int32)), (.ref a)])) _
  refine own_by (fun t k => XS.l2i X5.here hx rfl (hb hby d_method_3_47) rfl k) ?_
  show own_Go p.tables e below (T5.setTop (mkF m 48 #[.val (.ref a), .val (.long sd), .second] [(.int (((sd.toUInt64 >>> ((25 : Int32) &&& 0x3f).toInt64.toUInt64).toInt64).toInt32)), (.int (5 : Int32)), (.ref a)])) _
  refine own_by (fun t k => XS.i2b X5.here hx rfl (hb hby d_method_3_48) rfl k) ?_
  show own_Go p.tables e below (T5.setTop (mkF m 49 #[.val (.ref a), .val (.long sd), .second] [(.int ((((sd.toUInt64 >>> ((25 : Int32) &&& 0x3f).toInt64.toUInt64).toInt64).toInt32).toInt8.toInt32)), (.int (5 : Int32)), (.ref a)])) _
  obtain ⟨T6, hea6, X6, e6, W6, V6, st6⟩ := own_stB X5 hx hZ e5 V5 (j := (5 : Int32)) (k := 5) (by decide) rfl (by decide) (g := (mkF m 49 #[.val (.ref a), .val (.long sd), .second] [(.int ((((sd.toUInt64 >>> ((25 : Int32) &&& 0x3f).toInt64.toUInt64).toInt64).toInt32).toInt8.toInt32)), (.int (5 : Int32)), (.ref a)])) rfl rfl (hb hby d_method_3_49)
  have N6 := Fr.snoc X6 N5 g_a
  have K6 : Keep h0 hea6 [a] := K5.wr W6 (Or.inl (List.mem_of_getElem? (i := 0) rfl))
  refine own_by (st6) ?_
  show own_Go p.tables e below (T6.setTop (mkF m 50 #[.val (.ref a), .val (.long sd), .second] [])) _
  refine own_by (fun t k => XS.aloadN X6.here hx rfl (hb hby d_method_3_50) rfl rfl k) ?_
  show own_Go p.tables e below (T6.setTop (mkF m 51 #[.val (.ref a), .val (.long sd), .second] [(.ref a)])) _
  refine own_by (fun t k => XS.bipush X6.here hx rfl (hb hby d_method_3_51) k) ?_
  show own_Go p.tables e below (T6.setTop (mkF m 53 #[.val (.ref a), .val (.long sd), .second] [(.int (6 : Int32)), (.ref a)])) _
  refine own_by (fun t k => XS.lloadN X6.here hx rfl (hb hby d_method_3_53) rfl k) ?_
  show own_Go p.tables e below (T6.setTop (mkF m 54 #[.val (.ref a), .val (.long sd), .second] [(.long sd), (.int (6 : Int32)), (.ref a)])) _
  refine own_by (fun t k => XS.bipush X6.here hx rfl (hb hby d_method_3_54) k) ?_
  show own_Go p.tables e below (T6.setTop (mkF m 56 #[.val (.ref a), .val (.long sd), .second] [(.int (30 : Int32)), (.long sd), (.int (6 : Int32)), (.ref a)])) _
  refine own_by (fun t k => XS.lushr X6.here hx rfl (hb hby d_method_3_56) rfl k) ?_
  show own_Go p.tables e below (T6.setTop (mkF m 57 #[.val (.ref a), .val (.long sd), .second] [(.long ((sd.toUInt64 >>> ((30 : Int32) &&& 0x3f).toInt64.toUInt64).toInt64)), (.int (6 : Int32)), (.ref a)])) _
  refine own_by (fun t k => XS.l2i X6.here hx rfl (hb hby d_method_3_57) rfl k) ?_
  show own_Go p.tables e below (T6.setTop (mkF m 58 #[.val (.ref a), .val (.long sd), .second] [(.int (((sd.toUInt64 >>> ((30 : Int32) &&& 0x3f).toInt64.toUInt64).toInt64).toInt32)), (.int (6 : Int32)), (.ref a)])) _
  refine own_by (fun t k => XS.i2b X6.here hx rfl (hb hby d_method_3_58) rfl k) ?_
  show own_Go p.tables e below (T6.setTop (mkF m 59 #[.val (.ref a), .val (.long sd), .second] [(.int ((((sd.toUInt64 >>> ((30 : Int32) &&& 0x3f).toInt64.toUInt64).toInt64).toInt32).toInt8.toInt32)), (.int (6 : Int32)), (.ref a)])) _
  obtain ⟨T7, hea7, X7, e7, W7, V7, st7⟩ := own_stB X6 hx hZ e6 V6 (j := (6 : Int32)) (k := 6) (by decide) rfl (by decide) (g := (mkF m 59 #[.val (.ref a), .val (.long sd), .second] [(.int ((((sd.toUInt64 >>> ((30 : Int32) &&& 0x3f).toInt64.toUInt64).toInt64).toInt32).toInt8.toInt32)), (.int (6 : Int32)), (.ref a)])) rfl rfl (hb hby d_method_3_59)
  have N7 := Fr.snoc X7 N6 g_a
  have K7 : Keep h0 hea7 [a] := K6.wr W7 (Or.inl (List.mem_of_getElem? (i := 0) rfl))
  refine own_by (st7) ?_
  show own_Go p.tables e below (T7.setTop (mkF m 60 #[.val (.ref a), .val (.long sd), .second] [])) _
  refine own_by (fun t k => XS.aloadN X7.here hx rfl (hb hby d_method_3_60) rfl rfl k) ?_
  show own_Go p.tables e below (T7.setTop (mkF m 61 #[.val (.ref a), .val (.long sd), .second] [(.ref a)])) _
  refine own_by (fun t k => XS.bipush X7.here hx rfl (hb hby d_method_3_61) k) ?_
  show own_Go p.tables e below (T7.setTop (mkF m 63 #[.val (.ref a), .val (.long sd), .second] [(.int (7 : Int32)), (.ref a)])) _
  refine own_by (fun t k => XS.lloadN X7.here hx rfl (hb hby d_method_3_63) rfl k) ?_
  show own_Go p.tables e below (T7.setTop (mkF m 64 #[.val (.ref a), .val (.long sd), .second] [(.long sd), (.int (7 : Int32)), (.ref a)])) _
  refine own_by (fun t k => XS.bipush X7.here hx rfl (hb hby d_method_3_64) k) ?_
  show own_Go p.tables e below (T7.setTop (mkF m 66 #[.val (.ref a), .val (.long sd), .second] [(.int (35 : Int32)), (.long sd), (.int (7 : Int32)), (.ref a)])) _
  refine own_by (fun t k => XS.lushr X7.here hx rfl (hb hby d_method_3_66) rfl k) ?_
  show own_Go p.tables e below (T7.setTop (mkF m 67 #[.val (.ref a), .val (.long sd), .second] [(.long ((sd.toUInt64 >>> ((35 : Int32) &&& 0x3f).toInt64.toUInt64).toInt64)), (.int (7 : Int32)), (.ref a)])) _
  refine own_by (fun t k => XS.l2i X7.here hx rfl (hb hby d_method_3_67) rfl k) ?_
  show own_Go p.tables e below (T7.setTop (mkF m 68 #[.val (.ref a), .val (.long sd), .second] [(.int (((sd.toUInt64 >>> ((35 : Int32) &&& 0x3f).toInt64.toUInt64).toInt64).toInt32)), (.int (7 : Int32)), (.ref a)])) _
  refine own_by (fun t k => XS.i2b X7.here hx rfl (hb hby d_method_3_68) rfl k) ?_
  show own_Go p.tables e below (T7.setTop (mkF m 69 #[.val (.ref a), .val (.long sd), .second] [(.int ((((sd.toUInt64 >>> ((35 : Int32) &&& 0x3f).toInt64.toUInt64).toInt64).toInt32).toInt8.toInt32)), (.int (7 : Int32)), (.ref a)])) _
  obtain ⟨T8, hea8, X8, e8, W8, V8, st8⟩ := own_stB X7 hx hZ e7 V7 (j := (7 : Int32)) (k := 7) (by decide) rfl (by decide) (g := (mkF m 69 #[.val (.ref a), .val (.long sd), .second] [(.int ((((sd.toUInt64 >>> ((35 : Int32) &&& 0x3f).toInt64.toUInt64).toInt64).toInt32).toInt8.toInt32)), (.int (7 : Int32)), (.ref a)])) rfl rfl (hb hby d_method_3_69)
  have N8 := Fr.snoc X8 N7 g_a
  have K8 : Keep h0 hea8 [a] := K7.wr W8 (Or.inl (List.mem_of_getElem? (i := 0) rfl))
  refine own_by (st8) ?_
  show own_Go p.tables e below (T8.setTop (mkF m 70 #[.val (.ref a), .val (.long sd), .second] [])) _
  refine own_by (fun t k => XS.aloadN X8.here hx rfl (hb hby d_method_3_70) rfl rfl k) ?_
  show own_Go p.tables e below (T8.setTop (mkF m 71 #[.val (.ref a), .val (.long sd), .second] [(.ref a)])) _
  refine own_by (fun t k => XS.bipush X8.here hx rfl (hb hby d_method_3_71) k) ?_
  show own_Go p.tables e below (T8.setTop (mkF m 73 #[.val (.ref a), .val (.long sd), .second] [(.int (8 : Int32)), (.ref a)])) _
  refine own_by (fun t k => XS.lloadN X8.here hx rfl (hb hby d_method_3_73) rfl k) ?_
  show own_Go p.tables e below (T8.setTop (mkF m 74 #[.val (.ref a), .val (.long sd), .second] [(.long sd), (.int (8 : Int32)), (.ref a)])) _
  refine own_by (fun t k => XS.bipush X8.here hx rfl (hb hby d_method_3_74) k) ?_
  show own_Go p.tables e below (T8.setTop (mkF m 76 #[.val (.ref a), .val (.long sd), .second] [(.int (40 : Int32)), (.long sd), (.int (8 : Int32)), (.ref a)])) _
  refine own_by (fun t k => XS.lushr X8.here hx rfl (hb hby d_method_3_76) rfl k) ?_
  show own_Go p.tables e below (T8.setTop (mkF m 77 #[.val (.ref a), .val (.long sd), .second] [(.long ((sd.toUInt64 >>> ((40 : Int32) &&& 0x3f).toInt64.toUInt64).toInt64)), (.int (8 : Int32)), (.ref a)])) _
  refine own_by (fun t k => XS.l2i X8.here hx rfl (hb hby d_method_3_77) rfl k) ?_
  show own_Go p.tables e below (T8.setTop (mkF m 78 #[.val (.ref a), .val (.long sd), .second] [(.int (((sd.toUInt64 >>> ((40 : Int32) &&& 0x3f).toInt64.toUInt64).toInt64).toInt32)), (.int (8 : Int32)), (.ref a)])) _
  refine own_by (fun t k => XS.i2b X8.here hx rfl (hb hby d_method_3_78) rfl k) ?_
  show own_Go p.tables e below (T8.setTop (mkF m 79 #[.val (.ref a), .val (.long sd), .second] [(.int ((((sd.toUInt64 >>> ((40 : Int32) &&& 0x3f).toInt64.toUInt64).toInt64).toInt32).toInt8.toInt32)), (.int (8 : Int32)), (.ref a)])) _
  obtain ⟨T9, hea9, X9, e9, W9, V9, st9⟩ := own_stB X8 hx hZ e8 V8 (j := (8 : Int32)) (k := 8) (by decide) rfl (by decide) (g := (mkF m 79 #[.val (.ref a), .val (.long sd), .second] [(.int ((((sd.toUInt64 >>> ((40 : Int32) &&& 0x3f).toInt64.toUInt64).toInt64).toInt32).toInt8.toInt32)), (.int (8 : Int32)), (.ref a)])) rfl rfl (hb hby d_method_3_79)
  have N9 := Fr.snoc X9 N8 g_a
  have K9 : Keep h0 hea9 [a] := K8.wr W9 (Or.inl (List.mem_of_getElem? (i := 0) rfl))
  refine own_by (st9) ?_
  show own_Go p.tables e below (T9.setTop (mkF m 80 #[.val (.ref a), .val (.long sd), .second] [])) _
  refine own_by (fun t k => XS.aloadN X9.here hx rfl (hb hby d_method_3_80) rfl rfl k) ?_
  show own_Go p.tables e below (T9.setTop (mkF m 81 #[.val (.ref a), .val (.long sd), .second] [(.ref a)])) _
  refine own_by (fun t k => XS.bipush X9.here hx rfl (hb hby d_method_3_81) k) ?_
  show own_Go p.tables e below (T9.setTop (mkF m 83 #[.val (.ref a), .val (.long sd), .second] [(.int (9 : Int32)), (.ref a)])) _
  refine own_by (fun t k => XS.lloadN X9.here hx rfl (hb hby d_method_3_83) rfl k) ?_
  show own_Go p.tables e below (T9.setTop (mkF m 84 #[.val (.ref a), .val (.long sd), .second] [(.long sd), (.int (9 : Int32)), (.ref a)])) _
  refine own_by (fun t k => XS.bipush X9.here hx rfl (hb hby d_method_3_84) k) ?_
  show own_Go p.tables e below (T9.setTop (mkF m 86 #[.val (.ref a), .val (.long sd), .second] [(.int (45 : Int32)), (.long sd), (.int (9 : Int32)), (.ref a)])) _
  refine own_by (fun t k => XS.lushr X9.here hx rfl (hb hby d_method_3_86) rfl k) ?_
  show own_Go p.tables e below (T9.setTop (mkF m 87 #[.val (.ref a), .val (.long sd), .second] [(.long ((sd.toUInt64 >>> ((45 : Int32) &&& 0x3f).toInt64.toUInt64).toInt64)), (.int (9 : Int32)), (.ref a)])) _
  refine own_by (fun t k => XS.l2i X9.here hx rfl (hb hby d_method_3_87) rfl k) ?_
  show own_Go p.tables e below (T9.setTop (mkF m 88 #[.val (.ref a), .val (.long sd), .second] [(.int (((sd.toUInt64 >>> ((45 : Int32) &&& 0x3f).toInt64.toUInt64).toInt64).toInt32)), (.int (9 : Int32)), (.ref a)])) _
  refine own_by (fun t k => XS.i2b X9.here hx rfl (hb hby d_method_3_88) rfl k) ?_
  show own_Go p.tables e below (T9.setTop (mkF m 89 #[.val (.ref a), .val (.long sd), .second] [(.int ((((sd.toUInt64 >>> ((45 : Int32) &&& 0x3f).toInt64.toUInt64).toInt64).toInt32).toInt8.toInt32)), (.int (9 : Int32)), (.ref a)])) _
  obtain ⟨T10, hea10, X10, e10, W10, V10, st10⟩ := own_stB X9 hx hZ e9 V9 (j := (9 : Int32)) (k := 9) (by decide) rfl (by decide) (g := (mkF m 89 #[.val (.ref a), .val (.long sd), .second] [(.int ((((sd.toUInt64 >>> ((45 : Int32) &&& 0x3f).toInt64.toUInt64).toInt64).toInt32).toInt8.toInt32)), (.int (9 : Int32)), (.ref a)])) rfl rfl (hb hby d_method_3_89)
  have N10 := Fr.snoc X10 N9 g_a
  have K10 : Keep h0 hea10 [a] := K9.wr W10 (Or.inl (List.mem_of_getElem? (i := 0) rfl))
  refine own_by (st10) ?_
  show own_Go p.tables e below (T10.setTop (mkF m 90 #[.val (.ref a), .val (.long sd), .second] [])) _
  refine own_by (fun t k => XS.aloadN X10.here hx rfl (hb hby d_method_3_90) rfl rfl k) ?_
  show own_Go p.tables e below (T10.setTop (mkF m 91 #[.val (.ref a), .val (.long sd), .second] [(.ref a)])) _
  refine own_by (fun t k => XS.bipush X10.here hx rfl (hb hby d_method_3_91) k) ?_
  show own_Go p.tables e below (T10.setTop (mkF m 93 #[.val (.ref a), .val (.long sd), .second] [(.int (10 : Int32)), (.ref a)])) _
  refine own_by (fun t k => XS.lloadN X10.here hx rfl (hb hby d_method_3_93) rfl k) ?_
  show own_Go p.tables e below (T10.setTop (mkF m 94 #[.val (.ref a), .val (.long sd), .second] [(.long sd), (.int (10 : Int32)), (.ref a)])) _
  refine own_by (fun t k => XS.bipush X10.here hx rfl (hb hby d_method_3_94) k) ?_
  show own_Go p.tables e below (T10.setTop (mkF m 96 #[.val (.ref a), .val (.long sd), .second] [(.int (50 : Int32)), (.long sd), (.int (10 : Int32)), (.ref a)])) _
  refine own_by (fun t k => XS.lushr X10.here hx rfl (hb hby d_method_3_96) rfl k) ?_
  show own_Go p.tables e below (T10.setTop (mkF m 97 #[.val (.ref a), .val (.long sd), .second] [(.long ((sd.toUInt64 >>> ((50 : Int32) &&& 0x3f).toInt64.toUInt64).toInt64)), (.int (10 : Int32)), (.ref a)])) _
  refine own_by (fun t k => XS.l2i X10.here hx rfl (hb hby d_method_3_97) rfl k) ?_
  show own_Go p.tables e below (T10.setTop (mkF m 98 #[.val (.ref a), .val (.long sd), .second] [(.int (((sd.toUInt64 >>> ((50 : Int32) &&& 0x3f).toInt64.toUInt64).toInt64).toInt32)), (.int (10 : Int32)), (.ref a)])) _
  refine own_by (fun t k => XS.i2b X10.here hx rfl (hb hby d_method_3_98) rfl k) ?_
  show own_Go p.tables e below (T10.setTop (mkF m 99 #[.val (.ref a), .val (.long sd), .second] [(.int ((((sd.toUInt64 >>> ((50 : Int32) &&& 0x3f).toInt64.toUInt64).toInt64).toInt32).toInt8.toInt32)), (.int (10 : Int32)), (.ref a)])) _
  obtain ⟨T11, hea11, X11, e11, W11, V11, st11⟩ := own_stB X10 hx hZ e10 V10 (j := (10 : Int32)) (k := 10) (by decide) rfl (by decide) (g := (mkF m 99 #[.val (.ref a), .val (.long sd), .second] [(.int ((((sd.toUInt64 >>> ((50 : Int32) &&& 0x3f).toInt64.toUInt64).toInt64).toInt32).toInt8.toInt32)), (.int (10 : Int32)), (.ref a)])) rfl rfl (hb hby d_method_3_99)
  have N11 := Fr.snoc X11 N10 g_a
  have K11 : Keep h0 hea11 [a] := K10.wr W11 (Or.inl (List.mem_of_getElem? (i := 0) rfl))
  refine own_by (st11) ?_
  show own_Go p.tables e below (T11.setTop (mkF m 100 #[.val (.ref a), .val (.long sd), .second] [])) _
  refine own_by (fun t k => XS.aloadN X11.here hx rfl (hb hby d_method_3_100) rfl rfl k) ?_
  show own_Go p.tables e below (T11.setTop (mkF m 101 #[.val (.ref a), .val (.long sd), .second] [(.ref a)])) _
  refine own_by (fun t k => XS.bipush X11.here hx rfl (hb hby d_method_3_101) k) ?_
  show own_Go p.tables e below (T11.setTop (mkF m 103 #[.val (.ref a), .val (.long sd), .second] [(.int (11 : Int32)), (.ref a)])) _
  refine own_by (fun t k => XS.lloadN X11.here hx rfl (hb hby d_method_3_103) rfl k) ?_
  show own_Go p.tables e below (T11.setTop (mkF m 104 #[.val (.ref a), .val (.long sd), .second] [(.long sd), (.int (11 : Int32)), (.ref a)])) _
  refine own_by (fun t k => XS.bipush X11.here hx rfl (hb hby d_method_3_104) k) ?_
  show own_Go p.tables e below (T11.setTop (mkF m 106 #[.val (.ref a), .val (.long sd), .second] [(.int (55 : Int32)), (.long sd), (.int (11 : Int32)), (.ref a)])) _
  refine own_by (fun t k => XS.lushr X11.here hx rfl (hb hby d_method_3_106) rfl k) ?_
  show own_Go p.tables e below (T11.setTop (mkF m 107 #[.val (.ref a), .val (.long sd), .second] [(.long ((sd.toUInt64 >>> ((55 : Int32) &&& 0x3f).toInt64.toUInt64).toInt64)), (.int (11 : Int32)), (.ref a)])) _
  refine own_by (fun t k => XS.l2i X11.here hx rfl (hb hby d_method_3_107) rfl k) ?_
  show own_Go p.tables e below (T11.setTop (mkF m 108 #[.val (.ref a), .val (.long sd), .second] [(.int (((sd.toUInt64 >>> ((55 : Int32) &&& 0x3f).toInt64.toUInt64).toInt64).toInt32)), (.int (11 : Int32)), (.ref a)])) _
  refine own_by (fun t k => XS.i2b X11.here hx rfl (hb hby d_method_3_108) rfl k) ?_
  show own_Go p.tables e below (T11.setTop (mkF m 109 #[.val (.ref a), .val (.long sd), .second] [(.int ((((sd.toUInt64 >>> ((55 : Int32) &&& 0x3f).toInt64.toUInt64).toInt64).toInt32).toInt8.toInt32)), (.int (11 : Int32)), (.ref a)])) _
  obtain ⟨T12, hea12, X12, e12, W12, V12, st12⟩ := own_stB X11 hx hZ e11 V11 (j := (11 : Int32)) (k := 11) (by decide) rfl (by decide) (g := (mkF m 109 #[.val (.ref a), .val (.long sd), .second] [(.int ((((sd.toUInt64 >>> ((55 : Int32) &&& 0x3f).toInt64.toUInt64).toInt64).toInt32).toInt8.toInt32)), (.int (11 : Int32)), (.ref a)])) rfl rfl (hb hby d_method_3_109)
  have N12 := Fr.snoc X12 N11 g_a
  have K12 : Keep h0 hea12 [a] := K11.wr W12 (Or.inl (List.mem_of_getElem? (i := 0) rfl))
  refine own_by (st12) ?_
  show own_Go p.tables e below (T12.setTop (mkF m 110 #[.val (.ref a), .val (.long sd), .second] [])) _
  exact own_retV X12 hx Bd.notSynchronized Bd.returns (hb hby d_method_3_110) (by (try rw [e12]); exact ⟨rfl, N12, K12, V12⟩) (by decide) (by decide)
theorem d_jdk_29_method_69_0 : decode jdk_29_method_69_code 0 = .ok (.iload_n 0, 1) := by decide +kernel
theorem d_jdk_29_method_69_1 : decode jdk_29_method_69_code 1 = .ok (.iload_n 1, 1) := by decide +kernel
theorem d_jdk_29_method_69_2 : decode jdk_29_method_69_code 2 = .ok (.if_icmp .gt 7, 3) := by decide +kernel
theorem d_jdk_29_method_69_9 : decode jdk_29_method_69_code 9 = .ok (.iload_n 1, 1) := by decide +kernel
theorem d_jdk_29_method_69_5 : decode jdk_29_method_69_code 5 = .ok (.iload_n 0, 1) := by decide +kernel
theorem d_jdk_29_method_69_6 : decode jdk_29_method_69_code 6 = .ok (.goto 4, 3) := by decide +kernel
theorem d_jdk_29_method_69_10 : decode jdk_29_method_69_code 10 = .ok (.ireturn, 1) := by decide +kernel
theorem ef_rm_min (m : MethodId) (p1 : Int32) (p2 : Int32) : entryFrame m #[(.int p1), (.int p2)] 2 = mkF m 0 #[.val (.int p1), .val (.int p2)] [] := by first | (simp [entryFrame, mkF, argsToLocals, Value.category]; done) | rfl
set_option maxRecDepth 65536 in
set_option maxHeartbeats 40000000 in
theorem rm_min (l : Launch) (Z : State) (a0 : Array Value) (hw : ∀ d ∈ tables_1, d.before a0 Z = true) (ws : List Jvm.Cond) (p1 : Int32) (p2 : Int32) (h0 : Heap) (n0 : Nat) (Z0 : n0 ≤ h0.size)  :
    MetFree l (⟨"java/lang/Math", "min", "(II)I"⟩ : MethodName) (head1 (Jvm.Cond.code (⟨"java/lang/Math", "min", "(II)I"⟩ : MethodName) jdk_29_method_69_code 2 (some .int) :: ws) ({ frames := 0, cells := 0, slots := 0, locals := 0 } : Room)) (fun zA zU => zA = #[(.int p1), (.int p2)] ∧ Z.Warmed39 zU.vm ∧ zU.heap = h0) (fun _ _ _ _ _ => True) (fun _ zU zo zW => ∃ zv zL, zo = .returned zv ∧ (own_QI h0 n0 (if p2 < p1 then p2 else p1)) zv zW.heap zL ∧ FrameEnd zU zo zW zL ({ frames := 0, cells := 0, slots := 0, locals := 0 } : Room).cells ({ frames := 0, cells := 0, slots := 0, locals := 0 } : Room).slots) := by
  refine MetFree.of_bodySF (Jvm.Free.JP.mathPlain rfl (by decide +kernel)) hisR ?_
  intro p e s m args below meth c s₁ Bd hml0 hP hK
  obtain ⟨rfl, hZ, hh⟩ := hP
  have hx := Bd.exec
  have hby := Bd.bytes
  have hml : c.maxLocals = 2 := hml0
  have hown : s.vm.findClass "java/lang/Math" = some m.cls := findClass_of_methodNamed Bd.named
  have hnm := (name_of_methodNamed Bd.named Bd.method).1
  have X0 : Stand p l e ({ frames := 0, cells := 0, slots := 0, locals := 0 } : Room) s m #[(.int p1), (.int p2)] below meth c s₁ [] 0 0 := Stand.of_body Bd
  have e0 : s₁.heap = h0 := by rw [← hh, Bd.state]; rfl
  have N0 := Fr.nil n0
  refine own_out (Q := own_QI h0 n0 (if p2 < p1 then p2 else p1)) ?_
  refine own_cast (ef_rm_min m p1 p2) ?_
  show own_Go p.tables e below (s₁.setTop (mkF m 0 #[.val (.int p1), .val (.int p2)] [])) _
  obtain ⟨q, hq, sj2⟩ : ∃ (q : Int32), q = (if p2 < p1 then p2 else p1) ∧ ∀ t, Steps p.tables e below (s₁.setTop (mkF m 10 #[.val (.int p1), .val (.int p2)] [(.int q)])) t → Steps p.tables e below (s₁.setTop (mkF m 0 #[.val (.int p1), .val (.int p2)] [])) t := by
    by_cases j1 : p2 < p1
    · refine ⟨(p2), (if_pos j1).symm, fun t k => ?_⟩
      show Steps p.tables e below (s₁.setTop (mkF m 0 #[.val (.int p1), .val (.int p2)] [])) _
      refine XS.iloadN X0.here hx rfl (hb hby d_jdk_29_method_69_0) rfl ?_
      show Steps p.tables e below (s₁.setTop (mkF m 1 #[.val (.int p1), .val (.int p2)] [(.int p1)])) _
      refine XS.iloadN X0.here hx rfl (hb hby d_jdk_29_method_69_1) rfl ?_
      show Steps p.tables e below (s₁.setTop (mkF m 2 #[.val (.int p1), .val (.int p2)] [(.int p2), (.int p1)])) _
      refine XS.icmpYes X0.here hx rfl (pc0 := 2) (pc' := 9) rfl (hb hby d_jdk_29_method_69_2) rfl (tlt j1).2.2.1 (by decide) (by decide) ?_
      show Steps p.tables e below (s₁.setTop (mkF m 9 #[.val (.int p1), .val (.int p2)] [])) _
      refine XS.iloadN X0.here hx rfl (hb hby d_jdk_29_method_69_9) rfl ?_
      show Steps p.tables e below (s₁.setTop (mkF m 10 #[.val (.int p1), .val (.int p2)] [(.int p2)])) _
      exact k
    · refine ⟨(p1), (if_neg j1).symm, fun t k => ?_⟩
      show Steps p.tables e below (s₁.setTop (mkF m 0 #[.val (.int p1), .val (.int p2)] [])) _
      refine XS.iloadN X0.here hx rfl (hb hby d_jdk_29_method_69_0) rfl ?_
      show Steps p.tables e below (s₁.setTop (mkF m 1 #[.val (.int p1), .val (.int p2)] [(.int p1)])) _
      refine XS.iloadN X0.here hx rfl (hb hby d_jdk_29_method_69_1) rfl ?_
      show Steps p.tables e below (s₁.setTop (mkF m 2 #[.val (.int p1), .val (.int p2)] [(.int p2), (.int p1)])) _
      refine XS.icmpNo X0.here hx rfl (hb hby d_jdk_29_method_69_2) rfl (flt j1).2.2.1 ?_
      show Steps p.tables e below (s₁.setTop (mkF m 5 #[.val (.int p1), .val (.int p2)] [])) _
      refine XS.iloadN X0.here hx rfl (hb hby d_jdk_29_method_69_5) rfl ?_
      show Steps p.tables e below (s₁.setTop (mkF m 6 #[.val (.int p1), .val (.int p2)] [(.int p1)])) _
      refine XS.goto X0.here hx rfl (pc0 := 6) (pc' := 10) rfl (hb hby d_jdk_29_method_69_6) (by decide) (by decide) ?_
      show Steps p.tables e below (s₁.setTop (mkF m 10 #[.val (.int p1), .val (.int p2)] [(.int p1)])) _
      exact k
  refine own_by (sj2) ?_
  show own_Go p.tables e below (s₁.setTop (mkF m 10 #[.val (.int p1), .val (.int p2)] [(.int q)])) _
  exact own_retI X0 hx Bd.notSynchronized Bd.returns (hb hby d_jdk_29_method_69_10) (by (try rw [e0]); exact ⟨_, rfl, N0, rfl, hq⟩) (by decide) (by decide)
theorem d_prog_28_method_9_0 : decode prog_28_method_9_code 0 = .ok (.aload_n 2, 1) := by decide +kernel
theorem d_prog_28_method_9_1 : decode prog_28_method_9_code 1 = .ok (.arraylength, 1) := by decide +kernel
theorem d_prog_28_method_9_2 : decode prog_28_method_9_code 2 = .ok (.iload_n 3, 1) := by decide +kernel
theorem d_prog_28_method_9_3 : decode prog_28_method_9_code 3 = .ok (.bipush 8, 2) := by decide +kernel
theorem d_prog_28_method_9_5 : decode prog_28_method_9_code 5 = .ok (.iadd, 1) := by decide +kernel
theorem d_prog_28_method_9_6 : decode prog_28_method_9_code 6 = .ok (.invokestatic 26, 3) := by decide +kernel
theorem pd_109 : parseMethodDescriptor "(II)I" = some ⟨[.int, .int], some .int⟩ := by decide +kernel
theorem d_prog_28_method_9_9 : decode prog_28_method_9_code 9 = .ok (.istore 4, 2) := by decide +kernel
theorem d_prog_28_method_9_11 : decode prog_28_method_9_code 11 = .ok (.iload_n 3, 1) := by decide +kernel
theorem d_prog_28_method_9_12 : decode prog_28_method_9_code 12 = .ok (.istore 5, 2) := by decide +kernel
theorem d_prog_28_method_9_14 : decode prog_28_method_9_code 14 = .ok (.iload 5, 2) := by decide +kernel
theorem d_prog_28_method_9_16 : decode prog_28_method_9_code 16 = .ok (.iload 4, 2) := by decide +kernel
theorem d_prog_28_method_9_18 : decode prog_28_method_9_code 18 = .ok (.if_icmp .ge 29, 3) := by decide +kernel
theorem d_prog_28_method_9_47 : decode prog_28_method_9_code 47 = .ok (.return_, 1) := by decide +kernel
theorem d_prog_28_method_9_21 : decode prog_28_method_9_code 21 = .ok (.aload_n 2, 1) := by decide +kernel
theorem d_prog_28_method_9_22 : decode prog_28_method_9_code 22 = .ok (.iload 5, 2) := by decide +kernel
theorem d_prog_28_method_9_24 : decode prog_28_method_9_code 24 = .ok (.lload_n 0, 1) := by decide +kernel
theorem d_prog_28_method_9_25 : decode prog_28_method_9_code 25 = .ok (.bipush 64, 2) := by decide +kernel
theorem d_prog_28_method_9_27 : decode prog_28_method_9_code 27 = .ok (.bipush 8, 2) := by decide +kernel
theorem d_prog_28_method_9_29 : decode prog_28_method_9_code 29 = .ok (.iload 5, 2) := by decide +kernel
theorem d_prog_28_method_9_31 : decode prog_28_method_9_code 31 = .ok (.iload_n 3, 1) := by decide +kernel
theorem d_prog_28_method_9_32 : decode prog_28_method_9_code 32 = .ok (.isub, 1) := by decide +kernel
theorem d_prog_28_method_9_33 : decode prog_28_method_9_code 33 = .ok (.iconst 1, 1) := by decide +kernel
theorem d_prog_28_method_9_34 : decode prog_28_method_9_code 34 = .ok (.iadd, 1) := by decide +kernel
theorem d_prog_28_method_9_35 : decode prog_28_method_9_code 35 = .ok (.imul, 1) := by decide +kernel
theorem d_prog_28_method_9_36 : decode prog_28_method_9_code 36 = .ok (.isub, 1) := by decide +kernel
theorem d_prog_28_method_9_37 : decode prog_28_method_9_code 37 = .ok (.lushr, 1) := by decide +kernel
theorem d_prog_28_method_9_38 : decode prog_28_method_9_code 38 = .ok (.l2i, 1) := by decide +kernel
theorem d_prog_28_method_9_39 : decode prog_28_method_9_code 39 = .ok (.i2b, 1) := by decide +kernel
theorem d_prog_28_method_9_40 : decode prog_28_method_9_code 40 = .ok (.bastore, 1) := by decide +kernel
theorem d_prog_28_method_9_41 : decode prog_28_method_9_code 41 = .ok (.iinc 5 1, 3) := by decide +kernel
theorem d_prog_28_method_9_44 : decode prog_28_method_9_code 44 = .ok (.goto (-30), 3) := by decide +kernel
def Q_rm_ph (Z : State) (hd : Int64) (a : Addr) (fr : Int32) (F : Nat) (f0 : Nat → Int32) (h0 : Heap) (n0 : Nat) (v : Option Value) (h : Heap) (L : List Loc) : Prop := v = none ∧ Fr n0 L ∧ Keep h0 h [a] ∧ own_AI Z h a .byte 12 (own_ph hd F f0 (own_N F))
theorem ef_rm_ph (m : MethodId) (hd : Int64) (a : Addr) (fr : Int32) : entryFrame m #[(.long hd), (.ref a), (.int fr)] 6 = mkF m 0 #[.val (.long hd), .second, .val (.ref a), .val (.int fr), .unset, .unset] [] := by first | (simp [entryFrame, mkF, argsToLocals, Value.category]; done) | rfl
theorem pn_135 : plainName "com/example/ordinal/ordinal/Keys" = true := by first | (simp [plainName, overriddenIn]; done) | decide +kernel
set_option maxRecDepth 65536 in
set_option maxHeartbeats 40000000 in
theorem rm_ph (l : Launch) (Z : State) (a0 : Array Value) (hw : ∀ d ∈ tables_1, d.before a0 Z = true) (ws : List Jvm.Cond) (hd : Int64) (a : Addr) (fr : Int32) (F : Nat) (f0 : Nat → Int32) (h0 : Heap) (n0 : Nat) (Z0 : n0 ≤ h0.size) (A_a : own_AI Z h0 a .byte 12 f0) (g_a : n0 ≤ a) (hfr : fr = Int32.ofNat F) (hF : F ≤ 12) :
    MetFree l (⟨"com/example/ordinal/ordinal/Keys", "putHead", "(J[BI)V"⟩ : MethodName) (head1 (Jvm.Cond.code (⟨"com/example/ordinal/ordinal/Keys", "putHead", "(J[BI)V"⟩ : MethodName) prog_28_method_9_code 6 none :: ws) ({ frames := 1, cells := 0, slots := 0, locals := 13 } : Room)) (fun zA zU => zA = #[(.long hd), (.ref a), (.int fr)] ∧ Z.Warmed39 zU.vm ∧ zU.heap = h0) (fun _ _ _ _ _ => True) (fun _ zU zo zW => ∃ zv zL, zo = .returned zv ∧ (Q_rm_ph Z hd a fr F f0 h0 n0) zv zW.heap zL ∧ FrameEnd zU zo zW zL ({ frames := 1, cells := 0, slots := 0, locals := 13 } : Room).cells ({ frames := 1, cells := 0, slots := 0, locals := 13 } : Room).slots) := by
  refine MetFree.of_bodySF (plainFor_of_name pn_135) hisR ?_
  intro p e s m args below meth c s₁ Bd hml0 hP hK
  obtain ⟨rfl, hZ, hh⟩ := hP
  have hx := Bd.exec
  have hby := Bd.bytes
  have hml : c.maxLocals = 6 := hml0
  have hown : s.vm.findClass "com/example/ordinal/ordinal/Keys" = some m.cls := findClass_of_methodNamed Bd.named
  have hnm := (name_of_methodNamed Bd.named Bd.method).1
  have X0 : Stand p l e ({ frames := 1, cells := 0, slots := 0, locals := 13 } : Room) s m #[(.long hd), (.ref a), (.int fr)] below meth c s₁ [] 0 0 := Stand.of_body Bd
  have e0 : s₁.heap = h0 := by rw [← hh, Bd.state]; rfl
  have N0 := Fr.nil n0
  refine own_out (Q := Q_rm_ph Z hd a fr F f0 h0 n0) ?_
  refine own_cast (ef_rm_ph m hd a fr) ?_
  show own_Go p.tables e below (s₁.setTop (mkF m 0 #[.val (.long hd), .second, .val (.ref a), .val (.int fr), .unset, .unset] [])) _
  refine own_by (fun t k => XS.aloadN X0.here hx rfl (hb hby d_prog_28_method_9_0) rfl rfl k) ?_
  show own_Go p.tables e below (s₁.setTop (mkF m 1 #[.val (.long hd), .second, .val (.ref a), .val (.int fr), .unset, .unset] [(.ref a)])) _
  refine own_by (own_len X0 hx hZ e0 A_a (z := (12 : Int32)) rfl (g := (mkF m 1 #[.val (.long hd), .second, .val (.ref a), .val (.int fr), .unset, .unset] [(.ref a)])) rfl rfl (hb hby d_prog_28_method_9_1)) ?_
  show own_Go p.tables e below (s₁.setTop (mkF m 2 #[.val (.long hd), .second, .val (.ref a), .val (.int fr), .unset, .unset] [(.int (12 : Int32))])) _
  refine own_by (fun t k => XS.iloadN X0.here hx rfl (hb hby d_prog_28_method_9_2) rfl k) ?_
  show own_Go p.tables e below (s₁.setTop (mkF m 3 #[.val (.long hd), .second, .val (.ref a), .val (.int fr), .unset, .unset] [(.int fr), (.int (12 : Int32))])) _
  refine own_by (fun t k => XS.bipush X0.here hx rfl (hb hby d_prog_28_method_9_3) k) ?_
  show own_Go p.tables e below (s₁.setTop (mkF m 5 #[.val (.long hd), .second, .val (.ref a), .val (.int fr), .unset, .unset] [(.int (8 : Int32)), (.int fr), (.int (12 : Int32))])) _
  refine own_by (fun t k => XS.iadd X0.here hx rfl (hb hby d_prog_28_method_9_5) rfl k) ?_
  show own_Go p.tables e below (s₁.setTop (mkF m 6 #[.val (.long hd), .second, .val (.ref a), .val (.int fr), .unset, .unset] [(.int (fr + (8 : Int32))), (.int (12 : Int32))])) _
  obtain ⟨_, _, ⟨T1, L1, k1, n1⟩, -, X1, ⟨Lc1, hQ1, l1, y1, z1⟩, st1⟩ := Jvm.LawKit.callS X0 hx (y := (⟨"java/lang/Math", "min", "(II)I"⟩ : MethodName)) hown (mvT hZ (hw _ (List.mem_of_getElem? (i := 10) rfl))) (mvT hZ (hw _ (List.mem_of_getElem? (i := 11) rfl))) (mvT hZ (hw _ (List.mem_of_getElem? (i := 12) rfl))) (mvT hZ (hw _ (List.mem_of_getElem? (i := 13) rfl))) (by decide) (backOf (W := 0) (rm_min l Z a0 hw [] (12 : Int32) (fr + (8 : Int32))  h0 n0 (Nat.le_trans Z0 (Keep.refl h0 [a]).1) ) hZ (hw _ (List.mem_of_getElem? (i := 13) rfl)) (hw _ (List.mem_of_getElem? (i := 12) rfl)) (by decide) (by decide)) (g := (mkF m 6 #[.val (.long hd), .second, .val (.ref a), .val (.int fr), .unset, .unset] [(.int (fr + (8 : Int32))), (.int (12 : Int32))])) rfl (by rw [hml]; rfl) (argsL := [(.int (12 : Int32)), (.int (fr + (8 : Int32)))]) (rest := []) (lenOf pd_109 rfl) rfl (by show 2 * 0 + _ ≤ _; exact Nat.le_of_eq rfl) (hb hby d_prog_28_method_9_6) (fun _ _ => ⟨rfl, e0, (by decide : 0 + 0 ≤ _), (by decide : 0 + 0 ≤ _)⟩)
  dsimp only [Pt.U, Pt.locs, Pt.cells, Pt.slots] at X1 l1 y1 z1 st1 hQ1
  subst l1 y1 z1
  obtain ⟨en, rfl, N1q, eh1, hen⟩ := hQ1
  have N1 := Fr.app N0 N1q
  refine own_by (st1) ?_
  show own_Go p.tables e below (T1.setTop (mkF m 9 #[.val (.long hd), .second, .val (.ref a), .val (.int fr), .unset, .unset] [(.int en)])) _
  have hen2 : en = Int32.ofNat (own_N F) := own_en hfr hF hen
  refine own_by (fun t k => XS.istore X1.here hx rfl (hb hby d_prog_28_method_9_9) rfl (l' := #[.val (.long hd), .second, .val (.ref a), .val (.int fr), .val (.int en), .unset]) rfl k) ?_
  show own_Go p.tables e below (T1.setTop (mkF m 11 #[.val (.long hd), .second, .val (.ref a), .val (.int fr), .val (.int en), .unset] [])) _
  refine own_by (fun t k => XS.iloadN X1.here hx rfl (hb hby d_prog_28_method_9_11) rfl k) ?_
  show own_Go p.tables e below (T1.setTop (mkF m 12 #[.val (.long hd), .second, .val (.ref a), .val (.int fr), .val (.int en), .unset] [(.int fr)])) _
  refine own_by (fun t k => XS.istore X1.here hx rfl (hb hby d_prog_28_method_9_12) rfl (l' := #[.val (.long hd), .second, .val (.ref a), .val (.int fr), .val (.int en), .val (.int fr)]) rfl k) ?_
  show own_Go p.tables e below (T1.setTop (mkF m 14 #[.val (.long hd), .second, .val (.ref a), .val (.int fr), .val (.int en), .val (.int fr)] [])) _
  have loop : ∀ (k j : Nat) (i : Int32) (T : State) (h : Heap) (locs : List Loc), j + k = own_N F ∧ F ≤ j ∧ i = Int32.ofNat j → Stand p l e ({ frames := 1, cells := 0, slots := 0, locals := 13 } : Room) s m #[(.long hd), (.ref a), (.int fr)] below meth c T locs 0 0 → T.heap = h → Fr n0 locs → Keep h0 h [a] → own_AI Z h a .byte 12 (own_ph hd F f0 j) →  own_Go p.tables e below (T.setTop (mkF m 14 #[.val (.long hd), .second, .val (.ref a), .val (.int fr), .val (.int en), .val (.int i)] [])) (own_Fin below s (Q_rm_ph Z hd a fr F f0 h0 n0) ({ frames := 1, cells := 0, slots := 0, locals := 13 } : Room).cells ({ frames := 1, cells := 0, slots := 0, locals := 13 } : Room).slots) := by
    intro k
    induction k with
    | zero =>
      intro j i T h locs ⟨hj, hFj, hi⟩ X eT NF KK A
      have hge : ¬ i < en := by rw [hi, hen2, show j = own_N F by omega]; exact Int32.lt_irrefl
      refine own_by (fun t k => XS.iload X.here hx rfl (hb hby d_prog_28_method_9_14) rfl k) ?_
      show own_Go p.tables e below (T.setTop (mkF m 16 #[.val (.long hd), .second, .val (.ref a), .val (.int fr), .val (.int en), .val (.int i)] [(.int i)])) _
      refine own_by (fun t k => XS.iload X.here hx rfl (hb hby d_prog_28_method_9_16) rfl k) ?_
      show own_Go p.tables e below (T.setTop (mkF m 18 #[.val (.long hd), .second, .val (.ref a), .val (.int fr), .val (.int en), .val (.int i)] [(.int en), (.int i)])) _
      refine own_by (fun t k => XS.icmpYes X.here hx rfl (pc0 := 18) (pc' := 47) rfl (hb hby d_prog_28_method_9_18) rfl (flt hge).2.1 (by decide) (by decide) k) ?_
      show own_Go p.tables e below (T.setTop (mkF m 47 #[.val (.long hd), .second, .val (.ref a), .val (.int fr), .val (.int en), .val (.int i)] [])) _
      exact own_retV X hx Bd.notSynchronized Bd.returns (hb hby d_prog_28_method_9_47) (by (try rw [eT]); exact ⟨rfl, NF, KK, own_phN A (by omega)⟩) (by decide) (by decide)
    | succ k ih =>
      intro j i T h locs ⟨hj, hFj, hi⟩ X eT NF KK A
      have hN := own_N12 F
      have hlt : i < en := by rw [hi, hen2]; exact own_ltN (by omega) (by omega)
      refine own_by (fun t k => XS.iload X.here hx rfl (hb hby d_prog_28_method_9_14) rfl k) ?_
      show own_Go p.tables e below (T.setTop (mkF m 16 #[.val (.long hd), .second, .val (.ref a), .val (.int fr), .val (.int en), .val (.int i)] [(.int i)])) _
      refine own_by (fun t k => XS.iload X.here hx rfl (hb hby d_prog_28_method_9_16) rfl k) ?_
      show own_Go p.tables e below (T.setTop (mkF m 18 #[.val (.long hd), .second, .val (.ref a), .val (.int fr), .val (.int en), .val (.int i)] [(.int en), (.int i)])) _
      refine own_by (fun t k => XS.icmpNo X.here hx rfl (hb hby d_prog_28_method_9_18) rfl (tlt hlt).2.1 k) ?_
      show own_Go p.tables e below (T.setTop (mkF m 21 #[.val (.long hd), .second, .val (.ref a), .val (.int fr), .val (.int en), .val (.int i)] [])) _
      refine own_by (fun t k => XS.aloadN X.here hx rfl (hb hby d_prog_28_method_9_21) rfl rfl k) ?_
      show own_Go p.tables e below (T.setTop (mkF m 22 #[.val (.long hd), .second, .val (.ref a), .val (.int fr), .val (.int en), .val (.int i)] [(.ref a)])) _
      refine own_by (fun t k => XS.iload X.here hx rfl (hb hby d_prog_28_method_9_22) rfl k) ?_
      show own_Go p.tables e below (T.setTop (mkF m 24 #[.val (.long hd), .second, .val (.ref a), .val (.int fr), .val (.int en), .val (.int i)] [(.int i), (.ref a)])) _
      refine own_by (fun t k => XS.lloadN X.here hx rfl (hb hby d_prog_28_method_9_24) rfl k) ?_
      show own_Go p.tables e below (T.setTop (mkF m 25 #[.val (.long hd), .second, .val (.ref a), .val (.int fr), .val (.int en), .val (.int i)] [(.long hd), (.int i), (.ref a)])) _
      refine own_by (fun t k => XS.bipush X.here hx rfl (hb hby d_prog_28_method_9_25) k) ?_
      show own_Go p.tables e below (T.setTop (mkF m 27 #[.val (.long hd), .second, .val (.ref a), .val (.int fr), .val (.int en), .val (.int i)] [(.int (64 : Int32)), (.long hd), (.int i), (.ref a)])) _
      refine own_by (fun t k => XS.bipush X.here hx rfl (hb hby d_prog_28_method_9_27) k) ?_
      show own_Go p.tables e below (T.setTop (mkF m 29 #[.val (.long hd), .second, .val (.ref a), .val (.int fr), .val (.int en), .val (.int i)] [(.int (8 : Int32)), (.int (64 : Int32)), (.long hd), (.int i), (.ref a)])) _
      refine own_by (fun t k => XS.iload X.here hx rfl (hb hby d_prog_28_method_9_29) rfl k) ?_
      show own_Go p.tables e below (T.setTop (mkF m 31 #[.val (.long hd), .second, .val (.ref a), .val (.int fr), .val (.int en), .val (.int i)] [(.int i), (.int (8 : Int32)), (.int (64 : Int32)), (.long hd), (.int i), (.ref a)])) _
      refine own_by (fun t k => XS.iloadN X.here hx rfl (hb hby d_prog_28_method_9_31) rfl k) ?_
      show own_Go p.tables e below (T.setTop (mkF m 32 #[.val (.long hd), .second, .val (.ref a), .val (.int fr), .val (.int en), .val (.int i)] [(.int fr), (.int i), (.int (8 : Int32)), (.int (64 : Int32)), (.long hd), (.int i), (.ref a)])) _
      refine own_by (fun t k => XS.isub X.here hx rfl (hb hby d_prog_28_method_9_32) rfl k) ?_
      show own_Go p.tables e below (T.setTop (mkF m 33 #[.val (.long hd), .second, .val (.ref a), .val (.int fr), .val (.int en), .val (.int i)] [(.int (i - fr)), (.int (8 : Int32)), (.int (64 : Int32)), (.long hd), (.int i), (.ref a)])) _
      refine own_by (fun t k => XS.iconst X.here hx rfl (hb hby d_prog_28_method_9_33) k) ?_
      show own_Go p.tables e below (T.setTop (mkF m 34 #[.val (.long hd), .second, .val (.ref a), .val (.int fr), .val (.int en), .val (.int i)] [(.int (1 : Int32)), (.int (i - fr)), (.int (8 : Int32)), (.int (64 : Int32)), (.long hd), (.int i), (.ref a)])) _
      refine own_by (fun t k => XS.iadd X.here hx rfl (hb hby d_prog_28_method_9_34) rfl k) ?_
      show own_Go p.tables e below (T.setTop (mkF m 35 #[.val (.long hd), .second, .val (.ref a), .val (.int fr), .val (.int en), .val (.int i)] [(.int ((i - fr) + (1 : Int32))), (.int (8 : Int32)), (.int (64 : Int32)), (.long hd), (.int i), (.ref a)])) _
      refine own_by (fun t k => XS.imul X.here hx rfl (hb hby d_prog_28_method_9_35) rfl k) ?_
      show own_Go p.tables e below (T.setTop (mkF m 36 #[.val (.long hd), .second, .val (.ref a), .val (.int fr), .val (.int en), .val (.int i)] [(.int ((8 : Int32) * ((i - fr) + (1 : Int32)))), (.int (64 : Int32)), (.long hd), (.int i), (.ref a)])) _
      refine own_by (fun t k => XS.isub X.here hx rfl (hb hby d_prog_28_method_9_36) rfl k) ?_
      show own_Go p.tables e below (T.setTop (mkF m 37 #[.val (.long hd), .second, .val (.ref a), .val (.int fr), .val (.int en), .val (.int i)] [(.int ((64 : Int32) - ((8 : Int32) * ((i - fr) + (1 : Int32))))), (.long hd), (.int i), (.ref a)])) _
      refine own_by (fun t k => XS.lushr X.here hx rfl (hb hby d_prog_28_method_9_37) rfl k) ?_
      show own_Go p.tables e below (T.setTop (mkF m 38 #[.val (.long hd), .second, .val (.ref a), .val (.int fr), .val (.int en), .val (.int i)] [(.long ((hd.toUInt64 >>> (((64 : Int32) - ((8 : Int32) * ((i - fr) + (1 : Int32)))) &&& 0x3f).toInt64.toUInt64).toInt64)), (.int i), (.ref a)])) _
      refine own_by (fun t k => XS.l2i X.here hx rfl (hb hby d_prog_28_method_9_38) rfl k) ?_
      show own_Go p.tables e below (T.setTop (mkF m 39 #[.val (.long hd), .second, .val (.ref a), .val (.int fr), .val (.int en), .val (.int i)] [(.int (((hd.toUInt64 >>> (((64 : Int32) - ((8 : Int32) * ((i - fr) + (1 : Int32)))) &&& 0x3f).toInt64.toUInt64).toInt64).toInt32)), (.int i), (.ref a)])) _
      refine own_by (fun t k => XS.i2b X.here hx rfl (hb hby d_prog_28_method_9_39) rfl k) ?_
      show own_Go p.tables e below (T.setTop (mkF m 40 #[.val (.long hd), .second, .val (.ref a), .val (.int fr), .val (.int en), .val (.int i)] [(.int ((((hd.toUInt64 >>> (((64 : Int32) - ((8 : Int32) * ((i - fr) + (1 : Int32)))) &&& 0x3f).toInt64.toUInt64).toInt64).toInt32).toInt8.toInt32)), (.int i), (.ref a)])) _
      obtain ⟨i0, ik⟩ := own_ixN hi (show j < 12 by omega)
      obtain ⟨T2, hea2, X2, e2, W2, V2, st2⟩ := own_stB X hx hZ eT A (j := i) (k := j) i0 ik (by omega) (g := (mkF m 40 #[.val (.long hd), .second, .val (.ref a), .val (.int fr), .val (.int en), .val (.int i)] [(.int ((((hd.toUInt64 >>> (((64 : Int32) - ((8 : Int32) * ((i - fr) + (1 : Int32)))) &&& 0x3f).toInt64.toUInt64).toInt64).toInt32).toInt8.toInt32)), (.int i), (.ref a)])) rfl rfl (hb hby d_prog_28_method_9_40)
      have N2 := Fr.snoc X2 NF g_a
      have K2 : Keep h0 hea2 [a] := KK.wr W2 (Or.inl (List.mem_of_getElem? (i := 0) rfl))
      refine own_by (st2) ?_
      show own_Go p.tables e below (T2.setTop (mkF m 41 #[.val (.long hd), .second, .val (.ref a), .val (.int fr), .val (.int en), .val (.int i)] [])) _
      refine own_by (fun t k => XS.iinc X2.here hx rfl (hb hby d_prog_28_method_9_41) rfl (l' := #[.val (.long hd), .second, .val (.ref a), .val (.int fr), .val (.int en), .val (.int (i + (1 : Int32)))]) rfl k) ?_
      show own_Go p.tables e below (T2.setTop (mkF m 44 #[.val (.long hd), .second, .val (.ref a), .val (.int fr), .val (.int en), .val (.int (i + (1 : Int32)))] [])) _
      refine own_by (fun t k => XS.goto X2.here hx rfl (pc0 := 44) (pc' := 14) rfl (hb hby d_prog_28_method_9_44) (by decide) (by decide) k) ?_
      show own_Go p.tables e below (T2.setTop (mkF m 14 #[.val (.long hd), .second, .val (.ref a), .val (.int fr), .val (.int en), .val (.int (i + (1 : Int32)))] [])) _
      exact ih (j + 1) _ _ _ _ ⟨by omega, by omega, own_succN hi⟩ X2 e2 N2 K2 (own_phS hfr hi hFj (by omega) V2)
  exact loop (own_N F - F) F fr _ _ _ ⟨by have := own_NF hF; omega, Nat.le_refl _, hfr⟩ X1 eh1 N1 (Keep.refl h0 [a]) (own_ph0 A_a)
theorem d_method_4_0 : decode method_4_code 0 = .ok (.iload_n 2, 1) := by decide +kernel
theorem d_method_4_1 : decode method_4_code 1 = .ok (.iload_n 3, 1) := by decide +kernel
theorem d_method_4_2 : decode method_4_code 2 = .ok (.isub, 1) := by decide +kernel
theorem d_method_4_3 : decode method_4_code 3 = .ok (.istore 6, 2) := by decide +kernel
theorem d_method_4_5 : decode method_4_code 5 = .ok (.iload 6, 2) := by decide +kernel
theorem d_method_4_7 : decode method_4_code 7 = .ok (.ifCond .lt 28, 3) := by decide +kernel
theorem d_method_4_35 : decode method_4_code 35 = .ok (.aload_n 1, 1) := by decide +kernel
theorem d_method_4_36 : decode method_4_code 36 = .ok (.iload_n 2, 1) := by decide +kernel
theorem d_method_4_37 : decode method_4_code 37 = .ok (.baload, 1) := by decide +kernel
theorem d_method_4_38 : decode method_4_code 38 = .ok (.istore 7, 2) := by decide +kernel
theorem d_method_4_10 : decode method_4_code 10 = .ok (.iload 6, 2) := by decide +kernel
theorem d_method_4_12 : decode method_4_code 12 = .ok (.bipush 8, 2) := by decide +kernel
theorem d_method_4_14 : decode method_4_code 14 = .ok (.if_icmp .ge 21, 3) := by decide +kernel
theorem d_method_4_17 : decode method_4_code 17 = .ok (.lload 4, 2) := by decide +kernel
theorem d_method_4_19 : decode method_4_code 19 = .ok (.bipush 8, 2) := by decide +kernel
theorem d_method_4_21 : decode method_4_code 21 = .ok (.bipush 7, 2) := by decide +kernel
theorem d_method_4_23 : decode method_4_code 23 = .ok (.iload 6, 2) := by decide +kernel
theorem d_method_4_25 : decode method_4_code 25 = .ok (.isub, 1) := by decide +kernel
theorem d_method_4_26 : decode method_4_code 26 = .ok (.imul, 1) := by decide +kernel
theorem d_method_4_27 : decode method_4_code 27 = .ok (.lshr, 1) := by decide +kernel
theorem d_method_4_28 : decode method_4_code 28 = .ok (.l2i, 1) := by decide +kernel
theorem d_method_4_29 : decode method_4_code 29 = .ok (.i2b, 1) := by decide +kernel
theorem d_method_4_30 : decode method_4_code 30 = .ok (.istore 7, 2) := by decide +kernel
theorem d_method_4_32 : decode method_4_code 32 = .ok (.goto 8, 3) := by decide +kernel
theorem d_method_4_40 : decode method_4_code 40 = .ok (.aload_n 0, 1) := by decide +kernel
theorem d_method_4_41 : decode method_4_code 41 = .ok (.iload_n 2, 1) := by decide +kernel
theorem d_method_4_42 : decode method_4_code 42 = .ok (.baload, 1) := by decide +kernel
theorem d_method_4_43 : decode method_4_code 43 = .ok (.iload 7, 2) := by decide +kernel
theorem d_method_4_45 : decode method_4_code 45 = .ok (.if_icmp .ne 7, 3) := by decide +kernel
theorem d_method_4_48 : decode method_4_code 48 = .ok (.iconst 1, 1) := by decide +kernel
theorem d_method_4_49 : decode method_4_code 49 = .ok (.goto 4, 3) := by decide +kernel
theorem d_method_4_52 : decode method_4_code 52 = .ok (.iconst 0, 1) := by decide +kernel
theorem d_method_4_53 : decode method_4_code 53 = .ok (.ireturn, 1) := by decide +kernel
theorem ef_rm_at (m : MethodId) (a : Addr) (b : Addr) (i : Int32) (fr : Int32) (hd : Int64) : entryFrame m #[(.ref a), (.ref b), (.int i), (.int fr), (.long hd)] 8 = mkF m 0 #[.val (.ref a), .val (.ref b), .val (.int i), .val (.int fr), .val (.long hd), .second, .unset, .unset] [] := by first | (simp [entryFrame, mkF, argsToLocals, Value.category]; done) | rfl
set_option maxRecDepth 65536 in
set_option maxHeartbeats 40000000 in
theorem rm_at (l : Launch) (Z : State) (a0 : Array Value) (hw : ∀ d ∈ tables_1, d.before a0 Z = true) (ws : List Jvm.Cond) (a : Addr) (b : Addr) (i : Int32) (fr : Int32) (hd : Int64) (n : Nat) (fa fb : Nat → Int32) (h0 : Heap) (n0 : Nat) (Z0 : n0 ≤ h0.size) (A_a : own_AI Z h0 a .byte 12 fa) (A_b : own_AI Z h0 b .byte 12 fb) (i0 : ¬ i < 0) (ik : i.toNatClampNeg = n) (hlt : n < 12) :
    MetFree l (⟨"com/example/ordinal/ordinal/KeysPutHeadPinLaw", "at", "([B[BIIJ)Z"⟩ : MethodName) (head1 (Jvm.Cond.code (⟨"com/example/ordinal/ordinal/KeysPutHeadPinLaw", "at", "([B[BIIJ)Z"⟩ : MethodName) method_4_code 8 (some .boolean) :: ws) ({ frames := 0, cells := 0, slots := 0, locals := 0 } : Room)) (fun zA zU => zA = #[(.ref a), (.ref b), (.int i), (.int fr), (.long hd)] ∧ Z.Warmed39 zU.vm ∧ zU.heap = h0) (fun _ _ _ _ _ => True) (fun _ zU zo zW => ∃ zv zL, zo = .returned zv ∧ (own_QI h0 n0 (if (fa n) = own_ex fb hd i fr n then (1 : Int32) else (0 : Int32))) zv zW.heap zL ∧ FrameEnd zU zo zW zL ({ frames := 0, cells := 0, slots := 0, locals := 0 } : Room).cells ({ frames := 0, cells := 0, slots := 0, locals := 0 } : Room).slots) := by
  refine MetFree.of_bodySF (plainFor_of_name pn_95) hisR ?_
  intro p e s m args below meth c s₁ Bd hml0 hP hK
  obtain ⟨rfl, hZ, hh⟩ := hP
  have hx := Bd.exec
  have hby := Bd.bytes
  have hml : c.maxLocals = 8 := hml0
  have hown : s.vm.findClass "com/example/ordinal/ordinal/KeysPutHeadPinLaw" = some m.cls := findClass_of_methodNamed Bd.named
  have hnm := (name_of_methodNamed Bd.named Bd.method).1
  have X0 : Stand p l e ({ frames := 0, cells := 0, slots := 0, locals := 0 } : Room) s m #[(.ref a), (.ref b), (.int i), (.int fr), (.long hd)] below meth c s₁ [] 0 0 := Stand.of_body Bd
  have e0 : s₁.heap = h0 := by rw [← hh, Bd.state]; rfl
  have N0 := Fr.nil n0
  refine own_out (Q := own_QI h0 n0 (if (fa n) = own_ex fb hd i fr n then (1 : Int32) else (0 : Int32))) ?_
  refine own_cast (ef_rm_at m a b i fr hd) ?_
  show own_Go p.tables e below (s₁.setTop (mkF m 0 #[.val (.ref a), .val (.ref b), .val (.int i), .val (.int fr), .val (.long hd), .second, .unset, .unset] [])) _
  refine own_by (fun t k => XS.iloadN X0.here hx rfl (hb hby d_method_4_0) rfl k) ?_
  show own_Go p.tables e below (s₁.setTop (mkF m 1 #[.val (.ref a), .val (.ref b), .val (.int i), .val (.int fr), .val (.long hd), .second, .unset, .unset] [(.int i)])) _
  refine own_by (fun t k => XS.iloadN X0.here hx rfl (hb hby d_method_4_1) rfl k) ?_
  show own_Go p.tables e below (s₁.setTop (mkF m 2 #[.val (.ref a), .val (.ref b), .val (.int i), .val (.int fr), .val (.long hd), .second, .unset, .unset] [(.int fr), (.int i)])) _
  refine own_by (fun t k => XS.isub X0.here hx rfl (hb hby d_method_4_2) rfl k) ?_
  show own_Go p.tables e below (s₁.setTop (mkF m 3 #[.val (.ref a), .val (.ref b), .val (.int i), .val (.int fr), .val (.long hd), .second, .unset, .unset] [(.int (i - fr))])) _
  refine own_by (fun t k => XS.istore X0.here hx rfl (hb hby d_method_4_3) rfl (l' := #[.val (.ref a), .val (.ref b), .val (.int i), .val (.int fr), .val (.long hd), .second, .val (.int (i - fr)), .unset]) rfl k) ?_
  show own_Go p.tables e below (s₁.setTop (mkF m 5 #[.val (.ref a), .val (.ref b), .val (.int i), .val (.int fr), .val (.long hd), .second, .val (.int (i - fr)), .unset] [])) _
  refine own_by (fun t k => XS.iload X0.here hx rfl (hb hby d_method_4_5) rfl k) ?_
  show own_Go p.tables e below (s₁.setTop (mkF m 7 #[.val (.ref a), .val (.ref b), .val (.int i), .val (.int fr), .val (.long hd), .second, .val (.int (i - fr)), .unset] [(.int (i - fr))])) _
  obtain ⟨x, hx_, sj3⟩ : ∃ (x : Int32), x = (if (i - fr) < (0 : Int32) then (fb n) else (if (i - fr) < (8 : Int32) then (((hd >>> (((8 : Int32) * ((7 : Int32) - (i - fr))) &&& 0x3f).toInt64).toInt32).toInt8.toInt32) else (fb n))) ∧ ∀ t, Steps p.tables e below (s₁.setTop (mkF m 40 #[.val (.ref a), .val (.ref b), .val (.int i), .val (.int fr), .val (.long hd), .second, .val (.int (i - fr)), .val (.int x)] [])) t → Steps p.tables e below (s₁.setTop (mkF m 7 #[.val (.ref a), .val (.ref b), .val (.int i), .val (.int fr), .val (.long hd), .second, .val (.int (i - fr)), .unset] [(.int (i - fr))])) t := by
    by_cases j1 : (i - fr) < (0 : Int32)
    · refine ⟨((fb n)), (if_pos j1).symm, fun t k => ?_⟩
      show Steps p.tables e below (s₁.setTop (mkF m 7 #[.val (.ref a), .val (.ref b), .val (.int i), .val (.int fr), .val (.long hd), .second, .val (.int (i - fr)), .unset] [(.int (i - fr))])) _
      refine XS.ifYes X0.here hx rfl (pc0 := 7) (pc' := 35) rfl (hb hby d_method_4_7) rfl ((if0 _ _).trans (tlt j1).1) (by decide) (by decide) ?_
      show Steps p.tables e below (s₁.setTop (mkF m 35 #[.val (.ref a), .val (.ref b), .val (.int i), .val (.int fr), .val (.long hd), .second, .val (.int (i - fr)), .unset] [])) _
      refine XS.aloadN X0.here hx rfl (hb hby d_method_4_35) rfl rfl ?_
      show Steps p.tables e below (s₁.setTop (mkF m 36 #[.val (.ref a), .val (.ref b), .val (.int i), .val (.int fr), .val (.long hd), .second, .val (.int (i - fr)), .unset] [(.ref b)])) _
      refine XS.iloadN X0.here hx rfl (hb hby d_method_4_36) rfl ?_
      show Steps p.tables e below (s₁.setTop (mkF m 37 #[.val (.ref a), .val (.ref b), .val (.int i), .val (.int fr), .val (.long hd), .second, .val (.int (i - fr)), .unset] [(.int i), (.ref b)])) _
      refine own_ldB X0 hx hZ e0 A_b (j := i) (k := n) i0 ik hlt (g := (mkF m 37 #[.val (.ref a), .val (.ref b), .val (.int i), .val (.int fr), .val (.long hd), .second, .val (.int (i - fr)), .unset] [(.int i), (.ref b)])) rfl rfl (hb hby d_method_4_37) _ ?_
      show Steps p.tables e below (s₁.setTop (mkF m 38 #[.val (.ref a), .val (.ref b), .val (.int i), .val (.int fr), .val (.long hd), .second, .val (.int (i - fr)), .unset] [(.int (fb n))])) _
      refine XS.istore X0.here hx rfl (hb hby d_method_4_38) rfl (l' := #[.val (.ref a), .val (.ref b), .val (.int i), .val (.int fr), .val (.long hd), .second, .val (.int (i - fr)), .val (.int (fb n))]) rfl ?_
      show Steps p.tables e below (s₁.setTop (mkF m 40 #[.val (.ref a), .val (.ref b), .val (.int i), .val (.int fr), .val (.long hd), .second, .val (.int (i - fr)), .val (.int (fb n))] [])) _
      exact k
    · by_cases j2 : (i - fr) < (8 : Int32)
      · refine ⟨((((hd >>> (((8 : Int32) * ((7 : Int32) - (i - fr))) &&& 0x3f).toInt64).toInt32).toInt8.toInt32)), ((if_neg j1).trans (if_pos j2)).symm, fun t k => ?_⟩
        show Steps p.tables e below (s₁.setTop (mkF m 7 #[.val (.ref a), .val (.ref b), .val (.int i), .val (.int fr), .val (.long hd), .second, .val (.int (i - fr)), .unset] [(.int (i - fr))])) _
        refine XS.ifNo X0.here hx rfl (hb hby d_method_4_7) rfl ((if0 _ _).trans (flt j1).1) ?_
        show Steps p.tables e below (s₁.setTop (mkF m 10 #[.val (.ref a), .val (.ref b), .val (.int i), .val (.int fr), .val (.long hd), .second, .val (.int (i - fr)), .unset] [])) _
        refine XS.iload X0.here hx rfl (hb hby d_method_4_10) rfl ?_
        show Steps p.tables e below (s₁.setTop (mkF m 12 #[.val (.ref a), .val (.ref b), .val (.int i), .val (.int fr), .val (.long hd), .second, .val (.int (i - fr)), .unset] [(.int (i - fr))])) _
        refine XS.bipush X0.here hx rfl (hb hby d_method_4_12) ?_
        show Steps p.tables e below (s₁.setTop (mkF m 14 #[.val (.ref a), .val (.ref b), .val (.int i), .val (.int fr), .val (.long hd), .second, .val (.int (i - fr)), .unset] [(.int (8 : Int32)), (.int (i - fr))])) _
        refine XS.icmpNo X0.here hx rfl (hb hby d_method_4_14) rfl (tlt j2).2.1 ?_
        show Steps p.tables e below (s₁.setTop (mkF m 17 #[.val (.ref a), .val (.ref b), .val (.int i), .val (.int fr), .val (.long hd), .second, .val (.int (i - fr)), .unset] [])) _
        refine XS.lload X0.here hx rfl (hb hby d_method_4_17) rfl ?_
        show Steps p.tables e below (s₁.setTop (mkF m 19 #[.val (.ref a), .val (.ref b), .val (.int i), .val (.int fr), .val (.long hd), .second, .val (.int (i - fr)), .unset] [(.long hd)])) _
        refine XS.bipush X0.here hx rfl (hb hby d_method_4_19) ?_
        show Steps p.tables e below (s₁.setTop (mkF m 21 #[.val (.ref a), .val (.ref b), .val (.int i), .val (.int fr), .val (.long hd), .second, .val (.int (i - fr)), .unset] [(.int (8 : Int32)), (.long hd)])) _
        refine XS.bipush X0.here hx rfl (hb hby d_method_4_21) ?_
        show Steps p.tables e below (s₁.setTop (mkF m 23 #[.val (.ref a), .val (.ref b), .val (.int i), .val (.int fr), .val (.long hd), .second, .val (.int (i - fr)), .unset] [(.int (7 : Int32)), (.int (8 : Int32)), (.long hd)])) _
        refine XS.iload X0.here hx rfl (hb hby d_method_4_23) rfl ?_
        show Steps p.tables e below (s₁.setTop (mkF m 25 #[.val (.ref a), .val (.ref b), .val (.int i), .val (.int fr), .val (.long hd), .second, .val (.int (i - fr)), .unset] [(.int (i - fr)), (.int (7 : Int32)), (.int (8 : Int32)), (.long hd)])) _
        refine XS.isub X0.here hx rfl (hb hby d_method_4_25) rfl ?_
        show Steps p.tables e below (s₁.setTop (mkF m 26 #[.val (.ref a), .val (.ref b), .val (.int i), .val (.int fr), .val (.long hd), .second, .val (.int (i - fr)), .unset] [(.int ((7 : Int32) - (i - fr))), (.int (8 : Int32)), (.long hd)])) _
        refine XS.imul X0.here hx rfl (hb hby d_method_4_26) rfl ?_
        show Steps p.tables e below (s₁.setTop (mkF m 27 #[.val (.ref a), .val (.ref b), .val (.int i), .val (.int fr), .val (.long hd), .second, .val (.int (i - fr)), .unset] [(.int ((8 : Int32) * ((7 : Int32) - (i - fr)))), (.long hd)])) _
        refine XS.lshr X0.here hx rfl (hb hby d_method_4_27) rfl ?_
        show Steps p.tables e below (s₁.setTop (mkF m 28 #[.val (.ref a), .val (.ref b), .val (.int i), .val (.int fr), .val (.long hd), .second, .val (.int (i - fr)), .unset] [(.long (hd >>> (((8 : Int32) * ((7 : Int32) - (i - fr))) &&& 0x3f).toInt64))])) _
        refine XS.l2i X0.here hx rfl (hb hby d_method_4_28) rfl ?_
        show Steps p.tables e below (s₁.setTop (mkF m 29 #[.val (.ref a), .val (.ref b), .val (.int i), .val (.int fr), .val (.long hd), .second, .val (.int (i - fr)), .unset] [(.int ((hd >>> (((8 : Int32) * ((7 : Int32) - (i - fr))) &&& 0x3f).toInt64).toInt32))])) _
        refine XS.i2b X0.here hx rfl (hb hby d_method_4_29) rfl ?_
        show Steps p.tables e below (s₁.setTop (mkF m 30 #[.val (.ref a), .val (.ref b), .val (.int i), .val (.int fr), .val (.long hd), .second, .val (.int (i - fr)), .unset] [(.int (((hd >>> (((8 : Int32) * ((7 : Int32) - (i - fr))) &&& 0x3f).toInt64).toInt32).toInt8.toInt32))])) _
        refine XS.istore X0.here hx rfl (hb hby d_method_4_30) rfl (l' := #[.val (.ref a), .val (.ref b), .val (.int i), .val (.int fr), .val (.long hd), .second, .val (.int (i - fr)), .val (.int (((hd >>> (((8 : Int32) * ((7 : Int32) - (i - fr))) &&& 0x3f).toInt64).toInt32).toInt8.toInt32))]) rfl ?_
        show Steps p.tables e below (s₁.setTop (mkF m 32 #[.val (.ref a), .val (.ref b), .val (.int i), .val (.int fr), .val (.long hd), .second, .val (.int (i - fr)), .val (.int (((hd >>> (((8 : Int32) * ((7 : Int32) - (i - fr))) &&& 0x3f).toInt64).toInt32).toInt8.toInt32))] [])) _
        refine XS.goto X0.here hx rfl (pc0 := 32) (pc' := 40) rfl (hb hby d_method_4_32) (by decide) (by decide) ?_
        show Steps p.tables e below (s₁.setTop (mkF m 40 #[.val (.ref a), .val (.ref b), .val (.int i), .val (.int fr), .val (.long hd), .second, .val (.int (i - fr)), .val (.int (((hd >>> (((8 : Int32) * ((7 : Int32) - (i - fr))) &&& 0x3f).toInt64).toInt32).toInt8.toInt32))] [])) _
        exact k
      · refine ⟨((fb n)), ((if_neg j1).trans (if_neg j2)).symm, fun t k => ?_⟩
        show Steps p.tables e below (s₁.setTop (mkF m 7 #[.val (.ref a), .val (.ref b), .val (.int i), .val (.int fr), .val (.long hd), .second, .val (.int (i - fr)), .unset] [(.int (i - fr))])) _
        refine XS.ifNo X0.here hx rfl (hb hby d_method_4_7) rfl ((if0 _ _).trans (flt j1).1) ?_
        show Steps p.tables e below (s₁.setTop (mkF m 10 #[.val (.ref a), .val (.ref b), .val (.int i), .val (.int fr), .val (.long hd), .second, .val (.int (i - fr)), .unset] [])) _
        refine XS.iload X0.here hx rfl (hb hby d_method_4_10) rfl ?_
        show Steps p.tables e below (s₁.setTop (mkF m 12 #[.val (.ref a), .val (.ref b), .val (.int i), .val (.int fr), .val (.long hd), .second, .val (.int (i - fr)), .unset] [(.int (i - fr))])) _
        refine XS.bipush X0.here hx rfl (hb hby d_method_4_12) ?_
        show Steps p.tables e below (s₁.setTop (mkF m 14 #[.val (.ref a), .val (.ref b), .val (.int i), .val (.int fr), .val (.long hd), .second, .val (.int (i - fr)), .unset] [(.int (8 : Int32)), (.int (i - fr))])) _
        refine XS.icmpYes X0.here hx rfl (pc0 := 14) (pc' := 35) rfl (hb hby d_method_4_14) rfl (flt j2).2.1 (by decide) (by decide) ?_
        show Steps p.tables e below (s₁.setTop (mkF m 35 #[.val (.ref a), .val (.ref b), .val (.int i), .val (.int fr), .val (.long hd), .second, .val (.int (i - fr)), .unset] [])) _
        refine XS.aloadN X0.here hx rfl (hb hby d_method_4_35) rfl rfl ?_
        show Steps p.tables e below (s₁.setTop (mkF m 36 #[.val (.ref a), .val (.ref b), .val (.int i), .val (.int fr), .val (.long hd), .second, .val (.int (i - fr)), .unset] [(.ref b)])) _
        refine XS.iloadN X0.here hx rfl (hb hby d_method_4_36) rfl ?_
        show Steps p.tables e below (s₁.setTop (mkF m 37 #[.val (.ref a), .val (.ref b), .val (.int i), .val (.int fr), .val (.long hd), .second, .val (.int (i - fr)), .unset] [(.int i), (.ref b)])) _
        refine own_ldB X0 hx hZ e0 A_b (j := i) (k := n) i0 ik hlt (g := (mkF m 37 #[.val (.ref a), .val (.ref b), .val (.int i), .val (.int fr), .val (.long hd), .second, .val (.int (i - fr)), .unset] [(.int i), (.ref b)])) rfl rfl (hb hby d_method_4_37) _ ?_
        show Steps p.tables e below (s₁.setTop (mkF m 38 #[.val (.ref a), .val (.ref b), .val (.int i), .val (.int fr), .val (.long hd), .second, .val (.int (i - fr)), .unset] [(.int (fb n))])) _
        refine XS.istore X0.here hx rfl (hb hby d_method_4_38) rfl (l' := #[.val (.ref a), .val (.ref b), .val (.int i), .val (.int fr), .val (.long hd), .second, .val (.int (i - fr)), .val (.int (fb n))]) rfl ?_
        show Steps p.tables e below (s₁.setTop (mkF m 40 #[.val (.ref a), .val (.ref b), .val (.int i), .val (.int fr), .val (.long hd), .second, .val (.int (i - fr)), .val (.int (fb n))] [])) _
        exact k
  refine own_by (sj3) ?_
  show own_Go p.tables e below (s₁.setTop (mkF m 40 #[.val (.ref a), .val (.ref b), .val (.int i), .val (.int fr), .val (.long hd), .second, .val (.int (i - fr)), .val (.int x)] [])) _
  refine own_by (fun t k => XS.aloadN X0.here hx rfl (hb hby d_method_4_40) rfl rfl k) ?_
  show own_Go p.tables e below (s₁.setTop (mkF m 41 #[.val (.ref a), .val (.ref b), .val (.int i), .val (.int fr), .val (.long hd), .second, .val (.int (i - fr)), .val (.int x)] [(.ref a)])) _
  refine own_by (fun t k => XS.iloadN X0.here hx rfl (hb hby d_method_4_41) rfl k) ?_
  show own_Go p.tables e below (s₁.setTop (mkF m 42 #[.val (.ref a), .val (.ref b), .val (.int i), .val (.int fr), .val (.long hd), .second, .val (.int (i - fr)), .val (.int x)] [(.int i), (.ref a)])) _
  refine own_by (own_ldB X0 hx hZ e0 A_a (j := i) (k := n) i0 ik hlt (g := (mkF m 42 #[.val (.ref a), .val (.ref b), .val (.int i), .val (.int fr), .val (.long hd), .second, .val (.int (i - fr)), .val (.int x)] [(.int i), (.ref a)])) rfl rfl (hb hby d_method_4_42)) ?_
  show own_Go p.tables e below (s₁.setTop (mkF m 43 #[.val (.ref a), .val (.ref b), .val (.int i), .val (.int fr), .val (.long hd), .second, .val (.int (i - fr)), .val (.int x)] [(.int (fa n))])) _
  refine own_by (fun t k => XS.iload X0.here hx rfl (hb hby d_method_4_43) rfl k) ?_
  show own_Go p.tables e below (s₁.setTop (mkF m 45 #[.val (.ref a), .val (.ref b), .val (.int i), .val (.int fr), .val (.long hd), .second, .val (.int (i - fr)), .val (.int x)] [(.int x), (.int (fa n))])) _
  obtain ⟨q, hq, sj5⟩ : ∃ (q : Int32), q = (if (fa n) = x then (1 : Int32) else (0 : Int32)) ∧ ∀ t, Steps p.tables e below (s₁.setTop (mkF m 53 #[.val (.ref a), .val (.ref b), .val (.int i), .val (.int fr), .val (.long hd), .second, .val (.int (i - fr)), .val (.int x)] [(.int q)])) t → Steps p.tables e below (s₁.setTop (mkF m 45 #[.val (.ref a), .val (.ref b), .val (.int i), .val (.int fr), .val (.long hd), .second, .val (.int (i - fr)), .val (.int x)] [(.int x), (.int (fa n))])) t := by
    by_cases j4 : (fa n) = x
    · refine ⟨((1 : Int32)), (if_pos j4).symm, fun t k => ?_⟩
      show Steps p.tables e below (s₁.setTop (mkF m 45 #[.val (.ref a), .val (.ref b), .val (.int i), .val (.int fr), .val (.long hd), .second, .val (.int (i - fr)), .val (.int x)] [(.int x), (.int (fa n))])) _
      refine XS.icmpNo X0.here hx rfl (hb hby d_method_4_45) rfl (teq j4).2 ?_
      show Steps p.tables e below (s₁.setTop (mkF m 48 #[.val (.ref a), .val (.ref b), .val (.int i), .val (.int fr), .val (.long hd), .second, .val (.int (i - fr)), .val (.int x)] [])) _
      refine XS.iconst X0.here hx rfl (hb hby d_method_4_48) ?_
      show Steps p.tables e below (s₁.setTop (mkF m 49 #[.val (.ref a), .val (.ref b), .val (.int i), .val (.int fr), .val (.long hd), .second, .val (.int (i - fr)), .val (.int x)] [(.int (1 : Int32))])) _
      refine XS.goto X0.here hx rfl (pc0 := 49) (pc' := 53) rfl (hb hby d_method_4_49) (by decide) (by decide) ?_
      show Steps p.tables e below (s₁.setTop (mkF m 53 #[.val (.ref a), .val (.ref b), .val (.int i), .val (.int fr), .val (.long hd), .second, .val (.int (i - fr)), .val (.int x)] [(.int (1 : Int32))])) _
      exact k
    · refine ⟨((0 : Int32)), (if_neg j4).symm, fun t k => ?_⟩
      show Steps p.tables e below (s₁.setTop (mkF m 45 #[.val (.ref a), .val (.ref b), .val (.int i), .val (.int fr), .val (.long hd), .second, .val (.int (i - fr)), .val (.int x)] [(.int x), (.int (fa n))])) _
      refine XS.icmpYes X0.here hx rfl (pc0 := 45) (pc' := 52) rfl (hb hby d_method_4_45) rfl (feq j4).2 (by decide) (by decide) ?_
      show Steps p.tables e below (s₁.setTop (mkF m 52 #[.val (.ref a), .val (.ref b), .val (.int i), .val (.int fr), .val (.long hd), .second, .val (.int (i - fr)), .val (.int x)] [])) _
      refine XS.iconst X0.here hx rfl (hb hby d_method_4_52) ?_
      show Steps p.tables e below (s₁.setTop (mkF m 53 #[.val (.ref a), .val (.ref b), .val (.int i), .val (.int fr), .val (.long hd), .second, .val (.int (i - fr)), .val (.int x)] [(.int (0 : Int32))])) _
      exact k
  refine own_by (sj5) ?_
  show own_Go p.tables e below (s₁.setTop (mkF m 53 #[.val (.ref a), .val (.ref b), .val (.int i), .val (.int fr), .val (.long hd), .second, .val (.int (i - fr)), .val (.int x)] [(.int q)])) _
  exact own_retN X0 hx Bd.notSynchronized (t := .boolean) Bd.returns (by simp) (own_nb (by rw [hq]; (repeat' split) <;> first | exact Or.inl rfl | exact Or.inr rfl)) (hb hby d_method_4_53) (by (try rw [e0]); exact ⟨_, rfl, N0, rfl, by rw [hq, hx_]; rfl⟩) (by decide) (by decide)
theorem d_method_5_0 : decode method_5_code 0 = .ok (.aload_n 0, 1) := by decide +kernel
theorem d_method_5_1 : decode method_5_code 1 = .ok (.iload_n 1, 1) := by decide +kernel
theorem d_method_5_2 : decode method_5_code 2 = .ok (.baload, 1) := by decide +kernel
theorem d_method_5_3 : decode method_5_code 3 = .ok (.i2l, 1) := by decide +kernel
theorem d_method_5_4 : decode method_5_code 4 = .ok (.ldc2_w 28, 3) := by decide +kernel
theorem d_method_5_7 : decode method_5_code 7 = .ok (.land, 1) := by decide +kernel
theorem d_method_5_8 : decode method_5_code 8 = .ok (.bipush 56, 2) := by decide +kernel
theorem d_method_5_10 : decode method_5_code 10 = .ok (.lshl, 1) := by decide +kernel
theorem d_method_5_11 : decode method_5_code 11 = .ok (.aload_n 0, 1) := by decide +kernel
theorem d_method_5_12 : decode method_5_code 12 = .ok (.iload_n 1, 1) := by decide +kernel
theorem d_method_5_13 : decode method_5_code 13 = .ok (.iconst 1, 1) := by decide +kernel
theorem d_method_5_14 : decode method_5_code 14 = .ok (.iadd, 1) := by decide +kernel
theorem d_method_5_15 : decode method_5_code 15 = .ok (.baload, 1) := by decide +kernel
theorem d_method_5_16 : decode method_5_code 16 = .ok (.i2l, 1) := by decide +kernel
theorem d_method_5_17 : decode method_5_code 17 = .ok (.ldc2_w 28, 3) := by decide +kernel
theorem d_method_5_20 : decode method_5_code 20 = .ok (.land, 1) := by decide +kernel
theorem d_method_5_21 : decode method_5_code 21 = .ok (.bipush 48, 2) := by decide +kernel
theorem d_method_5_23 : decode method_5_code 23 = .ok (.lshl, 1) := by decide +kernel
theorem d_method_5_24 : decode method_5_code 24 = .ok (.lor, 1) := by decide +kernel
theorem d_method_5_25 : decode method_5_code 25 = .ok (.aload_n 0, 1) := by decide +kernel
theorem d_method_5_26 : decode method_5_code 26 = .ok (.iload_n 1, 1) := by decide +kernel
theorem d_method_5_27 : decode method_5_code 27 = .ok (.iconst 2, 1) := by decide +kernel
theorem d_method_5_28 : decode method_5_code 28 = .ok (.iadd, 1) := by decide +kernel
theorem d_method_5_29 : decode method_5_code 29 = .ok (.baload, 1) := by decide +kernel
theorem d_method_5_30 : decode method_5_code 30 = .ok (.i2l, 1) := by decide +kernel
theorem d_method_5_31 : decode method_5_code 31 = .ok (.ldc2_w 28, 3) := by decide +kernel
theorem d_method_5_34 : decode method_5_code 34 = .ok (.land, 1) := by decide +kernel
theorem d_method_5_35 : decode method_5_code 35 = .ok (.bipush 40, 2) := by decide +kernel
theorem d_method_5_37 : decode method_5_code 37 = .ok (.lshl, 1) := by decide +kernel
theorem d_method_5_38 : decode method_5_code 38 = .ok (.lor, 1) := by decide +kernel
theorem d_method_5_39 : decode method_5_code 39 = .ok (.aload_n 0, 1) := by decide +kernel
theorem d_method_5_40 : decode method_5_code 40 = .ok (.iload_n 1, 1) := by decide +kernel
theorem d_method_5_41 : decode method_5_code 41 = .ok (.iconst 3, 1) := by decide +kernel
theorem d_method_5_42 : decode method_5_code 42 = .ok (.iadd, 1) := by decide +kernel
theorem d_method_5_43 : decode method_5_code 43 = .ok (.baload, 1) := by decide +kernel
theorem d_method_5_44 : decode method_5_code 44 = .ok (.i2l, 1) := by decide +kernel
theorem d_method_5_45 : decode method_5_code 45 = .ok (.ldc2_w 28, 3) := by decide +kernel
theorem d_method_5_48 : decode method_5_code 48 = .ok (.land, 1) := by decide +kernel
theorem d_method_5_49 : decode method_5_code 49 = .ok (.bipush 32, 2) := by decide +kernel
theorem d_method_5_51 : decode method_5_code 51 = .ok (.lshl, 1) := by decide +kernel
theorem d_method_5_52 : decode method_5_code 52 = .ok (.lor, 1) := by decide +kernel
theorem d_method_5_53 : decode method_5_code 53 = .ok (.aload_n 0, 1) := by decide +kernel
theorem d_method_5_54 : decode method_5_code 54 = .ok (.iload_n 1, 1) := by decide +kernel
theorem d_method_5_55 : decode method_5_code 55 = .ok (.iconst 4, 1) := by decide +kernel
theorem d_method_5_56 : decode method_5_code 56 = .ok (.iadd, 1) := by decide +kernel
theorem d_method_5_57 : decode method_5_code 57 = .ok (.baload, 1) := by decide +kernel
theorem d_method_5_58 : decode method_5_code 58 = .ok (.i2l, 1) := by decide +kernel
theorem d_method_5_59 : decode method_5_code 59 = .ok (.ldc2_w 28, 3) := by decide +kernel
theorem d_method_5_62 : decode method_5_code 62 = .ok (.land, 1) := by decide +kernel
theorem d_method_5_63 : decode method_5_code 63 = .ok (.bipush 24, 2) := by decide +kernel
theorem d_method_5_65 : decode method_5_code 65 = .ok (.lshl, 1) := by decide +kernel
theorem d_method_5_66 : decode method_5_code 66 = .ok (.lor, 1) := by decide +kernel
theorem d_method_5_67 : decode method_5_code 67 = .ok (.aload_n 0, 1) := by decide +kernel
theorem d_method_5_68 : decode method_5_code 68 = .ok (.iload_n 1, 1) := by decide +kernel
theorem d_method_5_69 : decode method_5_code 69 = .ok (.iconst 5, 1) := by decide +kernel
theorem d_method_5_70 : decode method_5_code 70 = .ok (.iadd, 1) := by decide +kernel
theorem d_method_5_71 : decode method_5_code 71 = .ok (.baload, 1) := by decide +kernel
theorem d_method_5_72 : decode method_5_code 72 = .ok (.i2l, 1) := by decide +kernel
theorem d_method_5_73 : decode method_5_code 73 = .ok (.ldc2_w 28, 3) := by decide +kernel
theorem d_method_5_76 : decode method_5_code 76 = .ok (.land, 1) := by decide +kernel
theorem d_method_5_77 : decode method_5_code 77 = .ok (.bipush 16, 2) := by decide +kernel
theorem d_method_5_79 : decode method_5_code 79 = .ok (.lshl, 1) := by decide +kernel
theorem d_method_5_80 : decode method_5_code 80 = .ok (.lor, 1) := by decide +kernel
theorem d_method_5_81 : decode method_5_code 81 = .ok (.aload_n 0, 1) := by decide +kernel
theorem d_method_5_82 : decode method_5_code 82 = .ok (.iload_n 1, 1) := by decide +kernel
theorem d_method_5_83 : decode method_5_code 83 = .ok (.bipush 6, 2) := by decide +kernel
theorem d_method_5_85 : decode method_5_code 85 = .ok (.iadd, 1) := by decide +kernel
theorem d_method_5_86 : decode method_5_code 86 = .ok (.baload, 1) := by decide +kernel
theorem d_method_5_87 : decode method_5_code 87 = .ok (.i2l, 1) := by decide +kernel
theorem d_method_5_88 : decode method_5_code 88 = .ok (.ldc2_w 28, 3) := by decide +kernel
theorem d_method_5_91 : decode method_5_code 91 = .ok (.land, 1) := by decide +kernel
theorem d_method_5_92 : decode method_5_code 92 = .ok (.bipush 8, 2) := by decide +kernel
theorem d_method_5_94 : decode method_5_code 94 = .ok (.lshl, 1) := by decide +kernel
theorem d_method_5_95 : decode method_5_code 95 = .ok (.lor, 1) := by decide +kernel
theorem d_method_5_96 : decode method_5_code 96 = .ok (.aload_n 0, 1) := by decide +kernel
theorem d_method_5_97 : decode method_5_code 97 = .ok (.iload_n 1, 1) := by decide +kernel
theorem d_method_5_98 : decode method_5_code 98 = .ok (.bipush 7, 2) := by decide +kernel
theorem d_method_5_100 : decode method_5_code 100 = .ok (.iadd, 1) := by decide +kernel
theorem d_method_5_101 : decode method_5_code 101 = .ok (.baload, 1) := by decide +kernel
theorem d_method_5_102 : decode method_5_code 102 = .ok (.i2l, 1) := by decide +kernel
theorem d_method_5_103 : decode method_5_code 103 = .ok (.ldc2_w 28, 3) := by decide +kernel
theorem d_method_5_106 : decode method_5_code 106 = .ok (.land, 1) := by decide +kernel
theorem d_method_5_107 : decode method_5_code 107 = .ok (.lor, 1) := by decide +kernel
theorem d_method_5_108 : decode method_5_code 108 = .ok (.lreturn, 1) := by decide +kernel
theorem ef_rm_am (m : MethodId) (a : Addr) (fr : Int32) : entryFrame m #[(.ref a), (.int fr)] 2 = mkF m 0 #[.val (.ref a), .val (.int fr)] [] := by first | (simp [entryFrame, mkF, argsToLocals, Value.category]; done) | rfl
set_option maxRecDepth 65536 in
set_option maxHeartbeats 40000000 in
theorem rm_am (l : Launch) (Z : State) (a0 : Array Value) (hw : ∀ d ∈ tables_1, d.before a0 Z = true) (ws : List Jvm.Cond) (a : Addr) (fr : Int32) (F : Nat) (fa : Nat → Int32) (h0 : Heap) (n0 : Nat) (Z0 : n0 ≤ h0.size) (A_a : own_AI Z h0 a .byte 12 fa) (hfr : fr = Int32.ofNat F) (hF : F ≤ 4) :
    MetFree l (⟨"com/example/ordinal/ordinal/KeysPutHeadPinLaw", "assemble", "([BI)J"⟩ : MethodName) (head1 (Jvm.Cond.code (⟨"com/example/ordinal/ordinal/KeysPutHeadPinLaw", "assemble", "([BI)J"⟩ : MethodName) method_5_code 2 (some .long) :: ws) ({ frames := 0, cells := 0, slots := 0, locals := 0 } : Room)) (fun zA zU => zA = #[(.ref a), (.int fr)] ∧ Z.Warmed39 zU.vm ∧ zU.heap = h0) (fun _ _ _ _ _ => True) (fun _ zU zo zW => ∃ zv zL, zo = .returned zv ∧ (own_QJ h0 n0 (own_am fa F)) zv zW.heap zL ∧ FrameEnd zU zo zW zL ({ frames := 0, cells := 0, slots := 0, locals := 0 } : Room).cells ({ frames := 0, cells := 0, slots := 0, locals := 0 } : Room).slots) := by
  refine MetFree.of_bodySF (plainFor_of_name pn_95) hisR ?_
  intro p e s m args below meth c s₁ Bd hml0 hP hK
  obtain ⟨rfl, hZ, hh⟩ := hP
  have hx := Bd.exec
  have hby := Bd.bytes
  have hml : c.maxLocals = 2 := hml0
  have hown : s.vm.findClass "com/example/ordinal/ordinal/KeysPutHeadPinLaw" = some m.cls := findClass_of_methodNamed Bd.named
  have hnm := (name_of_methodNamed Bd.named Bd.method).1
  have X0 : Stand p l e ({ frames := 0, cells := 0, slots := 0, locals := 0 } : Room) s m #[(.ref a), (.int fr)] below meth c s₁ [] 0 0 := Stand.of_body Bd
  have e0 : s₁.heap = h0 := by rw [← hh, Bd.state]; rfl
  have N0 := Fr.nil n0
  refine own_out (Q := own_QJ h0 n0 (own_am fa F)) ?_
  refine own_cast (ef_rm_am m a fr) ?_
  show own_Go p.tables e below (s₁.setTop (mkF m 0 #[.val (.ref a), .val (.int fr)] [])) _
  refine own_by (fun t k => XS.aloadN X0.here hx rfl (hb hby d_method_5_0) rfl rfl k) ?_
  show own_Go p.tables e below (s₁.setTop (mkF m 1 #[.val (.ref a), .val (.int fr)] [(.ref a)])) _
  refine own_by (fun t k => XS.iloadN X0.here hx rfl (hb hby d_method_5_1) rfl k) ?_
  show own_Go p.tables e below (s₁.setTop (mkF m 2 #[.val (.ref a), .val (.int fr)] [(.int fr), (.ref a)])) _
  refine own_by (own_ldB X0 hx hZ e0 A_a (j := fr) (k := F) (own_ix0 hfr hF).1 (own_ix0 hfr hF).2.1 (own_ix0 hfr hF).2.2 (g := (mkF m 2 #[.val (.ref a), .val (.int fr)] [(.int fr), (.ref a)])) rfl rfl (hb hby d_method_5_2)) ?_
  show own_Go p.tables e below (s₁.setTop (mkF m 3 #[.val (.ref a), .val (.int fr)] [(.int (fa F))])) _
  refine own_by (fun t k => XS.i2l X0.here hx rfl (hb hby d_method_5_3) rfl k) ?_
  show own_Go p.tables e below (s₁.setTop (mkF m 4 #[.val (.ref a), .val (.int fr)] [(.long ((fa F).toInt64))])) _
  refine own_by (X0.ldc2Long hx hown (mvT hZ (hw _ (List.mem_of_getElem? (i := 20) rfl))) (g := (mkF m 4 #[.val (.ref a), .val (.int fr)] [(.long ((fa F).toInt64))])) rfl (hb hby d_method_5_4)) ?_
  show own_Go p.tables e below (s₁.setTop (mkF m 7 #[.val (.ref a), .val (.int fr)] [(.long (255 : Int64)), (.long ((fa F).toInt64))])) _
  refine own_by (fun t k => XS.land X0.here hx rfl (hb hby d_method_5_7) rfl k) ?_
  show own_Go p.tables e below (s₁.setTop (mkF m 8 #[.val (.ref a), .val (.int fr)] [(.long (((fa F).toInt64) &&& (255 : Int64)))])) _
  refine own_by (fun t k => XS.bipush X0.here hx rfl (hb hby d_method_5_8) k) ?_
  show own_Go p.tables e below (s₁.setTop (mkF m 10 #[.val (.ref a), .val (.int fr)] [(.int (56 : Int32)), (.long (((fa F).toInt64) &&& (255 : Int64)))])) _
  refine own_by (fun t k => XS.lshl X0.here hx rfl (hb hby d_method_5_10) rfl k) ?_
  show own_Go p.tables e below (s₁.setTop (mkF m 11 #[.val (.ref a), .val (.int fr)] [(.long ((((fa F).toInt64) &&& (255 : Int64)) <<< ((56 : Int32) &&& 0x3f).toInt64))])) _
  refine own_by (fun t k => XS.aloadN X0.here hx rfl (hb hby d_method_5_11) rfl rfl k) ?_
  show own_Go p.tables e below (s₁.setTop (mkF m 12 #[.val (.ref a), .val (.int fr)] [(.ref a), (.long ((((fa F).toInt64) &&& (255 : Int64)) <<< ((56 : Int32) &&& 0x3f).toInt64))])) _
  refine own_by (fun t k => XS.iloadN X0.here hx rfl (hb hby d_method_5_12) rfl k) ?_
  show own_Go p.tables e below (s₁.setTop (mkF m 13 #[.val (.ref a), .val (.int fr)] [(.int fr), (.ref a), (.long ((((fa F).toInt64) &&& (255 : Int64)) <<< ((56 : Int32) &&& 0x3f).toInt64))])) _
  refine own_by (fun t k => XS.iconst X0.here hx rfl (hb hby d_method_5_13) k) ?_
  show own_Go p.tables e below (s₁.setTop (mkF m 14 #[.val (.ref a), .val (.int fr)] [(.int (1 : Int32)), (.int fr), (.ref a), (.long ((((fa F).toInt64) &&& (255 : Int64)) <<< ((56 : Int32) &&& 0x3f).toInt64))])) _
  refine own_by (fun t k => XS.iadd X0.here hx rfl (hb hby d_method_5_14) rfl k) ?_
  show own_Go p.tables e below (s₁.setTop (mkF m 15 #[.val (.ref a), .val (.int fr)] [(.int (fr + (1 : Int32))), (.ref a), (.long ((((fa F).toInt64) &&& (255 : Int64)) <<< ((56 : Int32) &&& 0x3f).toInt64))])) _
  refine own_by (own_ldB X0 hx hZ e0 A_a (j := (fr + (1 : Int32))) (k := (F + 1)) (own_ixl (k := 1) hfr hF (c := 1) (by decide) (by decide)).1 (own_ixl (k := 1) hfr hF (c := 1) (by decide) (by decide)).2.1 (own_ixl (k := 1) hfr hF (c := 1) (by decide) (by decide)).2.2 (g := (mkF m 15 #[.val (.ref a), .val (.int fr)] [(.int (fr + (1 : Int32))), (.ref a), (.long ((((fa F).toInt64) &&& (255 : Int64)) <<< ((56 : Int32) &&& 0x3f).toInt64))])) rfl rfl (hb hby d_method_5_15)) ?_
  show own_Go p.tables e below (s₁.setTop (mkF m 16 #[.val (.ref a), .val (.int fr)] [(.int (fa (F + 1))), (.long ((((fa F).toInt64) &&& (255 : Int64)) <<< ((56 : Int32) &&& 0x3f).toInt64))])) _
  refine own_by (fun t k => XS.i2l X0.here hx rfl (hb hby d_method_5_16) rfl k) ?_
  show own_Go p.tables e below (s₁.setTop (mkF m 17 #[.val (.ref a), .val (.int fr)] [(.long ((fa (F + 1)).toInt64)), (.long ((((fa F).toInt64) &&& (255 : Int64)) <<< ((56 : Int32) &&& 0x3f).toInt64))])) _
  refine own_by (X0.ldc2Long hx hown (mvT hZ (hw _ (List.mem_of_getElem? (i := 20) rfl))) (g := (mkF m 17 #[.val (.ref a), .val (.int fr)] [(.long ((fa (F + 1)).toInt64)), (.long ((((fa F).toInt64) &&& (255 : Int64)) <<< ((56 : Int32) &&& 0x3f).toInt64))])) rfl (hb hby d_method_5_17)) ?_
  show own_Go p.tables e below (s₁.setTop (mkF m 20 #[.val (.ref a), .val (.int fr)] [(.long (255 : Int64)), (.long ((fa (F + 1)).toInt64)), (.long ((((fa F).toInt64) &&& (255 : Int64)) <<< ((56 : Int32) &&& 0x3f).toInt64))])) _
  refine own_by (fun t k => XS.land X0.here hx rfl (hb hby d_method_5_20) rfl k) ?_
  show own_Go p.tables e below (s₁.setTop (mkF m 21 #[.val (.ref a), .val (.int fr)] [(.long (((fa (F + 1)).toInt64) &&& (255 : Int64))), (.long ((((fa F).toInt64) &&& (255 : Int64)) <<< ((56 : Int32) &&& 0x3f).toInt64))])) _
  refine own_by (fun t k => XS.bipush X0.here hx rfl (hb hby d_method_5_21) k) ?_
  show own_Go p.tables e below (s₁.setTop (mkF m 23 #[.val (.ref a), .val (.int fr)] [(.int (48 : Int32)), (.long (((fa (F + 1)).toInt64) &&& (255 : Int64))), (.long ((((fa F).toInt64) &&& (255 : Int64)) <<< ((56 : Int32) &&& 0x3f).toInt64))])) _
  refine own_by (fun t k => XS.lshl X0.here hx rfl (hb hby d_method_5_23) rfl k) ?_
  show own_Go p.tables e below (s₁.setTop (mkF m 24 #[.val (.ref a), .val (.int fr)] [(.long ((((fa (F + 1)).toInt64) &&& (255 : Int64)) <<< ((48 : Int32) &&& 0x3f).toInt64)), (.long ((((fa F).toInt64) &&& (255 : Int64)) <<< ((56 : Int32) &&& 0x3f).toInt64))])) _
  refine own_by (fun t k => XS.lor X0.here hx rfl (hb hby d_method_5_24) rfl k) ?_
  show own_Go p.tables e below (s₁.setTop (mkF m 25 #[.val (.ref a), .val (.int fr)] [(.long (((((fa F).toInt64) &&& (255 : Int64)) <<< ((56 : Int32) &&& 0x3f).toInt64) ||| ((((fa (F + 1)).toInt64) &&& (255 : Int64)) <<< ((48 : Int32) &&& 0x3f).toInt64)))])) _
  refine own_by (fun t k => XS.aloadN X0.here hx rfl (hb hby d_method_5_25) rfl rfl k) ?_
  show own_Go p.tables e below (s₁.setTop (mkF m 26 #[.val (.ref a), .val (.int fr)] [(.ref a), (.long (((((fa F).toInt64) &&& (255 : Int64)) <<< ((56 : Int32) &&& 0x3f).toInt64) ||| ((((fa (F + 1)).toInt64) &&& (255 : Int64)) <<< ((48 : Int32) &&& 0x3f).toInt64)))])) _
  refine own_by (fun t k => XS.iloadN X0.here hx rfl (hb hby d_method_5_26) rfl k) ?_
  show own_Go p.tables e below (s₁.setTop (mkF m 27 #[.val (.ref a), .val (.int fr)] [(.int fr), (.ref a), (.long (((((fa F).toInt64) &&& (255 : Int64)) <<< ((56 : Int32) &&& 0x3f).toInt64) ||| ((((fa (F + 1)).toInt64) &&& (255 : Int64)) <<< ((48 : Int32) &&& 0x3f).toInt64)))])) _
  refine own_by (fun t k => XS.iconst X0.here hx rfl (hb hby d_method_5_27) k) ?_
  show own_Go p.tables e below (s₁.setTop (mkF m 28 #[.val (.ref a), .val (.int fr)] [(.int (2 : Int32)), (.int fr), (.ref a), (.long (((((fa F).toInt64) &&& (255 : Int64)) <<< ((56 : Int32) &&& 0x3f).toInt64) ||| ((((fa (F + 1)).toInt64) &&& (255 : Int64)) <<< ((48 : Int32) &&& 0x3f).toInt64)))])) _
  refine own_by (fun t k => XS.iadd X0.here hx rfl (hb hby d_method_5_28) rfl k) ?_
  show own_Go p.tables e below (s₁.setTop (mkF m 29 #[.val (.ref a), .val (.int fr)] [(.int (fr + (2 : Int32))), (.ref a), (.long (((((fa F).toInt64) &&& (255 : Int64)) <<< ((56 : Int32) &&& 0x3f).toInt64) ||| ((((fa (F + 1)).toInt64) &&& (255 : Int64)) <<< ((48 : Int32) &&& 0x3f).toInt64)))])) _
  refine own_by (own_ldB X0 hx hZ e0 A_a (j := (fr + (2 : Int32))) (k := (F + 2)) (own_ixl (k := 2) hfr hF (c := 2) (by decide) (by decide)).1 (own_ixl (k := 2) hfr hF (c := 2) (by decide) (by decide)).2.1 (own_ixl (k := 2) hfr hF (c := 2) (by decide) (by decide)).2.2 (g := (mkF m 29 #[.val (.ref a), .val (.int fr)] [(.int (fr + (2 : Int32))), (.ref a), (.long (((((fa F).toInt64) &&& (255 : Int64)) <<< ((56 : Int32) &&& 0x3f).toInt64) ||| ((((fa (F + 1)).toInt64) &&& (255 : Int64)) <<< ((48 : Int32) &&& 0x3f).toInt64)))])) rfl rfl (hb hby d_method_5_29)) ?_
  show own_Go p.tables e below (s₁.setTop (mkF m 30 #[.val (.ref a), .val (.int fr)] [(.int (fa (F + 2))), (.long (((((fa F).toInt64) &&& (255 : Int64)) <<< ((56 : Int32) &&& 0x3f).toInt64) ||| ((((fa (F + 1)).toInt64) &&& (255 : Int64)) <<< ((48 : Int32) &&& 0x3f).toInt64)))])) _
  refine own_by (fun t k => XS.i2l X0.here hx rfl (hb hby d_method_5_30) rfl k) ?_
  show own_Go p.tables e below (s₁.setTop (mkF m 31 #[.val (.ref a), .val (.int fr)] [(.long ((fa (F + 2)).toInt64)), (.long (((((fa F).toInt64) &&& (255 : Int64)) <<< ((56 : Int32) &&& 0x3f).toInt64) ||| ((((fa (F + 1)).toInt64) &&& (255 : Int64)) <<< ((48 : Int32) &&& 0x3f).toInt64)))])) _
  refine own_by (X0.ldc2Long hx hown (mvT hZ (hw _ (List.mem_of_getElem? (i := 20) rfl))) (g := (mkF m 31 #[.val (.ref a), .val (.int fr)] [(.long ((fa (F + 2)).toInt64)), (.long (((((fa F).toInt64) &&& (255 : Int64)) <<< ((56 : Int32) &&& 0x3f).toInt64) ||| ((((fa (F + 1)).toInt64) &&& (255 : Int64)) <<< ((48 : Int32) &&& 0x3f).toInt64)))])) rfl (hb hby d_method_5_31)) ?_
  show own_Go p.tables e below (s₁.setTop (mkF m 34 #[.val (.ref a), .val (.int fr)] [(.long (255 : Int64)), (.long ((fa (F + 2)).toInt64)), (.long (((((fa F).toInt64) &&& (255 : Int64)) <<< ((56 : Int32) &&& 0x3f).toInt64) ||| ((((fa (F + 1)).toInt64) &&& (255 : Int64)) <<< ((48 : Int32) &&& 0x3f).toInt64)))])) _
  refine own_by (fun t k => XS.land X0.here hx rfl (hb hby d_method_5_34) rfl k) ?_
  show own_Go p.tables e below (s₁.setTop (mkF m 35 #[.val (.ref a), .val (.int fr)] [(.long (((fa (F + 2)).toInt64) &&& (255 : Int64))), (.long (((((fa F).toInt64) &&& (255 : Int64)) <<< ((56 : Int32) &&& 0x3f).toInt64) ||| ((((fa (F + 1)).toInt64) &&& (255 : Int64)) <<< ((48 : Int32) &&& 0x3f).toInt64)))])) _
  refine own_by (fun t k => XS.bipush X0.here hx rfl (hb hby d_method_5_35) k) ?_
  show own_Go p.tables e below (s₁.setTop (mkF m 37 #[.val (.ref a), .val (.int fr)] [(.int (40 : Int32)), (.long (((fa (F + 2)).toInt64) &&& (255 : Int64))), (.long (((((fa F).toInt64) &&& (255 : Int64)) <<< ((56 : Int32) &&& 0x3f).toInt64) ||| ((((fa (F + 1)).toInt64) &&& (255 : Int64)) <<< ((48 : Int32) &&& 0x3f).toInt64)))])) _
  refine own_by (fun t k => XS.lshl X0.here hx rfl (hb hby d_method_5_37) rfl k) ?_
  show own_Go p.tables e below (s₁.setTop (mkF m 38 #[.val (.ref a), .val (.int fr)] [(.long ((((fa (F + 2)).toInt64) &&& (255 : Int64)) <<< ((40 : Int32) &&& 0x3f).toInt64)), (.long (((((fa F).toInt64) &&& (255 : Int64)) <<< ((56 : Int32) &&& 0x3f).toInt64) ||| ((((fa (F + 1)).toInt64) &&& (255 : Int64)) <<< ((48 : Int32) &&& 0x3f).toInt64)))])) _
  refine own_by (fun t k => XS.lor X0.here hx rfl (hb hby d_method_5_38) rfl k) ?_
  show own_Go p.tables e below (s₁.setTop (mkF m 39 #[.val (.ref a), .val (.int fr)] [(.long ((((((fa F).toInt64) &&& (255 : Int64)) <<< ((56 : Int32) &&& 0x3f).toInt64) ||| ((((fa (F + 1)).toInt64) &&& (255 : Int64)) <<< ((48 : Int32) &&& 0x3f).toInt64)) ||| ((((fa (F + 2)).toInt64) &&& (255 : Int64)) <<< ((40 : Int32) &&& 0x3f).toInt64)))])) _
  refine own_by (fun t k => XS.aloadN X0.here hx rfl (hb hby d_method_5_39) rfl rfl k) ?_
  show own_Go p.tables e below (s₁.setTop (mkF m 40 #[.val (.ref a), .val (.int fr)] [(.ref a), (.long ((((((fa F).toInt64) &&& (255 : Int64)) <<< ((56 : Int32) &&& 0x3f).toInt64) ||| ((((fa (F + 1)).toInt64) &&& (255 : Int64)) <<< ((48 : Int32) &&& 0x3f).toInt64)) ||| ((((fa (F + 2)).toInt64) &&& (255 : Int64)) <<< ((40 : Int32) &&& 0x3f).toInt64)))])) _
  refine own_by (fun t k => XS.iloadN X0.here hx rfl (hb hby d_method_5_40) rfl k) ?_
  show own_Go p.tables e below (s₁.setTop (mkF m 41 #[.val (.ref a), .val (.int fr)] [(.int fr), (.ref a), (.long ((((((fa F).toInt64) &&& (255 : Int64)) <<< ((56 : Int32) &&& 0x3f).toInt64) ||| ((((fa (F + 1)).toInt64) &&& (255 : Int64)) <<< ((48 : Int32) &&& 0x3f).toInt64)) ||| ((((fa (F + 2)).toInt64) &&& (255 : Int64)) <<< ((40 : Int32) &&& 0x3f).toInt64)))])) _
  refine own_by (fun t k => XS.iconst X0.here hx rfl (hb hby d_method_5_41) k) ?_
  show own_Go p.tables e below (s₁.setTop (mkF m 42 #[.val (.ref a), .val (.int fr)] [(.int (3 : Int32)), (.int fr), (.ref a), (.long ((((((fa F).toInt64) &&& (255 : Int64)) <<< ((56 : Int32) &&& 0x3f).toInt64) ||| ((((fa (F + 1)).toInt64) &&& (255 : Int64)) <<< ((48 : Int32) &&& 0x3f).toInt64)) ||| ((((fa (F + 2)).toInt64) &&& (255 : Int64)) <<< ((40 : Int32) &&& 0x3f).toInt64)))])) _
  refine own_by (fun t k => XS.iadd X0.here hx rfl (hb hby d_method_5_42) rfl k) ?_
  show own_Go p.tables e below (s₁.setTop (mkF m 43 #[.val (.ref a), .val (.int fr)] [(.int (fr + (3 : Int32))), (.ref a), (.long ((((((fa F).toInt64) &&& (255 : Int64)) <<< ((56 : Int32) &&& 0x3f).toInt64) ||| ((((fa (F + 1)).toInt64) &&& (255 : Int64)) <<< ((48 : Int32) &&& 0x3f).toInt64)) ||| ((((fa (F + 2)).toInt64) &&& (255 : Int64)) <<< ((40 : Int32) &&& 0x3f).toInt64)))])) _
  refine own_by (own_ldB X0 hx hZ e0 A_a (j := (fr + (3 : Int32))) (k := (F + 3)) (own_ixl (k := 3) hfr hF (c := 3) (by decide) (by decide)).1 (own_ixl (k := 3) hfr hF (c := 3) (by decide) (by decide)).2.1 (own_ixl (k := 3) hfr hF (c := 3) (by decide) (by decide)).2.2 (g := (mkF m 43 #[.val (.ref a), .val (.int fr)] [(.int (fr + (3 : Int32))), (.ref a), (.long ((((((fa F).toInt64) &&& (255 : Int64)) <<< ((56 : Int32) &&& 0x3f).toInt64) ||| ((((fa (F + 1)).toInt64) &&& (255 : Int64)) <<< ((48 : Int32) &&& 0x3f).toInt64)) ||| ((((fa (F + 2)).toInt64) &&& (255 : Int64)) <<< ((40 : Int32) &&& 0x3f).toInt64)))])) rfl rfl (hb hby d_method_5_43)) ?_
  show own_Go p.tables e below (s₁.setTop (mkF m 44 #[.val (.ref a), .val (.int fr)] [(.int (fa (F + 3))), (.long ((((((fa F).toInt64) &&& (255 : Int64)) <<< ((56 : Int32) &&& 0x3f).toInt64) ||| ((((fa (F + 1)).toInt64) &&& (255 : Int64)) <<< ((48 : Int32) &&& 0x3f).toInt64)) ||| ((((fa (F + 2)).toInt64) &&& (255 : Int64)) <<< ((40 : Int32) &&& 0x3f).toInt64)))])) _
  refine own_by (fun t k => XS.i2l X0.here hx rfl (hb hby d_method_5_44) rfl k) ?_
  show own_Go p.tables e below (s₁.setTop (mkF m 45 #[.val (.ref a), .val (.int fr)] [(.long ((fa (F + 3)).toInt64)), (.long ((((((fa F).toInt64) &&& (255 : Int64)) <<< ((56 : Int32) &&& 0x3f).toInt64) ||| ((((fa (F + 1)).toInt64) &&& (255 : Int64)) <<< ((48 : Int32) &&& 0x3f).toInt64)) ||| ((((fa (F + 2)).toInt64) &&& (255 : Int64)) <<< ((40 : Int32) &&& 0x3f).toInt64)))])) _
  refine own_by (X0.ldc2Long hx hown (mvT hZ (hw _ (List.mem_of_getElem? (i := 20) rfl))) (g := (mkF m 45 #[.val (.ref a), .val (.int fr)] [(.long ((fa (F + 3)).toInt64)), (.long ((((((fa F).toInt64) &&& (255 : Int64)) <<< ((56 : Int32) &&& 0x3f).toInt64) ||| ((((fa (F + 1)).toInt64) &&& (255 : Int64)) <<< ((48 : Int32) &&& 0x3f).toInt64)) ||| ((((fa (F + 2)).toInt64) &&& (255 : Int64)) <<< ((40 : Int32) &&& 0x3f).toInt64)))])) rfl (hb hby d_method_5_45)) ?_
  show own_Go p.tables e below (s₁.setTop (mkF m 48 #[.val (.ref a), .val (.int fr)] [(.long (255 : Int64)), (.long ((fa (F + 3)).toInt64)), (.long ((((((fa F).toInt64) &&& (255 : Int64)) <<< ((56 : Int32) &&& 0x3f).toInt64) ||| ((((fa (F + 1)).toInt64) &&& (255 : Int64)) <<< ((48 : Int32) &&& 0x3f).toInt64)) ||| ((((fa (F + 2)).toInt64) &&& (255 : Int64)) <<< ((40 : Int32) &&& 0x3f).toInt64)))])) _
  refine own_by (fun t k => XS.land X0.here hx rfl (hb hby d_method_5_48) rfl k) ?_
  show own_Go p.tables e below (s₁.setTop (mkF m 49 #[.val (.ref a), .val (.int fr)] [(.long (((fa (F + 3)).toInt64) &&& (255 : Int64))), (.long ((((((fa F).toInt64) &&& (255 : Int64)) <<< ((56 : Int32) &&& 0x3f).toInt64) ||| ((((fa (F + 1)).toInt64) &&& (255 : Int64)) <<< ((48 : Int32) &&& 0x3f).toInt64)) ||| ((((fa (F + 2)).toInt64) &&& (255 : Int64)) <<< ((40 : Int32) &&& 0x3f).toInt64)))])) _
  refine own_by (fun t k => XS.bipush X0.here hx rfl (hb hby d_method_5_49) k) ?_
  show own_Go p.tables e below (s₁.setTop (mkF m 51 #[.val (.ref a), .val (.int fr)] [(.int (32 : Int32)), (.long (((fa (F + 3)).toInt64) &&& (255 : Int64))), (.long ((((((fa F).toInt64) &&& (255 : Int64)) <<< ((56 : Int32) &&& 0x3f).toInt64) ||| ((((fa (F + 1)).toInt64) &&& (255 : Int64)) <<< ((48 : Int32) &&& 0x3f).toInt64)) ||| ((((fa (F + 2)).toInt64) &&& (255 : Int64)) <<< ((40 : Int32) &&& 0x3f).toInt64)))])) _
  refine own_by (fun t k => XS.lshl X0.here hx rfl (hb hby d_method_5_51) rfl k) ?_
  show own_Go p.tables e below (s₁.setTop (mkF m 52 #[.val (.ref a), .val (.int fr)] [(.long ((((fa (F + 3)).toInt64) &&& (255 : Int64)) <<< ((32 : Int32) &&& 0x3f).toInt64)), (.long ((((((fa F).toInt64) &&& (255 : Int64)) <<< ((56 : Int32) &&& 0x3f).toInt64) ||| ((((fa (F + 1)).toInt64) &&& (255 : Int64)) <<< ((48 : Int32) &&& 0x3f).toInt64)) ||| ((((fa (F + 2)).toInt64) &&& (255 : Int64)) <<< ((40 : Int32) &&& 0x3f).toInt64)))])) _
  refine own_by (fun t k => XS.lor X0.here hx rfl (hb hby d_method_5_52) rfl k) ?_
  show own_Go p.tables e below (s₁.setTop (mkF m 53 #[.val (.ref a), .val (.int fr)] [(.long (((((((fa F).toInt64) &&& (255 : Int64)) <<< ((56 : Int32) &&& 0x3f).toInt64) ||| ((((fa (F + 1)).toInt64) &&& (255 : Int64)) <<< ((48 : Int32) &&& 0x3f).toInt64)) ||| ((((fa (F + 2)).toInt64) &&& (255 : Int64)) <<< ((40 : Int32) &&& 0x3f).toInt64)) ||| ((((fa (F + 3)).toInt64) &&& (255 : Int64)) <<< ((32 : Int32) &&& 0x3f).toInt64)))])) _
  refine own_by (fun t k => XS.aloadN X0.here hx rfl (hb hby d_method_5_53) rfl rfl k) ?_
  show own_Go p.tables e below (s₁.setTop (mkF m 54 #[.val (.ref a), .val (.int fr)] [(.ref a), (.long (((((((fa F).toInt64) &&& (255 : Int64)) <<< ((56 : Int32) &&& 0x3f).toInt64) ||| ((((fa (F + 1)).toInt64) &&& (255 : Int64)) <<< ((48 : Int32) &&& 0x3f).toInt64)) ||| ((((fa (F + 2)).toInt64) &&& (255 : Int64)) <<< ((40 : Int32) &&& 0x3f).toInt64)) ||| ((((fa (F + 3)).toInt64) &&& (255 : Int64)) <<< ((32 : Int32) &&& 0x3f).toInt64)))])) _
  refine own_by (fun t k => XS.iloadN X0.here hx rfl (hb hby d_method_5_54) rfl k) ?_
  show own_Go p.tables e below (s₁.setTop (mkF m 55 #[.val (.ref a), .val (.int fr)] [(.int fr), (.ref a), (.long (((((((fa F).toInt64) &&& (255 : Int64)) <<< ((56 : Int32) &&& 0x3f).toInt64) ||| ((((fa (F + 1)).toInt64) &&& (255 : Int64)) <<< ((48 : Int32) &&& 0x3f).toInt64)) ||| ((((fa (F + 2)).toInt64) &&& (255 : Int64)) <<< ((40 : Int32) &&& 0x3f).toInt64)) ||| ((((fa (F + 3)).toInt64) &&& (255 : Int64)) <<< ((32 : Int32) &&& 0x3f).toInt64)))])) _
  refine own_by (fun t k => XS.iconst X0.here hx rfl (hb hby d_method_5_55) k) ?_
  show own_Go p.tables e below (s₁.setTop (mkF m 56 #[.val (.ref a), .val (.int fr)] [(.int (4 : Int32)), (.int fr), (.ref a), (.long (((((((fa F).toInt64) &&& (255 : Int64)) <<< ((56 : Int32) &&& 0x3f).toInt64) ||| ((((fa (F + 1)).toInt64) &&& (255 : Int64)) <<< ((48 : Int32) &&& 0x3f).toInt64)) ||| ((((fa (F + 2)).toInt64) &&& (255 : Int64)) <<< ((40 : Int32) &&& 0x3f).toInt64)) ||| ((((fa (F + 3)).toInt64) &&& (255 : Int64)) <<< ((32 : Int32) &&& 0x3f).toInt64)))])) _
  refine own_by (fun t k => XS.iadd X0.here hx rfl (hb hby d_method_5_56) rfl k) ?_
  show own_Go p.tables e below (s₁.setTop (mkF m 57 #[.val (.ref a), .val (.int fr)] [(.int (fr + (4 : Int32))), (.ref a), (.long (((((((fa F).toInt64) &&& (255 : Int64)) <<< ((56 : Int32) &&& 0x3f).toInt64) ||| ((((fa (F + 1)).toInt64) &&& (255 : Int64)) <<< ((48 : Int32) &&& 0x3f).toInt64)) ||| ((((fa (F + 2)).toInt64) &&& (255 : Int64)) <<< ((40 : Int32) &&& 0x3f).toInt64)) ||| ((((fa (F + 3)).toInt64) &&& (255 : Int64)) <<< ((32 : Int32) &&& 0x3f).toInt64)))])) _
  refine own_by (own_ldB X0 hx hZ e0 A_a (j := (fr + (4 : Int32))) (k := (F + 4)) (own_ixl (k := 4) hfr hF (c := 4) (by decide) (by decide)).1 (own_ixl (k := 4) hfr hF (c := 4) (by decide) (by decide)).2.1 (own_ixl (k := 4) hfr hF (c := 4) (by decide) (by decide)).2.2 (g := (mkF m 57 #[.val (.ref a), .val (.int fr)] [(.int (fr + (4 : Int32))), (.ref a), (.long (((((((fa F).toInt64) &&& (255 : Int64)) <<< ((56 : Int32) &&& 0x3f).toInt64) ||| ((((fa (F + 1)).toInt64) &&& (255 : Int64)) <<< ((48 : Int32) &&& 0x3f).toInt64)) ||| ((((fa (F + 2)).toInt64) &&& (255 : Int64)) <<< ((40 : Int32) &&& 0x3f).toInt64)) ||| ((((fa (F + 3)).toInt64) &&& (255 : Int64)) <<< ((32 : Int32) &&& 0x3f).toInt64)))])) rfl rfl (hb hby d_method_5_57)) ?_
  show own_Go p.tables e below (s₁.setTop (mkF m 58 #[.val (.ref a), .val (.int fr)] [(.int (fa (F + 4))), (.long (((((((fa F).toInt64) &&& (255 : Int64)) <<< ((56 : Int32) &&& 0x3f).toInt64) ||| ((((fa (F + 1)).toInt64) &&& (255 : Int64)) <<< ((48 : Int32) &&& 0x3f).toInt64)) ||| ((((fa (F + 2)).toInt64) &&& (255 : Int64)) <<< ((40 : Int32) &&& 0x3f).toInt64)) ||| ((((fa (F + 3)).toInt64) &&& (255 : Int64)) <<< ((32 : Int32) &&& 0x3f).toInt64)))])) _
  refine own_by (fun t k => XS.i2l X0.here hx rfl (hb hby d_method_5_58) rfl k) ?_
  show own_Go p.tables e below (s₁.setTop (mkF m 59 #[.val (.ref a), .val (.int fr)] [(.long ((fa (F + 4)).toInt64)), (.long (((((((fa F).toInt64) &&& (255 : Int64)) <<< ((56 : Int32) &&& 0x3f).toInt64) ||| ((((fa (F + 1)).toInt64) &&& (255 : Int64)) <<< ((48 : Int32) &&& 0x3f).toInt64)) ||| ((((fa (F + 2)).toInt64) &&& (255 : Int64)) <<< ((40 : Int32) &&& 0x3f).toInt64)) ||| ((((fa (F + 3)).toInt64) &&& (255 : Int64)) <<< ((32 : Int32) &&& 0x3f).toInt64)))])) _
  refine own_by (X0.ldc2Long hx hown (mvT hZ (hw _ (List.mem_of_getElem? (i := 20) rfl))) (g := (mkF m 59 #[.val (.ref a), .val (.int fr)] [(.long ((fa (F + 4)).toInt64)), (.long (((((((fa F).toInt64) &&& (255 : Int64)) <<< ((56 : Int32) &&& 0x3f).toInt64) ||| ((((fa (F + 1)).toInt64) &&& (255 : Int64)) <<< ((48 : Int32) &&& 0x3f).toInt64)) ||| ((((fa (F + 2)).toInt64) &&& (255 : Int64)) <<< ((40 : Int32) &&& 0x3f).toInt64)) ||| ((((fa (F + 3)).toInt64) &&& (255 : Int64)) <<< ((32 : Int32) &&& 0x3f).toInt64)))])) rfl (hb hby d_method_5_59)) ?_
  show own_Go p.tables e below (s₁.setTop (mkF m 62 #[.val (.ref a), .val (.int fr)] [(.long (255 : Int64)), (.long ((fa (F + 4)).toInt64)), (.long (((((((fa F).toInt64) &&& (255 : Int64)) <<< ((56 : Int32) &&& 0x3f).toInt64) ||| ((((fa (F + 1)).toInt64) &&& (255 : Int64)) <<< ((48 : Int32) &&& 0x3f).toInt64)) ||| ((((fa (F + 2)).toInt64) &&& (255 : Int64)) <<< ((40 : Int32) &&& 0x3f).toInt64)) ||| ((((fa (F + 3)).toInt64) &&& (255 : Int64)) <<< ((32 : Int32) &&& 0x3f).toInt64)))])) _
  refine own_by (fun t k => XS.land X0.here hx rfl (hb hby d_method_5_62) rfl k) ?_
  show own_Go p.tables e below (s₁.setTop (mkF m 63 #[.val (.ref a), .val (.int fr)] [(.long (((fa (F + 4)).toInt64) &&& (255 : Int64))), (.long (((((((fa F).toInt64) &&& (255 : Int64)) <<< ((56 : Int32) &&& 0x3f).toInt64) ||| ((((fa (F + 1)).toInt64) &&& (255 : Int64)) <<< ((48 : Int32) &&& 0x3f).toInt64)) ||| ((((fa (F + 2)).toInt64) &&& (255 : Int64)) <<< ((40 : Int32) &&& 0x3f).toInt64)) ||| ((((fa (F + 3)).toInt64) &&& (255 : Int64)) <<< ((32 : Int32) &&& 0x3f).toInt64)))])) _
  refine own_by (fun t k => XS.bipush X0.here hx rfl (hb hby d_method_5_63) k) ?_
  show own_Go p.tables e below (s₁.setTop (mkF m 65 #[.val (.ref a), .val (.int fr)] [(.int (24 : Int32)), (.long (((fa (F + 4)).toInt64) &&& (255 : Int64))), (.long (((((((fa F).toInt64) &&& (255 : Int64)) <<< ((56 : Int32) &&& 0x3f).toInt64) ||| ((((fa (F + 1)).toInt64) &&& (255 : Int64)) <<< ((48 : Int32) &&& 0x3f).toInt64)) ||| ((((fa (F + 2)).toInt64) &&& (255 : Int64)) <<< ((40 : Int32) &&& 0x3f).toInt64)) ||| ((((fa (F + 3)).toInt64) &&& (255 : Int64)) <<< ((32 : Int32) &&& 0x3f).toInt64)))])) _
  refine own_by (fun t k => XS.lshl X0.here hx rfl (hb hby d_method_5_65) rfl k) ?_
  show own_Go p.tables e below (s₁.setTop (mkF m 66 #[.val (.ref a), .val (.int fr)] [(.long ((((fa (F + 4)).toInt64) &&& (255 : Int64)) <<< ((24 : Int32) &&& 0x3f).toInt64)), (.long (((((((fa F).toInt64) &&& (255 : Int64)) <<< ((56 : Int32) &&& 0x3f).toInt64) ||| ((((fa (F + 1)).toInt64) &&& (255 : Int64)) <<< ((48 : Int32) &&& 0x3f).toInt64)) ||| ((((fa (F + 2)).toInt64) &&& (255 : Int64)) <<< ((40 : Int32) &&& 0x3f).toInt64)) ||| ((((fa (F + 3)).toInt64) &&& (255 : Int64)) <<< ((32 : Int32) &&& 0x3f).toInt64)))])) _
  refine own_by (fun t k => XS.lor X0.here hx rfl (hb hby d_method_5_66) rfl k) ?_
  show own_Go p.tables e below (s₁.setTop (mkF m 67 #[.val (.ref a), .val (.int fr)] [(.long ((((((((fa F).toInt64) &&& (255 : Int64)) <<< ((56 : Int32) &&& 0x3f).toInt64) ||| ((((fa (F + 1)).toInt64) &&& (255 : Int64)) <<< ((48 : Int32) &&& 0x3f).toInt64)) ||| ((((fa (F + 2)).toInt64) &&& (255 : Int64)) <<< ((40 : Int32) &&& 0x3f).toInt64)) ||| ((((fa (F + 3)).toInt64) &&& (255 : Int64)) <<< ((32 : Int32) &&& 0x3f).toInt64)) ||| ((((fa (F + 4)).toInt64) &&& (255 : Int64)) <<< ((24 : Int32) &&& 0x3f).toInt64)))])) _
  refine own_by (fun t k => XS.aloadN X0.here hx rfl (hb hby d_method_5_67) rfl rfl k) ?_
  show own_Go p.tables e below (s₁.setTop (mkF m 68 #[.val (.ref a), .val (.int fr)] [(.ref a), (.long ((((((((fa F).toInt64) &&& (255 : Int64)) <<< ((56 : Int32) &&& 0x3f).toInt64) ||| ((((fa (F + 1)).toInt64) &&& (255 : Int64)) <<< ((48 : Int32) &&& 0x3f).toInt64)) ||| ((((fa (F + 2)).toInt64) &&& (255 : Int64)) <<< ((40 : Int32) &&& 0x3f).toInt64)) ||| ((((fa (F + 3)).toInt64) &&& (255 : Int64)) <<< ((32 : Int32) &&& 0x3f).toInt64)) ||| ((((fa (F + 4)).toInt64) &&& (255 : Int64)) <<< ((24 : Int32) &&& 0x3f).toInt64)))])) _
  refine own_by (fun t k => XS.iloadN X0.here hx rfl (hb hby d_method_5_68) rfl k) ?_
  show own_Go p.tables e below (s₁.setTop (mkF m 69 #[.val (.ref a), .val (.int fr)] [(.int fr), (.ref a), (.long ((((((((fa F).toInt64) &&& (255 : Int64)) <<< ((56 : Int32) &&& 0x3f).toInt64) ||| ((((fa (F + 1)).toInt64) &&& (255 : Int64)) <<< ((48 : Int32) &&& 0x3f).toInt64)) ||| ((((fa (F + 2)).toInt64) &&& (255 : Int64)) <<< ((40 : Int32) &&& 0x3f).toInt64)) ||| ((((fa (F + 3)).toInt64) &&& (255 : Int64)) <<< ((32 : Int32) &&& 0x3f).toInt64)) ||| ((((fa (F + 4)).toInt64) &&& (255 : Int64)) <<< ((24 : Int32) &&& 0x3f).toInt64)))])) _
  refine own_by (fun t k => XS.iconst X0.here hx rfl (hb hby d_method_5_69) k) ?_
  show own_Go p.tables e below (s₁.setTop (mkF m 70 #[.val (.ref a), .val (.int fr)] [(.int (5 : Int32)), (.int fr), (.ref a), (.long ((((((((fa F).toInt64) &&& (255 : Int64)) <<< ((56 : Int32) &&& 0x3f).toInt64) ||| ((((fa (F + 1)).toInt64) &&& (255 : Int64)) <<< ((48 : Int32) &&& 0x3f).toInt64)) ||| ((((fa (F + 2)).toInt64) &&& (255 : Int64)) <<< ((40 : Int32) &&& 0x3f).toInt64)) ||| ((((fa (F + 3)).toInt64) &&& (255 : Int64)) <<< ((32 : Int32) &&& 0x3f).toInt64)) ||| ((((fa (F + 4)).toInt64) &&& (255 : Int64)) <<< ((24 : Int32) &&& 0x3f).toInt64)))])) _
  refine own_by (fun t k => XS.iadd X0.here hx rfl (hb hby d_method_5_70) rfl k) ?_
  show own_Go p.tables e below (s₁.setTop (mkF m 71 #[.val (.ref a), .val (.int fr)] [(.int (fr + (5 : Int32))), (.ref a), (.long ((((((((fa F).toInt64) &&& (255 : Int64)) <<< ((56 : Int32) &&& 0x3f).toInt64) ||| ((((fa (F + 1)).toInt64) &&& (255 : Int64)) <<< ((48 : Int32) &&& 0x3f).toInt64)) ||| ((((fa (F + 2)).toInt64) &&& (255 : Int64)) <<< ((40 : Int32) &&& 0x3f).toInt64)) ||| ((((fa (F + 3)).toInt64) &&& (255 : Int64)) <<< ((32 : Int32) &&& 0x3f).toInt64)) ||| ((((fa (F + 4)).toInt64) &&& (255 : Int64)) <<< ((24 : Int32) &&& 0x3f).toInt64)))])) _
  refine own_by (own_ldB X0 hx hZ e0 A_a (j := (fr + (5 : Int32))) (k := (F + 5)) (own_ixl (k := 5) hfr hF (c := 5) (by decide) (by decide)).1 (own_ixl (k := 5) hfr hF (c := 5) (by decide) (by decide)).2.1 (own_ixl (k := 5) hfr hF (c := 5) (by decide) (by decide)).2.2 (g := (mkF m 71 #[.val (.ref a), .val (.int fr)] [(.int (fr + (5 : Int32))), (.ref a), (.long ((((((((fa F).toInt64) &&& (255 : Int64)) <<< ((56 : Int32) &&& 0x3f).toInt64) ||| ((((fa (F + 1)).toInt64) &&& (255 : Int64)) <<< ((48 : Int32) &&& 0x3f).toInt64)) ||| ((((fa (F + 2)).toInt64) &&& (255 : Int64)) <<< ((40 : Int32) &&& 0x3f).toInt64)) ||| ((((fa (F + 3)).toInt64) &&& (255 : Int64)) <<< ((32 : Int32) &&& 0x3f).toInt64)) ||| ((((fa (F + 4)).toInt64) &&& (255 : Int64)) <<< ((24 : Int32) &&& 0x3f).toInt64)))])) rfl rfl (hb hby d_method_5_71)) ?_
  show own_Go p.tables e below (s₁.setTop (mkF m 72 #[.val (.ref a), .val (.int fr)] [(.int (fa (F + 5))), (.long ((((((((fa F).toInt64) &&& (255 : Int64)) <<< ((56 : Int32) &&& 0x3f).toInt64) ||| ((((fa (F + 1)).toInt64) &&& (255 : Int64)) <<< ((48 : Int32) &&& 0x3f).toInt64)) ||| ((((fa (F + 2)).toInt64) &&& (255 : Int64)) <<< ((40 : Int32) &&& 0x3f).toInt64)) ||| ((((fa (F + 3)).toInt64) &&& (255 : Int64)) <<< ((32 : Int32) &&& 0x3f).toInt64)) ||| ((((fa (F + 4)).toInt64) &&& (255 : Int64)) <<< ((24 : Int32) &&& 0x3f).toInt64)))])) _
  refine own_by (fun t k => XS.i2l X0.here hx rfl (hb hby d_method_5_72) rfl k) ?_
  show own_Go p.tables e below (s₁.setTop (mkF m 73 #[.val (.ref a), .val (.int fr)] [(.long ((fa (F + 5)).toInt64)), (.long ((((((((fa F).toInt64) &&& (255 : Int64)) <<< ((56 : Int32) &&& 0x3f).toInt64) ||| ((((fa (F + 1)).toInt64) &&& (255 : Int64)) <<< ((48 : Int32) &&& 0x3f).toInt64)) ||| ((((fa (F + 2)).toInt64) &&& (255 : Int64)) <<< ((40 : Int32) &&& 0x3f).toInt64)) ||| ((((fa (F + 3)).toInt64) &&& (255 : Int64)) <<< ((32 : Int32) &&& 0x3f).toInt64)) ||| ((((fa (F + 4)).toInt64) &&& (255 : Int64)) <<< ((24 : Int32) &&& 0x3f).toInt64)))])) _
  refine own_by (X0.ldc2Long hx hown (mvT hZ (hw _ (List.mem_of_getElem? (i := 20) rfl))) (g := (mkF m 73 #[.val (.ref a), .val (.int fr)] [(.long ((fa (F + 5)).toInt64)), (.long ((((((((fa F).toInt64) &&& (255 : Int64)) <<< ((56 : Int32) &&& 0x3f).toInt64) ||| ((((fa (F + 1)).toInt64) &&& (255 : Int64)) <<< ((48 : Int32) &&& 0x3f).toInt64)) ||| ((((fa (F + 2)).toInt64) &&& (255 : Int64)) <<< ((40 : Int32) &&& 0x3f).toInt64)) ||| ((((fa (F + 3)).toInt64) &&& (255 : Int64)) <<< ((32 : Int32) &&& 0x3f).toInt64)) ||| ((((fa (F + 4)).toInt64) &&& (255 : Int64)) <<< ((24 : Int32) &&& 0x3f).toInt64)))])) rfl (hb hby d_method_5_73)) ?_
  show own_Go p.tables e below (s₁.setTop (mkF m 76 #[.val (.ref a), .val (.int fr)] [(.long (255 : Int64)), (.long ((fa (F + 5)).toInt64)), (.long ((((((((fa F).toInt64) &&& (255 : Int64)) <<< ((56 : Int32) &&& 0x3f).toInt64) ||| ((((fa (F + 1)).toInt64) &&& (255 : Int64)) <<< ((48 : Int32) &&& 0x3f).toInt64)) ||| ((((fa (F + 2)).toInt64) &&& (255 : Int64)) <<< ((40 : Int32) &&& 0x3f).toInt64)) ||| ((((fa (F + 3)).toInt64) &&& (255 : Int64)) <<< ((32 : Int32) &&& 0x3f).toInt64)) ||| ((((fa (F + 4)).toInt64) &&& (255 : Int64)) <<< ((24 : Int32) &&& 0x3f).toInt64)))])) _
  refine own_by (fun t k => XS.land X0.here hx rfl (hb hby d_method_5_76) rfl k) ?_
  show own_Go p.tables e below (s₁.setTop (mkF m 77 #[.val (.ref a), .val (.int fr)] [(.long (((fa (F + 5)).toInt64) &&& (255 : Int64))), (.long ((((((((fa F).toInt64) &&& (255 : Int64)) <<< ((56 : Int32) &&& 0x3f).toInt64) ||| ((((fa (F + 1)).toInt64) &&& (255 : Int64)) <<< ((48 : Int32) &&& 0x3f).toInt64)) ||| ((((fa (F + 2)).toInt64) &&& (255 : Int64)) <<< ((40 : Int32) &&& 0x3f).toInt64)) ||| ((((fa (F + 3)).toInt64) &&& (255 : Int64)) <<< ((32 : Int32) &&& 0x3f).toInt64)) ||| ((((fa (F + 4)).toInt64) &&& (255 : Int64)) <<< ((24 : Int32) &&& 0x3f).toInt64)))])) _
  refine own_by (fun t k => XS.bipush X0.here hx rfl (hb hby d_method_5_77) k) ?_
  show own_Go p.tables e below (s₁.setTop (mkF m 79 #[.val (.ref a), .val (.int fr)] [(.int (16 : Int32)), (.long (((fa (F + 5)).toInt64) &&& (255 : Int64))), (.long ((((((((fa F).toInt64) &&& (255 : Int64)) <<< ((56 : Int32) &&& 0x3f).toInt64) ||| ((((fa (F + 1)).toInt64) &&& (255 : Int64)) <<< ((48 : Int32) &&& 0x3f).toInt64)) ||| ((((fa (F + 2)).toInt64) &&& (255 : Int64)) <<< ((40 : Int32) &&& 0x3f).toInt64)) ||| ((((fa (F + 3)).toInt64) &&& (255 : Int64)) <<< ((32 : Int32) &&& 0x3f).toInt64)) ||| ((((fa (F + 4)).toInt64) &&& (255 : Int64)) <<< ((24 : Int32) &&& 0x3f).toInt64)))])) _
  refine own_by (fun t k => XS.lshl X0.here hx rfl (hb hby d_method_5_79) rfl k) ?_
  show own_Go p.tables e below (s₁.setTop (mkF m 80 #[.val (.ref a), .val (.int fr)] [(.long ((((fa (F + 5)).toInt64) &&& (255 : Int64)) <<< ((16 : Int32) &&& 0x3f).toInt64)), (.long ((((((((fa F).toInt64) &&& (255 : Int64)) <<< ((56 : Int32) &&& 0x3f).toInt64) ||| ((((fa (F + 1)).toInt64) &&& (255 : Int64)) <<< ((48 : Int32) &&& 0x3f).toInt64)) ||| ((((fa (F + 2)).toInt64) &&& (255 : Int64)) <<< ((40 : Int32) &&& 0x3f).toInt64)) ||| ((((fa (F + 3)).toInt64) &&& (255 : Int64)) <<< ((32 : Int32) &&& 0x3f).toInt64)) ||| ((((fa (F + 4)).toInt64) &&& (255 : Int64)) <<< ((24 : Int32) &&& 0x3f).toInt64)))])) _
  refine own_by (fun t k => XS.lor X0.here hx rfl (hb hby d_method_5_80) rfl k) ?_
  show own_Go p.tables e below (s₁.setTop (mkF m 81 #[.val (.ref a), .val (.int fr)] [(.long (((((((((fa F).toInt64) &&& (255 : Int64)) <<< ((56 : Int32) &&& 0x3f).toInt64) ||| ((((fa (F + 1)).toInt64) &&& (255 : Int64)) <<< ((48 : Int32) &&& 0x3f).toInt64)) ||| ((((fa (F + 2)).toInt64) &&& (255 : Int64)) <<< ((40 : Int32) &&& 0x3f).toInt64)) ||| ((((fa (F + 3)).toInt64) &&& (255 : Int64)) <<< ((32 : Int32) &&& 0x3f).toInt64)) ||| ((((fa (F + 4)).toInt64) &&& (255 : Int64)) <<< ((24 : Int32) &&& 0x3f).toInt64)) ||| ((((fa (F + 5)).toInt64) &&& (255 : Int64)) <<< ((16 : Int32) &&& 0x3f).toInt64)))])) _
  refine own_by (fun t k => XS.aloadN X0.here hx rfl (hb hby d_method_5_81) rfl rfl k) ?_
  show own_Go p.tables e below (s₁.setTop (mkF m 82 #[.val (.ref a), .val (.int fr)] [(.ref a), (.long (((((((((fa F).toInt64) &&& (255 : Int64)) <<< ((56 : Int32) &&& 0x3f).toInt64) ||| ((((fa (F + 1)).toInt64) &&& (255 : Int64)) <<< ((48 : Int32) &&& 0x3f).toInt64)) ||| ((((fa (F + 2)).toInt64) &&& (255 : Int64)) <<< ((40 : Int32) &&& 0x3f).toInt64)) ||| ((((fa (F + 3)).toInt64) &&& (255 : Int64)) <<< ((32 : Int32) &&& 0x3f).toInt64)) ||| ((((fa (F + 4)).toInt64) &&& (255 : Int64)) <<< ((24 : Int32) &&& 0x3f).toInt64)) ||| ((((fa (F + 5)).toInt64) &&& (255 : Int64)) <<< ((16 : Int32) &&& 0x3f).toInt64)))])) _
  refine own_by (fun t k => XS.iloadN X0.here hx rfl (hb hby d_method_5_82) rfl k) ?_
  show own_Go p.tables e below (s₁.setTop (mkF m 83 #[.val (.ref a), .val (.int fr)] [(.int fr), (.ref a), (.long (((((((((fa F).toInt64) &&& (255 : Int64)) <<< ((56 : Int32) &&& 0x3f).toInt64) ||| ((((fa (F + 1)).toInt64) &&& (255 : Int64)) <<< ((48 : Int32) &&& 0x3f).toInt64)) ||| ((((fa (F + 2)).toInt64) &&& (255 : Int64)) <<< ((40 : Int32) &&& 0x3f).toInt64)) ||| ((((fa (F + 3)).toInt64) &&& (255 : Int64)) <<< ((32 : Int32) &&& 0x3f).toInt64)) ||| ((((fa (F + 4)).toInt64) &&& (255 : Int64)) <<< ((24 : Int32) &&& 0x3f).toInt64)) ||| ((((fa (F + 5)).toInt64) &&& (255 : Int64)) <<< ((16 : Int32) &&& 0x3f).toInt64)))])) _
  refine own_by (fun t k => XS.bipush X0.here hx rfl (hb hby d_method_5_83) k) ?_
  show own_Go p.tables e below (s₁.setTop (mkF m 85 #[.val (.ref a), .val (.int fr)] [(.int (6 : Int32)), (.int fr), (.ref a), (.long (((((((((fa F).toInt64) &&& (255 : Int64)) <<< ((56 : Int32) &&& 0x3f).toInt64) ||| ((((fa (F + 1)).toInt64) &&& (255 : Int64)) <<< ((48 : Int32) &&& 0x3f).toInt64)) ||| ((((fa (F + 2)).toInt64) &&& (255 : Int64)) <<< ((40 : Int32) &&& 0x3f).toInt64)) ||| ((((fa (F + 3)).toInt64) &&& (255 : Int64)) <<< ((32 : Int32) &&& 0x3f).toInt64)) ||| ((((fa (F + 4)).toInt64) &&& (255 : Int64)) <<< ((24 : Int32) &&& 0x3f).toInt64)) ||| ((((fa (F + 5)).toInt64) &&& (255 : Int64)) <<< ((16 : Int32) &&& 0x3f).toInt64)))])) _
  refine own_by (fun t k => XS.iadd X0.here hx rfl (hb hby d_method_5_85) rfl k) ?_
  show own_Go p.tables e below (s₁.setTop (mkF m 86 #[.val (.ref a), .val (.int fr)] [(.int (fr + (6 : Int32))), (.ref a), (.long (((((((((fa F).toInt64) &&& (255 : Int64)) <<< ((56 : Int32) &&& 0x3f).toInt64) ||| ((((fa (F + 1)).toInt64) &&& (255 : Int64)) <<< ((48 : Int32) &&& 0x3f).toInt64)) ||| ((((fa (F + 2)).toInt64) &&& (255 : Int64)) <<< ((40 : Int32) &&& 0x3f).toInt64)) ||| ((((fa (F + 3)).toInt64) &&& (255 : Int64)) <<< ((32 : Int32) &&& 0x3f).toInt64)) ||| ((((fa (F + 4)).toInt64) &&& (255 : Int64)) <<< ((24 : Int32) &&& 0x3f).toInt64)) ||| ((((fa (F + 5)).toInt64) &&& (255 : Int64)) <<< ((16 : Int32) &&& 0x3f).toInt64)))])) _
  refine own_by (own_ldB X0 hx hZ e0 A_a (j := (fr + (6 : Int32))) (k := (F + 6)) (own_ixl (k := 6) hfr hF (c := 6) (by decide) (by decide)).1 (own_ixl (k := 6) hfr hF (c := 6) (by decide) (by decide)).2.1 (own_ixl (k := 6) hfr hF (c := 6) (by decide) (by decide)).2.2 (g := (mkF m 86 #[.val (.ref a), .val (.int fr)] [(.int (fr + (6 : Int32))), (.ref a), (.long (((((((((fa F).toInt64) &&& (255 : Int64)) <<< ((56 : Int32) &&& 0x3f).toInt64) ||| ((((fa (F + 1)).toInt64) &&& (255 : Int64)) <<< ((48 : Int32) &&& 0x3f).toInt64)) ||| ((((fa (F + 2)).toInt64) &&& (255 : Int64)) <<< ((40 : Int32) &&& 0x3f).toInt64)) ||| ((((fa (F + 3)).toInt64) &&& (255 : Int64)) <<< ((32 : Int32) &&& 0x3f).toInt64)) ||| ((((fa (F + 4)).toInt64) &&& (255 : Int64)) <<< ((24 : Int32) &&& 0x3f).toInt64)) ||| ((((fa (F + 5)).toInt64) &&& (255 : Int64)) <<< ((16 : Int32) &&& 0x3f).toInt64)))])) rfl rfl (hb hby d_method_5_86)) ?_
  show own_Go p.tables e below (s₁.setTop (mkF m 87 #[.val (.ref a), .val (.int fr)] [(.int (fa (F + 6))), (.long (((((((((fa F).toInt64) &&& (255 : Int64)) <<< ((56 : Int32) &&& 0x3f).toInt64) ||| ((((fa (F + 1)).toInt64) &&& (255 : Int64)) <<< ((48 : Int32) &&& 0x3f).toInt64)) ||| ((((fa (F + 2)).toInt64) &&& (255 : Int64)) <<< ((40 : Int32) &&& 0x3f).toInt64)) ||| ((((fa (F + 3)).toInt64) &&& (255 : Int64)) <<< ((32 : Int32) &&& 0x3f).toInt64)) ||| ((((fa (F + 4)).toInt64) &&& (255 : Int64)) <<< ((24 : Int32) &&& 0x3f).toInt64)) ||| ((((fa (F + 5)).toInt64) &&& (255 : Int64)) <<< ((16 : Int32) &&& 0x3f).toInt64)))])) _
  refine own_by (fun t k => XS.i2l X0.here hx rfl (hb hby d_method_5_87) rfl k) ?_
  show own_Go p.tables e below (s₁.setTop (mkF m 88 #[.val (.ref a), .val (.int fr)] [(.long ((fa (F + 6)).toInt64)), (.long (((((((((fa F).toInt64) &&& (255 : Int64)) <<< ((56 : Int32) &&& 0x3f).toInt64) ||| ((((fa (F + 1)).toInt64) &&& (255 : Int64)) <<< ((48 : Int32) &&& 0x3f).toInt64)) ||| ((((fa (F + 2)).toInt64) &&& (255 : Int64)) <<< ((40 : Int32) &&& 0x3f).toInt64)) ||| ((((fa (F + 3)).toInt64) &&& (255 : Int64)) <<< ((32 : Int32) &&& 0x3f).toInt64)) ||| ((((fa (F + 4)).toInt64) &&& (255 : Int64)) <<< ((24 : Int32) &&& 0x3f).toInt64)) ||| ((((fa (F + 5)).toInt64) &&& (255 : Int64)) <<< ((16 : Int32) &&& 0x3f).toInt64)))])) _
  refine own_by (X0.ldc2Long hx hown (mvT hZ (hw _ (List.mem_of_getElem? (i := 20) rfl))) (g := (mkF m 88 #[.val (.ref a), .val (.int fr)] [(.long ((fa (F + 6)).toInt64)), (.long (((((((((fa F).toInt64) &&& (255 : Int64)) <<< ((56 : Int32) &&& 0x3f).toInt64) ||| ((((fa (F + 1)).toInt64) &&& (255 : Int64)) <<< ((48 : Int32) &&& 0x3f).toInt64)) ||| ((((fa (F + 2)).toInt64) &&& (255 : Int64)) <<< ((40 : Int32) &&& 0x3f).toInt64)) ||| ((((fa (F + 3)).toInt64) &&& (255 : Int64)) <<< ((32 : Int32) &&& 0x3f).toInt64)) ||| ((((fa (F + 4)).toInt64) &&& (255 : Int64)) <<< ((24 : Int32) &&& 0x3f).toInt64)) ||| ((((fa (F + 5)).toInt64) &&& (255 : Int64)) <<< ((16 : Int32) &&& 0x3f).toInt64)))])) rfl (hb hby d_method_5_88)) ?_
  show own_Go p.tables e below (s₁.setTop (mkF m 91 #[.val (.ref a), .val (.int fr)] [(.long (255 : Int64)), (.long ((fa (F + 6)).toInt64)), (.long (((((((((fa F).toInt64) &&& (255 : Int64)) <<< ((56 : Int32) &&& 0x3f).toInt64) ||| ((((fa (F + 1)).toInt64) &&& (255 : Int64)) <<< ((48 : Int32) &&& 0x3f).toInt64)) ||| ((((fa (F + 2)).toInt64) &&& (255 : Int64)) <<< ((40 : Int32) &&& 0x3f).toInt64)) ||| ((((fa (F + 3)).toInt64) &&& (255 : Int64)) <<< ((32 : Int32) &&& 0x3f).toInt64)) ||| ((((fa (F + 4)).toInt64) &&& (255 : Int64)) <<< ((24 : Int32) &&& 0x3f).toInt64)) ||| ((((fa (F + 5)).toInt64) &&& (255 : Int64)) <<< ((16 : Int32) &&& 0x3f).toInt64)))])) _
  refine own_by (fun t k => XS.land X0.here hx rfl (hb hby d_method_5_91) rfl k) ?_
  show own_Go p.tables e below (s₁.setTop (mkF m 92 #[.val (.ref a), .val (.int fr)] [(.long (((fa (F + 6)).toInt64) &&& (255 : Int64))), (.long (((((((((fa F).toInt64) &&& (255 : Int64)) <<< ((56 : Int32) &&& 0x3f).toInt64) ||| ((((fa (F + 1)).toInt64) &&& (255 : Int64)) <<< ((48 : Int32) &&& 0x3f).toInt64)) ||| ((((fa (F + 2)).toInt64) &&& (255 : Int64)) <<< ((40 : Int32) &&& 0x3f).toInt64)) ||| ((((fa (F + 3)).toInt64) &&& (255 : Int64)) <<< ((32 : Int32) &&& 0x3f).toInt64)) ||| ((((fa (F + 4)).toInt64) &&& (255 : Int64)) <<< ((24 : Int32) &&& 0x3f).toInt64)) ||| ((((fa (F + 5)).toInt64) &&& (255 : Int64)) <<< ((16 : Int32) &&& 0x3f).toInt64)))])) _
  refine own_by (fun t k => XS.bipush X0.here hx rfl (hb hby d_method_5_92) k) ?_
  show own_Go p.tables e below (s₁.setTop (mkF m 94 #[.val (.ref a), .val (.int fr)] [(.int (8 : Int32)), (.long (((fa (F + 6)).toInt64) &&& (255 : Int64))), (.long (((((((((fa F).toInt64) &&& (255 : Int64)) <<< ((56 : Int32) &&& 0x3f).toInt64) ||| ((((fa (F + 1)).toInt64) &&& (255 : Int64)) <<< ((48 : Int32) &&& 0x3f).toInt64)) ||| ((((fa (F + 2)).toInt64) &&& (255 : Int64)) <<< ((40 : Int32) &&& 0x3f).toInt64)) ||| ((((fa (F + 3)).toInt64) &&& (255 : Int64)) <<< ((32 : Int32) &&& 0x3f).toInt64)) ||| ((((fa (F + 4)).toInt64) &&& (255 : Int64)) <<< ((24 : Int32) &&& 0x3f).toInt64)) ||| ((((fa (F + 5)).toInt64) &&& (255 : Int64)) <<< ((16 : Int32) &&& 0x3f).toInt64)))])) _
  refine own_by (fun t k => XS.lshl X0.here hx rfl (hb hby d_method_5_94) rfl k) ?_
  show own_Go p.tables e below (s₁.setTop (mkF m 95 #[.val (.ref a), .val (.int fr)] [(.long ((((fa (F + 6)).toInt64) &&& (255 : Int64)) <<< ((8 : Int32) &&& 0x3f).toInt64)), (.long (((((((((fa F).toInt64) &&& (255 : Int64)) <<< ((56 : Int32) &&& 0x3f).toInt64) ||| ((((fa (F + 1)).toInt64) &&& (255 : Int64)) <<< ((48 : Int32) &&& 0x3f).toInt64)) ||| ((((fa (F + 2)).toInt64) &&& (255 : Int64)) <<< ((40 : Int32) &&& 0x3f).toInt64)) ||| ((((fa (F + 3)).toInt64) &&& (255 : Int64)) <<< ((32 : Int32) &&& 0x3f).toInt64)) ||| ((((fa (F + 4)).toInt64) &&& (255 : Int64)) <<< ((24 : Int32) &&& 0x3f).toInt64)) ||| ((((fa (F + 5)).toInt64) &&& (255 : Int64)) <<< ((16 : Int32) &&& 0x3f).toInt64)))])) _
  refine own_by (fun t k => XS.lor X0.here hx rfl (hb hby d_method_5_95) rfl k) ?_
  show own_Go p.tables e below (s₁.setTop (mkF m 96 #[.val (.ref a), .val (.int fr)] [(.long ((((((((((fa F).toInt64) &&& (255 : Int64)) <<< ((56 : Int32) &&& 0x3f).toInt64) ||| ((((fa (F + 1)).toInt64) &&& (255 : Int64)) <<< ((48 : Int32) &&& 0x3f).toInt64)) ||| ((((fa (F + 2)).toInt64) &&& (255 : Int64)) <<< ((40 : Int32) &&& 0x3f).toInt64)) ||| ((((fa (F + 3)).toInt64) &&& (255 : Int64)) <<< ((32 : Int32) &&& 0x3f).toInt64)) ||| ((((fa (F + 4)).toInt64) &&& (255 : Int64)) <<< ((24 : Int32) &&& 0x3f).toInt64)) ||| ((((fa (F + 5)).toInt64) &&& (255 : Int64)) <<< ((16 : Int32) &&& 0x3f).toInt64)) ||| ((((fa (F + 6)).toInt64) &&& (255 : Int64)) <<< ((8 : Int32) &&& 0x3f).toInt64)))])) _
  refine own_by (fun t k => XS.aloadN X0.here hx rfl (hb hby d_method_5_96) rfl rfl k) ?_
  show own_Go p.tables e below (s₁.setTop (mkF m 97 #[.val (.ref a), .val (.int fr)] [(.ref a), (.long ((((((((((fa F).toInt64) &&& (255 : Int64)) <<< ((56 : Int32) &&& 0x3f).toInt64) ||| ((((fa (F + 1)).toInt64) &&& (255 : Int64)) <<< ((48 : Int32) &&& 0x3f).toInt64)) ||| ((((fa (F + 2)).toInt64) &&& (255 : Int64)) <<< ((40 : Int32) &&& 0x3f).toInt64)) ||| ((((fa (F + 3)).toInt64) &&& (255 : Int64)) <<< ((32 : Int32) &&& 0x3f).toInt64)) ||| ((((fa (F + 4)).toInt64) &&& (255 : Int64)) <<< ((24 : Int32) &&& 0x3f).toInt64)) ||| ((((fa (F + 5)).toInt64) &&& (255 : Int64)) <<< ((16 : Int32) &&& 0x3f).toInt64)) ||| ((((fa (F + 6)).toInt64) &&& (255 : Int64)) <<< ((8 : Int32) &&& 0x3f).toInt64)))])) _
  refine own_by (fun t k => XS.iloadN X0.here hx rfl (hb hby d_method_5_97) rfl k) ?_
  show own_Go p.tables e below (s₁.setTop (mkF m 98 #[.val (.ref a), .val (.int fr)] [(.int fr), (.ref a), (.long ((((((((((fa F).toInt64) &&& (255 : Int64)) <<< ((56 : Int32) &&& 0x3f).toInt64) ||| ((((fa (F + 1)).toInt64) &&& (255 : Int64)) <<< ((48 : Int32) &&& 0x3f).toInt64)) ||| ((((fa (F + 2)).toInt64) &&& (255 : Int64)) <<< ((40 : Int32) &&& 0x3f).toInt64)) ||| ((((fa (F + 3)).toInt64) &&& (255 : Int64)) <<< ((32 : Int32) &&& 0x3f).toInt64)) ||| ((((fa (F + 4)).toInt64) &&& (255 : Int64)) <<< ((24 : Int32) &&& 0x3f).toInt64)) ||| ((((fa (F + 5)).toInt64) &&& (255 : Int64)) <<< ((16 : Int32) &&& 0x3f).toInt64)) ||| ((((fa (F + 6)).toInt64) &&& (255 : Int64)) <<< ((8 : Int32) &&& 0x3f).toInt64)))])) _
  refine own_by (fun t k => XS.bipush X0.here hx rfl (hb hby d_method_5_98) k) ?_
  show own_Go p.tables e below (s₁.setTop (mkF m 100 #[.val (.ref a), .val (.int fr)] [(.int (7 : Int32)), (.int fr), (.ref a), (.long ((((((((((fa F).toInt64) &&& (255 : Int64)) <<< ((56 : Int32) &&& 0x3f).toInt64) ||| ((((fa (F + 1)).toInt64) &&& (255 : Int64)) <<< ((48 : Int32) &&& 0x3f).toInt64)) ||| ((((fa (F + 2)).toInt64) &&& (255 : Int64)) <<< ((40 : Int32) &&& 0x3f).toInt64)) ||| ((((fa (F + 3)).toInt64) &&& (255 : Int64)) <<< ((32 : Int32) &&& 0x3f).toInt64)) ||| ((((fa (F + 4)).toInt64) &&& (255 : Int64)) <<< ((24 : Int32) &&& 0x3f).toInt64)) ||| ((((fa (F + 5)).toInt64) &&& (255 : Int64)) <<< ((16 : Int32) &&& 0x3f).toInt64)) ||| ((((fa (F + 6)).toInt64) &&& (255 : Int64)) <<< ((8 : Int32) &&& 0x3f).toInt64)))])) _
  refine own_by (fun t k => XS.iadd X0.here hx rfl (hb hby d_method_5_100) rfl k) ?_
  show own_Go p.tables e below (s₁.setTop (mkF m 101 #[.val (.ref a), .val (.int fr)] [(.int (fr + (7 : Int32))), (.ref a), (.long ((((((((((fa F).toInt64) &&& (255 : Int64)) <<< ((56 : Int32) &&& 0x3f).toInt64) ||| ((((fa (F + 1)).toInt64) &&& (255 : Int64)) <<< ((48 : Int32) &&& 0x3f).toInt64)) ||| ((((fa (F + 2)).toInt64) &&& (255 : Int64)) <<< ((40 : Int32) &&& 0x3f).toInt64)) ||| ((((fa (F + 3)).toInt64) &&& (255 : Int64)) <<< ((32 : Int32) &&& 0x3f).toInt64)) ||| ((((fa (F + 4)).toInt64) &&& (255 : Int64)) <<< ((24 : Int32) &&& 0x3f).toInt64)) ||| ((((fa (F + 5)).toInt64) &&& (255 : Int64)) <<< ((16 : Int32) &&& 0x3f).toInt64)) ||| ((((fa (F + 6)).toInt64) &&& (255 : Int64)) <<< ((8 : Int32) &&& 0x3f).toInt64)))])) _
  refine own_by (own_ldB X0 hx hZ e0 A_a (j := (fr + (7 : Int32))) (k := (F + 7)) (own_ixl (k := 7) hfr hF (c := 7) (by decide) (by decide)).1 (own_ixl (k := 7) hfr hF (c := 7) (by decide) (by decide)).2.1 (own_ixl (k := 7) hfr hF (c := 7) (by decide) (by decide)).2.2 (g := (mkF m 101 #[.val (.ref a), .val (.int fr)] [(.int (fr + (7 : Int32))), (.ref a), (.long ((((((((((fa F).toInt64) &&& (255 : Int64)) <<< ((56 : Int32) &&& 0x3f).toInt64) ||| ((((fa (F + 1)).toInt64) &&& (255 : Int64)) <<< ((48 : Int32) &&& 0x3f).toInt64)) ||| ((((fa (F + 2)).toInt64) &&& (255 : Int64)) <<< ((40 : Int32) &&& 0x3f).toInt64)) ||| ((((fa (F + 3)).toInt64) &&& (255 : Int64)) <<< ((32 : Int32) &&& 0x3f).toInt64)) ||| ((((fa (F + 4)).toInt64) &&& (255 : Int64)) <<< ((24 : Int32) &&& 0x3f).toInt64)) ||| ((((fa (F + 5)).toInt64) &&& (255 : Int64)) <<< ((16 : Int32) &&& 0x3f).toInt64)) ||| ((((fa (F + 6)).toInt64) &&& (255 : Int64)) <<< ((8 : Int32) &&& 0x3f).toInt64)))])) rfl rfl (hb hby d_method_5_101)) ?_
  show own_Go p.tables e below (s₁.setTop (mkF m 102 #[.val (.ref a), .val (.int fr)] [(.int (fa (F + 7))), (.long ((((((((((fa F).toInt64) &&& (255 : Int64)) <<< ((56 : Int32) &&& 0x3f).toInt64) ||| ((((fa (F + 1)).toInt64) &&& (255 : Int64)) <<< ((48 : Int32) &&& 0x3f).toInt64)) ||| ((((fa (F + 2)).toInt64) &&& (255 : Int64)) <<< ((40 : Int32) &&& 0x3f).toInt64)) ||| ((((fa (F + 3)).toInt64) &&& (255 : Int64)) <<< ((32 : Int32) &&& 0x3f).toInt64)) ||| ((((fa (F + 4)).toInt64) &&& (255 : Int64)) <<< ((24 : Int32) &&& 0x3f).toInt64)) ||| ((((fa (F + 5)).toInt64) &&& (255 : Int64)) <<< ((16 : Int32) &&& 0x3f).toInt64)) ||| ((((fa (F + 6)).toInt64) &&& (255 : Int64)) <<< ((8 : Int32) &&& 0x3f).toInt64)))])) _
  refine own_by (fun t k => XS.i2l X0.here hx rfl (hb hby d_method_5_102) rfl k) ?_
  show own_Go p.tables e below (s₁.setTop (mkF m 103 #[.val (.ref a), .val (.int fr)] [(.long ((fa (F + 7)).toInt64)), (.long ((((((((((fa F).toInt64) &&& (255 : Int64)) <<< ((56 : Int32) &&& 0x3f).toInt64) ||| ((((fa (F + 1)).toInt64) &&& (255 : Int64)) <<< ((48 : Int32) &&& 0x3f).toInt64)) ||| ((((fa (F + 2)).toInt64) &&& (255 : Int64)) <<< ((40 : Int32) &&& 0x3f).toInt64)) ||| ((((fa (F + 3)).toInt64) &&& (255 : Int64)) <<< ((32 : Int32) &&& 0x3f).toInt64)) ||| ((((fa (F + 4)).toInt64) &&& (255 : Int64)) <<< ((24 : Int32) &&& 0x3f).toInt64)) ||| ((((fa (F + 5)).toInt64) &&& (255 : Int64)) <<< ((16 : Int32) &&& 0x3f).toInt64)) ||| ((((fa (F + 6)).toInt64) &&& (255 : Int64)) <<< ((8 : Int32) &&& 0x3f).toInt64)))])) _
  refine own_by (X0.ldc2Long hx hown (mvT hZ (hw _ (List.mem_of_getElem? (i := 20) rfl))) (g := (mkF m 103 #[.val (.ref a), .val (.int fr)] [(.long ((fa (F + 7)).toInt64)), (.long ((((((((((fa F).toInt64) &&& (255 : Int64)) <<< ((56 : Int32) &&& 0x3f).toInt64) ||| ((((fa (F + 1)).toInt64) &&& (255 : Int64)) <<< ((48 : Int32) &&& 0x3f).toInt64)) ||| ((((fa (F + 2)).toInt64) &&& (255 : Int64)) <<< ((40 : Int32) &&& 0x3f).toInt64)) ||| ((((fa (F + 3)).toInt64) &&& (255 : Int64)) <<< ((32 : Int32) &&& 0x3f).toInt64)) ||| ((((fa (F + 4)).toInt64) &&& (255 : Int64)) <<< ((24 : Int32) &&& 0x3f).toInt64)) ||| ((((fa (F + 5)).toInt64) &&& (255 : Int64)) <<< ((16 : Int32) &&& 0x3f).toInt64)) ||| ((((fa (F + 6)).toInt64) &&& (255 : Int64)) <<< ((8 : Int32) &&& 0x3f).toInt64)))])) rfl (hb hby d_method_5_103)) ?_
  show own_Go p.tables e below (s₁.setTop (mkF m 106 #[.val (.ref a), .val (.int fr)] [(.long (255 : Int64)), (.long ((fa (F + 7)).toInt64)), (.long ((((((((((fa F).toInt64) &&& (255 : Int64)) <<< ((56 : Int32) &&& 0x3f).toInt64) ||| ((((fa (F + 1)).toInt64) &&& (255 : Int64)) <<< ((48 : Int32) &&& 0x3f).toInt64)) ||| ((((fa (F + 2)).toInt64) &&& (255 : Int64)) <<< ((40 : Int32) &&& 0x3f).toInt64)) ||| ((((fa (F + 3)).toInt64) &&& (255 : Int64)) <<< ((32 : Int32) &&& 0x3f).toInt64)) ||| ((((fa (F + 4)).toInt64) &&& (255 : Int64)) <<< ((24 : Int32) &&& 0x3f).toInt64)) ||| ((((fa (F + 5)).toInt64) &&& (255 : Int64)) <<< ((16 : Int32) &&& 0x3f).toInt64)) ||| ((((fa (F + 6)).toInt64) &&& (255 : Int64)) <<< ((8 : Int32) &&& 0x3f).toInt64)))])) _
  refine own_by (fun t k => XS.land X0.here hx rfl (hb hby d_method_5_106) rfl k) ?_
  show own_Go p.tables e below (s₁.setTop (mkF m 107 #[.val (.ref a), .val (.int fr)] [(.long (((fa (F + 7)).toInt64) &&& (255 : Int64))), (.long ((((((((((fa F).toInt64) &&& (255 : Int64)) <<< ((56 : Int32) &&& 0x3f).toInt64) ||| ((((fa (F + 1)).toInt64) &&& (255 : Int64)) <<< ((48 : Int32) &&& 0x3f).toInt64)) ||| ((((fa (F + 2)).toInt64) &&& (255 : Int64)) <<< ((40 : Int32) &&& 0x3f).toInt64)) ||| ((((fa (F + 3)).toInt64) &&& (255 : Int64)) <<< ((32 : Int32) &&& 0x3f).toInt64)) ||| ((((fa (F + 4)).toInt64) &&& (255 : Int64)) <<< ((24 : Int32) &&& 0x3f).toInt64)) ||| ((((fa (F + 5)).toInt64) &&& (255 : Int64)) <<< ((16 : Int32) &&& 0x3f).toInt64)) ||| ((((fa (F + 6)).toInt64) &&& (255 : Int64)) <<< ((8 : Int32) &&& 0x3f).toInt64)))])) _
  refine own_by (fun t k => XS.lor X0.here hx rfl (hb hby d_method_5_107) rfl k) ?_
  show own_Go p.tables e below (s₁.setTop (mkF m 108 #[.val (.ref a), .val (.int fr)] [(.long (((((((((((fa F).toInt64) &&& (255 : Int64)) <<< ((56 : Int32) &&& 0x3f).toInt64) ||| ((((fa (F + 1)).toInt64) &&& (255 : Int64)) <<< ((48 : Int32) &&& 0x3f).toInt64)) ||| ((((fa (F + 2)).toInt64) &&& (255 : Int64)) <<< ((40 : Int32) &&& 0x3f).toInt64)) ||| ((((fa (F + 3)).toInt64) &&& (255 : Int64)) <<< ((32 : Int32) &&& 0x3f).toInt64)) ||| ((((fa (F + 4)).toInt64) &&& (255 : Int64)) <<< ((24 : Int32) &&& 0x3f).toInt64)) ||| ((((fa (F + 5)).toInt64) &&& (255 : Int64)) <<< ((16 : Int32) &&& 0x3f).toInt64)) ||| ((((fa (F + 6)).toInt64) &&& (255 : Int64)) <<< ((8 : Int32) &&& 0x3f).toInt64)) ||| (((fa (F + 7)).toInt64) &&& (255 : Int64))))])) _
  exact own_retJ X0 hx Bd.notSynchronized Bd.returns (hb hby d_method_5_108) (by (try rw [e0]); exact ⟨_, rfl, N0, rfl, rfl⟩) (by decide) (by decide)
theorem pd_253 : parseMethodDescriptor "([BJ)V" = some ⟨[(.array .byte), .long], none⟩ := by decide +kernel
theorem pd_254 : parseMethodDescriptor "(J[BI)V" = some ⟨[.long, (.array .byte), .int], none⟩ := by decide +kernel
theorem pd_255 : parseMethodDescriptor "([B[BIIJ)Z" = some ⟨[(.array .byte), (.array .byte), .int, .int, .long], some .boolean⟩ := by decide +kernel
theorem pd_256 : parseMethodDescriptor "([BI)J" = some ⟨[(.array .byte), .int], some .long⟩ := by decide +kernel
theorem ef_rm_law (m : MethodId) (hd : Int64) (fs : Int32) (sd : Int64) : entryFrame m #[(.long hd), (.int fs), (.long sd)] maxLocals = mkF m 0 #[.val (.long hd), .second, .val (.int fs), .val (.long sd), .second, .unset, .unset, .unset, .unset] [] := by first | (simp [entryFrame, mkF, argsToLocals, Value.category, maxLocals]; done) | rfl
set_option maxRecDepth 65536 in
set_option maxHeartbeats 40000000 in
theorem rm_law (l : Launch) (Z : State) (a0 : Array Value) (hw : ∀ d ∈ tables_1, d.before a0 Z = true) (ws : List Jvm.Cond) (hd : Int64) (fs : Int32) (sd : Int64) (h0 : Heap) (n0 : Nat) (Z0 : n0 ≤ h0.size)  :
    MetFree l x (head1 (Jvm.Cond.code x code maxLocals ret :: ws) room_1) (fun zA zU => zA = #[(.long hd), (.int fs), (.long sd)] ∧ Z.Warmed39 zU.vm ∧ zU.heap = h0) (fun _ _ _ _ _ => True) (fun _ zU zo zW => ∃ zv zL, zo = .returned zv ∧ (fun v h L => v = some (.int 1) ∧ Fr n0 L) zv zW.heap zL ∧ FrameEnd zU zo zW zL 2 24) := by
  refine MetFree.of_bodySF (plainFor_of_name pn_95) hisR ?_
  intro p e s m args below meth c s₁ Bd hml0 hP hK
  obtain ⟨rfl, hZ, hh⟩ := hP
  have hx := Bd.exec
  have hby := Bd.bytes
  have hml : c.maxLocals = 9 := hml0
  have hown : s.vm.findClass "com/example/ordinal/ordinal/KeysPutHeadPinLaw" = some m.cls := findClass_of_methodNamed Bd.named
  have hnm := (name_of_methodNamed Bd.named Bd.method).1
  have X0 : Stand p l e room_1 s m #[(.long hd), (.int fs), (.long sd)] below meth c s₁ [] 0 0 := Stand.of_body Bd
  have e0 : s₁.heap = h0 := by rw [← hh, Bd.state]; rfl
  have N0 := Fr.nil n0
  refine own_out (Q := fun v h L => v = some (.int 1) ∧ Fr n0 L) ?_
  refine own_cast (ef_rm_law m hd fs sd) ?_
  show own_Go p.tables e below (s₁.setTop (mkF m 0 #[.val (.long hd), .second, .val (.int fs), .val (.long sd), .second, .unset, .unset, .unset, .unset] [])) _
  refine own_by (fun t k => XS.iloadN X0.here hx rfl (hb hby at_0) rfl k) ?_
  show own_Go p.tables e below (s₁.setTop (mkF m 1 #[.val (.long hd), .second, .val (.int fs), .val (.long sd), .second, .unset, .unset, .unset, .unset] [(.int fs)])) _
  refine own_by (X0.ldcInt hx hown (mvT hZ (hw _ (List.mem_of_getElem? (i := 0) rfl))) (g := (mkF m 1 #[.val (.long hd), .second, .val (.int fs), .val (.long sd), .second, .unset, .unset, .unset, .unset] [(.int fs)])) rfl (hb hby at_1)) ?_
  show own_Go p.tables e below (s₁.setTop (mkF m 3 #[.val (.long hd), .second, .val (.int fs), .val (.long sd), .second, .unset, .unset, .unset, .unset] [(.int (2147483647 : Int32)), (.int fs)])) _
  refine own_by (fun t k => XS.iand X0.here hx rfl (hb hby at_3) rfl k) ?_
  show own_Go p.tables e below (s₁.setTop (mkF m 4 #[.val (.long hd), .second, .val (.int fs), .val (.long sd), .second, .unset, .unset, .unset, .unset] [(.int (fs &&& (2147483647 : Int32)))])) _
  refine own_by (fun t k => XS.bipush X0.here hx rfl (hb hby at_4) k) ?_
  show own_Go p.tables e below (s₁.setTop (mkF m 6 #[.val (.long hd), .second, .val (.int fs), .val (.long sd), .second, .unset, .unset, .unset, .unset] [(.int (13 : Int32)), (.int (fs &&& (2147483647 : Int32)))])) _
  refine own_by (fun t k => Jvm.RoadKit.iremM X0 hx rfl (hb hby at_6) rfl (by decide) k) ?_
  show own_Go p.tables e below (s₁.setTop (mkF m 7 #[.val (.long hd), .second, .val (.int fs), .val (.long sd), .second, .unset, .unset, .unset, .unset] [(.int ((fs &&& (2147483647 : Int32)) % (13 : Int32)))])) _
  obtain ⟨fr, hfr⟩ : ∃ z, z = ((fs &&& (2147483647 : Int32)) % (13 : Int32)) := ⟨_, rfl⟩
  rw [← hfr]
  show own_Go p.tables e below (s₁.setTop (mkF m 7 #[.val (.long hd), .second, .val (.int fs), .val (.long sd), .second, .unset, .unset, .unset, .unset] [(.int fr)])) _
  obtain ⟨F, hF, hfr2⟩ : ∃ F : Nat, F ≤ 12 ∧ fr = Int32.ofNat F := own_F hfr
  refine own_by (fun t k => XS.istore X0.here hx rfl (hb hby at_7) rfl (l' := #[.val (.long hd), .second, .val (.int fs), .val (.long sd), .second, .val (.int fr), .unset, .unset, .unset]) rfl k) ?_
  show own_Go p.tables e below (s₁.setTop (mkF m 9 #[.val (.long hd), .second, .val (.int fs), .val (.long sd), .second, .val (.int fr), .unset, .unset, .unset] [])) _
  refine own_by (fun t k => XS.bipush X0.here hx rfl (hb hby at_9) k) ?_
  show own_Go p.tables e below (s₁.setTop (mkF m 11 #[.val (.long hd), .second, .val (.int fs), .val (.long sd), .second, .val (.int fr), .unset, .unset, .unset] [(.int (12 : Int32))])) _
  obtain ⟨T1, hea1, k1, X1, e1, E1, A1, st1⟩ := newP X0 hx hZ (hw _ (List.mem_of_getElem? (i := 1) rfl)) e0 (g := (mkF m 11 #[.val (.long hd), .second, .val (.int fs), .val (.long sd), .second, .val (.int fr), .unset, .unset, .unset] [(.int (12 : Int32))])) rfl (hb hby at_11) rfl (by decide) (cap := 12) (by decide) (by decide) (by decide) (by decide)
  obtain ⟨bf, g1⟩ : ∃ z, z = h0.size := ⟨_, rfl⟩
  rw [← g1] at A1 st1
  have sz_bf : h0.size ≤ bf := Nat.le_trans (Keep.refl h0 []).1 (Nat.le_of_eq g1.symm)
  have K1 : Keep h0 hea1 [] := (Keep.refl h0 []).ext E1
  refine own_by (st1) ?_
  have V1 : own_AI Z hea1 bf .byte 12 (fun _ => (0 : Int32)) := own_AF.new A1 rfl
  show own_Go p.tables e below (T1.setTop (mkF m 13 #[.val (.long hd), .second, .val (.int fs), .val (.long sd), .second, .val (.int fr), .unset, .unset, .unset] [(.ref bf)])) _
  refine own_by (fun t k => XS.astore X1.here hx rfl (hb hby at_13) rfl rfl (l' := #[.val (.long hd), .second, .val (.int fs), .val (.long sd), .second, .val (.int fr), .val (.ref bf), .unset, .unset]) rfl k) ?_
  show own_Go p.tables e below (T1.setTop (mkF m 15 #[.val (.long hd), .second, .val (.int fs), .val (.long sd), .second, .val (.int fr), .val (.ref bf), .unset, .unset] [])) _
  refine own_by (fun t k => XS.bipush X1.here hx rfl (hb hby at_15) k) ?_
  show own_Go p.tables e below (T1.setTop (mkF m 17 #[.val (.long hd), .second, .val (.int fs), .val (.long sd), .second, .val (.int fr), .val (.ref bf), .unset, .unset] [(.int (12 : Int32))])) _
  obtain ⟨T2, hea2, k2, X2, e2, E2, A2, st2⟩ := newP X1 hx hZ (hw _ (List.mem_of_getElem? (i := 1) rfl)) e1 (g := (mkF m 17 #[.val (.long hd), .second, .val (.int fs), .val (.long sd), .second, .val (.int fr), .val (.ref bf), .unset, .unset] [(.int (12 : Int32))])) rfl (hb hby at_17) rfl (by decide) (cap := 12) (by decide) (by decide) (by decide) (by decide)
  obtain ⟨it, g2⟩ : ∃ z, z = hea1.size := ⟨_, rfl⟩
  rw [← g2] at A2 st2
  have ne_it_bf : it ≠ bf := Nat.ne_of_gt (g2 ▸ (V1).lt)
  have sz_it : h0.size ≤ it := Nat.le_trans K1.1 (Nat.le_of_eq g2.symm)
  have K2 : Keep h0 hea2 [] := K1.ext E2
  refine own_by (st2) ?_
  have V2 : own_AI Z hea2 it .byte 12 (fun _ => (0 : Int32)) := own_AF.new A2 rfl
  show own_Go p.tables e below (T2.setTop (mkF m 19 #[.val (.long hd), .second, .val (.int fs), .val (.long sd), .second, .val (.int fr), .val (.ref bf), .unset, .unset] [(.ref it)])) _
  refine own_by (fun t k => XS.astore X2.here hx rfl (hb hby at_19) rfl rfl (l' := #[.val (.long hd), .second, .val (.int fs), .val (.long sd), .second, .val (.int fr), .val (.ref bf), .val (.ref it), .unset]) rfl k) ?_
  show own_Go p.tables e below (T2.setTop (mkF m 21 #[.val (.long hd), .second, .val (.int fs), .val (.long sd), .second, .val (.int fr), .val (.ref bf), .val (.ref it), .unset] [])) _
  refine own_by (fun t k => XS.aload X2.here hx rfl (hb hby at_21) rfl rfl k) ?_
  show own_Go p.tables e below (T2.setTop (mkF m 23 #[.val (.long hd), .second, .val (.int fs), .val (.long sd), .second, .val (.int fr), .val (.ref bf), .val (.ref it), .unset] [(.ref bf)])) _
  refine own_by (fun t k => XS.lloadN X2.here hx rfl (hb hby at_23) rfl k) ?_
  show own_Go p.tables e below (T2.setTop (mkF m 24 #[.val (.long hd), .second, .val (.int fs), .val (.long sd), .second, .val (.int fr), .val (.ref bf), .val (.ref it), .unset] [(.long sd), (.ref bf)])) _
  obtain ⟨_, _, ⟨T3, L3, k3, n3⟩, -, X3, ⟨Lc3, hQ3, l3, y3, z3⟩, st3⟩ := Jvm.LawKit.callS X2 hx (y := (⟨"com/example/ordinal/ordinal/KeysPutHeadPinLaw", "fill", "([BJ)V"⟩ : MethodName)) hown (mvT hZ (hw _ (List.mem_of_getElem? (i := 2) rfl))) (mvT hZ (hw _ (List.mem_of_getElem? (i := 3) rfl))) (mvT hZ (hw _ (List.mem_of_getElem? (i := 4) rfl))) (mvT hZ (hw _ (List.mem_of_getElem? (i := 5) rfl))) (by decide) (backOf (W := 0) (rm_fill l Z a0 hw [] bf sd  hea2 n0 (Nat.le_trans Z0 K2.1) (V1.ext E2) (Nat.le_trans Z0 sz_bf)) hZ (hw _ (List.mem_of_getElem? (i := 5) rfl)) (hw _ (List.mem_of_getElem? (i := 4) rfl)) (by decide) (by decide)) (g := (mkF m 24 #[.val (.long hd), .second, .val (.int fs), .val (.long sd), .second, .val (.int fr), .val (.ref bf), .val (.ref it), .unset] [(.long sd), (.ref bf)])) rfl (by rw [hml]; rfl) (argsL := [(.ref bf), (.long sd)]) (rest := []) (lenOf pd_253 rfl) rfl (by show 2 * 0 + _ ≤ _; exact Nat.le_of_eq rfl) (hb hby at_24) (fun _ _ => ⟨rfl, e2, (by decide : 2 + 0 ≤ _), (by decide : 24 + 0 ≤ _)⟩)
  dsimp only [Pt.U, Pt.locs, Pt.cells, Pt.slots] at X3 l3 y3 z3 st3 hQ3
  subst l3 y3 z3
  obtain ⟨rfl, N3q, Kc3, Ac3⟩ := hQ3
  have N3 := Fr.app N0 N3q
  have K3 : Keep h0 T3.heap [] := K2.trans Kc3 (allS (Or.inr sz_bf) all0)
  refine own_by (st3) ?_
  show own_Go p.tables e below (T3.setTop (mkF m 27 #[.val (.long hd), .second, .val (.int fs), .val (.long sd), .second, .val (.int fr), .val (.ref bf), .val (.ref it), .unset] [])) _
  refine own_by (fun t k => XS.aload X3.here hx rfl (hb hby at_27) rfl rfl k) ?_
  show own_Go p.tables e below (T3.setTop (mkF m 29 #[.val (.long hd), .second, .val (.int fs), .val (.long sd), .second, .val (.int fr), .val (.ref bf), .val (.ref it), .unset] [(.ref it)])) _
  refine own_by (fun t k => XS.lloadN X3.here hx rfl (hb hby at_29) rfl k) ?_
  show own_Go p.tables e below (T3.setTop (mkF m 30 #[.val (.long hd), .second, .val (.int fs), .val (.long sd), .second, .val (.int fr), .val (.ref bf), .val (.ref it), .unset] [(.long sd), (.ref it)])) _
  obtain ⟨_, _, ⟨T4, L4, k4, n4⟩, -, X4, ⟨Lc4, hQ4, l4, y4, z4⟩, st4⟩ := Jvm.LawKit.callS X3 hx (y := (⟨"com/example/ordinal/ordinal/KeysPutHeadPinLaw", "fill", "([BJ)V"⟩ : MethodName)) hown (mvT hZ (hw _ (List.mem_of_getElem? (i := 2) rfl))) (mvT hZ (hw _ (List.mem_of_getElem? (i := 3) rfl))) (mvT hZ (hw _ (List.mem_of_getElem? (i := 4) rfl))) (mvT hZ (hw _ (List.mem_of_getElem? (i := 5) rfl))) (by decide) (backOf (W := 0) (rm_fill l Z a0 hw [] it sd  T3.heap n0 (Nat.le_trans Z0 K3.1) (V2.keep Kc3 (ninS ne_it_bf nin0)) (Nat.le_trans Z0 sz_it)) hZ (hw _ (List.mem_of_getElem? (i := 5) rfl)) (hw _ (List.mem_of_getElem? (i := 4) rfl)) (by decide) (by decide)) (g := (mkF m 30 #[.val (.long hd), .second, .val (.int fs), .val (.long sd), .second, .val (.int fr), .val (.ref bf), .val (.ref it), .unset] [(.long sd), (.ref it)])) rfl (by rw [hml]; rfl) (argsL := [(.ref it), (.long sd)]) (rest := []) (lenOf pd_253 rfl) rfl (by show 2 * 0 + _ ≤ _; exact Nat.le_of_eq rfl) (hb hby at_30) (fun _ _ => ⟨rfl, rfl, (by decide : 2 + 0 ≤ _), (by decide : 24 + 0 ≤ _)⟩)
  dsimp only [Pt.U, Pt.locs, Pt.cells, Pt.slots] at X4 l4 y4 z4 st4 hQ4
  subst l4 y4 z4
  obtain ⟨rfl, N4q, Kc4, Ac4⟩ := hQ4
  have N4 := Fr.app N3 N4q
  have K4 : Keep h0 T4.heap [] := K3.trans Kc4 (allS (Or.inr sz_it) all0)
  refine own_by (st4) ?_
  show own_Go p.tables e below (T4.setTop (mkF m 33 #[.val (.long hd), .second, .val (.int fs), .val (.long sd), .second, .val (.int fr), .val (.ref bf), .val (.ref it), .unset] [])) _
  refine own_by (fun t k => XS.lloadN X4.here hx rfl (hb hby at_33) rfl k) ?_
  show own_Go p.tables e below (T4.setTop (mkF m 34 #[.val (.long hd), .second, .val (.int fs), .val (.long sd), .second, .val (.int fr), .val (.ref bf), .val (.ref it), .unset] [(.long hd)])) _
  refine own_by (fun t k => XS.aload X4.here hx rfl (hb hby at_34) rfl rfl k) ?_
  show own_Go p.tables e below (T4.setTop (mkF m 36 #[.val (.long hd), .second, .val (.int fs), .val (.long sd), .second, .val (.int fr), .val (.ref bf), .val (.ref it), .unset] [(.ref it), (.long hd)])) _
  refine own_by (fun t k => XS.iload X4.here hx rfl (hb hby at_36) rfl k) ?_
  show own_Go p.tables e below (T4.setTop (mkF m 38 #[.val (.long hd), .second, .val (.int fs), .val (.long sd), .second, .val (.int fr), .val (.ref bf), .val (.ref it), .unset] [(.int fr), (.ref it), (.long hd)])) _
  obtain ⟨_, _, ⟨T5, L5, k5, n5⟩, -, X5, ⟨Lc5, hQ5, l5, y5, z5⟩, st5⟩ := Jvm.LawKit.callS X4 hx (y := (⟨"com/example/ordinal/ordinal/Keys", "putHead", "(J[BI)V"⟩ : MethodName)) hown (mvT hZ (hw _ (List.mem_of_getElem? (i := 6) rfl))) (mvT hZ (hw _ (List.mem_of_getElem? (i := 7) rfl))) (mvT hZ (hw _ (List.mem_of_getElem? (i := 8) rfl))) (mvT hZ (hw _ (List.mem_of_getElem? (i := 9) rfl))) (by decide) (backOf (W := 0) (rm_ph l Z a0 hw [] hd it fr F (own_fl sd) T4.heap n0 (Nat.le_trans Z0 K4.1) Ac4 (Nat.le_trans Z0 sz_it) hfr2 hF) hZ (hw _ (List.mem_of_getElem? (i := 9) rfl)) (hw _ (List.mem_of_getElem? (i := 8) rfl)) (by decide) (by decide)) (g := (mkF m 38 #[.val (.long hd), .second, .val (.int fs), .val (.long sd), .second, .val (.int fr), .val (.ref bf), .val (.ref it), .unset] [(.int fr), (.ref it), (.long hd)])) rfl (by rw [hml]; rfl) (argsL := [(.long hd), (.ref it), (.int fr)]) (rest := []) (lenOf pd_254 rfl) rfl (by show 2 * 0 + _ ≤ _; exact Nat.le_of_eq rfl) (hb hby at_38) (fun _ _ => ⟨rfl, rfl, (by decide : 2 + 0 ≤ _), (by decide : 24 + 0 ≤ _)⟩)
  dsimp only [Pt.U, Pt.locs, Pt.cells, Pt.slots] at X5 l5 y5 z5 st5 hQ5
  subst l5 y5 z5
  obtain ⟨rfl, N5q, Kc5, Ac5⟩ := hQ5
  have N5 := Fr.app N4 N5q
  have K5 : Keep h0 T5.heap [] := K4.trans Kc5 (allS (Or.inr sz_it) all0)
  refine own_by (st5) ?_
  show own_Go p.tables e below (T5.setTop (mkF m 41 #[.val (.long hd), .second, .val (.int fs), .val (.long sd), .second, .val (.int fr), .val (.ref bf), .val (.ref it), .unset] [])) _
  refine own_by (fun t k => XS.iconst X5.here hx rfl (hb hby at_41) k) ?_
  show own_Go p.tables e below (T5.setTop (mkF m 42 #[.val (.long hd), .second, .val (.int fs), .val (.long sd), .second, .val (.int fr), .val (.ref bf), .val (.ref it), .unset] [(.int (1 : Int32))])) _
  refine own_by (fun t k => XS.istore X5.here hx rfl (hb hby at_42) rfl (l' := #[.val (.long hd), .second, .val (.int fs), .val (.long sd), .second, .val (.int fr), .val (.ref bf), .val (.ref it), .val (.int (1 : Int32))]) rfl k) ?_
  show own_Go p.tables e below (T5.setTop (mkF m 44 #[.val (.long hd), .second, .val (.int fs), .val (.long sd), .second, .val (.int fr), .val (.ref bf), .val (.ref it), .val (.int (1 : Int32))] [])) _
  refine own_by (fun t k => XS.iload X5.here hx rfl (hb hby at_44) rfl k) ?_
  show own_Go p.tables e below (T5.setTop (mkF m 46 #[.val (.long hd), .second, .val (.int fs), .val (.long sd), .second, .val (.int fr), .val (.ref bf), .val (.ref it), .val (.int (1 : Int32))] [(.int (1 : Int32))])) _
  refine own_by (fun t k => XS.aload X5.here hx rfl (hb hby at_46) rfl rfl k) ?_
  show own_Go p.tables e below (T5.setTop (mkF m 48 #[.val (.long hd), .second, .val (.int fs), .val (.long sd), .second, .val (.int fr), .val (.ref bf), .val (.ref it), .val (.int (1 : Int32))] [(.ref it), (.int (1 : Int32))])) _
  refine own_by (fun t k => XS.aload X5.here hx rfl (hb hby at_48) rfl rfl k) ?_
  show own_Go p.tables e below (T5.setTop (mkF m 50 #[.val (.long hd), .second, .val (.int fs), .val (.long sd), .second, .val (.int fr), .val (.ref bf), .val (.ref it), .val (.int (1 : Int32))] [(.ref bf), (.ref it), (.int (1 : Int32))])) _
  refine own_by (fun t k => XS.iconst X5.here hx rfl (hb hby at_50) k) ?_
  show own_Go p.tables e below (T5.setTop (mkF m 51 #[.val (.long hd), .second, .val (.int fs), .val (.long sd), .second, .val (.int fr), .val (.ref bf), .val (.ref it), .val (.int (1 : Int32))] [(.int (0 : Int32)), (.ref bf), (.ref it), (.int (1 : Int32))])) _
  refine own_by (fun t k => XS.iload X5.here hx rfl (hb hby at_51) rfl k) ?_
  show own_Go p.tables e below (T5.setTop (mkF m 53 #[.val (.long hd), .second, .val (.int fs), .val (.long sd), .second, .val (.int fr), .val (.ref bf), .val (.ref it), .val (.int (1 : Int32))] [(.int fr), (.int (0 : Int32)), (.ref bf), (.ref it), (.int (1 : Int32))])) _
  refine own_by (fun t k => XS.lloadN X5.here hx rfl (hb hby at_53) rfl k) ?_
  show own_Go p.tables e below (T5.setTop (mkF m 54 #[.val (.long hd), .second, .val (.int fs), .val (.long sd), .second, .val (.int fr), .val (.ref bf), .val (.ref it), .val (.int (1 : Int32))] [(.long hd), (.int fr), (.int (0 : Int32)), (.ref bf), (.ref it), (.int (1 : Int32))])) _
  have c6 := ((Ac3.keep Kc4 (ninS (Ne.symm ne_it_bf) nin0)).keep Kc5 (ninS (Ne.symm ne_it_bf) nin0))
  obtain ⟨_, _, ⟨T7, L7, k7, n7⟩, -, X7, ⟨Lc7, hQ7, l7, y7, z7⟩, st7⟩ := Jvm.LawKit.callS X5 hx (y := (⟨"com/example/ordinal/ordinal/KeysPutHeadPinLaw", "at", "([B[BIIJ)Z"⟩ : MethodName)) hown (mvT hZ (hw _ (List.mem_of_getElem? (i := 14) rfl))) (mvT hZ (hw _ (List.mem_of_getElem? (i := 15) rfl))) (mvT hZ (hw _ (List.mem_of_getElem? (i := 4) rfl))) (mvT hZ (hw _ (List.mem_of_getElem? (i := 16) rfl))) (by decide) (backOf (W := 1) (rm_at l Z a0 hw [] it bf (0 : Int32) fr hd 0 (own_ph hd F (own_fl sd) (own_N F)) (own_fl sd) T5.heap n0 (Nat.le_trans Z0 K5.1) Ac5 c6 (by decide) rfl (by decide)) hZ (hw _ (List.mem_of_getElem? (i := 16) rfl)) (hw _ (List.mem_of_getElem? (i := 4) rfl)) (by decide) (by decide)) (g := (mkF m 54 #[.val (.long hd), .second, .val (.int fs), .val (.long sd), .second, .val (.int fr), .val (.ref bf), .val (.ref it), .val (.int (1 : Int32))] [(.long hd), (.int fr), (.int (0 : Int32)), (.ref bf), (.ref it), (.int (1 : Int32))])) rfl (by rw [hml]; rfl) (argsL := [(.ref it), (.ref bf), (.int (0 : Int32)), (.int fr), (.long hd)]) (rest := [(.int (1 : Int32))]) (lenOf pd_255 rfl) rfl (by show 2 * 0 + _ ≤ _; exact Nat.le_of_eq rfl) (hb hby at_54) (fun _ _ => ⟨rfl, rfl, (by decide : 2 + 0 ≤ _), (by decide : 24 + 0 ≤ _)⟩)
  dsimp only [Pt.U, Pt.locs, Pt.cells, Pt.slots] at X7 l7 y7 z7 st7 hQ7
  subst l7 y7 z7
  obtain ⟨r0, rfl, N7q, eh7, hr0⟩ := hQ7
  have N7 := Fr.app N5 N7q
  refine own_by (st7) ?_
  show own_Go p.tables e below (T7.setTop (mkF m 57 #[.val (.long hd), .second, .val (.int fs), .val (.long sd), .second, .val (.int fr), .val (.ref bf), .val (.ref it), .val (.int (1 : Int32))] [(.int r0), (.int (1 : Int32))])) _
  obtain rfl : r0 = (1 : Int32) := by rw [hr0, if_pos]; exact own_at (i := 0) hfr2 hF (by decide) rfl
  show own_Go p.tables e below (T7.setTop (mkF m 57 #[.val (.long hd), .second, .val (.int fs), .val (.long sd), .second, .val (.int fr), .val (.ref bf), .val (.ref it), .val (.int (1 : Int32))] [(.int (1 : Int32)), (.int (1 : Int32))])) _
  refine own_by (fun t k => XS.iand X7.here hx rfl (hb hby at_57) rfl k) ?_
  show own_Go p.tables e below (T7.setTop (mkF m 58 #[.val (.long hd), .second, .val (.int fs), .val (.long sd), .second, .val (.int fr), .val (.ref bf), .val (.ref it), .val (.int (1 : Int32))] [(.int ((1 : Int32) &&& (1 : Int32)))])) _
  obtain ⟨o0, ho0⟩ : ∃ z, z = ((1 : Int32) &&& (1 : Int32)) := ⟨_, rfl⟩
  rw [← ho0]
  show own_Go p.tables e below (T7.setTop (mkF m 58 #[.val (.long hd), .second, .val (.int fs), .val (.long sd), .second, .val (.int fr), .val (.ref bf), .val (.ref it), .val (.int (1 : Int32))] [(.int o0)])) _
  obtain rfl : o0 = (1 : Int32) := by rw [ho0]; decide
  show own_Go p.tables e below (T7.setTop (mkF m 58 #[.val (.long hd), .second, .val (.int fs), .val (.long sd), .second, .val (.int fr), .val (.ref bf), .val (.ref it), .val (.int (1 : Int32))] [(.int (1 : Int32))])) _
  refine own_by (fun t k => XS.istore X7.here hx rfl (hb hby at_58) rfl (l' := #[.val (.long hd), .second, .val (.int fs), .val (.long sd), .second, .val (.int fr), .val (.ref bf), .val (.ref it), .val (.int (1 : Int32))]) rfl k) ?_
  show own_Go p.tables e below (T7.setTop (mkF m 60 #[.val (.long hd), .second, .val (.int fs), .val (.long sd), .second, .val (.int fr), .val (.ref bf), .val (.ref it), .val (.int (1 : Int32))] [])) _
  refine own_by (fun t k => XS.iload X7.here hx rfl (hb hby at_60) rfl k) ?_
  show own_Go p.tables e below (T7.setTop (mkF m 62 #[.val (.long hd), .second, .val (.int fs), .val (.long sd), .second, .val (.int fr), .val (.ref bf), .val (.ref it), .val (.int (1 : Int32))] [(.int (1 : Int32))])) _
  refine own_by (fun t k => XS.aload X7.here hx rfl (hb hby at_62) rfl rfl k) ?_
  show own_Go p.tables e below (T7.setTop (mkF m 64 #[.val (.long hd), .second, .val (.int fs), .val (.long sd), .second, .val (.int fr), .val (.ref bf), .val (.ref it), .val (.int (1 : Int32))] [(.ref it), (.int (1 : Int32))])) _
  refine own_by (fun t k => XS.aload X7.here hx rfl (hb hby at_64) rfl rfl k) ?_
  show own_Go p.tables e below (T7.setTop (mkF m 66 #[.val (.long hd), .second, .val (.int fs), .val (.long sd), .second, .val (.int fr), .val (.ref bf), .val (.ref it), .val (.int (1 : Int32))] [(.ref bf), (.ref it), (.int (1 : Int32))])) _
  refine own_by (fun t k => XS.iconst X7.here hx rfl (hb hby at_66) k) ?_
  show own_Go p.tables e below (T7.setTop (mkF m 67 #[.val (.long hd), .second, .val (.int fs), .val (.long sd), .second, .val (.int fr), .val (.ref bf), .val (.ref it), .val (.int (1 : Int32))] [(.int (1 : Int32)), (.ref bf), (.ref it), (.int (1 : Int32))])) _
  refine own_by (fun t k => XS.iload X7.here hx rfl (hb hby at_67) rfl k) ?_
  show own_Go p.tables e below (T7.setTop (mkF m 69 #[.val (.long hd), .second, .val (.int fs), .val (.long sd), .second, .val (.int fr), .val (.ref bf), .val (.ref it), .val (.int (1 : Int32))] [(.int fr), (.int (1 : Int32)), (.ref bf), (.ref it), (.int (1 : Int32))])) _
  refine own_by (fun t k => XS.lloadN X7.here hx rfl (hb hby at_69) rfl k) ?_
  show own_Go p.tables e below (T7.setTop (mkF m 70 #[.val (.long hd), .second, .val (.int fs), .val (.long sd), .second, .val (.int fr), .val (.ref bf), .val (.ref it), .val (.int (1 : Int32))] [(.long hd), (.int fr), (.int (1 : Int32)), (.ref bf), (.ref it), (.int (1 : Int32))])) _
  obtain ⟨_, _, ⟨T8, L8, k8, n8⟩, -, X8, ⟨Lc8, hQ8, l8, y8, z8⟩, st8⟩ := Jvm.LawKit.callS X7 hx (y := (⟨"com/example/ordinal/ordinal/KeysPutHeadPinLaw", "at", "([B[BIIJ)Z"⟩ : MethodName)) hown (mvT hZ (hw _ (List.mem_of_getElem? (i := 14) rfl))) (mvT hZ (hw _ (List.mem_of_getElem? (i := 15) rfl))) (mvT hZ (hw _ (List.mem_of_getElem? (i := 4) rfl))) (mvT hZ (hw _ (List.mem_of_getElem? (i := 16) rfl))) (by decide) (backOf (W := 1) (rm_at l Z a0 hw [] it bf (1 : Int32) fr hd 1 (own_ph hd F (own_fl sd) (own_N F)) (own_fl sd) T5.heap n0 (Nat.le_trans Z0 K5.1) Ac5 c6 (by decide) rfl (by decide)) hZ (hw _ (List.mem_of_getElem? (i := 16) rfl)) (hw _ (List.mem_of_getElem? (i := 4) rfl)) (by decide) (by decide)) (g := (mkF m 70 #[.val (.long hd), .second, .val (.int fs), .val (.long sd), .second, .val (.int fr), .val (.ref bf), .val (.ref it), .val (.int (1 : Int32))] [(.long hd), (.int fr), (.int (1 : Int32)), (.ref bf), (.ref it), (.int (1 : Int32))])) rfl (by rw [hml]; rfl) (argsL := [(.ref it), (.ref bf), (.int (1 : Int32)), (.int fr), (.long hd)]) (rest := [(.int (1 : Int32))]) (lenOf pd_255 rfl) rfl (by show 2 * 0 + _ ≤ _; exact Nat.le_of_eq rfl) (hb hby at_70) (fun _ _ => ⟨rfl, eh7, (by decide : 2 + 0 ≤ _), (by decide : 24 + 0 ≤ _)⟩)
  dsimp only [Pt.U, Pt.locs, Pt.cells, Pt.slots] at X8 l8 y8 z8 st8 hQ8
  subst l8 y8 z8
  obtain ⟨r1, rfl, N8q, eh8, hr1⟩ := hQ8
  have N8 := Fr.app N7 N8q
  refine own_by (st8) ?_
  show own_Go p.tables e below (T8.setTop (mkF m 73 #[.val (.long hd), .second, .val (.int fs), .val (.long sd), .second, .val (.int fr), .val (.ref bf), .val (.ref it), .val (.int (1 : Int32))] [(.int r1), (.int (1 : Int32))])) _
  obtain rfl : r1 = (1 : Int32) := by rw [hr1, if_pos]; exact own_at (i := 1) hfr2 hF (by decide) rfl
  show own_Go p.tables e below (T8.setTop (mkF m 73 #[.val (.long hd), .second, .val (.int fs), .val (.long sd), .second, .val (.int fr), .val (.ref bf), .val (.ref it), .val (.int (1 : Int32))] [(.int (1 : Int32)), (.int (1 : Int32))])) _
  refine own_by (fun t k => XS.iand X8.here hx rfl (hb hby at_73) rfl k) ?_
  show own_Go p.tables e below (T8.setTop (mkF m 74 #[.val (.long hd), .second, .val (.int fs), .val (.long sd), .second, .val (.int fr), .val (.ref bf), .val (.ref it), .val (.int (1 : Int32))] [(.int ((1 : Int32) &&& (1 : Int32)))])) _
  obtain ⟨o1, ho1⟩ : ∃ z, z = ((1 : Int32) &&& (1 : Int32)) := ⟨_, rfl⟩
  rw [← ho1]
  show own_Go p.tables e below (T8.setTop (mkF m 74 #[.val (.long hd), .second, .val (.int fs), .val (.long sd), .second, .val (.int fr), .val (.ref bf), .val (.ref it), .val (.int (1 : Int32))] [(.int o1)])) _
  obtain rfl : o1 = (1 : Int32) := by rw [ho1]; decide
  show own_Go p.tables e below (T8.setTop (mkF m 74 #[.val (.long hd), .second, .val (.int fs), .val (.long sd), .second, .val (.int fr), .val (.ref bf), .val (.ref it), .val (.int (1 : Int32))] [(.int (1 : Int32))])) _
  refine own_by (fun t k => XS.istore X8.here hx rfl (hb hby at_74) rfl (l' := #[.val (.long hd), .second, .val (.int fs), .val (.long sd), .second, .val (.int fr), .val (.ref bf), .val (.ref it), .val (.int (1 : Int32))]) rfl k) ?_
  show own_Go p.tables e below (T8.setTop (mkF m 76 #[.val (.long hd), .second, .val (.int fs), .val (.long sd), .second, .val (.int fr), .val (.ref bf), .val (.ref it), .val (.int (1 : Int32))] [])) _
  refine own_by (fun t k => XS.iload X8.here hx rfl (hb hby at_76) rfl k) ?_
  show own_Go p.tables e below (T8.setTop (mkF m 78 #[.val (.long hd), .second, .val (.int fs), .val (.long sd), .second, .val (.int fr), .val (.ref bf), .val (.ref it), .val (.int (1 : Int32))] [(.int (1 : Int32))])) _
  refine own_by (fun t k => XS.aload X8.here hx rfl (hb hby at_78) rfl rfl k) ?_
  show own_Go p.tables e below (T8.setTop (mkF m 80 #[.val (.long hd), .second, .val (.int fs), .val (.long sd), .second, .val (.int fr), .val (.ref bf), .val (.ref it), .val (.int (1 : Int32))] [(.ref it), (.int (1 : Int32))])) _
  refine own_by (fun t k => XS.aload X8.here hx rfl (hb hby at_80) rfl rfl k) ?_
  show own_Go p.tables e below (T8.setTop (mkF m 82 #[.val (.long hd), .second, .val (.int fs), .val (.long sd), .second, .val (.int fr), .val (.ref bf), .val (.ref it), .val (.int (1 : Int32))] [(.ref bf), (.ref it), (.int (1 : Int32))])) _
  refine own_by (fun t k => XS.iconst X8.here hx rfl (hb hby at_82) k) ?_
  show own_Go p.tables e below (T8.setTop (mkF m 83 #[.val (.long hd), .second, .val (.int fs), .val (.long sd), .second, .val (.int fr), .val (.ref bf), .val (.ref it), .val (.int (1 : Int32))] [(.int (2 : Int32)), (.ref bf), (.ref it), (.int (1 : Int32))])) _
  refine own_by (fun t k => XS.iload X8.here hx rfl (hb hby at_83) rfl k) ?_
  show own_Go p.tables e below (T8.setTop (mkF m 85 #[.val (.long hd), .second, .val (.int fs), .val (.long sd), .second, .val (.int fr), .val (.ref bf), .val (.ref it), .val (.int (1 : Int32))] [(.int fr), (.int (2 : Int32)), (.ref bf), (.ref it), (.int (1 : Int32))])) _
  refine own_by (fun t k => XS.lloadN X8.here hx rfl (hb hby at_85) rfl k) ?_
  show own_Go p.tables e below (T8.setTop (mkF m 86 #[.val (.long hd), .second, .val (.int fs), .val (.long sd), .second, .val (.int fr), .val (.ref bf), .val (.ref it), .val (.int (1 : Int32))] [(.long hd), (.int fr), (.int (2 : Int32)), (.ref bf), (.ref it), (.int (1 : Int32))])) _
  obtain ⟨_, _, ⟨T9, L9, k9, n9⟩, -, X9, ⟨Lc9, hQ9, l9, y9, z9⟩, st9⟩ := Jvm.LawKit.callS X8 hx (y := (⟨"com/example/ordinal/ordinal/KeysPutHeadPinLaw", "at", "([B[BIIJ)Z"⟩ : MethodName)) hown (mvT hZ (hw _ (List.mem_of_getElem? (i := 14) rfl))) (mvT hZ (hw _ (List.mem_of_getElem? (i := 15) rfl))) (mvT hZ (hw _ (List.mem_of_getElem? (i := 4) rfl))) (mvT hZ (hw _ (List.mem_of_getElem? (i := 16) rfl))) (by decide) (backOf (W := 1) (rm_at l Z a0 hw [] it bf (2 : Int32) fr hd 2 (own_ph hd F (own_fl sd) (own_N F)) (own_fl sd) T5.heap n0 (Nat.le_trans Z0 K5.1) Ac5 c6 (by decide) rfl (by decide)) hZ (hw _ (List.mem_of_getElem? (i := 16) rfl)) (hw _ (List.mem_of_getElem? (i := 4) rfl)) (by decide) (by decide)) (g := (mkF m 86 #[.val (.long hd), .second, .val (.int fs), .val (.long sd), .second, .val (.int fr), .val (.ref bf), .val (.ref it), .val (.int (1 : Int32))] [(.long hd), (.int fr), (.int (2 : Int32)), (.ref bf), (.ref it), (.int (1 : Int32))])) rfl (by rw [hml]; rfl) (argsL := [(.ref it), (.ref bf), (.int (2 : Int32)), (.int fr), (.long hd)]) (rest := [(.int (1 : Int32))]) (lenOf pd_255 rfl) rfl (by show 2 * 0 + _ ≤ _; exact Nat.le_of_eq rfl) (hb hby at_86) (fun _ _ => ⟨rfl, eh8, (by decide : 2 + 0 ≤ _), (by decide : 24 + 0 ≤ _)⟩)
  dsimp only [Pt.U, Pt.locs, Pt.cells, Pt.slots] at X9 l9 y9 z9 st9 hQ9
  subst l9 y9 z9
  obtain ⟨r2, rfl, N9q, eh9, hr2⟩ := hQ9
  have N9 := Fr.app N8 N9q
  refine own_by (st9) ?_
  show own_Go p.tables e below (T9.setTop (mkF m 89 #[.val (.long hd), .second, .val (.int fs), .val (.long sd), .second, .val (.int fr), .val (.ref bf), .val (.ref it), .val (.int (1 : Int32))] [(.int r2), (.int (1 : Int32))])) _
  obtain rfl : r2 = (1 : Int32) := by rw [hr2, if_pos]; exact own_at (i := 2) hfr2 hF (by decide) rfl
  show own_Go p.tables e below (T9.setTop (mkF m 89 #[.val (.long hd), .second, .val (.int fs), .val (.long sd), .second, .val (.int fr), .val (.ref bf), .val (.ref it), .val (.int (1 : Int32))] [(.int (1 : Int32)), (.int (1 : Int32))])) _
  refine own_by (fun t k => XS.iand X9.here hx rfl (hb hby at_89) rfl k) ?_
  show own_Go p.tables e below (T9.setTop (mkF m 90 #[.val (.long hd), .second, .val (.int fs), .val (.long sd), .second, .val (.int fr), .val (.ref bf), .val (.ref it), .val (.int (1 : Int32))] [(.int ((1 : Int32) &&& (1 : Int32)))])) _
  obtain ⟨o2, ho2⟩ : ∃ z, z = ((1 : Int32) &&& (1 : Int32)) := ⟨_, rfl⟩
  rw [← ho2]
  show own_Go p.tables e below (T9.setTop (mkF m 90 #[.val (.long hd), .second, .val (.int fs), .val (.long sd), .second, .val (.int fr), .val (.ref bf), .val (.ref it), .val (.int (1 : Int32))] [(.int o2)])) _
  obtain rfl : o2 = (1 : Int32) := by rw [ho2]; decide
  show own_Go p.tables e below (T9.setTop (mkF m 90 #[.val (.long hd), .second, .val (.int fs), .val (.long sd), .second, .val (.int fr), .val (.ref bf), .val (.ref it), .val (.int (1 : Int32))] [(.int (1 : Int32))])) _
  refine own_by (fun t k => XS.istore X9.here hx rfl (hb hby at_90) rfl (l' := #[.val (.long hd), .second, .val (.int fs), .val (.long sd), .second, .val (.int fr), .val (.ref bf), .val (.ref it), .val (.int (1 : Int32))]) rfl k) ?_
  show own_Go p.tables e below (T9.setTop (mkF m 92 #[.val (.long hd), .second, .val (.int fs), .val (.long sd), .second, .val (.int fr), .val (.ref bf), .val (.ref it), .val (.int (1 : Int32))] [])) _
  refine own_by (fun t k => XS.iload X9.here hx rfl (hb hby at_92) rfl k) ?_
  show own_Go p.tables e below (T9.setTop (mkF m 94 #[.val (.long hd), .second, .val (.int fs), .val (.long sd), .second, .val (.int fr), .val (.ref bf), .val (.ref it), .val (.int (1 : Int32))] [(.int (1 : Int32))])) _
  refine own_by (fun t k => XS.aload X9.here hx rfl (hb hby at_94) rfl rfl k) ?_
  show own_Go p.tables e below (T9.setTop (mkF m 96 #[.val (.long hd), .second, .val (.int fs), .val (.long sd), .second, .val (.int fr), .val (.ref bf), .val (.ref it), .val (.int (1 : Int32))] [(.ref it), (.int (1 : Int32))])) _
  refine own_by (fun t k => XS.aload X9.here hx rfl (hb hby at_96) rfl rfl k) ?_
  show own_Go p.tables e below (T9.setTop (mkF m 98 #[.val (.long hd), .second, .val (.int fs), .val (.long sd), .second, .val (.int fr), .val (.ref bf), .val (.ref it), .val (.int (1 : Int32))] [(.ref bf), (.ref it), (.int (1 : Int32))])) _
  refine own_by (fun t k => XS.iconst X9.here hx rfl (hb hby at_98) k) ?_
  show own_Go p.tables e below (T9.setTop (mkF m 99 #[.val (.long hd), .second, .val (.int fs), .val (.long sd), .second, .val (.int fr), .val (.ref bf), .val (.ref it), .val (.int (1 : Int32))] [(.int (3 : Int32)), (.ref bf), (.ref it), (.int (1 : Int32))])) _
  refine own_by (fun t k => XS.iload X9.here hx rfl (hb hby at_99) rfl k) ?_
  show own_Go p.tables e below (T9.setTop (mkF m 101 #[.val (.long hd), .second, .val (.int fs), .val (.long sd), .second, .val (.int fr), .val (.ref bf), .val (.ref it), .val (.int (1 : Int32))] [(.int fr), (.int (3 : Int32)), (.ref bf), (.ref it), (.int (1 : Int32))])) _
  refine own_by (fun t k => XS.lloadN X9.here hx rfl (hb hby at_101) rfl k) ?_
  show own_Go p.tables e below (T9.setTop (mkF m 102 #[.val (.long hd), .second, .val (.int fs), .val (.long sd), .second, .val (.int fr), .val (.ref bf), .val (.ref it), .val (.int (1 : Int32))] [(.long hd), (.int fr), (.int (3 : Int32)), (.ref bf), (.ref it), (.int (1 : Int32))])) _
  obtain ⟨_, _, ⟨T10, L10, k10, n10⟩, -, X10, ⟨Lc10, hQ10, l10, y10, z10⟩, st10⟩ := Jvm.LawKit.callS X9 hx (y := (⟨"com/example/ordinal/ordinal/KeysPutHeadPinLaw", "at", "([B[BIIJ)Z"⟩ : MethodName)) hown (mvT hZ (hw _ (List.mem_of_getElem? (i := 14) rfl))) (mvT hZ (hw _ (List.mem_of_getElem? (i := 15) rfl))) (mvT hZ (hw _ (List.mem_of_getElem? (i := 4) rfl))) (mvT hZ (hw _ (List.mem_of_getElem? (i := 16) rfl))) (by decide) (backOf (W := 1) (rm_at l Z a0 hw [] it bf (3 : Int32) fr hd 3 (own_ph hd F (own_fl sd) (own_N F)) (own_fl sd) T5.heap n0 (Nat.le_trans Z0 K5.1) Ac5 c6 (by decide) rfl (by decide)) hZ (hw _ (List.mem_of_getElem? (i := 16) rfl)) (hw _ (List.mem_of_getElem? (i := 4) rfl)) (by decide) (by decide)) (g := (mkF m 102 #[.val (.long hd), .second, .val (.int fs), .val (.long sd), .second, .val (.int fr), .val (.ref bf), .val (.ref it), .val (.int (1 : Int32))] [(.long hd), (.int fr), (.int (3 : Int32)), (.ref bf), (.ref it), (.int (1 : Int32))])) rfl (by rw [hml]; rfl) (argsL := [(.ref it), (.ref bf), (.int (3 : Int32)), (.int fr), (.long hd)]) (rest := [(.int (1 : Int32))]) (lenOf pd_255 rfl) rfl (by show 2 * 0 + _ ≤ _; exact Nat.le_of_eq rfl) (hb hby at_102) (fun _ _ => ⟨rfl, eh9, (by decide : 2 + 0 ≤ _), (by decide : 24 + 0 ≤ _)⟩)
  dsimp only [Pt.U, Pt.locs, Pt.cells, Pt.slots] at X10 l10 y10 z10 st10 hQ10
  subst l10 y10 z10
  obtain ⟨r3, rfl, N10q, eh10, hr3⟩ := hQ10
  have N10 := Fr.app N9 N10q
  refine own_by (st10) ?_
  show own_Go p.tables e below (T10.setTop (mkF m 105 #[.val (.long hd), .second, .val (.int fs), .val (.long sd), .second, .val (.int fr), .val (.ref bf), .val (.ref it), .val (.int (1 : Int32))] [(.int r3), (.int (1 : Int32))])) _
  obtain rfl : r3 = (1 : Int32) := by rw [hr3, if_pos]; exact own_at (i := 3) hfr2 hF (by decide) rfl
  show own_Go p.tables e below (T10.setTop (mkF m 105 #[.val (.long hd), .second, .val (.int fs), .val (.long sd), .second, .val (.int fr), .val (.ref bf), .val (.ref it), .val (.int (1 : Int32))] [(.int (1 : Int32)), (.int (1 : Int32))])) _
  refine own_by (fun t k => XS.iand X10.here hx rfl (hb hby at_105) rfl k) ?_
  show own_Go p.tables e below (T10.setTop (mkF m 106 #[.val (.long hd), .second, .val (.int fs), .val (.long sd), .second, .val (.int fr), .val (.ref bf), .val (.ref it), .val (.int (1 : Int32))] [(.int ((1 : Int32) &&& (1 : Int32)))])) _
  obtain ⟨o3, ho3⟩ : ∃ z, z = ((1 : Int32) &&& (1 : Int32)) := ⟨_, rfl⟩
  rw [← ho3]
  show own_Go p.tables e below (T10.setTop (mkF m 106 #[.val (.long hd), .second, .val (.int fs), .val (.long sd), .second, .val (.int fr), .val (.ref bf), .val (.ref it), .val (.int (1 : Int32))] [(.int o3)])) _
  obtain rfl : o3 = (1 : Int32) := by rw [ho3]; decide
  show own_Go p.tables e below (T10.setTop (mkF m 106 #[.val (.long hd), .second, .val (.int fs), .val (.long sd), .second, .val (.int fr), .val (.ref bf), .val (.ref it), .val (.int (1 : Int32))] [(.int (1 : Int32))])) _
  refine own_by (fun t k => XS.istore X10.here hx rfl (hb hby at_106) rfl (l' := #[.val (.long hd), .second, .val (.int fs), .val (.long sd), .second, .val (.int fr), .val (.ref bf), .val (.ref it), .val (.int (1 : Int32))]) rfl k) ?_
  show own_Go p.tables e below (T10.setTop (mkF m 108 #[.val (.long hd), .second, .val (.int fs), .val (.long sd), .second, .val (.int fr), .val (.ref bf), .val (.ref it), .val (.int (1 : Int32))] [])) _
  refine own_by (fun t k => XS.iload X10.here hx rfl (hb hby at_108) rfl k) ?_
  show own_Go p.tables e below (T10.setTop (mkF m 110 #[.val (.long hd), .second, .val (.int fs), .val (.long sd), .second, .val (.int fr), .val (.ref bf), .val (.ref it), .val (.int (1 : Int32))] [(.int (1 : Int32))])) _
  refine own_by (fun t k => XS.aload X10.here hx rfl (hb hby at_110) rfl rfl k) ?_
  show own_Go p.tables e below (T10.setTop (mkF m 112 #[.val (.long hd), .second, .val (.int fs), .val (.long sd), .second, .val (.int fr), .val (.ref bf), .val (.ref it), .val (.int (1 : Int32))] [(.ref it), (.int (1 : Int32))])) _
  refine own_by (fun t k => XS.aload X10.here hx rfl (hb hby at_112) rfl rfl k) ?_
  show own_Go p.tables e below (T10.setTop (mkF m 114 #[.val (.long hd), .second, .val (.int fs), .val (.long sd), .second, .val (.int fr), .val (.ref bf), .val (.ref it), .val (.int (1 : Int32))] [(.ref bf), (.ref it), (.int (1 : Int32))])) _
  refine own_by (fun t k => XS.iconst X10.here hx rfl (hb hby at_114) k) ?_
  show own_Go p.tables e below (T10.setTop (mkF m 115 #[.val (.long hd), .second, .val (.int fs), .val (.long sd), .second, .val (.int fr), .val (.ref bf), .val (.ref it), .val (.int (1 : Int32))] [(.int (4 : Int32)), (.ref bf), (.ref it), (.int (1 : Int32))])) _
  refine own_by (fun t k => XS.iload X10.here hx rfl (hb hby at_115) rfl k) ?_
  show own_Go p.tables e below (T10.setTop (mkF m 117 #[.val (.long hd), .second, .val (.int fs), .val (.long sd), .second, .val (.int fr), .val (.ref bf), .val (.ref it), .val (.int (1 : Int32))] [(.int fr), (.int (4 : Int32)), (.ref bf), (.ref it), (.int (1 : Int32))])) _
  refine own_by (fun t k => XS.lloadN X10.here hx rfl (hb hby at_117) rfl k) ?_
  show own_Go p.tables e below (T10.setTop (mkF m 118 #[.val (.long hd), .second, .val (.int fs), .val (.long sd), .second, .val (.int fr), .val (.ref bf), .val (.ref it), .val (.int (1 : Int32))] [(.long hd), (.int fr), (.int (4 : Int32)), (.ref bf), (.ref it), (.int (1 : Int32))])) _
  obtain ⟨_, _, ⟨T11, L11, k11, n11⟩, -, X11, ⟨Lc11, hQ11, l11, y11, z11⟩, st11⟩ := Jvm.LawKit.callS X10 hx (y := (⟨"com/example/ordinal/ordinal/KeysPutHeadPinLaw", "at", "([B[BIIJ)Z"⟩ : MethodName)) hown (mvT hZ (hw _ (List.mem_of_getElem? (i := 14) rfl))) (mvT hZ (hw _ (List.mem_of_getElem? (i := 15) rfl))) (mvT hZ (hw _ (List.mem_of_getElem? (i := 4) rfl))) (mvT hZ (hw _ (List.mem_of_getElem? (i := 16) rfl))) (by decide) (backOf (W := 1) (rm_at l Z a0 hw [] it bf (4 : Int32) fr hd 4 (own_ph hd F (own_fl sd) (own_N F)) (own_fl sd) T5.heap n0 (Nat.le_trans Z0 K5.1) Ac5 c6 (by decide) rfl (by decide)) hZ (hw _ (List.mem_of_getElem? (i := 16) rfl)) (hw _ (List.mem_of_getElem? (i := 4) rfl)) (by decide) (by decide)) (g := (mkF m 118 #[.val (.long hd), .second, .val (.int fs), .val (.long sd), .second, .val (.int fr), .val (.ref bf), .val (.ref it), .val (.int (1 : Int32))] [(.long hd), (.int fr), (.int (4 : Int32)), (.ref bf), (.ref it), (.int (1 : Int32))])) rfl (by rw [hml]; rfl) (argsL := [(.ref it), (.ref bf), (.int (4 : Int32)), (.int fr), (.long hd)]) (rest := [(.int (1 : Int32))]) (lenOf pd_255 rfl) rfl (by show 2 * 0 + _ ≤ _; exact Nat.le_of_eq rfl) (hb hby at_118) (fun _ _ => ⟨rfl, eh10, (by decide : 2 + 0 ≤ _), (by decide : 24 + 0 ≤ _)⟩)
  dsimp only [Pt.U, Pt.locs, Pt.cells, Pt.slots] at X11 l11 y11 z11 st11 hQ11
  subst l11 y11 z11
  obtain ⟨r4, rfl, N11q, eh11, hr4⟩ := hQ11
  have N11 := Fr.app N10 N11q
  refine own_by (st11) ?_
  show own_Go p.tables e below (T11.setTop (mkF m 121 #[.val (.long hd), .second, .val (.int fs), .val (.long sd), .second, .val (.int fr), .val (.ref bf), .val (.ref it), .val (.int (1 : Int32))] [(.int r4), (.int (1 : Int32))])) _
  obtain rfl : r4 = (1 : Int32) := by rw [hr4, if_pos]; exact own_at (i := 4) hfr2 hF (by decide) rfl
  show own_Go p.tables e below (T11.setTop (mkF m 121 #[.val (.long hd), .second, .val (.int fs), .val (.long sd), .second, .val (.int fr), .val (.ref bf), .val (.ref it), .val (.int (1 : Int32))] [(.int (1 : Int32)), (.int (1 : Int32))])) _
  refine own_by (fun t k => XS.iand X11.here hx rfl (hb hby at_121) rfl k) ?_
  show own_Go p.tables e below (T11.setTop (mkF m 122 #[.val (.long hd), .second, .val (.int fs), .val (.long sd), .second, .val (.int fr), .val (.ref bf), .val (.ref it), .val (.int (1 : Int32))] [(.int ((1 : Int32) &&& (1 : Int32)))])) _
  obtain ⟨o4, ho4⟩ : ∃ z, z = ((1 : Int32) &&& (1 : Int32)) := ⟨_, rfl⟩
  rw [← ho4]
  show own_Go p.tables e below (T11.setTop (mkF m 122 #[.val (.long hd), .second, .val (.int fs), .val (.long sd), .second, .val (.int fr), .val (.ref bf), .val (.ref it), .val (.int (1 : Int32))] [(.int o4)])) _
  obtain rfl : o4 = (1 : Int32) := by rw [ho4]; decide
  show own_Go p.tables e below (T11.setTop (mkF m 122 #[.val (.long hd), .second, .val (.int fs), .val (.long sd), .second, .val (.int fr), .val (.ref bf), .val (.ref it), .val (.int (1 : Int32))] [(.int (1 : Int32))])) _
  refine own_by (fun t k => XS.istore X11.here hx rfl (hb hby at_122) rfl (l' := #[.val (.long hd), .second, .val (.int fs), .val (.long sd), .second, .val (.int fr), .val (.ref bf), .val (.ref it), .val (.int (1 : Int32))]) rfl k) ?_
  show own_Go p.tables e below (T11.setTop (mkF m 124 #[.val (.long hd), .second, .val (.int fs), .val (.long sd), .second, .val (.int fr), .val (.ref bf), .val (.ref it), .val (.int (1 : Int32))] [])) _
  refine own_by (fun t k => XS.iload X11.here hx rfl (hb hby at_124) rfl k) ?_
  show own_Go p.tables e below (T11.setTop (mkF m 126 #[.val (.long hd), .second, .val (.int fs), .val (.long sd), .second, .val (.int fr), .val (.ref bf), .val (.ref it), .val (.int (1 : Int32))] [(.int (1 : Int32))])) _
  refine own_by (fun t k => XS.aload X11.here hx rfl (hb hby at_126) rfl rfl k) ?_
  show own_Go p.tables e below (T11.setTop (mkF m 128 #[.val (.long hd), .second, .val (.int fs), .val (.long sd), .second, .val (.int fr), .val (.ref bf), .val (.ref it), .val (.int (1 : Int32))] [(.ref it), (.int (1 : Int32))])) _
  refine own_by (fun t k => XS.aload X11.here hx rfl (hb hby at_128) rfl rfl k) ?_
  show own_Go p.tables e below (T11.setTop (mkF m 130 #[.val (.long hd), .second, .val (.int fs), .val (.long sd), .second, .val (.int fr), .val (.ref bf), .val (.ref it), .val (.int (1 : Int32))] [(.ref bf), (.ref it), (.int (1 : Int32))])) _
  refine own_by (fun t k => XS.iconst X11.here hx rfl (hb hby at_130) k) ?_
  show own_Go p.tables e below (T11.setTop (mkF m 131 #[.val (.long hd), .second, .val (.int fs), .val (.long sd), .second, .val (.int fr), .val (.ref bf), .val (.ref it), .val (.int (1 : Int32))] [(.int (5 : Int32)), (.ref bf), (.ref it), (.int (1 : Int32))])) _
  refine own_by (fun t k => XS.iload X11.here hx rfl (hb hby at_131) rfl k) ?_
  show own_Go p.tables e below (T11.setTop (mkF m 133 #[.val (.long hd), .second, .val (.int fs), .val (.long sd), .second, .val (.int fr), .val (.ref bf), .val (.ref it), .val (.int (1 : Int32))] [(.int fr), (.int (5 : Int32)), (.ref bf), (.ref it), (.int (1 : Int32))])) _
  refine own_by (fun t k => XS.lloadN X11.here hx rfl (hb hby at_133) rfl k) ?_
  show own_Go p.tables e below (T11.setTop (mkF m 134 #[.val (.long hd), .second, .val (.int fs), .val (.long sd), .second, .val (.int fr), .val (.ref bf), .val (.ref it), .val (.int (1 : Int32))] [(.long hd), (.int fr), (.int (5 : Int32)), (.ref bf), (.ref it), (.int (1 : Int32))])) _
  obtain ⟨_, _, ⟨T12, L12, k12, n12⟩, -, X12, ⟨Lc12, hQ12, l12, y12, z12⟩, st12⟩ := Jvm.LawKit.callS X11 hx (y := (⟨"com/example/ordinal/ordinal/KeysPutHeadPinLaw", "at", "([B[BIIJ)Z"⟩ : MethodName)) hown (mvT hZ (hw _ (List.mem_of_getElem? (i := 14) rfl))) (mvT hZ (hw _ (List.mem_of_getElem? (i := 15) rfl))) (mvT hZ (hw _ (List.mem_of_getElem? (i := 4) rfl))) (mvT hZ (hw _ (List.mem_of_getElem? (i := 16) rfl))) (by decide) (backOf (W := 1) (rm_at l Z a0 hw [] it bf (5 : Int32) fr hd 5 (own_ph hd F (own_fl sd) (own_N F)) (own_fl sd) T5.heap n0 (Nat.le_trans Z0 K5.1) Ac5 c6 (by decide) rfl (by decide)) hZ (hw _ (List.mem_of_getElem? (i := 16) rfl)) (hw _ (List.mem_of_getElem? (i := 4) rfl)) (by decide) (by decide)) (g := (mkF m 134 #[.val (.long hd), .second, .val (.int fs), .val (.long sd), .second, .val (.int fr), .val (.ref bf), .val (.ref it), .val (.int (1 : Int32))] [(.long hd), (.int fr), (.int (5 : Int32)), (.ref bf), (.ref it), (.int (1 : Int32))])) rfl (by rw [hml]; rfl) (argsL := [(.ref it), (.ref bf), (.int (5 : Int32)), (.int fr), (.long hd)]) (rest := [(.int (1 : Int32))]) (lenOf pd_255 rfl) rfl (by show 2 * 0 + _ ≤ _; exact Nat.le_of_eq rfl) (hb hby at_134) (fun _ _ => ⟨rfl, eh11, (by decide : 2 + 0 ≤ _), (by decide : 24 + 0 ≤ _)⟩)
  dsimp only [Pt.U, Pt.locs, Pt.cells, Pt.slots] at X12 l12 y12 z12 st12 hQ12
  subst l12 y12 z12
  obtain ⟨r5, rfl, N12q, eh12, hr5⟩ := hQ12
  have N12 := Fr.app N11 N12q
  refine own_by (st12) ?_
  show own_Go p.tables e below (T12.setTop (mkF m 137 #[.val (.long hd), .second, .val (.int fs), .val (.long sd), .second, .val (.int fr), .val (.ref bf), .val (.ref it), .val (.int (1 : Int32))] [(.int r5), (.int (1 : Int32))])) _
  obtain rfl : r5 = (1 : Int32) := by rw [hr5, if_pos]; exact own_at (i := 5) hfr2 hF (by decide) rfl
  show own_Go p.tables e below (T12.setTop (mkF m 137 #[.val (.long hd), .second, .val (.int fs), .val (.long sd), .second, .val (.int fr), .val (.ref bf), .val (.ref it), .val (.int (1 : Int32))] [(.int (1 : Int32)), (.int (1 : Int32))])) _
  refine own_by (fun t k => XS.iand X12.here hx rfl (hb hby at_137) rfl k) ?_
  show own_Go p.tables e below (T12.setTop (mkF m 138 #[.val (.long hd), .second, .val (.int fs), .val (.long sd), .second, .val (.int fr), .val (.ref bf), .val (.ref it), .val (.int (1 : Int32))] [(.int ((1 : Int32) &&& (1 : Int32)))])) _
  obtain ⟨o5, ho5⟩ : ∃ z, z = ((1 : Int32) &&& (1 : Int32)) := ⟨_, rfl⟩
  rw [← ho5]
  show own_Go p.tables e below (T12.setTop (mkF m 138 #[.val (.long hd), .second, .val (.int fs), .val (.long sd), .second, .val (.int fr), .val (.ref bf), .val (.ref it), .val (.int (1 : Int32))] [(.int o5)])) _
  obtain rfl : o5 = (1 : Int32) := by rw [ho5]; decide
  show own_Go p.tables e below (T12.setTop (mkF m 138 #[.val (.long hd), .second, .val (.int fs), .val (.long sd), .second, .val (.int fr), .val (.ref bf), .val (.ref it), .val (.int (1 : Int32))] [(.int (1 : Int32))])) _
  refine own_by (fun t k => XS.istore X12.here hx rfl (hb hby at_138) rfl (l' := #[.val (.long hd), .second, .val (.int fs), .val (.long sd), .second, .val (.int fr), .val (.ref bf), .val (.ref it), .val (.int (1 : Int32))]) rfl k) ?_
  show own_Go p.tables e below (T12.setTop (mkF m 140 #[.val (.long hd), .second, .val (.int fs), .val (.long sd), .second, .val (.int fr), .val (.ref bf), .val (.ref it), .val (.int (1 : Int32))] [])) _
  refine own_by (fun t k => XS.iload X12.here hx rfl (hb hby at_140) rfl k) ?_
  show own_Go p.tables e below (T12.setTop (mkF m 142 #[.val (.long hd), .second, .val (.int fs), .val (.long sd), .second, .val (.int fr), .val (.ref bf), .val (.ref it), .val (.int (1 : Int32))] [(.int (1 : Int32))])) _
  refine own_by (fun t k => XS.aload X12.here hx rfl (hb hby at_142) rfl rfl k) ?_
  show own_Go p.tables e below (T12.setTop (mkF m 144 #[.val (.long hd), .second, .val (.int fs), .val (.long sd), .second, .val (.int fr), .val (.ref bf), .val (.ref it), .val (.int (1 : Int32))] [(.ref it), (.int (1 : Int32))])) _
  refine own_by (fun t k => XS.aload X12.here hx rfl (hb hby at_144) rfl rfl k) ?_
  show own_Go p.tables e below (T12.setTop (mkF m 146 #[.val (.long hd), .second, .val (.int fs), .val (.long sd), .second, .val (.int fr), .val (.ref bf), .val (.ref it), .val (.int (1 : Int32))] [(.ref bf), (.ref it), (.int (1 : Int32))])) _
  refine own_by (fun t k => XS.bipush X12.here hx rfl (hb hby at_146) k) ?_
  show own_Go p.tables e below (T12.setTop (mkF m 148 #[.val (.long hd), .second, .val (.int fs), .val (.long sd), .second, .val (.int fr), .val (.ref bf), .val (.ref it), .val (.int (1 : Int32))] [(.int (6 : Int32)), (.ref bf), (.ref it), (.int (1 : Int32))])) _
  refine own_by (fun t k => XS.iload X12.here hx rfl (hb hby at_148) rfl k) ?_
  show own_Go p.tables e below (T12.setTop (mkF m 150 #[.val (.long hd), .second, .val (.int fs), .val (.long sd), .second, .val (.int fr), .val (.ref bf), .val (.ref it), .val (.int (1 : Int32))] [(.int fr), (.int (6 : Int32)), (.ref bf), (.ref it), (.int (1 : Int32))])) _
  refine own_by (fun t k => XS.lloadN X12.here hx rfl (hb hby at_150) rfl k) ?_
  show own_Go p.tables e below (T12.setTop (mkF m 151 #[.val (.long hd), .second, .val (.int fs), .val (.long sd), .second, .val (.int fr), .val (.ref bf), .val (.ref it), .val (.int (1 : Int32))] [(.long hd), (.int fr), (.int (6 : Int32)), (.ref bf), (.ref it), (.int (1 : Int32))])) _
  obtain ⟨_, _, ⟨T13, L13, k13, n13⟩, -, X13, ⟨Lc13, hQ13, l13, y13, z13⟩, st13⟩ := Jvm.LawKit.callS X12 hx (y := (⟨"com/example/ordinal/ordinal/KeysPutHeadPinLaw", "at", "([B[BIIJ)Z"⟩ : MethodName)) hown (mvT hZ (hw _ (List.mem_of_getElem? (i := 14) rfl))) (mvT hZ (hw _ (List.mem_of_getElem? (i := 15) rfl))) (mvT hZ (hw _ (List.mem_of_getElem? (i := 4) rfl))) (mvT hZ (hw _ (List.mem_of_getElem? (i := 16) rfl))) (by decide) (backOf (W := 1) (rm_at l Z a0 hw [] it bf (6 : Int32) fr hd 6 (own_ph hd F (own_fl sd) (own_N F)) (own_fl sd) T5.heap n0 (Nat.le_trans Z0 K5.1) Ac5 c6 (by decide) rfl (by decide)) hZ (hw _ (List.mem_of_getElem? (i := 16) rfl)) (hw _ (List.mem_of_getElem? (i := 4) rfl)) (by decide) (by decide)) (g := (mkF m 151 #[.val (.long hd), .second, .val (.int fs), .val (.long sd), .second, .val (.int fr), .val (.ref bf), .val (.ref it), .val (.int (1 : Int32))] [(.long hd), (.int fr), (.int (6 : Int32)), (.ref bf), (.ref it), (.int (1 : Int32))])) rfl (by rw [hml]; rfl) (argsL := [(.ref it), (.ref bf), (.int (6 : Int32)), (.int fr), (.long hd)]) (rest := [(.int (1 : Int32))]) (lenOf pd_255 rfl) rfl (by show 2 * 0 + _ ≤ _; exact Nat.le_of_eq rfl) (hb hby at_151) (fun _ _ => ⟨rfl, eh12, (by decide : 2 + 0 ≤ _), (by decide : 24 + 0 ≤ _)⟩)
  dsimp only [Pt.U, Pt.locs, Pt.cells, Pt.slots] at X13 l13 y13 z13 st13 hQ13
  subst l13 y13 z13
  obtain ⟨r6, rfl, N13q, eh13, hr6⟩ := hQ13
  have N13 := Fr.app N12 N13q
  refine own_by (st13) ?_
  show own_Go p.tables e below (T13.setTop (mkF m 154 #[.val (.long hd), .second, .val (.int fs), .val (.long sd), .second, .val (.int fr), .val (.ref bf), .val (.ref it), .val (.int (1 : Int32))] [(.int r6), (.int (1 : Int32))])) _
  obtain rfl : r6 = (1 : Int32) := by rw [hr6, if_pos]; exact own_at (i := 6) hfr2 hF (by decide) rfl
  show own_Go p.tables e below (T13.setTop (mkF m 154 #[.val (.long hd), .second, .val (.int fs), .val (.long sd), .second, .val (.int fr), .val (.ref bf), .val (.ref it), .val (.int (1 : Int32))] [(.int (1 : Int32)), (.int (1 : Int32))])) _
  refine own_by (fun t k => XS.iand X13.here hx rfl (hb hby at_154) rfl k) ?_
  show own_Go p.tables e below (T13.setTop (mkF m 155 #[.val (.long hd), .second, .val (.int fs), .val (.long sd), .second, .val (.int fr), .val (.ref bf), .val (.ref it), .val (.int (1 : Int32))] [(.int ((1 : Int32) &&& (1 : Int32)))])) _
  obtain ⟨o6, ho6⟩ : ∃ z, z = ((1 : Int32) &&& (1 : Int32)) := ⟨_, rfl⟩
  rw [← ho6]
  show own_Go p.tables e below (T13.setTop (mkF m 155 #[.val (.long hd), .second, .val (.int fs), .val (.long sd), .second, .val (.int fr), .val (.ref bf), .val (.ref it), .val (.int (1 : Int32))] [(.int o6)])) _
  obtain rfl : o6 = (1 : Int32) := by rw [ho6]; decide
  show own_Go p.tables e below (T13.setTop (mkF m 155 #[.val (.long hd), .second, .val (.int fs), .val (.long sd), .second, .val (.int fr), .val (.ref bf), .val (.ref it), .val (.int (1 : Int32))] [(.int (1 : Int32))])) _
  refine own_by (fun t k => XS.istore X13.here hx rfl (hb hby at_155) rfl (l' := #[.val (.long hd), .second, .val (.int fs), .val (.long sd), .second, .val (.int fr), .val (.ref bf), .val (.ref it), .val (.int (1 : Int32))]) rfl k) ?_
  show own_Go p.tables e below (T13.setTop (mkF m 157 #[.val (.long hd), .second, .val (.int fs), .val (.long sd), .second, .val (.int fr), .val (.ref bf), .val (.ref it), .val (.int (1 : Int32))] [])) _
  refine own_by (fun t k => XS.iload X13.here hx rfl (hb hby at_157) rfl k) ?_
  show own_Go p.tables e below (T13.setTop (mkF m 159 #[.val (.long hd), .second, .val (.int fs), .val (.long sd), .second, .val (.int fr), .val (.ref bf), .val (.ref it), .val (.int (1 : Int32))] [(.int (1 : Int32))])) _
  refine own_by (fun t k => XS.aload X13.here hx rfl (hb hby at_159) rfl rfl k) ?_
  show own_Go p.tables e below (T13.setTop (mkF m 161 #[.val (.long hd), .second, .val (.int fs), .val (.long sd), .second, .val (.int fr), .val (.ref bf), .val (.ref it), .val (.int (1 : Int32))] [(.ref it), (.int (1 : Int32))])) _
  refine own_by (fun t k => XS.aload X13.here hx rfl (hb hby at_161) rfl rfl k) ?_
  show own_Go p.tables e below (T13.setTop (mkF m 163 #[.val (.long hd), .second, .val (.int fs), .val (.long sd), .second, .val (.int fr), .val (.ref bf), .val (.ref it), .val (.int (1 : Int32))] [(.ref bf), (.ref it), (.int (1 : Int32))])) _
  refine own_by (fun t k => XS.bipush X13.here hx rfl (hb hby at_163) k) ?_
  show own_Go p.tables e below (T13.setTop (mkF m 165 #[.val (.long hd), .second, .val (.int fs), .val (.long sd), .second, .val (.int fr), .val (.ref bf), .val (.ref it), .val (.int (1 : Int32))] [(.int (7 : Int32)), (.ref bf), (.ref it), (.int (1 : Int32))])) _
  refine own_by (fun t k => XS.iload X13.here hx rfl (hb hby at_165) rfl k) ?_
  show own_Go p.tables e below (T13.setTop (mkF m 167 #[.val (.long hd), .second, .val (.int fs), .val (.long sd), .second, .val (.int fr), .val (.ref bf), .val (.ref it), .val (.int (1 : Int32))] [(.int fr), (.int (7 : Int32)), (.ref bf), (.ref it), (.int (1 : Int32))])) _
  refine own_by (fun t k => XS.lloadN X13.here hx rfl (hb hby at_167) rfl k) ?_
  show own_Go p.tables e below (T13.setTop (mkF m 168 #[.val (.long hd), .second, .val (.int fs), .val (.long sd), .second, .val (.int fr), .val (.ref bf), .val (.ref it), .val (.int (1 : Int32))] [(.long hd), (.int fr), (.int (7 : Int32)), (.ref bf), (.ref it), (.int (1 : Int32))])) _
  obtain ⟨_, _, ⟨T14, L14, k14, n14⟩, -, X14, ⟨Lc14, hQ14, l14, y14, z14⟩, st14⟩ := Jvm.LawKit.callS X13 hx (y := (⟨"com/example/ordinal/ordinal/KeysPutHeadPinLaw", "at", "([B[BIIJ)Z"⟩ : MethodName)) hown (mvT hZ (hw _ (List.mem_of_getElem? (i := 14) rfl))) (mvT hZ (hw _ (List.mem_of_getElem? (i := 15) rfl))) (mvT hZ (hw _ (List.mem_of_getElem? (i := 4) rfl))) (mvT hZ (hw _ (List.mem_of_getElem? (i := 16) rfl))) (by decide) (backOf (W := 1) (rm_at l Z a0 hw [] it bf (7 : Int32) fr hd 7 (own_ph hd F (own_fl sd) (own_N F)) (own_fl sd) T5.heap n0 (Nat.le_trans Z0 K5.1) Ac5 c6 (by decide) rfl (by decide)) hZ (hw _ (List.mem_of_getElem? (i := 16) rfl)) (hw _ (List.mem_of_getElem? (i := 4) rfl)) (by decide) (by decide)) (g := (mkF m 168 #[.val (.long hd), .second, .val (.int fs), .val (.long sd), .second, .val (.int fr), .val (.ref bf), .val (.ref it), .val (.int (1 : Int32))] [(.long hd), (.int fr), (.int (7 : Int32)), (.ref bf), (.ref it), (.int (1 : Int32))])) rfl (by rw [hml]; rfl) (argsL := [(.ref it), (.ref bf), (.int (7 : Int32)), (.int fr), (.long hd)]) (rest := [(.int (1 : Int32))]) (lenOf pd_255 rfl) rfl (by show 2 * 0 + _ ≤ _; exact Nat.le_of_eq rfl) (hb hby at_168) (fun _ _ => ⟨rfl, eh13, (by decide : 2 + 0 ≤ _), (by decide : 24 + 0 ≤ _)⟩)
  dsimp only [Pt.U, Pt.locs, Pt.cells, Pt.slots] at X14 l14 y14 z14 st14 hQ14
  subst l14 y14 z14
  obtain ⟨r7, rfl, N14q, eh14, hr7⟩ := hQ14
  have N14 := Fr.app N13 N14q
  refine own_by (st14) ?_
  show own_Go p.tables e below (T14.setTop (mkF m 171 #[.val (.long hd), .second, .val (.int fs), .val (.long sd), .second, .val (.int fr), .val (.ref bf), .val (.ref it), .val (.int (1 : Int32))] [(.int r7), (.int (1 : Int32))])) _
  obtain rfl : r7 = (1 : Int32) := by rw [hr7, if_pos]; exact own_at (i := 7) hfr2 hF (by decide) rfl
  show own_Go p.tables e below (T14.setTop (mkF m 171 #[.val (.long hd), .second, .val (.int fs), .val (.long sd), .second, .val (.int fr), .val (.ref bf), .val (.ref it), .val (.int (1 : Int32))] [(.int (1 : Int32)), (.int (1 : Int32))])) _
  refine own_by (fun t k => XS.iand X14.here hx rfl (hb hby at_171) rfl k) ?_
  show own_Go p.tables e below (T14.setTop (mkF m 172 #[.val (.long hd), .second, .val (.int fs), .val (.long sd), .second, .val (.int fr), .val (.ref bf), .val (.ref it), .val (.int (1 : Int32))] [(.int ((1 : Int32) &&& (1 : Int32)))])) _
  obtain ⟨o7, ho7⟩ : ∃ z, z = ((1 : Int32) &&& (1 : Int32)) := ⟨_, rfl⟩
  rw [← ho7]
  show own_Go p.tables e below (T14.setTop (mkF m 172 #[.val (.long hd), .second, .val (.int fs), .val (.long sd), .second, .val (.int fr), .val (.ref bf), .val (.ref it), .val (.int (1 : Int32))] [(.int o7)])) _
  obtain rfl : o7 = (1 : Int32) := by rw [ho7]; decide
  show own_Go p.tables e below (T14.setTop (mkF m 172 #[.val (.long hd), .second, .val (.int fs), .val (.long sd), .second, .val (.int fr), .val (.ref bf), .val (.ref it), .val (.int (1 : Int32))] [(.int (1 : Int32))])) _
  refine own_by (fun t k => XS.istore X14.here hx rfl (hb hby at_172) rfl (l' := #[.val (.long hd), .second, .val (.int fs), .val (.long sd), .second, .val (.int fr), .val (.ref bf), .val (.ref it), .val (.int (1 : Int32))]) rfl k) ?_
  show own_Go p.tables e below (T14.setTop (mkF m 174 #[.val (.long hd), .second, .val (.int fs), .val (.long sd), .second, .val (.int fr), .val (.ref bf), .val (.ref it), .val (.int (1 : Int32))] [])) _
  refine own_by (fun t k => XS.iload X14.here hx rfl (hb hby at_174) rfl k) ?_
  show own_Go p.tables e below (T14.setTop (mkF m 176 #[.val (.long hd), .second, .val (.int fs), .val (.long sd), .second, .val (.int fr), .val (.ref bf), .val (.ref it), .val (.int (1 : Int32))] [(.int (1 : Int32))])) _
  refine own_by (fun t k => XS.aload X14.here hx rfl (hb hby at_176) rfl rfl k) ?_
  show own_Go p.tables e below (T14.setTop (mkF m 178 #[.val (.long hd), .second, .val (.int fs), .val (.long sd), .second, .val (.int fr), .val (.ref bf), .val (.ref it), .val (.int (1 : Int32))] [(.ref it), (.int (1 : Int32))])) _
  refine own_by (fun t k => XS.aload X14.here hx rfl (hb hby at_178) rfl rfl k) ?_
  show own_Go p.tables e below (T14.setTop (mkF m 180 #[.val (.long hd), .second, .val (.int fs), .val (.long sd), .second, .val (.int fr), .val (.ref bf), .val (.ref it), .val (.int (1 : Int32))] [(.ref bf), (.ref it), (.int (1 : Int32))])) _
  refine own_by (fun t k => XS.bipush X14.here hx rfl (hb hby at_180) k) ?_
  show own_Go p.tables e below (T14.setTop (mkF m 182 #[.val (.long hd), .second, .val (.int fs), .val (.long sd), .second, .val (.int fr), .val (.ref bf), .val (.ref it), .val (.int (1 : Int32))] [(.int (8 : Int32)), (.ref bf), (.ref it), (.int (1 : Int32))])) _
  refine own_by (fun t k => XS.iload X14.here hx rfl (hb hby at_182) rfl k) ?_
  show own_Go p.tables e below (T14.setTop (mkF m 184 #[.val (.long hd), .second, .val (.int fs), .val (.long sd), .second, .val (.int fr), .val (.ref bf), .val (.ref it), .val (.int (1 : Int32))] [(.int fr), (.int (8 : Int32)), (.ref bf), (.ref it), (.int (1 : Int32))])) _
  refine own_by (fun t k => XS.lloadN X14.here hx rfl (hb hby at_184) rfl k) ?_
  show own_Go p.tables e below (T14.setTop (mkF m 185 #[.val (.long hd), .second, .val (.int fs), .val (.long sd), .second, .val (.int fr), .val (.ref bf), .val (.ref it), .val (.int (1 : Int32))] [(.long hd), (.int fr), (.int (8 : Int32)), (.ref bf), (.ref it), (.int (1 : Int32))])) _
  obtain ⟨_, _, ⟨T15, L15, k15, n15⟩, -, X15, ⟨Lc15, hQ15, l15, y15, z15⟩, st15⟩ := Jvm.LawKit.callS X14 hx (y := (⟨"com/example/ordinal/ordinal/KeysPutHeadPinLaw", "at", "([B[BIIJ)Z"⟩ : MethodName)) hown (mvT hZ (hw _ (List.mem_of_getElem? (i := 14) rfl))) (mvT hZ (hw _ (List.mem_of_getElem? (i := 15) rfl))) (mvT hZ (hw _ (List.mem_of_getElem? (i := 4) rfl))) (mvT hZ (hw _ (List.mem_of_getElem? (i := 16) rfl))) (by decide) (backOf (W := 1) (rm_at l Z a0 hw [] it bf (8 : Int32) fr hd 8 (own_ph hd F (own_fl sd) (own_N F)) (own_fl sd) T5.heap n0 (Nat.le_trans Z0 K5.1) Ac5 c6 (by decide) rfl (by decide)) hZ (hw _ (List.mem_of_getElem? (i := 16) rfl)) (hw _ (List.mem_of_getElem? (i := 4) rfl)) (by decide) (by decide)) (g := (mkF m 185 #[.val (.long hd), .second, .val (.int fs), .val (.long sd), .second, .val (.int fr), .val (.ref bf), .val (.ref it), .val (.int (1 : Int32))] [(.long hd), (.int fr), (.int (8 : Int32)), (.ref bf), (.ref it), (.int (1 : Int32))])) rfl (by rw [hml]; rfl) (argsL := [(.ref it), (.ref bf), (.int (8 : Int32)), (.int fr), (.long hd)]) (rest := [(.int (1 : Int32))]) (lenOf pd_255 rfl) rfl (by show 2 * 0 + _ ≤ _; exact Nat.le_of_eq rfl) (hb hby at_185) (fun _ _ => ⟨rfl, eh14, (by decide : 2 + 0 ≤ _), (by decide : 24 + 0 ≤ _)⟩)
  dsimp only [Pt.U, Pt.locs, Pt.cells, Pt.slots] at X15 l15 y15 z15 st15 hQ15
  subst l15 y15 z15
  obtain ⟨r8, rfl, N15q, eh15, hr8⟩ := hQ15
  have N15 := Fr.app N14 N15q
  refine own_by (st15) ?_
  show own_Go p.tables e below (T15.setTop (mkF m 188 #[.val (.long hd), .second, .val (.int fs), .val (.long sd), .second, .val (.int fr), .val (.ref bf), .val (.ref it), .val (.int (1 : Int32))] [(.int r8), (.int (1 : Int32))])) _
  obtain rfl : r8 = (1 : Int32) := by rw [hr8, if_pos]; exact own_at (i := 8) hfr2 hF (by decide) rfl
  show own_Go p.tables e below (T15.setTop (mkF m 188 #[.val (.long hd), .second, .val (.int fs), .val (.long sd), .second, .val (.int fr), .val (.ref bf), .val (.ref it), .val (.int (1 : Int32))] [(.int (1 : Int32)), (.int (1 : Int32))])) _
  refine own_by (fun t k => XS.iand X15.here hx rfl (hb hby at_188) rfl k) ?_
  show own_Go p.tables e below (T15.setTop (mkF m 189 #[.val (.long hd), .second, .val (.int fs), .val (.long sd), .second, .val (.int fr), .val (.ref bf), .val (.ref it), .val (.int (1 : Int32))] [(.int ((1 : Int32) &&& (1 : Int32)))])) _
  obtain ⟨o8, ho8⟩ : ∃ z, z = ((1 : Int32) &&& (1 : Int32)) := ⟨_, rfl⟩
  rw [← ho8]
  show own_Go p.tables e below (T15.setTop (mkF m 189 #[.val (.long hd), .second, .val (.int fs), .val (.long sd), .second, .val (.int fr), .val (.ref bf), .val (.ref it), .val (.int (1 : Int32))] [(.int o8)])) _
  obtain rfl : o8 = (1 : Int32) := by rw [ho8]; decide
  show own_Go p.tables e below (T15.setTop (mkF m 189 #[.val (.long hd), .second, .val (.int fs), .val (.long sd), .second, .val (.int fr), .val (.ref bf), .val (.ref it), .val (.int (1 : Int32))] [(.int (1 : Int32))])) _
  refine own_by (fun t k => XS.istore X15.here hx rfl (hb hby at_189) rfl (l' := #[.val (.long hd), .second, .val (.int fs), .val (.long sd), .second, .val (.int fr), .val (.ref bf), .val (.ref it), .val (.int (1 : Int32))]) rfl k) ?_
  show own_Go p.tables e below (T15.setTop (mkF m 191 #[.val (.long hd), .second, .val (.int fs), .val (.long sd), .second, .val (.int fr), .val (.ref bf), .val (.ref it), .val (.int (1 : Int32))] [])) _
  refine own_by (fun t k => XS.iload X15.here hx rfl (hb hby at_191) rfl k) ?_
  show own_Go p.tables e below (T15.setTop (mkF m 193 #[.val (.long hd), .second, .val (.int fs), .val (.long sd), .second, .val (.int fr), .val (.ref bf), .val (.ref it), .val (.int (1 : Int32))] [(.int (1 : Int32))])) _
  refine own_by (fun t k => XS.aload X15.here hx rfl (hb hby at_193) rfl rfl k) ?_
  show own_Go p.tables e below (T15.setTop (mkF m 195 #[.val (.long hd), .second, .val (.int fs), .val (.long sd), .second, .val (.int fr), .val (.ref bf), .val (.ref it), .val (.int (1 : Int32))] [(.ref it), (.int (1 : Int32))])) _
  refine own_by (fun t k => XS.aload X15.here hx rfl (hb hby at_195) rfl rfl k) ?_
  show own_Go p.tables e below (T15.setTop (mkF m 197 #[.val (.long hd), .second, .val (.int fs), .val (.long sd), .second, .val (.int fr), .val (.ref bf), .val (.ref it), .val (.int (1 : Int32))] [(.ref bf), (.ref it), (.int (1 : Int32))])) _
  refine own_by (fun t k => XS.bipush X15.here hx rfl (hb hby at_197) k) ?_
  show own_Go p.tables e below (T15.setTop (mkF m 199 #[.val (.long hd), .second, .val (.int fs), .val (.long sd), .second, .val (.int fr), .val (.ref bf), .val (.ref it), .val (.int (1 : Int32))] [(.int (9 : Int32)), (.ref bf), (.ref it), (.int (1 : Int32))])) _
  refine own_by (fun t k => XS.iload X15.here hx rfl (hb hby at_199) rfl k) ?_
  show own_Go p.tables e below (T15.setTop (mkF m 201 #[.val (.long hd), .second, .val (.int fs), .val (.long sd), .second, .val (.int fr), .val (.ref bf), .val (.ref it), .val (.int (1 : Int32))] [(.int fr), (.int (9 : Int32)), (.ref bf), (.ref it), (.int (1 : Int32))])) _
  refine own_by (fun t k => XS.lloadN X15.here hx rfl (hb hby at_201) rfl k) ?_
  show own_Go p.tables e below (T15.setTop (mkF m 202 #[.val (.long hd), .second, .val (.int fs), .val (.long sd), .second, .val (.int fr), .val (.ref bf), .val (.ref it), .val (.int (1 : Int32))] [(.long hd), (.int fr), (.int (9 : Int32)), (.ref bf), (.ref it), (.int (1 : Int32))])) _
  obtain ⟨_, _, ⟨T16, L16, k16, n16⟩, -, X16, ⟨Lc16, hQ16, l16, y16, z16⟩, st16⟩ := Jvm.LawKit.callS X15 hx (y := (⟨"com/example/ordinal/ordinal/KeysPutHeadPinLaw", "at", "([B[BIIJ)Z"⟩ : MethodName)) hown (mvT hZ (hw _ (List.mem_of_getElem? (i := 14) rfl))) (mvT hZ (hw _ (List.mem_of_getElem? (i := 15) rfl))) (mvT hZ (hw _ (List.mem_of_getElem? (i := 4) rfl))) (mvT hZ (hw _ (List.mem_of_getElem? (i := 16) rfl))) (by decide) (backOf (W := 1) (rm_at l Z a0 hw [] it bf (9 : Int32) fr hd 9 (own_ph hd F (own_fl sd) (own_N F)) (own_fl sd) T5.heap n0 (Nat.le_trans Z0 K5.1) Ac5 c6 (by decide) rfl (by decide)) hZ (hw _ (List.mem_of_getElem? (i := 16) rfl)) (hw _ (List.mem_of_getElem? (i := 4) rfl)) (by decide) (by decide)) (g := (mkF m 202 #[.val (.long hd), .second, .val (.int fs), .val (.long sd), .second, .val (.int fr), .val (.ref bf), .val (.ref it), .val (.int (1 : Int32))] [(.long hd), (.int fr), (.int (9 : Int32)), (.ref bf), (.ref it), (.int (1 : Int32))])) rfl (by rw [hml]; rfl) (argsL := [(.ref it), (.ref bf), (.int (9 : Int32)), (.int fr), (.long hd)]) (rest := [(.int (1 : Int32))]) (lenOf pd_255 rfl) rfl (by show 2 * 0 + _ ≤ _; exact Nat.le_of_eq rfl) (hb hby at_202) (fun _ _ => ⟨rfl, eh15, (by decide : 2 + 0 ≤ _), (by decide : 24 + 0 ≤ _)⟩)
  dsimp only [Pt.U, Pt.locs, Pt.cells, Pt.slots] at X16 l16 y16 z16 st16 hQ16
  subst l16 y16 z16
  obtain ⟨r9, rfl, N16q, eh16, hr9⟩ := hQ16
  have N16 := Fr.app N15 N16q
  refine own_by (st16) ?_
  show own_Go p.tables e below (T16.setTop (mkF m 205 #[.val (.long hd), .second, .val (.int fs), .val (.long sd), .second, .val (.int fr), .val (.ref bf), .val (.ref it), .val (.int (1 : Int32))] [(.int r9), (.int (1 : Int32))])) _
  obtain rfl : r9 = (1 : Int32) := by rw [hr9, if_pos]; exact own_at (i := 9) hfr2 hF (by decide) rfl
  show own_Go p.tables e below (T16.setTop (mkF m 205 #[.val (.long hd), .second, .val (.int fs), .val (.long sd), .second, .val (.int fr), .val (.ref bf), .val (.ref it), .val (.int (1 : Int32))] [(.int (1 : Int32)), (.int (1 : Int32))])) _
  refine own_by (fun t k => XS.iand X16.here hx rfl (hb hby at_205) rfl k) ?_
  show own_Go p.tables e below (T16.setTop (mkF m 206 #[.val (.long hd), .second, .val (.int fs), .val (.long sd), .second, .val (.int fr), .val (.ref bf), .val (.ref it), .val (.int (1 : Int32))] [(.int ((1 : Int32) &&& (1 : Int32)))])) _
  obtain ⟨o9, ho9⟩ : ∃ z, z = ((1 : Int32) &&& (1 : Int32)) := ⟨_, rfl⟩
  rw [← ho9]
  show own_Go p.tables e below (T16.setTop (mkF m 206 #[.val (.long hd), .second, .val (.int fs), .val (.long sd), .second, .val (.int fr), .val (.ref bf), .val (.ref it), .val (.int (1 : Int32))] [(.int o9)])) _
  obtain rfl : o9 = (1 : Int32) := by rw [ho9]; decide
  show own_Go p.tables e below (T16.setTop (mkF m 206 #[.val (.long hd), .second, .val (.int fs), .val (.long sd), .second, .val (.int fr), .val (.ref bf), .val (.ref it), .val (.int (1 : Int32))] [(.int (1 : Int32))])) _
  refine own_by (fun t k => XS.istore X16.here hx rfl (hb hby at_206) rfl (l' := #[.val (.long hd), .second, .val (.int fs), .val (.long sd), .second, .val (.int fr), .val (.ref bf), .val (.ref it), .val (.int (1 : Int32))]) rfl k) ?_
  show own_Go p.tables e below (T16.setTop (mkF m 208 #[.val (.long hd), .second, .val (.int fs), .val (.long sd), .second, .val (.int fr), .val (.ref bf), .val (.ref it), .val (.int (1 : Int32))] [])) _
  refine own_by (fun t k => XS.iload X16.here hx rfl (hb hby at_208) rfl k) ?_
  show own_Go p.tables e below (T16.setTop (mkF m 210 #[.val (.long hd), .second, .val (.int fs), .val (.long sd), .second, .val (.int fr), .val (.ref bf), .val (.ref it), .val (.int (1 : Int32))] [(.int (1 : Int32))])) _
  refine own_by (fun t k => XS.aload X16.here hx rfl (hb hby at_210) rfl rfl k) ?_
  show own_Go p.tables e below (T16.setTop (mkF m 212 #[.val (.long hd), .second, .val (.int fs), .val (.long sd), .second, .val (.int fr), .val (.ref bf), .val (.ref it), .val (.int (1 : Int32))] [(.ref it), (.int (1 : Int32))])) _
  refine own_by (fun t k => XS.aload X16.here hx rfl (hb hby at_212) rfl rfl k) ?_
  show own_Go p.tables e below (T16.setTop (mkF m 214 #[.val (.long hd), .second, .val (.int fs), .val (.long sd), .second, .val (.int fr), .val (.ref bf), .val (.ref it), .val (.int (1 : Int32))] [(.ref bf), (.ref it), (.int (1 : Int32))])) _
  refine own_by (fun t k => XS.bipush X16.here hx rfl (hb hby at_214) k) ?_
  show own_Go p.tables e below (T16.setTop (mkF m 216 #[.val (.long hd), .second, .val (.int fs), .val (.long sd), .second, .val (.int fr), .val (.ref bf), .val (.ref it), .val (.int (1 : Int32))] [(.int (10 : Int32)), (.ref bf), (.ref it), (.int (1 : Int32))])) _
  refine own_by (fun t k => XS.iload X16.here hx rfl (hb hby at_216) rfl k) ?_
  show own_Go p.tables e below (T16.setTop (mkF m 218 #[.val (.long hd), .second, .val (.int fs), .val (.long sd), .second, .val (.int fr), .val (.ref bf), .val (.ref it), .val (.int (1 : Int32))] [(.int fr), (.int (10 : Int32)), (.ref bf), (.ref it), (.int (1 : Int32))])) _
  refine own_by (fun t k => XS.lloadN X16.here hx rfl (hb hby at_218) rfl k) ?_
  show own_Go p.tables e below (T16.setTop (mkF m 219 #[.val (.long hd), .second, .val (.int fs), .val (.long sd), .second, .val (.int fr), .val (.ref bf), .val (.ref it), .val (.int (1 : Int32))] [(.long hd), (.int fr), (.int (10 : Int32)), (.ref bf), (.ref it), (.int (1 : Int32))])) _
  obtain ⟨_, _, ⟨T17, L17, k17, n17⟩, -, X17, ⟨Lc17, hQ17, l17, y17, z17⟩, st17⟩ := Jvm.LawKit.callS X16 hx (y := (⟨"com/example/ordinal/ordinal/KeysPutHeadPinLaw", "at", "([B[BIIJ)Z"⟩ : MethodName)) hown (mvT hZ (hw _ (List.mem_of_getElem? (i := 14) rfl))) (mvT hZ (hw _ (List.mem_of_getElem? (i := 15) rfl))) (mvT hZ (hw _ (List.mem_of_getElem? (i := 4) rfl))) (mvT hZ (hw _ (List.mem_of_getElem? (i := 16) rfl))) (by decide) (backOf (W := 1) (rm_at l Z a0 hw [] it bf (10 : Int32) fr hd 10 (own_ph hd F (own_fl sd) (own_N F)) (own_fl sd) T5.heap n0 (Nat.le_trans Z0 K5.1) Ac5 c6 (by decide) rfl (by decide)) hZ (hw _ (List.mem_of_getElem? (i := 16) rfl)) (hw _ (List.mem_of_getElem? (i := 4) rfl)) (by decide) (by decide)) (g := (mkF m 219 #[.val (.long hd), .second, .val (.int fs), .val (.long sd), .second, .val (.int fr), .val (.ref bf), .val (.ref it), .val (.int (1 : Int32))] [(.long hd), (.int fr), (.int (10 : Int32)), (.ref bf), (.ref it), (.int (1 : Int32))])) rfl (by rw [hml]; rfl) (argsL := [(.ref it), (.ref bf), (.int (10 : Int32)), (.int fr), (.long hd)]) (rest := [(.int (1 : Int32))]) (lenOf pd_255 rfl) rfl (by show 2 * 0 + _ ≤ _; exact Nat.le_of_eq rfl) (hb hby at_219) (fun _ _ => ⟨rfl, eh16, (by decide : 2 + 0 ≤ _), (by decide : 24 + 0 ≤ _)⟩)
  dsimp only [Pt.U, Pt.locs, Pt.cells, Pt.slots] at X17 l17 y17 z17 st17 hQ17
  subst l17 y17 z17
  obtain ⟨r10, rfl, N17q, eh17, hr10⟩ := hQ17
  have N17 := Fr.app N16 N17q
  refine own_by (st17) ?_
  show own_Go p.tables e below (T17.setTop (mkF m 222 #[.val (.long hd), .second, .val (.int fs), .val (.long sd), .second, .val (.int fr), .val (.ref bf), .val (.ref it), .val (.int (1 : Int32))] [(.int r10), (.int (1 : Int32))])) _
  obtain rfl : r10 = (1 : Int32) := by rw [hr10, if_pos]; exact own_at (i := 10) hfr2 hF (by decide) rfl
  show own_Go p.tables e below (T17.setTop (mkF m 222 #[.val (.long hd), .second, .val (.int fs), .val (.long sd), .second, .val (.int fr), .val (.ref bf), .val (.ref it), .val (.int (1 : Int32))] [(.int (1 : Int32)), (.int (1 : Int32))])) _
  refine own_by (fun t k => XS.iand X17.here hx rfl (hb hby at_222) rfl k) ?_
  show own_Go p.tables e below (T17.setTop (mkF m 223 #[.val (.long hd), .second, .val (.int fs), .val (.long sd), .second, .val (.int fr), .val (.ref bf), .val (.ref it), .val (.int (1 : Int32))] [(.int ((1 : Int32) &&& (1 : Int32)))])) _
  obtain ⟨o10, ho10⟩ : ∃ z, z = ((1 : Int32) &&& (1 : Int32)) := ⟨_, rfl⟩
  rw [← ho10]
  show own_Go p.tables e below (T17.setTop (mkF m 223 #[.val (.long hd), .second, .val (.int fs), .val (.long sd), .second, .val (.int fr), .val (.ref bf), .val (.ref it), .val (.int (1 : Int32))] [(.int o10)])) _
  obtain rfl : o10 = (1 : Int32) := by rw [ho10]; decide
  show own_Go p.tables e below (T17.setTop (mkF m 223 #[.val (.long hd), .second, .val (.int fs), .val (.long sd), .second, .val (.int fr), .val (.ref bf), .val (.ref it), .val (.int (1 : Int32))] [(.int (1 : Int32))])) _
  refine own_by (fun t k => XS.istore X17.here hx rfl (hb hby at_223) rfl (l' := #[.val (.long hd), .second, .val (.int fs), .val (.long sd), .second, .val (.int fr), .val (.ref bf), .val (.ref it), .val (.int (1 : Int32))]) rfl k) ?_
  show own_Go p.tables e below (T17.setTop (mkF m 225 #[.val (.long hd), .second, .val (.int fs), .val (.long sd), .second, .val (.int fr), .val (.ref bf), .val (.ref it), .val (.int (1 : Int32))] [])) _
  refine own_by (fun t k => XS.iload X17.here hx rfl (hb hby at_225) rfl k) ?_
  show own_Go p.tables e below (T17.setTop (mkF m 227 #[.val (.long hd), .second, .val (.int fs), .val (.long sd), .second, .val (.int fr), .val (.ref bf), .val (.ref it), .val (.int (1 : Int32))] [(.int (1 : Int32))])) _
  refine own_by (fun t k => XS.aload X17.here hx rfl (hb hby at_227) rfl rfl k) ?_
  show own_Go p.tables e below (T17.setTop (mkF m 229 #[.val (.long hd), .second, .val (.int fs), .val (.long sd), .second, .val (.int fr), .val (.ref bf), .val (.ref it), .val (.int (1 : Int32))] [(.ref it), (.int (1 : Int32))])) _
  refine own_by (fun t k => XS.aload X17.here hx rfl (hb hby at_229) rfl rfl k) ?_
  show own_Go p.tables e below (T17.setTop (mkF m 231 #[.val (.long hd), .second, .val (.int fs), .val (.long sd), .second, .val (.int fr), .val (.ref bf), .val (.ref it), .val (.int (1 : Int32))] [(.ref bf), (.ref it), (.int (1 : Int32))])) _
  refine own_by (fun t k => XS.bipush X17.here hx rfl (hb hby at_231) k) ?_
  show own_Go p.tables e below (T17.setTop (mkF m 233 #[.val (.long hd), .second, .val (.int fs), .val (.long sd), .second, .val (.int fr), .val (.ref bf), .val (.ref it), .val (.int (1 : Int32))] [(.int (11 : Int32)), (.ref bf), (.ref it), (.int (1 : Int32))])) _
  refine own_by (fun t k => XS.iload X17.here hx rfl (hb hby at_233) rfl k) ?_
  show own_Go p.tables e below (T17.setTop (mkF m 235 #[.val (.long hd), .second, .val (.int fs), .val (.long sd), .second, .val (.int fr), .val (.ref bf), .val (.ref it), .val (.int (1 : Int32))] [(.int fr), (.int (11 : Int32)), (.ref bf), (.ref it), (.int (1 : Int32))])) _
  refine own_by (fun t k => XS.lloadN X17.here hx rfl (hb hby at_235) rfl k) ?_
  show own_Go p.tables e below (T17.setTop (mkF m 236 #[.val (.long hd), .second, .val (.int fs), .val (.long sd), .second, .val (.int fr), .val (.ref bf), .val (.ref it), .val (.int (1 : Int32))] [(.long hd), (.int fr), (.int (11 : Int32)), (.ref bf), (.ref it), (.int (1 : Int32))])) _
  obtain ⟨_, _, ⟨T18, L18, k18, n18⟩, -, X18, ⟨Lc18, hQ18, l18, y18, z18⟩, st18⟩ := Jvm.LawKit.callS X17 hx (y := (⟨"com/example/ordinal/ordinal/KeysPutHeadPinLaw", "at", "([B[BIIJ)Z"⟩ : MethodName)) hown (mvT hZ (hw _ (List.mem_of_getElem? (i := 14) rfl))) (mvT hZ (hw _ (List.mem_of_getElem? (i := 15) rfl))) (mvT hZ (hw _ (List.mem_of_getElem? (i := 4) rfl))) (mvT hZ (hw _ (List.mem_of_getElem? (i := 16) rfl))) (by decide) (backOf (W := 1) (rm_at l Z a0 hw [] it bf (11 : Int32) fr hd 11 (own_ph hd F (own_fl sd) (own_N F)) (own_fl sd) T5.heap n0 (Nat.le_trans Z0 K5.1) Ac5 c6 (by decide) rfl (by decide)) hZ (hw _ (List.mem_of_getElem? (i := 16) rfl)) (hw _ (List.mem_of_getElem? (i := 4) rfl)) (by decide) (by decide)) (g := (mkF m 236 #[.val (.long hd), .second, .val (.int fs), .val (.long sd), .second, .val (.int fr), .val (.ref bf), .val (.ref it), .val (.int (1 : Int32))] [(.long hd), (.int fr), (.int (11 : Int32)), (.ref bf), (.ref it), (.int (1 : Int32))])) rfl (by rw [hml]; rfl) (argsL := [(.ref it), (.ref bf), (.int (11 : Int32)), (.int fr), (.long hd)]) (rest := [(.int (1 : Int32))]) (lenOf pd_255 rfl) rfl (by show 2 * 0 + _ ≤ _; exact Nat.le_of_eq rfl) (hb hby at_236) (fun _ _ => ⟨rfl, eh17, (by decide : 2 + 0 ≤ _), (by decide : 24 + 0 ≤ _)⟩)
  dsimp only [Pt.U, Pt.locs, Pt.cells, Pt.slots] at X18 l18 y18 z18 st18 hQ18
  subst l18 y18 z18
  obtain ⟨r11, rfl, N18q, eh18, hr11⟩ := hQ18
  have N18 := Fr.app N17 N18q
  refine own_by (st18) ?_
  show own_Go p.tables e below (T18.setTop (mkF m 239 #[.val (.long hd), .second, .val (.int fs), .val (.long sd), .second, .val (.int fr), .val (.ref bf), .val (.ref it), .val (.int (1 : Int32))] [(.int r11), (.int (1 : Int32))])) _
  obtain rfl : r11 = (1 : Int32) := by rw [hr11, if_pos]; exact own_at (i := 11) hfr2 hF (by decide) rfl
  show own_Go p.tables e below (T18.setTop (mkF m 239 #[.val (.long hd), .second, .val (.int fs), .val (.long sd), .second, .val (.int fr), .val (.ref bf), .val (.ref it), .val (.int (1 : Int32))] [(.int (1 : Int32)), (.int (1 : Int32))])) _
  refine own_by (fun t k => XS.iand X18.here hx rfl (hb hby at_239) rfl k) ?_
  show own_Go p.tables e below (T18.setTop (mkF m 240 #[.val (.long hd), .second, .val (.int fs), .val (.long sd), .second, .val (.int fr), .val (.ref bf), .val (.ref it), .val (.int (1 : Int32))] [(.int ((1 : Int32) &&& (1 : Int32)))])) _
  obtain ⟨o11, ho11⟩ : ∃ z, z = ((1 : Int32) &&& (1 : Int32)) := ⟨_, rfl⟩
  rw [← ho11]
  show own_Go p.tables e below (T18.setTop (mkF m 240 #[.val (.long hd), .second, .val (.int fs), .val (.long sd), .second, .val (.int fr), .val (.ref bf), .val (.ref it), .val (.int (1 : Int32))] [(.int o11)])) _
  obtain rfl : o11 = (1 : Int32) := by rw [ho11]; decide
  show own_Go p.tables e below (T18.setTop (mkF m 240 #[.val (.long hd), .second, .val (.int fs), .val (.long sd), .second, .val (.int fr), .val (.ref bf), .val (.ref it), .val (.int (1 : Int32))] [(.int (1 : Int32))])) _
  refine own_by (fun t k => XS.istore X18.here hx rfl (hb hby at_240) rfl (l' := #[.val (.long hd), .second, .val (.int fs), .val (.long sd), .second, .val (.int fr), .val (.ref bf), .val (.ref it), .val (.int (1 : Int32))]) rfl k) ?_
  show own_Go p.tables e below (T18.setTop (mkF m 242 #[.val (.long hd), .second, .val (.int fs), .val (.long sd), .second, .val (.int fr), .val (.ref bf), .val (.ref it), .val (.int (1 : Int32))] [])) _
  refine own_by (fun t k => XS.iload X18.here hx rfl (hb hby at_242) rfl k) ?_
  show own_Go p.tables e below (T18.setTop (mkF m 244 #[.val (.long hd), .second, .val (.int fs), .val (.long sd), .second, .val (.int fr), .val (.ref bf), .val (.ref it), .val (.int (1 : Int32))] [(.int fr)])) _
  refine own_by (fun t k => XS.iconst X18.here hx rfl (hb hby at_244) k) ?_
  show own_Go p.tables e below (T18.setTop (mkF m 245 #[.val (.long hd), .second, .val (.int fs), .val (.long sd), .second, .val (.int fr), .val (.ref bf), .val (.ref it), .val (.int (1 : Int32))] [(.int (4 : Int32)), (.int fr)])) _
  by_cases h4 : (4 : Int32) < fr
  · refine own_by (fun t k => XS.icmpYes X18.here hx rfl (pc0 := 245) (pc' := 270) rfl (hb hby at_245) rfl (tlt h4).2.2.1 (by decide) (by decide) k) ?_
    show own_Go p.tables e below (T18.setTop (mkF m 270 #[.val (.long hd), .second, .val (.int fs), .val (.long sd), .second, .val (.int fr), .val (.ref bf), .val (.ref it), .val (.int (1 : Int32))] [])) _
    refine own_by (fun t k => XS.iload X18.here hx rfl (hb hby at_270) rfl k) ?_
    show own_Go p.tables e below (T18.setTop (mkF m 272 #[.val (.long hd), .second, .val (.int fs), .val (.long sd), .second, .val (.int fr), .val (.ref bf), .val (.ref it), .val (.int (1 : Int32))] [(.int (1 : Int32))])) _
    exact own_retN X18 hx Bd.notSynchronized (t := .boolean) Bd.returns (by simp) (by decide) (hb hby at_272) (by (try rw [eh18]); exact ⟨rfl, N18⟩) (by decide) (by decide)
  · refine own_by (fun t k => XS.icmpNo X18.here hx rfl (hb hby at_245) rfl (flt h4).2.2.1 k) ?_
    show own_Go p.tables e below (T18.setTop (mkF m 248 #[.val (.long hd), .second, .val (.int fs), .val (.long sd), .second, .val (.int fr), .val (.ref bf), .val (.ref it), .val (.int (1 : Int32))] [])) _
    have hF4 : F ≤ 4 := own_F4 hfr2 hF h4
    refine own_by (fun t k => XS.iload X18.here hx rfl (hb hby at_248) rfl k) ?_
    show own_Go p.tables e below (T18.setTop (mkF m 250 #[.val (.long hd), .second, .val (.int fs), .val (.long sd), .second, .val (.int fr), .val (.ref bf), .val (.ref it), .val (.int (1 : Int32))] [(.int (1 : Int32))])) _
    refine own_by (fun t k => XS.aload X18.here hx rfl (hb hby at_250) rfl rfl k) ?_
    show own_Go p.tables e below (T18.setTop (mkF m 252 #[.val (.long hd), .second, .val (.int fs), .val (.long sd), .second, .val (.int fr), .val (.ref bf), .val (.ref it), .val (.int (1 : Int32))] [(.ref it), (.int (1 : Int32))])) _
    refine own_by (fun t k => XS.iload X18.here hx rfl (hb hby at_252) rfl k) ?_
    show own_Go p.tables e below (T18.setTop (mkF m 254 #[.val (.long hd), .second, .val (.int fs), .val (.long sd), .second, .val (.int fr), .val (.ref bf), .val (.ref it), .val (.int (1 : Int32))] [(.int fr), (.ref it), (.int (1 : Int32))])) _
    obtain ⟨_, _, ⟨T19, L19, k19, n19⟩, -, X19, ⟨Lc19, hQ19, l19, y19, z19⟩, st19⟩ := Jvm.LawKit.callS X18 hx (y := (⟨"com/example/ordinal/ordinal/KeysPutHeadPinLaw", "assemble", "([BI)J"⟩ : MethodName)) hown (mvT hZ (hw _ (List.mem_of_getElem? (i := 17) rfl))) (mvT hZ (hw _ (List.mem_of_getElem? (i := 18) rfl))) (mvT hZ (hw _ (List.mem_of_getElem? (i := 4) rfl))) (mvT hZ (hw _ (List.mem_of_getElem? (i := 19) rfl))) (by decide) (backOf (W := 1) (rm_am l Z a0 hw [] it fr F (own_ph hd F (own_fl sd) (own_N F)) T5.heap n0 (Nat.le_trans Z0 K5.1) Ac5 hfr2 hF4) hZ (hw _ (List.mem_of_getElem? (i := 19) rfl)) (hw _ (List.mem_of_getElem? (i := 4) rfl)) (by decide) (by decide)) (g := (mkF m 254 #[.val (.long hd), .second, .val (.int fs), .val (.long sd), .second, .val (.int fr), .val (.ref bf), .val (.ref it), .val (.int (1 : Int32))] [(.int fr), (.ref it), (.int (1 : Int32))])) rfl (by rw [hml]; rfl) (argsL := [(.ref it), (.int fr)]) (rest := [(.int (1 : Int32))]) (lenOf pd_256 rfl) rfl (by show 2 * 0 + _ ≤ _; exact Nat.le_of_eq rfl) (hb hby at_254) (fun _ _ => ⟨rfl, eh18, (by decide : 2 + 0 ≤ _), (by decide : 24 + 0 ≤ _)⟩)
    dsimp only [Pt.U, Pt.locs, Pt.cells, Pt.slots] at X19 l19 y19 z19 st19 hQ19
    subst l19 y19 z19
    obtain ⟨ax, rfl, N19q, eh19, hax⟩ := hQ19
    have N19 := Fr.app N18 N19q
    refine own_by (st19) ?_
    show own_Go p.tables e below (T19.setTop (mkF m 257 #[.val (.long hd), .second, .val (.int fs), .val (.long sd), .second, .val (.int fr), .val (.ref bf), .val (.ref it), .val (.int (1 : Int32))] [(.long ax), (.int (1 : Int32))])) _
    have ea : ax = hd := by rw [hax]; exact own_asm hd F _ hF4
    refine own_by (fun t k => XS.lloadN X19.here hx rfl (hb hby at_257) rfl k) ?_
    show own_Go p.tables e below (T19.setTop (mkF m 258 #[.val (.long hd), .second, .val (.int fs), .val (.long sd), .second, .val (.int fr), .val (.ref bf), .val (.ref it), .val (.int (1 : Int32))] [(.long hd), (.long ax), (.int (1 : Int32))])) _
    refine own_by (fun t k => XS.lcmp X19.here hx rfl (hb hby at_258) rfl k) ?_
    show own_Go p.tables e below (T19.setTop (mkF m 259 #[.val (.long hd), .second, .val (.int fs), .val (.long sd), .second, .val (.int fr), .val (.ref bf), .val (.ref it), .val (.int (1 : Int32))] [(.int (lcmpW ax hd)), (.int (1 : Int32))])) _
    refine own_by (fun t k => XS.ifNo X19.here hx rfl (hb hby at_259) rfl ((if0 _ _).trans (teq ((lw_eq ax hd).mpr ea)).2) k) ?_
    show own_Go p.tables e below (T19.setTop (mkF m 262 #[.val (.long hd), .second, .val (.int fs), .val (.long sd), .second, .val (.int fr), .val (.ref bf), .val (.ref it), .val (.int (1 : Int32))] [(.int (1 : Int32))])) _
    refine own_by (fun t k => XS.iconst X19.here hx rfl (hb hby at_262) k) ?_
    show own_Go p.tables e below (T19.setTop (mkF m 263 #[.val (.long hd), .second, .val (.int fs), .val (.long sd), .second, .val (.int fr), .val (.ref bf), .val (.ref it), .val (.int (1 : Int32))] [(.int (1 : Int32)), (.int (1 : Int32))])) _
    refine own_by (fun t k => XS.goto X19.here hx rfl (pc0 := 263) (pc' := 267) rfl (hb hby at_263) (by decide) (by decide) k) ?_
    show own_Go p.tables e below (T19.setTop (mkF m 267 #[.val (.long hd), .second, .val (.int fs), .val (.long sd), .second, .val (.int fr), .val (.ref bf), .val (.ref it), .val (.int (1 : Int32))] [(.int (1 : Int32)), (.int (1 : Int32))])) _
    refine own_by (fun t k => XS.iand X19.here hx rfl (hb hby at_267) rfl k) ?_
    show own_Go p.tables e below (T19.setTop (mkF m 268 #[.val (.long hd), .second, .val (.int fs), .val (.long sd), .second, .val (.int fr), .val (.ref bf), .val (.ref it), .val (.int (1 : Int32))] [(.int ((1 : Int32) &&& (1 : Int32)))])) _
    obtain ⟨oo, hoo⟩ : ∃ z, z = ((1 : Int32) &&& (1 : Int32)) := ⟨_, rfl⟩
    rw [← hoo]
    show own_Go p.tables e below (T19.setTop (mkF m 268 #[.val (.long hd), .second, .val (.int fs), .val (.long sd), .second, .val (.int fr), .val (.ref bf), .val (.ref it), .val (.int (1 : Int32))] [(.int oo)])) _
    obtain rfl : oo = (1 : Int32) := by rw [hoo]; decide
    show own_Go p.tables e below (T19.setTop (mkF m 268 #[.val (.long hd), .second, .val (.int fs), .val (.long sd), .second, .val (.int fr), .val (.ref bf), .val (.ref it), .val (.int (1 : Int32))] [(.int (1 : Int32))])) _
    refine own_by (fun t k => XS.istore X19.here hx rfl (hb hby at_268) rfl (l' := #[.val (.long hd), .second, .val (.int fs), .val (.long sd), .second, .val (.int fr), .val (.ref bf), .val (.ref it), .val (.int (1 : Int32))]) rfl k) ?_
    show own_Go p.tables e below (T19.setTop (mkF m 270 #[.val (.long hd), .second, .val (.int fs), .val (.long sd), .second, .val (.int fr), .val (.ref bf), .val (.ref it), .val (.int (1 : Int32))] [])) _
    refine own_by (fun t k => XS.iload X19.here hx rfl (hb hby at_270) rfl k) ?_
    show own_Go p.tables e below (T19.setTop (mkF m 272 #[.val (.long hd), .second, .val (.int fs), .val (.long sd), .second, .val (.int fr), .val (.ref bf), .val (.ref it), .val (.int (1 : Int32))] [(.int (1 : Int32))])) _
    exact own_retN X19 hx Bd.notSynchronized (t := .boolean) Bd.returns (by simp) (by decide) (hb hby at_272) (by (try rw [eh19]); exact ⟨rfl, N19⟩) (by decide) (by decide)
set_option maxRecDepth 65536 in
set_option maxHeartbeats 40000000 in
theorem comes_1 {Post : Tables → Env → Array Value → State → Outcome → State → Prop} (hpost : ∀ tb e args s v u, (limb_1_1.after args s (.returned v) u = true ∧ limb_1_2.after args s (.returned v) u = true ∧ True) → FrameEnd s (.returned v) u (Jvm.fieldLocs frame_1_writes args s ++ Jvm.arrayLocs frame_1_arrays args s ++ Jvm.staticLocs frame_1_statics s) 16 128 → Post tb e args s (.returned v) u) :
    ArmFor flags0 classFile x code maxLocals ret World_1 tables_1 room_1 Calls_1 rest_1 Pre_1 Post := by
  intro l hfl _ _ p e ha hc hk s m args below hf hA hF happ hP
  obtain ⟨hcalls, hrest, hpre⟩ := hP
  obtain ⟨-, -, -, hnamed, -, -, -, hat⟩ := (Spec.applies_iff hf).mp happ
  obtain ⟨hg, hn⟩ := and_e (Cond.before_iff.mp (show (Jvm.Cond.and given_1 narrow_1).before args s = true from hpre))
  obtain ⟨hcount, t0⟩ := and_e hg
  obtain ⟨g0, t1⟩ := and_e t0
  obtain ⟨g1, t2⟩ := and_e t1
  obtain ⟨w0, w1, w2, rfl⟩ : ∃ w0 w1 w2 : Value, args = #[w0, w1, w2] := by
    have hs : args.size = 3 := by simpa [Cond.value, given_1] using hcount
    obtain ⟨L⟩ := args
    match L, hs with
    | [w0, w1, w2], _ => exact ⟨w0, w1, w2, rfl⟩
  have hw := fun d (hd : d ∈ tables_1) => atoms_spec (ws := Jvm.Cond.code x code maxLocals ret :: tables_1) hat d (List.mem_cons_of_mem _ hd)
  obtain ⟨i0, ei0⟩ := isL_v g0
  obtain rfl : w0 = (.long i0) := Option.some.inj ei0
  obtain ⟨i1, ei1⟩ := is_v g1
  obtain rfl : w1 = (.int i1) := Option.some.inj ei1
  obtain ⟨i2, ei2⟩ := isL_v t2
  obtain rfl : w2 = (.long i2) := Option.some.inj ei2
  obtain ⟨n, o, h1, h2, h3, _, L, rfl, ⟨rfl, N⟩, hq⟩ := rm_law l s _ hw tables_1 i0 i1 i2 s.heap s.heap.size (Nat.le_refl _) p e ha hc hk s m _ below hf ((Spec.applies_iff_loose hf).mp happ).1 ⟨rfl, State.Warmed39.refl s, rfl⟩ trivial
  refine ⟨n, _, h1, h2, h3, hpost _ _ _ _ _ _ ⟨Cond.after_iff.mpr rfl, Cond.after_iff.mpr (eq_i res_at (Term.int_eval (1)) rfl), trivial⟩ ⟨hq.1, hq.2.1, (hq.2.2.sift fun y hy => Or.inr (N y hy)).mono (by decide) (by decide)⟩⟩
theorem main_1_1 : Claimed_1_1 := comes_1 fun _ _ _ _ _ _ h hF => ⟨h.1, hF⟩
theorem main_1_2 : Claimed_1_2 := comes_1 fun _ _ _ _ _ _ h hF => ⟨h.2.1, hF⟩
end Jvm.Pilot.@@N@@
namespace Jvm.Pilot.@@N@@
open Jvm Jvm.ClassFile Sem Op Lib Jvm.Free Jvm.Stand Jvm.Pilot.@@N@@.Jvm.D
/-! MADE BY PROGRAM (witnessworld.py) out of the Statement's table words and the real class files: 10 classes; the members and pool entries that the words name. The judged class is class 1, her method 1. -/
namespace start1
open Jvm.ClassFile
def u (s : String) : CpInfo := .utf8 (stringToUtf16 s)
/-- a pool by its gaps: so many unusable entries, then the entry; so many at the end -/
def gap : Nat → List CpInfo → List CpInfo
  | 0, r => r
  | n + 1, r => .unusable :: gap n r
def poolList (es : List (Nat × CpInfo)) (last : Nat) : List CpInfo := es.foldr (fun e r => gap e.1 (e.2 :: r)) (gap last [])
def pool (es : List (Nat × CpInfo)) (last : Nat) : Array CpInfo := ⟨poolList es last⟩
def fileOf (pool : Array CpInfo) (this : Nat) (attrs : Array Attribute := #[]) (ms : Array MethodInfo := #[]) (fl : Nat := 33) (sup : Nat := 0) (ifs : Array Nat := #[]) (fds : Array FieldInfo := #[]) : ClassFile where
  minorVersion := 0
  majorVersion := 65
  constantPool := pool
  accessFlags := fl
  thisClass := this
  superClass := sup
  interfaces := ifs
  fields := fds
  methods := ms
  attributes := attrs
def plain (name : String) (sup : Option ClassId) : Class where
  name := name
  kind := .ordinary
  loader := none
  accessFlags := 33
  super := sup
  interfaces := #[]
  cf := none
  fields := #[]
  methods := #[]
  instanceTypes := #[]
  staticTypes := #[]
  resolved := #[]
  callSites := []
  init := .initialized
  statics := none
  mirror := none

def pool0 : Array CpInfo := pool [(5, u "<init>"), (0, u "()V"), (1, .class_ 10), (1, u "java/lang/Object")] 113

def k0m0 : Method := { name := "<init>", desc := "()V", sig := { parameters := [], returnType := none }, accessFlags := 1, code := none }
/-- java/lang/Object -/
def k0 : Class := { plain "java/lang/Object" none with
  accessFlags := 33
  interfaces := #[]
  cf := some (fileOf pool0 8 #[] #[{ accessFlags := 1, nameIndex := 5, descriptorIndex := 6, attributes := #[] }] 33 0 #[] #[])
  fields := #[]
  methods := #[k0m0]
  instanceTypes := #[]
  staticTypes := #[]
  resolved := Array.replicate 124 none
  statics := none }

def pool1 : Array CpInfo := pool [(2, .class_ 4), (1, u "java/lang/Object"), (0, u "<init>"), (0, u "()V"), (0, .integer 2147483647), (0, .methodref 9 10), (0, .class_ 11), (0, .nameAndType 12 13), (0, u "com/example/ordinal/ordinal/KeysPutHeadPinLaw"), (0, u "fill"), (0, u "([BJ)V"), (0, .methodref 15 16), (0, .class_ 17), (0, .nameAndType 18 19), (0, u "com/example/ordinal/ordinal/Keys"), (0, u "putHead"), (0, u "(J[BI)V"), (0, .methodref 9 21), (0, .nameAndType 22 23), (0, u "at"), (0, u "([B[BIIJ)Z"), (0, .methodref 9 25), (0, .nameAndType 26 27), (0, u "assemble"), (0, u "([BI)J"), (0, .long 255), (3, u "law"), (0, u "(JIJ)Z")] 5

def k1m0 : Method := { name := "<init>", desc := "()V", sig := { parameters := [], returnType := none }, accessFlags := 1, code := none }
def k1c1 : Code := { maxStack := 7, maxLocals := 9, code := code, exceptionTable := #[], attributes := #[] }
def k1m1 : Method := { name := "law", desc := "(JIJ)Z", sig := { parameters := [.long, .int, .long], returnType := some .boolean }, accessFlags := 9, code := some k1c1 }
def k1c2 : Code := { maxStack := 5, maxLocals := 3, code := method_3_code, exceptionTable := #[], attributes := #[] }
def k1m2 : Method := { name := "fill", desc := "([BJ)V", sig := { parameters := [(.array .byte), .long], returnType := none }, accessFlags := 10, code := some k1c2 }
def k1c3 : Code := { maxStack := 5, maxLocals := 8, code := method_4_code, exceptionTable := #[], attributes := #[] }
def k1m3 : Method := { name := "at", desc := "([B[BIIJ)Z", sig := { parameters := [(.array .byte), (.array .byte), .int, .int, .long], returnType := some .boolean }, accessFlags := 10, code := some k1c3 }
def k1c4 : Code := { maxStack := 6, maxLocals := 2, code := method_5_code, exceptionTable := #[], attributes := #[] }
def k1m4 : Method := { name := "assemble", desc := "([BI)J", sig := { parameters := [(.array .byte), .int], returnType := some .long }, accessFlags := 10, code := some k1c4 }
/-- com/example/ordinal/ordinal/KeysPutHeadPinLaw -/
def k1 : Class := { plain "com/example/ordinal/ordinal/KeysPutHeadPinLaw" (some 0) with
  accessFlags := 49
  interfaces := #[]
  cf := some (fileOf pool1 9 #[] #[{ accessFlags := 1, nameIndex := 5, descriptorIndex := 6, attributes := #[] }, { accessFlags := 9, nameIndex := 32, descriptorIndex := 33, attributes := #[] }, { accessFlags := 10, nameIndex := 12, descriptorIndex := 13, attributes := #[] }, { accessFlags := 10, nameIndex := 22, descriptorIndex := 23, attributes := #[] }, { accessFlags := 10, nameIndex := 26, descriptorIndex := 27, attributes := #[] }] 49 2 #[] #[])
  fields := #[]
  methods := #[k1m0, k1m1, k1m2, k1m3, k1m4]
  instanceTypes := #[]
  staticTypes := #[]
  resolved := Array.replicate 39 none
  statics := none }

def pool2 : Array CpInfo := pool [(2, .class_ 4), (1, u "java/lang/Object"), (0, u "<init>"), (0, u "()V"), (7, .class_ 16), (1, u "com/example/ordinal/ordinal/Keys"), (9, .methodref 27 28), (0, .class_ 29), (0, .nameAndType 30 31), (0, u "java/lang/Math"), (0, u "min"), (0, u "(II)I"), (28, u "putHead"), (0, u "(J[BI)V"), (8, u "LONGS"), (0, u "Ljava/lang/invoke/VarHandle;")] 39

def k2m0 : Method := { name := "<init>", desc := "()V", sig := { parameters := [], returnType := none }, accessFlags := 2, code := none }
def k2c1 : Code := { maxStack := 8, maxLocals := 6, code := prog_28_method_9_code, exceptionTable := #[], attributes := #[] }
def k2m1 : Method := { name := "putHead", desc := "(J[BI)V", sig := { parameters := [.long, (.array .byte), .int], returnType := none }, accessFlags := 8, code := some k2c1 }
/-- com/example/ordinal/ordinal/Keys -/
def k2 : Class := { plain "com/example/ordinal/ordinal/Keys" (some 0) with
  accessFlags := 48
  interfaces := #[]
  cf := some (fileOf pool2 14 #[] #[{ accessFlags := 2, nameIndex := 5, descriptorIndex := 6, attributes := #[] }, { accessFlags := 8, nameIndex := 60, descriptorIndex := 61, attributes := #[] }] 48 2 #[] #[{ accessFlags := 26, nameIndex := 70, descriptorIndex := 71, attributes := #[] }])
  fields := #[{ name := "LONGS", type := (.object "java/lang/invoke/VarHandle"), accessFlags := 26, slot := 0, constantValue := 0 }]
  methods := #[k2m0, k2m1]
  instanceTypes := #[]
  staticTypes := #[(.object "java/lang/invoke/VarHandle")]
  resolved := Array.replicate 111 none
  statics := none }

def pool3 : Array CpInfo := pool [(1, .class_ 2), (0, u "java/lang/Math"), (1, .class_ 6), (1, u "java/lang/Object"), (0, u "<init>"), (0, u "()V"), (89, .class_ 100), (1, u "java/lang/Math$RandomNumberGeneratorHolder"), (71, u "negativeZeroFloatBits"), (0, u "J"), (2, u "negativeZeroDoubleBits"), (24, u "min"), (43, u "$assertionsDisabled"), (0, u "Z"), (88, u "(II)I"), (2, u "twoToTheDoubleScaleDown"), (0, u "D"), (4, u "twoToTheDoubleScaleUp"), (9, u "E"), (3, u "PI"), (2, u "TAU"), (2, u "DEGREES_TO_RADIANS"), (0, u "RADIANS_TO_DEGREES")] 94

def k3m0 : Method := { name := "<init>", desc := "()V", sig := { parameters := [], returnType := none }, accessFlags := 2, code := none }
def k3c1 : Code := { maxStack := 2, maxLocals := 2, code := jdk_29_method_69_code, exceptionTable := #[], attributes := #[] }
def k3m1 : Method := { name := "min", desc := "(II)I", sig := { parameters := [.int, .int], returnType := some .int }, accessFlags := 9, code := some k3c1 }
/-- java/lang/Math -/
def k3 : Class := { plain "java/lang/Math" (some 0) with
  accessFlags := 49
  interfaces := #[]
  cf := some (fileOf pool3 1 #[.nestMembers #[98]] #[{ accessFlags := 2, nameIndex := 7, descriptorIndex := 8, attributes := #[] }, { accessFlags := 9, nameIndex := 201, descriptorIndex := 335, attributes := #[] }] 49 4 #[] #[{ accessFlags := 25, nameIndex := 354, descriptorIndex := 339, attributes := #[] }, { accessFlags := 25, nameIndex := 358, descriptorIndex := 339, attributes := #[] }, { accessFlags := 25, nameIndex := 361, descriptorIndex := 339, attributes := #[] }, { accessFlags := 26, nameIndex := 364, descriptorIndex := 339, attributes := #[] }, { accessFlags := 26, nameIndex := 365, descriptorIndex := 339, attributes := #[] }, { accessFlags := 26, nameIndex := 172, descriptorIndex := 173, attributes := #[] }, { accessFlags := 26, nameIndex := 176, descriptorIndex := 173, attributes := #[] }, { accessFlags := 8, nameIndex := 344, descriptorIndex := 339, attributes := #[] }, { accessFlags := 8, nameIndex := 338, descriptorIndex := 339, attributes := #[] }, { accessFlags := 4120, nameIndex := 245, descriptorIndex := 246, attributes := #[] }])
  fields := #[{ name := "E", type := .double, accessFlags := 25, slot := 0, constantValue := 0 }, { name := "PI", type := .double, accessFlags := 25, slot := 1, constantValue := 0 }, { name := "TAU", type := .double, accessFlags := 25, slot := 2, constantValue := 0 }, { name := "DEGREES_TO_RADIANS", type := .double, accessFlags := 26, slot := 3, constantValue := 0 }, { name := "RADIANS_TO_DEGREES", type := .double, accessFlags := 26, slot := 4, constantValue := 0 }, { name := "negativeZeroFloatBits", type := .long, accessFlags := 26, slot := 5, constantValue := 0 }, { name := "negativeZeroDoubleBits", type := .long, accessFlags := 26, slot := 6, constantValue := 0 }, { name := "twoToTheDoubleScaleUp", type := .double, accessFlags := 8, slot := 7, constantValue := 0 }, { name := "twoToTheDoubleScaleDown", type := .double, accessFlags := 8, slot := 8, constantValue := 0 }, { name := "$assertionsDisabled", type := .boolean, accessFlags := 4120, slot := 9, constantValue := 0 }]
  methods := #[k3m0, k3m1]
  instanceTypes := #[]
  staticTypes := #[.double, .double, .double, .double, .double, .long, .long, .double, .double, .boolean]
  resolved := Array.replicate 460 none
  statics := none }

def pool4 : Array CpInfo := pool [(1, u "java/lang/Cloneable"), (0, .class_ 1), (0, u "java/lang/Object"), (0, .class_ 3)] 3

/-- java/lang/Cloneable -/
def k4 : Class := { plain "java/lang/Cloneable" (some 0) with
  accessFlags := 1537
  interfaces := #[]
  cf := some (fileOf pool4 2 #[] #[] 1537 4 #[] #[])
  fields := #[]
  methods := #[]
  instanceTypes := #[]
  staticTypes := #[]
  resolved := Array.replicate 8 none
  statics := none }

def pool5 : Array CpInfo := pool [(1, u "java/io/Serializable"), (0, .class_ 1), (0, u "java/lang/Object"), (0, .class_ 3)] 3

/-- java/io/Serializable -/
def k5 : Class := { plain "java/io/Serializable" (some 0) with
  accessFlags := 1537
  interfaces := #[]
  cf := some (fileOf pool5 2 #[] #[] 1537 4 #[] #[])
  fields := #[]
  methods := #[]
  instanceTypes := #[]
  staticTypes := #[]
  resolved := Array.replicate 8 none
  statics := none }

/-- the primitive byte -/
def k6 : Class := { plain "byte" none with kind := .primitive 'B', accessFlags := 0x411 }
/-- [B -/
def k7 : Class := { plain "[B" (some 0) with kind := .array 6 .byte, interfaces := #[4, 5], accessFlags := 1041 }

/-- the primitive int -/
def k8 : Class := { plain "int" none with kind := .primitive 'I', accessFlags := 0x411 }
/-- [I -/
def k9 : Class := { plain "[I" (some 0) with kind := .array 8 .int, interfaces := #[4, 5], accessFlags := 1041 }

def heap : Heap := #[]
def classes : Array Class := #[k0, k1, k2, k3, k4, k5, k6, k7, k8, k9]
def interned : List (Array UInt16 × Addr) := []
def slotsUsed : Nat := 0
def theMethod : MethodId := ⟨1, 1⟩
def args0 : Array Value := #[.long 5, .int 5, .long 5]
def aboutOver (below : List Frame) : State where
  vm := { classes := classes, interned := interned.toArray }
  heap := heap
  slotsUsed := slotsUsed
  threads := #[{ frames := .invoking theMethod args0 :: below }]
def below0 : List Frame := [.native { method := ⟨0, 0⟩, args := #[] }]
def about1 : State := aboutOver below0
def p0 : Program := .bare "" "" ""
def e0 : Env := launch0.env 0 0 0
theorem w_frames : about1.frames = Frame.invoking theMethod args0 :: below0 := rfl
set_option maxRecDepth 65536 in
theorem w_args : argsFit about1.vm theMethod args0 = true := by decide +kernel
set_option maxRecDepth 65536 in
theorem w_heap : heapFits about1 = true := by decide +kernel
set_option maxRecDepth 65536 in
theorem w_runnable : about1.curStatus? = some .runnable := by decide +kernel
set_option maxRecDepth 65536 in
theorem w_alone : about1.alone = true := by decide +kernel
set_option maxRecDepth 65536 in
theorem w_named : about1.methodNamed? x = some theMethod := by decide +kernel
set_option maxRecDepth 65536 in
theorem w_hears : about1.hears theMethod below0 = true := by decide +kernel
set_option maxRecDepth 65536 in
theorem w_ripe : about1.ripe theMethod args0 below0 = true := by decide +kernel
theorem w_running : about1.status = .running := rfl
set_option maxRecDepth 65536 in
theorem w_room : about1.hasRoom e0.platform room_1 = true :=
  launch0.hasRoom_least _ room_1 (by decide +kernel) (by decide +kernel) (by decide +kernel) (by decide +kernel) (by decide +kernel) (by decide +kernel)
theorem allAtoms_all (ts : List Jvm.Cond) (a : Array Jvm.Value) (st : Jvm.State) : (allAtoms ts).before a st = ts.all (fun c => c.before a st) := by
  induction ts with
  | nil => rfl
  | cons c t ih =>
    show (Jvm.Cond.and c (allAtoms t)).before a st = _
    rw [Jvm.Cond.before_and, ih, List.all_cons]
def words1 : List Jvm.Cond := Jvm.Cond.code x code maxLocals ret :: tables_1
/-- a 'code' word, met by the world's own term for the bytes: nothing is compared byte by byte -/
theorem code_word {y : MethodName} {bytes : ByteArray} {mx : Nat} {rt : Option FieldType} {a : Array Value} {s : State} {m : MethodId} {meth : Method} {c : Code} (h1 : s.methodNamed? y = some m) (h2 : s.vm.method? m = some meth) (h3 : meth.code = some c) (h4 : c.code = bytes)
    (h5 : (c.maxLocals == mx && c.exceptionTable.isEmpty && decide (c.maxStack ≤ mostOperands) && decide (meth.sig.returnType = rt) && !meth.locks && decide (parseMethodDescriptor y.desc = some meth.sig)) = true) : (Jvm.Cond.code y bytes mx rt).before a s = true := by
  simp only [Bool.and_eq_true, beq_iff_eq, Bool.not_eq_true', decide_eq_true_eq] at h5
  obtain ⟨⟨⟨⟨⟨g1, g2⟩, g3⟩, g4⟩, g5⟩, g6⟩ := h5
  simp [Cond.before, Cond.holds, Cond.value, h1, h2, h3, h4, g1, g2, g3, g4, g5, g6]
def isCode : Jvm.Cond → Bool
  | .code _ _ _ _ => true
  | _ => false
theorem all_split {L : List Jvm.Cond} {P : Jvm.Cond → Bool} (h1 : L.all (fun c => isCode c || P c) = true) (h2 : ∀ c ∈ L.filter isCode, P c = true) : L.all P = true := by
  refine List.all_eq_true.mpr fun c hc => ?_
  have h := List.all_eq_true.mp h1 c hc
  rcases Bool.eq_false_or_eq_true (isCode c) with hi | hi
  · exact h2 c (List.mem_filter.mpr ⟨hc, hi⟩)
  · simpa [hi] using h
set_option maxRecDepth 65536 in
theorem w_c0 : (Jvm.Cond.code x code maxLocals ret).before args0 about1 = true := code_word (m := ⟨1, 1⟩) (meth := k1m1) (c := k1c1) (by decide +kernel) rfl rfl rfl (by decide +kernel)
set_option maxRecDepth 65536 in
theorem w_c1 : (Jvm.Cond.code ({ cls := "com/example/ordinal/ordinal/KeysPutHeadPinLaw", name := "fill", desc := "([BJ)V" } : Jvm.MethodName) method_3_code (3 : Nat) (Option.none : Option Jvm.ClassFile.FieldType)).before args0 about1 = true := code_word (m := ⟨1, 2⟩) (meth := k1m2) (c := k1c2) (by decide +kernel) rfl rfl rfl (by decide +kernel)
set_option maxRecDepth 65536 in
theorem w_c2 : (Jvm.Cond.code ({ cls := "com/example/ordinal/ordinal/Keys", name := "putHead", desc := "(J[BI)V" } : Jvm.MethodName) prog_28_method_9_code (6 : Nat) (Option.none : Option Jvm.ClassFile.FieldType)).before args0 about1 = true := code_word (m := ⟨2, 1⟩) (meth := k2m1) (c := k2c1) (by decide +kernel) rfl rfl rfl (by decide +kernel)
set_option maxRecDepth 65536 in
theorem w_c3 : (Jvm.Cond.code ({ cls := "java/lang/Math", name := "min", desc := "(II)I" } : Jvm.MethodName) jdk_29_method_69_code (2 : Nat) (Option.some Jvm.ClassFile.FieldType.int)).before args0 about1 = true := code_word (m := ⟨3, 1⟩) (meth := k3m1) (c := k3c1) (by decide +kernel) rfl rfl rfl (by decide +kernel)
set_option maxRecDepth 65536 in
theorem w_c4 : (Jvm.Cond.code ({ cls := "com/example/ordinal/ordinal/KeysPutHeadPinLaw", name := "at", desc := "([B[BIIJ)Z" } : Jvm.MethodName) method_4_code (8 : Nat) (Option.some Jvm.ClassFile.FieldType.boolean)).before args0 about1 = true := code_word (m := ⟨1, 3⟩) (meth := k1m3) (c := k1c3) (by decide +kernel) rfl rfl rfl (by decide +kernel)
set_option maxRecDepth 65536 in
theorem w_c5 : (Jvm.Cond.code ({ cls := "com/example/ordinal/ordinal/KeysPutHeadPinLaw", name := "assemble", desc := "([BI)J" } : Jvm.MethodName) method_5_code (2 : Nat) (Option.some Jvm.ClassFile.FieldType.long)).before args0 about1 = true := code_word (m := ⟨1, 4⟩) (meth := k1m4) (c := k1c4) (by decide +kernel) rfl rfl rfl (by decide +kernel)
def codes1 : List Jvm.Cond := [Jvm.Cond.code x code maxLocals ret, Jvm.Cond.code ({ cls := "com/example/ordinal/ordinal/KeysPutHeadPinLaw", name := "fill", desc := "([BJ)V" } : Jvm.MethodName) method_3_code (3 : Nat) (Option.none : Option Jvm.ClassFile.FieldType), Jvm.Cond.code ({ cls := "com/example/ordinal/ordinal/Keys", name := "putHead", desc := "(J[BI)V" } : Jvm.MethodName) prog_28_method_9_code (6 : Nat) (Option.none : Option Jvm.ClassFile.FieldType), Jvm.Cond.code ({ cls := "java/lang/Math", name := "min", desc := "(II)I" } : Jvm.MethodName) jdk_29_method_69_code (2 : Nat) (Option.some Jvm.ClassFile.FieldType.int), Jvm.Cond.code ({ cls := "com/example/ordinal/ordinal/KeysPutHeadPinLaw", name := "at", desc := "([B[BIIJ)Z" } : Jvm.MethodName) method_4_code (8 : Nat) (Option.some Jvm.ClassFile.FieldType.boolean), Jvm.Cond.code ({ cls := "com/example/ordinal/ordinal/KeysPutHeadPinLaw", name := "assemble", desc := "([BI)J" } : Jvm.MethodName) method_5_code (2 : Nat) (Option.some Jvm.ClassFile.FieldType.long)]
set_option maxRecDepth 65536 in
theorem codes_eq : words1.filter isCode = codes1 := rfl
theorem w_codes : ∀ c ∈ words1.filter isCode, c.before args0 about1 = true := by
  rw [codes_eq]
  intro c hc
  simp only [codes1, List.mem_cons, List.not_mem_nil, or_false] at hc
  rcases hc with rfl | rfl | rfl | rfl | rfl | rfl
  · exact w_c0
  · exact w_c1
  · exact w_c2
  · exact w_c3
  · exact w_c4
  · exact w_c5
set_option maxRecDepth 65536 in
theorem w_t1 : words1.all (fun c => isCode c || c.before args0 about1) = true := by decide +kernel
theorem w_tables : (allAtoms (Jvm.Cond.code x code maxLocals ret :: tables_1)).before args0 about1 = true := by
  rw [allAtoms_all]
  show words1.all (fun c => c.before args0 about1) = true
  refine all_split ?_ w_codes
  rw [w_t1]
set_option maxRecDepth 65536 in
theorem w_case : (Jvm.Cond.and given_1 narrow_1).before args0 about1 = true := by decide +kernel
theorem w_applies : (headSpec (Jvm.Cond.code x code maxLocals ret :: tables_1) room_1).applies x e0.platform about1 = true :=
  (Spec.applies_iff w_frames).mpr ⟨w_running, w_runnable, w_alone, w_named, w_hears, w_ripe, w_room, w_tables⟩
theorem atStart : AtStart classFile x code maxLocals ret World_1 tables_1 room_1 Calls_1 rest_1 Pre_1 launch0 p0 e0 about1 theMethod args0 below0 :=
  ⟨lists_1, trivial, launch0.admits_env _ _ _, launch0.least_env, fairChoices_fair.cas, fairChoices_fair.clock, w_frames, w_args, w_heap, w_applies, trivial, trivial, w_case⟩
end start1
theorem witness_1 : WitnessClaimed_1 := ⟨start1.p0, start1.e0, start1.about1, start1.theMethod, start1.args0, start1.below0, start1.atStart⟩
end Jvm.Pilot.@@N@@
