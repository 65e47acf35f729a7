import JvmDerived
import JvmDerived.Pilot.@@N@@Statement
import JvmDerived.Pilot.@@N@@Code
set_option linter.unusedVariables false
set_option linter.unusedSimpArgs false

namespace Jvm.Pilot.@@N@@
open Jvm Jvm.ClassFile Sem Op Lib Jvm.Free Jvm.Stand Jvm.LawKit Jvm.RoadKit Bundle Jvm.Pilot.@@N@@.Jvm.D
/-! own kit: the walk's goal carried forward, arrays as functions -/
def own_Fin (below : List Frame) (s : State) (Q : Option Value → Heap → List Loc → Prop) (k n : Nat) (t : State) : Prop :=
  ∃ o, t.status = .running ∧ Ended t below o ∧ ∃ v L, o = .returned v ∧ Q v t.heap L ∧ FrameEnd s o t L k n
def own_Go (tb : Tables) (e : Env) (below : List Frame) (S : State) (P : State → Prop) : Prop := ∃ t, Steps tb e below S t ∧ P t
theorem own_by {tb : Tables} {e : Env} {below : List Frame} {S S' : State} {P : State → Prop} (k : ∀ t, Steps tb e below S' t → Steps tb e below S t) (h : own_Go tb e below S' P) : own_Go tb e below S P := by
  obtain ⟨t, a, b⟩ := h
  exact ⟨t, k t a, b⟩
theorem own_tr {tb : Tables} {e : Env} {below : List Frame} {S S' : State} {P : State → Prop} (k : Steps tb e below S S') (h : own_Go tb e below S' P) : own_Go tb e below S P := by
  obtain ⟨t, a, b⟩ := h
  exact ⟨t, k.trans a, b⟩
theorem own_out {tb : Tables} {e : Env} {below : List Frame} {S s : State} {Q : Option Value → Heap → List Loc → Prop} {k n : Nat} (h : own_Go tb e below S (own_Fin below s Q k n)) :
    ∃ s₂ o, Steps tb e below S s₂ ∧ s₂.status = .running ∧ Ended s₂ below o ∧ ∃ v L, o = .returned v ∧ Q v s₂.heap L ∧ FrameEnd s o s₂ L k n := by
  obtain ⟨t, a, o, b, c, d⟩ := h
  exact ⟨t, o, a, b, c, d⟩
theorem own_cast {tb : Tables} {e : Env} {below : List Frame} {T : State} {g g' : JFrame} {P : State → Prop} (q : g = g') (h : own_Go tb e below (T.setTop g') P) : own_Go tb e below (T.setTop g) P := q ▸ h
section OwnEnd
variable {p : Program} {l : Launch} {e : Env} {R : Room} {s : State} {m : MethodId} {args : Array Value} {below : List Frame} {meth : Method} {c : Code} {T : State} {locs : List Loc} {cells slots : Nat} {Q : Option Value → Heap → List Loc → Prop} {k n : Nat}
theorem own_ret (X : Stand p l e R s m args below meth c T locs cells slots) (hx : p.tables.exec = Jvm.exec) (hlocks : meth.locks = false) {pc : Nat} {Ls : Array Slot} {w : Value} {t : FieldType} {i : Instr} {rest : List Value} (hret : meth.sig.returnType = some t) (hn : narrow t w = w)
    (hi : (i = .ireturn ∧ (t = .int ∨ t = .boolean ∨ t = .byte ∨ t = .char ∨ t = .short) ∧ ∃ z, w = .int z) ∨ (i = .lreturn ∧ t = .long ∧ ∃ z, w = .long z) ∨ (i = .dreturn ∧ t = .double ∧ ∃ z, w = .double z) ∨ (i = .freturn ∧ t = .float ∧ ∃ z, w = .float z) ∨ (i = .areturn ∧ t.isReference = true ∧ w.isRef = true))
    (hd : decode c.code pc = .ok (i, 1)) (hQ : Q (some w) T.heap locs) (h1 : cells ≤ k) (h2 : slots ≤ n) :
    own_Go p.tables e below (T.setTop (mkF m pc Ls (w :: rest))) (own_Fin below s Q k n) := by
  obtain ⟨fs, hr, hrun, hended, hW, hsame⟩ := X.leave (v := some w) (fun h => by rw [hret] at h; cases h) hlocks
  exact ⟨_, retOut X hx hret hn hi hd hr, _, hrun, hended, _, _, rfl, hQ, ⟨_, rfl⟩, hW, hsame.mono h1 h2⟩
theorem own_retI (X : Stand p l e R s m args below meth c T locs cells slots) (hx : p.tables.exec = Jvm.exec) (hlocks : meth.locks = false) {pc : Nat} {Ls : Array Slot} {z : Int32} {rest : List Value} (hret : meth.sig.returnType = some .int)
    (hd : decode c.code pc = .ok (.ireturn, 1)) (hQ : Q (some (.int z)) T.heap locs) (h1 : cells ≤ k) (h2 : slots ≤ n) :
    own_Go p.tables e below (T.setTop (mkF m pc Ls (.int z :: rest))) (own_Fin below s Q k n) :=
  own_ret X hx hlocks hret rfl (Or.inl ⟨rfl, Or.inl rfl, _, rfl⟩) hd hQ h1 h2
theorem own_retJ (X : Stand p l e R s m args below meth c T locs cells slots) (hx : p.tables.exec = Jvm.exec) (hlocks : meth.locks = false) {pc : Nat} {Ls : Array Slot} {z : Int64} {rest : List Value} (hret : meth.sig.returnType = some .long)
    (hd : decode c.code pc = .ok (.lreturn, 1)) (hQ : Q (some (.long z)) T.heap locs) (h1 : cells ≤ k) (h2 : slots ≤ n) :
    own_Go p.tables e below (T.setTop (mkF m pc Ls (.long z :: rest))) (own_Fin below s Q k n) :=
  own_ret X hx hlocks hret rfl (Or.inr (Or.inl ⟨rfl, rfl, _, rfl⟩)) hd hQ h1 h2
theorem own_retA (X : Stand p l e R s m args below meth c T locs cells slots) (hx : p.tables.exec = Jvm.exec) (hlocks : meth.locks = false) {pc : Nat} {Ls : Array Slot} {w : Value} {t : FieldType} {rest : List Value} (hret : meth.sig.returnType = some t) (ht : t.isReference = true) (hw : w.isRef = true) (hn : narrow t w = w)
    (hd : decode c.code pc = .ok (.areturn, 1)) (hQ : Q (some w) T.heap locs) (h1 : cells ≤ k) (h2 : slots ≤ n) :
    own_Go p.tables e below (T.setTop (mkF m pc Ls (w :: rest))) (own_Fin below s Q k n) :=
  own_ret X hx hlocks hret hn (Or.inr (Or.inr (Or.inr (Or.inr ⟨rfl, ht, hw⟩)))) hd hQ h1 h2
theorem own_retN (X : Stand p l e R s m args below meth c T locs cells slots) (hx : p.tables.exec = Jvm.exec) (hlocks : meth.locks = false) {pc : Nat} {Ls : Array Slot} {z : Int32} {t : FieldType} {rest : List Value} (hret : meth.sig.returnType = some t) (ht : t = .boolean ∨ t = .byte ∨ t = .char ∨ t = .short) (hn : nar t z = z)
    (hd : decode c.code pc = .ok (.ireturn, 1)) (hQ : Q (some (.int z)) T.heap locs) (h1 : cells ≤ k) (h2 : slots ≤ n) :
    own_Go p.tables e below (T.setTop (mkF m pc Ls (.int z :: rest))) (own_Fin below s Q k n) := by
  obtain ⟨fs, hr, hrun, hended, hW, hsame⟩ := X.leave (v := some (.int (nar t z))) (fun h => by rw [hret] at h; cases h) hlocks
  exact ⟨_, retN X hx hret ht hd hr, _, hrun, hended, _, _, rfl, (by rw [hn]; exact hQ), ⟨_, rfl⟩, hW, hsame.mono h1 h2⟩
theorem own_retV (X : Stand p l e R s m args below meth c T locs cells slots) (hx : p.tables.exec = Jvm.exec) (hlocks : meth.locks = false) {pc : Nat} {Ls : Array Slot} (hret : meth.sig.returnType = none)
    (hd : decode c.code pc = .ok (.return_, 1)) (hQ : Q none T.heap locs) (h1 : cells ≤ k) (h2 : slots ≤ n) :
    own_Go p.tables e below (T.setTop (mkF m pc Ls [])) (own_Fin below s Q k n) := by
  obtain ⟨fs, hr, hrun, hended, hW, hsame⟩ := X.leave (v := none) (fun _ => rfl) hlocks
  exact ⟨_, X.returnOut hx hret hd hr, _, hrun, hended, _, _, rfl, hQ, ⟨_, rfl⟩, hW, hsame.mono h1 h2⟩
end OwnEnd
/-- one place of a function changed -/
def own_upd {α : Type} (f : Nat → α) (k : Nat) (x : α) : Nat → α := fun i => if i = k then x else f i
theorem own_upd_at {α : Type} (f : Nat → α) (k : Nat) (x : α) : own_upd f k x k = x := by simp [own_upd]
theorem own_upd_ne {α : Type} (f : Nat → α) {k i : Nat} (x : α) (h : i ≠ k) : own_upd f k x i = f i := by simp [own_upd, h]
/-- an array: its length, and what each place holds -/
def own_AF (Z : State) (h : Heap) (a : Addr) (ty : FieldType) (n : Nat) (f : Nat → Value) : Prop := ∃ c : Cell, Arr Z h a c ty ∧ c.slots.size = n ∧ ∀ i, i < n → c.slots[i]? = some (f i)
def own_AI (Z : State) (h : Heap) (a : Addr) (ty : FieldType) (n : Nat) (b : Nat → Int32) : Prop := own_AF Z h a ty n (fun i => .int (b i))
def own_AJ (Z : State) (h : Heap) (a : Addr) (n : Nat) (b : Nat → Int64) : Prop := own_AF Z h a .long n (fun i => .long (b i))
section OwnArr
variable {Z : State} {h h' : Heap} {a b : Addr} {ty : FieldType} {n : Nat} {f : Nat → Value} {ws : List Addr} {sl : Nat} {v : Value} {bi : Nat → Int32} {bj : Nat → Int64}
theorem own_AF.lt (F : own_AF Z h a ty n f) : a < h.size := by obtain ⟨c, A, -⟩ := F; exact A.lt
theorem own_AF.ext (F : own_AF Z h a ty n f) (E : Ext h h') : own_AF Z h' a ty n f := by obtain ⟨c, A, r⟩ := F; exact ⟨c, A.ext E, r⟩
theorem own_AF.other (F : own_AF Z h b ty n f) (W : Wr h h' a sl v) (q : b ≠ a) : own_AF Z h' b ty n f := by obtain ⟨c, A, r⟩ := F; exact ⟨c, A.other W q, r⟩
theorem own_AF.keep (F : own_AF Z h a ty n f) (K : Keep h h' ws) (q : a ∉ ws) : own_AF Z h' a ty n f := by obtain ⟨c, A, r⟩ := F; exact ⟨c, ⟨K.2.1 a c A.1 q, A.2⟩, r⟩
theorem own_AF.congr (F : own_AF Z h a ty n f) {f' : Nat → Value} (q : ∀ i, i < n → f i = f' i) : own_AF Z h a ty n f' := by obtain ⟨c, A, S, r⟩ := F; exact ⟨c, A, S, fun i hi => by rw [← q i hi]; exact r i hi⟩
theorem own_AF.new {k : ClassId} {z : Int32} (A : Arr Z h a (newA k ty z) ty) (hz : z.toNatClampNeg = n) : own_AF Z h a ty n (fun _ => defaultValue ty) := by
  subst hz
  exact ⟨_, A, sz_new _ _ _, fun i hi => by simp [newA, hi]⟩
theorem own_AF.st (F : own_AF Z h a ty n f) (W : Wr h h' a sl v) : own_AF Z h' a ty n (own_upd f sl v) := by
  obtain ⟨c, A, S, r⟩ := F
  refine ⟨_, A.same W, by rw [sz_set]; exact S, fun i hi => ?_⟩
  by_cases u : i = sl
  · subst u; rw [own_upd_at]; simp [Cell.setSlot, S, hi]
  · rw [own_upd_ne _ _ u]
    simp only [Cell.setSlot]
    rw [Array.getElem?_setIfInBounds_ne (fun q => u q.symm)]; exact r i hi
theorem own_AI.st {x : Int32} (F : own_AI Z h a ty n bi) (W : Wr h h' a sl (.int x)) : own_AI Z h' a ty n (own_upd bi sl x) :=
  (own_AF.st F W).congr fun i _ => by by_cases u : i = sl <;> simp [own_upd, u]
theorem own_AJ.st {x : Int64} (F : own_AJ Z h a n bj) (W : Wr h h' a sl (.long x)) : own_AJ Z h' a n (own_upd bj sl x) :=
  (own_AF.st F W).congr fun i _ => by by_cases u : i = sl <;> simp [own_upd, u]
theorem own_AI.lt (F : own_AI Z h a ty n bi) : a < h.size := own_AF.lt F
theorem own_AI.ext (F : own_AI Z h a ty n bi) (E : Ext h h') : own_AI Z h' a ty n bi := own_AF.ext F E
theorem own_AI.other (F : own_AI Z h b ty n bi) (W : Wr h h' a sl v) (q : b ≠ a) : own_AI Z h' b ty n bi := own_AF.other F W q
theorem own_AI.keep (F : own_AI Z h a ty n bi) (K : Keep h h' ws) (q : a ∉ ws) : own_AI Z h' a ty n bi := own_AF.keep F K q
theorem own_AI.congr (F : own_AI Z h a ty n bi) {b' : Nat → Int32} (q : ∀ i, i < n → bi i = b' i) : own_AI Z h a ty n b' := own_AF.congr F fun i hi => by rw [q i hi]
theorem own_AJ.lt (F : own_AJ Z h a n bj) : a < h.size := own_AF.lt F
theorem own_AJ.ext (F : own_AJ Z h a n bj) (E : Ext h h') : own_AJ Z h' a n bj := own_AF.ext F E
theorem own_AJ.other (F : own_AJ Z h b n bj) (W : Wr h h' a sl v) (q : b ≠ a) : own_AJ Z h' b n bj := own_AF.other F W q
theorem own_AJ.keep (F : own_AJ Z h a n bj) (K : Keep h h' ws) (q : a ∉ ws) : own_AJ Z h' a n bj := own_AF.keep F K q
theorem own_AJ.congr (F : own_AJ Z h a n bj) {b' : Nat → Int64} (q : ∀ i, i < n → bj i = b' i) : own_AJ Z h a n b' := own_AF.congr F fun i hi => by rw [q i hi]
variable {p : Program} {l : Launch} {e : Env} {R : Room} {s : State} {m : MethodId} {args : Array Value} {below : List Frame} {meth : Method} {c : Code} {T : State} {locs : List Loc} {cells slots : Nat} {j : Int32} {k : Nat} {g : JFrame} {rest : List Value}
theorem own_in {cl : Cell} (S : cl.slots.size = n) (h0 : ¬ j < 0) (hk : j.toNatClampNeg = k) (hlt : k < n) : ¬ (j < 0 ∨ cl.slots.size ≤ j.toNatClampNeg) := by
  rintro (q | q)
  · exact h0 q
  · rw [S, hk] at q; omega
theorem own_ldB (X : Stand p l e R s m args below meth c T locs cells slots) (hx : p.tables.exec = Jvm.exec) (hZ : Z.Warmed39 s.vm) (eT : T.heap = h) (A : own_AI Z h a .byte n bi) (h0 : ¬ j < 0) (hk : j.toNatClampNeg = k) (hlt : k < n) (hg : g.method = m) (hs : g.stack = .int j :: .ref a :: rest) (hd : decode c.code g.pc = .ok (.baload, 1)) :
    ∀ target, Steps p.tables e below (T.setTop { g with pc := g.pc + 1, stack := .int (bi k) :: rest }) target → Steps p.tables e below (T.setTop g) target := by
  obtain ⟨cl, Ar, S, H⟩ := A
  exact X.baloadBytes hx (v := .int (bi k)) (by rw [eT]; exact Ar.1) (State.isArrayOf_alike hZ.alike Ar.2.1) Ar.2.2 (own_in S h0 hk hlt) (by rw [hk]; exact H k hlt) hg hs hd
theorem own_ldI (X : Stand p l e R s m args below meth c T locs cells slots) (hx : p.tables.exec = Jvm.exec) (hZ : Z.Warmed39 s.vm) (eT : T.heap = h) (A : own_AI Z h a .int n bi) (h0 : ¬ j < 0) (hk : j.toNatClampNeg = k) (hlt : k < n) (hg : g.method = m) (hs : g.stack = .int j :: .ref a :: rest) (hd : decode c.code g.pc = .ok (.iaload, 1)) :
    ∀ target, Steps p.tables e below (T.setTop { g with pc := g.pc + 1, stack := .int (bi k) :: rest }) target → Steps p.tables e below (T.setTop g) target := by
  obtain ⟨cl, Ar, S, H⟩ := A
  exact X.iaload hx (v := .int (bi k)) (by rw [eT]; exact Ar.1) (State.isArrayOf_alike hZ.alike Ar.2.1) Ar.2.2 (own_in S h0 hk hlt) (by rw [hk]; exact H k hlt) hg hs hd
theorem own_ldJ (X : Stand p l e R s m args below meth c T locs cells slots) (hx : p.tables.exec = Jvm.exec) (hZ : Z.Warmed39 s.vm) (eT : T.heap = h) (A : own_AJ Z h a n bj) (h0 : ¬ j < 0) (hk : j.toNatClampNeg = k) (hlt : k < n) (hg : g.method = m) (hs : g.stack = .int j :: .ref a :: rest) (hd : decode c.code g.pc = .ok (.laload, 1)) :
    ∀ target, Steps p.tables e below (T.setTop { g with pc := g.pc + 1, stack := .long (bj k) :: rest }) target → Steps p.tables e below (T.setTop g) target := by
  obtain ⟨cl, Ar, S, H⟩ := A
  exact X.laload hx (v := .long (bj k)) (by rw [eT]; exact Ar.1) (State.isArrayOf_alike hZ.alike Ar.2.1) Ar.2.2 (own_in S h0 hk hlt) (by rw [hk]; exact H k hlt) hg hs hd
theorem own_len (X : Stand p l e R s m args below meth c T locs cells slots) (hx : p.tables.exec = Jvm.exec) (hZ : Z.Warmed39 s.vm) (eT : T.heap = h) (A : own_AF Z h a ty n f) {z : Int32} (hz : n.toInt32 = z) (hg : g.method = m) (hs : g.stack = .ref a :: rest) (hd : decode c.code g.pc = .ok (.arraylength, 1)) :
    ∀ target, Steps p.tables e below (T.setTop { g with pc := g.pc + 1, stack := .int z :: rest }) target → Steps p.tables e below (T.setTop g) target := by
  obtain ⟨cl, Ar, S, H⟩ := A
  intro t hr
  refine X.arraylength hx (by rw [eT]; exact Ar.1) (State.isArrayOf_alike hZ.alike Ar.2.1) hg hs hd t ?_
  rw [S, hz]; exact hr
theorem own_stB (X : Stand p l e R s m args below meth c T locs cells slots) (hx : p.tables.exec = Jvm.exec) (hZ : Z.Warmed39 s.vm) (eT : T.heap = h) (A : own_AI Z h a .byte n bi) {x : Int32} (h0 : ¬ j < 0) (hk : j.toNatClampNeg = k) (hlt : k < n) (hg : g.method = m) (hs : g.stack = .int x :: .int j :: .ref a :: rest) (hd : decode c.code g.pc = .ok (.bastore, 1)) :
    ∃ T' h', Stand p l e R s m args below meth c T' (locs ++ [⟨a, k⟩]) cells slots ∧ T'.heap = h' ∧ Wr h h' a k (.int (x.toInt8.toInt32)) ∧ own_AI Z h' a .byte n (own_upd bi k (x.toInt8.toInt32)) ∧ ∀ target, Steps p.tables e below (T'.setTop { g with pc := g.pc + 1, stack := rest }) target → Steps p.tables e below (T.setTop g) target := by
  obtain ⟨cl, Ar, S, H⟩ := id A
  obtain ⟨T', h', X', e', W, st⟩ := stB X hx hZ eT Ar (own_in S h0 hk hlt) hg hs hd
  rw [hk] at X' W
  exact ⟨T', h', X', e', W, A.st W, st⟩
theorem own_stI (X : Stand p l e R s m args below meth c T locs cells slots) (hx : p.tables.exec = Jvm.exec) (hZ : Z.Warmed39 s.vm) (eT : T.heap = h) (A : own_AI Z h a .int n bi) {x : Int32} (h0 : ¬ j < 0) (hk : j.toNatClampNeg = k) (hlt : k < n) (hg : g.method = m) (hs : g.stack = .int x :: .int j :: .ref a :: rest) (hd : decode c.code g.pc = .ok (.iastore, 1)) :
    ∃ T' h', Stand p l e R s m args below meth c T' (locs ++ [⟨a, k⟩]) cells slots ∧ T'.heap = h' ∧ Wr h h' a k (.int x) ∧ own_AI Z h' a .int n (own_upd bi k x) ∧ ∀ target, Steps p.tables e below (T'.setTop { g with pc := g.pc + 1, stack := rest }) target → Steps p.tables e below (T.setTop g) target := by
  obtain ⟨cl, Ar, S, H⟩ := id A
  obtain ⟨T', h', X', e', W, st⟩ := stI X hx hZ eT Ar (own_in S h0 hk hlt) hg hs hd
  rw [hk] at X' W
  exact ⟨T', h', X', e', W, A.st W, st⟩
theorem own_stJ (X : Stand p l e R s m args below meth c T locs cells slots) (hx : p.tables.exec = Jvm.exec) (hZ : Z.Warmed39 s.vm) (eT : T.heap = h) (A : own_AJ Z h a n bj) {x : Int64} (h0 : ¬ j < 0) (hk : j.toNatClampNeg = k) (hlt : k < n) (hg : g.method = m) (hs : g.stack = .long x :: .int j :: .ref a :: rest) (hd : decode c.code g.pc = .ok (.lastore, 1)) :
    ∃ T' h', Stand p l e R s m args below meth c T' (locs ++ [⟨a, k⟩]) cells slots ∧ T'.heap = h' ∧ Wr h h' a k (.long x) ∧ own_AJ Z h' a n (own_upd bj k x) ∧ ∀ target, Steps p.tables e below (T'.setTop { g with pc := g.pc + 1, stack := rest }) target → Steps p.tables e below (T.setTop g) target := by
  obtain ⟨cl, Ar, S, H⟩ := id A
  obtain ⟨T', h', X', e', W, st⟩ := stJ X hx hZ eT Ar (own_in S h0 hk hlt) hg hs hd
  rw [hk] at X' W
  exact ⟨T', h', X', e', W, A.st W, st⟩
end OwnArr
/-- what a body leaves that returns an int (a long) and writes nothing -/
def own_QI (h0 : Heap) (n0 : Nat) (f : Int32) (v : Option Value) (h : Heap) (L : List Loc) : Prop := ∃ r : Int32, v = some (.int r) ∧ Fr n0 L ∧ h = h0 ∧ r = f
def own_QJ (h0 : Heap) (n0 : Nat) (f : Int64) (v : Option Value) (h : Heap) (L : List Loc) : Prop := ∃ r : Int64, v = some (.long r) ∧ Fr n0 L ∧ h = h0 ∧ r = f
theorem own_nb {z : Int32} (h : z = 0 ∨ z = 1) : nar .boolean z = z := by rcases h with rfl | rfl <;> decide
theorem own_ao (a b c : Int32) : a &&& (b ||| c) = (a &&& b) ||| (a &&& c) := by
  apply Int32.toBitVec_inj.mp
  simp only [Int32.toBitVec_or, Int32.toBitVec_and]
  exact BitVec.and_or_distrib_left
theorem own_m (p : Int32) : (if p = (0 : Int32) then (1 : Int32) else (if p = (1 : Int32) then (1 : Int32) else (0 : Int32))) = (if (p &&& (-2 : Int32)) = (0 : Int32) then (1 : Int32) else (0 : Int32)) := by
  have h : (p &&& (-2 : Int32)) = 0 ↔ (p = 0 ∨ p = 1) := by
    constructor
    · intro h
      have h2 : p = (p &&& 1) := by
        have : p = (p &&& (-2)) ||| (p &&& 1) := by
          rw [← own_ao]
          have : ((-2 : Int32) ||| 1) = -1 := by decide
          rw [this, Int32.and_neg_one]
        rw [h, Int32.zero_or] at this
        exact this
      rcases and_one p with q | q
      · left; rw [h2, q]
      · right; rw [h2, q]
    · rintro (rfl | rfl) <;> decide
  by_cases a : p = 0
  · subst a; decide
  · by_cases b : p = 1
    · subst b; decide
    · rw [if_neg a, if_neg b, if_neg (fun q => (h.mp q).elim a b)]
theorem d_prog_33_method_11_0 : decode prog_33_method_11_code 0 = .ok (.iload_n 0, 1) := by decide +kernel
theorem d_prog_33_method_11_1 : decode prog_33_method_11_code 1 = .ok (.ifCond .eq 8, 3) := by decide +kernel
theorem d_prog_33_method_11_9 : decode prog_33_method_11_code 9 = .ok (.iconst 1, 1) := by decide +kernel
theorem d_prog_33_method_11_10 : decode prog_33_method_11_code 10 = .ok (.goto 4, 3) := by decide +kernel
theorem d_prog_33_method_11_4 : decode prog_33_method_11_code 4 = .ok (.iload_n 0, 1) := by decide +kernel
theorem d_prog_33_method_11_5 : decode prog_33_method_11_code 5 = .ok (.iconst 1, 1) := by decide +kernel
theorem d_prog_33_method_11_6 : decode prog_33_method_11_code 6 = .ok (.if_icmp .ne 7, 3) := by decide +kernel
theorem d_prog_33_method_11_13 : decode prog_33_method_11_code 13 = .ok (.iconst 0, 1) := by decide +kernel
theorem d_prog_33_method_11_14 : decode prog_33_method_11_code 14 = .ok (.ireturn, 1) := by decide +kernel
theorem ef_rm_lasting (m : MethodId) (p1 : Int32) : entryFrame m #[(.int p1)] 1 = mkF m 0 #[.val (.int p1)] [] := by first | (simp [entryFrame, mkF, argsToLocals, Value.category]; done) | rfl
theorem pn_9 : plainName "com/example/ordinal/ordinal/Records" = true := by first | (simp [plainName, overriddenIn]; done) | decide +kernel
set_option maxRecDepth 65536 in
set_option maxHeartbeats 40000000 in
theorem rm_lasting (l : Launch) (Z : State) (a0 : Array Value) (hw : ∀ d ∈ tables_1, d.before a0 Z = true) (ws : List Jvm.Cond) (p1 : Int32) (h0 : Heap) (n0 : Nat) (Z0 : n0 ≤ h0.size)  :
    MetFree l (⟨"com/example/ordinal/ordinal/Records", "lasting", "(I)Z"⟩ : MethodName) (head1 (Jvm.Cond.code (⟨"com/example/ordinal/ordinal/Records", "lasting", "(I)Z"⟩ : MethodName) prog_33_method_11_code 1 (some .boolean) :: ws) ({ frames := 0, cells := 0, slots := 0, locals := 0 } : Room)) (fun zA zU => zA = #[(.int p1)] ∧ Z.Warmed39 zU.vm ∧ zU.heap = h0) (fun _ _ _ _ _ => True) (fun _ zU zo zW => ∃ zv zL, zo = .returned zv ∧ (own_QI h0 n0 (if p1 = (0 : Int32) then (1 : Int32) else (if p1 = (1 : Int32) then (1 : Int32) else (0 : Int32)))) zv zW.heap zL ∧ FrameEnd zU zo zW zL ({ frames := 0, cells := 0, slots := 0, locals := 0 } : Room).cells ({ frames := 0, cells := 0, slots := 0, locals := 0 } : Room).slots) := by
  refine MetFree.of_bodySF (plainFor_of_name pn_9) hisR ?_
  intro p e s m args below meth c s₁ Bd hml0 hP hK
  obtain ⟨rfl, hZ, hh⟩ := hP
  have hx := Bd.exec
  have hby := Bd.bytes
  have hml : c.maxLocals = 1 := hml0
  have hown : s.vm.findClass "com/example/ordinal/ordinal/Records" = some m.cls := findClass_of_methodNamed Bd.named
  have hnm := (name_of_methodNamed Bd.named Bd.method).1
  have X0 : Stand p l e ({ frames := 0, cells := 0, slots := 0, locals := 0 } : Room) s m #[(.int p1)] below meth c s₁ [] 0 0 := Stand.of_body Bd
  have e0 : s₁.heap = h0 := by rw [← hh, Bd.state]; rfl
  have N0 := Fr.nil n0
  refine own_out (Q := own_QI h0 n0 (if p1 = (0 : Int32) then (1 : Int32) else (if p1 = (1 : Int32) then (1 : Int32) else (0 : Int32)))) ?_
  refine own_cast (ef_rm_lasting m p1) ?_
  show own_Go p.tables e below (s₁.setTop (mkF m 0 #[.val (.int p1)] [])) _
  obtain ⟨q, hq, sj3⟩ : ∃ (q : Int32), q = (if p1 = (0 : Int32) then (1 : Int32) else (if p1 = (1 : Int32) then (1 : Int32) else (0 : Int32))) ∧ ∀ t, Steps p.tables e below (s₁.setTop (mkF m 14 #[.val (.int p1)] [(.int q)])) t → Steps p.tables e below (s₁.setTop (mkF m 0 #[.val (.int p1)] [])) t := by
    by_cases j1 : p1 = (0 : Int32)
    · refine ⟨((1 : Int32)), (if_pos j1).symm, fun t k => ?_⟩
      show Steps p.tables e below (s₁.setTop (mkF m 0 #[.val (.int p1)] [])) _
      refine XS.iloadN X0.here hx rfl (hb hby d_prog_33_method_11_0) rfl ?_
      show Steps p.tables e below (s₁.setTop (mkF m 1 #[.val (.int p1)] [(.int p1)])) _
      refine XS.ifYes X0.here hx rfl (pc0 := 1) (pc' := 9) rfl (hb hby d_prog_33_method_11_1) rfl ((if0 _ _).trans (teq j1).1) (by decide) (by decide) ?_
      show Steps p.tables e below (s₁.setTop (mkF m 9 #[.val (.int p1)] [])) _
      refine XS.iconst X0.here hx rfl (hb hby d_prog_33_method_11_9) ?_
      show Steps p.tables e below (s₁.setTop (mkF m 10 #[.val (.int p1)] [(.int (1 : Int32))])) _
      refine XS.goto X0.here hx rfl (pc0 := 10) (pc' := 14) rfl (hb hby d_prog_33_method_11_10) (by decide) (by decide) ?_
      show Steps p.tables e below (s₁.setTop (mkF m 14 #[.val (.int p1)] [(.int (1 : Int32))])) _
      exact k
    · by_cases j2 : p1 = (1 : Int32)
      · refine ⟨((1 : Int32)), ((if_neg j1).trans (if_pos j2)).symm, fun t k => ?_⟩
        show Steps p.tables e below (s₁.setTop (mkF m 0 #[.val (.int p1)] [])) _
        refine XS.iloadN X0.here hx rfl (hb hby d_prog_33_method_11_0) rfl ?_
        show Steps p.tables e below (s₁.setTop (mkF m 1 #[.val (.int p1)] [(.int p1)])) _
        refine XS.ifNo X0.here hx rfl (hb hby d_prog_33_method_11_1) rfl ((if0 _ _).trans (feq j1).1) ?_
        show Steps p.tables e below (s₁.setTop (mkF m 4 #[.val (.int p1)] [])) _
        refine XS.iloadN X0.here hx rfl (hb hby d_prog_33_method_11_4) rfl ?_
        show Steps p.tables e below (s₁.setTop (mkF m 5 #[.val (.int p1)] [(.int p1)])) _
        refine XS.iconst X0.here hx rfl (hb hby d_prog_33_method_11_5) ?_
        show Steps p.tables e below (s₁.setTop (mkF m 6 #[.val (.int p1)] [(.int (1 : Int32)), (.int p1)])) _
        refine XS.icmpNo X0.here hx rfl (hb hby d_prog_33_method_11_6) rfl (teq j2).2 ?_
        show Steps p.tables e below (s₁.setTop (mkF m 9 #[.val (.int p1)] [])) _
        refine XS.iconst X0.here hx rfl (hb hby d_prog_33_method_11_9) ?_
        show Steps p.tables e below (s₁.setTop (mkF m 10 #[.val (.int p1)] [(.int (1 : Int32))])) _
        refine XS.goto X0.here hx rfl (pc0 := 10) (pc' := 14) rfl (hb hby d_prog_33_method_11_10) (by decide) (by decide) ?_
        show Steps p.tables e below (s₁.setTop (mkF m 14 #[.val (.int p1)] [(.int (1 : Int32))])) _
        exact k
      · refine ⟨((0 : Int32)), ((if_neg j1).trans (if_neg j2)).symm, fun t k => ?_⟩
        show Steps p.tables e below (s₁.setTop (mkF m 0 #[.val (.int p1)] [])) _
        refine XS.iloadN X0.here hx rfl (hb hby d_prog_33_method_11_0) rfl ?_
        show Steps p.tables e below (s₁.setTop (mkF m 1 #[.val (.int p1)] [(.int p1)])) _
        refine XS.ifNo X0.here hx rfl (hb hby d_prog_33_method_11_1) rfl ((if0 _ _).trans (feq j1).1) ?_
        show Steps p.tables e below (s₁.setTop (mkF m 4 #[.val (.int p1)] [])) _
        refine XS.iloadN X0.here hx rfl (hb hby d_prog_33_method_11_4) rfl ?_
        show Steps p.tables e below (s₁.setTop (mkF m 5 #[.val (.int p1)] [(.int p1)])) _
        refine XS.iconst X0.here hx rfl (hb hby d_prog_33_method_11_5) ?_
        show Steps p.tables e below (s₁.setTop (mkF m 6 #[.val (.int p1)] [(.int (1 : Int32)), (.int p1)])) _
        refine XS.icmpYes X0.here hx rfl (pc0 := 6) (pc' := 13) rfl (hb hby d_prog_33_method_11_6) rfl (feq j2).2 (by decide) (by decide) ?_
        show Steps p.tables e below (s₁.setTop (mkF m 13 #[.val (.int p1)] [])) _
        refine XS.iconst X0.here hx rfl (hb hby d_prog_33_method_11_13) ?_
        show Steps p.tables e below (s₁.setTop (mkF m 14 #[.val (.int p1)] [(.int (0 : Int32))])) _
        exact k
  refine own_by (sj3) ?_
  show own_Go p.tables e below (s₁.setTop (mkF m 14 #[.val (.int p1)] [(.int q)])) _
  exact own_retN X0 hx Bd.notSynchronized (t := .boolean) Bd.returns (by simp) (own_nb (by rw [hq]; (repeat' split) <;> first | exact Or.inl rfl | exact Or.inr rfl)) (hb hby d_prog_33_method_11_14) (by (try rw [e0]); exact ⟨_, rfl, N0, rfl, hq⟩) (by decide) (by decide)
theorem d_method_2_0 : decode method_2_code 0 = .ok (.iload_n 0, 1) := by decide +kernel
theorem d_method_2_1 : decode method_2_code 1 = .ok (.bipush (-2), 2) := by decide +kernel
theorem d_method_2_3 : decode method_2_code 3 = .ok (.iand, 1) := by decide +kernel
theorem d_method_2_4 : decode method_2_code 4 = .ok (.ifCond .ne 7, 3) := by decide +kernel
theorem d_method_2_7 : decode method_2_code 7 = .ok (.iconst 1, 1) := by decide +kernel
theorem d_method_2_8 : decode method_2_code 8 = .ok (.goto 4, 3) := by decide +kernel
theorem d_method_2_11 : decode method_2_code 11 = .ok (.iconst 0, 1) := by decide +kernel
theorem d_method_2_12 : decode method_2_code 12 = .ok (.ireturn, 1) := by decide +kernel
theorem ef_rm_expected (m : MethodId) (p1 : Int32) : entryFrame m #[(.int p1)] 1 = mkF m 0 #[.val (.int p1)] [] := by first | (simp [entryFrame, mkF, argsToLocals, Value.category]; done) | rfl
theorem pn_18 : plainName "com/example/ordinal/ordinal/RecordsLastingPinLaw" = true := by first | (simp [plainName, overriddenIn]; done) | decide +kernel
set_option maxRecDepth 65536 in
set_option maxHeartbeats 40000000 in
theorem rm_expected (l : Launch) (Z : State) (a0 : Array Value) (hw : ∀ d ∈ tables_1, d.before a0 Z = true) (ws : List Jvm.Cond) (p1 : Int32) (h0 : Heap) (n0 : Nat) (Z0 : n0 ≤ h0.size)  :
    MetFree l (⟨"com/example/ordinal/ordinal/RecordsLastingPinLaw", "expected", "(I)Z"⟩ : MethodName) (head1 (Jvm.Cond.code (⟨"com/example/ordinal/ordinal/RecordsLastingPinLaw", "expected", "(I)Z"⟩ : MethodName) method_2_code 1 (some .boolean) :: ws) ({ frames := 0, cells := 0, slots := 0, locals := 0 } : Room)) (fun zA zU => zA = #[(.int p1)] ∧ Z.Warmed39 zU.vm ∧ zU.heap = h0) (fun _ _ _ _ _ => True) (fun _ zU zo zW => ∃ zv zL, zo = .returned zv ∧ (own_QI h0 n0 (if (p1 &&& (-2 : Int32)) = (0 : Int32) then (1 : Int32) else (0 : Int32))) zv zW.heap zL ∧ FrameEnd zU zo zW zL ({ frames := 0, cells := 0, slots := 0, locals := 0 } : Room).cells ({ frames := 0, cells := 0, slots := 0, locals := 0 } : Room).slots) := by
  refine MetFree.of_bodySF (plainFor_of_name pn_18) hisR ?_
  intro p e s m args below meth c s₁ Bd hml0 hP hK
  obtain ⟨rfl, hZ, hh⟩ := hP
  have hx := Bd.exec
  have hby := Bd.bytes
  have hml : c.maxLocals = 1 := hml0
  have hown : s.vm.findClass "com/example/ordinal/ordinal/RecordsLastingPinLaw" = some m.cls := findClass_of_methodNamed Bd.named
  have hnm := (name_of_methodNamed Bd.named Bd.method).1
  have X0 : Stand p l e ({ frames := 0, cells := 0, slots := 0, locals := 0 } : Room) s m #[(.int p1)] below meth c s₁ [] 0 0 := Stand.of_body Bd
  have e0 : s₁.heap = h0 := by rw [← hh, Bd.state]; rfl
  have N0 := Fr.nil n0
  refine own_out (Q := own_QI h0 n0 (if (p1 &&& (-2 : Int32)) = (0 : Int32) then (1 : Int32) else (0 : Int32))) ?_
  refine own_cast (ef_rm_expected m p1) ?_
  show own_Go p.tables e below (s₁.setTop (mkF m 0 #[.val (.int p1)] [])) _
  obtain ⟨q, hq, sj2⟩ : ∃ (q : Int32), q = (if (p1 &&& (-2 : Int32)) = (0 : Int32) then (1 : Int32) else (0 : Int32)) ∧ ∀ t, Steps p.tables e below (s₁.setTop (mkF m 12 #[.val (.int p1)] [(.int q)])) t → Steps p.tables e below (s₁.setTop (mkF m 0 #[.val (.int p1)] [])) t := by
    by_cases j1 : (p1 &&& (-2 : Int32)) = (0 : Int32)
    · refine ⟨((1 : Int32)), (if_pos j1).symm, fun t k => ?_⟩
      show Steps p.tables e below (s₁.setTop (mkF m 0 #[.val (.int p1)] [])) _
      refine XS.iloadN X0.here hx rfl (hb hby d_method_2_0) rfl ?_
      show Steps p.tables e below (s₁.setTop (mkF m 1 #[.val (.int p1)] [(.int p1)])) _
      refine XS.bipush X0.here hx rfl (hb hby d_method_2_1) ?_
      show Steps p.tables e below (s₁.setTop (mkF m 3 #[.val (.int p1)] [(.int (-2 : Int32)), (.int p1)])) _
      refine XS.iand X0.here hx rfl (hb hby d_method_2_3) rfl ?_
      show Steps p.tables e below (s₁.setTop (mkF m 4 #[.val (.int p1)] [(.int (p1 &&& (-2 : Int32)))])) _
      refine XS.ifNo X0.here hx rfl (hb hby d_method_2_4) rfl ((if0 _ _).trans (teq j1).2) ?_
      show Steps p.tables e below (s₁.setTop (mkF m 7 #[.val (.int p1)] [])) _
      refine XS.iconst X0.here hx rfl (hb hby d_method_2_7) ?_
      show Steps p.tables e below (s₁.setTop (mkF m 8 #[.val (.int p1)] [(.int (1 : Int32))])) _
      refine XS.goto X0.here hx rfl (pc0 := 8) (pc' := 12) rfl (hb hby d_method_2_8) (by decide) (by decide) ?_
      show Steps p.tables e below (s₁.setTop (mkF m 12 #[.val (.int p1)] [(.int (1 : Int32))])) _
      exact k
    · refine ⟨((0 : Int32)), (if_neg j1).symm, fun t k => ?_⟩
      show Steps p.tables e below (s₁.setTop (mkF m 0 #[.val (.int p1)] [])) _
      refine XS.iloadN X0.here hx rfl (hb hby d_method_2_0) rfl ?_
      show Steps p.tables e below (s₁.setTop (mkF m 1 #[.val (.int p1)] [(.int p1)])) _
      refine XS.bipush X0.here hx rfl (hb hby d_method_2_1) ?_
      show Steps p.tables e below (s₁.setTop (mkF m 3 #[.val (.int p1)] [(.int (-2 : Int32)), (.int p1)])) _
      refine XS.iand X0.here hx rfl (hb hby d_method_2_3) rfl ?_
      show Steps p.tables e below (s₁.setTop (mkF m 4 #[.val (.int p1)] [(.int (p1 &&& (-2 : Int32)))])) _
      refine XS.ifYes X0.here hx rfl (pc0 := 4) (pc' := 11) rfl (hb hby d_method_2_4) rfl ((if0 _ _).trans (feq j1).2) (by decide) (by decide) ?_
      show Steps p.tables e below (s₁.setTop (mkF m 11 #[.val (.int p1)] [])) _
      refine XS.iconst X0.here hx rfl (hb hby d_method_2_11) ?_
      show Steps p.tables e below (s₁.setTop (mkF m 12 #[.val (.int p1)] [(.int (0 : Int32))])) _
      exact k
  refine own_by (sj2) ?_
  show own_Go p.tables e below (s₁.setTop (mkF m 12 #[.val (.int p1)] [(.int q)])) _
  exact own_retN X0 hx Bd.notSynchronized (t := .boolean) Bd.returns (by simp) (own_nb (by rw [hq]; (repeat' split) <;> first | exact Or.inl rfl | exact Or.inr rfl)) (hb hby d_method_2_12) (by (try rw [e0]); exact ⟨_, rfl, N0, rfl, hq⟩) (by decide) (by decide)
theorem pd_19 : parseMethodDescriptor "(I)Z" = some ⟨[.int], some .boolean⟩ := by decide +kernel
theorem ef_rm_law (m : MethodId) (a : Int32) (b : Int32) : entryFrame m #[(.int a), (.int b)] maxLocals = mkF m 0 #[.val (.int a), .val (.int b), .unset, .unset, .unset, .unset] [] := by first | (simp [entryFrame, mkF, argsToLocals, Value.category, maxLocals]; done) | rfl
set_option maxRecDepth 65536 in
set_option maxHeartbeats 40000000 in
theorem rm_law (l : Launch) (Z : State) (a0 : Array Value) (hw : ∀ d ∈ tables_1, d.before a0 Z = true) (ws : List Jvm.Cond) (a : Int32) (b : Int32) (h0 : Heap) (n0 : Nat) (Z0 : n0 ≤ h0.size)  :
    MetFree l x (head1 (Jvm.Cond.code x code maxLocals ret :: ws) room_1) (fun zA zU => zA = #[(.int a), (.int b)] ∧ Z.Warmed39 zU.vm ∧ zU.heap = h0) (fun _ _ _ _ _ => True) (fun _ zU zo zW => ∃ zv zL, zo = .returned zv ∧ (fun v h L => v = some (.int 1) ∧ Fr n0 L) zv zW.heap zL ∧ FrameEnd zU zo zW zL 0 0) := by
  refine MetFree.of_bodySF (plainFor_of_name pn_18) hisR ?_
  intro p e s m args below meth c s₁ Bd hml0 hP hK
  obtain ⟨rfl, hZ, hh⟩ := hP
  have hx := Bd.exec
  have hby := Bd.bytes
  have hml : c.maxLocals = 6 := hml0
  have hown : s.vm.findClass "com/example/ordinal/ordinal/RecordsLastingPinLaw" = some m.cls := findClass_of_methodNamed Bd.named
  have hnm := (name_of_methodNamed Bd.named Bd.method).1
  have X0 : Stand p l e room_1 s m #[(.int a), (.int b)] below meth c s₁ [] 0 0 := Stand.of_body Bd
  have e0 : s₁.heap = h0 := by rw [← hh, Bd.state]; rfl
  have N0 := Fr.nil n0
  refine own_out (Q := fun v h L => v = some (.int 1) ∧ Fr n0 L) ?_
  refine own_cast (ef_rm_law m a b) ?_
  show own_Go p.tables e below (s₁.setTop (mkF m 0 #[.val (.int a), .val (.int b), .unset, .unset, .unset, .unset] [])) _
  refine own_by (fun t k => XS.iloadN X0.here hx rfl (hb hby at_0) rfl k) ?_
  show own_Go p.tables e below (s₁.setTop (mkF m 1 #[.val (.int a), .val (.int b), .unset, .unset, .unset, .unset] [(.int b)])) _
  refine own_by (fun t k => XS.iconst X0.here hx rfl (hb hby at_1) k) ?_
  show own_Go p.tables e below (s₁.setTop (mkF m 2 #[.val (.int a), .val (.int b), .unset, .unset, .unset, .unset] [(.int (3 : Int32)), (.int b)])) _
  refine own_by (fun t k => XS.iand X0.here hx rfl (hb hby at_2) rfl k) ?_
  show own_Go p.tables e below (s₁.setTop (mkF m 3 #[.val (.int a), .val (.int b), .unset, .unset, .unset, .unset] [(.int (b &&& (3 : Int32)))])) _
  refine own_by (fun t k => XS.iconst X0.here hx rfl (hb hby at_3) k) ?_
  show own_Go p.tables e below (s₁.setTop (mkF m 4 #[.val (.int a), .val (.int b), .unset, .unset, .unset, .unset] [(.int (1 : Int32)), (.int (b &&& (3 : Int32)))])) _
  refine own_by (fun t k => XS.isub X0.here hx rfl (hb hby at_4) rfl k) ?_
  show own_Go p.tables e below (s₁.setTop (mkF m 5 #[.val (.int a), .val (.int b), .unset, .unset, .unset, .unset] [(.int ((b &&& (3 : Int32)) - (1 : Int32)))])) _
  obtain ⟨nr, hnr⟩ : ∃ z, z = ((b &&& (3 : Int32)) - (1 : Int32)) := ⟨_, rfl⟩
  rw [← hnr]
  show own_Go p.tables e below (s₁.setTop (mkF m 5 #[.val (.int a), .val (.int b), .unset, .unset, .unset, .unset] [(.int nr)])) _
  refine own_by (fun t k => XS.istoreN X0.here hx rfl (hb hby at_5) rfl (l' := #[.val (.int a), .val (.int b), .val (.int nr), .unset, .unset, .unset]) rfl k) ?_
  show own_Go p.tables e below (s₁.setTop (mkF m 6 #[.val (.int a), .val (.int b), .val (.int nr), .unset, .unset, .unset] [])) _
  refine own_by (fun t k => XS.iloadN X0.here hx rfl (hb hby at_6) rfl k) ?_
  show own_Go p.tables e below (s₁.setTop (mkF m 7 #[.val (.int a), .val (.int b), .val (.int nr), .unset, .unset, .unset] [(.int a)])) _
  obtain ⟨_, _, ⟨T1, L1, k1, n1⟩, -, X1, ⟨Lc1, hQ1, l1, y1, z1⟩, st1⟩ := Jvm.LawKit.callS X0 hx (y := (⟨"com/example/ordinal/ordinal/Records", "lasting", "(I)Z"⟩ : MethodName)) hown (mvT hZ (hw _ (List.mem_of_getElem? (i := 0) rfl))) (mvT hZ (hw _ (List.mem_of_getElem? (i := 1) rfl))) (mvT hZ (hw _ (List.mem_of_getElem? (i := 2) rfl))) (mvT hZ (hw _ (List.mem_of_getElem? (i := 3) rfl))) (by decide) (backOf (W := 0) (rm_lasting l Z a0 hw [] a  h0 n0 (Nat.le_trans Z0 (Keep.refl h0 []).1) ) hZ (hw _ (List.mem_of_getElem? (i := 3) rfl)) (hw _ (List.mem_of_getElem? (i := 2) rfl)) (by decide) (by decide)) (g := (mkF m 7 #[.val (.int a), .val (.int b), .val (.int nr), .unset, .unset, .unset] [(.int a)])) rfl (by rw [hml]; rfl) (argsL := [(.int a)]) (rest := []) (lenOf pd_19 rfl) rfl (by show 2 * 0 + _ ≤ _; exact Nat.le_of_eq rfl) (hb hby at_7) (fun _ _ => ⟨rfl, e0, (by decide : 0 + 0 ≤ _), (by decide : 0 + 0 ≤ _)⟩)
  dsimp only [Pt.U, Pt.locs, Pt.cells, Pt.slots] at X1 l1 y1 z1 st1 hQ1
  subst l1 y1 z1
  obtain ⟨r1, rfl, N1q, eh1, hr1⟩ := hQ1
  have N1 := Fr.app N0 N1q
  refine own_by (st1) ?_
  show own_Go p.tables e below (T1.setTop (mkF m 10 #[.val (.int a), .val (.int b), .val (.int nr), .unset, .unset, .unset] [(.int r1)])) _
  refine own_by (fun t k => XS.iloadN X1.here hx rfl (hb hby at_10) rfl k) ?_
  show own_Go p.tables e below (T1.setTop (mkF m 11 #[.val (.int a), .val (.int b), .val (.int nr), .unset, .unset, .unset] [(.int a), (.int r1)])) _
  obtain ⟨_, _, ⟨T2, L2, k2, n2⟩, -, X2, ⟨Lc2, hQ2, l2, y2, z2⟩, st2⟩ := Jvm.LawKit.callS X1 hx (y := (⟨"com/example/ordinal/ordinal/RecordsLastingPinLaw", "expected", "(I)Z"⟩ : MethodName)) hown (mvT hZ (hw _ (List.mem_of_getElem? (i := 4) rfl))) (mvT hZ (hw _ (List.mem_of_getElem? (i := 5) rfl))) (mvT hZ (hw _ (List.mem_of_getElem? (i := 6) rfl))) (mvT hZ (hw _ (List.mem_of_getElem? (i := 7) rfl))) (by decide) (backOf (W := 1) (rm_expected l Z a0 hw [] a  h0 n0 (Nat.le_trans Z0 (Keep.refl h0 []).1) ) hZ (hw _ (List.mem_of_getElem? (i := 7) rfl)) (hw _ (List.mem_of_getElem? (i := 6) rfl)) (by decide) (by decide)) (g := (mkF m 11 #[.val (.int a), .val (.int b), .val (.int nr), .unset, .unset, .unset] [(.int a), (.int r1)])) rfl (by rw [hml]; rfl) (argsL := [(.int a)]) (rest := [(.int r1)]) (lenOf pd_19 rfl) rfl (by show 2 * 0 + _ ≤ _; exact Nat.le_of_eq rfl) (hb hby at_11) (fun _ _ => ⟨rfl, eh1, (by decide : 0 + 0 ≤ _), (by decide : 0 + 0 ≤ _)⟩)
  dsimp only [Pt.U, Pt.locs, Pt.cells, Pt.slots] at X2 l2 y2 z2 st2 hQ2
  subst l2 y2 z2
  obtain ⟨r2, rfl, N2q, eh2, hr2⟩ := hQ2
  have N2 := Fr.app N1 N2q
  refine own_by (st2) ?_
  show own_Go p.tables e below (T2.setTop (mkF m 14 #[.val (.int a), .val (.int b), .val (.int nr), .unset, .unset, .unset] [(.int r2), (.int r1)])) _
  have e12 : r1 = r2 := by rw [hr1, hr2]; exact own_m _
  refine own_by (fun t k => XS.icmpNo X2.here hx rfl (hb hby at_14) rfl (teq e12).2 k) ?_
  show own_Go p.tables e below (T2.setTop (mkF m 17 #[.val (.int a), .val (.int b), .val (.int nr), .unset, .unset, .unset] [])) _
  refine own_by (fun t k => XS.iconst X2.here hx rfl (hb hby at_17) k) ?_
  show own_Go p.tables e below (T2.setTop (mkF m 18 #[.val (.int a), .val (.int b), .val (.int nr), .unset, .unset, .unset] [(.int (1 : Int32))])) _
  refine own_by (fun t k => XS.goto X2.here hx rfl (pc0 := 18) (pc' := 22) rfl (hb hby at_18) (by decide) (by decide) k) ?_
  show own_Go p.tables e below (T2.setTop (mkF m 22 #[.val (.int a), .val (.int b), .val (.int nr), .unset, .unset, .unset] [(.int (1 : Int32))])) _
  refine own_by (fun t k => XS.istoreN X2.here hx rfl (hb hby at_22) rfl (l' := #[.val (.int a), .val (.int b), .val (.int nr), .val (.int (1 : Int32)), .unset, .unset]) rfl k) ?_
  show own_Go p.tables e below (T2.setTop (mkF m 23 #[.val (.int a), .val (.int b), .val (.int nr), .val (.int (1 : Int32)), .unset, .unset] [])) _
  refine own_by (fun t k => XS.iloadN X2.here hx rfl (hb hby at_23) rfl k) ?_
  show own_Go p.tables e below (T2.setTop (mkF m 24 #[.val (.int a), .val (.int b), .val (.int nr), .val (.int (1 : Int32)), .unset, .unset] [(.int nr)])) _
  obtain ⟨_, _, ⟨T3, L3, k3, n3⟩, -, X3, ⟨Lc3, hQ3, l3, y3, z3⟩, st3⟩ := Jvm.LawKit.callS X2 hx (y := (⟨"com/example/ordinal/ordinal/Records", "lasting", "(I)Z"⟩ : MethodName)) hown (mvT hZ (hw _ (List.mem_of_getElem? (i := 0) rfl))) (mvT hZ (hw _ (List.mem_of_getElem? (i := 1) rfl))) (mvT hZ (hw _ (List.mem_of_getElem? (i := 2) rfl))) (mvT hZ (hw _ (List.mem_of_getElem? (i := 3) rfl))) (by decide) (backOf (W := 0) (rm_lasting l Z a0 hw [] nr  h0 n0 (Nat.le_trans Z0 (Keep.refl h0 []).1) ) hZ (hw _ (List.mem_of_getElem? (i := 3) rfl)) (hw _ (List.mem_of_getElem? (i := 2) rfl)) (by decide) (by decide)) (g := (mkF m 24 #[.val (.int a), .val (.int b), .val (.int nr), .val (.int (1 : Int32)), .unset, .unset] [(.int nr)])) rfl (by rw [hml]; rfl) (argsL := [(.int nr)]) (rest := []) (lenOf pd_19 rfl) rfl (by show 2 * 0 + _ ≤ _; exact Nat.le_of_eq rfl) (hb hby at_24) (fun _ _ => ⟨rfl, eh2, (by decide : 0 + 0 ≤ _), (by decide : 0 + 0 ≤ _)⟩)
  dsimp only [Pt.U, Pt.locs, Pt.cells, Pt.slots] at X3 l3 y3 z3 st3 hQ3
  subst l3 y3 z3
  obtain ⟨r3, rfl, N3q, eh3, hr3⟩ := hQ3
  have N3 := Fr.app N2 N3q
  refine own_by (st3) ?_
  show own_Go p.tables e below (T3.setTop (mkF m 27 #[.val (.int a), .val (.int b), .val (.int nr), .val (.int (1 : Int32)), .unset, .unset] [(.int r3)])) _
  refine own_by (fun t k => XS.iloadN X3.here hx rfl (hb hby at_27) rfl k) ?_
  show own_Go p.tables e below (T3.setTop (mkF m 28 #[.val (.int a), .val (.int b), .val (.int nr), .val (.int (1 : Int32)), .unset, .unset] [(.int nr), (.int r3)])) _
  obtain ⟨_, _, ⟨T4, L4, k4, n4⟩, -, X4, ⟨Lc4, hQ4, l4, y4, z4⟩, st4⟩ := Jvm.LawKit.callS X3 hx (y := (⟨"com/example/ordinal/ordinal/RecordsLastingPinLaw", "expected", "(I)Z"⟩ : MethodName)) hown (mvT hZ (hw _ (List.mem_of_getElem? (i := 4) rfl))) (mvT hZ (hw _ (List.mem_of_getElem? (i := 5) rfl))) (mvT hZ (hw _ (List.mem_of_getElem? (i := 6) rfl))) (mvT hZ (hw _ (List.mem_of_getElem? (i := 7) rfl))) (by decide) (backOf (W := 1) (rm_expected l Z a0 hw [] nr  h0 n0 (Nat.le_trans Z0 (Keep.refl h0 []).1) ) hZ (hw _ (List.mem_of_getElem? (i := 7) rfl)) (hw _ (List.mem_of_getElem? (i := 6) rfl)) (by decide) (by decide)) (g := (mkF m 28 #[.val (.int a), .val (.int b), .val (.int nr), .val (.int (1 : Int32)), .unset, .unset] [(.int nr), (.int r3)])) rfl (by rw [hml]; rfl) (argsL := [(.int nr)]) (rest := [(.int r3)]) (lenOf pd_19 rfl) rfl (by show 2 * 0 + _ ≤ _; exact Nat.le_of_eq rfl) (hb hby at_28) (fun _ _ => ⟨rfl, eh3, (by decide : 0 + 0 ≤ _), (by decide : 0 + 0 ≤ _)⟩)
  dsimp only [Pt.U, Pt.locs, Pt.cells, Pt.slots] at X4 l4 y4 z4 st4 hQ4
  subst l4 y4 z4
  obtain ⟨r4, rfl, N4q, eh4, hr4⟩ := hQ4
  have N4 := Fr.app N3 N4q
  refine own_by (st4) ?_
  show own_Go p.tables e below (T4.setTop (mkF m 31 #[.val (.int a), .val (.int b), .val (.int nr), .val (.int (1 : Int32)), .unset, .unset] [(.int r4), (.int r3)])) _
  have e34 : r3 = r4 := by rw [hr3, hr4]; exact own_m _
  refine own_by (fun t k => XS.icmpNo X4.here hx rfl (hb hby at_31) rfl (teq e34).2 k) ?_
  show own_Go p.tables e below (T4.setTop (mkF m 34 #[.val (.int a), .val (.int b), .val (.int nr), .val (.int (1 : Int32)), .unset, .unset] [])) _
  refine own_by (fun t k => XS.iconst X4.here hx rfl (hb hby at_34) k) ?_
  show own_Go p.tables e below (T4.setTop (mkF m 35 #[.val (.int a), .val (.int b), .val (.int nr), .val (.int (1 : Int32)), .unset, .unset] [(.int (1 : Int32))])) _
  refine own_by (fun t k => XS.goto X4.here hx rfl (pc0 := 35) (pc' := 39) rfl (hb hby at_35) (by decide) (by decide) k) ?_
  show own_Go p.tables e below (T4.setTop (mkF m 39 #[.val (.int a), .val (.int b), .val (.int nr), .val (.int (1 : Int32)), .unset, .unset] [(.int (1 : Int32))])) _
  refine own_by (fun t k => XS.istore X4.here hx rfl (hb hby at_39) rfl (l' := #[.val (.int a), .val (.int b), .val (.int nr), .val (.int (1 : Int32)), .val (.int (1 : Int32)), .unset]) rfl k) ?_
  show own_Go p.tables e below (T4.setTop (mkF m 41 #[.val (.int a), .val (.int b), .val (.int nr), .val (.int (1 : Int32)), .val (.int (1 : Int32)), .unset] [])) _
  refine own_by (fun t k => XS.iconst X4.here hx rfl (hb hby at_41) k) ?_
  show own_Go p.tables e below (T4.setTop (mkF m 42 #[.val (.int a), .val (.int b), .val (.int nr), .val (.int (1 : Int32)), .val (.int (1 : Int32)), .unset] [(.int (0 : Int32))])) _
  obtain ⟨_, _, ⟨T5, L5, k5, n5⟩, -, X5, ⟨Lc5, hQ5, l5, y5, z5⟩, st5⟩ := Jvm.LawKit.callS X4 hx (y := (⟨"com/example/ordinal/ordinal/Records", "lasting", "(I)Z"⟩ : MethodName)) hown (mvT hZ (hw _ (List.mem_of_getElem? (i := 0) rfl))) (mvT hZ (hw _ (List.mem_of_getElem? (i := 1) rfl))) (mvT hZ (hw _ (List.mem_of_getElem? (i := 2) rfl))) (mvT hZ (hw _ (List.mem_of_getElem? (i := 3) rfl))) (by decide) (backOf (W := 0) (rm_lasting l Z a0 hw [] (0 : Int32)  h0 n0 (Nat.le_trans Z0 (Keep.refl h0 []).1) ) hZ (hw _ (List.mem_of_getElem? (i := 3) rfl)) (hw _ (List.mem_of_getElem? (i := 2) rfl)) (by decide) (by decide)) (g := (mkF m 42 #[.val (.int a), .val (.int b), .val (.int nr), .val (.int (1 : Int32)), .val (.int (1 : Int32)), .unset] [(.int (0 : Int32))])) rfl (by rw [hml]; rfl) (argsL := [(.int (0 : Int32))]) (rest := []) (lenOf pd_19 rfl) rfl (by show 2 * 0 + _ ≤ _; exact Nat.le_of_eq rfl) (hb hby at_42) (fun _ _ => ⟨rfl, eh4, (by decide : 0 + 0 ≤ _), (by decide : 0 + 0 ≤ _)⟩)
  dsimp only [Pt.U, Pt.locs, Pt.cells, Pt.slots] at X5 l5 y5 z5 st5 hQ5
  subst l5 y5 z5
  obtain ⟨r5, rfl, N5q, eh5, hr5⟩ := hQ5
  have N5 := Fr.app N4 N5q
  refine own_by (st5) ?_
  show own_Go p.tables e below (T5.setTop (mkF m 45 #[.val (.int a), .val (.int b), .val (.int nr), .val (.int (1 : Int32)), .val (.int (1 : Int32)), .unset] [(.int r5)])) _
  have e5 : ¬ r5 = 0 := by rw [hr5]; decide
  refine own_by (fun t k => XS.ifNo X5.here hx rfl (hb hby at_45) rfl ((if0 _ _).trans (feq e5).1) k) ?_
  show own_Go p.tables e below (T5.setTop (mkF m 48 #[.val (.int a), .val (.int b), .val (.int nr), .val (.int (1 : Int32)), .val (.int (1 : Int32)), .unset] [])) _
  refine own_by (fun t k => XS.iconst X5.here hx rfl (hb hby at_48) k) ?_
  show own_Go p.tables e below (T5.setTop (mkF m 49 #[.val (.int a), .val (.int b), .val (.int nr), .val (.int (1 : Int32)), .val (.int (1 : Int32)), .unset] [(.int (1 : Int32))])) _
  obtain ⟨_, _, ⟨T6, L6, k6, n6⟩, -, X6, ⟨Lc6, hQ6, l6, y6, z6⟩, st6⟩ := Jvm.LawKit.callS X5 hx (y := (⟨"com/example/ordinal/ordinal/Records", "lasting", "(I)Z"⟩ : MethodName)) hown (mvT hZ (hw _ (List.mem_of_getElem? (i := 0) rfl))) (mvT hZ (hw _ (List.mem_of_getElem? (i := 1) rfl))) (mvT hZ (hw _ (List.mem_of_getElem? (i := 2) rfl))) (mvT hZ (hw _ (List.mem_of_getElem? (i := 3) rfl))) (by decide) (backOf (W := 0) (rm_lasting l Z a0 hw [] (1 : Int32)  h0 n0 (Nat.le_trans Z0 (Keep.refl h0 []).1) ) hZ (hw _ (List.mem_of_getElem? (i := 3) rfl)) (hw _ (List.mem_of_getElem? (i := 2) rfl)) (by decide) (by decide)) (g := (mkF m 49 #[.val (.int a), .val (.int b), .val (.int nr), .val (.int (1 : Int32)), .val (.int (1 : Int32)), .unset] [(.int (1 : Int32))])) rfl (by rw [hml]; rfl) (argsL := [(.int (1 : Int32))]) (rest := []) (lenOf pd_19 rfl) rfl (by show 2 * 0 + _ ≤ _; exact Nat.le_of_eq rfl) (hb hby at_49) (fun _ _ => ⟨rfl, eh5, (by decide : 0 + 0 ≤ _), (by decide : 0 + 0 ≤ _)⟩)
  dsimp only [Pt.U, Pt.locs, Pt.cells, Pt.slots] at X6 l6 y6 z6 st6 hQ6
  subst l6 y6 z6
  obtain ⟨r6, rfl, N6q, eh6, hr6⟩ := hQ6
  have N6 := Fr.app N5 N6q
  refine own_by (st6) ?_
  show own_Go p.tables e below (T6.setTop (mkF m 52 #[.val (.int a), .val (.int b), .val (.int nr), .val (.int (1 : Int32)), .val (.int (1 : Int32)), .unset] [(.int r6)])) _
  have e6 : ¬ r6 = 0 := by rw [hr6]; decide
  refine own_by (fun t k => XS.ifNo X6.here hx rfl (hb hby at_52) rfl ((if0 _ _).trans (feq e6).1) k) ?_
  show own_Go p.tables e below (T6.setTop (mkF m 55 #[.val (.int a), .val (.int b), .val (.int nr), .val (.int (1 : Int32)), .val (.int (1 : Int32)), .unset] [])) _
  refine own_by (fun t k => XS.iconst X6.here hx rfl (hb hby at_55) k) ?_
  show own_Go p.tables e below (T6.setTop (mkF m 56 #[.val (.int a), .val (.int b), .val (.int nr), .val (.int (1 : Int32)), .val (.int (1 : Int32)), .unset] [(.int (-1 : Int32))])) _
  obtain ⟨_, _, ⟨T7, L7, k7, n7⟩, -, X7, ⟨Lc7, hQ7, l7, y7, z7⟩, st7⟩ := Jvm.LawKit.callS X6 hx (y := (⟨"com/example/ordinal/ordinal/Records", "lasting", "(I)Z"⟩ : MethodName)) hown (mvT hZ (hw _ (List.mem_of_getElem? (i := 0) rfl))) (mvT hZ (hw _ (List.mem_of_getElem? (i := 1) rfl))) (mvT hZ (hw _ (List.mem_of_getElem? (i := 2) rfl))) (mvT hZ (hw _ (List.mem_of_getElem? (i := 3) rfl))) (by decide) (backOf (W := 0) (rm_lasting l Z a0 hw [] (-1 : Int32)  h0 n0 (Nat.le_trans Z0 (Keep.refl h0 []).1) ) hZ (hw _ (List.mem_of_getElem? (i := 3) rfl)) (hw _ (List.mem_of_getElem? (i := 2) rfl)) (by decide) (by decide)) (g := (mkF m 56 #[.val (.int a), .val (.int b), .val (.int nr), .val (.int (1 : Int32)), .val (.int (1 : Int32)), .unset] [(.int (-1 : Int32))])) rfl (by rw [hml]; rfl) (argsL := [(.int (-1 : Int32))]) (rest := []) (lenOf pd_19 rfl) rfl (by show 2 * 0 + _ ≤ _; exact Nat.le_of_eq rfl) (hb hby at_56) (fun _ _ => ⟨rfl, eh6, (by decide : 0 + 0 ≤ _), (by decide : 0 + 0 ≤ _)⟩)
  dsimp only [Pt.U, Pt.locs, Pt.cells, Pt.slots] at X7 l7 y7 z7 st7 hQ7
  subst l7 y7 z7
  obtain ⟨r7, rfl, N7q, eh7, hr7⟩ := hQ7
  have N7 := Fr.app N6 N7q
  refine own_by (st7) ?_
  show own_Go p.tables e below (T7.setTop (mkF m 59 #[.val (.int a), .val (.int b), .val (.int nr), .val (.int (1 : Int32)), .val (.int (1 : Int32)), .unset] [(.int r7)])) _
  have e7 : r7 = 0 := by rw [hr7]; decide
  refine own_by (fun t k => XS.ifNo X7.here hx rfl (hb hby at_59) rfl ((if0 _ _).trans (teq e7).2) k) ?_
  show own_Go p.tables e below (T7.setTop (mkF m 62 #[.val (.int a), .val (.int b), .val (.int nr), .val (.int (1 : Int32)), .val (.int (1 : Int32)), .unset] [])) _
  refine own_by (fun t k => XS.iconst X7.here hx rfl (hb hby at_62) k) ?_
  show own_Go p.tables e below (T7.setTop (mkF m 63 #[.val (.int a), .val (.int b), .val (.int nr), .val (.int (1 : Int32)), .val (.int (1 : Int32)), .unset] [(.int (1 : Int32))])) _
  refine own_by (fun t k => XS.goto X7.here hx rfl (pc0 := 63) (pc' := 67) rfl (hb hby at_63) (by decide) (by decide) k) ?_
  show own_Go p.tables e below (T7.setTop (mkF m 67 #[.val (.int a), .val (.int b), .val (.int nr), .val (.int (1 : Int32)), .val (.int (1 : Int32)), .unset] [(.int (1 : Int32))])) _
  refine own_by (fun t k => XS.istore X7.here hx rfl (hb hby at_67) rfl (l' := #[.val (.int a), .val (.int b), .val (.int nr), .val (.int (1 : Int32)), .val (.int (1 : Int32)), .val (.int (1 : Int32))]) rfl k) ?_
  show own_Go p.tables e below (T7.setTop (mkF m 69 #[.val (.int a), .val (.int b), .val (.int nr), .val (.int (1 : Int32)), .val (.int (1 : Int32)), .val (.int (1 : Int32))] [])) _
  refine own_by (fun t k => XS.iloadN X7.here hx rfl (hb hby at_69) rfl k) ?_
  show own_Go p.tables e below (T7.setTop (mkF m 70 #[.val (.int a), .val (.int b), .val (.int nr), .val (.int (1 : Int32)), .val (.int (1 : Int32)), .val (.int (1 : Int32))] [(.int (1 : Int32))])) _
  refine own_by (fun t k => XS.ifNo X7.here hx rfl (hb hby at_70) rfl ((if0 _ _).trans (feq (by decide)).1) k) ?_
  show own_Go p.tables e below (T7.setTop (mkF m 73 #[.val (.int a), .val (.int b), .val (.int nr), .val (.int (1 : Int32)), .val (.int (1 : Int32)), .val (.int (1 : Int32))] [])) _
  refine own_by (fun t k => XS.iload X7.here hx rfl (hb hby at_73) rfl k) ?_
  show own_Go p.tables e below (T7.setTop (mkF m 75 #[.val (.int a), .val (.int b), .val (.int nr), .val (.int (1 : Int32)), .val (.int (1 : Int32)), .val (.int (1 : Int32))] [(.int (1 : Int32))])) _
  refine own_by (fun t k => XS.ifNo X7.here hx rfl (hb hby at_75) rfl ((if0 _ _).trans (feq (by decide)).1) k) ?_
  show own_Go p.tables e below (T7.setTop (mkF m 78 #[.val (.int a), .val (.int b), .val (.int nr), .val (.int (1 : Int32)), .val (.int (1 : Int32)), .val (.int (1 : Int32))] [])) _
  refine own_by (fun t k => XS.iload X7.here hx rfl (hb hby at_78) rfl k) ?_
  show own_Go p.tables e below (T7.setTop (mkF m 80 #[.val (.int a), .val (.int b), .val (.int nr), .val (.int (1 : Int32)), .val (.int (1 : Int32)), .val (.int (1 : Int32))] [(.int (1 : Int32))])) _
  refine own_by (fun t k => XS.ifNo X7.here hx rfl (hb hby at_80) rfl ((if0 _ _).trans (feq (by decide)).1) k) ?_
  show own_Go p.tables e below (T7.setTop (mkF m 83 #[.val (.int a), .val (.int b), .val (.int nr), .val (.int (1 : Int32)), .val (.int (1 : Int32)), .val (.int (1 : Int32))] [])) _
  refine own_by (fun t k => XS.iconst X7.here hx rfl (hb hby at_83) k) ?_
  show own_Go p.tables e below (T7.setTop (mkF m 84 #[.val (.int a), .val (.int b), .val (.int nr), .val (.int (1 : Int32)), .val (.int (1 : Int32)), .val (.int (1 : Int32))] [(.int (1 : Int32))])) _
  refine own_by (fun t k => XS.goto X7.here hx rfl (pc0 := 84) (pc' := 88) rfl (hb hby at_84) (by decide) (by decide) k) ?_
  show own_Go p.tables e below (T7.setTop (mkF m 88 #[.val (.int a), .val (.int b), .val (.int nr), .val (.int (1 : Int32)), .val (.int (1 : Int32)), .val (.int (1 : Int32))] [(.int (1 : Int32))])) _
  exact own_retN X7 hx Bd.notSynchronized (t := .boolean) Bd.returns (by simp) (by decide) (hb hby at_88) (by (try rw [eh7]); exact ⟨rfl, N7⟩) (by decide) (by decide)
set_option maxRecDepth 65536 in
set_option maxHeartbeats 40000000 in
theorem comes_1 {Post : Tables → Env → Array Value → State → Outcome → State → Prop} (hpost : ∀ tb e args s v u, (limb_1_1.after args s (.returned v) u = true ∧ limb_1_2.after args s (.returned v) u = true ∧ True) → FrameEnd s (.returned v) u (Jvm.fieldLocs frame_1_writes args s ++ Jvm.arrayLocs frame_1_arrays args s ++ Jvm.staticLocs frame_1_statics s) 0 0 → Post tb e args s (.returned v) u) :
    ArmFor flags0 classFile x code maxLocals ret World_1 tables_1 room_1 Calls_1 rest_1 Pre_1 Post := by
  intro l hfl _ _ p e ha hc hk s m args below hf hA hF happ hP
  obtain ⟨hcalls, hrest, hpre⟩ := hP
  obtain ⟨-, -, -, hnamed, -, -, -, hat⟩ := (Spec.applies_iff hf).mp happ
  obtain ⟨hg, hn⟩ := and_e (Cond.before_iff.mp (show (Jvm.Cond.and given_1 narrow_1).before args s = true from hpre))
  obtain ⟨hcount, t0⟩ := and_e hg
  obtain ⟨g0, t1⟩ := and_e t0
  obtain ⟨w0, w1, rfl⟩ : ∃ w0 w1 : Value, args = #[w0, w1] := by
    have hs : args.size = 2 := by simpa [Cond.value, given_1] using hcount
    obtain ⟨L⟩ := args
    match L, hs with
    | [w0, w1], _ => exact ⟨w0, w1, rfl⟩
  have hw := fun d (hd : d ∈ tables_1) => atoms_spec (ws := Jvm.Cond.code x code maxLocals ret :: tables_1) hat d (List.mem_cons_of_mem _ hd)
  obtain ⟨i0, ei0⟩ := is_v g0
  obtain rfl : w0 = (.int i0) := Option.some.inj ei0
  obtain ⟨i1, ei1⟩ := is_v t1
  obtain rfl : w1 = (.int i1) := Option.some.inj ei1
  obtain ⟨n, o, h1, h2, h3, _, L, rfl, ⟨rfl, N⟩, hq⟩ := rm_law l s _ hw tables_1 i0 i1 s.heap s.heap.size (Nat.le_refl _) p e ha hc hk s m _ below hf ((Spec.applies_iff_loose hf).mp happ).1 ⟨rfl, State.Warmed39.refl s, rfl⟩ trivial
  refine ⟨n, _, h1, h2, h3, hpost _ _ _ _ _ _ ⟨Cond.after_iff.mpr rfl, Cond.after_iff.mpr (eq_i res_at (Term.int_eval (1)) rfl), trivial⟩ ⟨hq.1, hq.2.1, (hq.2.2.sift fun y hy => Or.inr (N y hy)).mono (by decide) (by decide)⟩⟩
theorem main_1_1 : Claimed_1_1 := comes_1 fun _ _ _ _ _ _ h hF => ⟨h.1, hF⟩
theorem main_1_2 : Claimed_1_2 := comes_1 fun _ _ _ _ _ _ h hF => ⟨h.2.1, hF⟩
end Jvm.Pilot.@@N@@
namespace Jvm.Pilot.@@N@@
open Jvm Jvm.ClassFile Sem Op Lib Jvm.Free Jvm.Stand Jvm.Pilot.@@N@@.Jvm.D
/-! MADE BY PROGRAM (witnessworld.py) out of the Statement's table words and the real class files: 9 classes; the members and pool entries that the words name. The judged class is class 1, her method 2. -/
namespace start1
open Jvm.ClassFile
def u (s : String) : CpInfo := .utf8 (stringToUtf16 s)
/-- a pool by its gaps: so many unusable entries, then the entry; so many at the end -/
def gap : Nat → List CpInfo → List CpInfo
  | 0, r => r
  | n + 1, r => .unusable :: gap n r
def poolList (es : List (Nat × CpInfo)) (last : Nat) : List CpInfo := es.foldr (fun e r => gap e.1 (e.2 :: r)) (gap last [])
def pool (es : List (Nat × CpInfo)) (last : Nat) : Array CpInfo := ⟨poolList es last⟩
def fileOf (pool : Array CpInfo) (this : Nat) (attrs : Array Attribute := #[]) (ms : Array MethodInfo := #[]) (fl : Nat := 33) (sup : Nat := 0) (ifs : Array Nat := #[]) (fds : Array FieldInfo := #[]) : ClassFile where
  minorVersion := 0
  majorVersion := 65
  constantPool := pool
  accessFlags := fl
  thisClass := this
  superClass := sup
  interfaces := ifs
  fields := fds
  methods := ms
  attributes := attrs
def plain (name : String) (sup : Option ClassId) : Class where
  name := name
  kind := .ordinary
  loader := none
  accessFlags := 33
  super := sup
  interfaces := #[]
  cf := none
  fields := #[]
  methods := #[]
  instanceTypes := #[]
  staticTypes := #[]
  resolved := #[]
  callSites := []
  init := .initialized
  statics := none
  mirror := none

def pool0 : Array CpInfo := pool [(5, u "<init>"), (0, u "()V"), (1, .class_ 10), (1, u "java/lang/Object")] 113

def k0m0 : Method := { name := "<init>", desc := "()V", sig := { parameters := [], returnType := none }, accessFlags := 1, code := none }
/-- java/lang/Object -/
def k0 : Class := { plain "java/lang/Object" none with
  accessFlags := 33
  interfaces := #[]
  cf := some (fileOf pool0 8 #[] #[{ accessFlags := 1, nameIndex := 5, descriptorIndex := 6, attributes := #[] }] 33 0 #[] #[])
  fields := #[]
  methods := #[k0m0]
  instanceTypes := #[]
  staticTypes := #[]
  resolved := Array.replicate 124 none
  statics := none }

def pool1 : Array CpInfo := pool [(2, .class_ 4), (1, u "java/lang/Object"), (0, u "<init>"), (0, u "()V"), (0, .methodref 8 9), (0, .class_ 10), (0, .nameAndType 11 12), (0, u "com/example/ordinal/ordinal/Records"), (0, u "lasting"), (0, u "(I)Z"), (0, .methodref 14 15), (0, .class_ 16), (0, .nameAndType 17 12), (0, u "com/example/ordinal/ordinal/RecordsLastingPinLaw"), (0, u "expected"), (3, u "law"), (0, u "(II)Z")] 2

def k1m0 : Method := { name := "<init>", desc := "()V", sig := { parameters := [], returnType := none }, accessFlags := 1, code := none }
def k1c1 : Code := { maxStack := 2, maxLocals := 1, code := method_2_code, exceptionTable := #[], attributes := #[] }
def k1m1 : Method := { name := "expected", desc := "(I)Z", sig := { parameters := [.int], returnType := some .boolean }, accessFlags := 10, code := some k1c1 }
def k1c2 : Code := { maxStack := 2, maxLocals := 6, code := code, exceptionTable := #[], attributes := #[] }
def k1m2 : Method := { name := "law", desc := "(II)Z", sig := { parameters := [.int, .int], returnType := some .boolean }, accessFlags := 9, code := some k1c2 }
/-- com/example/ordinal/ordinal/RecordsLastingPinLaw -/
def k1 : Class := { plain "com/example/ordinal/ordinal/RecordsLastingPinLaw" (some 0) with
  accessFlags := 49
  interfaces := #[]
  cf := some (fileOf pool1 14 #[] #[{ accessFlags := 1, nameIndex := 5, descriptorIndex := 6, attributes := #[] }, { accessFlags := 10, nameIndex := 17, descriptorIndex := 12, attributes := #[] }, { accessFlags := 9, nameIndex := 21, descriptorIndex := 22, attributes := #[] }] 49 2 #[] #[])
  fields := #[]
  methods := #[k1m0, k1m1, k1m2]
  instanceTypes := #[]
  staticTypes := #[]
  resolved := Array.replicate 25 none
  statics := none }

def pool2 : Array CpInfo := pool [(1, .class_ 2), (0, u "com/example/ordinal/ordinal/Records"), (1, .class_ 6), (1, u "java/lang/Object"), (0, u "<init>"), (0, u "()V"), (2, u "growth"), (0, u "Ljava/lang/Object;"), (1, u "[J"), (2, u "segments"), (0, u "[[J"), (5, u "cut"), (0, u "Ljava/util/concurrent/atomic/AtomicInteger;"), (2, u "tops"), (33, u "WORD"), (0, u "Ljava/lang/invoke/VarHandle;"), (64, u "NONE"), (0, u "I"), (2, u "DEAD"), (1, u "ABSENT"), (1, u "WORDS"), (1, u "ADDRESS"), (0, u "VERSION"), (0, u "OLDER"), (1, u "LENGTH"), (1, u "SEGMENT_SHIFT"), (1, u "SEGMENT"), (1, u "STRIPES"), (1, u "TOP_SPACING"), (13, u "lasting"), (0, u "(I)Z")] 18

def k2m0 : Method := { name := "<init>", desc := "()V", sig := { parameters := [], returnType := none }, accessFlags := 0, code := none }
def k2c1 : Code := { maxStack := 2, maxLocals := 1, code := prog_33_method_11_code, exceptionTable := #[], attributes := #[] }
def k2m1 : Method := { name := "lasting", desc := "(I)Z", sig := { parameters := [.int], returnType := some .boolean }, accessFlags := 8, code := some k2c1 }
/-- com/example/ordinal/ordinal/Records -/
def k2 : Class := { plain "com/example/ordinal/ordinal/Records" (some 0) with
  accessFlags := 48
  interfaces := #[]
  cf := some (fileOf pool2 1 #[] #[{ accessFlags := 0, nameIndex := 7, descriptorIndex := 8, attributes := #[] }, { accessFlags := 8, nameIndex := 164, descriptorIndex := 165, attributes := #[] }] 48 4 #[] #[{ accessFlags := 24, nameIndex := 128, descriptorIndex := 129, attributes := #[] }, { accessFlags := 24, nameIndex := 132, descriptorIndex := 129, attributes := #[] }, { accessFlags := 24, nameIndex := 134, descriptorIndex := 129, attributes := #[] }, { accessFlags := 26, nameIndex := 136, descriptorIndex := 129, attributes := #[] }, { accessFlags := 26, nameIndex := 138, descriptorIndex := 129, attributes := #[] }, { accessFlags := 26, nameIndex := 139, descriptorIndex := 129, attributes := #[] }, { accessFlags := 26, nameIndex := 140, descriptorIndex := 129, attributes := #[] }, { accessFlags := 26, nameIndex := 142, descriptorIndex := 129, attributes := #[] }, { accessFlags := 26, nameIndex := 144, descriptorIndex := 129, attributes := #[] }, { accessFlags := 26, nameIndex := 146, descriptorIndex := 129, attributes := #[] }, { accessFlags := 26, nameIndex := 148, descriptorIndex := 129, attributes := #[] }, { accessFlags := 26, nameIndex := 150, descriptorIndex := 129, attributes := #[] }, { accessFlags := 26, nameIndex := 62, descriptorIndex := 63, attributes := #[] }, { accessFlags := 18, nameIndex := 11, descriptorIndex := 12, attributes := #[] }, { accessFlags := 66, nameIndex := 17, descriptorIndex := 18, attributes := #[] }, { accessFlags := 18, nameIndex := 24, descriptorIndex := 25, attributes := #[] }, { accessFlags := 18, nameIndex := 28, descriptorIndex := 14, attributes := #[] }])
  fields := #[{ name := "NONE", type := .int, accessFlags := 24, slot := 0, constantValue := 0 }, { name := "DEAD", type := .int, accessFlags := 24, slot := 1, constantValue := 0 }, { name := "ABSENT", type := .int, accessFlags := 24, slot := 2, constantValue := 0 }, { name := "WORDS", type := .int, accessFlags := 26, slot := 3, constantValue := 0 }, { name := "ADDRESS", type := .int, accessFlags := 26, slot := 4, constantValue := 0 }, { name := "VERSION", type := .int, accessFlags := 26, slot := 5, constantValue := 0 }, { name := "OLDER", type := .int, accessFlags := 26, slot := 6, constantValue := 0 }, { name := "LENGTH", type := .int, accessFlags := 26, slot := 7, constantValue := 0 }, { name := "SEGMENT_SHIFT", type := .int, accessFlags := 26, slot := 8, constantValue := 0 }, { name := "SEGMENT", type := .int, accessFlags := 26, slot := 9, constantValue := 0 }, { name := "STRIPES", type := .int, accessFlags := 26, slot := 10, constantValue := 0 }, { name := "TOP_SPACING", type := .int, accessFlags := 26, slot := 11, constantValue := 0 }, { name := "WORD", type := (.object "java/lang/invoke/VarHandle"), accessFlags := 26, slot := 12, constantValue := 0 }, { name := "growth", type := (.object "java/lang/Object"), accessFlags := 18, slot := 0, constantValue := 0 }, { name := "segments", type := (.array (.array .long)), accessFlags := 66, slot := 1, constantValue := 0 }, { name := "cut", type := (.object "java/util/concurrent/atomic/AtomicInteger"), accessFlags := 18, slot := 2, constantValue := 0 }, { name := "tops", type := (.array .long), accessFlags := 18, slot := 3, constantValue := 0 }]
  methods := #[k2m0, k2m1]
  instanceTypes := #[(.object "java/lang/Object"), (.array (.array .long)), (.object "java/util/concurrent/atomic/AtomicInteger"), (.array .long)]
  staticTypes := #[.int, .int, .int, .int, .int, .int, .int, .int, .int, .int, .int, .int, (.object "java/lang/invoke/VarHandle")]
  resolved := Array.replicate 184 none
  statics := none }

def pool3 : Array CpInfo := pool [(1, u "java/lang/Cloneable"), (0, .class_ 1), (0, u "java/lang/Object"), (0, .class_ 3)] 3

/-- java/lang/Cloneable -/
def k3 : Class := { plain "java/lang/Cloneable" (some 0) with
  accessFlags := 1537
  interfaces := #[]
  cf := some (fileOf pool3 2 #[] #[] 1537 4 #[] #[])
  fields := #[]
  methods := #[]
  instanceTypes := #[]
  staticTypes := #[]
  resolved := Array.replicate 8 none
  statics := none }

def pool4 : Array CpInfo := pool [(1, u "java/io/Serializable"), (0, .class_ 1), (0, u "java/lang/Object"), (0, .class_ 3)] 3

/-- java/io/Serializable -/
def k4 : Class := { plain "java/io/Serializable" (some 0) with
  accessFlags := 1537
  interfaces := #[]
  cf := some (fileOf pool4 2 #[] #[] 1537 4 #[] #[])
  fields := #[]
  methods := #[]
  instanceTypes := #[]
  staticTypes := #[]
  resolved := Array.replicate 8 none
  statics := none }

/-- the primitive byte -/
def k5 : Class := { plain "byte" none with kind := .primitive 'B', accessFlags := 0x411 }
/-- [B -/
def k6 : Class := { plain "[B" (some 0) with kind := .array 5 .byte, interfaces := #[3, 4], accessFlags := 1041 }

/-- the primitive int -/
def k7 : Class := { plain "int" none with kind := .primitive 'I', accessFlags := 0x411 }
/-- [I -/
def k8 : Class := { plain "[I" (some 0) with kind := .array 7 .int, interfaces := #[3, 4], accessFlags := 1041 }

def heap : Heap := #[]
def classes : Array Class := #[k0, k1, k2, k3, k4, k5, k6, k7, k8]
def interned : List (Array UInt16 × Addr) := []
def slotsUsed : Nat := 0
def theMethod : MethodId := ⟨1, 2⟩
def args0 : Array Value := #[.int 5, .int 5]
def aboutOver (below : List Frame) : State where
  vm := { classes := classes, interned := interned.toArray }
  heap := heap
  slotsUsed := slotsUsed
  threads := #[{ frames := .invoking theMethod args0 :: below }]
def below0 : List Frame := [.native { method := ⟨0, 0⟩, args := #[] }]
def about1 : State := aboutOver below0
def p0 : Program := .bare "" "" ""
def e0 : Env := launch0.env 0 0 0
theorem w_frames : about1.frames = Frame.invoking theMethod args0 :: below0 := rfl
set_option maxRecDepth 65536 in
theorem w_args : argsFit about1.vm theMethod args0 = true := by decide +kernel
set_option maxRecDepth 65536 in
theorem w_heap : heapFits about1 = true := by decide +kernel
set_option maxRecDepth 65536 in
theorem w_runnable : about1.curStatus? = some .runnable := by decide +kernel
set_option maxRecDepth 65536 in
theorem w_alone : about1.alone = true := by decide +kernel
set_option maxRecDepth 65536 in
theorem w_named : about1.methodNamed? x = some theMethod := by decide +kernel
set_option maxRecDepth 65536 in
theorem w_hears : about1.hears theMethod below0 = true := by decide +kernel
set_option maxRecDepth 65536 in
theorem w_ripe : about1.ripe theMethod args0 below0 = true := by decide +kernel
theorem w_running : about1.status = .running := rfl
set_option maxRecDepth 65536 in
theorem w_room : about1.hasRoom e0.platform room_1 = true :=
  launch0.hasRoom_least _ room_1 (by decide +kernel) (by decide +kernel) (by decide +kernel) (by decide +kernel) (by decide +kernel) (by decide +kernel)
theorem allAtoms_all (ts : List Jvm.Cond) (a : Array Jvm.Value) (st : Jvm.State) : (allAtoms ts).before a st = ts.all (fun c => c.before a st) := by
  induction ts with
  | nil => rfl
  | cons c t ih =>
    show (Jvm.Cond.and c (allAtoms t)).before a st = _
    rw [Jvm.Cond.before_and, ih, List.all_cons]
def words1 : List Jvm.Cond := Jvm.Cond.code x code maxLocals ret :: tables_1
/-- a 'code' word, met by the world's own term for the bytes: nothing is compared byte by byte -/
theorem code_word {y : MethodName} {bytes : ByteArray} {mx : Nat} {rt : Option FieldType} {a : Array Value} {s : State} {m : MethodId} {meth : Method} {c : Code} (h1 : s.methodNamed? y = some m) (h2 : s.vm.method? m = some meth) (h3 : meth.code = some c) (h4 : c.code = bytes)
    (h5 : (c.maxLocals == mx && c.exceptionTable.isEmpty && decide (c.maxStack ≤ mostOperands) && decide (meth.sig.returnType = rt) && !meth.locks && decide (parseMethodDescriptor y.desc = some meth.sig)) = true) : (Jvm.Cond.code y bytes mx rt).before a s = true := by
  simp only [Bool.and_eq_true, beq_iff_eq, Bool.not_eq_true', decide_eq_true_eq] at h5
  obtain ⟨⟨⟨⟨⟨g1, g2⟩, g3⟩, g4⟩, g5⟩, g6⟩ := h5
  simp [Cond.before, Cond.holds, Cond.value, h1, h2, h3, h4, g1, g2, g3, g4, g5, g6]
def isCode : Jvm.Cond → Bool
  | .code _ _ _ _ => true
  | _ => false
theorem all_split {L : List Jvm.Cond} {P : Jvm.Cond → Bool} (h1 : L.all (fun c => isCode c || P c) = true) (h2 : ∀ c ∈ L.filter isCode, P c = true) : L.all P = true := by
  refine List.all_eq_true.mpr fun c hc => ?_
  have h := List.all_eq_true.mp h1 c hc
  rcases Bool.eq_false_or_eq_true (isCode c) with hi | hi
  · exact h2 c (List.mem_filter.mpr ⟨hc, hi⟩)
  · simpa [hi] using h
set_option maxRecDepth 65536 in
theorem w_c0 : (Jvm.Cond.code x code maxLocals ret).before args0 about1 = true := code_word (m := ⟨1, 2⟩) (meth := k1m2) (c := k1c2) (by decide +kernel) rfl rfl rfl (by decide +kernel)
set_option maxRecDepth 65536 in
theorem w_c1 : (Jvm.Cond.code ({ cls := "com/example/ordinal/ordinal/Records", name := "lasting", desc := "(I)Z" } : Jvm.MethodName) prog_33_method_11_code (1 : Nat) (Option.some Jvm.ClassFile.FieldType.boolean)).before args0 about1 = true := code_word (m := ⟨2, 1⟩) (meth := k2m1) (c := k2c1) (by decide +kernel) rfl rfl rfl (by decide +kernel)
set_option maxRecDepth 65536 in
theorem w_c2 : (Jvm.Cond.code ({ cls := "com/example/ordinal/ordinal/RecordsLastingPinLaw", name := "expected", desc := "(I)Z" } : Jvm.MethodName) method_2_code (1 : Nat) (Option.some Jvm.ClassFile.FieldType.boolean)).before args0 about1 = true := code_word (m := ⟨1, 1⟩) (meth := k1m1) (c := k1c1) (by decide +kernel) rfl rfl rfl (by decide +kernel)
def codes1 : List Jvm.Cond := [Jvm.Cond.code x code maxLocals ret, Jvm.Cond.code ({ cls := "com/example/ordinal/ordinal/Records", name := "lasting", desc := "(I)Z" } : Jvm.MethodName) prog_33_method_11_code (1 : Nat) (Option.some Jvm.ClassFile.FieldType.boolean), Jvm.Cond.code ({ cls := "com/example/ordinal/ordinal/RecordsLastingPinLaw", name := "expected", desc := "(I)Z" } : Jvm.MethodName) method_2_code (1 : Nat) (Option.some Jvm.ClassFile.FieldType.boolean)]
set_option maxRecDepth 65536 in
theorem codes_eq : words1.filter isCode = codes1 := rfl
theorem w_codes : ∀ c ∈ words1.filter isCode, c.before args0 about1 = true := by
  rw [codes_eq]
  intro c hc
  simp only [codes1, List.mem_cons, List.not_mem_nil, or_false] at hc
  rcases hc with rfl | rfl | rfl
  · exact w_c0
  · exact w_c1
  · exact w_c2
set_option maxRecDepth 65536 in
theorem w_t1 : words1.all (fun c => isCode c || c.before args0 about1) = true := by decide +kernel
theorem w_tables : (allAtoms (Jvm.Cond.code x code maxLocals ret :: tables_1)).before args0 about1 = true := by
  rw [allAtoms_all]
  show words1.all (fun c => c.before args0 about1) = true
  refine all_split ?_ w_codes
  rw [w_t1]
set_option maxRecDepth 65536 in
theorem w_case : (Jvm.Cond.and given_1 narrow_1).before args0 about1 = true := by decide +kernel
theorem w_applies : (headSpec (Jvm.Cond.code x code maxLocals ret :: tables_1) room_1).applies x e0.platform about1 = true :=
  (Spec.applies_iff w_frames).mpr ⟨w_running, w_runnable, w_alone, w_named, w_hears, w_ripe, w_room, w_tables⟩
theorem atStart : AtStart classFile x code maxLocals ret World_1 tables_1 room_1 Calls_1 rest_1 Pre_1 launch0 p0 e0 about1 theMethod args0 below0 :=
  ⟨lists_1, trivial, launch0.admits_env _ _ _, launch0.least_env, fairChoices_fair.cas, fairChoices_fair.clock, w_frames, w_args, w_heap, w_applies, trivial, trivial, w_case⟩
end start1
theorem witness_1 : WitnessClaimed_1 := ⟨start1.p0, start1.e0, start1.about1, start1.theMethod, start1.args0, start1.below0, start1.atStart⟩
end Jvm.Pilot.@@N@@
