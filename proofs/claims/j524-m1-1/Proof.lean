import JvmDerived
import JvmDerived.Pilot.@@N@@Statement
import JvmDerived.Pilot.@@N@@Code
set_option linter.unusedVariables false
set_option linter.unusedSimpArgs false
@@BLOCK:HandJ.lean.txt@@
@@BLOCK:SymMore.lean.txt@@
namespace Jvm.Pilot.@@N@@
open Jvm Jvm.ClassFile Sem Op Lib Jvm.Free Jvm.Stand Jvm.LawKit Jvm.RoadKit Bundle Jvm.Pilot.@@N@@.Jvm.D
/-! own kit: the walk's goal carried forward, arrays as functions -/
def own_Fin (below : List Frame) (s : State) (Q : Option Value → Heap → List Loc → Prop) (k n : Nat) (t : State) : Prop :=
  ∃ o, t.status = .running ∧ Ended t below o ∧ ∃ v L, o = .returned v ∧ Q v t.heap L ∧ FrameEnd s o t L k n
def own_Go (tb : Tables) (e : Env) (below : List Frame) (S : State) (P : State → Prop) : Prop := ∃ t, Steps tb e below S t ∧ P t
theorem own_by {tb : Tables} {e : Env} {below : List Frame} {S S' : State} {P : State → Prop} (k : ∀ t, Steps tb e below S' t → Steps tb e below S t) (h : own_Go tb e below S' P) : own_Go tb e below S P := by
  obtain ⟨t, a, b⟩ := h
  exact ⟨t, k t a, b⟩
theorem own_tr {tb : Tables} {e : Env} {below : List Frame} {S S' : State} {P : State → Prop} (k : Steps tb e below S S') (h : own_Go tb e below S' P) : own_Go tb e below S P := by
  obtain ⟨t, a, b⟩ := h
  exact ⟨t, k.trans a, b⟩
theorem own_out {tb : Tables} {e : Env} {below : List Frame} {S s : State} {Q : Option Value → Heap → List Loc → Prop} {k n : Nat} (h : own_Go tb e below S (own_Fin below s Q k n)) :
    ∃ s₂ o, Steps tb e below S s₂ ∧ s₂.status = .running ∧ Ended s₂ below o ∧ ∃ v L, o = .returned v ∧ Q v s₂.heap L ∧ FrameEnd s o s₂ L k n := by
  obtain ⟨t, a, o, b, c, d⟩ := h
  exact ⟨t, o, a, b, c, d⟩
theorem own_cast {tb : Tables} {e : Env} {below : List Frame} {T : State} {g g' : JFrame} {P : State → Prop} (q : g = g') (h : own_Go tb e below (T.setTop g') P) : own_Go tb e below (T.setTop g) P := q ▸ h
section OwnEnd
variable {p : Program} {l : Launch} {e : Env} {R : Room} {s : State} {m : MethodId} {args : Array Value} {below : List Frame} {meth : Method} {c : Code} {T : State} {locs : List Loc} {cells slots : Nat} {Q : Option Value → Heap → List Loc → Prop} {k n : Nat}
theorem own_ret (X : Stand p l e R s m args below meth c T locs cells slots) (hx : p.tables.exec = Jvm.exec) (hlocks : meth.locks = false) {pc : Nat} {Ls : Array Slot} {w : Value} {t : FieldType} {i : Instr} {rest : List Value} (hret : meth.sig.returnType = some t) (hn : narrow t w = w)
    (hi : (i = .ireturn ∧ (t = .int ∨ t = .boolean ∨ t = .byte ∨ t = .char ∨ t = .short) ∧ ∃ z, w = .int z) ∨ (i = .lreturn ∧ t = .long ∧ ∃ z, w = .long z) ∨ (i = .dreturn ∧ t = .double ∧ ∃ z, w = .double z) ∨ (i = .freturn ∧ t = .float ∧ ∃ z, w = .float z) ∨ (i = .areturn ∧ t.isReference = true ∧ w.isRef = true))
    (hd : decode c.code pc = .ok (i, 1)) (hQ : Q (some w) T.heap locs) (h1 : cells ≤ k) (h2 : slots ≤ n) :
    own_Go p.tables e below (T.setTop (mkF m pc Ls (w :: rest))) (own_Fin below s Q k n) := by
  obtain ⟨fs, hr, hrun, hended, hW, hsame⟩ := X.leave (v := some w) (fun h => by rw [hret] at h; cases h) hlocks
  exact ⟨_, retOut X hx hret hn hi hd hr, _, hrun, hended, _, _, rfl, hQ, ⟨_, rfl⟩, hW, hsame.mono h1 h2⟩
theorem own_retI (X : Stand p l e R s m args below meth c T locs cells slots) (hx : p.tables.exec = Jvm.exec) (hlocks : meth.locks = false) {pc : Nat} {Ls : Array Slot} {z : Int32} {rest : List Value} (hret : meth.sig.returnType = some .int)
    (hd : decode c.code pc = .ok (.ireturn, 1)) (hQ : Q (some (.int z)) T.heap locs) (h1 : cells ≤ k) (h2 : slots ≤ n) :
    own_Go p.tables e below (T.setTop (mkF m pc Ls (.int z :: rest))) (own_Fin below s Q k n) :=
  own_ret X hx hlocks hret rfl (Or.inl ⟨rfl, Or.inl rfl, _, rfl⟩) hd hQ h1 h2
theorem own_retJ (X : Stand p l e R s m args below meth c T locs cells slots) (hx : p.tables.exec = Jvm.exec) (hlocks : meth.locks = false) {pc : Nat} {Ls : Array Slot} {z : Int64} {rest : List Value} (hret : meth.sig.returnType = some .long)
    (hd : decode c.code pc = .ok (.lreturn, 1)) (hQ : Q (some (.long z)) T.heap locs) (h1 : cells ≤ k) (h2 : slots ≤ n) :
    own_Go p.tables e below (T.setTop (mkF m pc Ls (.long z :: rest))) (own_Fin below s Q k n) :=
  own_ret X hx hlocks hret rfl (Or.inr (Or.inl ⟨rfl, rfl, _, rfl⟩)) hd hQ h1 h2
theorem own_retA (X : Stand p l e R s m args below meth c T locs cells slots) (hx : p.tables.exec = Jvm.exec) (hlocks : meth.locks = false) {pc : Nat} {Ls : Array Slot} {w : Value} {t : FieldType} {rest : List Value} (hret : meth.sig.returnType = some t) (ht : t.isReference = true) (hw : w.isRef = true) (hn : narrow t w = w)
    (hd : decode c.code pc = .ok (.areturn, 1)) (hQ : Q (some w) T.heap locs) (h1 : cells ≤ k) (h2 : slots ≤ n) :
    own_Go p.tables e below (T.setTop (mkF m pc Ls (w :: rest))) (own_Fin below s Q k n) :=
  own_ret X hx hlocks hret hn (Or.inr (Or.inr (Or.inr (Or.inr ⟨rfl, ht, hw⟩)))) hd hQ h1 h2
theorem own_retN (X : Stand p l e R s m args below meth c T locs cells slots) (hx : p.tables.exec = Jvm.exec) (hlocks : meth.locks = false) {pc : Nat} {Ls : Array Slot} {z : Int32} {t : FieldType} {rest : List Value} (hret : meth.sig.returnType = some t) (ht : t = .boolean ∨ t = .byte ∨ t = .char ∨ t = .short) (hn : nar t z = z)
    (hd : decode c.code pc = .ok (.ireturn, 1)) (hQ : Q (some (.int z)) T.heap locs) (h1 : cells ≤ k) (h2 : slots ≤ n) :
    own_Go p.tables e below (T.setTop (mkF m pc Ls (.int z :: rest))) (own_Fin below s Q k n) := by
  obtain ⟨fs, hr, hrun, hended, hW, hsame⟩ := X.leave (v := some (.int (nar t z))) (fun h => by rw [hret] at h; cases h) hlocks
  exact ⟨_, retN X hx hret ht hd hr, _, hrun, hended, _, _, rfl, (by rw [hn]; exact hQ), ⟨_, rfl⟩, hW, hsame.mono h1 h2⟩
theorem own_retV (X : Stand p l e R s m args below meth c T locs cells slots) (hx : p.tables.exec = Jvm.exec) (hlocks : meth.locks = false) {pc : Nat} {Ls : Array Slot} (hret : meth.sig.returnType = none)
    (hd : decode c.code pc = .ok (.return_, 1)) (hQ : Q none T.heap locs) (h1 : cells ≤ k) (h2 : slots ≤ n) :
    own_Go p.tables e below (T.setTop (mkF m pc Ls [])) (own_Fin below s Q k n) := by
  obtain ⟨fs, hr, hrun, hended, hW, hsame⟩ := X.leave (v := none) (fun _ => rfl) hlocks
  exact ⟨_, X.returnOut hx hret hd hr, _, hrun, hended, _, _, rfl, hQ, ⟨_, rfl⟩, hW, hsame.mono h1 h2⟩
end OwnEnd
/-- one place of a function changed -/
def own_upd {α : Type} (f : Nat → α) (k : Nat) (x : α) : Nat → α := fun i => if i = k then x else f i
theorem own_upd_at {α : Type} (f : Nat → α) (k : Nat) (x : α) : own_upd f k x k = x := by simp [own_upd]
theorem own_upd_ne {α : Type} (f : Nat → α) {k i : Nat} (x : α) (h : i ≠ k) : own_upd f k x i = f i := by simp [own_upd, h]
/-- an array: its length, and what each place holds -/
def own_AF (Z : State) (h : Heap) (a : Addr) (ty : FieldType) (n : Nat) (f : Nat → Value) : Prop := ∃ c : Cell, Arr Z h a c ty ∧ c.slots.size = n ∧ ∀ i, i < n → c.slots[i]? = some (f i)
def own_AI (Z : State) (h : Heap) (a : Addr) (ty : FieldType) (n : Nat) (b : Nat → Int32) : Prop := own_AF Z h a ty n (fun i => .int (b i))
def own_AJ (Z : State) (h : Heap) (a : Addr) (n : Nat) (b : Nat → Int64) : Prop := own_AF Z h a .long n (fun i => .long (b i))
section OwnArr
variable {Z : State} {h h' : Heap} {a b : Addr} {ty : FieldType} {n : Nat} {f : Nat → Value} {ws : List Addr} {sl : Nat} {v : Value} {bi : Nat → Int32} {bj : Nat → Int64}
theorem own_AF.lt (F : own_AF Z h a ty n f) : a < h.size := by obtain ⟨c, A, -⟩ := F; exact A.lt
theorem own_AF.ext (F : own_AF Z h a ty n f) (E : Ext h h') : own_AF Z h' a ty n f := by obtain ⟨c, A, r⟩ := F; exact ⟨c, A.ext E, r⟩
theorem own_AF.other (F : own_AF Z h b ty n f) (W : Wr h h' a sl v) (q : b ≠ a) : own_AF Z h' b ty n f := by obtain ⟨c, A, r⟩ := F; exact ⟨c, A.other W q, r⟩
theorem own_AF.keep (F : own_AF Z h a ty n f) (K : Keep h h' ws) (q : a ∉ ws) : own_AF Z h' a ty n f := by obtain ⟨c, A, r⟩ := F; exact ⟨c, ⟨K.2.1 a c A.1 q, A.2⟩, r⟩
theorem own_AF.congr (F : own_AF Z h a ty n f) {f' : Nat → Value} (q : ∀ i, i < n → f i = f' i) : own_AF Z h a ty n f' := by obtain ⟨c, A, S, r⟩ := F; exact ⟨c, A, S, fun i hi => by rw [← q i hi]; exact r i hi⟩
theorem own_AF.new {k : ClassId} {z : Int32} (A : Arr Z h a (newA k ty z) ty) (hz : z.toNatClampNeg = n) : own_AF Z h a ty n (fun _ => defaultValue ty) := by
  subst hz
  exact ⟨_, A, sz_new _ _ _, fun i hi => by simp [newA, hi]⟩
theorem own_AF.st (F : own_AF Z h a ty n f) (W : Wr h h' a sl v) : own_AF Z h' a ty n (own_upd f sl v) := by
  obtain ⟨c, A, S, r⟩ := F
  refine ⟨_, A.same W, by rw [sz_set]; exact S, fun i hi => ?_⟩
  by_cases u : i = sl
  · subst u; rw [own_upd_at]; simp [Cell.setSlot, S, hi]
  · rw [own_upd_ne _ _ u]
    simp only [Cell.setSlot]
    rw [Array.getElem?_setIfInBounds_ne (fun q => u q.symm)]; exact r i hi
theorem own_AI.st {x : Int32} (F : own_AI Z h a ty n bi) (W : Wr h h' a sl (.int x)) : own_AI Z h' a ty n (own_upd bi sl x) :=
  (own_AF.st F W).congr fun i _ => by by_cases u : i = sl <;> simp [own_upd, u]
theorem own_AJ.st {x : Int64} (F : own_AJ Z h a n bj) (W : Wr h h' a sl (.long x)) : own_AJ Z h' a n (own_upd bj sl x) :=
  (own_AF.st F W).congr fun i _ => by by_cases u : i = sl <;> simp [own_upd, u]
theorem own_AI.lt (F : own_AI Z h a ty n bi) : a < h.size := own_AF.lt F
theorem own_AI.ext (F : own_AI Z h a ty n bi) (E : Ext h h') : own_AI Z h' a ty n bi := own_AF.ext F E
theorem own_AI.other (F : own_AI Z h b ty n bi) (W : Wr h h' a sl v) (q : b ≠ a) : own_AI Z h' b ty n bi := own_AF.other F W q
theorem own_AI.keep (F : own_AI Z h a ty n bi) (K : Keep h h' ws) (q : a ∉ ws) : own_AI Z h' a ty n bi := own_AF.keep F K q
theorem own_AI.congr (F : own_AI Z h a ty n bi) {b' : Nat → Int32} (q : ∀ i, i < n → bi i = b' i) : own_AI Z h a ty n b' := own_AF.congr F fun i hi => by rw [q i hi]
theorem own_AJ.lt (F : own_AJ Z h a n bj) : a < h.size := own_AF.lt F
theorem own_AJ.ext (F : own_AJ Z h a n bj) (E : Ext h h') : own_AJ Z h' a n bj := own_AF.ext F E
theorem own_AJ.other (F : own_AJ Z h b n bj) (W : Wr h h' a sl v) (q : b ≠ a) : own_AJ Z h' b n bj := own_AF.other F W q
theorem own_AJ.keep (F : own_AJ Z h a n bj) (K : Keep h h' ws) (q : a ∉ ws) : own_AJ Z h' a n bj := own_AF.keep F K q
theorem own_AJ.congr (F : own_AJ Z h a n bj) {b' : Nat → Int64} (q : ∀ i, i < n → bj i = b' i) : own_AJ Z h a n b' := own_AF.congr F fun i hi => by rw [q i hi]
variable {p : Program} {l : Launch} {e : Env} {R : Room} {s : State} {m : MethodId} {args : Array Value} {below : List Frame} {meth : Method} {c : Code} {T : State} {locs : List Loc} {cells slots : Nat} {j : Int32} {k : Nat} {g : JFrame} {rest : List Value}
theorem own_in {cl : Cell} (S : cl.slots.size = n) (h0 : ¬ j < 0) (hk : j.toNatClampNeg = k) (hlt : k < n) : ¬ (j < 0 ∨ cl.slots.size ≤ j.toNatClampNeg) := by
  rintro (q | q)
  · exact h0 q
  · rw [S, hk] at q; omega
theorem own_ldB (X : Stand p l e R s m args below meth c T locs cells slots) (hx : p.tables.exec = Jvm.exec) (hZ : Z.Warmed39 s.vm) (eT : T.heap = h) (A : own_AI Z h a .byte n bi) (h0 : ¬ j < 0) (hk : j.toNatClampNeg = k) (hlt : k < n) (hg : g.method = m) (hs : g.stack = .int j :: .ref a :: rest) (hd : decode c.code g.pc = .ok (.baload, 1)) :
    ∀ target, Steps p.tables e below (T.setTop { g with pc := g.pc + 1, stack := .int (bi k) :: rest }) target → Steps p.tables e below (T.setTop g) target := by
  obtain ⟨cl, Ar, S, H⟩ := A
  exact X.baloadBytes hx (v := .int (bi k)) (by rw [eT]; exact Ar.1) (State.isArrayOf_alike hZ.alike Ar.2.1) Ar.2.2 (own_in S h0 hk hlt) (by rw [hk]; exact H k hlt) hg hs hd
theorem own_ldI (X : Stand p l e R s m args below meth c T locs cells slots) (hx : p.tables.exec = Jvm.exec) (hZ : Z.Warmed39 s.vm) (eT : T.heap = h) (A : own_AI Z h a .int n bi) (h0 : ¬ j < 0) (hk : j.toNatClampNeg = k) (hlt : k < n) (hg : g.method = m) (hs : g.stack = .int j :: .ref a :: rest) (hd : decode c.code g.pc = .ok (.iaload, 1)) :
    ∀ target, Steps p.tables e below (T.setTop { g with pc := g.pc + 1, stack := .int (bi k) :: rest }) target → Steps p.tables e below (T.setTop g) target := by
  obtain ⟨cl, Ar, S, H⟩ := A
  exact X.iaload hx (v := .int (bi k)) (by rw [eT]; exact Ar.1) (State.isArrayOf_alike hZ.alike Ar.2.1) Ar.2.2 (own_in S h0 hk hlt) (by rw [hk]; exact H k hlt) hg hs hd
theorem own_ldJ (X : Stand p l e R s m args below meth c T locs cells slots) (hx : p.tables.exec = Jvm.exec) (hZ : Z.Warmed39 s.vm) (eT : T.heap = h) (A : own_AJ Z h a n bj) (h0 : ¬ j < 0) (hk : j.toNatClampNeg = k) (hlt : k < n) (hg : g.method = m) (hs : g.stack = .int j :: .ref a :: rest) (hd : decode c.code g.pc = .ok (.laload, 1)) :
    ∀ target, Steps p.tables e below (T.setTop { g with pc := g.pc + 1, stack := .long (bj k) :: rest }) target → Steps p.tables e below (T.setTop g) target := by
  obtain ⟨cl, Ar, S, H⟩ := A
  exact X.laload hx (v := .long (bj k)) (by rw [eT]; exact Ar.1) (State.isArrayOf_alike hZ.alike Ar.2.1) Ar.2.2 (own_in S h0 hk hlt) (by rw [hk]; exact H k hlt) hg hs hd
theorem own_len (X : Stand p l e R s m args below meth c T locs cells slots) (hx : p.tables.exec = Jvm.exec) (hZ : Z.Warmed39 s.vm) (eT : T.heap = h) (A : own_AF Z h a ty n f) {z : Int32} (hz : n.toInt32 = z) (hg : g.method = m) (hs : g.stack = .ref a :: rest) (hd : decode c.code g.pc = .ok (.arraylength, 1)) :
    ∀ target, Steps p.tables e below (T.setTop { g with pc := g.pc + 1, stack := .int z :: rest }) target → Steps p.tables e below (T.setTop g) target := by
  obtain ⟨cl, Ar, S, H⟩ := A
  intro t hr
  refine X.arraylength hx (by rw [eT]; exact Ar.1) (State.isArrayOf_alike hZ.alike Ar.2.1) hg hs hd t ?_
  rw [S, hz]; exact hr
theorem own_stB (X : Stand p l e R s m args below meth c T locs cells slots) (hx : p.tables.exec = Jvm.exec) (hZ : Z.Warmed39 s.vm) (eT : T.heap = h) (A : own_AI Z h a .byte n bi) {x : Int32} (h0 : ¬ j < 0) (hk : j.toNatClampNeg = k) (hlt : k < n) (hg : g.method = m) (hs : g.stack = .int x :: .int j :: .ref a :: rest) (hd : decode c.code g.pc = .ok (.bastore, 1)) :
    ∃ T' h', Stand p l e R s m args below meth c T' (locs ++ [⟨a, k⟩]) cells slots ∧ T'.heap = h' ∧ Wr h h' a k (.int (x.toInt8.toInt32)) ∧ own_AI Z h' a .byte n (own_upd bi k (x.toInt8.toInt32)) ∧ ∀ target, Steps p.tables e below (T'.setTop { g with pc := g.pc + 1, stack := rest }) target → Steps p.tables e below (T.setTop g) target := by
  obtain ⟨cl, Ar, S, H⟩ := id A
  obtain ⟨T', h', X', e', W, st⟩ := stB X hx hZ eT Ar (own_in S h0 hk hlt) hg hs hd
  rw [hk] at X' W
  exact ⟨T', h', X', e', W, A.st W, st⟩
theorem own_stI (X : Stand p l e R s m args below meth c T locs cells slots) (hx : p.tables.exec = Jvm.exec) (hZ : Z.Warmed39 s.vm) (eT : T.heap = h) (A : own_AI Z h a .int n bi) {x : Int32} (h0 : ¬ j < 0) (hk : j.toNatClampNeg = k) (hlt : k < n) (hg : g.method = m) (hs : g.stack = .int x :: .int j :: .ref a :: rest) (hd : decode c.code g.pc = .ok (.iastore, 1)) :
    ∃ T' h', Stand p l e R s m args below meth c T' (locs ++ [⟨a, k⟩]) cells slots ∧ T'.heap = h' ∧ Wr h h' a k (.int x) ∧ own_AI Z h' a .int n (own_upd bi k x) ∧ ∀ target, Steps p.tables e below (T'.setTop { g with pc := g.pc + 1, stack := rest }) target → Steps p.tables e below (T.setTop g) target := by
  obtain ⟨cl, Ar, S, H⟩ := id A
  obtain ⟨T', h', X', e', W, st⟩ := stI X hx hZ eT Ar (own_in S h0 hk hlt) hg hs hd
  rw [hk] at X' W
  exact ⟨T', h', X', e', W, A.st W, st⟩
theorem own_stJ (X : Stand p l e R s m args below meth c T locs cells slots) (hx : p.tables.exec = Jvm.exec) (hZ : Z.Warmed39 s.vm) (eT : T.heap = h) (A : own_AJ Z h a n bj) {x : Int64} (h0 : ¬ j < 0) (hk : j.toNatClampNeg = k) (hlt : k < n) (hg : g.method = m) (hs : g.stack = .long x :: .int j :: .ref a :: rest) (hd : decode c.code g.pc = .ok (.lastore, 1)) :
    ∃ T' h', Stand p l e R s m args below meth c T' (locs ++ [⟨a, k⟩]) cells slots ∧ T'.heap = h' ∧ Wr h h' a k (.long x) ∧ own_AJ Z h' a n (own_upd bj k x) ∧ ∀ target, Steps p.tables e below (T'.setTop { g with pc := g.pc + 1, stack := rest }) target → Steps p.tables e below (T.setTop g) target := by
  obtain ⟨cl, Ar, S, H⟩ := id A
  obtain ⟨T', h', X', e', W, st⟩ := stJ X hx hZ eT Ar (own_in S h0 hk hlt) hg hs hd
  rw [hk] at X' W
  exact ⟨T', h', X', e', W, A.st W, st⟩
end OwnArr
/-- what a body leaves that returns an int (a long) and writes nothing -/
def own_QI (h0 : Heap) (n0 : Nat) (f : Int32) (v : Option Value) (h : Heap) (L : List Loc) : Prop := ∃ r : Int32, v = some (.int r) ∧ Fr n0 L ∧ h = h0 ∧ r = f
def own_QJ (h0 : Heap) (n0 : Nat) (f : Int64) (v : Option Value) (h : Heap) (L : List Loc) : Prop := ∃ r : Int64, v = some (.long r) ∧ Fr n0 L ∧ h = h0 ∧ r = f
theorem own_nb {z : Int32} (h : z = 0 ∨ z = 1) : nar .boolean z = z := by rcases h with rfl | rfl <;> decide
/-! sums, differences and products that don't wrap -/
theorem own_add {x y : Int32} (h1 : -2147483648 ≤ x.toInt + y.toInt) (h2 : x.toInt + y.toInt < 2147483648) : (x + y).toInt = x.toInt + y.toInt := by
  have a := c_iadd x y; have b := (x + y).toInt_lt; have c := (x + y).le_toInt; omega
theorem own_sub' {x y : Int32} (h1 : -2147483648 ≤ x.toInt - y.toInt) (h2 : x.toInt - y.toInt < 2147483648) : (x - y).toInt = x.toInt - y.toInt := by
  have a := c_isub x y; have b := (x - y).toInt_lt; have c := (x - y).le_toInt; omega
theorem own_mul {x y : Int32} {t : Int} (ht : x.toInt * y.toInt = t) (h1 : -2147483648 ≤ t) (h2 : t < 2147483648) : (x * y).toInt = t := by
  have a := c_imul x y; rw [ht] at a; have b := (x * y).toInt_lt; have c := (x * y).le_toInt; omega
theorem own_addL {x y : Int64} (h1 : -9223372036854775808 ≤ x.toInt + y.toInt) (h2 : x.toInt + y.toInt < 9223372036854775808) : (x + y).toInt = x.toInt + y.toInt := by
  have a := c_ladd x y; have b := (x + y).toInt_lt; have c := (x + y).le_toInt; omega
theorem own_subL {x y : Int64} (h1 : -9223372036854775808 ≤ x.toInt - y.toInt) (h2 : x.toInt - y.toInt < 9223372036854775808) : (x - y).toInt = x.toInt - y.toInt := by
  have a := c_lsub x y; have b := (x - y).toInt_lt; have c := (x - y).le_toInt; omega
theorem own_mulL {x y : Int64} {t : Int} (ht : x.toInt * y.toInt = t) (h1 : -9223372036854775808 ≤ t) (h2 : t < 9223372036854775808) : (x * y).toInt = t := by
  have a := c_lmul x y; rw [ht] at a; have b := (x * y).toInt_lt; have c := (x * y).le_toInt; omega
def own_ext (N : Nat) (f : Nat → Int64) : Nat → Int64 := fun j => if j < N then f j else 0
theorem own_copy {l : Launch} {R : Room} {p : Program} {e : Env} {below : List Frame} {s : State} {args : Array Value} {W : Nat} {Z : State} {h : Heap} {d : Addr} {N n cap : Nat} {f : Nat → Int64} {z : Int32} (hZ : Z.Warmed39 s.vm)
    (A : own_AJ Z h d N f) (E : Exa Z h d "[J") (hN : N < 2 ^ 31) (hz : z = Int32.ofNat n) (hn : n ≤ cap) (hcap : cap ≤ 67108864) (hfr : 2 ≤ R.frames) (hlo : W + 54 ≤ R.locals) (htab : Jvm.Free.JA.CopyOfJ.tab.before args s = true) :
    Back l R p e below s args Jvm.Free.JA.CopyOfJ.yN 3 W (fun A a => a = #[.ref d, .int z] ∧ A.U.heap = h ∧ A.cells + 1 ≤ R.cells ∧ A.slots + cap ≤ R.slots)
      (fun A _ v B => ∃ b, v = some (.ref b) ∧ b = h.size ∧ Ext h B.U.heap ∧ own_AJ Z B.U.heap b n (own_ext N f) ∧ Exa Z B.U.heap b "[J" ∧ B.locs = A.locs ∧ B.cells = A.cells + 1 ∧ B.slots = A.slots + cap) := by
  intro m meth c Pt g ig mk a X hg hsz hd hW hnm ⟨ha, eh, hc, hs⟩
  subst ha hz
  obtain ⟨cl, Ar, S, H⟩ := A
  obtain ⟨cl', k, q1, q2, q3, q4, q5⟩ := E
  cases Ar.1.symm.trans q1
  have al := (wtrans hZ X.warmed).alike
  have hP : Jvm.Free.JA.CopyOfJ.P d cl n #[.ref d, .int (Int32.ofNat n)] Pt.U := ⟨rfl, ⟨by rw [eh]; exact Ar.1, State.isArrayOf_alike al Ar.2.1, Ar.2.2, by rw [S]; exact hN⟩, by rw [al.findClass]; exact q2, fun i v hv => by
    have hi : i < N := by rw [← S]; exact (Array.getElem?_eq_some_iff.mp hv).1
    rw [H i hi] at hv; cases hv; rfl, Nat.le_trans hn hcap⟩
  obtain ⟨v, B, X', ⟨⟨e0, Bc, e1, e2, e3, e4, e5, e6⟩, hl, hk, hsl⟩, st⟩ := Jvm.Free.JA.CopyOfJ.pays d cl n htab hfr hlo m meth c Pt g ig mk _ X hg hsz hd hW hnm ⟨hc, by omega, hP⟩
  have al2 := (wtrans hZ X'.warmed).alike
  refine ⟨v, ⟨B.U, B.locs, B.cells, Pt.slots + cap⟩, X'.more (Nat.le_refl _) (by show B.slots ≤ Pt.slots + cap; omega), ⟨h.size, by rw [← eh]; exact e0, rfl, ⟨?_, fun a c hc => e6 a c (by rw [eh]; exact hc)⟩, ⟨Bc, ⟨?_, State.isArrayOf_alike al2.symm e1.2.1, e1.2.2.1⟩, e4, fun i hi => ?_⟩, ?_, by rw [hl, List.append_nil], hk, rfl⟩, st⟩
  · have := (Array.getElem?_eq_some_iff.mp e1.1).1
    rw [eh] at this; exact Nat.le_of_lt this
  · have := e1.1; rw [eh] at this; exact this
  · rw [e5 i hi]
    show some (cl.slots.getD i (.long 0)) = some (Value.long (own_ext N f i))
    unfold own_ext
    by_cases q : i < N
    · rw [if_pos q, Array.getD_eq_getD_getElem?, H i q]; rfl
    · rw [if_neg q, Array.getD_eq_getD_getElem?, Array.getElem?_eq_none (by rw [S]; omega)]; rfl
  · have := e1.1; rw [eh] at this
    have z3 : Z.vm.findClass "[J" = some Bc.cls := by rw [← al2.findClass]; exact e3
    obtain ⟨-, kB, kk, comp, kkd⟩ := State.isArrayOf_alike al2.symm e1.2.1
    exact ⟨Bc, kB, this, z3, kk, by rw [e2]; rfl, fun q => by rw [kkd] at q; cases q⟩
theorem own_cb1 : jdk_65_method_124_code = Jvm.Free.JA.CopyOfJ.yB := by decide +kernel
theorem own_cb2 : jdk_29_method_69_code = Jvm.Free.JP.Math_min_II.yB := by decide +kernel
theorem own_tab {Z s : State} {a0 args : Array Value} (hZ : Z.Warmed39 s.vm) (hw : ∀ d ∈ tables_1, d.before a0 Z = true) : Jvm.Free.JA.CopyOfJ.tab.before args s = true := by
  have min : Jvm.Free.JP.Math_min_II.tab.before args s = true := by
    refine Jvm.Free.XT.unparts ?_ fun w h => ?_
    · rw [← own_cb2]; exact mvT hZ (hw _ (List.mem_of_getElem? (i := 46) rfl))
    · cases List.mem_singleton.mp (show w ∈ [Cond.initialized "java/lang/Math"] from h)
      exact mvT hZ (hw _ (List.mem_of_getElem? (i := 45) rfl))
  refine Jvm.Free.XT.unparts ?_ fun w h => ?_
  · rw [← own_cb1]; exact mvT hZ (hw _ (List.mem_of_getElem? (i := 42) rfl))
  · have h2 : w ∈ ([.initialized "java/util/Arrays", .classLink "java/util/Arrays" 320 "[J", .castable "[J" "[J", .arrayClass .long, Jvm.Free.JP.Math_min_II.tab, .methodLink "java/util/Arrays" 319 ⟨"[J", "clone", "()Ljava/lang/Object;"⟩, .sameMethod "[J" "java/lang/Object" "clone" "()Ljava/lang/Object;", .native ⟨"java/lang/Object", "clone", "()Ljava/lang/Object;"⟩, .instanceMethod ⟨"java/lang/Object", "clone", "()Ljava/lang/Object;"⟩, .selects "[J" ⟨"[J", "clone", "()Ljava/lang/Object;"⟩ ⟨"java/lang/Object", "clone", "()Ljava/lang/Object;"⟩, .castable "[J" "java/lang/Cloneable", .methodLink "java/util/Arrays" 304 ⟨"java/lang/Math", "min", "(II)I"⟩, .static ⟨"java/lang/Math", "min", "(II)I"⟩, .methodLink "java/util/Arrays" 150 ⟨"java/lang/System", "arraycopy", "(Ljava/lang/Object;ILjava/lang/Object;II)V"⟩, .native ⟨"java/lang/System", "arraycopy", "(Ljava/lang/Object;ILjava/lang/Object;II)V"⟩, .static ⟨"java/lang/System", "arraycopy", "(Ljava/lang/Object;ILjava/lang/Object;II)V"⟩, .initialized "java/lang/System"] : List Cond) := h
    simp only [List.mem_cons, List.not_mem_nil, or_false] at h2
    rcases h2 with rfl | rfl | rfl | rfl | rfl | rfl | rfl | rfl | rfl | rfl | rfl | rfl | rfl | rfl | rfl | rfl | rfl
    · exact mvT hZ (hw _ (List.mem_of_getElem? (i := 41) rfl))
    · exact mvT hZ (hw _ (List.mem_of_getElem? (i := 58) rfl))
    · exact mvT hZ (hw _ (List.mem_of_getElem? (i := 59) rfl))
    · exact mvA hZ (hw _ (List.mem_of_getElem? (i := 10) rfl))
    · exact min
    · exact mvT hZ (hw _ (List.mem_of_getElem? (i := 51) rfl))
    · exact mvT hZ (hw _ (List.mem_of_getElem? (i := 52) rfl))
    · exact mvT hZ (hw _ (List.mem_of_getElem? (i := 56) rfl))
    · exact mvT hZ (hw _ (List.mem_of_getElem? (i := 54) rfl))
    · exact mvT hZ (hw _ (List.mem_of_getElem? (i := 55) rfl))
    · exact mvT hZ (hw _ (List.mem_of_getElem? (i := 57) rfl))
    · exact mvT hZ (hw _ (List.mem_of_getElem? (i := 43) rfl))
    · exact mvT hZ (hw _ (List.mem_of_getElem? (i := 44) rfl))
    · exact mvT hZ (hw _ (List.mem_of_getElem? (i := 47) rfl))
    · exact mvT hZ (hw _ (List.mem_of_getElem? (i := 50) rfl))
    · exact mvT hZ (hw _ (List.mem_of_getElem? (i := 48) rfl))
    · exact mvT hZ (hw _ (List.mem_of_getElem? (i := 49) rfl))
def own_e6 (q : Int32) : Int32 := ((q.toUInt32 >>> ((6 : Int32) &&& 31).toUInt32).toInt32)
def own_ix (q : Int32) : Nat := (q.toInt % 4294967296).toNat / 64
def own_bit (q : Int32) : Int64 := (1 : Int64) <<< (q &&& 0x3f).toInt64
theorem own_e6i (q : Int32) : (own_e6 q).toInt = own_ix q := by
  have := c_iushr q 6 6 (by decide) (by decide)
  unfold own_e6 own_ix; rw [this]; omega
theorem own_natL {n : Nat} (h : n < 2147483648) : (Int32.ofNat n).toInt = n := Int32.toInt_ofNat_small (by omega)
theorem own_ixb (q : Int32) : own_ix q < 67108864 := by unfold own_ix; omega
theorem own_e6n (q : Int32) : own_e6 q = Int32.ofNat (own_ix q) := by
  have := own_ixb q
  apply Int32.toInt_inj.mp
  rw [own_e6i, own_natL (by omega)]
theorem own_ixN {i : Int32} {j : Nat} (hi : i = Int32.ofNat j) (h : j < 2147483648) : (¬ i < 0) ∧ i.toNatClampNeg = j := by
  have e : i.toInt = j := by rw [hi]; exact own_natL h
  have z : (0 : Int32).toInt = 0 := by decide
  refine ⟨by rw [Int32.lt_iff_toInt_lt, e, z]; omega, ?_⟩
  show i.toInt.toNat = j
  rw [e]; omega
theorem own_ixq {q ix : Int32} {N : Nat} (h : ix = own_e6 q) (hN : N ≤ 1024) (h1 : ix < Int32.ofNat N) : (¬ ix < 0) ∧ ix.toNatClampNeg = own_ix q ∧ own_ix q < N := by
  have b := own_ixb q
  rw [own_e6n] at h
  obtain ⟨p1, p2⟩ := own_ixN h (by omega)
  refine ⟨p1, p2, ?_⟩
  rw [h, Int32.lt_iff_toInt_lt, own_natL (by omega), own_natL (by omega)] at h1
  omega
theorem own_ixs {nu ix : Int32} (h : ix = own_e6 nu) (hn : 0 ≤ nu.toInt ∧ nu.toInt < 65536) : ix = Int32.ofNat (own_ix nu) ∧ own_ix nu < 1024 := by
  refine ⟨by rw [h, own_e6n], ?_⟩
  unfold own_ix; omega
theorem own_ixS {ix : Int32} {I : Nat} (h : ix = Int32.ofNat I) (hI : I < 1024) : (¬ (own_e6 ix) < 0) ∧ (own_e6 ix).toNatClampNeg = I / 64 := by
  have e : ix.toInt = I := by rw [h]; exact own_natL (by omega)
  have e2 : own_ix ix = I / 64 := by unfold own_ix; rw [e]; omega
  have := own_ixN (own_e6n ix) (by have := own_ixb ix; omega)
  rw [e2] at this; exact this
theorem own_lt' {ln : Int32} {N Lz : Nat} (h : ln = Int32.ofNat Lz) (hN : N ≤ 1024) (hL : Lz ≤ 1024) (h1 : Int32.ofNat N < ln) : N < Lz := by
  rw [h, Int32.lt_iff_toInt_lt, own_natL (by omega), own_natL (by omega)] at h1; omega
theorem own_le' {ln : Int32} {N Lz : Nat} (h : ln = Int32.ofNat Lz) (hN : N ≤ 1024) (hL : Lz ≤ 1024) (h1 : ¬ Int32.ofNat N < ln) : Lz ≤ N := by
  rw [h, Int32.lt_iff_toInt_lt, own_natL (by omega), own_natL (by omega)] at h1; omega
def own_nlz (p1 : Int32) : Int32 := ((if p1 < (256 : Int32) then (if p1 < (16 : Int32) then (if p1 < (4 : Int32) then (31 : Int32) else ((31 : Int32) + (-2 : Int32))) else (if ((p1.toUInt32 >>> ((4 : Int32) &&& 31).toUInt32).toInt32) < (4 : Int32) then ((31 : Int32) + (-4 : Int32)) else (((31 : Int32) + (-4 : Int32)) + (-2 : Int32)))) else (if ((p1.toUInt32 >>> ((8 : Int32) &&& 31).toUInt32).toInt32) < (16 : Int32) then (if ((p1.toUInt32 >>> ((8 : Int32) &&& 31).toUInt32).toInt32) < (4 : Int32) then ((31 : Int32) + (-8 : Int32)) else (((31 : Int32) + (-8 : Int32)) + (-2 : Int32))) else (if ((((p1.toUInt32 >>> ((8 : Int32) &&& 31).toUInt32).toInt32).toUInt32 >>> ((4 : Int32) &&& 31).toUInt32).toInt32) < (4 : Int32) then (((31 : Int32) + (-8 : Int32)) + (-4 : Int32)) else ((((31 : Int32) + (-8 : Int32)) + (-4 : Int32)) + (-2 : Int32))))) - (((if p1 < (256 : Int32) then (if p1 < (16 : Int32) then (if p1 < (4 : Int32) then p1 else ((p1.toUInt32 >>> ((2 : Int32) &&& 31).toUInt32).toInt32)) else (if ((p1.toUInt32 >>> ((4 : Int32) &&& 31).toUInt32).toInt32) < (4 : Int32) then ((p1.toUInt32 >>> ((4 : Int32) &&& 31).toUInt32).toInt32) else ((((p1.toUInt32 >>> ((4 : Int32) &&& 31).toUInt32).toInt32).toUInt32 >>> ((2 : Int32) &&& 31).toUInt32).toInt32))) else (if ((p1.toUInt32 >>> ((8 : Int32) &&& 31).toUInt32).toInt32) < (16 : Int32) then (if ((p1.toUInt32 >>> ((8 : Int32) &&& 31).toUInt32).toInt32) < (4 : Int32) then ((p1.toUInt32 >>> ((8 : Int32) &&& 31).toUInt32).toInt32) else ((((p1.toUInt32 >>> ((8 : Int32) &&& 31).toUInt32).toInt32).toUInt32 >>> ((2 : Int32) &&& 31).toUInt32).toInt32)) else (if ((((p1.toUInt32 >>> ((8 : Int32) &&& 31).toUInt32).toInt32).toUInt32 >>> ((4 : Int32) &&& 31).toUInt32).toInt32) < (4 : Int32) then ((((p1.toUInt32 >>> ((8 : Int32) &&& 31).toUInt32).toInt32).toUInt32 >>> ((4 : Int32) &&& 31).toUInt32).toInt32) else ((((((p1.toUInt32 >>> ((8 : Int32) &&& 31).toUInt32).toInt32).toUInt32 >>> ((4 : Int32) &&& 31).toUInt32).toInt32).toUInt32 >>> ((2 : Int32) &&& 31).toUInt32).toInt32)))).toUInt32 >>> ((1 : Int32) &&& 31).toUInt32).toInt32))
def own_hob (p1 : Int32) : Int32 := (p1 &&& (((-2147483648 : Int32).toUInt32 >>> ((own_nlz p1) &&& 31).toUInt32).toInt32))
def own_pw (n : Nat) : Nat := ((own_hob (Int32.ofNat n)) <<< ((1 : Int32) &&& 31)).toNatClampNeg
set_option maxRecDepth 100000 in
theorem own_all : ∀ n : Fin 1024, n.val = 0 ∨ (((own_hob (Int32.ofNat n.val)) <<< ((1 : Int32) &&& 31)) = Int32.ofNat (own_pw n.val) ∧ n.val < own_pw n.val ∧ own_pw n.val ≤ 1024) := by decide +kernel
theorem own_hobs {ln : Int32} {N Lz : Nat} (h : ln = Int32.ofNat Lz) (hNL : N < Lz) (hN : 1 ≤ N) (hL : Lz ≤ 1024) :
    (0 : Int32) < (ln - (1 : Int32)) ∧ (ln - (1 : Int32)) < (65536 : Int32) ∧ ((own_hob (ln - (1 : Int32))) <<< ((1 : Int32) &&& 31)) = Int32.ofNat (own_pw (Lz - 1)) ∧ Lz - 1 < own_pw (Lz - 1) ∧ own_pw (Lz - 1) ≤ 1024 := by
  have e : (ln - (1 : Int32)) = Int32.ofNat (Lz - 1) := by
    apply Int32.toInt_inj.mp
    rw [own_natL (by omega), own_sub' (by rw [h, own_natL (by omega)]; rw [show (1 : Int32).toInt = 1 by decide]; omega) (by rw [h, own_natL (by omega)]; rw [show (1 : Int32).toInt = 1 by decide]; omega), h, own_natL (by omega), show (1 : Int32).toInt = 1 by decide]; omega
  have a := (own_all ⟨Lz - 1, by omega⟩).resolve_left (by show ¬ Lz - 1 = 0; omega)
  refine ⟨?_, ?_, by rw [e]; exact a.1, a.2.1, a.2.2⟩
  · rw [e, Int32.lt_iff_toInt_lt, own_natL (by omega), show (0 : Int32).toInt = 0 by decide]; omega
  · rw [e, Int32.lt_iff_toInt_lt, own_natL (by omega), show (65536 : Int32).toInt = 65536 by decide]; omega
theorem own_mm {m : Int32} {n : Nat} (h : m = own_e6 ((Int32.ofNat n) + (63 : Int32))) (hn : n ≤ 1024) : m = Int32.ofNat ((n + 63) / 64) ∧ (n + 63) / 64 ≤ 16 ∧ n ≤ 64 * ((n + 63) / 64) := by
  refine ⟨?_, by omega, by omega⟩
  have e : ((Int32.ofNat n) + (63 : Int32)) = Int32.ofNat (n + 63) := (Int32.ofNat_add n 63).symm
  rw [h, e, own_e6n]
  congr 1
  unfold own_ix; rw [own_natL (by omega)]; omega
def own_NS (Z : State) (n0 : Nat) (h : Heap) (a ws sm : Addr) (N M : Nat) (f g : Nat → Int64) : Prop :=
  Exa Z h a "com/example/cutset/cutset/search/NumberSet" ∧ Fld Z h a "com/example/cutset/cutset/search/NumberSet" "words" "[J" (.ref ws) ∧ Fld Z h a "com/example/cutset/cutset/search/NumberSet" "summary" "[J" (.ref sm) ∧ own_AJ Z h ws N f ∧ Exa Z h ws "[J" ∧ own_AJ Z h sm M g ∧ Exa Z h sm "[J" ∧ n0 ≤ a ∧ n0 ≤ ws ∧ n0 ≤ sm ∧ a ≠ ws ∧ a ≠ sm ∧ ws ≠ sm ∧ 1 ≤ N ∧ N ≤ 1024 ∧ M ≤ 16 ∧ N ≤ 64 * M
/-- contains, on the words -/
def own_ct (N : Nat) (f : Nat → Int64) (q : Int32) : Int32 := if own_e6 q < Int32.ofNat N then (if (f (own_ix q) &&& own_bit q) = (0 : Int64) then (0 : Int32) else (1 : Int32)) else (0 : Int32)
theorem own_ct1 {N : Nat} {f : Nat → Int64} {q ix : Int32} (h : ix = own_e6 q) (h1 : ix < Int32.ofNat N) : own_ct N f q = (if (f (own_ix q) &&& ((1 : Int64) <<< (q &&& 0x3f).toInt64)) = (0 : Int64) then (0 : Int32) else (1 : Int32)) := by
  subst h; exact if_pos h1
theorem own_ct0 {N : Nat} {f : Nat → Int64} {q ix : Int32} (h : ix = own_e6 q) (h1 : ¬ ix < Int32.ofNat N) : own_ct N f q = (0 : Int32) := by
  subst h; exact if_neg h1
def own_clr (N : Nat) (f : Nat → Int64) (nu : Int32) : Nat → Int64 := if own_ix nu < N then own_upd f (own_ix nu) (f (own_ix nu) &&& (own_bit nu ^^^ (-1 : Int64))) else f
def own_put (f : Nat → Int64) (nu : Int32) : Nat → Int64 := own_upd f (own_ix nu) (f (own_ix nu) ||| own_bit nu)
theorem own_empty (q : Int32) : own_ct 1 (fun _ => (0 : Int64)) q = 0 := by
  unfold own_ct
  split
  · rw [if_pos (Int64.zero_and)]
  · rfl
theorem own_16 {u y : Int32} (h : y = (u &&& (65535 : Int32))) : 0 ≤ y.toInt ∧ y.toInt < 65536 := by
  have m := c_mask u 65535 16 (by decide) (by decide)
  rw [h, m]; omega
def own_mem (N : Nat) (f : Nat → Int64) (q : Int32) : Prop := own_ix q < N ∧ ¬ (f (own_ix q) &&& own_bit q) = 0
theorem own_ctm {N : Nat} {f : Nat → Int64} (q : Int32) (hN : N ≤ 1024) : (own_ct N f q = 1 ∧ own_mem N f q) ∨ (own_ct N f q = 0 ∧ ¬ own_mem N f q) := by
  have b := own_ixb q
  have e : own_e6 q < Int32.ofNat N ↔ own_ix q < N := by
    rw [own_e6n, Int32.lt_iff_toInt_lt, own_natL (by omega), own_natL (by omega)]; omega
  unfold own_ct own_mem
  by_cases h : own_ix q < N
  · rw [if_pos (e.mpr h)]
    by_cases z : (f (own_ix q) &&& own_bit q) = 0
    · rw [if_pos z]; exact Or.inr ⟨rfl, fun y => y.2 z⟩
    · rw [if_neg z]; exact Or.inl ⟨rfl, h, z⟩
  · rw [if_neg (fun y => h (e.mp y))]; exact Or.inr ⟨rfl, fun y => h y.1⟩
def own_lo (q : Int32) : Nat := (q.toInt % 64).toNat
theorem own_blo (q : Int32) : own_bit q = (1 : Int64) <<< (Int32.ofNat (own_lo q)).toInt64 := by
  have m := c_mask q 0x3f 6 (by decide) (by decide)
  have e : (q &&& 0x3f) = Int32.ofNat (own_lo q) := by
    apply Int32.toInt_inj.mp
    rw [m, own_natL (by unfold own_lo; omega)]; unfold own_lo; omega
  unfold own_bit; rw [e]
theorem own_same {p q : Int32} (h1 : own_ix p = own_ix q) (h2 : own_lo p = own_lo q) : p = q := by
  have a1 := p.toInt_lt; have a2 := p.le_toInt; have a3 := q.toInt_lt; have a4 := q.le_toInt
  unfold own_ix at h1; unfold own_lo at h2
  apply Int32.toInt_inj.mp
  omega
set_option maxRecDepth 100000 in
theorem own_b1 : ∀ i j : Fin 64, (((1 : Int64) <<< (Int32.ofNat i.val).toInt64) &&& ((1 : Int64) <<< (Int32.ofNat j.val).toInt64)) = (if i = j then ((1 : Int64) <<< (Int32.ofNat j.val).toInt64) else 0) := by decide +kernel
set_option maxRecDepth 100000 in
theorem own_b2 : ∀ i j : Fin 64, ((((1 : Int64) <<< (Int32.ofNat i.val).toInt64) ^^^ (-1 : Int64)) &&& ((1 : Int64) <<< (Int32.ofNat j.val).toInt64)) = (if i = j then 0 else ((1 : Int64) <<< (Int32.ofNat j.val).toInt64)) := by decide +kernel
set_option maxRecDepth 100000 in
theorem own_b3 : ∀ j : Fin 64, ¬ ((1 : Int64) <<< (Int32.ofNat j.val).toInt64) = 0 := by decide +kernel
theorem own_lo64 (q : Int32) : own_lo q < 64 := by unfold own_lo; omega
theorem own_bb1 (p q : Int32) : (own_bit p &&& own_bit q) = (if own_lo p = own_lo q then own_bit q else 0) := by
  rw [own_blo p, own_blo q, own_b1 ⟨own_lo p, own_lo64 p⟩ ⟨own_lo q, own_lo64 q⟩]; simp
theorem own_bb2 (p q : Int32) : ((own_bit p ^^^ (-1 : Int64)) &&& own_bit q) = (if own_lo p = own_lo q then 0 else own_bit q) := by
  rw [own_blo p, own_blo q, own_b2 ⟨own_lo p, own_lo64 p⟩ ⟨own_lo q, own_lo64 q⟩]; simp
theorem own_bb3 (q : Int32) : ¬ own_bit q = 0 := by rw [own_blo q]; exact own_b3 ⟨own_lo q, own_lo64 q⟩
theorem own_oaL (a b c : Int64) : (a ||| b) &&& c = (a &&& c) ||| (b &&& c) := by
  apply Int64.toBitVec_inj.mp
  simp only [Int64.toBitVec_or, Int64.toBitVec_and]
  exact BitVec.and_or_distrib_right
theorem own_mext {N N2 : Nat} {f : Nat → Int64} {q : Int32} (h : N ≤ N2) : own_mem N2 (own_ext N f) q ↔ own_mem N f q := by
  unfold own_mem own_ext
  by_cases y : own_ix q < N
  · rw [if_pos y]; constructor
    · intro z; exact ⟨y, z.2⟩
    · intro z; exact ⟨by omega, z.2⟩
  · rw [if_neg y]; constructor
    · intro z; exact absurd Int64.zero_and z.2
    · intro z; exact absurd z.1 y
theorem own_mput {N : Nat} {f : Nat → Int64} {nu q : Int32} (h : own_ix nu < N) : own_mem N (own_put f nu) q ↔ (own_mem N f q ∨ q = nu) := by
  unfold own_mem own_put
  by_cases y : own_ix q = own_ix nu
  · rw [y, own_upd_at, own_oaL, Int64.or_eq_zero_iff, own_bb1]
    constructor
    · rintro ⟨-, z⟩
      by_cases w : (f (own_ix nu) &&& own_bit q) = 0
      · right
        by_cases u : own_lo nu = own_lo q
        · exact own_same y u.symm
        · exact absurd ⟨w, if_neg u⟩ z
      · exact Or.inl ⟨h, w⟩
    · rintro (z | rfl)
      · exact ⟨h, fun w => z.2 w.1⟩
      · refine ⟨h, fun w => ?_⟩
        rw [if_pos rfl] at w; exact own_bb3 _ w.2
  · rw [own_upd_ne _ _ y]
    constructor
    · intro z; exact Or.inl z
    · rintro (z | rfl)
      · exact z
      · exact absurd rfl y
theorem own_mclr {N : Nat} {f : Nat → Int64} {nu q : Int32} : own_mem N (own_clr N f nu) q ↔ (own_mem N f q ∧ ¬ q = nu) := by
  unfold own_clr
  by_cases h : own_ix nu < N
  · rw [if_pos h]; unfold own_mem
    by_cases y : own_ix q = own_ix nu
    · rw [y, own_upd_at, Int64.and_assoc, own_bb2]
      by_cases u : own_lo nu = own_lo q
      · rw [if_pos u]
        constructor
        · rintro ⟨-, z⟩; exact absurd Int64.and_zero z
        · rintro ⟨-, z⟩; exact absurd (own_same y u.symm) z
      · rw [if_neg u]
        constructor
        · intro z; exact ⟨z, fun w => u (by rw [w])⟩
        · intro z; exact z.1
    · rw [own_upd_ne _ _ y]
      constructor
      · intro z; exact ⟨z, fun w => y (by rw [w])⟩
      · intro z; exact z.1
  · rw [if_neg h]
    constructor
    · intro z; exact ⟨z, fun w => h (by rw [← w]; exact z.1)⟩
    · intro z; exact z.1
def own_F3 (av bv mb : Int32) (N2 N3 : Nat) (f3 : Nat → Int64) : Prop := (mb = 0 ∧ N3 = N2 ∧ f3 = own_clr N2 (own_put (own_ext 1 (fun _ => (0 : Int64))) av) bv) ∨ (¬ mb = 0 ∧ own_ix bv < N3 ∧ N2 ≤ N3 ∧ f3 = own_put (own_ext N2 (own_put (own_ext 1 (fun _ => (0 : Int64))) av)) bv)
theorem own_main {x0 y0 fl av bv mb q : Int32} {N2 N3 : Nat} {f3 : Nat → Int64} (hav : av = (x0 &&& (65535 : Int32))) (hbv : bv = (y0 &&& (65535 : Int32))) (hmb : mb = (if (fl &&& (1 : Int32)) = (0 : Int32) then (0 : Int32) else (1 : Int32)))
    (hi : own_ix av < N2) (hn : 1 ≤ N2) (hb : N3 ≤ 1024) (hf : own_F3 av bv mb N2 N3 f3) : own_ct N3 f3 q = (if q = bv then mb else (if q = av then (1 : Int32) else (0 : Int32))) := by
  have z0 : ¬ own_mem 1 (fun _ => (0 : Int64)) q := fun z => z.2 Int64.zero_and
  have m1 : own_mem N2 (own_put (own_ext 1 (fun _ => (0 : Int64))) av) q ↔ q = av := by
    rw [own_mput hi, own_mext hn]
    exact ⟨fun z => z.elim (fun w => absurd w z0) id, Or.inr⟩
  have mb01 : mb = 0 ∨ mb = 1 := by rw [hmb]; split <;> simp
  rcases hf with ⟨u1, rfl, rfl⟩ | ⟨u1, u2, u3, rfl⟩
  · subst u1
    rcases own_ctm (f := own_clr N3 (own_put (own_ext 1 (fun _ => (0 : Int64))) av) bv) q hb with ⟨e, w⟩ | ⟨e, w⟩
    · rw [own_mclr, m1] at w
      rw [e, if_neg w.2, if_pos w.1]
    · rw [own_mclr, m1] at w
      rw [e]
      by_cases y : q = bv
      · rw [if_pos y]
      · rw [if_neg y, if_neg (fun t => w ⟨t, y⟩)]
  · have e1 : mb = 1 := mb01.resolve_left u1
    rw [e1]
    rcases own_ctm (f := own_put (own_ext N2 (own_put (own_ext 1 (fun _ => (0 : Int64))) av)) bv) q hb with ⟨e, w⟩ | ⟨e, w⟩
    · rw [own_mput u2, own_mext u3, m1] at w
      rw [e]
      by_cases y : q = bv
      · rw [if_pos y]
      · rw [if_neg y, if_pos (w.resolve_right y)]
    · rw [own_mput u2, own_mext u3, m1] at w
      rw [e, if_neg (fun t => w (Or.inr t)), if_neg (fun t => w (Or.inl t))]
theorem d_prog_104_method_1_0 : decode prog_104_method_1_code 0 = .ok (.aload_n 0, 1) := by decide +kernel
theorem d_prog_104_method_1_1 : decode prog_104_method_1_code 1 = .ok (.invokespecial 1, 3) := by decide +kernel
theorem d_prog_104_method_1_4 : decode prog_104_method_1_code 4 = .ok (.aload_n 0, 1) := by decide +kernel
theorem d_prog_104_method_1_5 : decode prog_104_method_1_code 5 = .ok (.iconst 1, 1) := by decide +kernel
theorem d_prog_104_method_1_6 : decode prog_104_method_1_code 6 = .ok (.newarray .long, 2) := by decide +kernel
theorem d_prog_104_method_1_8 : decode prog_104_method_1_code 8 = .ok (.putfield 7, 3) := by decide +kernel
theorem d_prog_104_method_1_11 : decode prog_104_method_1_code 11 = .ok (.aload_n 0, 1) := by decide +kernel
theorem d_prog_104_method_1_12 : decode prog_104_method_1_code 12 = .ok (.iconst 1, 1) := by decide +kernel
theorem d_prog_104_method_1_13 : decode prog_104_method_1_code 13 = .ok (.newarray .long, 2) := by decide +kernel
theorem d_prog_104_method_1_15 : decode prog_104_method_1_code 15 = .ok (.putfield 13, 3) := by decide +kernel
theorem d_prog_104_method_1_18 : decode prog_104_method_1_code 18 = .ok (.return_, 1) := by decide +kernel
def Q_rm_new (Z : State) (a : Addr) (h0 : Heap) (n0 : Nat) (v : Option Value) (h : Heap) (L : List Loc) : Prop := v = none ∧ Fr n0 L ∧ h0.size ≤ h.size ∧ ∃ ws sm : Addr, own_NS Z n0 h a ws sm 1 1 (fun _ => (0 : Int64)) (fun _ => (0 : Int64))
theorem ef_rm_new (m : MethodId) (a : Addr) : entryFrame m #[(.ref a)] 1 = mkF m 0 #[.val (.ref a)] [] := by first | (simp [entryFrame, mkF, argsToLocals, Value.category]; done) | rfl
theorem pn_11 : plainName "com/example/cutset/cutset/search/NumberSet" = true := by first | (simp [plainName, overriddenIn]; done) | decide +kernel
set_option maxRecDepth 65536 in
set_option maxHeartbeats 40000000 in
theorem rm_new (l : Launch) (Z : State) (a0 : Array Value) (hw : ∀ d ∈ tables_1, d.before a0 Z = true) (zws : List Jvm.Cond) (a : Addr) (h0 : Heap) (n0 : Nat) (Z0 : n0 ≤ h0.size) (E_a : Exa Z h0 a "com/example/cutset/cutset/search/NumberSet") (g_a : n0 ≤ a) (F_w : Fld Z h0 a "com/example/cutset/cutset/search/NumberSet" "words" "[J" .null) (F_s : Fld Z h0 a "com/example/cutset/cutset/search/NumberSet" "summary" "[J" .null) :
    MetFree l (⟨"com/example/cutset/cutset/search/NumberSet", "<init>", "()V"⟩ : MethodName) (head1 (Jvm.Cond.code (⟨"com/example/cutset/cutset/search/NumberSet", "<init>", "()V"⟩ : MethodName) prog_104_method_1_code 1 none :: zws) ({ frames := 1, cells := 2, slots := 2, locals := 12 } : Room)) (fun zA zU => zA = #[(.ref a)] ∧ Z.Warmed39 zU.vm ∧ zU.heap = h0) (fun _ _ _ _ _ => True) (fun _ zU zo zW => ∃ zv zL, zo = .returned zv ∧ (Q_rm_new Z a h0 n0) zv zW.heap zL ∧ FrameEnd zU zo zW zL ({ frames := 1, cells := 2, slots := 2, locals := 12 } : Room).cells ({ frames := 1, cells := 2, slots := 2, locals := 12 } : Room).slots) := by
  refine MetFree.of_bodySF (plainFor_of_name pn_11) hisR ?_
  intro p e s m args below meth c s₁ Bd hml0 hP hK
  obtain ⟨rfl, hZ, hh⟩ := hP
  have hx := Bd.exec
  have hby := Bd.bytes
  have hml : c.maxLocals = 1 := hml0
  have hown : s.vm.findClass "com/example/cutset/cutset/search/NumberSet" = some m.cls := findClass_of_methodNamed Bd.named
  have hnm := (name_of_methodNamed Bd.named Bd.method).1
  have X0 : Stand p l e ({ frames := 1, cells := 2, slots := 2, locals := 12 } : Room) s m #[(.ref a)] below meth c s₁ [] 0 0 := Stand.of_body Bd
  have e0 : s₁.heap = h0 := by rw [← hh, Bd.state]; rfl
  have N0 := Fr.nil n0
  refine own_out (Q := Q_rm_new Z a h0 n0) ?_
  refine own_cast (ef_rm_new m a) ?_
  show own_Go p.tables e below (s₁.setTop (mkF m 0 #[.val (.ref a)] [])) _
  refine own_by (fun zt zk => XS.aloadN X0.here hx rfl (hb hby d_prog_104_method_1_0) rfl rfl zk) ?_
  show own_Go p.tables e below (s₁.setTop (mkF m 1 #[.val (.ref a)] [(.ref a)])) _
  obtain ⟨T1, X1, e1, st1⟩ := initO X0 hx hZ hown (hw _ (List.mem_of_getElem? (i := 7) rfl)) (hw _ (List.mem_of_getElem? (i := 8) rfl)) (hw _ (List.mem_of_getElem? (i := 9) rfl)) e0 (g := (mkF m 1 #[.val (.ref a)] [(.ref a)])) rfl (by rw [hml]; rfl) rfl (hb hby d_prog_104_method_1_1) (by decide) (W := 0) (by show 2 * 0 + _ ≤ _; exact Nat.le_of_eq rfl) (by decide)
  refine own_by (st1) ?_
  show own_Go p.tables e below (T1.setTop (mkF m 4 #[.val (.ref a)] [])) _
  refine own_by (fun zt zk => XS.aloadN X1.here hx rfl (hb hby d_prog_104_method_1_4) rfl rfl zk) ?_
  show own_Go p.tables e below (T1.setTop (mkF m 5 #[.val (.ref a)] [(.ref a)])) _
  refine own_by (fun zt zk => XS.iconst X1.here hx rfl (hb hby d_prog_104_method_1_5) zk) ?_
  show own_Go p.tables e below (T1.setTop (mkF m 6 #[.val (.ref a)] [(.int (1 : Int32)), (.ref a)])) _
  obtain ⟨T2, hea2, k2, X2, e2, E2, A2, EX2, st2⟩ := newPE X1 hx hZ (hw _ (List.mem_of_getElem? (i := 10) rfl)) e1 (g := (mkF m 6 #[.val (.ref a)] [(.int (1 : Int32)), (.ref a)])) rfl (hb hby d_prog_104_method_1_6) rfl (by decide) (cap := 1) (by decide) (by decide) (by decide) (by decide) (ad := "[J") (by decide)
  obtain ⟨ws, g2⟩ : ∃ z, z = h0.size := ⟨_, rfl⟩
  rw [← g2] at A2 EX2 st2
  have ne_ws_a : ws ≠ a := Nat.ne_of_gt (g2 ▸ (E_a).lt)
  have sz_ws : h0.size ≤ ws := Nat.le_trans (Nat.le_refl h0.size) (Nat.le_of_eq g2.symm)
  have K2 : h0.size ≤ hea2.size := Nat.le_trans (Nat.le_refl h0.size) E2.1
  refine own_by (st2) ?_
  have V2 : own_AJ Z hea2 ws 1 (fun _ => (0 : Int64)) := own_AF.new A2 rfl
  show own_Go p.tables e below (T2.setTop (mkF m 8 #[.val (.ref a)] [(.ref ws), (.ref a)])) _
  obtain ⟨T3, hea3, X3, e3, W3, st3⟩ := putF X2 hx hZ hown (host := "") (Or.inl (hw _ (List.mem_of_getElem? (i := 11) rfl))) Via.refl e2 (F_w.ext E2) (E_a.ext E2) (Or.inl (hw _ (List.mem_of_getElem? (i := 12) rfl))) (hw _ (List.mem_of_getElem? (i := 2) rfl)) (ty := (.array .long)) (by decide) rfl rfl (g := (mkF m 8 #[.val (.ref a)] [(.ref ws), (.ref a)])) rfl rfl (hb hby d_prog_104_method_1_8)
  have Fw3 := ((F_w.ext E2)).same W3
  have N3 := Fr.snoc X3 N0 g_a
  have K3 : h0.size ≤ hea3.size := Nat.le_trans K2 (Nat.le_of_eq W3.size.symm)
  refine own_by (st3) ?_
  show own_Go p.tables e below (T3.setTop (mkF m 11 #[.val (.ref a)] [])) _
  refine own_by (fun zt zk => XS.aloadN X3.here hx rfl (hb hby d_prog_104_method_1_11) rfl rfl zk) ?_
  show own_Go p.tables e below (T3.setTop (mkF m 12 #[.val (.ref a)] [(.ref a)])) _
  refine own_by (fun zt zk => XS.iconst X3.here hx rfl (hb hby d_prog_104_method_1_12) zk) ?_
  show own_Go p.tables e below (T3.setTop (mkF m 13 #[.val (.ref a)] [(.int (1 : Int32)), (.ref a)])) _
  obtain ⟨T4, hea4, k4, X4, e4, E4, A4, EX4, st4⟩ := newPE X3 hx hZ (hw _ (List.mem_of_getElem? (i := 10) rfl)) e3 (g := (mkF m 13 #[.val (.ref a)] [(.int (1 : Int32)), (.ref a)])) rfl (hb hby d_prog_104_method_1_13) rfl (by decide) (cap := 1) (by decide) (by decide) (by decide) (by decide) (ad := "[J") (by decide)
  obtain ⟨sm, g4⟩ : ∃ z, z = hea3.size := ⟨_, rfl⟩
  rw [← g4] at A4 EX4 st4
  have ne_sm_a : sm ≠ a := Nat.ne_of_gt (g4 ▸ (((E_a.ext E2).wr W3)).lt)
  have ne_sm_ws : sm ≠ ws := Nat.ne_of_gt (g4 ▸ ((EX2.wr W3)).lt)
  have sz_sm : h0.size ≤ sm := Nat.le_trans K3 (Nat.le_of_eq g4.symm)
  have K4 : h0.size ≤ hea4.size := Nat.le_trans K3 E4.1
  refine own_by (st4) ?_
  have V4 : own_AJ Z hea4 sm 1 (fun _ => (0 : Int64)) := own_AF.new A4 rfl
  show own_Go p.tables e below (T4.setTop (mkF m 15 #[.val (.ref a)] [(.ref sm), (.ref a)])) _
  have c6 := (((F_s.ext E2).other W3 (Or.inr (slot_ne (Or.inl (hw _ (List.mem_of_getElem? (i := 14) rfl))) (Or.inl (hw _ (List.mem_of_getElem? (i := 12) rfl))) (by decide) (t := (.array .long)) (t' := (.array .long)) (by decide) (by decide)))).ext E4)
  obtain ⟨T5, hea5, X5, e5, W5, st5⟩ := putF X4 hx hZ hown (host := "") (Or.inl (hw _ (List.mem_of_getElem? (i := 13) rfl))) Via.refl e4 c6 (((E_a.ext E2).wr W3).ext E4) (Or.inl (hw _ (List.mem_of_getElem? (i := 14) rfl))) (hw _ (List.mem_of_getElem? (i := 2) rfl)) (ty := (.array .long)) (by decide) rfl rfl (g := (mkF m 15 #[.val (.ref a)] [(.ref sm), (.ref a)])) rfl rfl (hb hby d_prog_104_method_1_15)
  have Fw5 := (c6).same W5
  have N5 := Fr.snoc X5 N3 g_a
  have K5 : h0.size ≤ hea5.size := Nat.le_trans K4 (Nat.le_of_eq W5.size.symm)
  refine own_by (st5) ?_
  show own_Go p.tables e below (T5.setTop (mkF m 18 #[.val (.ref a)] [])) _
  have c7 := ((Fw3.ext E4).other W5 (Or.inr (slot_ne (Or.inl (hw _ (List.mem_of_getElem? (i := 12) rfl))) (Or.inl (hw _ (List.mem_of_getElem? (i := 14) rfl))) (by decide) (t := (.array .long)) (t' := (.array .long)) (by decide) (by decide))))
  exact own_retV X5 hx Bd.notSynchronized Bd.returns (hb hby d_prog_104_method_1_18) (by (try rw [e5]); exact ⟨rfl, N5, K5, _, _, ⟨((((E_a.ext E2).wr W3).ext E4).wr W5), c7, Fw5, (((V2.other W3 ne_ws_a).ext E4).other W5 ne_ws_a), (((EX2.wr W3).ext E4).wr W5), (V4.other W5 ne_sm_a), (EX4.wr W5), g_a, (Nat.le_trans Z0 sz_ws), (Nat.le_trans Z0 sz_sm), (Ne.symm ne_ws_a), (Ne.symm ne_sm_a), (Ne.symm ne_sm_ws), (by decide), (by decide), (by decide), (by decide)⟩⟩) (by decide) (by decide)
theorem d_prog_104_method_2_0 : decode prog_104_method_2_code 0 = .ok (.iload_n 1, 1) := by decide +kernel
theorem d_prog_104_method_2_1 : decode prog_104_method_2_code 1 = .ok (.bipush 6, 2) := by decide +kernel
theorem d_prog_104_method_2_3 : decode prog_104_method_2_code 3 = .ok (.iushr, 1) := by decide +kernel
theorem d_prog_104_method_2_4 : decode prog_104_method_2_code 4 = .ok (.istore_n 2, 1) := by decide +kernel
theorem d_prog_104_method_2_5 : decode prog_104_method_2_code 5 = .ok (.iload_n 2, 1) := by decide +kernel
theorem d_prog_104_method_2_6 : decode prog_104_method_2_code 6 = .ok (.aload_n 0, 1) := by decide +kernel
theorem d_prog_104_method_2_7 : decode prog_104_method_2_code 7 = .ok (.getfield 7, 3) := by decide +kernel
theorem d_prog_104_method_2_10 : decode prog_104_method_2_code 10 = .ok (.arraylength, 1) := by decide +kernel
theorem d_prog_104_method_2_11 : decode prog_104_method_2_code 11 = .ok (.if_icmp .ge 22, 3) := by decide +kernel
theorem d_prog_104_method_2_14 : decode prog_104_method_2_code 14 = .ok (.aload_n 0, 1) := by decide +kernel
theorem d_prog_104_method_2_15 : decode prog_104_method_2_code 15 = .ok (.getfield 7, 3) := by decide +kernel
theorem d_prog_104_method_2_18 : decode prog_104_method_2_code 18 = .ok (.iload_n 2, 1) := by decide +kernel
theorem d_prog_104_method_2_19 : decode prog_104_method_2_code 19 = .ok (.laload, 1) := by decide +kernel
theorem d_prog_104_method_2_20 : decode prog_104_method_2_code 20 = .ok (.lconst 1, 1) := by decide +kernel
theorem d_prog_104_method_2_21 : decode prog_104_method_2_code 21 = .ok (.iload_n 1, 1) := by decide +kernel
theorem d_prog_104_method_2_22 : decode prog_104_method_2_code 22 = .ok (.lshl, 1) := by decide +kernel
theorem d_prog_104_method_2_23 : decode prog_104_method_2_code 23 = .ok (.land, 1) := by decide +kernel
theorem d_prog_104_method_2_24 : decode prog_104_method_2_code 24 = .ok (.lconst 0, 1) := by decide +kernel
theorem d_prog_104_method_2_25 : decode prog_104_method_2_code 25 = .ok (.lcmp, 1) := by decide +kernel
theorem d_prog_104_method_2_26 : decode prog_104_method_2_code 26 = .ok (.ifCond .eq 7, 3) := by decide +kernel
theorem d_prog_104_method_2_33 : decode prog_104_method_2_code 33 = .ok (.iconst 0, 1) := by decide +kernel
theorem d_prog_104_method_2_29 : decode prog_104_method_2_code 29 = .ok (.iconst 1, 1) := by decide +kernel
theorem d_prog_104_method_2_30 : decode prog_104_method_2_code 30 = .ok (.goto 4, 3) := by decide +kernel
theorem d_prog_104_method_2_34 : decode prog_104_method_2_code 34 = .ok (.ireturn, 1) := by decide +kernel
theorem ef_rm_ct (m : MethodId) (a : Addr) (q : Int32) : entryFrame m #[(.ref a), (.int q)] 3 = mkF m 0 #[.val (.ref a), .val (.int q), .unset] [] := by first | (simp [entryFrame, mkF, argsToLocals, Value.category]; done) | rfl
set_option maxRecDepth 65536 in
set_option maxHeartbeats 40000000 in
theorem rm_ct (l : Launch) (Z : State) (a0 : Array Value) (hw : ∀ d ∈ tables_1, d.before a0 Z = true) (zws : List Jvm.Cond) (a : Addr) (q : Int32) (ws sm : Addr) (N M : Nat) (f g : Nat → Int64) (h0 : Heap) (n0 : Nat) (Z0 : n0 ≤ h0.size) (NS0 : own_NS Z n0 h0 a ws sm N M f g) :
    MetFree l (⟨"com/example/cutset/cutset/search/NumberSet", "contains", "(I)Z"⟩ : MethodName) (head1 (Jvm.Cond.code (⟨"com/example/cutset/cutset/search/NumberSet", "contains", "(I)Z"⟩ : MethodName) prog_104_method_2_code 3 (some .boolean) :: zws) ({ frames := 0, cells := 0, slots := 0, locals := 0 } : Room)) (fun zA zU => zA = #[(.ref a), (.int q)] ∧ Z.Warmed39 zU.vm ∧ zU.heap = h0) (fun _ _ _ _ _ => True) (fun _ zU zo zW => ∃ zv zL, zo = .returned zv ∧ (own_QI h0 n0 (own_ct N f q)) zv zW.heap zL ∧ FrameEnd zU zo zW zL ({ frames := 0, cells := 0, slots := 0, locals := 0 } : Room).cells ({ frames := 0, cells := 0, slots := 0, locals := 0 } : Room).slots) := by
  refine MetFree.of_bodySF (plainFor_of_name pn_11) hisR ?_
  intro p e s m args below meth c s₁ Bd hml0 hP hK
  obtain ⟨rfl, hZ, hh⟩ := hP
  have hx := Bd.exec
  have hby := Bd.bytes
  have hml : c.maxLocals = 3 := hml0
  have hown : s.vm.findClass "com/example/cutset/cutset/search/NumberSet" = some m.cls := findClass_of_methodNamed Bd.named
  have hnm := (name_of_methodNamed Bd.named Bd.method).1
  have X0 : Stand p l e ({ frames := 0, cells := 0, slots := 0, locals := 0 } : Room) s m #[(.ref a), (.int q)] below meth c s₁ [] 0 0 := Stand.of_body Bd
  have e0 : s₁.heap = h0 := by rw [← hh, Bd.state]; rfl
  have N0 := Fr.nil n0
  refine own_out (Q := own_QI h0 n0 (own_ct N f q)) ?_
  refine own_cast (ef_rm_ct m a q) ?_
  show own_Go p.tables e below (s₁.setTop (mkF m 0 #[.val (.ref a), .val (.int q), .unset] [])) _
  obtain ⟨kE, kFw, kFs, kAw, kEw, kAs, kEs, kga, kgw, kgs, kn1, kn2, kn3, kb1, kb2, kb3, kb4⟩ := NS0
  show own_Go p.tables e below (s₁.setTop (mkF m 0 #[.val (.ref a), .val (.int q), .unset] [])) _
  refine own_by (fun zt zk => XS.iloadN X0.here hx rfl (hb hby d_prog_104_method_2_0) rfl zk) ?_
  show own_Go p.tables e below (s₁.setTop (mkF m 1 #[.val (.ref a), .val (.int q), .unset] [(.int q)])) _
  refine own_by (fun zt zk => XS.bipush X0.here hx rfl (hb hby d_prog_104_method_2_1) zk) ?_
  show own_Go p.tables e below (s₁.setTop (mkF m 3 #[.val (.ref a), .val (.int q), .unset] [(.int (6 : Int32)), (.int q)])) _
  refine own_by (fun zt zk => XS.iushr X0.here hx rfl (hb hby d_prog_104_method_2_3) rfl zk) ?_
  show own_Go p.tables e below (s₁.setTop (mkF m 4 #[.val (.ref a), .val (.int q), .unset] [(.int ((q.toUInt32 >>> ((6 : Int32) &&& 31).toUInt32).toInt32))])) _
  obtain ⟨ix, hix⟩ : ∃ z, z = ((q.toUInt32 >>> ((6 : Int32) &&& 31).toUInt32).toInt32) := ⟨_, rfl⟩
  rw [← hix]
  show own_Go p.tables e below (s₁.setTop (mkF m 4 #[.val (.ref a), .val (.int q), .unset] [(.int ix)])) _
  refine own_by (fun zt zk => XS.istoreN X0.here hx rfl (hb hby d_prog_104_method_2_4) rfl (l' := #[.val (.ref a), .val (.int q), .val (.int ix)]) rfl zk) ?_
  show own_Go p.tables e below (s₁.setTop (mkF m 5 #[.val (.ref a), .val (.int q), .val (.int ix)] [])) _
  refine own_by (fun zt zk => XS.iloadN X0.here hx rfl (hb hby d_prog_104_method_2_5) rfl zk) ?_
  show own_Go p.tables e below (s₁.setTop (mkF m 6 #[.val (.ref a), .val (.int q), .val (.int ix)] [(.int ix)])) _
  refine own_by (fun zt zk => XS.aloadN X0.here hx rfl (hb hby d_prog_104_method_2_6) rfl rfl zk) ?_
  show own_Go p.tables e below (s₁.setTop (mkF m 7 #[.val (.ref a), .val (.int q), .val (.int ix)] [(.ref a), (.int ix)])) _
  obtain ⟨T1, X1, e1, st1⟩ := getF X0 hx hZ hown (host := "") (Or.inl (hw _ (List.mem_of_getElem? (i := 11) rfl))) Via.refl e0 kFw (g := (mkF m 7 #[.val (.ref a), .val (.int q), .val (.int ix)] [(.ref a), (.int ix)])) rfl rfl (hb hby d_prog_104_method_2_7)
  refine own_by (st1) ?_
  show own_Go p.tables e below (T1.setTop (mkF m 10 #[.val (.ref a), .val (.int q), .val (.int ix)] [(.ref ws), (.int ix)])) _
  refine own_by (own_len X1 hx hZ e1 kAw (z := (Int32.ofNat N)) rfl (g := (mkF m 10 #[.val (.ref a), .val (.int q), .val (.int ix)] [(.ref ws), (.int ix)])) rfl rfl (hb hby d_prog_104_method_2_10)) ?_
  show own_Go p.tables e below (T1.setTop (mkF m 11 #[.val (.ref a), .val (.int q), .val (.int ix)] [(.int (Int32.ofNat N)), (.int ix)])) _
  by_cases h1 : ix < (Int32.ofNat N)
  · refine own_by (fun zt zk => XS.icmpNo X1.here hx rfl (hb hby d_prog_104_method_2_11) rfl (tlt h1).2.1 zk) ?_
    show own_Go p.tables e below (T1.setTop (mkF m 14 #[.val (.ref a), .val (.int q), .val (.int ix)] [])) _
    obtain ⟨i0, ik, il⟩ := own_ixq hix (Nat.le_trans kb2 (by decide)) h1
    refine own_by (fun zt zk => XS.aloadN X1.here hx rfl (hb hby d_prog_104_method_2_14) rfl rfl zk) ?_
    show own_Go p.tables e below (T1.setTop (mkF m 15 #[.val (.ref a), .val (.int q), .val (.int ix)] [(.ref a)])) _
    obtain ⟨T2, X2, e2, st2⟩ := getF X1 hx hZ hown (host := "") (Or.inl (hw _ (List.mem_of_getElem? (i := 11) rfl))) Via.refl e1 kFw (g := (mkF m 15 #[.val (.ref a), .val (.int q), .val (.int ix)] [(.ref a)])) rfl rfl (hb hby d_prog_104_method_2_15)
    refine own_by (st2) ?_
    show own_Go p.tables e below (T2.setTop (mkF m 18 #[.val (.ref a), .val (.int q), .val (.int ix)] [(.ref ws)])) _
    refine own_by (fun zt zk => XS.iloadN X2.here hx rfl (hb hby d_prog_104_method_2_18) rfl zk) ?_
    show own_Go p.tables e below (T2.setTop (mkF m 19 #[.val (.ref a), .val (.int q), .val (.int ix)] [(.int ix), (.ref ws)])) _
    refine own_by (own_ldJ X2 hx hZ e2 kAw (j := ix) (k := (own_ix q)) i0 ik il (g := (mkF m 19 #[.val (.ref a), .val (.int q), .val (.int ix)] [(.int ix), (.ref ws)])) rfl rfl (hb hby d_prog_104_method_2_19)) ?_
    show own_Go p.tables e below (T2.setTop (mkF m 20 #[.val (.ref a), .val (.int q), .val (.int ix)] [(.long (f (own_ix q)))])) _
    refine own_by (fun zt zk => XS.lconst X2.here hx rfl (hb hby d_prog_104_method_2_20) zk) ?_
    show own_Go p.tables e below (T2.setTop (mkF m 21 #[.val (.ref a), .val (.int q), .val (.int ix)] [(.long (1 : Int64)), (.long (f (own_ix q)))])) _
    refine own_by (fun zt zk => XS.iloadN X2.here hx rfl (hb hby d_prog_104_method_2_21) rfl zk) ?_
    show own_Go p.tables e below (T2.setTop (mkF m 22 #[.val (.ref a), .val (.int q), .val (.int ix)] [(.int q), (.long (1 : Int64)), (.long (f (own_ix q)))])) _
    refine own_by (fun zt zk => XS.lshl X2.here hx rfl (hb hby d_prog_104_method_2_22) rfl zk) ?_
    show own_Go p.tables e below (T2.setTop (mkF m 23 #[.val (.ref a), .val (.int q), .val (.int ix)] [(.long ((1 : Int64) <<< (q &&& 0x3f).toInt64)), (.long (f (own_ix q)))])) _
    refine own_by (fun zt zk => XS.land X2.here hx rfl (hb hby d_prog_104_method_2_23) rfl zk) ?_
    show own_Go p.tables e below (T2.setTop (mkF m 24 #[.val (.ref a), .val (.int q), .val (.int ix)] [(.long ((f (own_ix q)) &&& ((1 : Int64) <<< (q &&& 0x3f).toInt64)))])) _
    refine own_by (fun zt zk => XS.lconst X2.here hx rfl (hb hby d_prog_104_method_2_24) zk) ?_
    show own_Go p.tables e below (T2.setTop (mkF m 25 #[.val (.ref a), .val (.int q), .val (.int ix)] [(.long (0 : Int64)), (.long ((f (own_ix q)) &&& ((1 : Int64) <<< (q &&& 0x3f).toInt64)))])) _
    refine own_by (fun zt zk => XS.lcmp X2.here hx rfl (hb hby d_prog_104_method_2_25) rfl zk) ?_
    show own_Go p.tables e below (T2.setTop (mkF m 26 #[.val (.ref a), .val (.int q), .val (.int ix)] [(.int (lcmpW ((f (own_ix q)) &&& ((1 : Int64) <<< (q &&& 0x3f).toInt64)) (0 : Int64)))])) _
    obtain ⟨r, hr, sj4⟩ : ∃ (r : Int32), r = (if ((f (own_ix q)) &&& ((1 : Int64) <<< (q &&& 0x3f).toInt64)) = (0 : Int64) then (0 : Int32) else (1 : Int32)) ∧ ∀ zt, Steps p.tables e below (T2.setTop (mkF m 34 #[.val (.ref a), .val (.int q), .val (.int ix)] [(.int r)])) zt → Steps p.tables e below (T2.setTop (mkF m 26 #[.val (.ref a), .val (.int q), .val (.int ix)] [(.int (lcmpW ((f (own_ix q)) &&& ((1 : Int64) <<< (q &&& 0x3f).toInt64)) (0 : Int64)))])) zt := by
      by_cases j3 : ((f (own_ix q)) &&& ((1 : Int64) <<< (q &&& 0x3f).toInt64)) = (0 : Int64)
      · refine ⟨((0 : Int32)), (if_pos j3).symm, fun zt zk => ?_⟩
        show Steps p.tables e below (T2.setTop (mkF m 26 #[.val (.ref a), .val (.int q), .val (.int ix)] [(.int (lcmpW ((f (own_ix q)) &&& ((1 : Int64) <<< (q &&& 0x3f).toInt64)) (0 : Int64)))])) _
        refine XS.ifYes X2.here hx rfl (pc0 := 26) (pc' := 33) rfl (hb hby d_prog_104_method_2_26) rfl ((if0 _ _).trans (teq ((lw_eq ((f (own_ix q)) &&& ((1 : Int64) <<< (q &&& 0x3f).toInt64)) (0 : Int64)).mpr j3)).1) (by decide) (by decide) ?_
        show Steps p.tables e below (T2.setTop (mkF m 33 #[.val (.ref a), .val (.int q), .val (.int ix)] [])) _
        refine XS.iconst X2.here hx rfl (hb hby d_prog_104_method_2_33) ?_
        show Steps p.tables e below (T2.setTop (mkF m 34 #[.val (.ref a), .val (.int q), .val (.int ix)] [(.int (0 : Int32))])) _
        exact zk
      · refine ⟨((1 : Int32)), (if_neg j3).symm, fun zt zk => ?_⟩
        show Steps p.tables e below (T2.setTop (mkF m 26 #[.val (.ref a), .val (.int q), .val (.int ix)] [(.int (lcmpW ((f (own_ix q)) &&& ((1 : Int64) <<< (q &&& 0x3f).toInt64)) (0 : Int64)))])) _
        refine XS.ifNo X2.here hx rfl (hb hby d_prog_104_method_2_26) rfl ((if0 _ _).trans (feq (fun zq => j3 ((lw_eq ((f (own_ix q)) &&& ((1 : Int64) <<< (q &&& 0x3f).toInt64)) (0 : Int64)).mp zq))).1) ?_
        show Steps p.tables e below (T2.setTop (mkF m 29 #[.val (.ref a), .val (.int q), .val (.int ix)] [])) _
        refine XS.iconst X2.here hx rfl (hb hby d_prog_104_method_2_29) ?_
        show Steps p.tables e below (T2.setTop (mkF m 30 #[.val (.ref a), .val (.int q), .val (.int ix)] [(.int (1 : Int32))])) _
        refine XS.goto X2.here hx rfl (pc0 := 30) (pc' := 34) rfl (hb hby d_prog_104_method_2_30) (by decide) (by decide) ?_
        show Steps p.tables e below (T2.setTop (mkF m 34 #[.val (.ref a), .val (.int q), .val (.int ix)] [(.int (1 : Int32))])) _
        exact zk
    refine own_by (sj4) ?_
    show own_Go p.tables e below (T2.setTop (mkF m 34 #[.val (.ref a), .val (.int q), .val (.int ix)] [(.int r)])) _
    exact own_retN X2 hx Bd.notSynchronized (t := .boolean) Bd.returns (by simp) (own_nb (by rw [hr]; (repeat' split) <;> first | exact Or.inl rfl | exact Or.inr rfl)) (hb hby d_prog_104_method_2_34) (by (try rw [e2]); exact ⟨_, rfl, N0, rfl, by rw [hr]; exact (own_ct1 hix h1).symm⟩) (by decide) (by decide)
  · refine own_by (fun zt zk => XS.icmpYes X1.here hx rfl (pc0 := 11) (pc' := 33) rfl (hb hby d_prog_104_method_2_11) rfl (flt h1).2.1 (by decide) (by decide) zk) ?_
    show own_Go p.tables e below (T1.setTop (mkF m 33 #[.val (.ref a), .val (.int q), .val (.int ix)] [])) _
    refine own_by (fun zt zk => XS.iconst X1.here hx rfl (hb hby d_prog_104_method_2_33) zk) ?_
    show own_Go p.tables e below (T1.setTop (mkF m 34 #[.val (.ref a), .val (.int q), .val (.int ix)] [(.int (0 : Int32))])) _
    exact own_retN X1 hx Bd.notSynchronized (t := .boolean) Bd.returns (by simp) (by decide) (hb hby d_prog_104_method_2_34) (by (try rw [e1]); exact ⟨_, rfl, N0, rfl, (own_ct0 hix h1).symm⟩) (by decide) (by decide)
theorem d_jdk_33_method_47_0 : decode jdk_33_method_47_code 0 = .ok (.iload_n 0, 1) := by decide +kernel
theorem d_jdk_33_method_47_1 : decode jdk_33_method_47_code 1 = .ok (.ifCond .gt 14, 3) := by decide +kernel
theorem d_jdk_33_method_47_15 : decode jdk_33_method_47_code 15 = .ok (.bipush 31, 2) := by decide +kernel
theorem d_jdk_33_method_47_17 : decode jdk_33_method_47_code 17 = .ok (.istore_n 1, 1) := by decide +kernel
theorem d_jdk_33_method_47_18 : decode jdk_33_method_47_code 18 = .ok (.iload_n 0, 1) := by decide +kernel
theorem d_jdk_33_method_47_19 : decode jdk_33_method_47_code 19 = .ok (.ldc_w 264, 3) := by decide +kernel
theorem d_jdk_33_method_47_22 : decode jdk_33_method_47_code 22 = .ok (.if_icmp .lt 11, 3) := by decide +kernel
theorem d_jdk_33_method_47_33 : decode jdk_33_method_47_code 33 = .ok (.iload_n 0, 1) := by decide +kernel
theorem d_jdk_33_method_47_34 : decode jdk_33_method_47_code 34 = .ok (.sipush 256, 3) := by decide +kernel
theorem d_jdk_33_method_47_37 : decode jdk_33_method_47_code 37 = .ok (.if_icmp .lt 11, 3) := by decide +kernel
theorem d_jdk_33_method_47_48 : decode jdk_33_method_47_code 48 = .ok (.iload_n 0, 1) := by decide +kernel
theorem d_jdk_33_method_47_49 : decode jdk_33_method_47_code 49 = .ok (.bipush 16, 2) := by decide +kernel
theorem d_jdk_33_method_47_51 : decode jdk_33_method_47_code 51 = .ok (.if_icmp .lt 10, 3) := by decide +kernel
theorem d_jdk_33_method_47_61 : decode jdk_33_method_47_code 61 = .ok (.iload_n 0, 1) := by decide +kernel
theorem d_jdk_33_method_47_62 : decode jdk_33_method_47_code 62 = .ok (.iconst 4, 1) := by decide +kernel
theorem d_jdk_33_method_47_63 : decode jdk_33_method_47_code 63 = .ok (.if_icmp .lt 10, 3) := by decide +kernel
theorem d_jdk_33_method_47_66 : decode jdk_33_method_47_code 66 = .ok (.iinc 1 (-2), 3) := by decide +kernel
theorem d_jdk_33_method_47_69 : decode jdk_33_method_47_code 69 = .ok (.iload_n 0, 1) := by decide +kernel
theorem d_jdk_33_method_47_70 : decode jdk_33_method_47_code 70 = .ok (.iconst 2, 1) := by decide +kernel
theorem d_jdk_33_method_47_71 : decode jdk_33_method_47_code 71 = .ok (.iushr, 1) := by decide +kernel
theorem d_jdk_33_method_47_72 : decode jdk_33_method_47_code 72 = .ok (.istore_n 0, 1) := by decide +kernel
theorem d_jdk_33_method_47_54 : decode jdk_33_method_47_code 54 = .ok (.iinc 1 (-4), 3) := by decide +kernel
theorem d_jdk_33_method_47_57 : decode jdk_33_method_47_code 57 = .ok (.iload_n 0, 1) := by decide +kernel
theorem d_jdk_33_method_47_58 : decode jdk_33_method_47_code 58 = .ok (.iconst 4, 1) := by decide +kernel
theorem d_jdk_33_method_47_59 : decode jdk_33_method_47_code 59 = .ok (.iushr, 1) := by decide +kernel
theorem d_jdk_33_method_47_60 : decode jdk_33_method_47_code 60 = .ok (.istore_n 0, 1) := by decide +kernel
theorem d_jdk_33_method_47_40 : decode jdk_33_method_47_code 40 = .ok (.iinc 1 (-8), 3) := by decide +kernel
theorem d_jdk_33_method_47_43 : decode jdk_33_method_47_code 43 = .ok (.iload_n 0, 1) := by decide +kernel
theorem d_jdk_33_method_47_44 : decode jdk_33_method_47_code 44 = .ok (.bipush 8, 2) := by decide +kernel
theorem d_jdk_33_method_47_46 : decode jdk_33_method_47_code 46 = .ok (.iushr, 1) := by decide +kernel
theorem d_jdk_33_method_47_47 : decode jdk_33_method_47_code 47 = .ok (.istore_n 0, 1) := by decide +kernel
theorem d_jdk_33_method_47_73 : decode jdk_33_method_47_code 73 = .ok (.iload_n 1, 1) := by decide +kernel
theorem d_jdk_33_method_47_74 : decode jdk_33_method_47_code 74 = .ok (.iload_n 0, 1) := by decide +kernel
theorem d_jdk_33_method_47_75 : decode jdk_33_method_47_code 75 = .ok (.iconst 1, 1) := by decide +kernel
theorem d_jdk_33_method_47_76 : decode jdk_33_method_47_code 76 = .ok (.iushr, 1) := by decide +kernel
theorem d_jdk_33_method_47_77 : decode jdk_33_method_47_code 77 = .ok (.isub, 1) := by decide +kernel
theorem d_jdk_33_method_47_78 : decode jdk_33_method_47_code 78 = .ok (.ireturn, 1) := by decide +kernel
theorem ef_rm_nlz (m : MethodId) (p1 : Int32) : entryFrame m #[(.int p1)] 2 = mkF m 0 #[.val (.int p1), .unset] [] := by first | (simp [entryFrame, mkF, argsToLocals, Value.category]; done) | rfl
theorem pn_73 : plainName "java/lang/Integer" = true := by first | (simp [plainName, overriddenIn]; done) | decide +kernel
set_option maxRecDepth 65536 in
set_option maxHeartbeats 40000000 in
theorem rm_nlz (l : Launch) (Z : State) (a0 : Array Value) (hw : ∀ d ∈ tables_1, d.before a0 Z = true) (zws : List Jvm.Cond) (p1 : Int32) (h0 : Heap) (n0 : Nat) (Z0 : n0 ≤ h0.size) (hp0 : (0 : Int32) < p1) (hp1 : p1 < (65536 : Int32)) :
    MetFree l (⟨"java/lang/Integer", "numberOfLeadingZeros", "(I)I"⟩ : MethodName) (head1 (Jvm.Cond.code (⟨"java/lang/Integer", "numberOfLeadingZeros", "(I)I"⟩ : MethodName) jdk_33_method_47_code 2 (some .int) :: zws) ({ frames := 0, cells := 0, slots := 0, locals := 0 } : Room)) (fun zA zU => zA = #[(.int p1)] ∧ Z.Warmed39 zU.vm ∧ zU.heap = h0) (fun _ _ _ _ _ => True) (fun _ zU zo zW => ∃ zv zL, zo = .returned zv ∧ (own_QI h0 n0 (own_nlz p1)) zv zW.heap zL ∧ FrameEnd zU zo zW zL ({ frames := 0, cells := 0, slots := 0, locals := 0 } : Room).cells ({ frames := 0, cells := 0, slots := 0, locals := 0 } : Room).slots) := by
  refine MetFree.of_bodySF (plainFor_of_name pn_73) hisR ?_
  intro p e s m args below meth c s₁ Bd hml0 hP hK
  obtain ⟨rfl, hZ, hh⟩ := hP
  have hx := Bd.exec
  have hby := Bd.bytes
  have hml : c.maxLocals = 2 := hml0
  have hown : s.vm.findClass "java/lang/Integer" = some m.cls := findClass_of_methodNamed Bd.named
  have hnm := (name_of_methodNamed Bd.named Bd.method).1
  have X0 : Stand p l e ({ frames := 0, cells := 0, slots := 0, locals := 0 } : Room) s m #[(.int p1)] below meth c s₁ [] 0 0 := Stand.of_body Bd
  have e0 : s₁.heap = h0 := by rw [← hh, Bd.state]; rfl
  have N0 := Fr.nil n0
  refine own_out (Q := own_QI h0 n0 (own_nlz p1)) ?_
  refine own_cast (ef_rm_nlz m p1) ?_
  show own_Go p.tables e below (s₁.setTop (mkF m 0 #[.val (.int p1), .unset] [])) _
  refine own_by (fun zt zk => XS.iloadN X0.here hx rfl (hb hby d_jdk_33_method_47_0) rfl zk) ?_
  show own_Go p.tables e below (s₁.setTop (mkF m 1 #[.val (.int p1), .unset] [(.int p1)])) _
  refine own_by (fun zt zk => XS.ifYes X0.here hx rfl (pc0 := 1) (pc' := 15) rfl (hb hby d_jdk_33_method_47_1) rfl ((if0 _ _).trans (tlt hp0).2.2.1) (by decide) (by decide) zk) ?_
  show own_Go p.tables e below (s₁.setTop (mkF m 15 #[.val (.int p1), .unset] [])) _
  refine own_by (fun zt zk => XS.bipush X0.here hx rfl (hb hby d_jdk_33_method_47_15) zk) ?_
  show own_Go p.tables e below (s₁.setTop (mkF m 17 #[.val (.int p1), .unset] [(.int (31 : Int32))])) _
  refine own_by (fun zt zk => XS.istoreN X0.here hx rfl (hb hby d_jdk_33_method_47_17) rfl (l' := #[.val (.int p1), .val (.int (31 : Int32))]) rfl zk) ?_
  show own_Go p.tables e below (s₁.setTop (mkF m 18 #[.val (.int p1), .val (.int (31 : Int32))] [])) _
  refine own_by (fun zt zk => XS.iloadN X0.here hx rfl (hb hby d_jdk_33_method_47_18) rfl zk) ?_
  show own_Go p.tables e below (s₁.setTop (mkF m 19 #[.val (.int p1), .val (.int (31 : Int32))] [(.int p1)])) _
  refine own_by (X0.ldcwInt hx hown (mvT hZ (hw _ (List.mem_of_getElem? (i := 38) rfl))) (g := (mkF m 19 #[.val (.int p1), .val (.int (31 : Int32))] [(.int p1)])) rfl (hb hby d_jdk_33_method_47_19)) ?_
  show own_Go p.tables e below (s₁.setTop (mkF m 22 #[.val (.int p1), .val (.int (31 : Int32))] [(.int (65536 : Int32)), (.int p1)])) _
  refine own_by (fun zt zk => XS.icmpYes X0.here hx rfl (pc0 := 22) (pc' := 33) rfl (hb hby d_jdk_33_method_47_22) rfl (tlt hp1).1 (by decide) (by decide) zk) ?_
  show own_Go p.tables e below (s₁.setTop (mkF m 33 #[.val (.int p1), .val (.int (31 : Int32))] [])) _
  refine own_by (fun zt zk => XS.iloadN X0.here hx rfl (hb hby d_jdk_33_method_47_33) rfl zk) ?_
  show own_Go p.tables e below (s₁.setTop (mkF m 34 #[.val (.int p1), .val (.int (31 : Int32))] [(.int p1)])) _
  refine own_by (fun zt zk => XS.sipush X0.here hx rfl (hb hby d_jdk_33_method_47_34) zk) ?_
  show own_Go p.tables e below (s₁.setTop (mkF m 37 #[.val (.int p1), .val (.int (31 : Int32))] [(.int (256 : Int32)), (.int p1)])) _
  obtain ⟨x1, y1, hx1, hy1, sj8⟩ : ∃ (x1 : Int32) (y1 : Int32), x1 = (if p1 < (256 : Int32) then (if p1 < (16 : Int32) then (if p1 < (4 : Int32) then p1 else ((p1.toUInt32 >>> ((2 : Int32) &&& 31).toUInt32).toInt32)) else (if ((p1.toUInt32 >>> ((4 : Int32) &&& 31).toUInt32).toInt32) < (4 : Int32) then ((p1.toUInt32 >>> ((4 : Int32) &&& 31).toUInt32).toInt32) else ((((p1.toUInt32 >>> ((4 : Int32) &&& 31).toUInt32).toInt32).toUInt32 >>> ((2 : Int32) &&& 31).toUInt32).toInt32))) else (if ((p1.toUInt32 >>> ((8 : Int32) &&& 31).toUInt32).toInt32) < (16 : Int32) then (if ((p1.toUInt32 >>> ((8 : Int32) &&& 31).toUInt32).toInt32) < (4 : Int32) then ((p1.toUInt32 >>> ((8 : Int32) &&& 31).toUInt32).toInt32) else ((((p1.toUInt32 >>> ((8 : Int32) &&& 31).toUInt32).toInt32).toUInt32 >>> ((2 : Int32) &&& 31).toUInt32).toInt32)) else (if ((((p1.toUInt32 >>> ((8 : Int32) &&& 31).toUInt32).toInt32).toUInt32 >>> ((4 : Int32) &&& 31).toUInt32).toInt32) < (4 : Int32) then ((((p1.toUInt32 >>> ((8 : Int32) &&& 31).toUInt32).toInt32).toUInt32 >>> ((4 : Int32) &&& 31).toUInt32).toInt32) else ((((((p1.toUInt32 >>> ((8 : Int32) &&& 31).toUInt32).toInt32).toUInt32 >>> ((4 : Int32) &&& 31).toUInt32).toInt32).toUInt32 >>> ((2 : Int32) &&& 31).toUInt32).toInt32)))) ∧ y1 = (if p1 < (256 : Int32) then (if p1 < (16 : Int32) then (if p1 < (4 : Int32) then (31 : Int32) else ((31 : Int32) + (-2 : Int32))) else (if ((p1.toUInt32 >>> ((4 : Int32) &&& 31).toUInt32).toInt32) < (4 : Int32) then ((31 : Int32) + (-4 : Int32)) else (((31 : Int32) + (-4 : Int32)) + (-2 : Int32)))) else (if ((p1.toUInt32 >>> ((8 : Int32) &&& 31).toUInt32).toInt32) < (16 : Int32) then (if ((p1.toUInt32 >>> ((8 : Int32) &&& 31).toUInt32).toInt32) < (4 : Int32) then ((31 : Int32) + (-8 : Int32)) else (((31 : Int32) + (-8 : Int32)) + (-2 : Int32))) else (if ((((p1.toUInt32 >>> ((8 : Int32) &&& 31).toUInt32).toInt32).toUInt32 >>> ((4 : Int32) &&& 31).toUInt32).toInt32) < (4 : Int32) then (((31 : Int32) + (-8 : Int32)) + (-4 : Int32)) else ((((31 : Int32) + (-8 : Int32)) + (-4 : Int32)) + (-2 : Int32))))) ∧ ∀ zt, Steps p.tables e below (s₁.setTop (mkF m 73 #[.val (.int x1), .val (.int y1)] [])) zt → Steps p.tables e below (s₁.setTop (mkF m 37 #[.val (.int p1), .val (.int (31 : Int32))] [(.int (256 : Int32)), (.int p1)])) zt := by
    by_cases j1 : p1 < (256 : Int32)
    · by_cases j2 : p1 < (16 : Int32)
      · by_cases j3 : p1 < (4 : Int32)
        · refine ⟨(p1), ((31 : Int32)), ((if_pos j1).trans ((if_pos j2).trans (if_pos j3))).symm, ((if_pos j1).trans ((if_pos j2).trans (if_pos j3))).symm, fun zt zk => ?_⟩
          show Steps p.tables e below (s₁.setTop (mkF m 37 #[.val (.int p1), .val (.int (31 : Int32))] [(.int (256 : Int32)), (.int p1)])) _
          refine XS.icmpYes X0.here hx rfl (pc0 := 37) (pc' := 48) rfl (hb hby d_jdk_33_method_47_37) rfl (tlt j1).1 (by decide) (by decide) ?_
          show Steps p.tables e below (s₁.setTop (mkF m 48 #[.val (.int p1), .val (.int (31 : Int32))] [])) _
          refine XS.iloadN X0.here hx rfl (hb hby d_jdk_33_method_47_48) rfl ?_
          show Steps p.tables e below (s₁.setTop (mkF m 49 #[.val (.int p1), .val (.int (31 : Int32))] [(.int p1)])) _
          refine XS.bipush X0.here hx rfl (hb hby d_jdk_33_method_47_49) ?_
          show Steps p.tables e below (s₁.setTop (mkF m 51 #[.val (.int p1), .val (.int (31 : Int32))] [(.int (16 : Int32)), (.int p1)])) _
          refine XS.icmpYes X0.here hx rfl (pc0 := 51) (pc' := 61) rfl (hb hby d_jdk_33_method_47_51) rfl (tlt j2).1 (by decide) (by decide) ?_
          show Steps p.tables e below (s₁.setTop (mkF m 61 #[.val (.int p1), .val (.int (31 : Int32))] [])) _
          refine XS.iloadN X0.here hx rfl (hb hby d_jdk_33_method_47_61) rfl ?_
          show Steps p.tables e below (s₁.setTop (mkF m 62 #[.val (.int p1), .val (.int (31 : Int32))] [(.int p1)])) _
          refine XS.iconst X0.here hx rfl (hb hby d_jdk_33_method_47_62) ?_
          show Steps p.tables e below (s₁.setTop (mkF m 63 #[.val (.int p1), .val (.int (31 : Int32))] [(.int (4 : Int32)), (.int p1)])) _
          refine XS.icmpYes X0.here hx rfl (pc0 := 63) (pc' := 73) rfl (hb hby d_jdk_33_method_47_63) rfl (tlt j3).1 (by decide) (by decide) ?_
          show Steps p.tables e below (s₁.setTop (mkF m 73 #[.val (.int p1), .val (.int (31 : Int32))] [])) _
          exact zk
        · refine ⟨(((p1.toUInt32 >>> ((2 : Int32) &&& 31).toUInt32).toInt32)), (((31 : Int32) + (-2 : Int32))), ((if_pos j1).trans ((if_pos j2).trans (if_neg j3))).symm, ((if_pos j1).trans ((if_pos j2).trans (if_neg j3))).symm, fun zt zk => ?_⟩
          show Steps p.tables e below (s₁.setTop (mkF m 37 #[.val (.int p1), .val (.int (31 : Int32))] [(.int (256 : Int32)), (.int p1)])) _
          refine XS.icmpYes X0.here hx rfl (pc0 := 37) (pc' := 48) rfl (hb hby d_jdk_33_method_47_37) rfl (tlt j1).1 (by decide) (by decide) ?_
          show Steps p.tables e below (s₁.setTop (mkF m 48 #[.val (.int p1), .val (.int (31 : Int32))] [])) _
          refine XS.iloadN X0.here hx rfl (hb hby d_jdk_33_method_47_48) rfl ?_
          show Steps p.tables e below (s₁.setTop (mkF m 49 #[.val (.int p1), .val (.int (31 : Int32))] [(.int p1)])) _
          refine XS.bipush X0.here hx rfl (hb hby d_jdk_33_method_47_49) ?_
          show Steps p.tables e below (s₁.setTop (mkF m 51 #[.val (.int p1), .val (.int (31 : Int32))] [(.int (16 : Int32)), (.int p1)])) _
          refine XS.icmpYes X0.here hx rfl (pc0 := 51) (pc' := 61) rfl (hb hby d_jdk_33_method_47_51) rfl (tlt j2).1 (by decide) (by decide) ?_
          show Steps p.tables e below (s₁.setTop (mkF m 61 #[.val (.int p1), .val (.int (31 : Int32))] [])) _
          refine XS.iloadN X0.here hx rfl (hb hby d_jdk_33_method_47_61) rfl ?_
          show Steps p.tables e below (s₁.setTop (mkF m 62 #[.val (.int p1), .val (.int (31 : Int32))] [(.int p1)])) _
          refine XS.iconst X0.here hx rfl (hb hby d_jdk_33_method_47_62) ?_
          show Steps p.tables e below (s₁.setTop (mkF m 63 #[.val (.int p1), .val (.int (31 : Int32))] [(.int (4 : Int32)), (.int p1)])) _
          refine XS.icmpNo X0.here hx rfl (hb hby d_jdk_33_method_47_63) rfl (flt j3).1 ?_
          show Steps p.tables e below (s₁.setTop (mkF m 66 #[.val (.int p1), .val (.int (31 : Int32))] [])) _
          refine XS.iinc X0.here hx rfl (hb hby d_jdk_33_method_47_66) rfl (l' := #[.val (.int p1), .val (.int ((31 : Int32) + (-2 : Int32)))]) rfl ?_
          show Steps p.tables e below (s₁.setTop (mkF m 69 #[.val (.int p1), .val (.int ((31 : Int32) + (-2 : Int32)))] [])) _
          refine XS.iloadN X0.here hx rfl (hb hby d_jdk_33_method_47_69) rfl ?_
          show Steps p.tables e below (s₁.setTop (mkF m 70 #[.val (.int p1), .val (.int ((31 : Int32) + (-2 : Int32)))] [(.int p1)])) _
          refine XS.iconst X0.here hx rfl (hb hby d_jdk_33_method_47_70) ?_
          show Steps p.tables e below (s₁.setTop (mkF m 71 #[.val (.int p1), .val (.int ((31 : Int32) + (-2 : Int32)))] [(.int (2 : Int32)), (.int p1)])) _
          refine XS.iushr X0.here hx rfl (hb hby d_jdk_33_method_47_71) rfl ?_
          show Steps p.tables e below (s₁.setTop (mkF m 72 #[.val (.int p1), .val (.int ((31 : Int32) + (-2 : Int32)))] [(.int ((p1.toUInt32 >>> ((2 : Int32) &&& 31).toUInt32).toInt32))])) _
          refine XS.istoreN X0.here hx rfl (hb hby d_jdk_33_method_47_72) rfl (l' := #[.val (.int ((p1.toUInt32 >>> ((2 : Int32) &&& 31).toUInt32).toInt32)), .val (.int ((31 : Int32) + (-2 : Int32)))]) rfl ?_
          show Steps p.tables e below (s₁.setTop (mkF m 73 #[.val (.int ((p1.toUInt32 >>> ((2 : Int32) &&& 31).toUInt32).toInt32)), .val (.int ((31 : Int32) + (-2 : Int32)))] [])) _
          exact zk
      · by_cases j4 : ((p1.toUInt32 >>> ((4 : Int32) &&& 31).toUInt32).toInt32) < (4 : Int32)
        · refine ⟨(((p1.toUInt32 >>> ((4 : Int32) &&& 31).toUInt32).toInt32)), (((31 : Int32) + (-4 : Int32))), ((if_pos j1).trans ((if_neg j2).trans (if_pos j4))).symm, ((if_pos j1).trans ((if_neg j2).trans (if_pos j4))).symm, fun zt zk => ?_⟩
          show Steps p.tables e below (s₁.setTop (mkF m 37 #[.val (.int p1), .val (.int (31 : Int32))] [(.int (256 : Int32)), (.int p1)])) _
          refine XS.icmpYes X0.here hx rfl (pc0 := 37) (pc' := 48) rfl (hb hby d_jdk_33_method_47_37) rfl (tlt j1).1 (by decide) (by decide) ?_
          show Steps p.tables e below (s₁.setTop (mkF m 48 #[.val (.int p1), .val (.int (31 : Int32))] [])) _
          refine XS.iloadN X0.here hx rfl (hb hby d_jdk_33_method_47_48) rfl ?_
          show Steps p.tables e below (s₁.setTop (mkF m 49 #[.val (.int p1), .val (.int (31 : Int32))] [(.int p1)])) _
          refine XS.bipush X0.here hx rfl (hb hby d_jdk_33_method_47_49) ?_
          show Steps p.tables e below (s₁.setTop (mkF m 51 #[.val (.int p1), .val (.int (31 : Int32))] [(.int (16 : Int32)), (.int p1)])) _
          refine XS.icmpNo X0.here hx rfl (hb hby d_jdk_33_method_47_51) rfl (flt j2).1 ?_
          show Steps p.tables e below (s₁.setTop (mkF m 54 #[.val (.int p1), .val (.int (31 : Int32))] [])) _
          refine XS.iinc X0.here hx rfl (hb hby d_jdk_33_method_47_54) rfl (l' := #[.val (.int p1), .val (.int ((31 : Int32) + (-4 : Int32)))]) rfl ?_
          show Steps p.tables e below (s₁.setTop (mkF m 57 #[.val (.int p1), .val (.int ((31 : Int32) + (-4 : Int32)))] [])) _
          refine XS.iloadN X0.here hx rfl (hb hby d_jdk_33_method_47_57) rfl ?_
          show Steps p.tables e below (s₁.setTop (mkF m 58 #[.val (.int p1), .val (.int ((31 : Int32) + (-4 : Int32)))] [(.int p1)])) _
          refine XS.iconst X0.here hx rfl (hb hby d_jdk_33_method_47_58) ?_
          show Steps p.tables e below (s₁.setTop (mkF m 59 #[.val (.int p1), .val (.int ((31 : Int32) + (-4 : Int32)))] [(.int (4 : Int32)), (.int p1)])) _
          refine XS.iushr X0.here hx rfl (hb hby d_jdk_33_method_47_59) rfl ?_
          show Steps p.tables e below (s₁.setTop (mkF m 60 #[.val (.int p1), .val (.int ((31 : Int32) + (-4 : Int32)))] [(.int ((p1.toUInt32 >>> ((4 : Int32) &&& 31).toUInt32).toInt32))])) _
          refine XS.istoreN X0.here hx rfl (hb hby d_jdk_33_method_47_60) rfl (l' := #[.val (.int ((p1.toUInt32 >>> ((4 : Int32) &&& 31).toUInt32).toInt32)), .val (.int ((31 : Int32) + (-4 : Int32)))]) rfl ?_
          show Steps p.tables e below (s₁.setTop (mkF m 61 #[.val (.int ((p1.toUInt32 >>> ((4 : Int32) &&& 31).toUInt32).toInt32)), .val (.int ((31 : Int32) + (-4 : Int32)))] [])) _
          refine XS.iloadN X0.here hx rfl (hb hby d_jdk_33_method_47_61) rfl ?_
          show Steps p.tables e below (s₁.setTop (mkF m 62 #[.val (.int ((p1.toUInt32 >>> ((4 : Int32) &&& 31).toUInt32).toInt32)), .val (.int ((31 : Int32) + (-4 : Int32)))] [(.int ((p1.toUInt32 >>> ((4 : Int32) &&& 31).toUInt32).toInt32))])) _
          refine XS.iconst X0.here hx rfl (hb hby d_jdk_33_method_47_62) ?_
          show Steps p.tables e below (s₁.setTop (mkF m 63 #[.val (.int ((p1.toUInt32 >>> ((4 : Int32) &&& 31).toUInt32).toInt32)), .val (.int ((31 : Int32) + (-4 : Int32)))] [(.int (4 : Int32)), (.int ((p1.toUInt32 >>> ((4 : Int32) &&& 31).toUInt32).toInt32))])) _
          refine XS.icmpYes X0.here hx rfl (pc0 := 63) (pc' := 73) rfl (hb hby d_jdk_33_method_47_63) rfl (tlt j4).1 (by decide) (by decide) ?_
          show Steps p.tables e below (s₁.setTop (mkF m 73 #[.val (.int ((p1.toUInt32 >>> ((4 : Int32) &&& 31).toUInt32).toInt32)), .val (.int ((31 : Int32) + (-4 : Int32)))] [])) _
          exact zk
        · refine ⟨(((((p1.toUInt32 >>> ((4 : Int32) &&& 31).toUInt32).toInt32).toUInt32 >>> ((2 : Int32) &&& 31).toUInt32).toInt32)), ((((31 : Int32) + (-4 : Int32)) + (-2 : Int32))), ((if_pos j1).trans ((if_neg j2).trans (if_neg j4))).symm, ((if_pos j1).trans ((if_neg j2).trans (if_neg j4))).symm, fun zt zk => ?_⟩
          show Steps p.tables e below (s₁.setTop (mkF m 37 #[.val (.int p1), .val (.int (31 : Int32))] [(.int (256 : Int32)), (.int p1)])) _
          refine XS.icmpYes X0.here hx rfl (pc0 := 37) (pc' := 48) rfl (hb hby d_jdk_33_method_47_37) rfl (tlt j1).1 (by decide) (by decide) ?_
          show Steps p.tables e below (s₁.setTop (mkF m 48 #[.val (.int p1), .val (.int (31 : Int32))] [])) _
          refine XS.iloadN X0.here hx rfl (hb hby d_jdk_33_method_47_48) rfl ?_
          show Steps p.tables e below (s₁.setTop (mkF m 49 #[.val (.int p1), .val (.int (31 : Int32))] [(.int p1)])) _
          refine XS.bipush X0.here hx rfl (hb hby d_jdk_33_method_47_49) ?_
          show Steps p.tables e below (s₁.setTop (mkF m 51 #[.val (.int p1), .val (.int (31 : Int32))] [(.int (16 : Int32)), (.int p1)])) _
          refine XS.icmpNo X0.here hx rfl (hb hby d_jdk_33_method_47_51) rfl (flt j2).1 ?_
          show Steps p.tables e below (s₁.setTop (mkF m 54 #[.val (.int p1), .val (.int (31 : Int32))] [])) _
          refine XS.iinc X0.here hx rfl (hb hby d_jdk_33_method_47_54) rfl (l' := #[.val (.int p1), .val (.int ((31 : Int32) + (-4 : Int32)))]) rfl ?_
          show Steps p.tables e below (s₁.setTop (mkF m 57 #[.val (.int p1), .val (.int ((31 : Int32) + (-4 : Int32)))] [])) _
          refine XS.iloadN X0.here hx rfl (hb hby d_jdk_33_method_47_57) rfl ?_
          show Steps p.tables e below (s₁.setTop (mkF m 58 #[.val (.int p1), .val (.int ((31 : Int32) + (-4 : Int32)))] [(.int p1)])) _
          refine XS.iconst X0.here hx rfl (hb hby d_jdk_33_method_47_58) ?_
          show Steps p.tables e below (s₁.setTop (mkF m 59 #[.val (.int p1), .val (.int ((31 : Int32) + (-4 : Int32)))] [(.int (4 : Int32)), (.int p1)])) _
          refine XS.iushr X0.here hx rfl (hb hby d_jdk_33_method_47_59) rfl ?_
          show Steps p.tables e below (s₁.setTop (mkF m 60 #[.val (.int p1), .val (.int ((31 : Int32) + (-4 : Int32)))] [(.int ((p1.toUInt32 >>> ((4 : Int32) &&& 31).toUInt32).toInt32))])) _
          refine XS.istoreN X0.here hx rfl (hb hby d_jdk_33_method_47_60) rfl (l' := #[.val (.int ((p1.toUInt32 >>> ((4 : Int32) &&& 31).toUInt32).toInt32)), .val (.int ((31 : Int32) + (-4 : Int32)))]) rfl ?_
          show Steps p.tables e below (s₁.setTop (mkF m 61 #[.val (.int ((p1.toUInt32 >>> ((4 : Int32) &&& 31).toUInt32).toInt32)), .val (.int ((31 : Int32) + (-4 : Int32)))] [])) _
          refine XS.iloadN X0.here hx rfl (hb hby d_jdk_33_method_47_61) rfl ?_
          show Steps p.tables e below (s₁.setTop (mkF m 62 #[.val (.int ((p1.toUInt32 >>> ((4 : Int32) &&& 31).toUInt32).toInt32)), .val (.int ((31 : Int32) + (-4 : Int32)))] [(.int ((p1.toUInt32 >>> ((4 : Int32) &&& 31).toUInt32).toInt32))])) _
          refine XS.iconst X0.here hx rfl (hb hby d_jdk_33_method_47_62) ?_
          show Steps p.tables e below (s₁.setTop (mkF m 63 #[.val (.int ((p1.toUInt32 >>> ((4 : Int32) &&& 31).toUInt32).toInt32)), .val (.int ((31 : Int32) + (-4 : Int32)))] [(.int (4 : Int32)), (.int ((p1.toUInt32 >>> ((4 : Int32) &&& 31).toUInt32).toInt32))])) _
          refine XS.icmpNo X0.here hx rfl (hb hby d_jdk_33_method_47_63) rfl (flt j4).1 ?_
          show Steps p.tables e below (s₁.setTop (mkF m 66 #[.val (.int ((p1.toUInt32 >>> ((4 : Int32) &&& 31).toUInt32).toInt32)), .val (.int ((31 : Int32) + (-4 : Int32)))] [])) _
          refine XS.iinc X0.here hx rfl (hb hby d_jdk_33_method_47_66) rfl (l' := #[.val (.int ((p1.toUInt32 >>> ((4 : Int32) &&& 31).toUInt32).toInt32)), .val (.int (((31 : Int32) + (-4 : Int32)) + (-2 : Int32)))]) rfl ?_
          show Steps p.tables e below (s₁.setTop (mkF m 69 #[.val (.int ((p1.toUInt32 >>> ((4 : Int32) &&& 31).toUInt32).toInt32)), .val (.int (((31 : Int32) + (-4 : Int32)) + (-2 : Int32)))] [])) _
          refine XS.iloadN X0.here hx rfl (hb hby d_jdk_33_method_47_69) rfl ?_
          show Steps p.tables e below (s₁.setTop (mkF m 70 #[.val (.int ((p1.toUInt32 >>> ((4 : Int32) &&& 31).toUInt32).toInt32)), .val (.int (((31 : Int32) + (-4 : Int32)) + (-2 : Int32)))] [(.int ((p1.toUInt32 >>> ((4 : Int32) &&& 31).toUInt32).toInt32))])) _
          refine XS.iconst X0.here hx rfl (hb hby d_jdk_33_method_47_70) ?_
          show Steps p.tables e below (s₁.setTop (mkF m 71 #[.val (.int ((p1.toUInt32 >>> ((4 : Int32) &&& 31).toUInt32).toInt32)), .val (.int (((31 : Int32) + (-4 : Int32)) + (-2 : Int32)))] [(.int (2 : Int32)), (.int ((p1.toUInt32 >>> ((4 : Int32) &&& 31).toUInt32).toInt32))])) _
          refine XS.iushr X0.here hx rfl (hb hby d_jdk_33_method_47_71) rfl ?_
          show Steps p.tables e below (s₁.setTop (mkF m 72 #[.val (.int ((p1.toUInt32 >>> ((4 : Int32) &&& 31).toUInt32).toInt32)), .val (.int (((31 : Int32) + (-4 : Int32)) + (-2 : Int32)))] [(.int ((((p1.toUInt32 >>> ((4 : Int32) &&& 31).toUInt32).toInt32).toUInt32 >>> ((2 : Int32) &&& 31).toUInt32).toInt32))])) _
          refine XS.istoreN X0.here hx rfl (hb hby d_jdk_33_method_47_72) rfl (l' := #[.val (.int ((((p1.toUInt32 >>> ((4 : Int32) &&& 31).toUInt32).toInt32).toUInt32 >>> ((2 : Int32) &&& 31).toUInt32).toInt32)), .val (.int (((31 : Int32) + (-4 : Int32)) + (-2 : Int32)))]) rfl ?_
          show Steps p.tables e below (s₁.setTop (mkF m 73 #[.val (.int ((((p1.toUInt32 >>> ((4 : Int32) &&& 31).toUInt32).toInt32).toUInt32 >>> ((2 : Int32) &&& 31).toUInt32).toInt32)), .val (.int (((31 : Int32) + (-4 : Int32)) + (-2 : Int32)))] [])) _
          exact zk
    · by_cases j5 : ((p1.toUInt32 >>> ((8 : Int32) &&& 31).toUInt32).toInt32) < (16 : Int32)
      · by_cases j6 : ((p1.toUInt32 >>> ((8 : Int32) &&& 31).toUInt32).toInt32) < (4 : Int32)
        · refine ⟨(((p1.toUInt32 >>> ((8 : Int32) &&& 31).toUInt32).toInt32)), (((31 : Int32) + (-8 : Int32))), ((if_neg j1).trans ((if_pos j5).trans (if_pos j6))).symm, ((if_neg j1).trans ((if_pos j5).trans (if_pos j6))).symm, fun zt zk => ?_⟩
          show Steps p.tables e below (s₁.setTop (mkF m 37 #[.val (.int p1), .val (.int (31 : Int32))] [(.int (256 : Int32)), (.int p1)])) _
          refine XS.icmpNo X0.here hx rfl (hb hby d_jdk_33_method_47_37) rfl (flt j1).1 ?_
          show Steps p.tables e below (s₁.setTop (mkF m 40 #[.val (.int p1), .val (.int (31 : Int32))] [])) _
          refine XS.iinc X0.here hx rfl (hb hby d_jdk_33_method_47_40) rfl (l' := #[.val (.int p1), .val (.int ((31 : Int32) + (-8 : Int32)))]) rfl ?_
          show Steps p.tables e below (s₁.setTop (mkF m 43 #[.val (.int p1), .val (.int ((31 : Int32) + (-8 : Int32)))] [])) _
          refine XS.iloadN X0.here hx rfl (hb hby d_jdk_33_method_47_43) rfl ?_
          show Steps p.tables e below (s₁.setTop (mkF m 44 #[.val (.int p1), .val (.int ((31 : Int32) + (-8 : Int32)))] [(.int p1)])) _
          refine XS.bipush X0.here hx rfl (hb hby d_jdk_33_method_47_44) ?_
          show Steps p.tables e below (s₁.setTop (mkF m 46 #[.val (.int p1), .val (.int ((31 : Int32) + (-8 : Int32)))] [(.int (8 : Int32)), (.int p1)])) _
          refine XS.iushr X0.here hx rfl (hb hby d_jdk_33_method_47_46) rfl ?_
          show Steps p.tables e below (s₁.setTop (mkF m 47 #[.val (.int p1), .val (.int ((31 : Int32) + (-8 : Int32)))] [(.int ((p1.toUInt32 >>> ((8 : Int32) &&& 31).toUInt32).toInt32))])) _
          refine XS.istoreN X0.here hx rfl (hb hby d_jdk_33_method_47_47) rfl (l' := #[.val (.int ((p1.toUInt32 >>> ((8 : Int32) &&& 31).toUInt32).toInt32)), .val (.int ((31 : Int32) + (-8 : Int32)))]) rfl ?_
          show Steps p.tables e below (s₁.setTop (mkF m 48 #[.val (.int ((p1.toUInt32 >>> ((8 : Int32) &&& 31).toUInt32).toInt32)), .val (.int ((31 : Int32) + (-8 : Int32)))] [])) _
          refine XS.iloadN X0.here hx rfl (hb hby d_jdk_33_method_47_48) rfl ?_
          show Steps p.tables e below (s₁.setTop (mkF m 49 #[.val (.int ((p1.toUInt32 >>> ((8 : Int32) &&& 31).toUInt32).toInt32)), .val (.int ((31 : Int32) + (-8 : Int32)))] [(.int ((p1.toUInt32 >>> ((8 : Int32) &&& 31).toUInt32).toInt32))])) _
          refine XS.bipush X0.here hx rfl (hb hby d_jdk_33_method_47_49) ?_
          show Steps p.tables e below (s₁.setTop (mkF m 51 #[.val (.int ((p1.toUInt32 >>> ((8 : Int32) &&& 31).toUInt32).toInt32)), .val (.int ((31 : Int32) + (-8 : Int32)))] [(.int (16 : Int32)), (.int ((p1.toUInt32 >>> ((8 : Int32) &&& 31).toUInt32).toInt32))])) _
          refine XS.icmpYes X0.here hx rfl (pc0 := 51) (pc' := 61) rfl (hb hby d_jdk_33_method_47_51) rfl (tlt j5).1 (by decide) (by decide) ?_
          show Steps p.tables e below (s₁.setTop (mkF m 61 #[.val (.int ((p1.toUInt32 >>> ((8 : Int32) &&& 31).toUInt32).toInt32)), .val (.int ((31 : Int32) + (-8 : Int32)))] [])) _
          refine XS.iloadN X0.here hx rfl (hb hby d_jdk_33_method_47_61) rfl ?_
          show Steps p.tables e below (s₁.setTop (mkF m 62 #[.val (.int ((p1.toUInt32 >>> ((8 : Int32) &&& 31).toUInt32).toInt32)), .val (.int ((31 : Int32) + (-8 : Int32)))] [(.int ((p1.toUInt32 >>> ((8 : Int32) &&& 31).toUInt32).toInt32))])) _
          refine XS.iconst X0.here hx rfl (hb hby d_jdk_33_method_47_62) ?_
          show Steps p.tables e below (s₁.setTop (mkF m 63 #[.val (.int ((p1.toUInt32 >>> ((8 : Int32) &&& 31).toUInt32).toInt32)), .val (.int ((31 : Int32) + (-8 : Int32)))] [(.int (4 : Int32)), (.int ((p1.toUInt32 >>> ((8 : Int32) &&& 31).toUInt32).toInt32))])) _
          refine XS.icmpYes X0.here hx rfl (pc0 := 63) (pc' := 73) rfl (hb hby d_jdk_33_method_47_63) rfl (tlt j6).1 (by decide) (by decide) ?_
          show Steps p.tables e below (s₁.setTop (mkF m 73 #[.val (.int ((p1.toUInt32 >>> ((8 : Int32) &&& 31).toUInt32).toInt32)), .val (.int ((31 : Int32) + (-8 : Int32)))] [])) _
          exact zk
        · refine ⟨(((((p1.toUInt32 >>> ((8 : Int32) &&& 31).toUInt32).toInt32).toUInt32 >>> ((2 : Int32) &&& 31).toUInt32).toInt32)), ((((31 : Int32) + (-8 : Int32)) + (-2 : Int32))), ((if_neg j1).trans ((if_pos j5).trans (if_neg j6))).symm, ((if_neg j1).trans ((if_pos j5).trans (if_neg j6))).symm, fun zt zk => ?_⟩
          show Steps p.tables e below (s₁.setTop (mkF m 37 #[.val (.int p1), .val (.int (31 : Int32))] [(.int (256 : Int32)), (.int p1)])) _
          refine XS.icmpNo X0.here hx rfl (hb hby d_jdk_33_method_47_37) rfl (flt j1).1 ?_
          show Steps p.tables e below (s₁.setTop (mkF m 40 #[.val (.int p1), .val (.int (31 : Int32))] [])) _
          refine XS.iinc X0.here hx rfl (hb hby d_jdk_33_method_47_40) rfl (l' := #[.val (.int p1), .val (.int ((31 : Int32) + (-8 : Int32)))]) rfl ?_
          show Steps p.tables e below (s₁.setTop (mkF m 43 #[.val (.int p1), .val (.int ((31 : Int32) + (-8 : Int32)))] [])) _
          refine XS.iloadN X0.here hx rfl (hb hby d_jdk_33_method_47_43) rfl ?_
          show Steps p.tables e below (s₁.setTop (mkF m 44 #[.val (.int p1), .val (.int ((31 : Int32) + (-8 : Int32)))] [(.int p1)])) _
          refine XS.bipush X0.here hx rfl (hb hby d_jdk_33_method_47_44) ?_
          show Steps p.tables e below (s₁.setTop (mkF m 46 #[.val (.int p1), .val (.int ((31 : Int32) + (-8 : Int32)))] [(.int (8 : Int32)), (.int p1)])) _
          refine XS.iushr X0.here hx rfl (hb hby d_jdk_33_method_47_46) rfl ?_
          show Steps p.tables e below (s₁.setTop (mkF m 47 #[.val (.int p1), .val (.int ((31 : Int32) + (-8 : Int32)))] [(.int ((p1.toUInt32 >>> ((8 : Int32) &&& 31).toUInt32).toInt32))])) _
          refine XS.istoreN X0.here hx rfl (hb hby d_jdk_33_method_47_47) rfl (l' := #[.val (.int ((p1.toUInt32 >>> ((8 : Int32) &&& 31).toUInt32).toInt32)), .val (.int ((31 : Int32) + (-8 : Int32)))]) rfl ?_
          show Steps p.tables e below (s₁.setTop (mkF m 48 #[.val (.int ((p1.toUInt32 >>> ((8 : Int32) &&& 31).toUInt32).toInt32)), .val (.int ((31 : Int32) + (-8 : Int32)))] [])) _
          refine XS.iloadN X0.here hx rfl (hb hby d_jdk_33_method_47_48) rfl ?_
          show Steps p.tables e below (s₁.setTop (mkF m 49 #[.val (.int ((p1.toUInt32 >>> ((8 : Int32) &&& 31).toUInt32).toInt32)), .val (.int ((31 : Int32) + (-8 : Int32)))] [(.int ((p1.toUInt32 >>> ((8 : Int32) &&& 31).toUInt32).toInt32))])) _
          refine XS.bipush X0.here hx rfl (hb hby d_jdk_33_method_47_49) ?_
          show Steps p.tables e below (s₁.setTop (mkF m 51 #[.val (.int ((p1.toUInt32 >>> ((8 : Int32) &&& 31).toUInt32).toInt32)), .val (.int ((31 : Int32) + (-8 : Int32)))] [(.int (16 : Int32)), (.int ((p1.toUInt32 >>> ((8 : Int32) &&& 31).toUInt32).toInt32))])) _
          refine XS.icmpYes X0.here hx rfl (pc0 := 51) (pc' := 61) rfl (hb hby d_jdk_33_method_47_51) rfl (tlt j5).1 (by decide) (by decide) ?_
          show Steps p.tables e below (s₁.setTop (mkF m 61 #[.val (.int ((p1.toUInt32 >>> ((8 : Int32) &&& 31).toUInt32).toInt32)), .val (.int ((31 : Int32) + (-8 : Int32)))] [])) _
          refine XS.iloadN X0.here hx rfl (hb hby d_jdk_33_method_47_61) rfl ?_
          show Steps p.tables e below (s₁.setTop (mkF m 62 #[.val (.int ((p1.toUInt32 >>> ((8 : Int32) &&& 31).toUInt32).toInt32)), .val (.int ((31 : Int32) + (-8 : Int32)))] [(.int ((p1.toUInt32 >>> ((8 : Int32) &&& 31).toUInt32).toInt32))])) _
          refine XS.iconst X0.here hx rfl (hb hby d_jdk_33_method_47_62) ?_
          show Steps p.tables e below (s₁.setTop (mkF m 63 #[.val (.int ((p1.toUInt32 >>> ((8 : Int32) &&& 31).toUInt32).toInt32)), .val (.int ((31 : Int32) + (-8 : Int32)))] [(.int (4 : Int32)), (.int ((p1.toUInt32 >>> ((8 : Int32) &&& 31).toUInt32).toInt32))])) _
          refine XS.icmpNo X0.here hx rfl (hb hby d_jdk_33_method_47_63) rfl (flt j6).1 ?_
          show Steps p.tables e below (s₁.setTop (mkF m 66 #[.val (.int ((p1.toUInt32 >>> ((8 : Int32) &&& 31).toUInt32).toInt32)), .val (.int ((31 : Int32) + (-8 : Int32)))] [])) _
          refine XS.iinc X0.here hx rfl (hb hby d_jdk_33_method_47_66) rfl (l' := #[.val (.int ((p1.toUInt32 >>> ((8 : Int32) &&& 31).toUInt32).toInt32)), .val (.int (((31 : Int32) + (-8 : Int32)) + (-2 : Int32)))]) rfl ?_
          show Steps p.tables e below (s₁.setTop (mkF m 69 #[.val (.int ((p1.toUInt32 >>> ((8 : Int32) &&& 31).toUInt32).toInt32)), .val (.int (((31 : Int32) + (-8 : Int32)) + (-2 : Int32)))] [])) _
          refine XS.iloadN X0.here hx rfl (hb hby d_jdk_33_method_47_69) rfl ?_
          show Steps p.tables e below (s₁.setTop (mkF m 70 #[.val (.int ((p1.toUInt32 >>> ((8 : Int32) &&& 31).toUInt32).toInt32)), .val (.int (((31 : Int32) + (-8 : Int32)) + (-2 : Int32)))] [(.int ((p1.toUInt32 >>> ((8 : Int32) &&& 31).toUInt32).toInt32))])) _
          refine XS.iconst X0.here hx rfl (hb hby d_jdk_33_method_47_70) ?_
          show Steps p.tables e below (s₁.setTop (mkF m 71 #[.val (.int ((p1.toUInt32 >>> ((8 : Int32) &&& 31).toUInt32).toInt32)), .val (.int (((31 : Int32) + (-8 : Int32)) + (-2 : Int32)))] [(.int (2 : Int32)), (.int ((p1.toUInt32 >>> ((8 : Int32) &&& 31).toUInt32).toInt32))])) _
          refine XS.iushr X0.here hx rfl (hb hby d_jdk_33_method_47_71) rfl ?_
          show Steps p.tables e below (s₁.setTop (mkF m 72 #[.val (.int ((p1.toUInt32 >>> ((8 : Int32) &&& 31).toUInt32).toInt32)), .val (.int (((31 : Int32) + (-8 : Int32)) + (-2 : Int32)))] [(.int ((((p1.toUInt32 >>> ((8 : Int32) &&& 31).toUInt32).toInt32).toUInt32 >>> ((2 : Int32) &&& 31).toUInt32).toInt32))])) _
          refine XS.istoreN X0.here hx rfl (hb hby d_jdk_33_method_47_72) rfl (l' := #[.val (.int ((((p1.toUInt32 >>> ((8 : Int32) &&& 31).toUInt32).toInt32).toUInt32 >>> ((2 : Int32) &&& 31).toUInt32).toInt32)), .val (.int (((31 : Int32) + (-8 : Int32)) + (-2 : Int32)))]) rfl ?_
          show Steps p.tables e below (s₁.setTop (mkF m 73 #[.val (.int ((((p1.toUInt32 >>> ((8 : Int32) &&& 31).toUInt32).toInt32).toUInt32 >>> ((2 : Int32) &&& 31).toUInt32).toInt32)), .val (.int (((31 : Int32) + (-8 : Int32)) + (-2 : Int32)))] [])) _
          exact zk
      · by_cases j7 : ((((p1.toUInt32 >>> ((8 : Int32) &&& 31).toUInt32).toInt32).toUInt32 >>> ((4 : Int32) &&& 31).toUInt32).toInt32) < (4 : Int32)
        · refine ⟨(((((p1.toUInt32 >>> ((8 : Int32) &&& 31).toUInt32).toInt32).toUInt32 >>> ((4 : Int32) &&& 31).toUInt32).toInt32)), ((((31 : Int32) + (-8 : Int32)) + (-4 : Int32))), ((if_neg j1).trans ((if_neg j5).trans (if_pos j7))).symm, ((if_neg j1).trans ((if_neg j5).trans (if_pos j7))).symm, fun zt zk => ?_⟩
          show Steps p.tables e below (s₁.setTop (mkF m 37 #[.val (.int p1), .val (.int (31 : Int32))] [(.int (256 : Int32)), (.int p1)])) _
          refine XS.icmpNo X0.here hx rfl (hb hby d_jdk_33_method_47_37) rfl (flt j1).1 ?_
          show Steps p.tables e below (s₁.setTop (mkF m 40 #[.val (.int p1), .val (.int (31 : Int32))] [])) _
          refine XS.iinc X0.here hx rfl (hb hby d_jdk_33_method_47_40) rfl (l' := #[.val (.int p1), .val (.int ((31 : Int32) + (-8 : Int32)))]) rfl ?_
          show Steps p.tables e below (s₁.setTop (mkF m 43 #[.val (.int p1), .val (.int ((31 : Int32) + (-8 : Int32)))] [])) _
          refine XS.iloadN X0.here hx rfl (hb hby d_jdk_33_method_47_43) rfl ?_
          show Steps p.tables e below (s₁.setTop (mkF m 44 #[.val (.int p1), .val (.int ((31 : Int32) + (-8 : Int32)))] [(.int p1)])) _
          refine XS.bipush X0.here hx rfl (hb hby d_jdk_33_method_47_44) ?_
          show Steps p.tables e below (s₁.setTop (mkF m 46 #[.val (.int p1), .val (.int ((31 : Int32) + (-8 : Int32)))] [(.int (8 : Int32)), (.int p1)])) _
          refine XS.iushr X0.here hx rfl (hb hby d_jdk_33_method_47_46) rfl ?_
          show Steps p.tables e below (s₁.setTop (mkF m 47 #[.val (.int p1), .val (.int ((31 : Int32) + (-8 : Int32)))] [(.int ((p1.toUInt32 >>> ((8 : Int32) &&& 31).toUInt32).toInt32))])) _
          refine XS.istoreN X0.here hx rfl (hb hby d_jdk_33_method_47_47) rfl (l' := #[.val (.int ((p1.toUInt32 >>> ((8 : Int32) &&& 31).toUInt32).toInt32)), .val (.int ((31 : Int32) + (-8 : Int32)))]) rfl ?_
          show Steps p.tables e below (s₁.setTop (mkF m 48 #[.val (.int ((p1.toUInt32 >>> ((8 : Int32) &&& 31).toUInt32).toInt32)), .val (.int ((31 : Int32) + (-8 : Int32)))] [])) _
          refine XS.iloadN X0.here hx rfl (hb hby d_jdk_33_method_47_48) rfl ?_
          show Steps p.tables e below (s₁.setTop (mkF m 49 #[.val (.int ((p1.toUInt32 >>> ((8 : Int32) &&& 31).toUInt32).toInt32)), .val (.int ((31 : Int32) + (-8 : Int32)))] [(.int ((p1.toUInt32 >>> ((8 : Int32) &&& 31).toUInt32).toInt32))])) _
          refine XS.bipush X0.here hx rfl (hb hby d_jdk_33_method_47_49) ?_
          show Steps p.tables e below (s₁.setTop (mkF m 51 #[.val (.int ((p1.toUInt32 >>> ((8 : Int32) &&& 31).toUInt32).toInt32)), .val (.int ((31 : Int32) + (-8 : Int32)))] [(.int (16 : Int32)), (.int ((p1.toUInt32 >>> ((8 : Int32) &&& 31).toUInt32).toInt32))])) _
          refine XS.icmpNo X0.here hx rfl (hb hby d_jdk_33_method_47_51) rfl (flt j5).1 ?_
          show Steps p.tables e below (s₁.setTop (mkF m 54 #[.val (.int ((p1.toUInt32 >>> ((8 : Int32) &&& 31).toUInt32).toInt32)), .val (.int ((31 : Int32) + (-8 : Int32)))] [])) _
          refine XS.iinc X0.here hx rfl (hb hby d_jdk_33_method_47_54) rfl (l' := #[.val (.int ((p1.toUInt32 >>> ((8 : Int32) &&& 31).toUInt32).toInt32)), .val (.int (((31 : Int32) + (-8 : Int32)) + (-4 : Int32)))]) rfl ?_
          show Steps p.tables e below (s₁.setTop (mkF m 57 #[.val (.int ((p1.toUInt32 >>> ((8 : Int32) &&& 31).toUInt32).toInt32)), .val (.int (((31 : Int32) + (-8 : Int32)) + (-4 : Int32)))] [])) _
          refine XS.iloadN X0.here hx rfl (hb hby d_jdk_33_method_47_57) rfl ?_
          show Steps p.tables e below (s₁.setTop (mkF m 58 #[.val (.int ((p1.toUInt32 >>> ((8 : Int32) &&& 31).toUInt32).toInt32)), .val (.int (((31 : Int32) + (-8 : Int32)) + (-4 : Int32)))] [(.int ((p1.toUInt32 >>> ((8 : Int32) &&& 31).toUInt32).toInt32))])) _
          refine XS.iconst X0.here hx rfl (hb hby d_jdk_33_method_47_58) ?_
          show Steps p.tables e below (s₁.setTop (mkF m 59 #[.val (.int ((p1.toUInt32 >>> ((8 : Int32) &&& 31).toUInt32).toInt32)), .val (.int (((31 : Int32) + (-8 : Int32)) + (-4 : Int32)))] [(.int (4 : Int32)), (.int ((p1.toUInt32 >>> ((8 : Int32) &&& 31).toUInt32).toInt32))])) _
          refine XS.iushr X0.here hx rfl (hb hby d_jdk_33_method_47_59) rfl ?_
          show Steps p.tables e below (s₁.setTop (mkF m 60 #[.val (.int ((p1.toUInt32 >>> ((8 : Int32) &&& 31).toUInt32).toInt32)), .val (.int (((31 : Int32) + (-8 : Int32)) + (-4 : Int32)))] [(.int ((((p1.toUInt32 >>> ((8 : Int32) &&& 31).toUInt32).toInt32).toUInt32 >>> ((4 : Int32) &&& 31).toUInt32).toInt32))])) _
          refine XS.istoreN X0.here hx rfl (hb hby d_jdk_33_method_47_60) rfl (l' := #[.val (.int ((((p1.toUInt32 >>> ((8 : Int32) &&& 31).toUInt32).toInt32).toUInt32 >>> ((4 : Int32) &&& 31).toUInt32).toInt32)), .val (.int (((31 : Int32) + (-8 : Int32)) + (-4 : Int32)))]) rfl ?_
          show Steps p.tables e below (s₁.setTop (mkF m 61 #[.val (.int ((((p1.toUInt32 >>> ((8 : Int32) &&& 31).toUInt32).toInt32).toUInt32 >>> ((4 : Int32) &&& 31).toUInt32).toInt32)), .val (.int (((31 : Int32) + (-8 : Int32)) + (-4 : Int32)))] [])) _
          refine XS.iloadN X0.here hx rfl (hb hby d_jdk_33_method_47_61) rfl ?_
          show Steps p.tables e below (s₁.setTop (mkF m 62 #[.val (.int ((((p1.toUInt32 >>> ((8 : Int32) &&& 31).toUInt32).toInt32).toUInt32 >>> ((4 : Int32) &&& 31).toUInt32).toInt32)), .val (.int (((31 : Int32) + (-8 : Int32)) + (-4 : Int32)))] [(.int ((((p1.toUInt32 >>> ((8 : Int32) &&& 31).toUInt32).toInt32).toUInt32 >>> ((4 : Int32) &&& 31).toUInt32).toInt32))])) _
          refine XS.iconst X0.here hx rfl (hb hby d_jdk_33_method_47_62) ?_
          show Steps p.tables e below (s₁.setTop (mkF m 63 #[.val (.int ((((p1.toUInt32 >>> ((8 : Int32) &&& 31).toUInt32).toInt32).toUInt32 >>> ((4 : Int32) &&& 31).toUInt32).toInt32)), .val (.int (((31 : Int32) + (-8 : Int32)) + (-4 : Int32)))] [(.int (4 : Int32)), (.int ((((p1.toUInt32 >>> ((8 : Int32) &&& 31).toUInt32).toInt32).toUInt32 >>> ((4 : Int32) &&& 31).toUInt32).toInt32))])) _
          refine XS.icmpYes X0.here hx rfl (pc0 := 63) (pc' := 73) rfl (hb hby d_jdk_33_method_47_63) rfl (tlt j7).1 (by decide) (by decide) ?_
          show Steps p.tables e below (s₁.setTop (mkF m 73 #[.val (.int ((((p1.toUInt32 >>> ((8 : Int32) &&& 31).toUInt32).toInt32).toUInt32 >>> ((4 : Int32) &&& 31).toUInt32).toInt32)), .val (.int (((31 : Int32) + (-8 : Int32)) + (-4 : Int32)))] [])) _
          exact zk
        · refine ⟨(((((((p1.toUInt32 >>> ((8 : Int32) &&& 31).toUInt32).toInt32).toUInt32 >>> ((4 : Int32) &&& 31).toUInt32).toInt32).toUInt32 >>> ((2 : Int32) &&& 31).toUInt32).toInt32)), (((((31 : Int32) + (-8 : Int32)) + (-4 : Int32)) + (-2 : Int32))), ((if_neg j1).trans ((if_neg j5).trans (if_neg j7))).symm, ((if_neg j1).trans ((if_neg j5).trans (if_neg j7))).symm, fun zt zk => ?_⟩
          show Steps p.tables e below (s₁.setTop (mkF m 37 #[.val (.int p1), .val (.int (31 : Int32))] [(.int (256 : Int32)), (.int p1)])) _
          refine XS.icmpNo X0.here hx rfl (hb hby d_jdk_33_method_47_37) rfl (flt j1).1 ?_
          show Steps p.tables e below (s₁.setTop (mkF m 40 #[.val (.int p1), .val (.int (31 : Int32))] [])) _
          refine XS.iinc X0.here hx rfl (hb hby d_jdk_33_method_47_40) rfl (l' := #[.val (.int p1), .val (.int ((31 : Int32) + (-8 : Int32)))]) rfl ?_
          show Steps p.tables e below (s₁.setTop (mkF m 43 #[.val (.int p1), .val (.int ((31 : Int32) + (-8 : Int32)))] [])) _
          refine XS.iloadN X0.here hx rfl (hb hby d_jdk_33_method_47_43) rfl ?_
          show Steps p.tables e below (s₁.setTop (mkF m 44 #[.val (.int p1), .val (.int ((31 : Int32) + (-8 : Int32)))] [(.int p1)])) _
          refine XS.bipush X0.here hx rfl (hb hby d_jdk_33_method_47_44) ?_
          show Steps p.tables e below (s₁.setTop (mkF m 46 #[.val (.int p1), .val (.int ((31 : Int32) + (-8 : Int32)))] [(.int (8 : Int32)), (.int p1)])) _
          refine XS.iushr X0.here hx rfl (hb hby d_jdk_33_method_47_46) rfl ?_
          show Steps p.tables e below (s₁.setTop (mkF m 47 #[.val (.int p1), .val (.int ((31 : Int32) + (-8 : Int32)))] [(.int ((p1.toUInt32 >>> ((8 : Int32) &&& 31).toUInt32).toInt32))])) _
          refine XS.istoreN X0.here hx rfl (hb hby d_jdk_33_method_47_47) rfl (l' := #[.val (.int ((p1.toUInt32 >>> ((8 : Int32) &&& 31).toUInt32).toInt32)), .val (.int ((31 : Int32) + (-8 : Int32)))]) rfl ?_
          show Steps p.tables e below (s₁.setTop (mkF m 48 #[.val (.int ((p1.toUInt32 >>> ((8 : Int32) &&& 31).toUInt32).toInt32)), .val (.int ((31 : Int32) + (-8 : Int32)))] [])) _
          refine XS.iloadN X0.here hx rfl (hb hby d_jdk_33_method_47_48) rfl ?_
          show Steps p.tables e below (s₁.setTop (mkF m 49 #[.val (.int ((p1.toUInt32 >>> ((8 : Int32) &&& 31).toUInt32).toInt32)), .val (.int ((31 : Int32) + (-8 : Int32)))] [(.int ((p1.toUInt32 >>> ((8 : Int32) &&& 31).toUInt32).toInt32))])) _
          refine XS.bipush X0.here hx rfl (hb hby d_jdk_33_method_47_49) ?_
          show Steps p.tables e below (s₁.setTop (mkF m 51 #[.val (.int ((p1.toUInt32 >>> ((8 : Int32) &&& 31).toUInt32).toInt32)), .val (.int ((31 : Int32) + (-8 : Int32)))] [(.int (16 : Int32)), (.int ((p1.toUInt32 >>> ((8 : Int32) &&& 31).toUInt32).toInt32))])) _
          refine XS.icmpNo X0.here hx rfl (hb hby d_jdk_33_method_47_51) rfl (flt j5).1 ?_
          show Steps p.tables e below (s₁.setTop (mkF m 54 #[.val (.int ((p1.toUInt32 >>> ((8 : Int32) &&& 31).toUInt32).toInt32)), .val (.int ((31 : Int32) + (-8 : Int32)))] [])) _
          refine XS.iinc X0.here hx rfl (hb hby d_jdk_33_method_47_54) rfl (l' := #[.val (.int ((p1.toUInt32 >>> ((8 : Int32) &&& 31).toUInt32).toInt32)), .val (.int (((31 : Int32) + (-8 : Int32)) + (-4 : Int32)))]) rfl ?_
          show Steps p.tables e below (s₁.setTop (mkF m 57 #[.val (.int ((p1.toUInt32 >>> ((8 : Int32) &&& 31).toUInt32).toInt32)), .val (.int (((31 : Int32) + (-8 : Int32)) + (-4 : Int32)))] [])) _
          refine XS.iloadN X0.here hx rfl (hb hby d_jdk_33_method_47_57) rfl ?_
          show Steps p.tables e below (s₁.setTop (mkF m 58 #[.val (.int ((p1.toUInt32 >>> ((8 : Int32) &&& 31).toUInt32).toInt32)), .val (.int (((31 : Int32) + (-8 : Int32)) + (-4 : Int32)))] [(.int ((p1.toUInt32 >>> ((8 : Int32) &&& 31).toUInt32).toInt32))])) _
          refine XS.iconst X0.here hx rfl (hb hby d_jdk_33_method_47_58) ?_
          show Steps p.tables e below (s₁.setTop (mkF m 59 #[.val (.int ((p1.toUInt32 >>> ((8 : Int32) &&& 31).toUInt32).toInt32)), .val (.int (((31 : Int32) + (-8 : Int32)) + (-4 : Int32)))] [(.int (4 : Int32)), (.int ((p1.toUInt32 >>> ((8 : Int32) &&& 31).toUInt32).toInt32))])) _
          refine XS.iushr X0.here hx rfl (hb hby d_jdk_33_method_47_59) rfl ?_
          show Steps p.tables e below (s₁.setTop (mkF m 60 #[.val (.int ((p1.toUInt32 >>> ((8 : Int32) &&& 31).toUInt32).toInt32)), .val (.int (((31 : Int32) + (-8 : Int32)) + (-4 : Int32)))] [(.int ((((p1.toUInt32 >>> ((8 : Int32) &&& 31).toUInt32).toInt32).toUInt32 >>> ((4 : Int32) &&& 31).toUInt32).toInt32))])) _
          refine XS.istoreN X0.here hx rfl (hb hby d_jdk_33_method_47_60) rfl (l' := #[.val (.int ((((p1.toUInt32 >>> ((8 : Int32) &&& 31).toUInt32).toInt32).toUInt32 >>> ((4 : Int32) &&& 31).toUInt32).toInt32)), .val (.int (((31 : Int32) + (-8 : Int32)) + (-4 : Int32)))]) rfl ?_
          show Steps p.tables e below (s₁.setTop (mkF m 61 #[.val (.int ((((p1.toUInt32 >>> ((8 : Int32) &&& 31).toUInt32).toInt32).toUInt32 >>> ((4 : Int32) &&& 31).toUInt32).toInt32)), .val (.int (((31 : Int32) + (-8 : Int32)) + (-4 : Int32)))] [])) _
          refine XS.iloadN X0.here hx rfl (hb hby d_jdk_33_method_47_61) rfl ?_
          show Steps p.tables e below (s₁.setTop (mkF m 62 #[.val (.int ((((p1.toUInt32 >>> ((8 : Int32) &&& 31).toUInt32).toInt32).toUInt32 >>> ((4 : Int32) &&& 31).toUInt32).toInt32)), .val (.int (((31 : Int32) + (-8 : Int32)) + (-4 : Int32)))] [(.int ((((p1.toUInt32 >>> ((8 : Int32) &&& 31).toUInt32).toInt32).toUInt32 >>> ((4 : Int32) &&& 31).toUInt32).toInt32))])) _
          refine XS.iconst X0.here hx rfl (hb hby d_jdk_33_method_47_62) ?_
          show Steps p.tables e below (s₁.setTop (mkF m 63 #[.val (.int ((((p1.toUInt32 >>> ((8 : Int32) &&& 31).toUInt32).toInt32).toUInt32 >>> ((4 : Int32) &&& 31).toUInt32).toInt32)), .val (.int (((31 : Int32) + (-8 : Int32)) + (-4 : Int32)))] [(.int (4 : Int32)), (.int ((((p1.toUInt32 >>> ((8 : Int32) &&& 31).toUInt32).toInt32).toUInt32 >>> ((4 : Int32) &&& 31).toUInt32).toInt32))])) _
          refine XS.icmpNo X0.here hx rfl (hb hby d_jdk_33_method_47_63) rfl (flt j7).1 ?_
          show Steps p.tables e below (s₁.setTop (mkF m 66 #[.val (.int ((((p1.toUInt32 >>> ((8 : Int32) &&& 31).toUInt32).toInt32).toUInt32 >>> ((4 : Int32) &&& 31).toUInt32).toInt32)), .val (.int (((31 : Int32) + (-8 : Int32)) + (-4 : Int32)))] [])) _
          refine XS.iinc X0.here hx rfl (hb hby d_jdk_33_method_47_66) rfl (l' := #[.val (.int ((((p1.toUInt32 >>> ((8 : Int32) &&& 31).toUInt32).toInt32).toUInt32 >>> ((4 : Int32) &&& 31).toUInt32).toInt32)), .val (.int ((((31 : Int32) + (-8 : Int32)) + (-4 : Int32)) + (-2 : Int32)))]) rfl ?_
          show Steps p.tables e below (s₁.setTop (mkF m 69 #[.val (.int ((((p1.toUInt32 >>> ((8 : Int32) &&& 31).toUInt32).toInt32).toUInt32 >>> ((4 : Int32) &&& 31).toUInt32).toInt32)), .val (.int ((((31 : Int32) + (-8 : Int32)) + (-4 : Int32)) + (-2 : Int32)))] [])) _
          refine XS.iloadN X0.here hx rfl (hb hby d_jdk_33_method_47_69) rfl ?_
          show Steps p.tables e below (s₁.setTop (mkF m 70 #[.val (.int ((((p1.toUInt32 >>> ((8 : Int32) &&& 31).toUInt32).toInt32).toUInt32 >>> ((4 : Int32) &&& 31).toUInt32).toInt32)), .val (.int ((((31 : Int32) + (-8 : Int32)) + (-4 : Int32)) + (-2 : Int32)))] [(.int ((((p1.toUInt32 >>> ((8 : Int32) &&& 31).toUInt32).toInt32).toUInt32 >>> ((4 : Int32) &&& 31).toUInt32).toInt32))])) _
          refine XS.iconst X0.here hx rfl (hb hby d_jdk_33_method_47_70) ?_
          show Steps p.tables e below (s₁.setTop (mkF m 71 #[.val (.int ((((p1.toUInt32 >>> ((8 : Int32) &&& 31).toUInt32).toInt32).toUInt32 >>> ((4 : Int32) &&& 31).toUInt32).toInt32)), .val (.int ((((31 : Int32) + (-8 : Int32)) + (-4 : Int32)) + (-2 : Int32)))] [(.int (2 : Int32)), (.int ((((p1.toUInt32 >>> ((8 : Int32) &&& 31).toUInt32).toInt32).toUInt32 >>> ((4 : Int32) &&& 31).toUInt32).toInt32))])) _
          refine XS.iushr X0.here hx rfl (hb hby d_jdk_33_method_47_71) rfl ?_
          show Steps p.tables e below (s₁.setTop (mkF m 72 #[.val (.int ((((p1.toUInt32 >>> ((8 : Int32) &&& 31).toUInt32).toInt32).toUInt32 >>> ((4 : Int32) &&& 31).toUInt32).toInt32)), .val (.int ((((31 : Int32) + (-8 : Int32)) + (-4 : Int32)) + (-2 : Int32)))] [(.int ((((((p1.toUInt32 >>> ((8 : Int32) &&& 31).toUInt32).toInt32).toUInt32 >>> ((4 : Int32) &&& 31).toUInt32).toInt32).toUInt32 >>> ((2 : Int32) &&& 31).toUInt32).toInt32))])) _
          refine XS.istoreN X0.here hx rfl (hb hby d_jdk_33_method_47_72) rfl (l' := #[.val (.int ((((((p1.toUInt32 >>> ((8 : Int32) &&& 31).toUInt32).toInt32).toUInt32 >>> ((4 : Int32) &&& 31).toUInt32).toInt32).toUInt32 >>> ((2 : Int32) &&& 31).toUInt32).toInt32)), .val (.int ((((31 : Int32) + (-8 : Int32)) + (-4 : Int32)) + (-2 : Int32)))]) rfl ?_
          show Steps p.tables e below (s₁.setTop (mkF m 73 #[.val (.int ((((((p1.toUInt32 >>> ((8 : Int32) &&& 31).toUInt32).toInt32).toUInt32 >>> ((4 : Int32) &&& 31).toUInt32).toInt32).toUInt32 >>> ((2 : Int32) &&& 31).toUInt32).toInt32)), .val (.int ((((31 : Int32) + (-8 : Int32)) + (-4 : Int32)) + (-2 : Int32)))] [])) _
          exact zk
  refine own_by (sj8) ?_
  show own_Go p.tables e below (s₁.setTop (mkF m 73 #[.val (.int x1), .val (.int y1)] [])) _
  refine own_by (fun zt zk => XS.iloadN X0.here hx rfl (hb hby d_jdk_33_method_47_73) rfl zk) ?_
  show own_Go p.tables e below (s₁.setTop (mkF m 74 #[.val (.int x1), .val (.int y1)] [(.int y1)])) _
  refine own_by (fun zt zk => XS.iloadN X0.here hx rfl (hb hby d_jdk_33_method_47_74) rfl zk) ?_
  show own_Go p.tables e below (s₁.setTop (mkF m 75 #[.val (.int x1), .val (.int y1)] [(.int x1), (.int y1)])) _
  refine own_by (fun zt zk => XS.iconst X0.here hx rfl (hb hby d_jdk_33_method_47_75) zk) ?_
  show own_Go p.tables e below (s₁.setTop (mkF m 76 #[.val (.int x1), .val (.int y1)] [(.int (1 : Int32)), (.int x1), (.int y1)])) _
  refine own_by (fun zt zk => XS.iushr X0.here hx rfl (hb hby d_jdk_33_method_47_76) rfl zk) ?_
  show own_Go p.tables e below (s₁.setTop (mkF m 77 #[.val (.int x1), .val (.int y1)] [(.int ((x1.toUInt32 >>> ((1 : Int32) &&& 31).toUInt32).toInt32)), (.int y1)])) _
  refine own_by (fun zt zk => XS.isub X0.here hx rfl (hb hby d_jdk_33_method_47_77) rfl zk) ?_
  show own_Go p.tables e below (s₁.setTop (mkF m 78 #[.val (.int x1), .val (.int y1)] [(.int (y1 - ((x1.toUInt32 >>> ((1 : Int32) &&& 31).toUInt32).toInt32)))])) _
  exact own_retI X0 hx Bd.notSynchronized Bd.returns (hb hby d_jdk_33_method_47_78) (by (try rw [e0]); exact ⟨_, rfl, N0, rfl, by rw [hx1, hy1]; rfl⟩) (by decide) (by decide)
theorem d_jdk_33_method_45_0 : decode jdk_33_method_45_code 0 = .ok (.iload_n 0, 1) := by decide +kernel
theorem d_jdk_33_method_45_1 : decode jdk_33_method_45_code 1 = .ok (.ldc 127, 2) := by decide +kernel
theorem d_jdk_33_method_45_3 : decode jdk_33_method_45_code 3 = .ok (.iload_n 0, 1) := by decide +kernel
theorem d_jdk_33_method_45_4 : decode jdk_33_method_45_code 4 = .ok (.invokestatic 51, 3) := by decide +kernel
theorem pd_78 : parseMethodDescriptor "(I)I" = some ⟨[.int], some .int⟩ := by decide +kernel
theorem d_jdk_33_method_45_7 : decode jdk_33_method_45_code 7 = .ok (.iushr, 1) := by decide +kernel
theorem d_jdk_33_method_45_8 : decode jdk_33_method_45_code 8 = .ok (.iand, 1) := by decide +kernel
theorem d_jdk_33_method_45_9 : decode jdk_33_method_45_code 9 = .ok (.ireturn, 1) := by decide +kernel
theorem ef_rm_hob (m : MethodId) (p1 : Int32) : entryFrame m #[(.int p1)] 1 = mkF m 0 #[.val (.int p1)] [] := by first | (simp [entryFrame, mkF, argsToLocals, Value.category]; done) | rfl
set_option maxRecDepth 65536 in
set_option maxHeartbeats 40000000 in
theorem rm_hob (l : Launch) (Z : State) (a0 : Array Value) (hw : ∀ d ∈ tables_1, d.before a0 Z = true) (zws : List Jvm.Cond) (p1 : Int32) (h0 : Heap) (n0 : Nat) (Z0 : n0 ≤ h0.size) (hp0 : (0 : Int32) < p1) (hp1 : p1 < (65536 : Int32)) :
    MetFree l (⟨"java/lang/Integer", "highestOneBit", "(I)I"⟩ : MethodName) (head1 (Jvm.Cond.code (⟨"java/lang/Integer", "highestOneBit", "(I)I"⟩ : MethodName) jdk_33_method_45_code 1 (some .int) :: zws) ({ frames := 1, cells := 0, slots := 0, locals := 15 } : Room)) (fun zA zU => zA = #[(.int p1)] ∧ Z.Warmed39 zU.vm ∧ zU.heap = h0) (fun _ _ _ _ _ => True) (fun _ zU zo zW => ∃ zv zL, zo = .returned zv ∧ (own_QI h0 n0 (own_hob p1)) zv zW.heap zL ∧ FrameEnd zU zo zW zL ({ frames := 1, cells := 0, slots := 0, locals := 15 } : Room).cells ({ frames := 1, cells := 0, slots := 0, locals := 15 } : Room).slots) := by
  refine MetFree.of_bodySF (plainFor_of_name pn_73) hisR ?_
  intro p e s m args below meth c s₁ Bd hml0 hP hK
  obtain ⟨rfl, hZ, hh⟩ := hP
  have hx := Bd.exec
  have hby := Bd.bytes
  have hml : c.maxLocals = 1 := hml0
  have hown : s.vm.findClass "java/lang/Integer" = some m.cls := findClass_of_methodNamed Bd.named
  have hnm := (name_of_methodNamed Bd.named Bd.method).1
  have X0 : Stand p l e ({ frames := 1, cells := 0, slots := 0, locals := 15 } : Room) s m #[(.int p1)] below meth c s₁ [] 0 0 := Stand.of_body Bd
  have e0 : s₁.heap = h0 := by rw [← hh, Bd.state]; rfl
  have N0 := Fr.nil n0
  refine own_out (Q := own_QI h0 n0 (own_hob p1)) ?_
  refine own_cast (ef_rm_hob m p1) ?_
  show own_Go p.tables e below (s₁.setTop (mkF m 0 #[.val (.int p1)] [])) _
  refine own_by (fun zt zk => XS.iloadN X0.here hx rfl (hb hby d_jdk_33_method_45_0) rfl zk) ?_
  show own_Go p.tables e below (s₁.setTop (mkF m 1 #[.val (.int p1)] [(.int p1)])) _
  refine own_by (X0.ldcInt hx hown (mvT hZ (hw _ (List.mem_of_getElem? (i := 34) rfl))) (g := (mkF m 1 #[.val (.int p1)] [(.int p1)])) rfl (hb hby d_jdk_33_method_45_1)) ?_
  show own_Go p.tables e below (s₁.setTop (mkF m 3 #[.val (.int p1)] [(.int (-2147483648 : Int32)), (.int p1)])) _
  refine own_by (fun zt zk => XS.iloadN X0.here hx rfl (hb hby d_jdk_33_method_45_3) rfl zk) ?_
  show own_Go p.tables e below (s₁.setTop (mkF m 4 #[.val (.int p1)] [(.int p1), (.int (-2147483648 : Int32)), (.int p1)])) _
  obtain ⟨_, _, ⟨T1, L1, k1, n1⟩, -, X1, ⟨Lc1, hQ1, l1, y1, z1⟩, st1⟩ := Jvm.LawKit.callS X0 hx (y := (⟨"java/lang/Integer", "numberOfLeadingZeros", "(I)I"⟩ : MethodName)) hown (mvT hZ (hw _ (List.mem_of_getElem? (i := 35) rfl))) (mvT hZ (hw _ (List.mem_of_getElem? (i := 36) rfl))) (mvT hZ (hw _ (List.mem_of_getElem? (i := 32) rfl))) (mvT hZ (hw _ (List.mem_of_getElem? (i := 37) rfl))) (by decide) (backOf (W := 2) (rm_nlz l Z a0 hw [] p1  h0 n0 (Nat.le_trans Z0 (Keep.refl h0 []).1) hp0 hp1) hZ (hw _ (List.mem_of_getElem? (i := 37) rfl)) (hw _ (List.mem_of_getElem? (i := 32) rfl)) (by decide) (by decide)) (g := (mkF m 4 #[.val (.int p1)] [(.int p1), (.int (-2147483648 : Int32)), (.int p1)])) rfl (by rw [hml]; rfl) (argsL := [(.int p1)]) (rest := [(.int (-2147483648 : Int32)), (.int p1)]) (lenOf pd_78 rfl) rfl (by show 2 * 0 + _ ≤ _; exact Nat.le_of_eq rfl) (hb hby d_jdk_33_method_45_4) (fun _ _ => ⟨rfl, e0, (by decide : 0 + 0 ≤ _), (by decide : 0 + 0 ≤ _)⟩)
  dsimp only [Pt.U, Pt.locs, Pt.cells, Pt.slots] at X1 l1 y1 z1 st1 hQ1
  subst l1 y1 z1
  obtain ⟨r, rfl, N1q, eh1, hr⟩ := hQ1
  have N1 := Fr.app N0 N1q
  refine own_by (st1) ?_
  show own_Go p.tables e below (T1.setTop (mkF m 7 #[.val (.int p1)] [(.int r), (.int (-2147483648 : Int32)), (.int p1)])) _
  refine own_by (fun zt zk => XS.iushr X1.here hx rfl (hb hby d_jdk_33_method_45_7) rfl zk) ?_
  show own_Go p.tables e below (T1.setTop (mkF m 8 #[.val (.int p1)] [(.int (((-2147483648 : Int32).toUInt32 >>> (r &&& 31).toUInt32).toInt32)), (.int p1)])) _
  refine own_by (fun zt zk => XS.iand X1.here hx rfl (hb hby d_jdk_33_method_45_8) rfl zk) ?_
  show own_Go p.tables e below (T1.setTop (mkF m 9 #[.val (.int p1)] [(.int (p1 &&& (((-2147483648 : Int32).toUInt32 >>> (r &&& 31).toUInt32).toInt32)))])) _
  exact own_retI X1 hx Bd.notSynchronized Bd.returns (hb hby d_jdk_33_method_45_9) (by (try rw [eh1]); exact ⟨_, rfl, N1, rfl, by rw [hr]; rfl⟩) (by decide) (by decide)
theorem d_prog_104_method_16_0 : decode prog_104_method_16_code 0 = .ok (.iload_n 1, 1) := by decide +kernel
theorem d_prog_104_method_16_1 : decode prog_104_method_16_code 1 = .ok (.aload_n 0, 1) := by decide +kernel
theorem d_prog_104_method_16_2 : decode prog_104_method_16_code 2 = .ok (.getfield 7, 3) := by decide +kernel
theorem d_prog_104_method_16_5 : decode prog_104_method_16_code 5 = .ok (.arraylength, 1) := by decide +kernel
theorem d_prog_104_method_16_6 : decode prog_104_method_16_code 6 = .ok (.if_icmp .le 44, 3) := by decide +kernel
theorem d_prog_104_method_16_9 : decode prog_104_method_16_code 9 = .ok (.aload_n 0, 1) := by decide +kernel
theorem d_prog_104_method_16_10 : decode prog_104_method_16_code 10 = .ok (.aload_n 0, 1) := by decide +kernel
theorem d_prog_104_method_16_11 : decode prog_104_method_16_code 11 = .ok (.getfield 7, 3) := by decide +kernel
theorem d_prog_104_method_16_14 : decode prog_104_method_16_code 14 = .ok (.iload_n 1, 1) := by decide +kernel
theorem d_prog_104_method_16_15 : decode prog_104_method_16_code 15 = .ok (.iconst 1, 1) := by decide +kernel
theorem d_prog_104_method_16_16 : decode prog_104_method_16_code 16 = .ok (.isub, 1) := by decide +kernel
theorem d_prog_104_method_16_17 : decode prog_104_method_16_code 17 = .ok (.invokestatic 64, 3) := by decide +kernel
theorem d_prog_104_method_16_20 : decode prog_104_method_16_code 20 = .ok (.iconst 1, 1) := by decide +kernel
theorem d_prog_104_method_16_21 : decode prog_104_method_16_code 21 = .ok (.ishl, 1) := by decide +kernel
theorem d_prog_104_method_16_22 : decode prog_104_method_16_code 22 = .ok (.invokestatic 70, 3) := by decide +kernel
theorem pd_97 : parseMethodDescriptor "([JI)[J" = some ⟨[(.array .long), .int], some (.array .long)⟩ := by decide +kernel
theorem d_prog_104_method_16_25 : decode prog_104_method_16_code 25 = .ok (.putfield 7, 3) := by decide +kernel
theorem d_prog_104_method_16_28 : decode prog_104_method_16_code 28 = .ok (.aload_n 0, 1) := by decide +kernel
theorem d_prog_104_method_16_29 : decode prog_104_method_16_code 29 = .ok (.aload_n 0, 1) := by decide +kernel
theorem d_prog_104_method_16_30 : decode prog_104_method_16_code 30 = .ok (.getfield 13, 3) := by decide +kernel
theorem d_prog_104_method_16_33 : decode prog_104_method_16_code 33 = .ok (.aload_n 0, 1) := by decide +kernel
theorem d_prog_104_method_16_34 : decode prog_104_method_16_code 34 = .ok (.getfield 7, 3) := by decide +kernel
theorem d_prog_104_method_16_37 : decode prog_104_method_16_code 37 = .ok (.arraylength, 1) := by decide +kernel
theorem d_prog_104_method_16_38 : decode prog_104_method_16_code 38 = .ok (.bipush 63, 2) := by decide +kernel
theorem d_prog_104_method_16_40 : decode prog_104_method_16_code 40 = .ok (.iadd, 1) := by decide +kernel
theorem d_prog_104_method_16_41 : decode prog_104_method_16_code 41 = .ok (.bipush 6, 2) := by decide +kernel
theorem d_prog_104_method_16_43 : decode prog_104_method_16_code 43 = .ok (.iushr, 1) := by decide +kernel
theorem d_prog_104_method_16_44 : decode prog_104_method_16_code 44 = .ok (.invokestatic 70, 3) := by decide +kernel
theorem d_prog_104_method_16_47 : decode prog_104_method_16_code 47 = .ok (.putfield 13, 3) := by decide +kernel
theorem d_prog_104_method_16_50 : decode prog_104_method_16_code 50 = .ok (.return_, 1) := by decide +kernel
def Q_rm_res (Z : State) (a : Addr) (ln : Int32) (ws sm : Addr) (N M : Nat) (f g : Nat → Int64) (Lz : Nat) (h0 : Heap) (n0 : Nat) (v : Option Value) (h : Heap) (L : List Loc) : Prop := v = none ∧ Fr n0 L ∧ h0.size ≤ h.size ∧ ∃ (ws2 sm2 : Addr) (N2 M2 : Nat) (g2 : Nat → Int64), own_NS Z n0 h a ws2 sm2 N2 M2 (own_ext N f) g2 ∧ Lz ≤ N2 ∧ N ≤ N2
theorem ef_rm_res (m : MethodId) (a : Addr) (ln : Int32) : entryFrame m #[(.ref a), (.int ln)] 2 = mkF m 0 #[.val (.ref a), .val (.int ln)] [] := by first | (simp [entryFrame, mkF, argsToLocals, Value.category]; done) | rfl
set_option maxRecDepth 65536 in
set_option maxHeartbeats 40000000 in
theorem rm_res (l : Launch) (Z : State) (a0 : Array Value) (hw : ∀ d ∈ tables_1, d.before a0 Z = true) (zws : List Jvm.Cond) (a : Addr) (ln : Int32) (ws sm : Addr) (N M : Nat) (f g : Nat → Int64) (Lz : Nat) (h0 : Heap) (n0 : Nat) (Z0 : n0 ≤ h0.size) (NS0 : own_NS Z n0 h0 a ws sm N M f g) (hln : ln = Int32.ofNat Lz) (hL1 : 1 ≤ Lz) (hL2 : Lz ≤ 1024) :
    MetFree l (⟨"com/example/cutset/cutset/search/NumberSet", "reserve", "(I)V"⟩ : MethodName) (head1 (Jvm.Cond.code (⟨"com/example/cutset/cutset/search/NumberSet", "reserve", "(I)V"⟩ : MethodName) prog_104_method_16_code 2 none :: zws) ({ frames := 2, cells := 2, slots := 1040, locals := 55 } : Room)) (fun zA zU => zA = #[(.ref a), (.int ln)] ∧ Z.Warmed39 zU.vm ∧ zU.heap = h0) (fun _ _ _ _ _ => True) (fun _ zU zo zW => ∃ zv zL, zo = .returned zv ∧ (Q_rm_res Z a ln ws sm N M f g Lz h0 n0) zv zW.heap zL ∧ FrameEnd zU zo zW zL ({ frames := 2, cells := 2, slots := 1040, locals := 55 } : Room).cells ({ frames := 2, cells := 2, slots := 1040, locals := 55 } : Room).slots) := by
  refine MetFree.of_bodySF (plainFor_of_name pn_11) hisR ?_
  intro p e s m args below meth c s₁ Bd hml0 hP hK
  obtain ⟨rfl, hZ, hh⟩ := hP
  have hx := Bd.exec
  have hby := Bd.bytes
  have hml : c.maxLocals = 2 := hml0
  have hown : s.vm.findClass "com/example/cutset/cutset/search/NumberSet" = some m.cls := findClass_of_methodNamed Bd.named
  have hnm := (name_of_methodNamed Bd.named Bd.method).1
  have X0 : Stand p l e ({ frames := 2, cells := 2, slots := 1040, locals := 55 } : Room) s m #[(.ref a), (.int ln)] below meth c s₁ [] 0 0 := Stand.of_body Bd
  have e0 : s₁.heap = h0 := by rw [← hh, Bd.state]; rfl
  have N0 := Fr.nil n0
  refine own_out (Q := Q_rm_res Z a ln ws sm N M f g Lz h0 n0) ?_
  refine own_cast (ef_rm_res m a ln) ?_
  show own_Go p.tables e below (s₁.setTop (mkF m 0 #[.val (.ref a), .val (.int ln)] [])) _
  obtain ⟨kE, kFw, kFs, kAw, kEw, kAs, kEs, kga, kgw, kgs, kn1, kn2, kn3, kb1, kb2, kb3, kb4⟩ := NS0
  show own_Go p.tables e below (s₁.setTop (mkF m 0 #[.val (.ref a), .val (.int ln)] [])) _
  refine own_by (fun zt zk => XS.iloadN X0.here hx rfl (hb hby d_prog_104_method_16_0) rfl zk) ?_
  show own_Go p.tables e below (s₁.setTop (mkF m 1 #[.val (.ref a), .val (.int ln)] [(.int ln)])) _
  refine own_by (fun zt zk => XS.aloadN X0.here hx rfl (hb hby d_prog_104_method_16_1) rfl rfl zk) ?_
  show own_Go p.tables e below (s₁.setTop (mkF m 2 #[.val (.ref a), .val (.int ln)] [(.ref a), (.int ln)])) _
  obtain ⟨T1, X1, e1, st1⟩ := getF X0 hx hZ hown (host := "") (Or.inl (hw _ (List.mem_of_getElem? (i := 11) rfl))) Via.refl e0 kFw (g := (mkF m 2 #[.val (.ref a), .val (.int ln)] [(.ref a), (.int ln)])) rfl rfl (hb hby d_prog_104_method_16_2)
  refine own_by (st1) ?_
  show own_Go p.tables e below (T1.setTop (mkF m 5 #[.val (.ref a), .val (.int ln)] [(.ref ws), (.int ln)])) _
  refine own_by (own_len X1 hx hZ e1 kAw (z := (Int32.ofNat N)) rfl (g := (mkF m 5 #[.val (.ref a), .val (.int ln)] [(.ref ws), (.int ln)])) rfl rfl (hb hby d_prog_104_method_16_5)) ?_
  show own_Go p.tables e below (T1.setTop (mkF m 6 #[.val (.ref a), .val (.int ln)] [(.int (Int32.ofNat N)), (.int ln)])) _
  by_cases h1 : (Int32.ofNat N) < ln
  · refine own_by (fun zt zk => XS.icmpNo X1.here hx rfl (hb hby d_prog_104_method_16_6) rfl (tlt h1).2.2.2 zk) ?_
    show own_Go p.tables e below (T1.setTop (mkF m 9 #[.val (.ref a), .val (.int ln)] [])) _
    have hNL : N < Lz := own_lt' hln (Nat.le_trans kb2 (by decide)) hL2 h1
    obtain ⟨q0, q1, q2, q3, q4⟩ := own_hobs hln hNL kb1 hL2
    refine own_by (fun zt zk => XS.aloadN X1.here hx rfl (hb hby d_prog_104_method_16_9) rfl rfl zk) ?_
    show own_Go p.tables e below (T1.setTop (mkF m 10 #[.val (.ref a), .val (.int ln)] [(.ref a)])) _
    refine own_by (fun zt zk => XS.aloadN X1.here hx rfl (hb hby d_prog_104_method_16_10) rfl rfl zk) ?_
    show own_Go p.tables e below (T1.setTop (mkF m 11 #[.val (.ref a), .val (.int ln)] [(.ref a), (.ref a)])) _
    obtain ⟨T2, X2, e2, st2⟩ := getF X1 hx hZ hown (host := "") (Or.inl (hw _ (List.mem_of_getElem? (i := 11) rfl))) Via.refl e1 kFw (g := (mkF m 11 #[.val (.ref a), .val (.int ln)] [(.ref a), (.ref a)])) rfl rfl (hb hby d_prog_104_method_16_11)
    refine own_by (st2) ?_
    show own_Go p.tables e below (T2.setTop (mkF m 14 #[.val (.ref a), .val (.int ln)] [(.ref ws), (.ref a)])) _
    refine own_by (fun zt zk => XS.iloadN X2.here hx rfl (hb hby d_prog_104_method_16_14) rfl zk) ?_
    show own_Go p.tables e below (T2.setTop (mkF m 15 #[.val (.ref a), .val (.int ln)] [(.int ln), (.ref ws), (.ref a)])) _
    refine own_by (fun zt zk => XS.iconst X2.here hx rfl (hb hby d_prog_104_method_16_15) zk) ?_
    show own_Go p.tables e below (T2.setTop (mkF m 16 #[.val (.ref a), .val (.int ln)] [(.int (1 : Int32)), (.int ln), (.ref ws), (.ref a)])) _
    refine own_by (fun zt zk => XS.isub X2.here hx rfl (hb hby d_prog_104_method_16_16) rfl zk) ?_
    show own_Go p.tables e below (T2.setTop (mkF m 17 #[.val (.ref a), .val (.int ln)] [(.int (ln - (1 : Int32))), (.ref ws), (.ref a)])) _
    obtain ⟨_, _, ⟨T3, L3, k3, n3⟩, -, X3, ⟨Lc3, hQ3, l3, y3, z3⟩, st3⟩ := Jvm.LawKit.callS X2 hx (y := (⟨"java/lang/Integer", "highestOneBit", "(I)I"⟩ : MethodName)) hown (mvT hZ (hw _ (List.mem_of_getElem? (i := 30) rfl))) (mvT hZ (hw _ (List.mem_of_getElem? (i := 31) rfl))) (mvT hZ (hw _ (List.mem_of_getElem? (i := 32) rfl))) (mvT hZ (hw _ (List.mem_of_getElem? (i := 33) rfl))) (by decide) (backOf (W := 2) (rm_hob l Z a0 hw [] (ln - (1 : Int32))  h0 n0 (Nat.le_trans Z0 (Nat.le_refl h0.size)) q0 q1) hZ (hw _ (List.mem_of_getElem? (i := 33) rfl)) (hw _ (List.mem_of_getElem? (i := 32) rfl)) (by decide) (by decide)) (g := (mkF m 17 #[.val (.ref a), .val (.int ln)] [(.int (ln - (1 : Int32))), (.ref ws), (.ref a)])) rfl (by rw [hml]; rfl) (argsL := [(.int (ln - (1 : Int32)))]) (rest := [(.ref ws), (.ref a)]) (lenOf pd_78 rfl) rfl (by show 2 * 0 + _ ≤ _; exact Nat.le_of_eq rfl) (hb hby d_prog_104_method_16_17) (fun _ _ => ⟨rfl, e2, (by decide : 0 + 0 ≤ _), (by decide : 0 + 0 ≤ _)⟩)
    dsimp only [Pt.U, Pt.locs, Pt.cells, Pt.slots] at X3 l3 y3 z3 st3 hQ3
    subst l3 y3 z3
    obtain ⟨ho, rfl, N3q, eh3, hho⟩ := hQ3
    have N3 := Fr.app N0 N3q
    refine own_by (st3) ?_
    show own_Go p.tables e below (T3.setTop (mkF m 20 #[.val (.ref a), .val (.int ln)] [(.int ho), (.ref ws), (.ref a)])) _
    refine own_by (fun zt zk => XS.iconst X3.here hx rfl (hb hby d_prog_104_method_16_20) zk) ?_
    show own_Go p.tables e below (T3.setTop (mkF m 21 #[.val (.ref a), .val (.int ln)] [(.int (1 : Int32)), (.int ho), (.ref ws), (.ref a)])) _
    refine own_by (fun zt zk => XS.ishl X3.here hx rfl (hb hby d_prog_104_method_16_21) rfl zk) ?_
    show own_Go p.tables e below (T3.setTop (mkF m 22 #[.val (.ref a), .val (.int ln)] [(.int (ho <<< ((1 : Int32) &&& 31))), (.ref ws), (.ref a)])) _
    obtain ⟨nl, hnl⟩ : ∃ z, z = (ho <<< ((1 : Int32) &&& 31)) := ⟨_, rfl⟩
    rw [← hnl]
    show own_Go p.tables e below (T3.setTop (mkF m 22 #[.val (.ref a), .val (.int ln)] [(.int nl), (.ref ws), (.ref a)])) _
    have hnl2 : nl = Int32.ofNat (own_pw (Lz - 1)) := by rw [hnl, hho]; exact q2
    obtain ⟨_, _, ⟨T4, L4, k4, n4⟩, -, X4, ⟨w2, hv4, g4, E4, V4, EX4, l4, y4, z4⟩, st4⟩ := Jvm.LawKit.callS X3 hx (y := (⟨"java/util/Arrays", "copyOf", "([JI)[J"⟩ : MethodName)) hown (mvT hZ (hw _ (List.mem_of_getElem? (i := 39) rfl))) (mvT hZ (hw _ (List.mem_of_getElem? (i := 40) rfl))) (mvT hZ (hw _ (List.mem_of_getElem? (i := 41) rfl))) (mvT hZ (hw _ (List.mem_of_getElem? (i := 42) rfl))) (by decide) (own_copy (W := 1) (n := (own_pw (Lz - 1))) (cap := 1024) hZ kAw kEw (Nat.lt_of_le_of_lt kb2 (by decide)) hnl2 q4 (by decide) (by decide) (by decide) (own_tab hZ hw)) (g := (mkF m 22 #[.val (.ref a), .val (.int ln)] [(.int nl), (.ref ws), (.ref a)])) rfl (by rw [hml]; rfl) (argsL := [(.ref ws), (.int nl)]) (rest := [(.ref a)]) (lenOf pd_97 rfl) rfl (by show 2 * 0 + _ ≤ _; exact Nat.le_of_eq rfl) (hb hby d_prog_104_method_16_22) (fun _ _ => ⟨rfl, eh3, (by decide : 0 + 1 ≤ _), (by decide : 0 + 1024 ≤ _)⟩)
    dsimp only [Pt.U, Pt.locs, Pt.cells, Pt.slots] at X4 l4 y4 z4 st4 E4 V4 EX4
    subst l4 y4 z4 hv4
    have ne_w2_a : w2 ≠ a := Nat.ne_of_gt (g4 ▸ (kE).lt)
    have ne_w2_ws : w2 ≠ ws := Nat.ne_of_gt (g4 ▸ (kAw).lt)
    have ne_w2_sm : w2 ≠ sm := Nat.ne_of_gt (g4 ▸ (kAs).lt)
    have sz_w2 : h0.size ≤ w2 := Nat.le_trans (Nat.le_refl h0.size) (Nat.le_of_eq g4.symm)
    have K4 : h0.size ≤ T4.heap.size := Nat.le_trans (Nat.le_refl h0.size) E4.1
    refine own_by (st4) ?_
    show own_Go p.tables e below (T4.setTop (mkF m 25 #[.val (.ref a), .val (.int ln)] [(.ref w2), (.ref a)])) _
    obtain ⟨T5, hea5, X5, e5, W5, st5⟩ := putF X4 hx hZ hown (host := "") (Or.inl (hw _ (List.mem_of_getElem? (i := 11) rfl))) Via.refl rfl (kFw.ext E4) (kE.ext E4) (Or.inl (hw _ (List.mem_of_getElem? (i := 12) rfl))) (hw _ (List.mem_of_getElem? (i := 2) rfl)) (ty := (.array .long)) (by decide) rfl rfl (g := (mkF m 25 #[.val (.ref a), .val (.int ln)] [(.ref w2), (.ref a)])) rfl rfl (hb hby d_prog_104_method_16_25)
    have Fw5 := ((kFw.ext E4)).same W5
    have N5 := Fr.snoc X5 N3 kga
    have K5 : h0.size ≤ hea5.size := Nat.le_trans K4 (Nat.le_of_eq W5.size.symm)
    refine own_by (st5) ?_
    show own_Go p.tables e below (T5.setTop (mkF m 28 #[.val (.ref a), .val (.int ln)] [])) _
    refine own_by (fun zt zk => XS.aloadN X5.here hx rfl (hb hby d_prog_104_method_16_28) rfl rfl zk) ?_
    show own_Go p.tables e below (T5.setTop (mkF m 29 #[.val (.ref a), .val (.int ln)] [(.ref a)])) _
    refine own_by (fun zt zk => XS.aloadN X5.here hx rfl (hb hby d_prog_104_method_16_29) rfl rfl zk) ?_
    show own_Go p.tables e below (T5.setTop (mkF m 30 #[.val (.ref a), .val (.int ln)] [(.ref a), (.ref a)])) _
    have c7 := ((kFs.ext E4).other W5 (Or.inr (slot_ne (Or.inl (hw _ (List.mem_of_getElem? (i := 14) rfl))) (Or.inl (hw _ (List.mem_of_getElem? (i := 12) rfl))) (by decide) (t := (.array .long)) (t' := (.array .long)) (by decide) (by decide))))
    obtain ⟨T6, X6, e6, st6⟩ := getF X5 hx hZ hown (host := "") (Or.inl (hw _ (List.mem_of_getElem? (i := 13) rfl))) Via.refl e5 c7 (g := (mkF m 30 #[.val (.ref a), .val (.int ln)] [(.ref a), (.ref a)])) rfl rfl (hb hby d_prog_104_method_16_30)
    refine own_by (st6) ?_
    show own_Go p.tables e below (T6.setTop (mkF m 33 #[.val (.ref a), .val (.int ln)] [(.ref sm), (.ref a)])) _
    refine own_by (fun zt zk => XS.aloadN X6.here hx rfl (hb hby d_prog_104_method_16_33) rfl rfl zk) ?_
    show own_Go p.tables e below (T6.setTop (mkF m 34 #[.val (.ref a), .val (.int ln)] [(.ref a), (.ref sm), (.ref a)])) _
    obtain ⟨T8, X8, e8, st8⟩ := getF X6 hx hZ hown (host := "") (Or.inl (hw _ (List.mem_of_getElem? (i := 11) rfl))) Via.refl e6 Fw5 (g := (mkF m 34 #[.val (.ref a), .val (.int ln)] [(.ref a), (.ref sm), (.ref a)])) rfl rfl (hb hby d_prog_104_method_16_34)
    refine own_by (st8) ?_
    show own_Go p.tables e below (T8.setTop (mkF m 37 #[.val (.ref a), .val (.int ln)] [(.ref w2), (.ref sm), (.ref a)])) _
    refine own_by (own_len X8 hx hZ e8 (V4.other W5 ne_w2_a) (z := (Int32.ofNat (own_pw (Lz - 1)))) rfl (g := (mkF m 37 #[.val (.ref a), .val (.int ln)] [(.ref w2), (.ref sm), (.ref a)])) rfl rfl (hb hby d_prog_104_method_16_37)) ?_
    show own_Go p.tables e below (T8.setTop (mkF m 38 #[.val (.ref a), .val (.int ln)] [(.int (Int32.ofNat (own_pw (Lz - 1)))), (.ref sm), (.ref a)])) _
    refine own_by (fun zt zk => XS.bipush X8.here hx rfl (hb hby d_prog_104_method_16_38) zk) ?_
    show own_Go p.tables e below (T8.setTop (mkF m 40 #[.val (.ref a), .val (.int ln)] [(.int (63 : Int32)), (.int (Int32.ofNat (own_pw (Lz - 1)))), (.ref sm), (.ref a)])) _
    refine own_by (fun zt zk => XS.iadd X8.here hx rfl (hb hby d_prog_104_method_16_40) rfl zk) ?_
    show own_Go p.tables e below (T8.setTop (mkF m 41 #[.val (.ref a), .val (.int ln)] [(.int ((Int32.ofNat (own_pw (Lz - 1))) + (63 : Int32))), (.ref sm), (.ref a)])) _
    refine own_by (fun zt zk => XS.bipush X8.here hx rfl (hb hby d_prog_104_method_16_41) zk) ?_
    show own_Go p.tables e below (T8.setTop (mkF m 43 #[.val (.ref a), .val (.int ln)] [(.int (6 : Int32)), (.int ((Int32.ofNat (own_pw (Lz - 1))) + (63 : Int32))), (.ref sm), (.ref a)])) _
    refine own_by (fun zt zk => XS.iushr X8.here hx rfl (hb hby d_prog_104_method_16_43) rfl zk) ?_
    show own_Go p.tables e below (T8.setTop (mkF m 44 #[.val (.ref a), .val (.int ln)] [(.int ((((Int32.ofNat (own_pw (Lz - 1))) + (63 : Int32)).toUInt32 >>> ((6 : Int32) &&& 31).toUInt32).toInt32)), (.ref sm), (.ref a)])) _
    obtain ⟨mv, hmv⟩ : ∃ z, z = ((((Int32.ofNat (own_pw (Lz - 1))) + (63 : Int32)).toUInt32 >>> ((6 : Int32) &&& 31).toUInt32).toInt32) := ⟨_, rfl⟩
    rw [← hmv]
    show own_Go p.tables e below (T8.setTop (mkF m 44 #[.val (.ref a), .val (.int ln)] [(.int mv), (.ref sm), (.ref a)])) _
    obtain ⟨hmv, m1, m2⟩ := own_mm hmv q4
    obtain ⟨_, _, ⟨T9, L9, k9, n9⟩, -, X9, ⟨s2, hv9, g9, E9, V9, EX9, l9, y9, z9⟩, st9⟩ := Jvm.LawKit.callS X8 hx (y := (⟨"java/util/Arrays", "copyOf", "([JI)[J"⟩ : MethodName)) hown (mvT hZ (hw _ (List.mem_of_getElem? (i := 39) rfl))) (mvT hZ (hw _ (List.mem_of_getElem? (i := 40) rfl))) (mvT hZ (hw _ (List.mem_of_getElem? (i := 41) rfl))) (mvT hZ (hw _ (List.mem_of_getElem? (i := 42) rfl))) (by decide) (own_copy (W := 1) (n := ((own_pw (Lz - 1) + 63) / 64)) (cap := 16) hZ ((kAs.ext E4).other W5 (Ne.symm kn2)) ((kEs.ext E4).wr W5) (Nat.lt_of_le_of_lt kb3 (by decide)) hmv m1 (by decide) (by decide) (by decide) (own_tab hZ hw)) (g := (mkF m 44 #[.val (.ref a), .val (.int ln)] [(.int mv), (.ref sm), (.ref a)])) rfl (by rw [hml]; rfl) (argsL := [(.ref sm), (.int mv)]) (rest := [(.ref a)]) (lenOf pd_97 rfl) rfl (by show 2 * 0 + _ ≤ _; exact Nat.le_of_eq rfl) (hb hby d_prog_104_method_16_44) (fun _ _ => ⟨rfl, e8, (by decide : 1 + 1 ≤ _), (by decide : 1024 + 16 ≤ _)⟩)
    dsimp only [Pt.U, Pt.locs, Pt.cells, Pt.slots] at X9 l9 y9 z9 st9 E9 V9 EX9
    subst l9 y9 z9 hv9
    have ne_s2_a : s2 ≠ a := Nat.ne_of_gt (g9 ▸ (((kE.ext E4).wr W5)).lt)
    have ne_s2_ws : s2 ≠ ws := Nat.ne_of_gt (g9 ▸ (((kAw.ext E4).other W5 (Ne.symm kn1))).lt)
    have ne_s2_sm : s2 ≠ sm := Nat.ne_of_gt (g9 ▸ (((kAs.ext E4).other W5 (Ne.symm kn2))).lt)
    have ne_s2_w2 : s2 ≠ w2 := Nat.ne_of_gt (g9 ▸ ((V4.other W5 ne_w2_a)).lt)
    have sz_s2 : h0.size ≤ s2 := Nat.le_trans K5 (Nat.le_of_eq g9.symm)
    have K9 : h0.size ≤ T9.heap.size := Nat.le_trans K5 E9.1
    refine own_by (st9) ?_
    show own_Go p.tables e below (T9.setTop (mkF m 47 #[.val (.ref a), .val (.int ln)] [(.ref s2), (.ref a)])) _
    obtain ⟨T10, hea10, X10, e10, W10, st10⟩ := putF X9 hx hZ hown (host := "") (Or.inl (hw _ (List.mem_of_getElem? (i := 13) rfl))) Via.refl rfl (c7.ext E9) (((kE.ext E4).wr W5).ext E9) (Or.inl (hw _ (List.mem_of_getElem? (i := 14) rfl))) (hw _ (List.mem_of_getElem? (i := 2) rfl)) (ty := (.array .long)) (by decide) rfl rfl (g := (mkF m 47 #[.val (.ref a), .val (.int ln)] [(.ref s2), (.ref a)])) rfl rfl (hb hby d_prog_104_method_16_47)
    have Fw10 := ((c7.ext E9)).same W10
    have N10 := Fr.snoc X10 N5 kga
    have K10 : h0.size ≤ hea10.size := Nat.le_trans K9 (Nat.le_of_eq W10.size.symm)
    refine own_by (st10) ?_
    show own_Go p.tables e below (T10.setTop (mkF m 50 #[.val (.ref a), .val (.int ln)] [])) _
    have c11 := ((Fw5.ext E9).other W10 (Or.inr (slot_ne (Or.inl (hw _ (List.mem_of_getElem? (i := 12) rfl))) (Or.inl (hw _ (List.mem_of_getElem? (i := 14) rfl))) (by decide) (t := (.array .long)) (t' := (.array .long)) (by decide) (by decide))))
    exact own_retV X10 hx Bd.notSynchronized Bd.returns (hb hby d_prog_104_method_16_50) (by (try rw [e10]); exact ⟨rfl, N10, K10, _, _, _, _, _, ⟨((((kE.ext E4).wr W5).ext E9).wr W10), c11, Fw10, (((V4.other W5 ne_w2_a).ext E9).other W10 ne_w2_a), (((EX4.wr W5).ext E9).wr W10), (V9.other W10 ne_s2_a), (EX9.wr W10), kga, (Nat.le_trans Z0 sz_w2), (Nat.le_trans Z0 sz_s2), (Ne.symm ne_w2_a), (Ne.symm ne_s2_a), (Ne.symm ne_s2_w2), (by omega), q4, m1, m2⟩, (by omega), (by omega)⟩) (by decide) (by decide)
  · refine own_by (fun zt zk => XS.icmpYes X1.here hx rfl (pc0 := 6) (pc' := 50) rfl (hb hby d_prog_104_method_16_6) rfl (flt h1).2.2.2 (by decide) (by decide) zk) ?_
    show own_Go p.tables e below (T1.setTop (mkF m 50 #[.val (.ref a), .val (.int ln)] [])) _
    have hNL := own_le' hln (Nat.le_trans kb2 (by decide)) hL2 h1
    exact own_retV X1 hx Bd.notSynchronized Bd.returns (hb hby d_prog_104_method_16_50) (by (try rw [e1]); exact ⟨rfl, N0, (Nat.le_refl h0.size), _, _, _, _, _, ⟨kE, kFw, kFs, (own_AJ.congr kAw fun i hi => (if_pos hi).symm), kEw, kAs, kEs, kga, kgw, kgs, kn1, kn2, kn3, kb1, kb2, kb3, kb4⟩, hNL, Nat.le_refl _⟩) (by decide) (by decide)
theorem d_prog_104_method_3_0 : decode prog_104_method_3_code 0 = .ok (.iload_n 1, 1) := by decide +kernel
theorem d_prog_104_method_3_1 : decode prog_104_method_3_code 1 = .ok (.bipush 6, 2) := by decide +kernel
theorem d_prog_104_method_3_3 : decode prog_104_method_3_code 3 = .ok (.iushr, 1) := by decide +kernel
theorem d_prog_104_method_3_4 : decode prog_104_method_3_code 4 = .ok (.istore_n 3, 1) := by decide +kernel
theorem d_prog_104_method_3_5 : decode prog_104_method_3_code 5 = .ok (.iload_n 2, 1) := by decide +kernel
theorem d_prog_104_method_3_6 : decode prog_104_method_3_code 6 = .ok (.ifCond .eq 51, 3) := by decide +kernel
theorem d_prog_104_method_3_57 : decode prog_104_method_3_code 57 = .ok (.iload_n 3, 1) := by decide +kernel
theorem d_prog_104_method_3_58 : decode prog_104_method_3_code 58 = .ok (.aload_n 0, 1) := by decide +kernel
theorem d_prog_104_method_3_59 : decode prog_104_method_3_code 59 = .ok (.getfield 7, 3) := by decide +kernel
theorem d_prog_104_method_3_62 : decode prog_104_method_3_code 62 = .ok (.arraylength, 1) := by decide +kernel
theorem d_prog_104_method_3_63 : decode prog_104_method_3_code 63 = .ok (.if_icmp .ge 19, 3) := by decide +kernel
theorem d_prog_104_method_3_66 : decode prog_104_method_3_code 66 = .ok (.aload_n 0, 1) := by decide +kernel
theorem d_prog_104_method_3_67 : decode prog_104_method_3_code 67 = .ok (.getfield 7, 3) := by decide +kernel
theorem d_prog_104_method_3_70 : decode prog_104_method_3_code 70 = .ok (.iload_n 3, 1) := by decide +kernel
theorem d_prog_104_method_3_71 : decode prog_104_method_3_code 71 = .ok (.dup2, 1) := by decide +kernel
theorem d_prog_104_method_3_72 : decode prog_104_method_3_code 72 = .ok (.laload, 1) := by decide +kernel
theorem d_prog_104_method_3_73 : decode prog_104_method_3_code 73 = .ok (.lconst 1, 1) := by decide +kernel
theorem d_prog_104_method_3_74 : decode prog_104_method_3_code 74 = .ok (.iload_n 1, 1) := by decide +kernel
theorem d_prog_104_method_3_75 : decode prog_104_method_3_code 75 = .ok (.lshl, 1) := by decide +kernel
theorem d_prog_104_method_3_76 : decode prog_104_method_3_code 76 = .ok (.ldc2_w 20, 3) := by decide +kernel
theorem d_prog_104_method_3_79 : decode prog_104_method_3_code 79 = .ok (.lxor, 1) := by decide +kernel
theorem d_prog_104_method_3_80 : decode prog_104_method_3_code 80 = .ok (.land, 1) := by decide +kernel
theorem d_prog_104_method_3_81 : decode prog_104_method_3_code 81 = .ok (.lastore, 1) := by decide +kernel
theorem d_prog_104_method_3_82 : decode prog_104_method_3_code 82 = .ok (.return_, 1) := by decide +kernel
theorem d_prog_104_method_3_9 : decode prog_104_method_3_code 9 = .ok (.aload_n 0, 1) := by decide +kernel
theorem d_prog_104_method_3_10 : decode prog_104_method_3_code 10 = .ok (.iload_n 3, 1) := by decide +kernel
theorem d_prog_104_method_3_11 : decode prog_104_method_3_code 11 = .ok (.iconst 1, 1) := by decide +kernel
theorem d_prog_104_method_3_12 : decode prog_104_method_3_code 12 = .ok (.iadd, 1) := by decide +kernel
theorem d_prog_104_method_3_13 : decode prog_104_method_3_code 13 = .ok (.invokevirtual 16, 3) := by decide +kernel
theorem pd_141 : parseMethodDescriptor "(I)V" = some ⟨[.int], none⟩ := by decide +kernel
theorem d_prog_104_method_3_16 : decode prog_104_method_3_code 16 = .ok (.aload_n 0, 1) := by decide +kernel
theorem d_prog_104_method_3_17 : decode prog_104_method_3_code 17 = .ok (.getfield 7, 3) := by decide +kernel
theorem d_prog_104_method_3_20 : decode prog_104_method_3_code 20 = .ok (.iload_n 3, 1) := by decide +kernel
theorem d_prog_104_method_3_21 : decode prog_104_method_3_code 21 = .ok (.laload, 1) := by decide +kernel
theorem d_prog_104_method_3_22 : decode prog_104_method_3_code 22 = .ok (.lconst 0, 1) := by decide +kernel
theorem d_prog_104_method_3_23 : decode prog_104_method_3_code 23 = .ok (.lcmp, 1) := by decide +kernel
theorem d_prog_104_method_3_24 : decode prog_104_method_3_code 24 = .ok (.ifCond .ne 18, 3) := by decide +kernel
theorem d_prog_104_method_3_27 : decode prog_104_method_3_code 27 = .ok (.aload_n 0, 1) := by decide +kernel
theorem d_prog_104_method_3_28 : decode prog_104_method_3_code 28 = .ok (.getfield 13, 3) := by decide +kernel
theorem d_prog_104_method_3_31 : decode prog_104_method_3_code 31 = .ok (.iload_n 3, 1) := by decide +kernel
theorem d_prog_104_method_3_32 : decode prog_104_method_3_code 32 = .ok (.bipush 6, 2) := by decide +kernel
theorem d_prog_104_method_3_34 : decode prog_104_method_3_code 34 = .ok (.iushr, 1) := by decide +kernel
theorem d_prog_104_method_3_35 : decode prog_104_method_3_code 35 = .ok (.dup2, 1) := by decide +kernel
theorem d_prog_104_method_3_36 : decode prog_104_method_3_code 36 = .ok (.laload, 1) := by decide +kernel
theorem d_prog_104_method_3_37 : decode prog_104_method_3_code 37 = .ok (.lconst 1, 1) := by decide +kernel
theorem d_prog_104_method_3_38 : decode prog_104_method_3_code 38 = .ok (.iload_n 3, 1) := by decide +kernel
theorem d_prog_104_method_3_39 : decode prog_104_method_3_code 39 = .ok (.lshl, 1) := by decide +kernel
theorem d_prog_104_method_3_40 : decode prog_104_method_3_code 40 = .ok (.lor, 1) := by decide +kernel
theorem d_prog_104_method_3_41 : decode prog_104_method_3_code 41 = .ok (.lastore, 1) := by decide +kernel
theorem d_prog_104_method_3_42 : decode prog_104_method_3_code 42 = .ok (.aload_n 0, 1) := by decide +kernel
theorem d_prog_104_method_3_43 : decode prog_104_method_3_code 43 = .ok (.getfield 7, 3) := by decide +kernel
theorem d_prog_104_method_3_46 : decode prog_104_method_3_code 46 = .ok (.iload_n 3, 1) := by decide +kernel
theorem d_prog_104_method_3_47 : decode prog_104_method_3_code 47 = .ok (.dup2, 1) := by decide +kernel
theorem d_prog_104_method_3_48 : decode prog_104_method_3_code 48 = .ok (.laload, 1) := by decide +kernel
theorem d_prog_104_method_3_49 : decode prog_104_method_3_code 49 = .ok (.lconst 1, 1) := by decide +kernel
theorem d_prog_104_method_3_50 : decode prog_104_method_3_code 50 = .ok (.iload_n 1, 1) := by decide +kernel
theorem d_prog_104_method_3_51 : decode prog_104_method_3_code 51 = .ok (.lshl, 1) := by decide +kernel
theorem d_prog_104_method_3_52 : decode prog_104_method_3_code 52 = .ok (.lor, 1) := by decide +kernel
theorem d_prog_104_method_3_53 : decode prog_104_method_3_code 53 = .ok (.lastore, 1) := by decide +kernel
theorem d_prog_104_method_3_54 : decode prog_104_method_3_code 54 = .ok (.goto 28, 3) := by decide +kernel
def Q_rm_set (Z : State) (a : Addr) (nu mb : Int32) (ws sm : Addr) (N M : Nat) (f g : Nat → Int64) (h0 : Heap) (n0 : Nat) (v : Option Value) (h : Heap) (L : List Loc) : Prop := v = none ∧ Fr n0 L ∧ h0.size ≤ h.size ∧ ∃ (ws2 sm2 : Addr) (N2 M2 : Nat) (g2 : Nat → Int64), ((mb = (0 : Int32) ∧ N2 = N ∧ own_NS Z n0 h a ws2 sm2 N2 M2 (own_clr N f nu) g2) ∨ (¬ mb = (0 : Int32) ∧ own_ix nu < N2 ∧ N ≤ N2 ∧ own_NS Z n0 h a ws2 sm2 N2 M2 (own_put (own_ext N f) nu) g2))
theorem ef_rm_set (m : MethodId) (a : Addr) (nu : Int32) (mb : Int32) : entryFrame m #[(.ref a), (.int nu), (.int mb)] 4 = mkF m 0 #[.val (.ref a), .val (.int nu), .val (.int mb), .unset] [] := by first | (simp [entryFrame, mkF, argsToLocals, Value.category]; done) | rfl
set_option maxRecDepth 65536 in
set_option maxHeartbeats 40000000 in
theorem rm_set (l : Launch) (Z : State) (a0 : Array Value) (hw : ∀ d ∈ tables_1, d.before a0 Z = true) (zws : List Jvm.Cond) (a : Addr) (nu mb : Int32) (ws sm : Addr) (N M : Nat) (f g : Nat → Int64) (h0 : Heap) (n0 : Nat) (Z0 : n0 ≤ h0.size) (NS0 : own_NS Z n0 h0 a ws sm N M f g) (hnu : 0 ≤ nu.toInt ∧ nu.toInt < 65536) :
    MetFree l (⟨"com/example/cutset/cutset/search/NumberSet", "set", "(IZ)V"⟩ : MethodName) (head1 (Jvm.Cond.code (⟨"com/example/cutset/cutset/search/NumberSet", "set", "(IZ)V"⟩ : MethodName) prog_104_method_3_code 4 none :: zws) ({ frames := 3, cells := 2, slots := 1040, locals := 68 } : Room)) (fun zA zU => zA = #[(.ref a), (.int nu), (.int mb)] ∧ Z.Warmed39 zU.vm ∧ zU.heap = h0) (fun _ _ _ _ _ => True) (fun _ zU zo zW => ∃ zv zL, zo = .returned zv ∧ (Q_rm_set Z a nu mb ws sm N M f g h0 n0) zv zW.heap zL ∧ FrameEnd zU zo zW zL ({ frames := 3, cells := 2, slots := 1040, locals := 68 } : Room).cells ({ frames := 3, cells := 2, slots := 1040, locals := 68 } : Room).slots) := by
  refine MetFree.of_bodySF (plainFor_of_name pn_11) hisR ?_
  intro p e s m args below meth c s₁ Bd hml0 hP hK
  obtain ⟨rfl, hZ, hh⟩ := hP
  have hx := Bd.exec
  have hby := Bd.bytes
  have hml : c.maxLocals = 4 := hml0
  have hown : s.vm.findClass "com/example/cutset/cutset/search/NumberSet" = some m.cls := findClass_of_methodNamed Bd.named
  have hnm := (name_of_methodNamed Bd.named Bd.method).1
  have X0 : Stand p l e ({ frames := 3, cells := 2, slots := 1040, locals := 68 } : Room) s m #[(.ref a), (.int nu), (.int mb)] below meth c s₁ [] 0 0 := Stand.of_body Bd
  have e0 : s₁.heap = h0 := by rw [← hh, Bd.state]; rfl
  have N0 := Fr.nil n0
  refine own_out (Q := Q_rm_set Z a nu mb ws sm N M f g h0 n0) ?_
  refine own_cast (ef_rm_set m a nu mb) ?_
  show own_Go p.tables e below (s₁.setTop (mkF m 0 #[.val (.ref a), .val (.int nu), .val (.int mb), .unset] [])) _
  obtain ⟨kE, kFw, kFs, kAw, kEw, kAs, kEs, kga, kgw, kgs, kn1, kn2, kn3, kb1, kb2, kb3, kb4⟩ := NS0
  show own_Go p.tables e below (s₁.setTop (mkF m 0 #[.val (.ref a), .val (.int nu), .val (.int mb), .unset] [])) _
  refine own_by (fun zt zk => XS.iloadN X0.here hx rfl (hb hby d_prog_104_method_3_0) rfl zk) ?_
  show own_Go p.tables e below (s₁.setTop (mkF m 1 #[.val (.ref a), .val (.int nu), .val (.int mb), .unset] [(.int nu)])) _
  refine own_by (fun zt zk => XS.bipush X0.here hx rfl (hb hby d_prog_104_method_3_1) zk) ?_
  show own_Go p.tables e below (s₁.setTop (mkF m 3 #[.val (.ref a), .val (.int nu), .val (.int mb), .unset] [(.int (6 : Int32)), (.int nu)])) _
  refine own_by (fun zt zk => XS.iushr X0.here hx rfl (hb hby d_prog_104_method_3_3) rfl zk) ?_
  show own_Go p.tables e below (s₁.setTop (mkF m 4 #[.val (.ref a), .val (.int nu), .val (.int mb), .unset] [(.int ((nu.toUInt32 >>> ((6 : Int32) &&& 31).toUInt32).toInt32))])) _
  obtain ⟨ix, hix⟩ : ∃ z, z = ((nu.toUInt32 >>> ((6 : Int32) &&& 31).toUInt32).toInt32) := ⟨_, rfl⟩
  rw [← hix]
  show own_Go p.tables e below (s₁.setTop (mkF m 4 #[.val (.ref a), .val (.int nu), .val (.int mb), .unset] [(.int ix)])) _
  obtain ⟨hI, hI2⟩ := own_ixs hix hnu
  refine own_by (fun zt zk => XS.istoreN X0.here hx rfl (hb hby d_prog_104_method_3_4) rfl (l' := #[.val (.ref a), .val (.int nu), .val (.int mb), .val (.int ix)]) rfl zk) ?_
  show own_Go p.tables e below (s₁.setTop (mkF m 5 #[.val (.ref a), .val (.int nu), .val (.int mb), .val (.int ix)] [])) _
  refine own_by (fun zt zk => XS.iloadN X0.here hx rfl (hb hby d_prog_104_method_3_5) rfl zk) ?_
  show own_Go p.tables e below (s₁.setTop (mkF m 6 #[.val (.ref a), .val (.int nu), .val (.int mb), .val (.int ix)] [(.int mb)])) _
  by_cases h1 : mb = (0 : Int32)
  · refine own_by (fun zt zk => XS.ifYes X0.here hx rfl (pc0 := 6) (pc' := 57) rfl (hb hby d_prog_104_method_3_6) rfl ((if0 _ _).trans (teq h1).1) (by decide) (by decide) zk) ?_
    show own_Go p.tables e below (s₁.setTop (mkF m 57 #[.val (.ref a), .val (.int nu), .val (.int mb), .val (.int ix)] [])) _
    refine own_by (fun zt zk => XS.iloadN X0.here hx rfl (hb hby d_prog_104_method_3_57) rfl zk) ?_
    show own_Go p.tables e below (s₁.setTop (mkF m 58 #[.val (.ref a), .val (.int nu), .val (.int mb), .val (.int ix)] [(.int ix)])) _
    refine own_by (fun zt zk => XS.aloadN X0.here hx rfl (hb hby d_prog_104_method_3_58) rfl rfl zk) ?_
    show own_Go p.tables e below (s₁.setTop (mkF m 59 #[.val (.ref a), .val (.int nu), .val (.int mb), .val (.int ix)] [(.ref a), (.int ix)])) _
    obtain ⟨T1, X1, e1, st1⟩ := getF X0 hx hZ hown (host := "") (Or.inl (hw _ (List.mem_of_getElem? (i := 11) rfl))) Via.refl e0 kFw (g := (mkF m 59 #[.val (.ref a), .val (.int nu), .val (.int mb), .val (.int ix)] [(.ref a), (.int ix)])) rfl rfl (hb hby d_prog_104_method_3_59)
    refine own_by (st1) ?_
    show own_Go p.tables e below (T1.setTop (mkF m 62 #[.val (.ref a), .val (.int nu), .val (.int mb), .val (.int ix)] [(.ref ws), (.int ix)])) _
    refine own_by (own_len X1 hx hZ e1 kAw (z := (Int32.ofNat N)) rfl (g := (mkF m 62 #[.val (.ref a), .val (.int nu), .val (.int mb), .val (.int ix)] [(.ref ws), (.int ix)])) rfl rfl (hb hby d_prog_104_method_3_62)) ?_
    show own_Go p.tables e below (T1.setTop (mkF m 63 #[.val (.ref a), .val (.int nu), .val (.int mb), .val (.int ix)] [(.int (Int32.ofNat N)), (.int ix)])) _
    by_cases h2 : ix < (Int32.ofNat N)
    · refine own_by (fun zt zk => XS.icmpNo X1.here hx rfl (hb hby d_prog_104_method_3_63) rfl (tlt h2).2.1 zk) ?_
      show own_Go p.tables e below (T1.setTop (mkF m 66 #[.val (.ref a), .val (.int nu), .val (.int mb), .val (.int ix)] [])) _
      obtain ⟨i0, ik, il⟩ := own_ixq hix (Nat.le_trans kb2 (by decide)) h2
      refine own_by (fun zt zk => XS.aloadN X1.here hx rfl (hb hby d_prog_104_method_3_66) rfl rfl zk) ?_
      show own_Go p.tables e below (T1.setTop (mkF m 67 #[.val (.ref a), .val (.int nu), .val (.int mb), .val (.int ix)] [(.ref a)])) _
      obtain ⟨T2, X2, e2, st2⟩ := getF X1 hx hZ hown (host := "") (Or.inl (hw _ (List.mem_of_getElem? (i := 11) rfl))) Via.refl e1 kFw (g := (mkF m 67 #[.val (.ref a), .val (.int nu), .val (.int mb), .val (.int ix)] [(.ref a)])) rfl rfl (hb hby d_prog_104_method_3_67)
      refine own_by (st2) ?_
      show own_Go p.tables e below (T2.setTop (mkF m 70 #[.val (.ref a), .val (.int nu), .val (.int mb), .val (.int ix)] [(.ref ws)])) _
      refine own_by (fun zt zk => XS.iloadN X2.here hx rfl (hb hby d_prog_104_method_3_70) rfl zk) ?_
      show own_Go p.tables e below (T2.setTop (mkF m 71 #[.val (.ref a), .val (.int nu), .val (.int mb), .val (.int ix)] [(.int ix), (.ref ws)])) _
      refine own_by (S' := T2.setTop (mkF m 72 #[.val (.ref a), .val (.int nu), .val (.int mb), .val (.int ix)] [(.int ix), (.ref ws), (.int ix), (.ref ws)])) (fun zt zk => ?_) ?_
      · jvm_step X2.here [X2.here.top, hx, (hb hby d_prog_104_method_3_71), Value.category]
        exact zk
      show own_Go p.tables e below (T2.setTop (mkF m 72 #[.val (.ref a), .val (.int nu), .val (.int mb), .val (.int ix)] [(.int ix), (.ref ws), (.int ix), (.ref ws)])) _
      refine own_by (own_ldJ X2 hx hZ e2 kAw (j := ix) (k := (own_ix nu)) i0 ik il (g := (mkF m 72 #[.val (.ref a), .val (.int nu), .val (.int mb), .val (.int ix)] [(.int ix), (.ref ws), (.int ix), (.ref ws)])) rfl rfl (hb hby d_prog_104_method_3_72)) ?_
      show own_Go p.tables e below (T2.setTop (mkF m 73 #[.val (.ref a), .val (.int nu), .val (.int mb), .val (.int ix)] [(.long (f (own_ix nu))), (.int ix), (.ref ws)])) _
      refine own_by (fun zt zk => XS.lconst X2.here hx rfl (hb hby d_prog_104_method_3_73) zk) ?_
      show own_Go p.tables e below (T2.setTop (mkF m 74 #[.val (.ref a), .val (.int nu), .val (.int mb), .val (.int ix)] [(.long (1 : Int64)), (.long (f (own_ix nu))), (.int ix), (.ref ws)])) _
      refine own_by (fun zt zk => XS.iloadN X2.here hx rfl (hb hby d_prog_104_method_3_74) rfl zk) ?_
      show own_Go p.tables e below (T2.setTop (mkF m 75 #[.val (.ref a), .val (.int nu), .val (.int mb), .val (.int ix)] [(.int nu), (.long (1 : Int64)), (.long (f (own_ix nu))), (.int ix), (.ref ws)])) _
      refine own_by (fun zt zk => XS.lshl X2.here hx rfl (hb hby d_prog_104_method_3_75) rfl zk) ?_
      show own_Go p.tables e below (T2.setTop (mkF m 76 #[.val (.ref a), .val (.int nu), .val (.int mb), .val (.int ix)] [(.long ((1 : Int64) <<< (nu &&& 0x3f).toInt64)), (.long (f (own_ix nu))), (.int ix), (.ref ws)])) _
      refine own_by (X2.ldc2Long hx hown (mvT hZ (hw _ (List.mem_of_getElem? (i := 29) rfl))) (g := (mkF m 76 #[.val (.ref a), .val (.int nu), .val (.int mb), .val (.int ix)] [(.long ((1 : Int64) <<< (nu &&& 0x3f).toInt64)), (.long (f (own_ix nu))), (.int ix), (.ref ws)])) rfl (hb hby d_prog_104_method_3_76)) ?_
      show own_Go p.tables e below (T2.setTop (mkF m 79 #[.val (.ref a), .val (.int nu), .val (.int mb), .val (.int ix)] [(.long (-1 : Int64)), (.long ((1 : Int64) <<< (nu &&& 0x3f).toInt64)), (.long (f (own_ix nu))), (.int ix), (.ref ws)])) _
      refine own_by (fun zt zk => XS.lxor X2.here hx rfl (hb hby d_prog_104_method_3_79) rfl zk) ?_
      show own_Go p.tables e below (T2.setTop (mkF m 80 #[.val (.ref a), .val (.int nu), .val (.int mb), .val (.int ix)] [(.long (((1 : Int64) <<< (nu &&& 0x3f).toInt64) ^^^ (-1 : Int64))), (.long (f (own_ix nu))), (.int ix), (.ref ws)])) _
      refine own_by (fun zt zk => XS.land X2.here hx rfl (hb hby d_prog_104_method_3_80) rfl zk) ?_
      show own_Go p.tables e below (T2.setTop (mkF m 81 #[.val (.ref a), .val (.int nu), .val (.int mb), .val (.int ix)] [(.long ((f (own_ix nu)) &&& (((1 : Int64) <<< (nu &&& 0x3f).toInt64) ^^^ (-1 : Int64)))), (.int ix), (.ref ws)])) _
      obtain ⟨T3, hea3, X3, e3, W3, V3, st3⟩ := own_stJ X2 hx hZ e2 kAw (j := ix) (k := (own_ix nu)) i0 ik il (g := (mkF m 81 #[.val (.ref a), .val (.int nu), .val (.int mb), .val (.int ix)] [(.long ((f (own_ix nu)) &&& (((1 : Int64) <<< (nu &&& 0x3f).toInt64) ^^^ (-1 : Int64)))), (.int ix), (.ref ws)])) rfl rfl (hb hby d_prog_104_method_3_81)
      have N3 := Fr.snoc X3 N0 kgw
      have K3 : h0.size ≤ hea3.size := Nat.le_trans (Nat.le_refl h0.size) (Nat.le_of_eq W3.size.symm)
      refine own_by (st3) ?_
      show own_Go p.tables e below (T3.setTop (mkF m 82 #[.val (.ref a), .val (.int nu), .val (.int mb), .val (.int ix)] [])) _
      exact own_retV X3 hx Bd.notSynchronized Bd.returns (hb hby d_prog_104_method_3_82) (by (try rw [e3]); exact ⟨rfl, N3, K3, _, _, _, _, _, Or.inl ⟨h1, rfl, ⟨(kE.wr W3), (kFw.other W3 (Or.inl kn1)), (kFs.other W3 (Or.inl kn1)), (own_AJ.congr V3 fun i _ => by unfold own_clr; rw [if_pos il]; rfl), (kEw.wr W3), (kAs.other W3 (Ne.symm kn3)), (kEs.wr W3), kga, kgw, kgs, kn1, kn2, kn3, kb1, kb2, kb3, kb4⟩⟩⟩) (by decide) (by decide)
    · refine own_by (fun zt zk => XS.icmpYes X1.here hx rfl (pc0 := 63) (pc' := 82) rfl (hb hby d_prog_104_method_3_63) rfl (flt h2).2.1 (by decide) (by decide) zk) ?_
      show own_Go p.tables e below (T1.setTop (mkF m 82 #[.val (.ref a), .val (.int nu), .val (.int mb), .val (.int ix)] [])) _
      have il := own_le' (N := own_ix nu) (Lz := N) rfl (by omega) kb2 (by rw [← hI]; exact h2)
      exact own_retV X1 hx Bd.notSynchronized Bd.returns (hb hby d_prog_104_method_3_82) (by (try rw [e1]); exact ⟨rfl, N0, (Nat.le_refl h0.size), _, _, _, _, _, Or.inl ⟨h1, rfl, ⟨kE, kFw, kFs, (own_AJ.congr kAw fun i _ => by unfold own_clr; rw [if_neg (by omega)]), kEw, kAs, kEs, kga, kgw, kgs, kn1, kn2, kn3, kb1, kb2, kb3, kb4⟩⟩⟩) (by decide) (by decide)
  · refine own_by (fun zt zk => XS.ifNo X0.here hx rfl (hb hby d_prog_104_method_3_6) rfl ((if0 _ _).trans (feq h1).1) zk) ?_
    show own_Go p.tables e below (s₁.setTop (mkF m 9 #[.val (.ref a), .val (.int nu), .val (.int mb), .val (.int ix)] [])) _
    refine own_by (fun zt zk => XS.aloadN X0.here hx rfl (hb hby d_prog_104_method_3_9) rfl rfl zk) ?_
    show own_Go p.tables e below (s₁.setTop (mkF m 10 #[.val (.ref a), .val (.int nu), .val (.int mb), .val (.int ix)] [(.ref a)])) _
    refine own_by (fun zt zk => XS.iloadN X0.here hx rfl (hb hby d_prog_104_method_3_10) rfl zk) ?_
    show own_Go p.tables e below (s₁.setTop (mkF m 11 #[.val (.ref a), .val (.int nu), .val (.int mb), .val (.int ix)] [(.int ix), (.ref a)])) _
    refine own_by (fun zt zk => XS.iconst X0.here hx rfl (hb hby d_prog_104_method_3_11) zk) ?_
    show own_Go p.tables e below (s₁.setTop (mkF m 12 #[.val (.ref a), .val (.int nu), .val (.int mb), .val (.int ix)] [(.int (1 : Int32)), (.int ix), (.ref a)])) _
    refine own_by (fun zt zk => XS.iadd X0.here hx rfl (hb hby d_prog_104_method_3_12) rfl zk) ?_
    show own_Go p.tables e below (s₁.setTop (mkF m 13 #[.val (.ref a), .val (.int nu), .val (.int mb), .val (.int ix)] [(.int (ix + (1 : Int32))), (.ref a)])) _
    obtain ⟨l1, hl1⟩ : ∃ z, z = (ix + (1 : Int32)) := ⟨_, rfl⟩
    rw [← hl1]
    show own_Go p.tables e below (s₁.setTop (mkF m 13 #[.val (.ref a), .val (.int nu), .val (.int mb), .val (.int ix)] [(.int l1), (.ref a)])) _
    have hl2 : l1 = Int32.ofNat (own_ix nu + 1) := by rw [hl1, hI]; exact (Int32.ofNat_add _ 1).symm
    obtain ⟨cq4, q4, q4'⟩ := (kE).cell
    obtain ⟨_, _, ⟨T4, L4, k4, n4⟩, -, X4, ⟨Lc4, hQ4, l4, y4, z4⟩, st4⟩ := X0.privateBack hx (y := (⟨"com/example/cutset/cutset/search/NumberSet", "reserve", "(I)V"⟩ : MethodName)) hown (mvT hZ (hw _ (List.mem_of_getElem? (i := 25) rfl))) (mvT hZ (hw _ (List.mem_of_getElem? (i := 26) rfl))) (mvT hZ (Jvm.Kit.selects_private (y := (⟨"com/example/cutset/cutset/search/NumberSet", "reserve", "(I)V"⟩ : MethodName)) (by decide) (hw _ (List.mem_of_getElem? (i := 2) rfl)) (hw _ (List.mem_of_getElem? (i := 27) rfl)) (hw _ (List.mem_of_getElem? (i := 26) rfl)))) (Cond.privateMethod_at (mvP hZ (hw _ (List.mem_of_getElem? (i := 27) rfl)) (args := #[]))) (mvT hZ (hw _ (List.mem_of_getElem? (i := 28) rfl))) (by decide) (backOf (W := 0) (rm_res l Z a0 hw [] a l1 ws sm N M f g (own_ix nu + 1) h0 n0 (Nat.le_trans Z0 (Nat.le_refl h0.size)) ⟨kE, kFw, kFs, kAw, kEw, kAs, kEs, kga, kgw, kgs, kn1, kn2, kn3, kb1, kb2, kb3, kb4⟩ hl2 (by omega) (by omega)) hZ (hw _ (List.mem_of_getElem? (i := 28) rfl)) (hw _ (List.mem_of_getElem? (i := 3) rfl)) (by decide) (by decide)) (g := (mkF m 13 #[.val (.ref a), .val (.int nu), .val (.int mb), .val (.int ix)] [(.int l1), (.ref a)])) rfl (by rw [hml]; rfl) (Steps.refl _) (a := a) (by rw [e0]; exact q4) q4' (argsL := [(.int l1)]) (rest := []) (lenOf pd_141 rfl) rfl (by show 2 * 0 + _ ≤ _; exact Nat.le_of_eq rfl) (hb hby d_prog_104_method_3_13) (fun _ _ => ⟨rfl, e0, (by decide : 0 + 2 ≤ _), (by decide : 0 + 1040 ≤ _)⟩)
    dsimp only [Pt.U, Pt.locs, Pt.cells, Pt.slots] at X4 l4 y4 z4 st4 hQ4
    subst l4 y4 z4
    obtain ⟨rfl, N4q, Kc4, ws2, sm2, N2, M2, g2, NS2, hl, hNN⟩ := hQ4
    have N4 := Fr.app N0 N4q
    have K4 : h0.size ≤ T4.heap.size := Nat.le_trans (Nat.le_refl h0.size) Kc4
    refine own_tr st4 ?_
    show own_Go p.tables e below (T4.setTop (mkF m 16 #[.val (.ref a), .val (.int nu), .val (.int mb), .val (.int ix)] [])) _
    obtain ⟨jE, jFw, jFs, jAw, jEw, jAs, jEs, jga, jgw, jgs, jn1, jn2, jn3, jb1, jb2, jb3, jb4⟩ := NS2
    show own_Go p.tables e below (T4.setTop (mkF m 16 #[.val (.ref a), .val (.int nu), .val (.int mb), .val (.int ix)] [])) _
    obtain ⟨i0, ik⟩ := own_ixN hI (show own_ix nu < 2147483648 by omega)
    refine own_by (fun zt zk => XS.aloadN X4.here hx rfl (hb hby d_prog_104_method_3_16) rfl rfl zk) ?_
    show own_Go p.tables e below (T4.setTop (mkF m 17 #[.val (.ref a), .val (.int nu), .val (.int mb), .val (.int ix)] [(.ref a)])) _
    obtain ⟨T5, X5, e5, st5⟩ := getF X4 hx hZ hown (host := "") (Or.inl (hw _ (List.mem_of_getElem? (i := 11) rfl))) Via.refl rfl jFw (g := (mkF m 17 #[.val (.ref a), .val (.int nu), .val (.int mb), .val (.int ix)] [(.ref a)])) rfl rfl (hb hby d_prog_104_method_3_17)
    refine own_by (st5) ?_
    show own_Go p.tables e below (T5.setTop (mkF m 20 #[.val (.ref a), .val (.int nu), .val (.int mb), .val (.int ix)] [(.ref ws2)])) _
    refine own_by (fun zt zk => XS.iloadN X5.here hx rfl (hb hby d_prog_104_method_3_20) rfl zk) ?_
    show own_Go p.tables e below (T5.setTop (mkF m 21 #[.val (.ref a), .val (.int nu), .val (.int mb), .val (.int ix)] [(.int ix), (.ref ws2)])) _
    refine own_by (own_ldJ X5 hx hZ e5 jAw (j := ix) (k := (own_ix nu)) i0 ik (by omega) (g := (mkF m 21 #[.val (.ref a), .val (.int nu), .val (.int mb), .val (.int ix)] [(.int ix), (.ref ws2)])) rfl rfl (hb hby d_prog_104_method_3_21)) ?_
    show own_Go p.tables e below (T5.setTop (mkF m 22 #[.val (.ref a), .val (.int nu), .val (.int mb), .val (.int ix)] [(.long ((own_ext N f) (own_ix nu)))])) _
    refine own_by (fun zt zk => XS.lconst X5.here hx rfl (hb hby d_prog_104_method_3_22) zk) ?_
    show own_Go p.tables e below (T5.setTop (mkF m 23 #[.val (.ref a), .val (.int nu), .val (.int mb), .val (.int ix)] [(.long (0 : Int64)), (.long ((own_ext N f) (own_ix nu)))])) _
    refine own_by (fun zt zk => XS.lcmp X5.here hx rfl (hb hby d_prog_104_method_3_23) rfl zk) ?_
    show own_Go p.tables e below (T5.setTop (mkF m 24 #[.val (.ref a), .val (.int nu), .val (.int mb), .val (.int ix)] [(.int (lcmpW ((own_ext N f) (own_ix nu)) (0 : Int64)))])) _
    by_cases h3 : ((own_ext N f) (own_ix nu)) = (0 : Int64)
    · refine own_by (fun zt zk => XS.ifNo X5.here hx rfl (hb hby d_prog_104_method_3_24) rfl ((if0 _ _).trans (teq ((lw_eq ((own_ext N f) (own_ix nu)) (0 : Int64)).mpr h3)).2) zk) ?_
      show own_Go p.tables e below (T5.setTop (mkF m 27 #[.val (.ref a), .val (.int nu), .val (.int mb), .val (.int ix)] [])) _
      refine own_by (fun zt zk => XS.aloadN X5.here hx rfl (hb hby d_prog_104_method_3_27) rfl rfl zk) ?_
      show own_Go p.tables e below (T5.setTop (mkF m 28 #[.val (.ref a), .val (.int nu), .val (.int mb), .val (.int ix)] [(.ref a)])) _
      obtain ⟨T6, X6, e6, st6⟩ := getF X5 hx hZ hown (host := "") (Or.inl (hw _ (List.mem_of_getElem? (i := 13) rfl))) Via.refl e5 jFs (g := (mkF m 28 #[.val (.ref a), .val (.int nu), .val (.int mb), .val (.int ix)] [(.ref a)])) rfl rfl (hb hby d_prog_104_method_3_28)
      refine own_by (st6) ?_
      show own_Go p.tables e below (T6.setTop (mkF m 31 #[.val (.ref a), .val (.int nu), .val (.int mb), .val (.int ix)] [(.ref sm2)])) _
      refine own_by (fun zt zk => XS.iloadN X6.here hx rfl (hb hby d_prog_104_method_3_31) rfl zk) ?_
      show own_Go p.tables e below (T6.setTop (mkF m 32 #[.val (.ref a), .val (.int nu), .val (.int mb), .val (.int ix)] [(.int ix), (.ref sm2)])) _
      refine own_by (fun zt zk => XS.bipush X6.here hx rfl (hb hby d_prog_104_method_3_32) zk) ?_
      show own_Go p.tables e below (T6.setTop (mkF m 34 #[.val (.ref a), .val (.int nu), .val (.int mb), .val (.int ix)] [(.int (6 : Int32)), (.int ix), (.ref sm2)])) _
      refine own_by (fun zt zk => XS.iushr X6.here hx rfl (hb hby d_prog_104_method_3_34) rfl zk) ?_
      show own_Go p.tables e below (T6.setTop (mkF m 35 #[.val (.ref a), .val (.int nu), .val (.int mb), .val (.int ix)] [(.int ((ix.toUInt32 >>> ((6 : Int32) &&& 31).toUInt32).toInt32)), (.ref sm2)])) _
      obtain ⟨s0, sk⟩ := own_ixS hI (show own_ix nu < 1024 by omega)
      refine own_by (S' := T6.setTop (mkF m 36 #[.val (.ref a), .val (.int nu), .val (.int mb), .val (.int ix)] [(.int ((ix.toUInt32 >>> ((6 : Int32) &&& 31).toUInt32).toInt32)), (.ref sm2), (.int ((ix.toUInt32 >>> ((6 : Int32) &&& 31).toUInt32).toInt32)), (.ref sm2)])) (fun zt zk => ?_) ?_
      · jvm_step X6.here [X6.here.top, hx, (hb hby d_prog_104_method_3_35), Value.category]
        exact zk
      show own_Go p.tables e below (T6.setTop (mkF m 36 #[.val (.ref a), .val (.int nu), .val (.int mb), .val (.int ix)] [(.int ((ix.toUInt32 >>> ((6 : Int32) &&& 31).toUInt32).toInt32)), (.ref sm2), (.int ((ix.toUInt32 >>> ((6 : Int32) &&& 31).toUInt32).toInt32)), (.ref sm2)])) _
      refine own_by (own_ldJ X6 hx hZ e6 jAs (j := ((ix.toUInt32 >>> ((6 : Int32) &&& 31).toUInt32).toInt32)) (k := (own_ix nu / 64)) s0 sk (by omega) (g := (mkF m 36 #[.val (.ref a), .val (.int nu), .val (.int mb), .val (.int ix)] [(.int ((ix.toUInt32 >>> ((6 : Int32) &&& 31).toUInt32).toInt32)), (.ref sm2), (.int ((ix.toUInt32 >>> ((6 : Int32) &&& 31).toUInt32).toInt32)), (.ref sm2)])) rfl rfl (hb hby d_prog_104_method_3_36)) ?_
      show own_Go p.tables e below (T6.setTop (mkF m 37 #[.val (.ref a), .val (.int nu), .val (.int mb), .val (.int ix)] [(.long (g2 (own_ix nu / 64))), (.int ((ix.toUInt32 >>> ((6 : Int32) &&& 31).toUInt32).toInt32)), (.ref sm2)])) _
      refine own_by (fun zt zk => XS.lconst X6.here hx rfl (hb hby d_prog_104_method_3_37) zk) ?_
      show own_Go p.tables e below (T6.setTop (mkF m 38 #[.val (.ref a), .val (.int nu), .val (.int mb), .val (.int ix)] [(.long (1 : Int64)), (.long (g2 (own_ix nu / 64))), (.int ((ix.toUInt32 >>> ((6 : Int32) &&& 31).toUInt32).toInt32)), (.ref sm2)])) _
      refine own_by (fun zt zk => XS.iloadN X6.here hx rfl (hb hby d_prog_104_method_3_38) rfl zk) ?_
      show own_Go p.tables e below (T6.setTop (mkF m 39 #[.val (.ref a), .val (.int nu), .val (.int mb), .val (.int ix)] [(.int ix), (.long (1 : Int64)), (.long (g2 (own_ix nu / 64))), (.int ((ix.toUInt32 >>> ((6 : Int32) &&& 31).toUInt32).toInt32)), (.ref sm2)])) _
      refine own_by (fun zt zk => XS.lshl X6.here hx rfl (hb hby d_prog_104_method_3_39) rfl zk) ?_
      show own_Go p.tables e below (T6.setTop (mkF m 40 #[.val (.ref a), .val (.int nu), .val (.int mb), .val (.int ix)] [(.long ((1 : Int64) <<< (ix &&& 0x3f).toInt64)), (.long (g2 (own_ix nu / 64))), (.int ((ix.toUInt32 >>> ((6 : Int32) &&& 31).toUInt32).toInt32)), (.ref sm2)])) _
      refine own_by (fun zt zk => XS.lor X6.here hx rfl (hb hby d_prog_104_method_3_40) rfl zk) ?_
      show own_Go p.tables e below (T6.setTop (mkF m 41 #[.val (.ref a), .val (.int nu), .val (.int mb), .val (.int ix)] [(.long ((g2 (own_ix nu / 64)) ||| ((1 : Int64) <<< (ix &&& 0x3f).toInt64))), (.int ((ix.toUInt32 >>> ((6 : Int32) &&& 31).toUInt32).toInt32)), (.ref sm2)])) _
      obtain ⟨T7, hea7, X7, e7, W7, V7, st7⟩ := own_stJ X6 hx hZ e6 jAs (j := ((ix.toUInt32 >>> ((6 : Int32) &&& 31).toUInt32).toInt32)) (k := (own_ix nu / 64)) s0 sk (by omega) (g := (mkF m 41 #[.val (.ref a), .val (.int nu), .val (.int mb), .val (.int ix)] [(.long ((g2 (own_ix nu / 64)) ||| ((1 : Int64) <<< (ix &&& 0x3f).toInt64))), (.int ((ix.toUInt32 >>> ((6 : Int32) &&& 31).toUInt32).toInt32)), (.ref sm2)])) rfl rfl (hb hby d_prog_104_method_3_41)
      have N7 := Fr.snoc X7 N4 jgs
      have K7 : h0.size ≤ hea7.size := Nat.le_trans K4 (Nat.le_of_eq W7.size.symm)
      refine own_by (st7) ?_
      show own_Go p.tables e below (T7.setTop (mkF m 42 #[.val (.ref a), .val (.int nu), .val (.int mb), .val (.int ix)] [])) _
      refine own_by (fun zt zk => XS.aloadN X7.here hx rfl (hb hby d_prog_104_method_3_42) rfl rfl zk) ?_
      show own_Go p.tables e below (T7.setTop (mkF m 43 #[.val (.ref a), .val (.int nu), .val (.int mb), .val (.int ix)] [(.ref a)])) _
      obtain ⟨T8, X8, e8, st8⟩ := getF X7 hx hZ hown (host := "") (Or.inl (hw _ (List.mem_of_getElem? (i := 11) rfl))) Via.refl e7 (jFw.other W7 (Or.inl jn2)) (g := (mkF m 43 #[.val (.ref a), .val (.int nu), .val (.int mb), .val (.int ix)] [(.ref a)])) rfl rfl (hb hby d_prog_104_method_3_43)
      refine own_by (st8) ?_
      show own_Go p.tables e below (T8.setTop (mkF m 46 #[.val (.ref a), .val (.int nu), .val (.int mb), .val (.int ix)] [(.ref ws2)])) _
      refine own_by (fun zt zk => XS.iloadN X8.here hx rfl (hb hby d_prog_104_method_3_46) rfl zk) ?_
      show own_Go p.tables e below (T8.setTop (mkF m 47 #[.val (.ref a), .val (.int nu), .val (.int mb), .val (.int ix)] [(.int ix), (.ref ws2)])) _
      refine own_by (S' := T8.setTop (mkF m 48 #[.val (.ref a), .val (.int nu), .val (.int mb), .val (.int ix)] [(.int ix), (.ref ws2), (.int ix), (.ref ws2)])) (fun zt zk => ?_) ?_
      · jvm_step X8.here [X8.here.top, hx, (hb hby d_prog_104_method_3_47), Value.category]
        exact zk
      show own_Go p.tables e below (T8.setTop (mkF m 48 #[.val (.ref a), .val (.int nu), .val (.int mb), .val (.int ix)] [(.int ix), (.ref ws2), (.int ix), (.ref ws2)])) _
      refine own_by (own_ldJ X8 hx hZ e8 (jAw.other W7 jn3) (j := ix) (k := (own_ix nu)) i0 ik (by omega) (g := (mkF m 48 #[.val (.ref a), .val (.int nu), .val (.int mb), .val (.int ix)] [(.int ix), (.ref ws2), (.int ix), (.ref ws2)])) rfl rfl (hb hby d_prog_104_method_3_48)) ?_
      show own_Go p.tables e below (T8.setTop (mkF m 49 #[.val (.ref a), .val (.int nu), .val (.int mb), .val (.int ix)] [(.long ((own_ext N f) (own_ix nu))), (.int ix), (.ref ws2)])) _
      refine own_by (fun zt zk => XS.lconst X8.here hx rfl (hb hby d_prog_104_method_3_49) zk) ?_
      show own_Go p.tables e below (T8.setTop (mkF m 50 #[.val (.ref a), .val (.int nu), .val (.int mb), .val (.int ix)] [(.long (1 : Int64)), (.long ((own_ext N f) (own_ix nu))), (.int ix), (.ref ws2)])) _
      refine own_by (fun zt zk => XS.iloadN X8.here hx rfl (hb hby d_prog_104_method_3_50) rfl zk) ?_
      show own_Go p.tables e below (T8.setTop (mkF m 51 #[.val (.ref a), .val (.int nu), .val (.int mb), .val (.int ix)] [(.int nu), (.long (1 : Int64)), (.long ((own_ext N f) (own_ix nu))), (.int ix), (.ref ws2)])) _
      refine own_by (fun zt zk => XS.lshl X8.here hx rfl (hb hby d_prog_104_method_3_51) rfl zk) ?_
      show own_Go p.tables e below (T8.setTop (mkF m 52 #[.val (.ref a), .val (.int nu), .val (.int mb), .val (.int ix)] [(.long ((1 : Int64) <<< (nu &&& 0x3f).toInt64)), (.long ((own_ext N f) (own_ix nu))), (.int ix), (.ref ws2)])) _
      refine own_by (fun zt zk => XS.lor X8.here hx rfl (hb hby d_prog_104_method_3_52) rfl zk) ?_
      show own_Go p.tables e below (T8.setTop (mkF m 53 #[.val (.ref a), .val (.int nu), .val (.int mb), .val (.int ix)] [(.long (((own_ext N f) (own_ix nu)) ||| ((1 : Int64) <<< (nu &&& 0x3f).toInt64))), (.int ix), (.ref ws2)])) _
      obtain ⟨T9, hea9, X9, e9, W9, V9, st9⟩ := own_stJ X8 hx hZ e8 (jAw.other W7 jn3) (j := ix) (k := (own_ix nu)) i0 ik (by omega) (g := (mkF m 53 #[.val (.ref a), .val (.int nu), .val (.int mb), .val (.int ix)] [(.long (((own_ext N f) (own_ix nu)) ||| ((1 : Int64) <<< (nu &&& 0x3f).toInt64))), (.int ix), (.ref ws2)])) rfl rfl (hb hby d_prog_104_method_3_53)
      have N9 := Fr.snoc X9 N7 jgw
      have K9 : h0.size ≤ hea9.size := Nat.le_trans K7 (Nat.le_of_eq W9.size.symm)
      refine own_by (st9) ?_
      show own_Go p.tables e below (T9.setTop (mkF m 54 #[.val (.ref a), .val (.int nu), .val (.int mb), .val (.int ix)] [])) _
      refine own_by (fun zt zk => XS.goto X9.here hx rfl (pc0 := 54) (pc' := 82) rfl (hb hby d_prog_104_method_3_54) (by decide) (by decide) zk) ?_
      show own_Go p.tables e below (T9.setTop (mkF m 82 #[.val (.ref a), .val (.int nu), .val (.int mb), .val (.int ix)] [])) _
      exact own_retV X9 hx Bd.notSynchronized Bd.returns (hb hby d_prog_104_method_3_82) (by (try rw [e9]); exact ⟨rfl, N9, K9, _, _, _, _, _, Or.inr ⟨h1, (by omega), hNN, ⟨((jE.wr W7).wr W9), ((jFw.other W7 (Or.inl jn2)).other W9 (Or.inl jn1)), ((jFs.other W7 (Or.inl jn2)).other W9 (Or.inl jn1)), V9, ((jEw.wr W7).wr W9), (V7.other W9 (Ne.symm jn3)), ((jEs.wr W7).wr W9), jga, jgw, jgs, jn1, jn2, jn3, jb1, jb2, jb3, jb4⟩⟩⟩) (by decide) (by decide)
    · refine own_by (fun zt zk => XS.ifYes X5.here hx rfl (pc0 := 24) (pc' := 42) rfl (hb hby d_prog_104_method_3_24) rfl ((if0 _ _).trans (feq (fun zq => h3 ((lw_eq ((own_ext N f) (own_ix nu)) (0 : Int64)).mp zq))).2) (by decide) (by decide) zk) ?_
      show own_Go p.tables e below (T5.setTop (mkF m 42 #[.val (.ref a), .val (.int nu), .val (.int mb), .val (.int ix)] [])) _
      refine own_by (fun zt zk => XS.aloadN X5.here hx rfl (hb hby d_prog_104_method_3_42) rfl rfl zk) ?_
      show own_Go p.tables e below (T5.setTop (mkF m 43 #[.val (.ref a), .val (.int nu), .val (.int mb), .val (.int ix)] [(.ref a)])) _
      obtain ⟨T10, X10, e10, st10⟩ := getF X5 hx hZ hown (host := "") (Or.inl (hw _ (List.mem_of_getElem? (i := 11) rfl))) Via.refl e5 jFw (g := (mkF m 43 #[.val (.ref a), .val (.int nu), .val (.int mb), .val (.int ix)] [(.ref a)])) rfl rfl (hb hby d_prog_104_method_3_43)
      refine own_by (st10) ?_
      show own_Go p.tables e below (T10.setTop (mkF m 46 #[.val (.ref a), .val (.int nu), .val (.int mb), .val (.int ix)] [(.ref ws2)])) _
      refine own_by (fun zt zk => XS.iloadN X10.here hx rfl (hb hby d_prog_104_method_3_46) rfl zk) ?_
      show own_Go p.tables e below (T10.setTop (mkF m 47 #[.val (.ref a), .val (.int nu), .val (.int mb), .val (.int ix)] [(.int ix), (.ref ws2)])) _
      refine own_by (S' := T10.setTop (mkF m 48 #[.val (.ref a), .val (.int nu), .val (.int mb), .val (.int ix)] [(.int ix), (.ref ws2), (.int ix), (.ref ws2)])) (fun zt zk => ?_) ?_
      · jvm_step X10.here [X10.here.top, hx, (hb hby d_prog_104_method_3_47), Value.category]
        exact zk
      show own_Go p.tables e below (T10.setTop (mkF m 48 #[.val (.ref a), .val (.int nu), .val (.int mb), .val (.int ix)] [(.int ix), (.ref ws2), (.int ix), (.ref ws2)])) _
      refine own_by (own_ldJ X10 hx hZ e10 jAw (j := ix) (k := (own_ix nu)) i0 ik (by omega) (g := (mkF m 48 #[.val (.ref a), .val (.int nu), .val (.int mb), .val (.int ix)] [(.int ix), (.ref ws2), (.int ix), (.ref ws2)])) rfl rfl (hb hby d_prog_104_method_3_48)) ?_
      show own_Go p.tables e below (T10.setTop (mkF m 49 #[.val (.ref a), .val (.int nu), .val (.int mb), .val (.int ix)] [(.long ((own_ext N f) (own_ix nu))), (.int ix), (.ref ws2)])) _
      refine own_by (fun zt zk => XS.lconst X10.here hx rfl (hb hby d_prog_104_method_3_49) zk) ?_
      show own_Go p.tables e below (T10.setTop (mkF m 50 #[.val (.ref a), .val (.int nu), .val (.int mb), .val (.int ix)] [(.long (1 : Int64)), (.long ((own_ext N f) (own_ix nu))), (.int ix), (.ref ws2)])) _
      refine own_by (fun zt zk => XS.iloadN X10.here hx rfl (hb hby d_prog_104_method_3_50) rfl zk) ?_
      show own_Go p.tables e below (T10.setTop (mkF m 51 #[.val (.ref a), .val (.int nu), .val (.int mb), .val (.int ix)] [(.int nu), (.long (1 : Int64)), (.long ((own_ext N f) (own_ix nu))), (.int ix), (.ref ws2)])) _
      refine own_by (fun zt zk => XS.lshl X10.here hx rfl (hb hby d_prog_104_method_3_51) rfl zk) ?_
      show own_Go p.tables e below (T10.setTop (mkF m 52 #[.val (.ref a), .val (.int nu), .val (.int mb), .val (.int ix)] [(.long ((1 : Int64) <<< (nu &&& 0x3f).toInt64)), (.long ((own_ext N f) (own_ix nu))), (.int ix), (.ref ws2)])) _
      refine own_by (fun zt zk => XS.lor X10.here hx rfl (hb hby d_prog_104_method_3_52) rfl zk) ?_
      show own_Go p.tables e below (T10.setTop (mkF m 53 #[.val (.ref a), .val (.int nu), .val (.int mb), .val (.int ix)] [(.long (((own_ext N f) (own_ix nu)) ||| ((1 : Int64) <<< (nu &&& 0x3f).toInt64))), (.int ix), (.ref ws2)])) _
      obtain ⟨T11, hea11, X11, e11, W11, V11, st11⟩ := own_stJ X10 hx hZ e10 jAw (j := ix) (k := (own_ix nu)) i0 ik (by omega) (g := (mkF m 53 #[.val (.ref a), .val (.int nu), .val (.int mb), .val (.int ix)] [(.long (((own_ext N f) (own_ix nu)) ||| ((1 : Int64) <<< (nu &&& 0x3f).toInt64))), (.int ix), (.ref ws2)])) rfl rfl (hb hby d_prog_104_method_3_53)
      have N11 := Fr.snoc X11 N4 jgw
      have K11 : h0.size ≤ hea11.size := Nat.le_trans K4 (Nat.le_of_eq W11.size.symm)
      refine own_by (st11) ?_
      show own_Go p.tables e below (T11.setTop (mkF m 54 #[.val (.ref a), .val (.int nu), .val (.int mb), .val (.int ix)] [])) _
      refine own_by (fun zt zk => XS.goto X11.here hx rfl (pc0 := 54) (pc' := 82) rfl (hb hby d_prog_104_method_3_54) (by decide) (by decide) zk) ?_
      show own_Go p.tables e below (T11.setTop (mkF m 82 #[.val (.ref a), .val (.int nu), .val (.int mb), .val (.int ix)] [])) _
      exact own_retV X11 hx Bd.notSynchronized Bd.returns (hb hby d_prog_104_method_3_82) (by (try rw [e11]); exact ⟨rfl, N11, K11, _, _, _, _, _, Or.inr ⟨h1, (by omega), hNN, ⟨(jE.wr W11), (jFw.other W11 (Or.inl jn1)), (jFs.other W11 (Or.inl jn1)), V11, (jEw.wr W11), (jAs.other W11 (Ne.symm jn3)), (jEs.wr W11), jga, jgw, jgs, jn1, jn2, jn3, jb1, jb2, jb3, jb4⟩⟩⟩) (by decide) (by decide)
theorem pd_172 : parseMethodDescriptor "()V" = some ⟨[], none⟩ := by decide +kernel
theorem pd_173 : parseMethodDescriptor "(I)Z" = some ⟨[.int], some .boolean⟩ := by decide +kernel
theorem pd_174 : parseMethodDescriptor "(IZ)V" = some ⟨[.int, .boolean], none⟩ := by decide +kernel
theorem ef_rm_law (m : MethodId) (x0 : Int32) (y0 : Int32) (fl : Int32) (dd : Int32) : entryFrame m #[(.int x0), (.int y0), (.int fl), (.int dd)] maxLocals = mkF m 0 #[.val (.int x0), .val (.int y0), .val (.int fl), .val (.int dd), .unset, .unset, .unset, .unset, .unset, .unset, .unset, .unset] [] := by first | (simp [entryFrame, mkF, argsToLocals, Value.category, maxLocals]; done) | rfl
theorem pn_175 : plainName "com/example/cutset/cutset/search/NumberSetContainsPinLaw" = true := by first | (simp [plainName, overriddenIn]; done) | decide +kernel
set_option maxRecDepth 65536 in
set_option maxHeartbeats 40000000 in
theorem rm_law (l : Launch) (Z : State) (a0 : Array Value) (hw : ∀ d ∈ tables_1, d.before a0 Z = true) (zws : List Jvm.Cond) (x0 : Int32) (y0 : Int32) (fl : Int32) (dd : Int32) (h0 : Heap) (n0 : Nat) (Z0 : n0 ≤ h0.size)  :
    MetFree l x (head1 (Jvm.Cond.code x code maxLocals ret :: zws) room_1) (fun zA zU => zA = #[(.int x0), (.int y0), (.int fl), (.int dd)] ∧ Z.Warmed39 zU.vm ∧ zU.heap = h0) (fun _ _ _ _ _ => True) (fun _ zU zo zW => ∃ zv zL, zo = .returned zv ∧ (fun v h L => v = some (.int 1) ∧ Fr n0 L) zv zW.heap zL ∧ FrameEnd zU zo zW zL 7 2084) := by
  refine MetFree.of_bodySF (plainFor_of_name pn_175) hisR ?_
  intro p e s m args below meth c s₁ Bd hml0 hP hK
  obtain ⟨rfl, hZ, hh⟩ := hP
  have hx := Bd.exec
  have hby := Bd.bytes
  have hml : c.maxLocals = 12 := hml0
  have hown : s.vm.findClass "com/example/cutset/cutset/search/NumberSetContainsPinLaw" = some m.cls := findClass_of_methodNamed Bd.named
  have hnm := (name_of_methodNamed Bd.named Bd.method).1
  have X0 : Stand p l e room_1 s m #[(.int x0), (.int y0), (.int fl), (.int dd)] below meth c s₁ [] 0 0 := Stand.of_body Bd
  have e0 : s₁.heap = h0 := by rw [← hh, Bd.state]; rfl
  have N0 := Fr.nil n0
  refine own_out (Q := fun v h L => v = some (.int 1) ∧ Fr n0 L) ?_
  refine own_cast (ef_rm_law m x0 y0 fl dd) ?_
  show own_Go p.tables e below (s₁.setTop (mkF m 0 #[.val (.int x0), .val (.int y0), .val (.int fl), .val (.int dd), .unset, .unset, .unset, .unset, .unset, .unset, .unset, .unset] [])) _
  refine own_by (fun zt zk => XS.iloadN X0.here hx rfl (hb hby at_0) rfl zk) ?_
  show own_Go p.tables e below (s₁.setTop (mkF m 1 #[.val (.int x0), .val (.int y0), .val (.int fl), .val (.int dd), .unset, .unset, .unset, .unset, .unset, .unset, .unset, .unset] [(.int x0)])) _
  refine own_by (X0.ldcInt hx hown (mvT hZ (hw _ (List.mem_of_getElem? (i := 0) rfl))) (g := (mkF m 1 #[.val (.int x0), .val (.int y0), .val (.int fl), .val (.int dd), .unset, .unset, .unset, .unset, .unset, .unset, .unset, .unset] [(.int x0)])) rfl (hb hby at_1)) ?_
  show own_Go p.tables e below (s₁.setTop (mkF m 3 #[.val (.int x0), .val (.int y0), .val (.int fl), .val (.int dd), .unset, .unset, .unset, .unset, .unset, .unset, .unset, .unset] [(.int (65535 : Int32)), (.int x0)])) _
  refine own_by (fun zt zk => XS.iand X0.here hx rfl (hb hby at_3) rfl zk) ?_
  show own_Go p.tables e below (s₁.setTop (mkF m 4 #[.val (.int x0), .val (.int y0), .val (.int fl), .val (.int dd), .unset, .unset, .unset, .unset, .unset, .unset, .unset, .unset] [(.int (x0 &&& (65535 : Int32)))])) _
  obtain ⟨av, hav⟩ : ∃ z, z = (x0 &&& (65535 : Int32)) := ⟨_, rfl⟩
  rw [← hav]
  show own_Go p.tables e below (s₁.setTop (mkF m 4 #[.val (.int x0), .val (.int y0), .val (.int fl), .val (.int dd), .unset, .unset, .unset, .unset, .unset, .unset, .unset, .unset] [(.int av)])) _
  refine own_by (fun zt zk => XS.istore X0.here hx rfl (hb hby at_4) rfl (l' := #[.val (.int x0), .val (.int y0), .val (.int fl), .val (.int dd), .val (.int av), .unset, .unset, .unset, .unset, .unset, .unset, .unset]) rfl zk) ?_
  show own_Go p.tables e below (s₁.setTop (mkF m 6 #[.val (.int x0), .val (.int y0), .val (.int fl), .val (.int dd), .val (.int av), .unset, .unset, .unset, .unset, .unset, .unset, .unset] [])) _
  refine own_by (fun zt zk => XS.iloadN X0.here hx rfl (hb hby at_6) rfl zk) ?_
  show own_Go p.tables e below (s₁.setTop (mkF m 7 #[.val (.int x0), .val (.int y0), .val (.int fl), .val (.int dd), .val (.int av), .unset, .unset, .unset, .unset, .unset, .unset, .unset] [(.int y0)])) _
  refine own_by (X0.ldcInt hx hown (mvT hZ (hw _ (List.mem_of_getElem? (i := 0) rfl))) (g := (mkF m 7 #[.val (.int x0), .val (.int y0), .val (.int fl), .val (.int dd), .val (.int av), .unset, .unset, .unset, .unset, .unset, .unset, .unset] [(.int y0)])) rfl (hb hby at_7)) ?_
  show own_Go p.tables e below (s₁.setTop (mkF m 9 #[.val (.int x0), .val (.int y0), .val (.int fl), .val (.int dd), .val (.int av), .unset, .unset, .unset, .unset, .unset, .unset, .unset] [(.int (65535 : Int32)), (.int y0)])) _
  refine own_by (fun zt zk => XS.iand X0.here hx rfl (hb hby at_9) rfl zk) ?_
  show own_Go p.tables e below (s₁.setTop (mkF m 10 #[.val (.int x0), .val (.int y0), .val (.int fl), .val (.int dd), .val (.int av), .unset, .unset, .unset, .unset, .unset, .unset, .unset] [(.int (y0 &&& (65535 : Int32)))])) _
  obtain ⟨bv, hbv⟩ : ∃ z, z = (y0 &&& (65535 : Int32)) := ⟨_, rfl⟩
  rw [← hbv]
  show own_Go p.tables e below (s₁.setTop (mkF m 10 #[.val (.int x0), .val (.int y0), .val (.int fl), .val (.int dd), .val (.int av), .unset, .unset, .unset, .unset, .unset, .unset, .unset] [(.int bv)])) _
  refine own_by (fun zt zk => XS.istore X0.here hx rfl (hb hby at_10) rfl (l' := #[.val (.int x0), .val (.int y0), .val (.int fl), .val (.int dd), .val (.int av), .val (.int bv), .unset, .unset, .unset, .unset, .unset, .unset]) rfl zk) ?_
  show own_Go p.tables e below (s₁.setTop (mkF m 12 #[.val (.int x0), .val (.int y0), .val (.int fl), .val (.int dd), .val (.int av), .val (.int bv), .unset, .unset, .unset, .unset, .unset, .unset] [])) _
  refine own_by (fun zt zk => XS.iloadN X0.here hx rfl (hb hby at_12) rfl zk) ?_
  show own_Go p.tables e below (s₁.setTop (mkF m 13 #[.val (.int x0), .val (.int y0), .val (.int fl), .val (.int dd), .val (.int av), .val (.int bv), .unset, .unset, .unset, .unset, .unset, .unset] [(.int fl)])) _
  refine own_by (fun zt zk => XS.iconst X0.here hx rfl (hb hby at_13) zk) ?_
  show own_Go p.tables e below (s₁.setTop (mkF m 14 #[.val (.int x0), .val (.int y0), .val (.int fl), .val (.int dd), .val (.int av), .val (.int bv), .unset, .unset, .unset, .unset, .unset, .unset] [(.int (1 : Int32)), (.int fl)])) _
  refine own_by (fun zt zk => XS.iand X0.here hx rfl (hb hby at_14) rfl zk) ?_
  show own_Go p.tables e below (s₁.setTop (mkF m 15 #[.val (.int x0), .val (.int y0), .val (.int fl), .val (.int dd), .val (.int av), .val (.int bv), .unset, .unset, .unset, .unset, .unset, .unset] [(.int (fl &&& (1 : Int32)))])) _
  obtain ⟨mb, hmb, sj2⟩ : ∃ (mb : Int32), mb = (if (fl &&& (1 : Int32)) = (0 : Int32) then (0 : Int32) else (1 : Int32)) ∧ ∀ zt, Steps p.tables e below (s₁.setTop (mkF m 23 #[.val (.int x0), .val (.int y0), .val (.int fl), .val (.int dd), .val (.int av), .val (.int bv), .unset, .unset, .unset, .unset, .unset, .unset] [(.int mb)])) zt → Steps p.tables e below (s₁.setTop (mkF m 15 #[.val (.int x0), .val (.int y0), .val (.int fl), .val (.int dd), .val (.int av), .val (.int bv), .unset, .unset, .unset, .unset, .unset, .unset] [(.int (fl &&& (1 : Int32)))])) zt := by
    by_cases j1 : (fl &&& (1 : Int32)) = (0 : Int32)
    · refine ⟨((0 : Int32)), (if_pos j1).symm, fun zt zk => ?_⟩
      show Steps p.tables e below (s₁.setTop (mkF m 15 #[.val (.int x0), .val (.int y0), .val (.int fl), .val (.int dd), .val (.int av), .val (.int bv), .unset, .unset, .unset, .unset, .unset, .unset] [(.int (fl &&& (1 : Int32)))])) _
      refine XS.ifYes X0.here hx rfl (pc0 := 15) (pc' := 22) rfl (hb hby at_15) rfl ((if0 _ _).trans (teq j1).1) (by decide) (by decide) ?_
      show Steps p.tables e below (s₁.setTop (mkF m 22 #[.val (.int x0), .val (.int y0), .val (.int fl), .val (.int dd), .val (.int av), .val (.int bv), .unset, .unset, .unset, .unset, .unset, .unset] [])) _
      refine XS.iconst X0.here hx rfl (hb hby at_22) ?_
      show Steps p.tables e below (s₁.setTop (mkF m 23 #[.val (.int x0), .val (.int y0), .val (.int fl), .val (.int dd), .val (.int av), .val (.int bv), .unset, .unset, .unset, .unset, .unset, .unset] [(.int (0 : Int32))])) _
      exact zk
    · refine ⟨((1 : Int32)), (if_neg j1).symm, fun zt zk => ?_⟩
      show Steps p.tables e below (s₁.setTop (mkF m 15 #[.val (.int x0), .val (.int y0), .val (.int fl), .val (.int dd), .val (.int av), .val (.int bv), .unset, .unset, .unset, .unset, .unset, .unset] [(.int (fl &&& (1 : Int32)))])) _
      refine XS.ifNo X0.here hx rfl (hb hby at_15) rfl ((if0 _ _).trans (feq j1).1) ?_
      show Steps p.tables e below (s₁.setTop (mkF m 18 #[.val (.int x0), .val (.int y0), .val (.int fl), .val (.int dd), .val (.int av), .val (.int bv), .unset, .unset, .unset, .unset, .unset, .unset] [])) _
      refine XS.iconst X0.here hx rfl (hb hby at_18) ?_
      show Steps p.tables e below (s₁.setTop (mkF m 19 #[.val (.int x0), .val (.int y0), .val (.int fl), .val (.int dd), .val (.int av), .val (.int bv), .unset, .unset, .unset, .unset, .unset, .unset] [(.int (1 : Int32))])) _
      refine XS.goto X0.here hx rfl (pc0 := 19) (pc' := 23) rfl (hb hby at_19) (by decide) (by decide) ?_
      show Steps p.tables e below (s₁.setTop (mkF m 23 #[.val (.int x0), .val (.int y0), .val (.int fl), .val (.int dd), .val (.int av), .val (.int bv), .unset, .unset, .unset, .unset, .unset, .unset] [(.int (1 : Int32))])) _
      exact zk
  refine own_by (sj2) ?_
  show own_Go p.tables e below (s₁.setTop (mkF m 23 #[.val (.int x0), .val (.int y0), .val (.int fl), .val (.int dd), .val (.int av), .val (.int bv), .unset, .unset, .unset, .unset, .unset, .unset] [(.int mb)])) _
  refine own_by (fun zt zk => XS.istore X0.here hx rfl (hb hby at_23) rfl (l' := #[.val (.int x0), .val (.int y0), .val (.int fl), .val (.int dd), .val (.int av), .val (.int bv), .val (.int mb), .unset, .unset, .unset, .unset, .unset]) rfl zk) ?_
  show own_Go p.tables e below (s₁.setTop (mkF m 25 #[.val (.int x0), .val (.int y0), .val (.int fl), .val (.int dd), .val (.int av), .val (.int bv), .val (.int mb), .unset, .unset, .unset, .unset, .unset] [])) _
  refine own_by (fun zt zk => XS.iloadN X0.here hx rfl (hb hby at_25) rfl zk) ?_
  show own_Go p.tables e below (s₁.setTop (mkF m 26 #[.val (.int x0), .val (.int y0), .val (.int fl), .val (.int dd), .val (.int av), .val (.int bv), .val (.int mb), .unset, .unset, .unset, .unset, .unset] [(.int fl)])) _
  refine own_by (fun zt zk => XS.iconst X0.here hx rfl (hb hby at_26) zk) ?_
  show own_Go p.tables e below (s₁.setTop (mkF m 27 #[.val (.int x0), .val (.int y0), .val (.int fl), .val (.int dd), .val (.int av), .val (.int bv), .val (.int mb), .unset, .unset, .unset, .unset, .unset] [(.int (1 : Int32)), (.int fl)])) _
  refine own_by (fun zt zk => XS.iushr X0.here hx rfl (hb hby at_27) rfl zk) ?_
  show own_Go p.tables e below (s₁.setTop (mkF m 28 #[.val (.int x0), .val (.int y0), .val (.int fl), .val (.int dd), .val (.int av), .val (.int bv), .val (.int mb), .unset, .unset, .unset, .unset, .unset] [(.int ((fl.toUInt32 >>> ((1 : Int32) &&& 31).toUInt32).toInt32))])) _
  refine own_by (fun zt zk => XS.iconst X0.here hx rfl (hb hby at_28) zk) ?_
  show own_Go p.tables e below (s₁.setTop (mkF m 29 #[.val (.int x0), .val (.int y0), .val (.int fl), .val (.int dd), .val (.int av), .val (.int bv), .val (.int mb), .unset, .unset, .unset, .unset, .unset] [(.int (3 : Int32)), (.int ((fl.toUInt32 >>> ((1 : Int32) &&& 31).toUInt32).toInt32))])) _
  refine own_by (fun zt zk => XS.iand X0.here hx rfl (hb hby at_29) rfl zk) ?_
  show own_Go p.tables e below (s₁.setTop (mkF m 30 #[.val (.int x0), .val (.int y0), .val (.int fl), .val (.int dd), .val (.int av), .val (.int bv), .val (.int mb), .unset, .unset, .unset, .unset, .unset] [(.int (((fl.toUInt32 >>> ((1 : Int32) &&& 31).toUInt32).toInt32) &&& (3 : Int32)))])) _
  obtain ⟨kd, hkd⟩ : ∃ z, z = (((fl.toUInt32 >>> ((1 : Int32) &&& 31).toUInt32).toInt32) &&& (3 : Int32)) := ⟨_, rfl⟩
  rw [← hkd]
  show own_Go p.tables e below (s₁.setTop (mkF m 30 #[.val (.int x0), .val (.int y0), .val (.int fl), .val (.int dd), .val (.int av), .val (.int bv), .val (.int mb), .unset, .unset, .unset, .unset, .unset] [(.int kd)])) _
  refine own_by (fun zt zk => XS.istore X0.here hx rfl (hb hby at_30) rfl (l' := #[.val (.int x0), .val (.int y0), .val (.int fl), .val (.int dd), .val (.int av), .val (.int bv), .val (.int mb), .val (.int kd), .unset, .unset, .unset, .unset]) rfl zk) ?_
  show own_Go p.tables e below (s₁.setTop (mkF m 32 #[.val (.int x0), .val (.int y0), .val (.int fl), .val (.int dd), .val (.int av), .val (.int bv), .val (.int mb), .val (.int kd), .unset, .unset, .unset, .unset] [])) _
  refine own_by (fun zt zk => XS.iload X0.here hx rfl (hb hby at_32) rfl zk) ?_
  show own_Go p.tables e below (s₁.setTop (mkF m 34 #[.val (.int x0), .val (.int y0), .val (.int fl), .val (.int dd), .val (.int av), .val (.int bv), .val (.int mb), .val (.int kd), .unset, .unset, .unset, .unset] [(.int kd)])) _
  obtain ⟨q, hq, sj6⟩ : ∃ (q : Int32), q = (if kd = (0 : Int32) then (av ^^^ (dd &&& (63 : Int32))) else (if kd = (1 : Int32) then (bv ^^^ (dd &&& (63 : Int32))) else (if kd = (2 : Int32) then (av + ((dd &&& (255 : Int32)) <<< ((6 : Int32) &&& 31))) else dd))) ∧ ∀ zt, Steps p.tables e below (s₁.setTop (mkF m 92 #[.val (.int x0), .val (.int y0), .val (.int fl), .val (.int dd), .val (.int av), .val (.int bv), .val (.int mb), .val (.int kd), .val (.int q), .unset, .unset, .unset] [])) zt → Steps p.tables e below (s₁.setTop (mkF m 34 #[.val (.int x0), .val (.int y0), .val (.int fl), .val (.int dd), .val (.int av), .val (.int bv), .val (.int mb), .val (.int kd), .unset, .unset, .unset, .unset] [(.int kd)])) zt := by
    by_cases j3 : kd = (0 : Int32)
    · refine ⟨((av ^^^ (dd &&& (63 : Int32)))), (if_pos j3).symm, fun zt zk => ?_⟩
      show Steps p.tables e below (s₁.setTop (mkF m 34 #[.val (.int x0), .val (.int y0), .val (.int fl), .val (.int dd), .val (.int av), .val (.int bv), .val (.int mb), .val (.int kd), .unset, .unset, .unset, .unset] [(.int kd)])) _
      refine XS.ifNo X0.here hx rfl (hb hby at_34) rfl ((if0 _ _).trans (teq j3).2) ?_
      show Steps p.tables e below (s₁.setTop (mkF m 37 #[.val (.int x0), .val (.int y0), .val (.int fl), .val (.int dd), .val (.int av), .val (.int bv), .val (.int mb), .val (.int kd), .unset, .unset, .unset, .unset] [])) _
      refine XS.iload X0.here hx rfl (hb hby at_37) rfl ?_
      show Steps p.tables e below (s₁.setTop (mkF m 39 #[.val (.int x0), .val (.int y0), .val (.int fl), .val (.int dd), .val (.int av), .val (.int bv), .val (.int mb), .val (.int kd), .unset, .unset, .unset, .unset] [(.int av)])) _
      refine XS.iloadN X0.here hx rfl (hb hby at_39) rfl ?_
      show Steps p.tables e below (s₁.setTop (mkF m 40 #[.val (.int x0), .val (.int y0), .val (.int fl), .val (.int dd), .val (.int av), .val (.int bv), .val (.int mb), .val (.int kd), .unset, .unset, .unset, .unset] [(.int dd), (.int av)])) _
      refine XS.bipush X0.here hx rfl (hb hby at_40) ?_
      show Steps p.tables e below (s₁.setTop (mkF m 42 #[.val (.int x0), .val (.int y0), .val (.int fl), .val (.int dd), .val (.int av), .val (.int bv), .val (.int mb), .val (.int kd), .unset, .unset, .unset, .unset] [(.int (63 : Int32)), (.int dd), (.int av)])) _
      refine XS.iand X0.here hx rfl (hb hby at_42) rfl ?_
      show Steps p.tables e below (s₁.setTop (mkF m 43 #[.val (.int x0), .val (.int y0), .val (.int fl), .val (.int dd), .val (.int av), .val (.int bv), .val (.int mb), .val (.int kd), .unset, .unset, .unset, .unset] [(.int (dd &&& (63 : Int32))), (.int av)])) _
      refine XS.ixor X0.here hx rfl (hb hby at_43) rfl ?_
      show Steps p.tables e below (s₁.setTop (mkF m 44 #[.val (.int x0), .val (.int y0), .val (.int fl), .val (.int dd), .val (.int av), .val (.int bv), .val (.int mb), .val (.int kd), .unset, .unset, .unset, .unset] [(.int (av ^^^ (dd &&& (63 : Int32))))])) _
      refine XS.istore X0.here hx rfl (hb hby at_44) rfl (l' := #[.val (.int x0), .val (.int y0), .val (.int fl), .val (.int dd), .val (.int av), .val (.int bv), .val (.int mb), .val (.int kd), .val (.int (av ^^^ (dd &&& (63 : Int32)))), .unset, .unset, .unset]) rfl ?_
      show Steps p.tables e below (s₁.setTop (mkF m 46 #[.val (.int x0), .val (.int y0), .val (.int fl), .val (.int dd), .val (.int av), .val (.int bv), .val (.int mb), .val (.int kd), .val (.int (av ^^^ (dd &&& (63 : Int32)))), .unset, .unset, .unset] [])) _
      refine XS.goto X0.here hx rfl (pc0 := 46) (pc' := 92) rfl (hb hby at_46) (by decide) (by decide) ?_
      show Steps p.tables e below (s₁.setTop (mkF m 92 #[.val (.int x0), .val (.int y0), .val (.int fl), .val (.int dd), .val (.int av), .val (.int bv), .val (.int mb), .val (.int kd), .val (.int (av ^^^ (dd &&& (63 : Int32)))), .unset, .unset, .unset] [])) _
      exact zk
    · by_cases j4 : kd = (1 : Int32)
      · refine ⟨((bv ^^^ (dd &&& (63 : Int32)))), ((if_neg j3).trans (if_pos j4)).symm, fun zt zk => ?_⟩
        show Steps p.tables e below (s₁.setTop (mkF m 34 #[.val (.int x0), .val (.int y0), .val (.int fl), .val (.int dd), .val (.int av), .val (.int bv), .val (.int mb), .val (.int kd), .unset, .unset, .unset, .unset] [(.int kd)])) _
        refine XS.ifYes X0.here hx rfl (pc0 := 34) (pc' := 49) rfl (hb hby at_34) rfl ((if0 _ _).trans (feq j3).2) (by decide) (by decide) ?_
        show Steps p.tables e below (s₁.setTop (mkF m 49 #[.val (.int x0), .val (.int y0), .val (.int fl), .val (.int dd), .val (.int av), .val (.int bv), .val (.int mb), .val (.int kd), .unset, .unset, .unset, .unset] [])) _
        refine XS.iload X0.here hx rfl (hb hby at_49) rfl ?_
        show Steps p.tables e below (s₁.setTop (mkF m 51 #[.val (.int x0), .val (.int y0), .val (.int fl), .val (.int dd), .val (.int av), .val (.int bv), .val (.int mb), .val (.int kd), .unset, .unset, .unset, .unset] [(.int kd)])) _
        refine XS.iconst X0.here hx rfl (hb hby at_51) ?_
        show Steps p.tables e below (s₁.setTop (mkF m 52 #[.val (.int x0), .val (.int y0), .val (.int fl), .val (.int dd), .val (.int av), .val (.int bv), .val (.int mb), .val (.int kd), .unset, .unset, .unset, .unset] [(.int (1 : Int32)), (.int kd)])) _
        refine XS.icmpNo X0.here hx rfl (hb hby at_52) rfl (teq j4).2 ?_
        show Steps p.tables e below (s₁.setTop (mkF m 55 #[.val (.int x0), .val (.int y0), .val (.int fl), .val (.int dd), .val (.int av), .val (.int bv), .val (.int mb), .val (.int kd), .unset, .unset, .unset, .unset] [])) _
        refine XS.iload X0.here hx rfl (hb hby at_55) rfl ?_
        show Steps p.tables e below (s₁.setTop (mkF m 57 #[.val (.int x0), .val (.int y0), .val (.int fl), .val (.int dd), .val (.int av), .val (.int bv), .val (.int mb), .val (.int kd), .unset, .unset, .unset, .unset] [(.int bv)])) _
        refine XS.iloadN X0.here hx rfl (hb hby at_57) rfl ?_
        show Steps p.tables e below (s₁.setTop (mkF m 58 #[.val (.int x0), .val (.int y0), .val (.int fl), .val (.int dd), .val (.int av), .val (.int bv), .val (.int mb), .val (.int kd), .unset, .unset, .unset, .unset] [(.int dd), (.int bv)])) _
        refine XS.bipush X0.here hx rfl (hb hby at_58) ?_
        show Steps p.tables e below (s₁.setTop (mkF m 60 #[.val (.int x0), .val (.int y0), .val (.int fl), .val (.int dd), .val (.int av), .val (.int bv), .val (.int mb), .val (.int kd), .unset, .unset, .unset, .unset] [(.int (63 : Int32)), (.int dd), (.int bv)])) _
        refine XS.iand X0.here hx rfl (hb hby at_60) rfl ?_
        show Steps p.tables e below (s₁.setTop (mkF m 61 #[.val (.int x0), .val (.int y0), .val (.int fl), .val (.int dd), .val (.int av), .val (.int bv), .val (.int mb), .val (.int kd), .unset, .unset, .unset, .unset] [(.int (dd &&& (63 : Int32))), (.int bv)])) _
        refine XS.ixor X0.here hx rfl (hb hby at_61) rfl ?_
        show Steps p.tables e below (s₁.setTop (mkF m 62 #[.val (.int x0), .val (.int y0), .val (.int fl), .val (.int dd), .val (.int av), .val (.int bv), .val (.int mb), .val (.int kd), .unset, .unset, .unset, .unset] [(.int (bv ^^^ (dd &&& (63 : Int32))))])) _
        refine XS.istore X0.here hx rfl (hb hby at_62) rfl (l' := #[.val (.int x0), .val (.int y0), .val (.int fl), .val (.int dd), .val (.int av), .val (.int bv), .val (.int mb), .val (.int kd), .val (.int (bv ^^^ (dd &&& (63 : Int32)))), .unset, .unset, .unset]) rfl ?_
        show Steps p.tables e below (s₁.setTop (mkF m 64 #[.val (.int x0), .val (.int y0), .val (.int fl), .val (.int dd), .val (.int av), .val (.int bv), .val (.int mb), .val (.int kd), .val (.int (bv ^^^ (dd &&& (63 : Int32)))), .unset, .unset, .unset] [])) _
        refine XS.goto X0.here hx rfl (pc0 := 64) (pc' := 92) rfl (hb hby at_64) (by decide) (by decide) ?_
        show Steps p.tables e below (s₁.setTop (mkF m 92 #[.val (.int x0), .val (.int y0), .val (.int fl), .val (.int dd), .val (.int av), .val (.int bv), .val (.int mb), .val (.int kd), .val (.int (bv ^^^ (dd &&& (63 : Int32)))), .unset, .unset, .unset] [])) _
        exact zk
      · by_cases j5 : kd = (2 : Int32)
        · refine ⟨((av + ((dd &&& (255 : Int32)) <<< ((6 : Int32) &&& 31)))), ((if_neg j3).trans ((if_neg j4).trans (if_pos j5))).symm, fun zt zk => ?_⟩
          show Steps p.tables e below (s₁.setTop (mkF m 34 #[.val (.int x0), .val (.int y0), .val (.int fl), .val (.int dd), .val (.int av), .val (.int bv), .val (.int mb), .val (.int kd), .unset, .unset, .unset, .unset] [(.int kd)])) _
          refine XS.ifYes X0.here hx rfl (pc0 := 34) (pc' := 49) rfl (hb hby at_34) rfl ((if0 _ _).trans (feq j3).2) (by decide) (by decide) ?_
          show Steps p.tables e below (s₁.setTop (mkF m 49 #[.val (.int x0), .val (.int y0), .val (.int fl), .val (.int dd), .val (.int av), .val (.int bv), .val (.int mb), .val (.int kd), .unset, .unset, .unset, .unset] [])) _
          refine XS.iload X0.here hx rfl (hb hby at_49) rfl ?_
          show Steps p.tables e below (s₁.setTop (mkF m 51 #[.val (.int x0), .val (.int y0), .val (.int fl), .val (.int dd), .val (.int av), .val (.int bv), .val (.int mb), .val (.int kd), .unset, .unset, .unset, .unset] [(.int kd)])) _
          refine XS.iconst X0.here hx rfl (hb hby at_51) ?_
          show Steps p.tables e below (s₁.setTop (mkF m 52 #[.val (.int x0), .val (.int y0), .val (.int fl), .val (.int dd), .val (.int av), .val (.int bv), .val (.int mb), .val (.int kd), .unset, .unset, .unset, .unset] [(.int (1 : Int32)), (.int kd)])) _
          refine XS.icmpYes X0.here hx rfl (pc0 := 52) (pc' := 67) rfl (hb hby at_52) rfl (feq j4).2 (by decide) (by decide) ?_
          show Steps p.tables e below (s₁.setTop (mkF m 67 #[.val (.int x0), .val (.int y0), .val (.int fl), .val (.int dd), .val (.int av), .val (.int bv), .val (.int mb), .val (.int kd), .unset, .unset, .unset, .unset] [])) _
          refine XS.iload X0.here hx rfl (hb hby at_67) rfl ?_
          show Steps p.tables e below (s₁.setTop (mkF m 69 #[.val (.int x0), .val (.int y0), .val (.int fl), .val (.int dd), .val (.int av), .val (.int bv), .val (.int mb), .val (.int kd), .unset, .unset, .unset, .unset] [(.int kd)])) _
          refine XS.iconst X0.here hx rfl (hb hby at_69) ?_
          show Steps p.tables e below (s₁.setTop (mkF m 70 #[.val (.int x0), .val (.int y0), .val (.int fl), .val (.int dd), .val (.int av), .val (.int bv), .val (.int mb), .val (.int kd), .unset, .unset, .unset, .unset] [(.int (2 : Int32)), (.int kd)])) _
          refine XS.icmpNo X0.here hx rfl (hb hby at_70) rfl (teq j5).2 ?_
          show Steps p.tables e below (s₁.setTop (mkF m 73 #[.val (.int x0), .val (.int y0), .val (.int fl), .val (.int dd), .val (.int av), .val (.int bv), .val (.int mb), .val (.int kd), .unset, .unset, .unset, .unset] [])) _
          refine XS.iload X0.here hx rfl (hb hby at_73) rfl ?_
          show Steps p.tables e below (s₁.setTop (mkF m 75 #[.val (.int x0), .val (.int y0), .val (.int fl), .val (.int dd), .val (.int av), .val (.int bv), .val (.int mb), .val (.int kd), .unset, .unset, .unset, .unset] [(.int av)])) _
          refine XS.iloadN X0.here hx rfl (hb hby at_75) rfl ?_
          show Steps p.tables e below (s₁.setTop (mkF m 76 #[.val (.int x0), .val (.int y0), .val (.int fl), .val (.int dd), .val (.int av), .val (.int bv), .val (.int mb), .val (.int kd), .unset, .unset, .unset, .unset] [(.int dd), (.int av)])) _
          refine XS.sipush X0.here hx rfl (hb hby at_76) ?_
          show Steps p.tables e below (s₁.setTop (mkF m 79 #[.val (.int x0), .val (.int y0), .val (.int fl), .val (.int dd), .val (.int av), .val (.int bv), .val (.int mb), .val (.int kd), .unset, .unset, .unset, .unset] [(.int (255 : Int32)), (.int dd), (.int av)])) _
          refine XS.iand X0.here hx rfl (hb hby at_79) rfl ?_
          show Steps p.tables e below (s₁.setTop (mkF m 80 #[.val (.int x0), .val (.int y0), .val (.int fl), .val (.int dd), .val (.int av), .val (.int bv), .val (.int mb), .val (.int kd), .unset, .unset, .unset, .unset] [(.int (dd &&& (255 : Int32))), (.int av)])) _
          refine XS.bipush X0.here hx rfl (hb hby at_80) ?_
          show Steps p.tables e below (s₁.setTop (mkF m 82 #[.val (.int x0), .val (.int y0), .val (.int fl), .val (.int dd), .val (.int av), .val (.int bv), .val (.int mb), .val (.int kd), .unset, .unset, .unset, .unset] [(.int (6 : Int32)), (.int (dd &&& (255 : Int32))), (.int av)])) _
          refine XS.ishl X0.here hx rfl (hb hby at_82) rfl ?_
          show Steps p.tables e below (s₁.setTop (mkF m 83 #[.val (.int x0), .val (.int y0), .val (.int fl), .val (.int dd), .val (.int av), .val (.int bv), .val (.int mb), .val (.int kd), .unset, .unset, .unset, .unset] [(.int ((dd &&& (255 : Int32)) <<< ((6 : Int32) &&& 31))), (.int av)])) _
          refine XS.iadd X0.here hx rfl (hb hby at_83) rfl ?_
          show Steps p.tables e below (s₁.setTop (mkF m 84 #[.val (.int x0), .val (.int y0), .val (.int fl), .val (.int dd), .val (.int av), .val (.int bv), .val (.int mb), .val (.int kd), .unset, .unset, .unset, .unset] [(.int (av + ((dd &&& (255 : Int32)) <<< ((6 : Int32) &&& 31))))])) _
          refine XS.istore X0.here hx rfl (hb hby at_84) rfl (l' := #[.val (.int x0), .val (.int y0), .val (.int fl), .val (.int dd), .val (.int av), .val (.int bv), .val (.int mb), .val (.int kd), .val (.int (av + ((dd &&& (255 : Int32)) <<< ((6 : Int32) &&& 31)))), .unset, .unset, .unset]) rfl ?_
          show Steps p.tables e below (s₁.setTop (mkF m 86 #[.val (.int x0), .val (.int y0), .val (.int fl), .val (.int dd), .val (.int av), .val (.int bv), .val (.int mb), .val (.int kd), .val (.int (av + ((dd &&& (255 : Int32)) <<< ((6 : Int32) &&& 31)))), .unset, .unset, .unset] [])) _
          refine XS.goto X0.here hx rfl (pc0 := 86) (pc' := 92) rfl (hb hby at_86) (by decide) (by decide) ?_
          show Steps p.tables e below (s₁.setTop (mkF m 92 #[.val (.int x0), .val (.int y0), .val (.int fl), .val (.int dd), .val (.int av), .val (.int bv), .val (.int mb), .val (.int kd), .val (.int (av + ((dd &&& (255 : Int32)) <<< ((6 : Int32) &&& 31)))), .unset, .unset, .unset] [])) _
          exact zk
        · refine ⟨(dd), ((if_neg j3).trans ((if_neg j4).trans (if_neg j5))).symm, fun zt zk => ?_⟩
          show Steps p.tables e below (s₁.setTop (mkF m 34 #[.val (.int x0), .val (.int y0), .val (.int fl), .val (.int dd), .val (.int av), .val (.int bv), .val (.int mb), .val (.int kd), .unset, .unset, .unset, .unset] [(.int kd)])) _
          refine XS.ifYes X0.here hx rfl (pc0 := 34) (pc' := 49) rfl (hb hby at_34) rfl ((if0 _ _).trans (feq j3).2) (by decide) (by decide) ?_
          show Steps p.tables e below (s₁.setTop (mkF m 49 #[.val (.int x0), .val (.int y0), .val (.int fl), .val (.int dd), .val (.int av), .val (.int bv), .val (.int mb), .val (.int kd), .unset, .unset, .unset, .unset] [])) _
          refine XS.iload X0.here hx rfl (hb hby at_49) rfl ?_
          show Steps p.tables e below (s₁.setTop (mkF m 51 #[.val (.int x0), .val (.int y0), .val (.int fl), .val (.int dd), .val (.int av), .val (.int bv), .val (.int mb), .val (.int kd), .unset, .unset, .unset, .unset] [(.int kd)])) _
          refine XS.iconst X0.here hx rfl (hb hby at_51) ?_
          show Steps p.tables e below (s₁.setTop (mkF m 52 #[.val (.int x0), .val (.int y0), .val (.int fl), .val (.int dd), .val (.int av), .val (.int bv), .val (.int mb), .val (.int kd), .unset, .unset, .unset, .unset] [(.int (1 : Int32)), (.int kd)])) _
          refine XS.icmpYes X0.here hx rfl (pc0 := 52) (pc' := 67) rfl (hb hby at_52) rfl (feq j4).2 (by decide) (by decide) ?_
          show Steps p.tables e below (s₁.setTop (mkF m 67 #[.val (.int x0), .val (.int y0), .val (.int fl), .val (.int dd), .val (.int av), .val (.int bv), .val (.int mb), .val (.int kd), .unset, .unset, .unset, .unset] [])) _
          refine XS.iload X0.here hx rfl (hb hby at_67) rfl ?_
          show Steps p.tables e below (s₁.setTop (mkF m 69 #[.val (.int x0), .val (.int y0), .val (.int fl), .val (.int dd), .val (.int av), .val (.int bv), .val (.int mb), .val (.int kd), .unset, .unset, .unset, .unset] [(.int kd)])) _
          refine XS.iconst X0.here hx rfl (hb hby at_69) ?_
          show Steps p.tables e below (s₁.setTop (mkF m 70 #[.val (.int x0), .val (.int y0), .val (.int fl), .val (.int dd), .val (.int av), .val (.int bv), .val (.int mb), .val (.int kd), .unset, .unset, .unset, .unset] [(.int (2 : Int32)), (.int kd)])) _
          refine XS.icmpYes X0.here hx rfl (pc0 := 70) (pc' := 89) rfl (hb hby at_70) rfl (feq j5).2 (by decide) (by decide) ?_
          show Steps p.tables e below (s₁.setTop (mkF m 89 #[.val (.int x0), .val (.int y0), .val (.int fl), .val (.int dd), .val (.int av), .val (.int bv), .val (.int mb), .val (.int kd), .unset, .unset, .unset, .unset] [])) _
          refine XS.iloadN X0.here hx rfl (hb hby at_89) rfl ?_
          show Steps p.tables e below (s₁.setTop (mkF m 90 #[.val (.int x0), .val (.int y0), .val (.int fl), .val (.int dd), .val (.int av), .val (.int bv), .val (.int mb), .val (.int kd), .unset, .unset, .unset, .unset] [(.int dd)])) _
          refine XS.istore X0.here hx rfl (hb hby at_90) rfl (l' := #[.val (.int x0), .val (.int y0), .val (.int fl), .val (.int dd), .val (.int av), .val (.int bv), .val (.int mb), .val (.int kd), .val (.int dd), .unset, .unset, .unset]) rfl ?_
          show Steps p.tables e below (s₁.setTop (mkF m 92 #[.val (.int x0), .val (.int y0), .val (.int fl), .val (.int dd), .val (.int av), .val (.int bv), .val (.int mb), .val (.int kd), .val (.int dd), .unset, .unset, .unset] [])) _
          exact zk
  refine own_by (sj6) ?_
  show own_Go p.tables e below (s₁.setTop (mkF m 92 #[.val (.int x0), .val (.int y0), .val (.int fl), .val (.int dd), .val (.int av), .val (.int bv), .val (.int mb), .val (.int kd), .val (.int q), .unset, .unset, .unset] [])) _
  clear hq
  obtain ⟨T7, hea7, X7, e7, E7, A7, D7, -, st7⟩ := newO X0 hx hZ hown (hw _ (List.mem_of_getElem? (i := 1) rfl)) (hw _ (List.mem_of_getElem? (i := 2) rfl)) (hw _ (List.mem_of_getElem? (i := 3) rfl)) e0 (g := (mkF m 92 #[.val (.int x0), .val (.int y0), .val (.int fl), .val (.int dd), .val (.int av), .val (.int bv), .val (.int mb), .val (.int kd), .val (.int q), .unset, .unset, .unset] [])) rfl (hb hby at_92) (by decide) (by decide)
  obtain ⟨a, g7⟩ : ∃ z, z = h0.size := ⟨_, rfl⟩
  rw [← g7] at A7 D7 st7
  have sz_a : h0.size ≤ a := Nat.le_trans (Nat.le_refl h0.size) (Nat.le_of_eq g7.symm)
  have K7 : h0.size ≤ hea7.size := Nat.le_trans (Nat.le_refl h0.size) E7.1
  refine own_by (st7) ?_
  have F7_words : Fld Z hea7 a "com/example/cutset/cutset/search/NumberSet" "words" "[J" .null := D7 (Or.inl (hw _ (List.mem_of_getElem? (i := 12) rfl))) (ty := (.array .long)) (by decide)
  have F7_summary : Fld Z hea7 a "com/example/cutset/cutset/search/NumberSet" "summary" "[J" .null := D7 (Or.inl (hw _ (List.mem_of_getElem? (i := 14) rfl))) (ty := (.array .long)) (by decide)
  show own_Go p.tables e below (T7.setTop (mkF m 95 #[.val (.int x0), .val (.int y0), .val (.int fl), .val (.int dd), .val (.int av), .val (.int bv), .val (.int mb), .val (.int kd), .val (.int q), .unset, .unset, .unset] [(.ref a)])) _
  refine own_by (fun zt zk => XS.dup X7.here hx rfl (hb hby at_95) rfl rfl zk) ?_
  show own_Go p.tables e below (T7.setTop (mkF m 96 #[.val (.int x0), .val (.int y0), .val (.int fl), .val (.int dd), .val (.int av), .val (.int bv), .val (.int mb), .val (.int kd), .val (.int q), .unset, .unset, .unset] [(.ref a), (.ref a)])) _
  obtain ⟨_, _, ⟨T8, L8, k8, n8⟩, -, X8, ⟨Lc8, hQ8, l8, y8, z8⟩, st8⟩ := X7.specialBack hx (y := (⟨"com/example/cutset/cutset/search/NumberSet", "<init>", "()V"⟩ : MethodName)) rfl hown (mvT hZ (hw _ (List.mem_of_getElem? (i := 4) rfl))) (mvT hZ (hw _ (List.mem_of_getElem? (i := 5) rfl))) (mvT hZ (hw _ (List.mem_of_getElem? (i := 6) rfl))) (by decide) (backOf (W := 1) (rm_new l Z a0 hw [] a  hea7 n0 (Nat.le_trans Z0 K7) A7 (Nat.le_trans Z0 sz_a) F7_words F7_summary) hZ (hw _ (List.mem_of_getElem? (i := 6) rfl)) (hw _ (List.mem_of_getElem? (i := 3) rfl)) (by decide) (by decide)) (g := (mkF m 96 #[.val (.int x0), .val (.int y0), .val (.int fl), .val (.int dd), .val (.int av), .val (.int bv), .val (.int mb), .val (.int kd), .val (.int q), .unset, .unset, .unset] [(.ref a), (.ref a)])) rfl (by rw [hml]; rfl) (Steps.refl _) (a := a) (argsL := []) (rest := [(.ref a)]) (lenOf pd_172 rfl) rfl (by show 2 * 0 + _ ≤ _; exact Nat.le_of_eq rfl) (hb hby at_96) (fun _ _ => ⟨rfl, e7, (by decide : 1 + 2 ≤ _), (by decide : 2 + 2 ≤ _)⟩)
  dsimp only [Pt.U, Pt.locs, Pt.cells, Pt.slots] at X8 l8 y8 z8 st8 hQ8
  subst l8 y8 z8
  obtain ⟨rfl, N8q, Kc8, w1, s1, NSa⟩ := hQ8
  have N8 := Fr.app N0 N8q
  have K8 : h0.size ≤ T8.heap.size := Nat.le_trans K7 Kc8
  refine own_tr st8 ?_
  show own_Go p.tables e below (T8.setTop (mkF m 99 #[.val (.int x0), .val (.int y0), .val (.int fl), .val (.int dd), .val (.int av), .val (.int bv), .val (.int mb), .val (.int kd), .val (.int q), .unset, .unset, .unset] [(.ref a)])) _
  have EENSa := NSa.1
  refine own_by (fun zt zk => XS.astore X8.here hx rfl (hb hby at_99) rfl rfl (l' := #[.val (.int x0), .val (.int y0), .val (.int fl), .val (.int dd), .val (.int av), .val (.int bv), .val (.int mb), .val (.int kd), .val (.int q), .val (.ref a), .unset, .unset]) rfl zk) ?_
  show own_Go p.tables e below (T8.setTop (mkF m 101 #[.val (.int x0), .val (.int y0), .val (.int fl), .val (.int dd), .val (.int av), .val (.int bv), .val (.int mb), .val (.int kd), .val (.int q), .val (.ref a), .unset, .unset] [])) _
  refine own_by (fun zt zk => XS.aload X8.here hx rfl (hb hby at_101) rfl rfl zk) ?_
  show own_Go p.tables e below (T8.setTop (mkF m 103 #[.val (.int x0), .val (.int y0), .val (.int fl), .val (.int dd), .val (.int av), .val (.int bv), .val (.int mb), .val (.int kd), .val (.int q), .val (.ref a), .unset, .unset] [(.ref a)])) _
  refine own_by (fun zt zk => XS.iload X8.here hx rfl (hb hby at_103) rfl zk) ?_
  show own_Go p.tables e below (T8.setTop (mkF m 105 #[.val (.int x0), .val (.int y0), .val (.int fl), .val (.int dd), .val (.int av), .val (.int bv), .val (.int mb), .val (.int kd), .val (.int q), .val (.ref a), .unset, .unset] [(.int q), (.ref a)])) _
  obtain ⟨cq9, kq9, q9a, q9b, q9c⟩ := isOf hZ rfl EENSa
  obtain ⟨_, _, ⟨T9, L9, k9, n9⟩, -, X9, ⟨Lc9, hQ9, l9, y9, z9⟩, st9⟩ := X8.virtualBack hx (y := (⟨"com/example/cutset/cutset/search/NumberSet", "contains", "(I)Z"⟩ : MethodName)) (z := (⟨"com/example/cutset/cutset/search/NumberSet", "contains", "(I)Z"⟩ : MethodName)) hown (mvT hZ (hw _ (List.mem_of_getElem? (i := 15) rfl))) (mvT hZ (hw _ (List.mem_of_getElem? (i := 16) rfl))) (notFace_of_selects (args := #[]) (mvT hZ (hw _ (List.mem_of_getElem? (i := 18) rfl)))) (mvT hZ (hw _ (List.mem_of_getElem? (i := 18) rfl))) (mvT hZ (hw _ (List.mem_of_getElem? (i := 17) rfl))) (by decide) (backOf (W := 0) (rm_ct l Z a0 hw [] a q w1 s1 1 1 (fun _ => (0 : Int64)) (fun _ => (0 : Int64)) T8.heap n0 (Nat.le_trans Z0 K8) NSa) hZ (hw _ (List.mem_of_getElem? (i := 19) rfl)) (hw _ (List.mem_of_getElem? (i := 3) rfl)) (by decide) (by decide)) q9a q9c (g := (mkF m 105 #[.val (.int x0), .val (.int y0), .val (.int fl), .val (.int dd), .val (.int av), .val (.int bv), .val (.int mb), .val (.int kd), .val (.int q), .val (.ref a), .unset, .unset] [(.int q), (.ref a)])) rfl (by rw [hml]; rfl) (Steps.refl _) (argsL := [(.int q)]) (rest := []) (lenOf pd_173 rfl) rfl (by show 2 * 0 + _ ≤ _; exact Nat.le_of_eq rfl) (hb hby at_105) (fun _ _ => ⟨rfl, rfl, (by decide : 3 + 0 ≤ _), (by decide : 4 + 0 ≤ _)⟩)
  dsimp only [Pt.U, Pt.locs, Pt.cells, Pt.slots] at X9 l9 y9 z9 st9 hQ9
  subst l9 y9 z9
  obtain ⟨r0, rfl, N9q, eh9, hr0⟩ := hQ9
  have N9 := Fr.app N8 N9q
  refine own_tr st9 ?_
  show own_Go p.tables e below (T9.setTop (mkF m 108 #[.val (.int x0), .val (.int y0), .val (.int fl), .val (.int dd), .val (.int av), .val (.int bv), .val (.int mb), .val (.int kd), .val (.int q), .val (.ref a), .unset, .unset] [(.int r0)])) _
  have e0' : r0 = 0 := by rw [hr0]; exact own_empty q
  refine own_by (fun zt zk => XS.ifNo X9.here hx rfl (hb hby at_108) rfl ((if0 _ _).trans (teq e0').2) zk) ?_
  show own_Go p.tables e below (T9.setTop (mkF m 111 #[.val (.int x0), .val (.int y0), .val (.int fl), .val (.int dd), .val (.int av), .val (.int bv), .val (.int mb), .val (.int kd), .val (.int q), .val (.ref a), .unset, .unset] [])) _
  refine own_by (fun zt zk => XS.iconst X9.here hx rfl (hb hby at_111) zk) ?_
  show own_Go p.tables e below (T9.setTop (mkF m 112 #[.val (.int x0), .val (.int y0), .val (.int fl), .val (.int dd), .val (.int av), .val (.int bv), .val (.int mb), .val (.int kd), .val (.int q), .val (.ref a), .unset, .unset] [(.int (1 : Int32))])) _
  refine own_by (fun zt zk => XS.goto X9.here hx rfl (pc0 := 112) (pc' := 116) rfl (hb hby at_112) (by decide) (by decide) zk) ?_
  show own_Go p.tables e below (T9.setTop (mkF m 116 #[.val (.int x0), .val (.int y0), .val (.int fl), .val (.int dd), .val (.int av), .val (.int bv), .val (.int mb), .val (.int kd), .val (.int q), .val (.ref a), .unset, .unset] [(.int (1 : Int32))])) _
  refine own_by (fun zt zk => XS.istore X9.here hx rfl (hb hby at_116) rfl (l' := #[.val (.int x0), .val (.int y0), .val (.int fl), .val (.int dd), .val (.int av), .val (.int bv), .val (.int mb), .val (.int kd), .val (.int q), .val (.ref a), .val (.int (1 : Int32)), .unset]) rfl zk) ?_
  show own_Go p.tables e below (T9.setTop (mkF m 118 #[.val (.int x0), .val (.int y0), .val (.int fl), .val (.int dd), .val (.int av), .val (.int bv), .val (.int mb), .val (.int kd), .val (.int q), .val (.ref a), .val (.int (1 : Int32)), .unset] [])) _
  refine own_by (fun zt zk => XS.aload X9.here hx rfl (hb hby at_118) rfl rfl zk) ?_
  show own_Go p.tables e below (T9.setTop (mkF m 120 #[.val (.int x0), .val (.int y0), .val (.int fl), .val (.int dd), .val (.int av), .val (.int bv), .val (.int mb), .val (.int kd), .val (.int q), .val (.ref a), .val (.int (1 : Int32)), .unset] [(.ref a)])) _
  refine own_by (fun zt zk => XS.iload X9.here hx rfl (hb hby at_120) rfl zk) ?_
  show own_Go p.tables e below (T9.setTop (mkF m 122 #[.val (.int x0), .val (.int y0), .val (.int fl), .val (.int dd), .val (.int av), .val (.int bv), .val (.int mb), .val (.int kd), .val (.int q), .val (.ref a), .val (.int (1 : Int32)), .unset] [(.int av), (.ref a)])) _
  refine own_by (fun zt zk => XS.iconst X9.here hx rfl (hb hby at_122) zk) ?_
  show own_Go p.tables e below (T9.setTop (mkF m 123 #[.val (.int x0), .val (.int y0), .val (.int fl), .val (.int dd), .val (.int av), .val (.int bv), .val (.int mb), .val (.int kd), .val (.int q), .val (.ref a), .val (.int (1 : Int32)), .unset] [(.int (1 : Int32)), (.int av), (.ref a)])) _
  obtain ⟨cq10, kq10, q10a, q10b, q10c⟩ := isOf hZ eh9 EENSa
  obtain ⟨_, _, ⟨T10, L10, k10, n10⟩, -, X10, ⟨Lc10, hQ10, l10, y10, z10⟩, st10⟩ := X9.virtualBack hx (y := (⟨"com/example/cutset/cutset/search/NumberSet", "set", "(IZ)V"⟩ : MethodName)) (z := (⟨"com/example/cutset/cutset/search/NumberSet", "set", "(IZ)V"⟩ : MethodName)) hown (mvT hZ (hw _ (List.mem_of_getElem? (i := 20) rfl))) (mvT hZ (hw _ (List.mem_of_getElem? (i := 21) rfl))) (notFace_of_selects (args := #[]) (mvT hZ (hw _ (List.mem_of_getElem? (i := 23) rfl)))) (mvT hZ (hw _ (List.mem_of_getElem? (i := 23) rfl))) (mvT hZ (hw _ (List.mem_of_getElem? (i := 22) rfl))) (by decide) (backOf (W := 0) (rm_set l Z a0 hw [] a av (1 : Int32) w1 s1 1 1 (fun _ => (0 : Int64)) (fun _ => (0 : Int64)) T8.heap n0 (Nat.le_trans Z0 K8) NSa (own_16 hav)) hZ (hw _ (List.mem_of_getElem? (i := 24) rfl)) (hw _ (List.mem_of_getElem? (i := 3) rfl)) (by decide) (by decide)) q10a q10c (g := (mkF m 123 #[.val (.int x0), .val (.int y0), .val (.int fl), .val (.int dd), .val (.int av), .val (.int bv), .val (.int mb), .val (.int kd), .val (.int q), .val (.ref a), .val (.int (1 : Int32)), .unset] [(.int (1 : Int32)), (.int av), (.ref a)])) rfl (by rw [hml]; rfl) (Steps.refl _) (argsL := [(.int av), (.int (1 : Int32))]) (rest := []) (lenOf pd_174 rfl) rfl (by show 2 * 0 + _ ≤ _; exact Nat.le_of_eq rfl) (hb hby at_123) (fun _ _ => ⟨rfl, eh9, (by decide : 3 + 2 ≤ _), (by decide : 4 + 1040 ≤ _)⟩)
  dsimp only [Pt.U, Pt.locs, Pt.cells, Pt.slots] at X10 l10 y10 z10 st10 hQ10
  subst l10 y10 z10
  obtain ⟨rfl, N10q, Kc10, w2, s2, N2, M2, g2, NSb⟩ := hQ10
  have N10 := Fr.app N9 N10q
  have K10 : h0.size ≤ T10.heap.size := Nat.le_trans K8 Kc10
  refine own_tr st10 ?_
  show own_Go p.tables e below (T10.setTop (mkF m 126 #[.val (.int x0), .val (.int y0), .val (.int fl), .val (.int dd), .val (.int av), .val (.int bv), .val (.int mb), .val (.int kd), .val (.int q), .val (.ref a), .val (.int (1 : Int32)), .unset] [])) _
  obtain ⟨-, hi2, hn2, NSb⟩ := NSb.resolve_left fun z => absurd z.1 (by decide)
  have EENSb := NSb.1
  refine own_by (fun zt zk => XS.aload X10.here hx rfl (hb hby at_126) rfl rfl zk) ?_
  show own_Go p.tables e below (T10.setTop (mkF m 128 #[.val (.int x0), .val (.int y0), .val (.int fl), .val (.int dd), .val (.int av), .val (.int bv), .val (.int mb), .val (.int kd), .val (.int q), .val (.ref a), .val (.int (1 : Int32)), .unset] [(.ref a)])) _
  refine own_by (fun zt zk => XS.iload X10.here hx rfl (hb hby at_128) rfl zk) ?_
  show own_Go p.tables e below (T10.setTop (mkF m 130 #[.val (.int x0), .val (.int y0), .val (.int fl), .val (.int dd), .val (.int av), .val (.int bv), .val (.int mb), .val (.int kd), .val (.int q), .val (.ref a), .val (.int (1 : Int32)), .unset] [(.int bv), (.ref a)])) _
  refine own_by (fun zt zk => XS.iload X10.here hx rfl (hb hby at_130) rfl zk) ?_
  show own_Go p.tables e below (T10.setTop (mkF m 132 #[.val (.int x0), .val (.int y0), .val (.int fl), .val (.int dd), .val (.int av), .val (.int bv), .val (.int mb), .val (.int kd), .val (.int q), .val (.ref a), .val (.int (1 : Int32)), .unset] [(.int mb), (.int bv), (.ref a)])) _
  obtain ⟨cq11, kq11, q11a, q11b, q11c⟩ := isOf hZ rfl EENSb
  obtain ⟨_, _, ⟨T11, L11, k11, n11⟩, -, X11, ⟨Lc11, hQ11, l11, y11, z11⟩, st11⟩ := X10.virtualBack hx (y := (⟨"com/example/cutset/cutset/search/NumberSet", "set", "(IZ)V"⟩ : MethodName)) (z := (⟨"com/example/cutset/cutset/search/NumberSet", "set", "(IZ)V"⟩ : MethodName)) hown (mvT hZ (hw _ (List.mem_of_getElem? (i := 20) rfl))) (mvT hZ (hw _ (List.mem_of_getElem? (i := 21) rfl))) (notFace_of_selects (args := #[]) (mvT hZ (hw _ (List.mem_of_getElem? (i := 23) rfl)))) (mvT hZ (hw _ (List.mem_of_getElem? (i := 23) rfl))) (mvT hZ (hw _ (List.mem_of_getElem? (i := 22) rfl))) (by decide) (backOf (W := 0) (rm_set l Z a0 hw [] a bv mb w2 s2 N2 M2 _ g2 T10.heap n0 (Nat.le_trans Z0 K10) NSb (own_16 hbv)) hZ (hw _ (List.mem_of_getElem? (i := 24) rfl)) (hw _ (List.mem_of_getElem? (i := 3) rfl)) (by decide) (by decide)) q11a q11c (g := (mkF m 132 #[.val (.int x0), .val (.int y0), .val (.int fl), .val (.int dd), .val (.int av), .val (.int bv), .val (.int mb), .val (.int kd), .val (.int q), .val (.ref a), .val (.int (1 : Int32)), .unset] [(.int mb), (.int bv), (.ref a)])) rfl (by rw [hml]; rfl) (Steps.refl _) (argsL := [(.int bv), (.int mb)]) (rest := []) (lenOf pd_174 rfl) rfl (by show 2 * 0 + _ ≤ _; exact Nat.le_of_eq rfl) (hb hby at_132) (fun _ _ => ⟨rfl, rfl, (by decide : 5 + 2 ≤ _), (by decide : 1044 + 1040 ≤ _)⟩)
  dsimp only [Pt.U, Pt.locs, Pt.cells, Pt.slots] at X11 l11 y11 z11 st11 hQ11
  subst l11 y11 z11
  obtain ⟨rfl, N11q, Kc11, w3, s3, N3, M3, g3, NSc⟩ := hQ11
  have N11 := Fr.app N10 N11q
  have K11 : h0.size ≤ T11.heap.size := Nat.le_trans K10 Kc11
  refine own_tr st11 ?_
  show own_Go p.tables e below (T11.setTop (mkF m 135 #[.val (.int x0), .val (.int y0), .val (.int fl), .val (.int dd), .val (.int av), .val (.int bv), .val (.int mb), .val (.int kd), .val (.int q), .val (.ref a), .val (.int (1 : Int32)), .unset] [])) _
  obtain ⟨f3, NSd, hf3⟩ : ∃ f3, own_NS Z n0 T11.heap a w3 s3 N3 M3 f3 g3 ∧ own_F3 av bv mb N2 N3 f3 := by
    rcases NSc with ⟨u1, u2, u3⟩ | ⟨u1, u2, u3, u4⟩
    · exact ⟨_, u3, Or.inl ⟨u1, u2, rfl⟩⟩
    · exact ⟨_, u4, Or.inr ⟨u1, u2, u3, rfl⟩⟩
  have EENSd := NSd.1
  refine own_by (fun zt zk => XS.iload X11.here hx rfl (hb hby at_135) rfl zk) ?_
  show own_Go p.tables e below (T11.setTop (mkF m 137 #[.val (.int x0), .val (.int y0), .val (.int fl), .val (.int dd), .val (.int av), .val (.int bv), .val (.int mb), .val (.int kd), .val (.int q), .val (.ref a), .val (.int (1 : Int32)), .unset] [(.int q)])) _
  refine own_by (fun zt zk => XS.iload X11.here hx rfl (hb hby at_137) rfl zk) ?_
  show own_Go p.tables e below (T11.setTop (mkF m 139 #[.val (.int x0), .val (.int y0), .val (.int fl), .val (.int dd), .val (.int av), .val (.int bv), .val (.int mb), .val (.int kd), .val (.int q), .val (.ref a), .val (.int (1 : Int32)), .unset] [(.int bv), (.int q)])) _
  obtain ⟨ex, hex, sj14⟩ : ∃ (ex : Int32), ex = (if q = bv then mb else (if q = av then (1 : Int32) else (0 : Int32))) ∧ ∀ zt, Steps p.tables e below (T11.setTop (mkF m 159 #[.val (.int x0), .val (.int y0), .val (.int fl), .val (.int dd), .val (.int av), .val (.int bv), .val (.int mb), .val (.int kd), .val (.int q), .val (.ref a), .val (.int (1 : Int32)), .unset] [(.int ex)])) zt → Steps p.tables e below (T11.setTop (mkF m 139 #[.val (.int x0), .val (.int y0), .val (.int fl), .val (.int dd), .val (.int av), .val (.int bv), .val (.int mb), .val (.int kd), .val (.int q), .val (.ref a), .val (.int (1 : Int32)), .unset] [(.int bv), (.int q)])) zt := by
    by_cases j12 : q = bv
    · refine ⟨(mb), (if_pos j12).symm, fun zt zk => ?_⟩
      show Steps p.tables e below (T11.setTop (mkF m 139 #[.val (.int x0), .val (.int y0), .val (.int fl), .val (.int dd), .val (.int av), .val (.int bv), .val (.int mb), .val (.int kd), .val (.int q), .val (.ref a), .val (.int (1 : Int32)), .unset] [(.int bv), (.int q)])) _
      refine XS.icmpNo X11.here hx rfl (hb hby at_139) rfl (teq j12).2 ?_
      show Steps p.tables e below (T11.setTop (mkF m 142 #[.val (.int x0), .val (.int y0), .val (.int fl), .val (.int dd), .val (.int av), .val (.int bv), .val (.int mb), .val (.int kd), .val (.int q), .val (.ref a), .val (.int (1 : Int32)), .unset] [])) _
      refine XS.iload X11.here hx rfl (hb hby at_142) rfl ?_
      show Steps p.tables e below (T11.setTop (mkF m 144 #[.val (.int x0), .val (.int y0), .val (.int fl), .val (.int dd), .val (.int av), .val (.int bv), .val (.int mb), .val (.int kd), .val (.int q), .val (.ref a), .val (.int (1 : Int32)), .unset] [(.int mb)])) _
      refine XS.goto X11.here hx rfl (pc0 := 144) (pc' := 159) rfl (hb hby at_144) (by decide) (by decide) ?_
      show Steps p.tables e below (T11.setTop (mkF m 159 #[.val (.int x0), .val (.int y0), .val (.int fl), .val (.int dd), .val (.int av), .val (.int bv), .val (.int mb), .val (.int kd), .val (.int q), .val (.ref a), .val (.int (1 : Int32)), .unset] [(.int mb)])) _
      exact zk
    · by_cases j13 : q = av
      · refine ⟨((1 : Int32)), ((if_neg j12).trans (if_pos j13)).symm, fun zt zk => ?_⟩
        show Steps p.tables e below (T11.setTop (mkF m 139 #[.val (.int x0), .val (.int y0), .val (.int fl), .val (.int dd), .val (.int av), .val (.int bv), .val (.int mb), .val (.int kd), .val (.int q), .val (.ref a), .val (.int (1 : Int32)), .unset] [(.int bv), (.int q)])) _
        refine XS.icmpYes X11.here hx rfl (pc0 := 139) (pc' := 147) rfl (hb hby at_139) rfl (feq j12).2 (by decide) (by decide) ?_
        show Steps p.tables e below (T11.setTop (mkF m 147 #[.val (.int x0), .val (.int y0), .val (.int fl), .val (.int dd), .val (.int av), .val (.int bv), .val (.int mb), .val (.int kd), .val (.int q), .val (.ref a), .val (.int (1 : Int32)), .unset] [])) _
        refine XS.iload X11.here hx rfl (hb hby at_147) rfl ?_
        show Steps p.tables e below (T11.setTop (mkF m 149 #[.val (.int x0), .val (.int y0), .val (.int fl), .val (.int dd), .val (.int av), .val (.int bv), .val (.int mb), .val (.int kd), .val (.int q), .val (.ref a), .val (.int (1 : Int32)), .unset] [(.int q)])) _
        refine XS.iload X11.here hx rfl (hb hby at_149) rfl ?_
        show Steps p.tables e below (T11.setTop (mkF m 151 #[.val (.int x0), .val (.int y0), .val (.int fl), .val (.int dd), .val (.int av), .val (.int bv), .val (.int mb), .val (.int kd), .val (.int q), .val (.ref a), .val (.int (1 : Int32)), .unset] [(.int av), (.int q)])) _
        refine XS.icmpNo X11.here hx rfl (hb hby at_151) rfl (teq j13).2 ?_
        show Steps p.tables e below (T11.setTop (mkF m 154 #[.val (.int x0), .val (.int y0), .val (.int fl), .val (.int dd), .val (.int av), .val (.int bv), .val (.int mb), .val (.int kd), .val (.int q), .val (.ref a), .val (.int (1 : Int32)), .unset] [])) _
        refine XS.iconst X11.here hx rfl (hb hby at_154) ?_
        show Steps p.tables e below (T11.setTop (mkF m 155 #[.val (.int x0), .val (.int y0), .val (.int fl), .val (.int dd), .val (.int av), .val (.int bv), .val (.int mb), .val (.int kd), .val (.int q), .val (.ref a), .val (.int (1 : Int32)), .unset] [(.int (1 : Int32))])) _
        refine XS.goto X11.here hx rfl (pc0 := 155) (pc' := 159) rfl (hb hby at_155) (by decide) (by decide) ?_
        show Steps p.tables e below (T11.setTop (mkF m 159 #[.val (.int x0), .val (.int y0), .val (.int fl), .val (.int dd), .val (.int av), .val (.int bv), .val (.int mb), .val (.int kd), .val (.int q), .val (.ref a), .val (.int (1 : Int32)), .unset] [(.int (1 : Int32))])) _
        exact zk
      · refine ⟨((0 : Int32)), ((if_neg j12).trans (if_neg j13)).symm, fun zt zk => ?_⟩
        show Steps p.tables e below (T11.setTop (mkF m 139 #[.val (.int x0), .val (.int y0), .val (.int fl), .val (.int dd), .val (.int av), .val (.int bv), .val (.int mb), .val (.int kd), .val (.int q), .val (.ref a), .val (.int (1 : Int32)), .unset] [(.int bv), (.int q)])) _
        refine XS.icmpYes X11.here hx rfl (pc0 := 139) (pc' := 147) rfl (hb hby at_139) rfl (feq j12).2 (by decide) (by decide) ?_
        show Steps p.tables e below (T11.setTop (mkF m 147 #[.val (.int x0), .val (.int y0), .val (.int fl), .val (.int dd), .val (.int av), .val (.int bv), .val (.int mb), .val (.int kd), .val (.int q), .val (.ref a), .val (.int (1 : Int32)), .unset] [])) _
        refine XS.iload X11.here hx rfl (hb hby at_147) rfl ?_
        show Steps p.tables e below (T11.setTop (mkF m 149 #[.val (.int x0), .val (.int y0), .val (.int fl), .val (.int dd), .val (.int av), .val (.int bv), .val (.int mb), .val (.int kd), .val (.int q), .val (.ref a), .val (.int (1 : Int32)), .unset] [(.int q)])) _
        refine XS.iload X11.here hx rfl (hb hby at_149) rfl ?_
        show Steps p.tables e below (T11.setTop (mkF m 151 #[.val (.int x0), .val (.int y0), .val (.int fl), .val (.int dd), .val (.int av), .val (.int bv), .val (.int mb), .val (.int kd), .val (.int q), .val (.ref a), .val (.int (1 : Int32)), .unset] [(.int av), (.int q)])) _
        refine XS.icmpYes X11.here hx rfl (pc0 := 151) (pc' := 158) rfl (hb hby at_151) rfl (feq j13).2 (by decide) (by decide) ?_
        show Steps p.tables e below (T11.setTop (mkF m 158 #[.val (.int x0), .val (.int y0), .val (.int fl), .val (.int dd), .val (.int av), .val (.int bv), .val (.int mb), .val (.int kd), .val (.int q), .val (.ref a), .val (.int (1 : Int32)), .unset] [])) _
        refine XS.iconst X11.here hx rfl (hb hby at_158) ?_
        show Steps p.tables e below (T11.setTop (mkF m 159 #[.val (.int x0), .val (.int y0), .val (.int fl), .val (.int dd), .val (.int av), .val (.int bv), .val (.int mb), .val (.int kd), .val (.int q), .val (.ref a), .val (.int (1 : Int32)), .unset] [(.int (0 : Int32))])) _
        exact zk
  refine own_by (sj14) ?_
  show own_Go p.tables e below (T11.setTop (mkF m 159 #[.val (.int x0), .val (.int y0), .val (.int fl), .val (.int dd), .val (.int av), .val (.int bv), .val (.int mb), .val (.int kd), .val (.int q), .val (.ref a), .val (.int (1 : Int32)), .unset] [(.int ex)])) _
  refine own_by (fun zt zk => XS.istore X11.here hx rfl (hb hby at_159) rfl (l' := #[.val (.int x0), .val (.int y0), .val (.int fl), .val (.int dd), .val (.int av), .val (.int bv), .val (.int mb), .val (.int kd), .val (.int q), .val (.ref a), .val (.int (1 : Int32)), .val (.int ex)]) rfl zk) ?_
  show own_Go p.tables e below (T11.setTop (mkF m 161 #[.val (.int x0), .val (.int y0), .val (.int fl), .val (.int dd), .val (.int av), .val (.int bv), .val (.int mb), .val (.int kd), .val (.int q), .val (.ref a), .val (.int (1 : Int32)), .val (.int ex)] [])) _
  refine own_by (fun zt zk => XS.iload X11.here hx rfl (hb hby at_161) rfl zk) ?_
  show own_Go p.tables e below (T11.setTop (mkF m 163 #[.val (.int x0), .val (.int y0), .val (.int fl), .val (.int dd), .val (.int av), .val (.int bv), .val (.int mb), .val (.int kd), .val (.int q), .val (.ref a), .val (.int (1 : Int32)), .val (.int ex)] [(.int (1 : Int32))])) _
  refine own_by (fun zt zk => XS.ifNo X11.here hx rfl (hb hby at_163) rfl ((if0 _ _).trans (feq (by decide)).1) zk) ?_
  show own_Go p.tables e below (T11.setTop (mkF m 166 #[.val (.int x0), .val (.int y0), .val (.int fl), .val (.int dd), .val (.int av), .val (.int bv), .val (.int mb), .val (.int kd), .val (.int q), .val (.ref a), .val (.int (1 : Int32)), .val (.int ex)] [])) _
  refine own_by (fun zt zk => XS.aload X11.here hx rfl (hb hby at_166) rfl rfl zk) ?_
  show own_Go p.tables e below (T11.setTop (mkF m 168 #[.val (.int x0), .val (.int y0), .val (.int fl), .val (.int dd), .val (.int av), .val (.int bv), .val (.int mb), .val (.int kd), .val (.int q), .val (.ref a), .val (.int (1 : Int32)), .val (.int ex)] [(.ref a)])) _
  refine own_by (fun zt zk => XS.iload X11.here hx rfl (hb hby at_168) rfl zk) ?_
  show own_Go p.tables e below (T11.setTop (mkF m 170 #[.val (.int x0), .val (.int y0), .val (.int fl), .val (.int dd), .val (.int av), .val (.int bv), .val (.int mb), .val (.int kd), .val (.int q), .val (.ref a), .val (.int (1 : Int32)), .val (.int ex)] [(.int q), (.ref a)])) _
  obtain ⟨cq15, kq15, q15a, q15b, q15c⟩ := isOf hZ rfl EENSd
  obtain ⟨_, _, ⟨T15, L15, k15, n15⟩, -, X15, ⟨Lc15, hQ15, l15, y15, z15⟩, st15⟩ := X11.virtualBack hx (y := (⟨"com/example/cutset/cutset/search/NumberSet", "contains", "(I)Z"⟩ : MethodName)) (z := (⟨"com/example/cutset/cutset/search/NumberSet", "contains", "(I)Z"⟩ : MethodName)) hown (mvT hZ (hw _ (List.mem_of_getElem? (i := 15) rfl))) (mvT hZ (hw _ (List.mem_of_getElem? (i := 16) rfl))) (notFace_of_selects (args := #[]) (mvT hZ (hw _ (List.mem_of_getElem? (i := 18) rfl)))) (mvT hZ (hw _ (List.mem_of_getElem? (i := 18) rfl))) (mvT hZ (hw _ (List.mem_of_getElem? (i := 17) rfl))) (by decide) (backOf (W := 0) (rm_ct l Z a0 hw [] a q w3 s3 N3 M3 f3 g3 T11.heap n0 (Nat.le_trans Z0 K11) NSd) hZ (hw _ (List.mem_of_getElem? (i := 19) rfl)) (hw _ (List.mem_of_getElem? (i := 3) rfl)) (by decide) (by decide)) q15a q15c (g := (mkF m 170 #[.val (.int x0), .val (.int y0), .val (.int fl), .val (.int dd), .val (.int av), .val (.int bv), .val (.int mb), .val (.int kd), .val (.int q), .val (.ref a), .val (.int (1 : Int32)), .val (.int ex)] [(.int q), (.ref a)])) rfl (by rw [hml]; rfl) (Steps.refl _) (argsL := [(.int q)]) (rest := []) (lenOf pd_173 rfl) rfl (by show 2 * 0 + _ ≤ _; exact Nat.le_of_eq rfl) (hb hby at_170) (fun _ _ => ⟨rfl, rfl, (by decide : 7 + 0 ≤ _), (by decide : 2084 + 0 ≤ _)⟩)
  dsimp only [Pt.U, Pt.locs, Pt.cells, Pt.slots] at X15 l15 y15 z15 st15 hQ15
  subst l15 y15 z15
  obtain ⟨r1, rfl, N15q, eh15, hr1⟩ := hQ15
  have N15 := Fr.app N11 N15q
  refine own_tr st15 ?_
  show own_Go p.tables e below (T15.setTop (mkF m 173 #[.val (.int x0), .val (.int y0), .val (.int fl), .val (.int dd), .val (.int av), .val (.int bv), .val (.int mb), .val (.int kd), .val (.int q), .val (.ref a), .val (.int (1 : Int32)), .val (.int ex)] [(.int r1)])) _
  have hb3 : N3 ≤ 1024 := NSd.2.2.2.2.2.2.2.2.2.2.2.2.2.2.1
  have er : r1 = ex := by rw [hr1, hex]; exact own_main hav hbv hmb hi2 hn2 hb3 hf3
  refine own_by (fun zt zk => XS.iload X15.here hx rfl (hb hby at_173) rfl zk) ?_
  show own_Go p.tables e below (T15.setTop (mkF m 175 #[.val (.int x0), .val (.int y0), .val (.int fl), .val (.int dd), .val (.int av), .val (.int bv), .val (.int mb), .val (.int kd), .val (.int q), .val (.ref a), .val (.int (1 : Int32)), .val (.int ex)] [(.int ex), (.int r1)])) _
  refine own_by (fun zt zk => XS.icmpNo X15.here hx rfl (hb hby at_175) rfl (teq er).2 zk) ?_
  show own_Go p.tables e below (T15.setTop (mkF m 178 #[.val (.int x0), .val (.int y0), .val (.int fl), .val (.int dd), .val (.int av), .val (.int bv), .val (.int mb), .val (.int kd), .val (.int q), .val (.ref a), .val (.int (1 : Int32)), .val (.int ex)] [])) _
  refine own_by (fun zt zk => XS.iconst X15.here hx rfl (hb hby at_178) zk) ?_
  show own_Go p.tables e below (T15.setTop (mkF m 179 #[.val (.int x0), .val (.int y0), .val (.int fl), .val (.int dd), .val (.int av), .val (.int bv), .val (.int mb), .val (.int kd), .val (.int q), .val (.ref a), .val (.int (1 : Int32)), .val (.int ex)] [(.int (1 : Int32))])) _
  refine own_by (fun zt zk => XS.goto X15.here hx rfl (pc0 := 179) (pc' := 183) rfl (hb hby at_179) (by decide) (by decide) zk) ?_
  show own_Go p.tables e below (T15.setTop (mkF m 183 #[.val (.int x0), .val (.int y0), .val (.int fl), .val (.int dd), .val (.int av), .val (.int bv), .val (.int mb), .val (.int kd), .val (.int q), .val (.ref a), .val (.int (1 : Int32)), .val (.int ex)] [(.int (1 : Int32))])) _
  exact own_retN X15 hx Bd.notSynchronized (t := .boolean) Bd.returns (by simp) (by decide) (hb hby at_183) (by (try rw [eh15]); exact ⟨rfl, N15⟩) (by decide) (by decide)
set_option maxRecDepth 65536 in
set_option maxHeartbeats 40000000 in
theorem comes_1 {Post : Tables → Env → Array Value → State → Outcome → State → Prop} (hpost : ∀ tb e args s v u, (limb_1_1.after args s (.returned v) u = true ∧ limb_1_2.after args s (.returned v) u = true ∧ True) → FrameEnd s (.returned v) u (Jvm.fieldLocs frame_1_writes args s ++ Jvm.arrayLocs frame_1_arrays args s ++ Jvm.staticLocs frame_1_statics s) 24 3200 → Post tb e args s (.returned v) u) :
    ArmFor flags0 classFile x code maxLocals ret World_1 tables_1 room_1 Calls_1 rest_1 Pre_1 Post := by
  intro l hfl _ _ p e ha hc hk s m args below hf hA hF happ hP
  obtain ⟨hcalls, hrest, hpre⟩ := hP
  obtain ⟨-, -, -, hnamed, -, -, -, hat⟩ := (Spec.applies_iff hf).mp happ
  obtain ⟨hg, hn⟩ := and_e (Cond.before_iff.mp (show (Jvm.Cond.and given_1 narrow_1).before args s = true from hpre))
  obtain ⟨hcount, t0⟩ := and_e hg
  obtain ⟨g0, t1⟩ := and_e t0
  obtain ⟨g1, t2⟩ := and_e t1
  obtain ⟨g2, t3⟩ := and_e t2
  obtain ⟨w0, w1, w2, w3, rfl⟩ : ∃ w0 w1 w2 w3 : Value, args = #[w0, w1, w2, w3] := by
    have hs : args.size = 4 := by simpa [Cond.value, given_1] using hcount
    obtain ⟨L⟩ := args
    match L, hs with
    | [w0, w1, w2, w3], _ => exact ⟨w0, w1, w2, w3, rfl⟩
  have hw := fun d (hd : d ∈ tables_1) => atoms_spec (ws := Jvm.Cond.code x code maxLocals ret :: tables_1) hat d (List.mem_cons_of_mem _ hd)
  obtain ⟨i0, ei0⟩ := is_v g0
  obtain rfl : w0 = (.int i0) := Option.some.inj ei0
  obtain ⟨i1, ei1⟩ := is_v g1
  obtain rfl : w1 = (.int i1) := Option.some.inj ei1
  obtain ⟨i2, ei2⟩ := is_v g2
  obtain rfl : w2 = (.int i2) := Option.some.inj ei2
  obtain ⟨i3, ei3⟩ := is_v t3
  obtain rfl : w3 = (.int i3) := Option.some.inj ei3
  obtain ⟨n, o, h1, h2, h3, _, L, rfl, ⟨rfl, N⟩, hq⟩ := rm_law l s _ hw tables_1 i0 i1 i2 i3 s.heap s.heap.size (Nat.le_refl _) p e ha hc hk s m _ below hf ((Spec.applies_iff_loose hf).mp happ).1 ⟨rfl, State.Warmed39.refl s, rfl⟩ trivial
  refine ⟨n, _, h1, h2, h3, hpost _ _ _ _ _ _ ⟨Cond.after_iff.mpr rfl, Cond.after_iff.mpr (eq_i res_at (Term.int_eval (1)) rfl), trivial⟩ ⟨hq.1, hq.2.1, (hq.2.2.sift fun y hy => Or.inr (N y hy)).mono (by decide) (by decide)⟩⟩
theorem main_1_1 : Claimed_1_1 := comes_1 fun _ _ _ _ _ _ h hF => ⟨h.1, hF⟩
theorem main_1_2 : Claimed_1_2 := comes_1 fun _ _ _ _ _ _ h hF => ⟨h.2.1, hF⟩
end Jvm.Pilot.@@N@@
namespace Jvm.Pilot.@@N@@
open Jvm Jvm.ClassFile Sem Op Lib Jvm.Free Jvm.Stand Jvm.Pilot.@@N@@.Jvm.D
/-! MADE BY PROGRAM (witnessworld.py) out of the Statement's table words and the real class files: 19 classes; the members and pool entries that the words name. The judged class is class 1, her method 1. -/
namespace start1
open Jvm.ClassFile
def u (s : String) : CpInfo := .utf8 (stringToUtf16 s)
/-- a pool by its gaps: so many unusable entries, then the entry; so many at the end -/
def gap : Nat → List CpInfo → List CpInfo
  | 0, r => r
  | n + 1, r => .unusable :: gap n r
def poolList (es : List (Nat × CpInfo)) (last : Nat) : List CpInfo := es.foldr (fun e r => gap e.1 (e.2 :: r)) (gap last [])
def pool (es : List (Nat × CpInfo)) (last : Nat) : Array CpInfo := ⟨poolList es last⟩
def fileOf (pool : Array CpInfo) (this : Nat) (attrs : Array Attribute := #[]) (ms : Array MethodInfo := #[]) (fl : Nat := 33) (sup : Nat := 0) (ifs : Array Nat := #[]) (fds : Array FieldInfo := #[]) : ClassFile where
  minorVersion := 0
  majorVersion := 65
  constantPool := pool
  accessFlags := fl
  thisClass := this
  superClass := sup
  interfaces := ifs
  fields := fds
  methods := ms
  attributes := attrs
def plain (name : String) (sup : Option ClassId) : Class where
  name := name
  kind := .ordinary
  loader := none
  accessFlags := 33
  super := sup
  interfaces := #[]
  cf := none
  fields := #[]
  methods := #[]
  instanceTypes := #[]
  staticTypes := #[]
  resolved := #[]
  callSites := []
  init := .initialized
  statics := none
  mirror := none

def pool0 : Array CpInfo := pool [(5, u "<init>"), (0, u "()V"), (1, .class_ 10), (1, u "java/lang/Object"), (85, u "clone"), (0, u "()Ljava/lang/Object;")] 26

def k0c0 : Code := { maxStack := 0, maxLocals := 1, code := object_method_1_code, exceptionTable := #[], attributes := #[] }
def k0m0 : Method := { name := "<init>", desc := "()V", sig := { parameters := [], returnType := none }, accessFlags := 1, code := some k0c0 }
def k0m1 : Method := { name := "clone", desc := "()Ljava/lang/Object;", sig := { parameters := [], returnType := some (.object "java/lang/Object") }, accessFlags := 260, code := none }
/-- java/lang/Object -/
def k0 : Class := { plain "java/lang/Object" none with
  accessFlags := 33
  interfaces := #[]
  cf := some (fileOf pool0 8 #[] #[{ accessFlags := 1, nameIndex := 5, descriptorIndex := 6, attributes := #[] }, { accessFlags := 260, nameIndex := 96, descriptorIndex := 97, attributes := #[] }] 33 0 #[] #[])
  fields := #[]
  methods := #[k0m0, k0m1]
  instanceTypes := #[]
  staticTypes := #[]
  resolved := Array.replicate 124 none
  statics := none }

def pool1 : Array CpInfo := pool [(2, .class_ 4), (0, .nameAndType 5 6), (0, u "java/lang/Object"), (0, u "<init>"), (0, u "()V"), (0, .integer 65535), (0, .class_ 9), (0, u "com/example/cutset/cutset/search/NumberSet"), (0, .methodref 8 3), (0, .methodref 8 12), (0, .nameAndType 13 14), (0, u "contains"), (0, u "(I)Z"), (0, .methodref 8 16), (0, .nameAndType 17 18), (0, u "set"), (0, u "(IZ)V"), (0, .class_ 20), (0, u "com/example/cutset/cutset/search/NumberSetContainsPinLaw"), (2, u "law"), (0, u "(IIII)Z")] 3

def k1m0 : Method := { name := "<init>", desc := "()V", sig := { parameters := [], returnType := none }, accessFlags := 1, code := none }
def k1c1 : Code := { maxStack := 3, maxLocals := 12, code := code, exceptionTable := #[], attributes := #[] }
def k1m1 : Method := { name := "law", desc := "(IIII)Z", sig := { parameters := [.int, .int, .int, .int], returnType := some .boolean }, accessFlags := 9, code := some k1c1 }
/-- com/example/cutset/cutset/search/NumberSetContainsPinLaw -/
def k1 : Class := { plain "com/example/cutset/cutset/search/NumberSetContainsPinLaw" (some 0) with
  accessFlags := 49
  interfaces := #[]
  cf := some (fileOf pool1 19 #[] #[{ accessFlags := 1, nameIndex := 5, descriptorIndex := 6, attributes := #[] }, { accessFlags := 9, nameIndex := 23, descriptorIndex := 24, attributes := #[] }] 49 2 #[] #[])
  fields := #[]
  methods := #[k1m0, k1m1]
  instanceTypes := #[]
  staticTypes := #[]
  resolved := Array.replicate 28 none
  statics := none }

def pool2 : Array CpInfo := pool [(1, .methodref 2 3), (0, .class_ 4), (0, .nameAndType 5 6), (0, u "java/lang/Object"), (0, u "<init>"), (0, u "()V"), (0, .fieldref 8 9), (0, .class_ 10), (0, .nameAndType 11 12), (0, u "com/example/cutset/cutset/search/NumberSet"), (0, u "words"), (0, u "[J"), (0, .fieldref 8 14), (0, .nameAndType 15 12), (0, u "summary"), (0, .methodref 8 17), (0, .nameAndType 18 19), (0, u "reserve"), (0, u "(I)V"), (0, .long 18446744073709551615), (38, .class_ 61), (1, u "java/util/Arrays"), (2, .methodref 65 66), (0, .class_ 67), (0, .nameAndType 68 69), (0, u "java/lang/Integer"), (0, u "highestOneBit"), (0, u "(I)I"), (0, .methodref 59 71), (0, .nameAndType 72 73), (0, u "copyOf"), (0, u "([JI)[J"), (0, u "DENSE"), (0, u "I"), (4, u "contains"), (0, u "(I)Z"), (1, u "set"), (0, u "(IZ)V")] 13

def k2c0 : Code := { maxStack := 2, maxLocals := 1, code := prog_104_method_1_code, exceptionTable := #[], attributes := #[] }
def k2m0 : Method := { name := "<init>", desc := "()V", sig := { parameters := [], returnType := none }, accessFlags := 0, code := some k2c0 }
def k2c1 : Code := { maxStack := 5, maxLocals := 3, code := prog_104_method_2_code, exceptionTable := #[], attributes := #[] }
def k2m1 : Method := { name := "contains", desc := "(I)Z", sig := { parameters := [.int], returnType := some .boolean }, accessFlags := 0, code := some k2c1 }
def k2c2 : Code := { maxStack := 8, maxLocals := 4, code := prog_104_method_3_code, exceptionTable := #[], attributes := #[] }
def k2m2 : Method := { name := "set", desc := "(IZ)V", sig := { parameters := [.int, .boolean], returnType := none }, accessFlags := 0, code := some k2c2 }
def k2c3 : Code := { maxStack := 4, maxLocals := 2, code := prog_104_method_16_code, exceptionTable := #[], attributes := #[] }
def k2m3 : Method := { name := "reserve", desc := "(I)V", sig := { parameters := [.int], returnType := none }, accessFlags := 2, code := some k2c3 }
/-- com/example/cutset/cutset/search/NumberSet -/
def k2 : Class := { plain "com/example/cutset/cutset/search/NumberSet" (some 0) with
  accessFlags := 48
  interfaces := #[]
  cf := some (fileOf pool2 8 #[] #[{ accessFlags := 0, nameIndex := 5, descriptorIndex := 6, attributes := #[] }, { accessFlags := 0, nameIndex := 80, descriptorIndex := 81, attributes := #[] }, { accessFlags := 0, nameIndex := 83, descriptorIndex := 84, attributes := #[] }, { accessFlags := 2, nameIndex := 18, descriptorIndex := 19, attributes := #[] }] 48 2 #[] #[{ accessFlags := 26, nameIndex := 74, descriptorIndex := 75, attributes := #[] }, { accessFlags := 2, nameIndex := 11, descriptorIndex := 12, attributes := #[] }, { accessFlags := 2, nameIndex := 15, descriptorIndex := 12, attributes := #[] }])
  fields := #[{ name := "DENSE", type := .int, accessFlags := 26, slot := 0, constantValue := 0 }, { name := "words", type := (.array .long), accessFlags := 2, slot := 0, constantValue := 0 }, { name := "summary", type := (.array .long), accessFlags := 2, slot := 1, constantValue := 0 }]
  methods := #[k2m0, k2m1, k2m2, k2m3]
  instanceTypes := #[(.array .long), (.array .long)]
  staticTypes := #[.int]
  resolved := Array.replicate 98 none
  statics := none }

def pool3 : Array CpInfo := pool [(1, .class_ 2), (0, u "java/io/Serializable"), (0, .class_ 4), (0, u "java/lang/Object")] 2

/-- java/io/Serializable -/
def k3 : Class := { plain "java/io/Serializable" (some 0) with
  accessFlags := 1537
  interfaces := #[]
  cf := some (fileOf pool3 1 #[] #[] 1537 3 #[] #[])
  fields := #[]
  methods := #[]
  instanceTypes := #[]
  staticTypes := #[]
  resolved := Array.replicate 7 none
  statics := none }

def pool4 : Array CpInfo := pool [(2, .class_ 4), (1, u "java/lang/Object"), (0, u "<init>"), (0, u "()V"), (1, .class_ 10), (1, u "java/lang/Number"), (2, .class_ 14), (0, u "java/io/Serializable"), (0, u "serialVersionUID"), (0, u "J")] 20

def k4m0 : Method := { name := "<init>", desc := "()V", sig := { parameters := [], returnType := none }, accessFlags := 1, code := none }
/-- java/lang/Number -/
def k4 : Class := { plain "java/lang/Number" (some 0) with
  accessFlags := 1057
  interfaces := #[3]
  cf := some (fileOf pool4 8 #[] #[{ accessFlags := 1, nameIndex := 5, descriptorIndex := 6, attributes := #[] }] 1057 2 #[13] #[{ accessFlags := 26, nameIndex := 15, descriptorIndex := 16, attributes := #[] }])
  fields := #[{ name := "serialVersionUID", type := .long, accessFlags := 26, slot := 0, constantValue := 0 }]
  methods := #[k4m0]
  instanceTypes := #[]
  staticTypes := #[.long]
  resolved := Array.replicate 37 none
  statics := none }

def pool5 : Array CpInfo := pool [(1, .class_ 2), (0, u "java/lang/Comparable"), (0, .class_ 4), (0, u "java/lang/Object")] 7

/-- java/lang/Comparable -/
def k5 : Class := { plain "java/lang/Comparable" (some 0) with
  accessFlags := 1537
  interfaces := #[]
  cf := some (fileOf pool5 1 #[] #[] 1537 3 #[] #[])
  fields := #[]
  methods := #[]
  instanceTypes := #[]
  staticTypes := #[]
  resolved := Array.replicate 12 none
  statics := none }

def pool6 : Array CpInfo := pool [(1, .class_ 2), (0, u "java/lang/constant/Constable"), (0, .class_ 4), (0, u "java/lang/Object")] 6

/-- java/lang/constant/Constable -/
def k6 : Class := { plain "java/lang/constant/Constable" (some 0) with
  accessFlags := 1537
  interfaces := #[]
  cf := some (fileOf pool6 1 #[] #[] 1537 3 #[] #[])
  fields := #[]
  methods := #[]
  instanceTypes := #[]
  staticTypes := #[]
  resolved := Array.replicate 11 none
  statics := none }

def pool7 : Array CpInfo := pool [(1, .class_ 2), (0, u "java/lang/constant/ConstantDesc"), (0, .class_ 4), (0, u "java/lang/Object")] 32

/-- java/lang/constant/ConstantDesc -/
def k7 : Class := { plain "java/lang/constant/ConstantDesc" (some 0) with
  accessFlags := 1537
  interfaces := #[]
  cf := some (fileOf pool7 1 #[] #[] 1537 3 #[] #[])
  fields := #[]
  methods := #[]
  instanceTypes := #[]
  staticTypes := #[]
  resolved := Array.replicate 37 none
  statics := none }

def pool8 : Array CpInfo := pool [(1, .class_ 2), (0, u "java/lang/Integer"), (16, u "digits"), (0, u "[C"), (30, .methodref 1 52), (0, .nameAndType 53 54), (0, u "numberOfLeadingZeros"), (0, u "(I)I"), (30, u "DigitOnes"), (0, u "[B"), (2, u "DigitTens"), (37, .integer 2147483648), (61, .class_ 190), (0, u "java/lang/Integer$IntegerCache"), (3, u "I"), (8, .class_ 204), (0, u "java/lang/Number"), (2, u "value"), (56, .integer 65536), (37, u "TYPE"), (0, u "Ljava/lang/Class;"), (0, .class_ 305), (0, u "java/lang/Comparable"), (0, .class_ 307), (0, u "java/lang/constant/Constable"), (0, .class_ 309), (0, u "java/lang/constant/ConstantDesc"), (0, u "MIN_VALUE"), (1, u "MAX_VALUE"), (3, u "SIZE"), (1, u "BYTES"), (1, u "serialVersionUID"), (0, u "J"), (81, u "highestOneBit")] 49

def k8c0 : Code := { maxStack := 3, maxLocals := 1, code := jdk_33_method_45_code, exceptionTable := #[], attributes := #[] }
def k8m0 : Method := { name := "highestOneBit", desc := "(I)I", sig := { parameters := [.int], returnType := some .int }, accessFlags := 9, code := some k8c0 }
def k8c1 : Code := { maxStack := 3, maxLocals := 2, code := jdk_33_method_47_code, exceptionTable := #[], attributes := #[] }
def k8m1 : Method := { name := "numberOfLeadingZeros", desc := "(I)I", sig := { parameters := [.int], returnType := some .int }, accessFlags := 9, code := some k8c1 }
/-- java/lang/Integer -/
def k8 : Class := { plain "java/lang/Integer" (some 4) with
  accessFlags := 49
  interfaces := #[5, 6, 7]
  cf := some (fileOf pool8 1 #[.nestMembers #[189]] #[{ accessFlags := 9, nameIndex := 403, descriptorIndex := 54, attributes := #[] }, { accessFlags := 9, nameIndex := 53, descriptorIndex := 54, attributes := #[] }] 49 203 #[304, 306, 308] #[{ accessFlags := 25, nameIndex := 310, descriptorIndex := 194, attributes := #[] }, { accessFlags := 25, nameIndex := 312, descriptorIndex := 194, attributes := #[] }, { accessFlags := 25, nameIndex := 302, descriptorIndex := 303, attributes := #[] }, { accessFlags := 24, nameIndex := 19, descriptorIndex := 20, attributes := #[] }, { accessFlags := 24, nameIndex := 89, descriptorIndex := 86, attributes := #[] }, { accessFlags := 24, nameIndex := 85, descriptorIndex := 86, attributes := #[] }, { accessFlags := 18, nameIndex := 207, descriptorIndex := 194, attributes := #[] }, { accessFlags := 25, nameIndex := 316, descriptorIndex := 194, attributes := #[] }, { accessFlags := 25, nameIndex := 318, descriptorIndex := 194, attributes := #[] }, { accessFlags := 26, nameIndex := 320, descriptorIndex := 321, attributes := #[] }])
  fields := #[{ name := "MIN_VALUE", type := .int, accessFlags := 25, slot := 0, constantValue := 0 }, { name := "MAX_VALUE", type := .int, accessFlags := 25, slot := 1, constantValue := 0 }, { name := "TYPE", type := (.object "java/lang/Class"), accessFlags := 25, slot := 2, constantValue := 0 }, { name := "digits", type := (.array .char), accessFlags := 24, slot := 3, constantValue := 0 }, { name := "DigitTens", type := (.array .byte), accessFlags := 24, slot := 4, constantValue := 0 }, { name := "DigitOnes", type := (.array .byte), accessFlags := 24, slot := 5, constantValue := 0 }, { name := "value", type := .int, accessFlags := 18, slot := 0, constantValue := 0 }, { name := "SIZE", type := .int, accessFlags := 25, slot := 6, constantValue := 0 }, { name := "BYTES", type := .int, accessFlags := 25, slot := 7, constantValue := 0 }, { name := "serialVersionUID", type := .long, accessFlags := 26, slot := 8, constantValue := 0 }]
  methods := #[k8m0, k8m1]
  instanceTypes := #[.int]
  staticTypes := #[.int, .int, (.object "java/lang/Class"), (.array .char), (.array .byte), (.array .byte), .int, .int, .long]
  resolved := Array.replicate 453 none
  statics := none }

def pool9 : Array CpInfo := pool [(2, .class_ 4), (1, u "java/lang/Object"), (0, u "<init>"), (0, u "()V"), (7, .class_ 16), (1, u "java/util/Arrays"), (57, .class_ 76), (1, u "java/util/Arrays$NaturalOrder"), (32, u "()Ljava/lang/Object;"), (3, .class_ 115), (1, u "java/util/Arrays$LegacyMergeSort"), (1, u "Z"), (10, .nameAndType 129 109), (0, u "clone"), (20, .methodref 151 152), (0, .class_ 153), (0, .nameAndType 154 155), (0, u "java/lang/System"), (0, u "arraycopy"), (0, u "(Ljava/lang/Object;ILjava/lang/Object;II)V"), (146, u "copyOf"), (1, .methodref 305 306), (0, .class_ 307), (0, .nameAndType 308 309), (0, u "java/lang/Math"), (0, u "min"), (0, u "(II)I"), (9, .methodref 320 128), (0, .class_ 321), (0, u "[J"), (53, .class_ 376), (0, u "java/util/Arrays$ArrayList"), (68, u "$assertionsDisabled"), (269, u "MIN_ARRAY_SORT_GRAN"), (0, u "I"), (2, u "INSERTIONSORT_THRESHOLD"), (152, u "([JI)[J"), (102, .class_ 976), (0, u "java/util/Arrays$ArrayItr")] 52

def k9m0 : Method := { name := "<init>", desc := "()V", sig := { parameters := [], returnType := none }, accessFlags := 2, code := none }
def k9c1 : Code := { maxStack := 6, maxLocals := 3, code := jdk_65_method_124_code, exceptionTable := #[], attributes := #[] }
def k9m1 : Method := { name := "copyOf", desc := "([JI)[J", sig := { parameters := [(.array .long), .int], returnType := some (.array .long) }, accessFlags := 9, code := some k9c1 }
/-- java/util/Arrays -/
def k9 : Class := { plain "java/util/Arrays" (some 0) with
  accessFlags := 49
  interfaces := #[]
  cf := some (fileOf pool9 14 #[.nestMembers #[975, 375, 113, 74]] #[{ accessFlags := 2, nameIndex := 5, descriptorIndex := 6, attributes := #[] }, { accessFlags := 9, nameIndex := 302, descriptorIndex := 872, attributes := #[] }] 49 2 #[] #[{ accessFlags := 26, nameIndex := 715, descriptorIndex := 716, attributes := #[] }, { accessFlags := 26, nameIndex := 719, descriptorIndex := 716, attributes := #[] }, { accessFlags := 4120, nameIndex := 445, descriptorIndex := 117, attributes := #[] }])
  fields := #[{ name := "MIN_ARRAY_SORT_GRAN", type := .int, accessFlags := 26, slot := 0, constantValue := 0 }, { name := "INSERTIONSORT_THRESHOLD", type := .int, accessFlags := 26, slot := 1, constantValue := 0 }, { name := "$assertionsDisabled", type := .boolean, accessFlags := 4120, slot := 2, constantValue := 0 }]
  methods := #[k9m0, k9m1]
  instanceTypes := #[]
  staticTypes := #[.int, .int, .boolean]
  resolved := Array.replicate 1029 none
  statics := none }

def pool10 : Array CpInfo := pool [(1, .class_ 2), (0, u "java/lang/Math"), (1, .class_ 6), (1, u "java/lang/Object"), (0, u "<init>"), (0, u "()V"), (89, .class_ 100), (1, u "java/lang/Math$RandomNumberGeneratorHolder"), (71, u "negativeZeroFloatBits"), (0, u "J"), (2, u "negativeZeroDoubleBits"), (24, u "min"), (43, u "$assertionsDisabled"), (0, u "Z"), (88, u "(II)I"), (2, u "twoToTheDoubleScaleDown"), (0, u "D"), (4, u "twoToTheDoubleScaleUp"), (9, u "E"), (3, u "PI"), (2, u "TAU"), (2, u "DEGREES_TO_RADIANS"), (0, u "RADIANS_TO_DEGREES")] 94

def k10m0 : Method := { name := "<init>", desc := "()V", sig := { parameters := [], returnType := none }, accessFlags := 2, code := none }
def k10c1 : Code := { maxStack := 2, maxLocals := 2, code := jdk_29_method_69_code, exceptionTable := #[], attributes := #[] }
def k10m1 : Method := { name := "min", desc := "(II)I", sig := { parameters := [.int, .int], returnType := some .int }, accessFlags := 9, code := some k10c1 }
/-- java/lang/Math -/
def k10 : Class := { plain "java/lang/Math" (some 0) with
  accessFlags := 49
  interfaces := #[]
  cf := some (fileOf pool10 1 #[.nestMembers #[98]] #[{ accessFlags := 2, nameIndex := 7, descriptorIndex := 8, attributes := #[] }, { accessFlags := 9, nameIndex := 201, descriptorIndex := 335, attributes := #[] }] 49 4 #[] #[{ accessFlags := 25, nameIndex := 354, descriptorIndex := 339, attributes := #[] }, { accessFlags := 25, nameIndex := 358, descriptorIndex := 339, attributes := #[] }, { accessFlags := 25, nameIndex := 361, descriptorIndex := 339, attributes := #[] }, { accessFlags := 26, nameIndex := 364, descriptorIndex := 339, attributes := #[] }, { accessFlags := 26, nameIndex := 365, descriptorIndex := 339, attributes := #[] }, { accessFlags := 26, nameIndex := 172, descriptorIndex := 173, attributes := #[] }, { accessFlags := 26, nameIndex := 176, descriptorIndex := 173, attributes := #[] }, { accessFlags := 8, nameIndex := 344, descriptorIndex := 339, attributes := #[] }, { accessFlags := 8, nameIndex := 338, descriptorIndex := 339, attributes := #[] }, { accessFlags := 4120, nameIndex := 245, descriptorIndex := 246, attributes := #[] }])
  fields := #[{ name := "E", type := .double, accessFlags := 25, slot := 0, constantValue := 0 }, { name := "PI", type := .double, accessFlags := 25, slot := 1, constantValue := 0 }, { name := "TAU", type := .double, accessFlags := 25, slot := 2, constantValue := 0 }, { name := "DEGREES_TO_RADIANS", type := .double, accessFlags := 26, slot := 3, constantValue := 0 }, { name := "RADIANS_TO_DEGREES", type := .double, accessFlags := 26, slot := 4, constantValue := 0 }, { name := "negativeZeroFloatBits", type := .long, accessFlags := 26, slot := 5, constantValue := 0 }, { name := "negativeZeroDoubleBits", type := .long, accessFlags := 26, slot := 6, constantValue := 0 }, { name := "twoToTheDoubleScaleUp", type := .double, accessFlags := 8, slot := 7, constantValue := 0 }, { name := "twoToTheDoubleScaleDown", type := .double, accessFlags := 8, slot := 8, constantValue := 0 }, { name := "$assertionsDisabled", type := .boolean, accessFlags := 4120, slot := 9, constantValue := 0 }]
  methods := #[k10m0, k10m1]
  instanceTypes := #[]
  staticTypes := #[.double, .double, .double, .double, .double, .long, .long, .double, .double, .boolean]
  resolved := Array.replicate 460 none
  statics := none }

def pool11 : Array CpInfo := pool [(2, .class_ 4), (1, u "java/lang/Object"), (0, u "<init>"), (0, u "()V"), (1, .class_ 10), (1, u "java/lang/System"), (0, u "allowSecurityManager"), (0, u "I"), (16, u "cons"), (0, u "Ljava/io/Console;"), (77, .class_ 110), (1, u "java/lang/System$CallersHolder"), (43, u "initialErrStream"), (0, u "Ljava/io/PrintStream;"), (19, u "security"), (0, u "Ljava/lang/SecurityManager;"), (31, .class_ 209), (0, u "java/lang/System$1"), (7, u "props"), (0, u "Ljava/util/Properties;"), (2, u "lineSeparator"), (0, u "Ljava/lang/String;"), (96, .class_ 321), (1, u "java/lang/System$LoggerFinder"), (5, .class_ 328), (0, u "java/lang/System$Logger"), (67, u "err"), (2, u "out"), (91, u "notSupportedJnuEncoding"), (15, u "in"), (17, u "initialIn"), (0, u "Ljava/io/InputStream;"), (35, u "bootLayer"), (0, u "Ljava/lang/ModuleLayer;"), (99, .class_ 664), (0, u "java/lang/System$2"), (9, u "NEVER"), (2, u "MAYBE"), (49, u "arraycopy"), (0, u "(Ljava/lang/Object;ILjava/lang/Object;II)V"), (72, .class_ 802), (0, u "java/lang/System$Logger$Level")] 31

def k11m0 : Method := { name := "<init>", desc := "()V", sig := { parameters := [], returnType := none }, accessFlags := 2, code := none }
def k11m1 : Method := { name := "arraycopy", desc := "(Ljava/lang/Object;ILjava/lang/Object;II)V", sig := { parameters := [(.object "java/lang/Object"), .int, (.object "java/lang/Object"), .int, .int], returnType := none }, accessFlags := 265, code := none }
/-- java/lang/System -/
def k11 : Class := { plain "java/lang/System" (some 0) with
  accessFlags := 49
  interfaces := #[]
  cf := some (fileOf pool11 8 #[.nestMembers #[319, 327, 801, 108, 663, 208]] #[{ accessFlags := 2, nameIndex := 5, descriptorIndex := 6, attributes := #[] }, { accessFlags := 265, nameIndex := 727, descriptorIndex := 728, attributes := #[] }] 49 2 #[] #[{ accessFlags := 25, nameIndex := 507, descriptorIndex := 526, attributes := #[] }, { accessFlags := 25, nameIndex := 399, descriptorIndex := 155, attributes := #[] }, { accessFlags := 25, nameIndex := 396, descriptorIndex := 155, attributes := #[] }, { accessFlags := 10, nameIndex := 525, descriptorIndex := 526, attributes := #[] }, { accessFlags := 26, nameIndex := 674, descriptorIndex := 12, attributes := #[] }, { accessFlags := 26, nameIndex := 677, descriptorIndex := 12, attributes := #[] }, { accessFlags := 10, nameIndex := 11, descriptorIndex := 12, attributes := #[] }, { accessFlags := 74, nameIndex := 175, descriptorIndex := 176, attributes := #[] }, { accessFlags := 10, nameIndex := 491, descriptorIndex := 222, attributes := #[] }, { accessFlags := 74, nameIndex := 29, descriptorIndex := 30, attributes := #[] }, { accessFlags := 74, nameIndex := 154, descriptorIndex := 155, attributes := #[] }, { accessFlags := 10, nameIndex := 217, descriptorIndex := 218, attributes := #[] }, { accessFlags := 10, nameIndex := 221, descriptorIndex := 222, attributes := #[] }, { accessFlags := 8, nameIndex := 562, descriptorIndex := 563, attributes := #[] }])
  fields := #[{ name := "in", type := (.object "java/io/InputStream"), accessFlags := 25, slot := 0, constantValue := 0 }, { name := "out", type := (.object "java/io/PrintStream"), accessFlags := 25, slot := 1, constantValue := 0 }, { name := "err", type := (.object "java/io/PrintStream"), accessFlags := 25, slot := 2, constantValue := 0 }, { name := "initialIn", type := (.object "java/io/InputStream"), accessFlags := 10, slot := 3, constantValue := 0 }, { name := "NEVER", type := .int, accessFlags := 26, slot := 4, constantValue := 0 }, { name := "MAYBE", type := .int, accessFlags := 26, slot := 5, constantValue := 0 }, { name := "allowSecurityManager", type := .int, accessFlags := 10, slot := 6, constantValue := 0 }, { name := "security", type := (.object "java/lang/SecurityManager"), accessFlags := 74, slot := 7, constantValue := 0 }, { name := "notSupportedJnuEncoding", type := (.object "java/lang/String"), accessFlags := 10, slot := 8, constantValue := 0 }, { name := "cons", type := (.object "java/io/Console"), accessFlags := 74, slot := 9, constantValue := 0 }, { name := "initialErrStream", type := (.object "java/io/PrintStream"), accessFlags := 74, slot := 10, constantValue := 0 }, { name := "props", type := (.object "java/util/Properties"), accessFlags := 10, slot := 11, constantValue := 0 }, { name := "lineSeparator", type := (.object "java/lang/String"), accessFlags := 10, slot := 12, constantValue := 0 }, { name := "bootLayer", type := (.object "java/lang/ModuleLayer"), accessFlags := 8, slot := 13, constantValue := 0 }]
  methods := #[k11m0, k11m1]
  instanceTypes := #[]
  staticTypes := #[(.object "java/io/InputStream"), (.object "java/io/PrintStream"), (.object "java/io/PrintStream"), (.object "java/io/InputStream"), .int, .int, .int, (.object "java/lang/SecurityManager"), (.object "java/lang/String"), (.object "java/io/Console"), (.object "java/io/PrintStream"), (.object "java/util/Properties"), (.object "java/lang/String"), (.object "java/lang/ModuleLayer")]
  resolved := Array.replicate 834 none
  statics := none }

def pool12 : Array CpInfo := pool [(1, .class_ 2), (0, u "java/lang/Cloneable"), (0, .class_ 4), (0, u "java/lang/Object")] 2

/-- java/lang/Cloneable -/
def k12 : Class := { plain "java/lang/Cloneable" (some 0) with
  accessFlags := 1537
  interfaces := #[]
  cf := some (fileOf pool12 1 #[] #[] 1537 3 #[] #[])
  fields := #[]
  methods := #[]
  instanceTypes := #[]
  staticTypes := #[]
  resolved := Array.replicate 7 none
  statics := none }

/-- the primitive byte -/
def k13 : Class := { plain "byte" none with kind := .primitive 'B', accessFlags := 0x411 }
/-- [B -/
def k14 : Class := { plain "[B" (some 0) with kind := .array 13 .byte, interfaces := #[12, 3], accessFlags := 1041 }

/-- the primitive int -/
def k15 : Class := { plain "int" none with kind := .primitive 'I', accessFlags := 0x411 }
/-- [I -/
def k16 : Class := { plain "[I" (some 0) with kind := .array 15 .int, interfaces := #[12, 3], accessFlags := 1041 }

/-- the primitive long -/
def k17 : Class := { plain "long" none with kind := .primitive 'J', accessFlags := 0x411 }
/-- [J -/
def k18 : Class := { plain "[J" (some 0) with kind := .array 17 .long, interfaces := #[12, 3], accessFlags := 1041 }

def heap : Heap := #[]
def classes : Array Class := #[k0, k1, k2, k3, k4, k5, k6, k7, k8, k9, k10, k11, k12, k13, k14, k15, k16, k17, k18]
def interned : List (Array UInt16 × Addr) := []
def slotsUsed : Nat := 0
def theMethod : MethodId := ⟨1, 1⟩
def args0 : Array Value := #[.int 5, .int 5, .int 5, .int 5]
def aboutOver (below : List Frame) : State where
  vm := { classes := classes, interned := interned.toArray }
  heap := heap
  slotsUsed := slotsUsed
  threads := #[{ frames := .invoking theMethod args0 :: below }]
def below0 : List Frame := [.native { method := ⟨0, 0⟩, args := #[] }]
def about1 : State := aboutOver below0
def p0 : Program := .bare "" "" ""
def e0 : Env := launch0.env 0 0 0
theorem w_frames : about1.frames = Frame.invoking theMethod args0 :: below0 := rfl
set_option maxRecDepth 65536 in
theorem w_args : argsFit about1.vm theMethod args0 = true := by decide +kernel
set_option maxRecDepth 65536 in
theorem w_heap : heapFits about1 = true := by decide +kernel
set_option maxRecDepth 65536 in
theorem w_runnable : about1.curStatus? = some .runnable := by decide +kernel
set_option maxRecDepth 65536 in
theorem w_alone : about1.alone = true := by decide +kernel
set_option maxRecDepth 65536 in
theorem w_named : about1.methodNamed? x = some theMethod := by decide +kernel
set_option maxRecDepth 65536 in
theorem w_hears : about1.hears theMethod below0 = true := by decide +kernel
set_option maxRecDepth 65536 in
theorem w_ripe : about1.ripe theMethod args0 below0 = true := by decide +kernel
theorem w_running : about1.status = .running := rfl
set_option maxRecDepth 65536 in
theorem w_room : about1.hasRoom e0.platform room_1 = true :=
  launch0.hasRoom_least _ room_1 (by decide +kernel) (by decide +kernel) (by decide +kernel) (by decide +kernel) (by decide +kernel) (by decide +kernel)
theorem allAtoms_all (ts : List Jvm.Cond) (a : Array Jvm.Value) (st : Jvm.State) : (allAtoms ts).before a st = ts.all (fun c => c.before a st) := by
  induction ts with
  | nil => rfl
  | cons c t ih =>
    show (Jvm.Cond.and c (allAtoms t)).before a st = _
    rw [Jvm.Cond.before_and, ih, List.all_cons]
def words1 : List Jvm.Cond := Jvm.Cond.code x code maxLocals ret :: tables_1
/-- a 'code' word, met by the world's own term for the bytes: nothing is compared byte by byte -/
theorem code_word {y : MethodName} {bytes : ByteArray} {mx : Nat} {rt : Option FieldType} {a : Array Value} {s : State} {m : MethodId} {meth : Method} {c : Code} (h1 : s.methodNamed? y = some m) (h2 : s.vm.method? m = some meth) (h3 : meth.code = some c) (h4 : c.code = bytes)
    (h5 : (c.maxLocals == mx && c.exceptionTable.isEmpty && decide (c.maxStack ≤ mostOperands) && decide (meth.sig.returnType = rt) && !meth.locks && decide (parseMethodDescriptor y.desc = some meth.sig)) = true) : (Jvm.Cond.code y bytes mx rt).before a s = true := by
  simp only [Bool.and_eq_true, beq_iff_eq, Bool.not_eq_true', decide_eq_true_eq] at h5
  obtain ⟨⟨⟨⟨⟨g1, g2⟩, g3⟩, g4⟩, g5⟩, g6⟩ := h5
  simp [Cond.before, Cond.holds, Cond.value, h1, h2, h3, h4, g1, g2, g3, g4, g5, g6]
def isCode : Jvm.Cond → Bool
  | .code _ _ _ _ => true
  | _ => false
theorem all_split {L : List Jvm.Cond} {P : Jvm.Cond → Bool} (h1 : L.all (fun c => isCode c || P c) = true) (h2 : ∀ c ∈ L.filter isCode, P c = true) : L.all P = true := by
  refine List.all_eq_true.mpr fun c hc => ?_
  have h := List.all_eq_true.mp h1 c hc
  rcases Bool.eq_false_or_eq_true (isCode c) with hi | hi
  · exact h2 c (List.mem_filter.mpr ⟨hc, hi⟩)
  · simpa [hi] using h
set_option maxRecDepth 65536 in
theorem w_c0 : (Jvm.Cond.code x code maxLocals ret).before args0 about1 = true := code_word (m := ⟨1, 1⟩) (meth := k1m1) (c := k1c1) (by decide +kernel) rfl rfl rfl (by decide +kernel)
set_option maxRecDepth 65536 in
theorem w_c1 : (Jvm.Cond.code ({ cls := "com/example/cutset/cutset/search/NumberSet", name := "<init>", desc := "()V" } : Jvm.MethodName) prog_104_method_1_code (1 : Nat) (Option.none : Option Jvm.ClassFile.FieldType)).before args0 about1 = true := code_word (m := ⟨2, 0⟩) (meth := k2m0) (c := k2c0) (by decide +kernel) rfl rfl rfl (by decide +kernel)
set_option maxRecDepth 65536 in
theorem w_c2 : (Jvm.Cond.code ({ cls := "java/lang/Object", name := "<init>", desc := "()V" } : Jvm.MethodName) object_method_1_code (1 : Nat) (Option.none : Option Jvm.ClassFile.FieldType)).before args0 about1 = true := code_word (m := ⟨0, 0⟩) (meth := k0m0) (c := k0c0) (by decide +kernel) rfl rfl rfl (by decide +kernel)
set_option maxRecDepth 65536 in
theorem w_c3 : (Jvm.Cond.code ({ cls := "com/example/cutset/cutset/search/NumberSet", name := "contains", desc := "(I)Z" } : Jvm.MethodName) prog_104_method_2_code (3 : Nat) (Option.some Jvm.ClassFile.FieldType.boolean)).before args0 about1 = true := code_word (m := ⟨2, 1⟩) (meth := k2m1) (c := k2c1) (by decide +kernel) rfl rfl rfl (by decide +kernel)
set_option maxRecDepth 65536 in
theorem w_c4 : (Jvm.Cond.code ({ cls := "com/example/cutset/cutset/search/NumberSet", name := "set", desc := "(IZ)V" } : Jvm.MethodName) prog_104_method_3_code (4 : Nat) (Option.none : Option Jvm.ClassFile.FieldType)).before args0 about1 = true := code_word (m := ⟨2, 2⟩) (meth := k2m2) (c := k2c2) (by decide +kernel) rfl rfl rfl (by decide +kernel)
set_option maxRecDepth 65536 in
theorem w_c5 : (Jvm.Cond.code ({ cls := "com/example/cutset/cutset/search/NumberSet", name := "reserve", desc := "(I)V" } : Jvm.MethodName) prog_104_method_16_code (2 : Nat) (Option.none : Option Jvm.ClassFile.FieldType)).before args0 about1 = true := code_word (m := ⟨2, 3⟩) (meth := k2m3) (c := k2c3) (by decide +kernel) rfl rfl rfl (by decide +kernel)
set_option maxRecDepth 65536 in
theorem w_c6 : (Jvm.Cond.code ({ cls := "java/lang/Integer", name := "highestOneBit", desc := "(I)I" } : Jvm.MethodName) jdk_33_method_45_code (1 : Nat) (Option.some Jvm.ClassFile.FieldType.int)).before args0 about1 = true := code_word (m := ⟨8, 0⟩) (meth := k8m0) (c := k8c0) (by decide +kernel) rfl rfl rfl (by decide +kernel)
set_option maxRecDepth 65536 in
theorem w_c7 : (Jvm.Cond.code ({ cls := "java/lang/Integer", name := "numberOfLeadingZeros", desc := "(I)I" } : Jvm.MethodName) jdk_33_method_47_code (2 : Nat) (Option.some Jvm.ClassFile.FieldType.int)).before args0 about1 = true := code_word (m := ⟨8, 1⟩) (meth := k8m1) (c := k8c1) (by decide +kernel) rfl rfl rfl (by decide +kernel)
set_option maxRecDepth 65536 in
theorem w_c8 : (Jvm.Cond.code ({ cls := "java/util/Arrays", name := "copyOf", desc := "([JI)[J" } : Jvm.MethodName) jdk_65_method_124_code (3 : Nat) (Option.some (Jvm.ClassFile.FieldType.array Jvm.ClassFile.FieldType.long))).before args0 about1 = true := code_word (m := ⟨9, 1⟩) (meth := k9m1) (c := k9c1) (by decide +kernel) rfl rfl rfl (by decide +kernel)
set_option maxRecDepth 65536 in
theorem w_c9 : (Jvm.Cond.code ({ cls := "java/lang/Math", name := "min", desc := "(II)I" } : Jvm.MethodName) jdk_29_method_69_code (2 : Nat) (Option.some Jvm.ClassFile.FieldType.int)).before args0 about1 = true := code_word (m := ⟨10, 1⟩) (meth := k10m1) (c := k10c1) (by decide +kernel) rfl rfl rfl (by decide +kernel)
def codes1 : List Jvm.Cond := [Jvm.Cond.code x code maxLocals ret, Jvm.Cond.code ({ cls := "com/example/cutset/cutset/search/NumberSet", name := "<init>", desc := "()V" } : Jvm.MethodName) prog_104_method_1_code (1 : Nat) (Option.none : Option Jvm.ClassFile.FieldType), Jvm.Cond.code ({ cls := "java/lang/Object", name := "<init>", desc := "()V" } : Jvm.MethodName) object_method_1_code (1 : Nat) (Option.none : Option Jvm.ClassFile.FieldType), Jvm.Cond.code ({ cls := "com/example/cutset/cutset/search/NumberSet", name := "contains", desc := "(I)Z" } : Jvm.MethodName) prog_104_method_2_code (3 : Nat) (Option.some Jvm.ClassFile.FieldType.boolean), Jvm.Cond.code ({ cls := "com/example/cutset/cutset/search/NumberSet", name := "set", desc := "(IZ)V" } : Jvm.MethodName) prog_104_method_3_code (4 : Nat) (Option.none : Option Jvm.ClassFile.FieldType), Jvm.Cond.code ({ cls := "com/example/cutset/cutset/search/NumberSet", name := "reserve", desc := "(I)V" } : Jvm.MethodName) prog_104_method_16_code (2 : Nat) (Option.none : Option Jvm.ClassFile.FieldType), Jvm.Cond.code ({ cls := "java/lang/Integer", name := "highestOneBit", desc := "(I)I" } : Jvm.MethodName) jdk_33_method_45_code (1 : Nat) (Option.some Jvm.ClassFile.FieldType.int), Jvm.Cond.code ({ cls := "java/lang/Integer", name := "numberOfLeadingZeros", desc := "(I)I" } : Jvm.MethodName) jdk_33_method_47_code (2 : Nat) (Option.some Jvm.ClassFile.FieldType.int), Jvm.Cond.code ({ cls := "java/util/Arrays", name := "copyOf", desc := "([JI)[J" } : Jvm.MethodName) jdk_65_method_124_code (3 : Nat) (Option.some (Jvm.ClassFile.FieldType.array Jvm.ClassFile.FieldType.long)), Jvm.Cond.code ({ cls := "java/lang/Math", name := "min", desc := "(II)I" } : Jvm.MethodName) jdk_29_method_69_code (2 : Nat) (Option.some Jvm.ClassFile.FieldType.int)]
set_option maxRecDepth 65536 in
theorem codes_eq : words1.filter isCode = codes1 := rfl
theorem w_codes : ∀ c ∈ words1.filter isCode, c.before args0 about1 = true := by
  rw [codes_eq]
  intro c hc
  simp only [codes1, List.mem_cons, List.not_mem_nil, or_false] at hc
  rcases hc with rfl | rfl | rfl | rfl | rfl | rfl | rfl | rfl | rfl | rfl
  · exact w_c0
  · exact w_c1
  · exact w_c2
  · exact w_c3
  · exact w_c4
  · exact w_c5
  · exact w_c6
  · exact w_c7
  · exact w_c8
  · exact w_c9
set_option maxRecDepth 65536 in
theorem w_t1 : (words1.take 24).all (fun c => isCode c || c.before args0 about1) = true := by decide +kernel
set_option maxRecDepth 65536 in
theorem w_t2 : ((words1.drop 24).take 24).all (fun c => isCode c || c.before args0 about1) = true := by decide +kernel
set_option maxRecDepth 65536 in
theorem w_t3 : ((words1.drop 24).drop 24).all (fun c => isCode c || c.before args0 about1) = true := by decide +kernel
theorem w_tables : (allAtoms (Jvm.Cond.code x code maxLocals ret :: tables_1)).before args0 about1 = true := by
  rw [allAtoms_all]
  show words1.all (fun c => c.before args0 about1) = true
  refine all_split ?_ w_codes
  rw [← List.take_append_drop 24 words1, List.all_append, w_t1, ← List.take_append_drop 24 (words1.drop 24), List.all_append, w_t2, w_t3]
  rfl
set_option maxRecDepth 65536 in
theorem w_case : (Jvm.Cond.and given_1 narrow_1).before args0 about1 = true := by decide +kernel
theorem w_applies : (headSpec (Jvm.Cond.code x code maxLocals ret :: tables_1) room_1).applies x e0.platform about1 = true :=
  (Spec.applies_iff w_frames).mpr ⟨w_running, w_runnable, w_alone, w_named, w_hears, w_ripe, w_room, w_tables⟩
theorem atStart : AtStart classFile x code maxLocals ret World_1 tables_1 room_1 Calls_1 rest_1 Pre_1 launch0 p0 e0 about1 theMethod args0 below0 :=
  ⟨lists_1, trivial, launch0.admits_env _ _ _, launch0.least_env, fairChoices_fair.cas, fairChoices_fair.clock, w_frames, w_args, w_heap, w_applies, trivial, trivial, w_case⟩
end start1
theorem witness_1 : WitnessClaimed_1 := ⟨start1.p0, start1.e0, start1.about1, start1.theMethod, start1.args0, start1.below0, start1.atStart⟩
end Jvm.Pilot.@@N@@
