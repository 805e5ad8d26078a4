import JvmDerived
import JvmDerived.Pilot.@@N@@Statement
import JvmDerived.Pilot.@@N@@Code
set_option linter.unusedVariables false
set_option linter.unusedSimpArgs false
namespace Jvm.RoadKit
open Sem ClassFile Op Lib Jvm.Stand Jvm.Free Jvm.LawKit
section OwnKit
variable {p : Program} {l : Launch} {e : Env} {R : Room} {s : State} {m : MethodId} {args : Array Value} {below : List Frame} {meth : Method} {c : Code} {T : State} {locs : List Loc} {cells slots : Nat} {Z : State} {a0 : Array Value} {h h' : Heap}
/-- the run has come from A to T with the frame g on top -/
def OGo (p : Program) (e : Env) (below : List Frame) (A T : State) (g : JFrame) : Prop := ∀ t, Steps p.tables e below (T.setTop g) t → Steps p.tables e below A t
/-- the array at a holds just these values -/
def OAr (Z : State) (h : Heap) (a : Addr) (k : ClassId) (ty : FieldType) (vs : List Value) : Prop := ∃ c : Cell, Arr Z h a c ty ∧ c.cls = k ∧ c.slots = vs.toArray
variable {a b : Addr} {k : ClassId} {ty : FieldType} {vs ws : List Value} {v w : Value} {sl : Nat} {wl : List Addr}
theorem OAr.lt (F : OAr Z h a k ty vs) : a < h.size := by obtain ⟨c, A, -⟩ := F; exact A.lt
theorem OAr.ext (F : OAr Z h a k ty vs) (E : Ext h h') : OAr Z h' a k ty vs := by obtain ⟨c, A, r⟩ := F; exact ⟨c, A.ext E, r⟩
theorem OAr.other (F : OAr Z h b k ty vs) (W : Wr h h' a sl v) (q : b ≠ a) : OAr Z h' b k ty vs := by obtain ⟨c, A, r⟩ := F; exact ⟨c, A.other W q, r⟩
theorem OAr.keep (F : OAr Z h a k ty vs) (K : Keep h h' wl) (q : a ∉ wl) : OAr Z h' a k ty vs := by obtain ⟨c, A, r⟩ := F; exact ⟨c, ⟨K.2.1 a c A.1 q, A.2⟩, r⟩
theorem OAr.new {n : Int32} (A : Arr Z h a (newA k ty n) ty) : OAr Z h a k ty (List.replicate n.toNatClampNeg (defaultValue ty)) := ⟨_, A, rfl, by simp [newA]⟩
theorem OAr.same (F : OAr Z h a k ty vs) (W : Wr h h' a sl v) : OAr Z h' a k ty (vs.set sl v) := by
  obtain ⟨c, A, r1, r2⟩ := F
  exact ⟨_, A.same W, r1, by simp only [Cell.setSlot]; rw [r2]; simp⟩
theorem OAr.cast (F : OAr Z h a k ty vs) (q : vs = ws) : OAr Z h a k ty ws := q ▸ F
theorem own_in {j : Int32} (h0 : ¬ j < 0) (hv : vs[j.toNatClampNeg]? = some v) {c : Cell} (q : c.slots = vs.toArray) : ¬ (j < 0 ∨ c.slots.size ≤ j.toNatClampNeg) ∧ c.slots[j.toNatClampNeg]? = some v := by
  have h1 := (List.getElem?_eq_some_iff.mp hv).1
  rw [q]
  refine ⟨fun r => r.elim h0 fun r => ?_, by simpa using hv⟩
  simp at r
  omega
theorem own_ldC (X : Stand p l e R s m args below meth c T locs cells slots) (hx : p.tables.exec = Jvm.exec) (hZ : Z.Warmed39 s.vm) (eT : T.heap = h) (F : OAr Z h a k .char vs) {j : Int32} (h0 : ¬ j < 0) (hv : vs[j.toNatClampNeg]? = some v) {g : JFrame} (hg : g.method = m) {rest : List Value} (hs : g.stack = .int j :: .ref a :: rest) (hd : decode c.code g.pc = .ok (.caload, 1)) (t : State)
    (hr : Steps p.tables e below (T.setTop { g with pc := g.pc + 1, stack := v :: rest }) t) : Steps p.tables e below (T.setTop g) t := by
  obtain ⟨cl, A, -, r⟩ := F
  obtain ⟨q1, q2⟩ := own_in h0 hv r
  exact X.caload hx (by rw [eT]; exact A.1) (State.isArrayOf_alike hZ.alike A.2.1) A.2.2 q1 q2 hg hs hd t hr
theorem own_ldB (X : Stand p l e R s m args below meth c T locs cells slots) (hx : p.tables.exec = Jvm.exec) (hZ : Z.Warmed39 s.vm) (eT : T.heap = h) (F : OAr Z h a k .byte vs) {j : Int32} (h0 : ¬ j < 0) (hv : vs[j.toNatClampNeg]? = some v) {g : JFrame} (hg : g.method = m) {rest : List Value} (hs : g.stack = .int j :: .ref a :: rest) (hd : decode c.code g.pc = .ok (.baload, 1)) (t : State)
    (hr : Steps p.tables e below (T.setTop { g with pc := g.pc + 1, stack := v :: rest }) t) : Steps p.tables e below (T.setTop g) t := by
  obtain ⟨cl, A, -, r⟩ := F
  obtain ⟨q1, q2⟩ := own_in h0 hv r
  exact X.baloadBytes hx (by rw [eT]; exact A.1) (State.isArrayOf_alike hZ.alike A.2.1) A.2.2 q1 q2 hg hs hd t hr
theorem own_ldA (X : Stand p l e R s m args below meth c T locs cells slots) (hx : p.tables.exec = Jvm.exec) (hZ : Z.Warmed39 s.vm) (eT : T.heap = h) (F : OAr Z h a k ty vs) (ht : ty.isReference = true) {j : Int32} (h0 : ¬ j < 0) (hv : vs[j.toNatClampNeg]? = some v) {g : JFrame} (hg : g.method = m) {rest : List Value} (hs : g.stack = .int j :: .ref a :: rest) (hd : decode c.code g.pc = .ok (.aaload, 1)) (t : State)
    (hr : Steps p.tables e below (T.setTop { g with pc := g.pc + 1, stack := v :: rest }) t) : Steps p.tables e below (T.setTop g) t := by
  obtain ⟨cl, A, -, r⟩ := F
  obtain ⟨q1, q2⟩ := own_in h0 hv r
  exact X.aaload hx (by rw [eT]; exact A.1) (State.isArrayOf_alike hZ.alike A.2.1) ht A.2.2 q1 q2 hg hs hd t hr
theorem own_len (X : Stand p l e R s m args below meth c T locs cells slots) (hx : p.tables.exec = Jvm.exec) (hZ : Z.Warmed39 s.vm) (eT : T.heap = h) (F : OAr Z h a k ty vs) {n : Int32} (hn : vs.length.toInt32 = n) {g : JFrame} (hg : g.method = m) {rest : List Value} (hs : g.stack = .ref a :: rest) (hd : decode c.code g.pc = .ok (.arraylength, 1)) (t : State)
    (hr : Steps p.tables e below (T.setTop { g with pc := g.pc + 1, stack := .int n :: rest }) t) : Steps p.tables e below (T.setTop g) t := by
  obtain ⟨cl, A, -, r⟩ := F
  refine X.arraylength hx (by rw [eT]; exact A.1) (State.isArrayOf_alike hZ.alike A.2.1) hg hs hd t ?_
  rw [show cl.slots.size = vs.length by rw [r]; simp, hn]
  exact hr
theorem own_in2 {j : Int32} (h0 : ¬ j < 0) (h1 : j.toNatClampNeg < vs.length) {c : Cell} (q : c.slots = vs.toArray) : ¬ (j < 0 ∨ c.slots.size ≤ j.toNatClampNeg) := by
  rw [q]
  refine fun r => r.elim h0 fun r => ?_
  simp at r
  omega
theorem own_stC (X : Stand p l e R s m args below meth c T locs cells slots) (hx : p.tables.exec = Jvm.exec) (hZ : Z.Warmed39 s.vm) (eT : T.heap = h) (F : OAr Z h a k .char vs) {j : Int32} {x : Int32} (h0 : ¬ j < 0) (h1 : j.toNatClampNeg < vs.length) {g : JFrame} (hg : g.method = m) {rest : List Value} (hs : g.stack = .int x :: .int j :: .ref a :: rest) (hd : decode c.code g.pc = .ok (.castore, 1)) :
    ∃ T' h', Stand p l e R s m args below meth c T' (locs ++ [⟨a, j.toNatClampNeg⟩]) cells slots ∧ T'.heap = h' ∧ Wr h h' a j.toNatClampNeg (.int (nar .char x)) ∧ OAr Z h' a k .char (vs.set j.toNatClampNeg (.int (nar .char x))) ∧ ∀ target, Steps p.tables e below (T'.setTop { g with pc := g.pc + 1, stack := rest }) target → Steps p.tables e below (T.setTop g) target := by
  have F' := F
  obtain ⟨cl, A, -, r⟩ := F'
  obtain ⟨T', h', X', e', W', st⟩ := stC X hx hZ eT A (own_in2 h0 h1 r) hg hs hd
  exact ⟨T', h', X', e', W', F.same W', st⟩
theorem own_stB (X : Stand p l e R s m args below meth c T locs cells slots) (hx : p.tables.exec = Jvm.exec) (hZ : Z.Warmed39 s.vm) (eT : T.heap = h) (F : OAr Z h a k .byte vs) {j : Int32} {x : Int32} (h0 : ¬ j < 0) (h1 : j.toNatClampNeg < vs.length) {g : JFrame} (hg : g.method = m) {rest : List Value} (hs : g.stack = .int x :: .int j :: .ref a :: rest) (hd : decode c.code g.pc = .ok (.bastore, 1)) :
    ∃ T' h', Stand p l e R s m args below meth c T' (locs ++ [⟨a, j.toNatClampNeg⟩]) cells slots ∧ T'.heap = h' ∧ Wr h h' a j.toNatClampNeg (.int (nar .byte x)) ∧ OAr Z h' a k .byte (vs.set j.toNatClampNeg (.int (nar .byte x))) ∧ ∀ target, Steps p.tables e below (T'.setTop { g with pc := g.pc + 1, stack := rest }) target → Steps p.tables e below (T.setTop g) target := by
  have F' := F
  obtain ⟨cl, A, -, r⟩ := F'
  obtain ⟨T', h', X', e', W', st⟩ := stB X hx hZ eT A (own_in2 h0 h1 r) hg hs hd
  exact ⟨T', h', X', e', W', F.same W', st⟩
theorem own_stR (X : Stand p l e R s m args below meth c T locs cells slots) (hx : p.tables.exec = Jvm.exec) (hZ : Z.Warmed39 s.vm) (eT : T.heap = h) (F : OAr Z h a k ty vs) (ht : ty.isReference = true) {j : Int32} {x : Value} (h0 : ¬ j < 0) (h1 : j.toNatClampNeg < vs.length) (S : Sto Z h a x) {g : JFrame} (hg : g.method = m) {rest : List Value} (hs : g.stack = x :: .int j :: .ref a :: rest) (hd : decode c.code g.pc = .ok (.aastore, 1)) :
    ∃ T' h', Stand p l e R s m args below meth c T' (locs ++ [⟨a, j.toNatClampNeg⟩]) cells slots ∧ T'.heap = h' ∧ Wr h h' a j.toNatClampNeg x ∧ OAr Z h' a k ty (vs.set j.toNatClampNeg x) ∧ ∀ target, Steps p.tables e below (T'.setTop { g with pc := g.pc + 1, stack := rest }) target → Steps p.tables e below (T.setTop g) target := by
  have F' := F
  obtain ⟨cl, A, -, r⟩ := F'
  obtain ⟨T', h', X', e', W', st⟩ := stR X hx hZ eT A (own_in2 h0 h1 r) ht S hg hs hd
  exact ⟨T', h', X', e', W', F.same W', st⟩
theorem own_sto {y : Addr} {t0 : FieldType} {C : String} (F : OAr Z h a k ty vs) (O : OvrA Z k t0 C) (I : Ins Z h y C true) : Sto Z h a (.ref y) := by
  obtain ⟨cl, A, q, -⟩ := F
  exact Sto.ofVA A q O I
/-- the addresses are unlike each other -/
def OND (L : List Addr) : Prop := L.Pairwise (· ≠ ·)
theorem ond0 : OND [] := List.Pairwise.nil
theorem ondS {x : Addr} {L : List Addr} (q : ∀ y ∈ L, x ≠ y) (r : OND L) : OND (x :: L) := List.Pairwise.cons q r
theorem own_pw {L : List Addr} (q : OND L) (i j : Nat) (hij : i < j) {x y : Addr} (hi : L[i]? = some x) (hj : L[j]? = some y) : x ≠ y := by
  obtain ⟨i1, rfl⟩ := List.getElem?_eq_some_iff.mp hi
  obtain ⟨j1, rfl⟩ := List.getElem?_eq_some_iff.mp hj
  exact List.pairwise_iff_getElem.mp q i j i1 j1 hij
theorem own_selp (hZ : Z.Warmed39 s.vm) {y : MethodName} {k : Nat} (wi : (Cond.instantiable y.cls k).before a0 Z = true) (wp : (Cond.privateMethod y).before a0 Z = true) (wm : (Cond.instanceMethod y).before a0 Z = true) (hy : y.cls ≠ "java/lang/invoke/MethodHandle" ∧ y.cls ≠ "java/lang/invoke/VarHandle" := by decide) : (Cond.selects y.cls y y).before args s = true := by
  obtain ⟨c2, k2, i1, i2, i3, i4, -⟩ := Cond.instantiable_spec (mv (args := args) hZ wi)
  exact selects_self_of_private i1 i2 (Bool.or_eq_false_iff.mp i4).1 (Cond.privateMethod_at (mvP hZ wp (args := args))) (mv hZ wm) hy
theorem own_arv {z : Int32} {d : Value} (F : OAr Z h a k ty vs) (hf : ∀ v ∈ vs, fits ty v = true) (hz : ¬ z < 0) (hl : vs.length = z.toNatClampNeg) : Arv Z h a k ty z vs d := by
  obtain ⟨c, A, q1, q2⟩ := F
  have hs : c.slots.size = vs.length := by rw [q2]; simp
  refine ⟨c, A, q1, by rw [hs, hl], hz, fun i hi => ?_, fun i hi => ?_⟩
  · rw [hs] at hi
    rw [q2]
    simp [List.getD_eq_getElem?_getD, hi]
  · rw [hs] at hi
    rw [List.getD_eq_getElem?_getD, List.getElem?_eq_getElem hi]
    exact hf _ (List.getElem_mem hi)
theorem own_unarv {z : Int32} {d : Value} (F : Arv Z h a k ty z vs d) (hl : vs.length = z.toNatClampNeg) : OAr Z h a k ty vs := by
  obtain ⟨c, A, q1, q2, q3, H, -⟩ := F
  refine ⟨c, A, q1, ?_⟩
  apply Array.ext (by rw [q2, ← hl]; simp)
  intro i h1 h2
  have e := H i h1
  have h3 : i < vs.length := by simpa using h2
  rw [Array.getElem?_eq_getElem h1, List.getD_eq_getElem?_getD, List.getElem?_eq_getElem h3] at e
  simpa using Option.some.inj e
/-- a page: an array of bytes or chars of that length, whatever it holds -/
def OPg (Z : State) (h : Heap) (a : Addr) (k : ClassId) (ty : FieldType) (n : Int32) : Prop := ∃ vs : List Value, OAr Z h a k ty vs ∧ vs.length = n.toNatClampNeg ∧ ¬ n < 0 ∧ ∀ v ∈ vs, fits ty v = true
section Pages
variable {n : Int32}
theorem OPg.lt (F : OPg Z h a k ty n) : a < h.size := by obtain ⟨vs, A, -⟩ := F; exact A.lt
theorem OPg.ext (F : OPg Z h a k ty n) (E : Ext h h') : OPg Z h' a k ty n := by obtain ⟨vs, A, r⟩ := F; exact ⟨vs, A.ext E, r⟩
theorem OPg.other (F : OPg Z h b k ty n) (W : Wr h h' a sl v) (q : b ≠ a) : OPg Z h' b k ty n := by obtain ⟨vs, A, r⟩ := F; exact ⟨vs, A.other W q, r⟩
theorem OPg.keep (F : OPg Z h a k ty n) (K : Keep h h' wl) (q : a ∉ wl) : OPg Z h' a k ty n := by obtain ⟨vs, A, r⟩ := F; exact ⟨vs, A.keep K q, r⟩
theorem OPg.new (A : Arr Z h a (newA k ty n) ty) (q : ¬ n < 0) (hd : fits ty (defaultValue ty) = true) : OPg Z h a k ty n := ⟨_, OAr.new A, by simp, q, fun v hv => by rw [List.eq_of_mem_replicate hv]; exact hd⟩
theorem own_lenP (X : Stand p l e R s m args below meth c T locs cells slots) (hx : p.tables.exec = Jvm.exec) (hZ : Z.Warmed39 s.vm) (eT : T.heap = h) (F : OPg Z h a k ty n) {g : JFrame} (hg : g.method = m) {rest : List Value} (hs : g.stack = .ref a :: rest) (hd : decode c.code g.pc = .ok (.arraylength, 1)) (t : State)
    (hr : Steps p.tables e below (T.setTop { g with pc := g.pc + 1, stack := .int n :: rest }) t) : Steps p.tables e below (T.setTop g) t := by
  obtain ⟨vs, A, q1, q2, -⟩ := F
  exact own_len X hx hZ eT A (by rw [q1]; exact (back32 q2).1) hg hs hd t hr
theorem own_fitset {k : Nat} (h1 : ∀ w ∈ vs, fits ty w = true) (h2 : fits ty v = true) : ∀ w ∈ vs.set k v, fits ty w = true := fun w hw => (List.mem_or_eq_of_mem_set hw).elim (h1 w) fun q => q ▸ h2
theorem own_stBp (X : Stand p l e R s m args below meth c T locs cells slots) (hx : p.tables.exec = Jvm.exec) (hZ : Z.Warmed39 s.vm) (eT : T.heap = h) (F : OPg Z h a k .byte n) {j : Int32} {x : Int32} (h0 : ¬ j < 0) (h1 : j.toNatClampNeg < n.toNatClampNeg) {g : JFrame} (hg : g.method = m) {rest : List Value} (hs : g.stack = .int x :: .int j :: .ref a :: rest) (hd : decode c.code g.pc = .ok (.bastore, 1)) :
    ∃ T' h', Stand p l e R s m args below meth c T' (locs ++ [⟨a, j.toNatClampNeg⟩]) cells slots ∧ T'.heap = h' ∧ Wr h h' a j.toNatClampNeg (.int (nar .byte x)) ∧ OPg Z h' a k .byte n ∧ ∀ target, Steps p.tables e below (T'.setTop { g with pc := g.pc + 1, stack := rest }) target → Steps p.tables e below (T.setTop g) target := by
  obtain ⟨vs, A, q1, q2, q3⟩ := F
  obtain ⟨T', h', X', e', W', A', st⟩ := own_stB X hx hZ eT A h0 (by rw [q1]; exact h1) hg hs hd
  exact ⟨T', h', X', e', W', ⟨_, A', by simpa using q1, q2, own_fitset q3 (fits_nar_byte x)⟩, st⟩
theorem own_stCp (X : Stand p l e R s m args below meth c T locs cells slots) (hx : p.tables.exec = Jvm.exec) (hZ : Z.Warmed39 s.vm) (eT : T.heap = h) (F : OPg Z h a k .char n) {j : Int32} {x : Int32} (h0 : ¬ j < 0) (h1 : j.toNatClampNeg < n.toNatClampNeg) {g : JFrame} (hg : g.method = m) {rest : List Value} (hs : g.stack = .int x :: .int j :: .ref a :: rest) (hd : decode c.code g.pc = .ok (.castore, 1)) :
    ∃ T' h', Stand p l e R s m args below meth c T' (locs ++ [⟨a, j.toNatClampNeg⟩]) cells slots ∧ T'.heap = h' ∧ Wr h h' a j.toNatClampNeg (.int (nar .char x)) ∧ OPg Z h' a k .char n ∧ ∀ target, Steps p.tables e below (T'.setTop { g with pc := g.pc + 1, stack := rest }) target → Steps p.tables e below (T.setTop g) target := by
  obtain ⟨vs, A, q1, q2, q3⟩ := F
  obtain ⟨T', h', X', e', W', A', st⟩ := own_stC X hx hZ eT A h0 (by rw [q1]; exact h1) hg hs hd
  exact ⟨T', h', X', e', W', ⟨_, A', by simpa using q1, q2, own_fitset q3 (fits_nar_char x)⟩, st⟩
theorem own_ldBp (X : Stand p l e R s m args below meth c T locs cells slots) (hx : p.tables.exec = Jvm.exec) (hZ : Z.Warmed39 s.vm) (eT : T.heap = h) (F : OPg Z h a k .byte n) {j : Int32} (h0 : ¬ j < 0) (h1 : j.toNatClampNeg < n.toNatClampNeg) {g : JFrame} (hg : g.method = m) {rest : List Value} (hs : g.stack = .int j :: .ref a :: rest) (hd : decode c.code g.pc = .ok (.baload, 1)) :
    ∃ x : Int32, ∀ t, Steps p.tables e below (T.setTop { g with pc := g.pc + 1, stack := .int x :: rest }) t → Steps p.tables e below (T.setTop g) t := by
  obtain ⟨vs, A, q1, q2, q3⟩ := F
  have hl : j.toNatClampNeg < vs.length := by rw [q1]; exact h1
  obtain ⟨x, hxv⟩ := fit_I (q3 _ (List.getElem_mem hl)) (Or.inr (Or.inr (Or.inl rfl)))
  exact ⟨x, fun t hr => own_ldB X hx hZ eT A h0 (by rw [List.getElem?_eq_getElem hl, hxv]) hg hs hd t hr⟩
theorem OPg.arv {d : Value} (F : OPg Z h a k ty n) : ∃ vs : List Value, Arv Z h a k ty n vs d ∧ vs.length = n.toNatClampNeg := by
  obtain ⟨vs, A, q1, q2, q3⟩ := F
  exact ⟨vs, own_arv A q3 q2 q1, q1⟩
theorem OPg.of {d : Value} (F : Arv Z h a k ty n vs d) (hl : vs.length = n.toNatClampNeg) : OPg Z h a k ty n := by
  have F' := F
  obtain ⟨c, A, q1, q2, q3, H, G⟩ := F'
  refine ⟨vs, own_unarv F hl, hl, q3, fun v hv => ?_⟩
  obtain ⟨i, hi, rfl⟩ := List.getElem_of_mem hv
  have := G i (by rw [q2, ← hl]; exact hi)
  rwa [List.getD_eq_getElem?_getD, List.getElem?_eq_getElem hi] at this
theorem OPg.ofL (F : OAr Z h a k ty vs) (q1 : vs.length = n.toNatClampNeg) (q2 : ¬ n < 0) (q3 : ∀ v ∈ vs, fits ty v = true) : OPg Z h a k ty n := ⟨vs, F, q1, q2, q3⟩
theorem own_cpP (X : Stand p l e R s m args below meth c T locs cells slots) (hx : p.tables.exec = Jvm.exec) (hZ : Z.Warmed39 s.vm) {own : String} {index : Nat} (hown : s.vm.findClass own = some m.cls)
    (w1 : (Cond.methodLink own index Jvm.Stand.acN).before a0 Z = true) (w2 : (Cond.native Jvm.Stand.acN).before a0 Z = true) (w3 : (Cond.static Jvm.Stand.acN).before a0 Z = true) (w4 : (Cond.initialized "java/lang/System").before a0 Z = true) (eT : T.heap = h)
    {k' : ClassId} {z z' sp dp nn : Int32} (A : OPg Z h a k ty z) (B : OPg Z h b k' ty z') (hty : refKind ty = false)
    (h1 : ¬ sp < 0) (h2 : ¬ dp < 0) (h3 : ¬ nn < 0) (h4 : sp.toNatClampNeg + nn.toNatClampNeg ≤ z.toNatClampNeg) (h5 : dp.toNatClampNeg + nn.toNatClampNeg ≤ z'.toNatClampNeg) {n0 : Nat} (N : Fr n0 locs) (ge : n0 ≤ b)
    {g : JFrame} (hg : g.method = m) (hsize : g.locals.size = c.maxLocals) {rest : List Value} (hs : g.stack = .int nn :: .int dp :: .ref b :: .int sp :: .ref a :: rest) (hd : decode c.code g.pc = .ok (.invokestatic index, 3))
    (hf : 1 ≤ R.frames) {W : Nat} (hW : 2 * g.monitorRoom + (rest.map fun v => v.category).sum ≤ W) (hlo : W + (nativeFrameWords "java/lang/System" "arraycopy" 5 + 11) ≤ R.locals) :
    ∃ T' h' L, Stand p l e R s m args below meth c T' L cells slots ∧ T'.heap = h' ∧ Fr n0 L ∧ Keep h h' [b] ∧ OPg Z h' b k' ty z' ∧
      ∀ target, Steps p.tables e below (T'.setTop { g with pc := g.pc + 3, stack := rest }) target → Steps p.tables e below (T.setTop g) target := by
  obtain ⟨vs, Av, la⟩ := A.arv (d := .null)
  obtain ⟨vd, Bv, lb⟩ := B.arv (d := .null)
  obtain ⟨T', h', L, X', e', N', K', B', st⟩ := cpA X hx hZ hown w1 w2 w3 w4 eT Av Bv (Or.inl ⟨rfl, hty⟩) h1 h2 h3 h4 h5 rfl (by rw [lb]; exact h5) N ge hg hsize hs hd hf hW hlo
  exact ⟨T', h', L, X', e', N', K', OPg.of B' (by simp; omega), st⟩
end Pages
theorem own_orne {x a b N : Nat} (p : b = a ∨ N ≤ b) (q : x ≠ a) (l : x < N) : x ≠ b := p.elim (fun z => by rw [z]; exact q) fun r => Nat.ne_of_lt (Nat.lt_of_lt_of_le l r)
theorem own_orge {a b N n0 : Nat} (p : b = a ∨ N ≤ b) (q : n0 ≤ a) (l : n0 ≤ N) : n0 ≤ b := p.elim (fun z => by rw [z]; exact q) fun r => Nat.le_trans l r
theorem own_oror {a b N M : Nat} (p : b = a ∨ N ≤ b) (l : M ≤ N) : b = a ∨ M ≤ b := p.imp id fun r => Nat.le_trans l r
theorem own_orin {a b M : Nat} {L : List Nat} (p : b = a ∨ M ≤ b) (q : a ∈ L) : b ∈ L ∨ M ≤ b := Or.imp (fun z : b = a => by rw [z]; exact q) id p
end OwnKit
end Jvm.RoadKit

namespace Jvm.Pilot.@@N@@
open Jvm Jvm.ClassFile Sem Op Lib Jvm.Free Jvm.Stand Jvm.LawKit Jvm.RoadKit Bundle Jvm.Pilot.@@N@@.Jvm.D
theorem ow {a0 : Array Value} {Z : State} (hw : ∀ d ∈ tables_1, d.before a0 Z = true) (i : Nat) {d : Jvm.Cond} (h : tables_1[i]? = some d) : d.before a0 Z = true := hw _ (List.mem_of_getElem? h)
abbrev mN0 : MethodName := ⟨"java/lang/Math", "min", "(II)I"⟩
abbrev mN1 : MethodName := ⟨"java/lang/Math", "max", "(II)I"⟩
abbrev mN2 : MethodName := ⟨"java/util/Arrays", "copyOf", "([BI)[B"⟩
abbrev mN3 : MethodName := ⟨"java/util/Arrays", "copyOf", "([CI)[C"⟩
abbrev mN4 : MethodName := ⟨"com/example/imprint/imprint/tree/PagedText", "<init>", "(I)V"⟩
abbrev cN0 : String := "com/example/imprint/imprint/tree/PagedText"
abbrev mN5 : MethodName := ⟨"com/example/imprint/imprint/tree/PagedText", "bytes", "()J"⟩
abbrev mN6 : MethodName := ⟨"com/example/imprint/imprint/tree/PagedText", "pageLength", "(I)I"⟩
abbrev mN7 : MethodName := ⟨"com/example/imprint/imprint/tree/PagedText", "grow", "(I)V"⟩
abbrev mN8 : MethodName := ⟨"com/example/imprint/imprint/tree/PagedText", "widen", "(I)V"⟩
abbrev mN9 : MethodName := ⟨"com/example/imprint/imprint/tree/PagedTextBytesPinLaw", "anyWide", "([CI)Z"⟩
abbrev mN10 : MethodName := ⟨"java/lang/StringUTF16", "length", "([B)I"⟩
abbrev mN11 : MethodName := ⟨"java/lang/String", "coder", "()B"⟩
abbrev cN1 : String := "java/lang/String"
abbrev mN12 : MethodName := ⟨"java/lang/String", "isLatin1", "()Z"⟩
abbrev mN13 : MethodName := ⟨"java/lang/String", "length", "()I"⟩
abbrev mN14 : MethodName := ⟨"jdk/internal/util/Preconditions", "checkIndex", "(IILjava/util/function/BiFunction;)I"⟩
abbrev mN15 : MethodName := ⟨"jdk/internal/util/Preconditions", "checkFromToIndex", "(IIILjava/util/function/BiFunction;)I"⟩
abbrev mN16 : MethodName := ⟨"jdk/internal/util/Preconditions", "checkFromIndexSize", "(IIILjava/util/function/BiFunction;)I"⟩
abbrev mN17 : MethodName := ⟨"java/lang/String", "checkIndex", "(II)V"⟩
abbrev mN18 : MethodName := ⟨"java/lang/String", "checkBoundsBeginEnd", "(III)V"⟩
abbrev mN19 : MethodName := ⟨"java/lang/String", "checkBoundsOffCount", "(III)I"⟩
abbrev mN20 : MethodName := ⟨"java/lang/StringUTF16", "checkBoundsOffCount", "(II[B)V"⟩
abbrev mN21 : MethodName := ⟨"java/lang/StringUTF16", "checkIndex", "(I[B)V"⟩
abbrev mN22 : MethodName := ⟨"java/lang/StringLatin1", "charAt", "([BI)C"⟩
abbrev mN23 : MethodName := ⟨"java/lang/StringUTF16", "getChar", "([BI)C"⟩
abbrev mN24 : MethodName := ⟨"java/lang/StringUTF16", "charAt", "([BI)C"⟩
abbrev mN25 : MethodName := ⟨"java/lang/String", "charAt", "(I)C"⟩
abbrev mN26 : MethodName := ⟨"java/lang/StringUTF16", "newBytesLength", "(I)I"⟩
abbrev mN27 : MethodName := ⟨"java/lang/StringUTF16", "newBytesFor", "(I)[B"⟩
abbrev mN28 : MethodName := ⟨"java/lang/StringUTF16", "putChar", "([BII)V"⟩
abbrev mN29 : MethodName := ⟨"java/lang/StringUTF16", "toBytes", "([CII)[B"⟩
abbrev mN30 : MethodName := ⟨"java/lang/StringUTF16", "compress", "([CI[BII)I"⟩
abbrev mN31 : MethodName := ⟨"java/lang/StringUTF16", "compress", "([CII)[B"⟩
abbrev mN32 : MethodName := ⟨"java/lang/StringUTF16", "coderFromArrayLen", "([BI)B"⟩
abbrev mN33 : MethodName := ⟨"java/lang/String", "<init>", "([CIILjava/lang/Void;)V"⟩
abbrev mN34 : MethodName := ⟨"java/lang/String", "<init>", "([C)V"⟩
abbrev mN35 : MethodName := ⟨"java/lang/StringLatin1", "inflate", "([BI[CII)V"⟩
abbrev mN36 : MethodName := ⟨"java/lang/StringLatin1", "getChars", "([BII[CI)V"⟩
abbrev mN37 : MethodName := ⟨"java/lang/StringUTF16", "getChars", "([BII[CI)V"⟩
abbrev mN38 : MethodName := ⟨"java/lang/String", "getChars", "(II[CI)V"⟩
abbrev mN39 : MethodName := ⟨"com/example/imprint/imprint/tree/PagedText", "appendFrom", "([CLjava/lang/String;II)V"⟩
abbrev mN40 : MethodName := ⟨"com/example/imprint/imprint/tree/PagedText", "append", "([CII)V"⟩
abbrev mN41 : MethodName := ⟨"com/example/imprint/imprint/tree/PagedText", "append", "(Ljava/lang/String;)V"⟩
def own_ST (Z : State) (cs : Int32) (fw : Value) : Prop := (Sta Z Z.heap "com/example/imprint/imprint/tree/PagedText" "PAGE_SIZE" "I" (.int (65536 : Int32))) ∧ (Sta Z Z.heap "com/example/imprint/imprint/tree/PagedText" "PAGE_BITS" "I" (.int (16 : Int32))) ∧ (Sta Z Z.heap "com/example/imprint/imprint/tree/PagedText" "OFFSET_MASK" "I" (.int (65535 : Int32))) ∧ (Sta Z Z.heap "java/lang/String" "COMPACT_STRINGS" "Z" (.int cs)) ∧ (¬ cs = (0 : Int32)) ∧ (Sta Z Z.heap "jdk/internal/util/Preconditions" "SIOOBE_FORMATTER" "Ljava/util/function/BiFunction;" fw) ∧ (fw.isRef = true) ∧ (Sta Z Z.heap "java/lang/StringUTF16" "$assertionsDisabled" "Z" (.int (1 : Int32))) ∧ (Sta Z Z.heap "java/lang/StringUTF16" "HI_BYTE_SHIFT" "I" (.int (0 : Int32))) ∧ (Sta Z Z.heap "java/lang/StringUTF16" "LO_BYTE_SHIFT" "I" (.int (8 : Int32)))
theorem own_ST.ps {Z : State} {cs : Int32} {fw : Value} (h : own_ST Z cs fw) : Sta Z Z.heap "com/example/imprint/imprint/tree/PagedText" "PAGE_SIZE" "I" (.int (65536 : Int32)) := h.1
theorem own_ST.pb {Z : State} {cs : Int32} {fw : Value} (h : own_ST Z cs fw) : Sta Z Z.heap "com/example/imprint/imprint/tree/PagedText" "PAGE_BITS" "I" (.int (16 : Int32)) := h.2.1
theorem own_ST.om {Z : State} {cs : Int32} {fw : Value} (h : own_ST Z cs fw) : Sta Z Z.heap "com/example/imprint/imprint/tree/PagedText" "OFFSET_MASK" "I" (.int (65535 : Int32)) := h.2.2.1
theorem own_ST.cs {Z : State} {cs : Int32} {fw : Value} (h : own_ST Z cs fw) : Sta Z Z.heap "java/lang/String" "COMPACT_STRINGS" "Z" (.int cs) := h.2.2.2.1
theorem own_ST.cs0 {Z : State} {cs : Int32} {fw : Value} (h : own_ST Z cs fw) : ¬ cs = (0 : Int32) := h.2.2.2.2.1
theorem own_ST.fm {Z : State} {cs : Int32} {fw : Value} (h : own_ST Z cs fw) : Sta Z Z.heap "jdk/internal/util/Preconditions" "SIOOBE_FORMATTER" "Ljava/util/function/BiFunction;" fw := h.2.2.2.2.2.1
theorem own_ST.fr {Z : State} {cs : Int32} {fw : Value} (h : own_ST Z cs fw) : fw.isRef = true := h.2.2.2.2.2.2.1
theorem own_ST.ad {Z : State} {cs : Int32} {fw : Value} (h : own_ST Z cs fw) : Sta Z Z.heap "java/lang/StringUTF16" "$assertionsDisabled" "Z" (.int (1 : Int32)) := h.2.2.2.2.2.2.2.1
theorem own_ST.hi {Z : State} {cs : Int32} {fw : Value} (h : own_ST Z cs fw) : Sta Z Z.heap "java/lang/StringUTF16" "HI_BYTE_SHIFT" "I" (.int (0 : Int32)) := h.2.2.2.2.2.2.2.2.1
theorem own_ST.lo {Z : State} {cs : Int32} {fw : Value} (h : own_ST Z cs fw) : Sta Z Z.heap "java/lang/StringUTF16" "LO_BYTE_SHIFT" "I" (.int (8 : Int32)) := h.2.2.2.2.2.2.2.2.2
def own_min (p q : Int32) : Int32 := if q < p then q else p
def own_max (p q : Int32) : Int32 := if p < q then q else p
theorem own_t0 : (0 : Int32).toInt = 0 := by decide
theorem own_nn {n : Int32} (h : 0 ≤ n.toInt) : ¬ n < 0 := by rw [Int32.lt_iff_toInt_lt, own_t0]; omega
theorem own_nle {n : Int32} {k : Nat} (h : n.toInt ≤ (k : Int)) : n.toNatClampNeg ≤ k := by simp only [Int32.toNatClampNeg]; omega
theorem own_neI {p q : Int32} (h : q.toInt < p.toInt) : ¬ p = q := fun e => by subst e; omega
theorem own_minl {p q : Int32} (h : p.toInt ≤ q.toInt) : own_min p q = p := by unfold own_min; rw [if_neg]; rw [Int32.lt_iff_toInt_lt]; omega
theorem own_z0 {p q : Int32} (h : p.toInt ≤ q.toInt) : (0 : Int32).toNatClampNeg + p.toNatClampNeg ≤ q.toNatClampNeg := by
  have c : (0 : Int32).toNatClampNeg = 0 := by decide
  rw [c]; simp only [Int32.toNatClampNeg]; omega
theorem own_lt {p q : Int32} (h : p.toInt < q.toInt) : p < q := by rw [Int32.lt_iff_toInt_lt]; exact h
theorem own_nlt {p q : Int32} (h : q.toInt ≤ p.toInt) : ¬ p < q := by rw [Int32.lt_iff_toInt_lt]; omega
theorem own_eqI {p q : Int32} (h : p.toInt = q.toInt) : p = q := Int32.toInt_inj.mp h
theorem own_maxI (p q : Int32) : (own_max p q).toInt = if p.toInt < q.toInt then q.toInt else p.toInt := by unfold own_max; simp only [Int32.lt_iff_toInt_lt]; split <;> rfl
theorem own_dbl {c : Int32} (h : 0 ≤ c.toInt ∧ c.toInt ≤ 15) : (c * (2 : Int32)).toInt = 2 * c.toInt := by
  have a := c_imul c (2 : Int32)
  have b := rng32 (c * (2 : Int32))
  have r : (2 : Int32).toInt = 2 := by decide
  rw [r] at a
  omega
theorem own_g4 {cap p : Int32} (h : 0 ≤ cap.toInt ∧ cap.toInt < p.toInt ∧ p.toInt ≤ 6) : 0 ≤ cap.toInt ∧ cap.toInt < (own_max p (cap * (2 : Int32))).toInt ∧ (own_max p (cap * (2 : Int32))).toInt ≤ 15 := by
  rw [own_maxI, own_dbl (by omega)]; split <;> omega
theorem own_g1 {cap p : Int32} (h : 0 ≤ cap.toInt ∧ cap.toInt < p.toInt ∧ p.toInt ≤ 6) : cap < (65536 : Int32) := own_lt (by have r : (65536 : Int32).toInt = 65536 := (by decide); omega)
theorem own_g3 {cap p : Int32} (h : 0 ≤ cap.toInt ∧ cap.toInt < p.toInt ∧ p.toInt ≤ 6) : ¬ own_max p (cap * (2 : Int32)) < p := own_nlt (by rw [own_maxI, own_dbl (by omega)]; split <;> omega)
theorem own_g2 {cap p : Int32} (h : 0 ≤ cap.toInt ∧ cap.toInt < p.toInt ∧ p.toInt ≤ 6) : own_min (65536 : Int32) (own_max p (cap * (2 : Int32))) = own_max p (cap * (2 : Int32)) := by
  have g := own_g4 h
  have r : (65536 : Int32).toInt = 65536 := by decide
  unfold own_min
  rw [if_pos (own_lt (by omega))]
theorem own_inc {i : Int32} (h : 0 ≤ i.toInt ∧ i.toInt < 1000) : (i + (1 : Int32)).toInt = i.toInt + 1 := by
  have a := c_iadd i (1 : Int32)
  have b := rng32 (i + (1 : Int32))
  have r : (1 : Int32).toInt = 1 := by decide
  omega
theorem own_natI {n : Int32} (h : 0 ≤ n.toInt) : ((n.toNatClampNeg : Nat) : Int) = n.toInt := by simp only [Int32.toNatClampNeg]; omega
theorem own_f0 {c : Int32} (h : 0 ≤ c.toInt ∧ c.toInt ≤ 15) : c.toInt = (0 : Int32).toInt + (c.toNatClampNeg : Int) ∧ 0 ≤ (0 : Int32).toInt := by rw [own_t0, own_natI h.1]; omega
theorem own_ltN {p q : Int32} (h : 0 ≤ p.toInt ∧ p.toInt < q.toInt) : p.toNatClampNeg < q.toNatClampNeg := by simp only [Int32.toNatClampNeg]; omega
abbrev own_w (u0 u1 u2 n : Int32) : Prop := (0 < n ∧ (255 : Int32) < u0) ∨ (1 < n ∧ (255 : Int32) < u1) ∨ (2 < n ∧ (255 : Int32) < u2)
def own_any (u0 u1 u2 n : Int32) : Int32 := if own_w u0 u1 u2 n then 1 else 0
def own_at (u0 u1 u2 i : Int32) : Int32 := if i = 0 then u0 else if i = 1 then u1 else u2
def own_b0 (x : Int32) : Int32 := nar .byte ((x >>> ((0 : Int32) &&& 31)).toInt8.toInt32)
def own_b1 (x : Int32) : Int32 := nar .byte ((x >>> ((8 : Int32) &&& 31)).toInt8.toInt32)
def own_ch (u0 u1 u2 : Int32) : Prop := (0 ≤ u0.toInt ∧ u0.toInt < 65536) ∧ (0 ≤ u1.toInt ∧ u1.toInt < 65536) ∧ 0 ≤ u2.toInt ∧ u2.toInt < 65536
theorem own_i3 {p : Int32} (h : 0 ≤ p.toInt ∧ p.toInt < 3) : 0 ≤ p.toInt ∧ p.toInt < (3 : Int32).toInt := h
theorem own_two {p : Int32} (h : 0 ≤ p.toInt ∧ p.toInt < 3) (h0 : ¬ p = 0) (h1 : ¬ p = 1) : p = 2 := by
  have a : p.toInt ≠ 0 := fun q => h0 (own_eqI (by rw [q]; decide))
  have b : p.toInt ≠ 1 := fun q => h1 (own_eqI (by rw [q]; decide))
  exact own_eqI (by have r : (2 : Int32).toInt = 2 := (by decide); omega)
def own_oc (a b c : Int32) : Prop := 0 ≤ a.toInt ∧ 0 ≤ b.toInt ∧ c.toInt ≤ 1000 ∧ a.toInt + b.toInt ≤ c.toInt
theorem own_ornn {a b : Int32} (ha : 0 ≤ a.toInt) (hb : 0 ≤ b.toInt) : 0 ≤ (a ||| b).toInt := by
  have e : ∀ x : Int32, 0 ≤ x.toInt ↔ x.toBitVec.msb = false := fun x => by
    show 0 ≤ x.toBitVec.toInt ↔ _
    rw [BitVec.msb_eq_toInt]; simp
  rw [e] at ha hb ⊢
  rw [Int32.toBitVec_or, BitVec.msb_or, ha, hb]; rfl
theorem own_oc1 {a b c : Int32} (h : own_oc a b c) : ¬ ((c ||| a) ||| b) < (0 : Int32) := by
  obtain ⟨h1, h2, h3, h4⟩ := h
  exact own_nn (own_ornn (own_ornn (by omega) h1) h2)
theorem own_oc2 {a b c : Int32} (h : own_oc a b c) : ¬ (c - a) < b := by
  obtain ⟨h1, h2, h3, h4⟩ := h
  have q := c_isub c a
  have r := rng32 (c - a)
  exact own_nlt (by omega)
theorem own_narc (x : Int32) : nar .char x = x.toUInt32.toUInt16.toUInt32.toInt32 := rfl
theorem own_narid {x : Int32} (h : 0 ≤ x.toInt ∧ x.toInt < 65536) : nar .char x = x := by
  have a := c_i2c x
  rw [own_narc]
  exact own_eqI (by omega)
theorem own_nc255' {x : Int32} (h : 0 ≤ x.toInt ∧ x.toInt ≤ 255) : 0 ≤ (nar .char x).toInt ∧ (nar .char x).toInt ≤ 255 := by rw [own_narid (by omega)]; exact h
theorem own_nc255 (x : Int32) : 0 ≤ (nar .char ((x &&& (255 : Int32)).toUInt32.toUInt16.toUInt32.toInt32)).toInt ∧ (nar .char ((x &&& (255 : Int32)).toUInt32.toUInt16.toUInt32.toInt32)).toInt ≤ 255 := by
  have r : (255 : Int32).toInt = 255 := by decide
  have a := c_and x (255 : Int32) (by decide)
  have b := c_i2c (x &&& (255 : Int32))
  exact own_nc255' (by omega)
theorem own_narb (x : Int32) : nar .byte x = x.toInt8.toInt32 := rfl
theorem own_u16 {x : Int32} (h : 0 ≤ x.toInt ∧ x.toInt < 65536) : nar .char ((((own_b0 x &&& (255 : Int32)) <<< ((0 : Int32) &&& 31)) ||| ((own_b1 x &&& (255 : Int32)) <<< ((8 : Int32) &&& 31))).toUInt32.toUInt16.toUInt32.toInt32) = x := by
  have a1 := c_ishr x (0 : Int32) 0 (by decide)
  have a2 := c_i2b (x >>> ((0 : Int32) &&& 31))
  have a3 := c_i2b ((x >>> ((0 : Int32) &&& 31)).toInt8.toInt32)
  have b1 := c_ishr x (8 : Int32) 8 (by decide)
  have b2 := c_i2b (x >>> ((8 : Int32) &&& 31))
  have b3 := c_i2b ((x >>> ((8 : Int32) &&& 31)).toInt8.toInt32)
  have a4 : own_b0 x = ((x >>> ((0 : Int32) &&& 31)).toInt8.toInt32).toInt8.toInt32 := rfl
  have b4 : own_b1 x = ((x >>> ((8 : Int32) &&& 31)).toInt8.toInt32).toInt8.toInt32 := rfl
  rw [← a4] at a3
  rw [← b4] at b3
  have a5 := c_mask (own_b0 x) (255 : Int32) 8 (by decide) (by decide)
  have b5 := c_mask (own_b1 x) (255 : Int32) 8 (by decide) (by decide)
  have a6 := c_ishl (own_b0 x &&& (255 : Int32)) (0 : Int32) 0 (by decide)
  have b6 := c_ishl (own_b1 x &&& (255 : Int32)) (8 : Int32) 8 (by decide)
  have a7 := rng32 ((own_b0 x &&& (255 : Int32)) <<< ((0 : Int32) &&& 31))
  have b7 := rng32 ((own_b1 x &&& (255 : Int32)) <<< ((8 : Int32) &&& 31))
  have c1 := c_or' ((own_b0 x &&& (255 : Int32)) <<< ((0 : Int32) &&& 31)) ((own_b1 x &&& (255 : Int32)) <<< ((8 : Int32) &&& 31)) 8 (by decide) 256 (by decide)
  have c2 := rng32 (((own_b0 x &&& (255 : Int32)) <<< ((0 : Int32) &&& 31)) ||| ((own_b1 x &&& (255 : Int32)) <<< ((8 : Int32) &&& 31)))
  have c3 := c_i2c (((own_b0 x &&& (255 : Int32)) <<< ((0 : Int32) &&& 31)) ||| ((own_b1 x &&& (255 : Int32)) <<< ((8 : Int32) &&& 31)))
  simp only [Nat.reducePow] at a1 a5 a6 b1 b5 b6
  rw [own_narid (by omega)]
  exact own_eqI (by omega)
theorem own_gat0 {u0 u1 u2 p : Int32} (h : own_ch u0 u1 u2) (q : p = 0) : some (Value.int (nar .char ((((own_b0 u0 &&& (255 : Int32)) <<< ((0 : Int32) &&& 31)) ||| ((own_b1 u0 &&& (255 : Int32)) <<< ((8 : Int32) &&& 31))).toUInt32.toUInt16.toUInt32.toInt32))) = some (.int (own_at u0 u1 u2 p)) := by rw [own_u16 h.1, q]; rfl
theorem own_gat1 {u0 u1 u2 p : Int32} (h : own_ch u0 u1 u2) (q : p = 1) : some (Value.int (nar .char ((((own_b0 u1 &&& (255 : Int32)) <<< ((0 : Int32) &&& 31)) ||| ((own_b1 u1 &&& (255 : Int32)) <<< ((8 : Int32) &&& 31))).toUInt32.toUInt16.toUInt32.toInt32))) = some (.int (own_at u0 u1 u2 p)) := by rw [own_u16 h.2.1, q]; rfl
theorem own_gat2 {u0 u1 u2 p : Int32} (h : own_ch u0 u1 u2) (q : p = 2) : some (Value.int (nar .char ((((own_b0 u2 &&& (255 : Int32)) <<< ((0 : Int32) &&& 31)) ||| ((own_b1 u2 &&& (255 : Int32)) <<< ((8 : Int32) &&& 31))).toUInt32.toUInt16.toUInt32.toInt32))) = some (.int (own_at u0 u1 u2 p)) := by rw [own_u16 h.2.2, q]; rfl
theorem own_narat {u0 u1 u2 p : Int32} (h : own_ch u0 u1 u2) : nar .char (own_at u0 u1 u2 p) = own_at u0 u1 u2 p := by
  apply own_narid
  obtain ⟨h0, h1, h2⟩ := h
  unfold own_at
  split
  · exact h0
  · split
    · exact h1
    · exact h2
def own_fw (u0 u1 u2 : Int32) : Int32 := if (255 : Int32) < u0 then 0 else if (255 : Int32) < u1 then 1 else 2
theorem own_w3 {u0 u1 u2 : Int32} (h : ¬ own_w u0 u1 u2 (3 : Int32)) : ¬ (255 : Int32) < u0 ∧ ¬ (255 : Int32) < u1 ∧ ¬ (255 : Int32) < u2 :=
  ⟨fun q => h (Or.inl ⟨by decide, q⟩), fun q => h (Or.inr (Or.inl ⟨by decide, q⟩)), fun q => h (Or.inr (Or.inr ⟨by decide, q⟩))⟩
theorem own_w2 {u0 u1 u2 : Int32} (h : own_w u0 u1 u2 (3 : Int32)) (h0 : ¬ (255 : Int32) < u0) (h1 : ¬ (255 : Int32) < u1) : (255 : Int32) < u2 := h.elim (fun q => absurd q.2 h0) fun q => q.elim (fun q => absurd q.2 h1) fun q => q.2
theorem own_fwI (u0 u1 u2 : Int32) : 0 ≤ (own_fw u0 u1 u2).toInt ∧ (own_fw u0 u1 u2).toInt < 3 := by unfold own_fw; split; decide; split <;> decide
theorem own_fw3 (u0 u1 u2 : Int32) : ¬ own_fw u0 u1 u2 = (3 : Int32) := by unfold own_fw; split; decide; split <;> decide
theorem own_fwat {u0 u1 u2 : Int32} (h : own_w u0 u1 u2 (3 : Int32)) : (255 : Int32) < own_at u0 u1 u2 (own_fw u0 u1 u2) := by
  unfold own_fw
  split
  · rename_i q; exact q
  · split
    · rename_i q; exact q
    · rename_i q r; exact own_w2 h q r
theorem own_012 : (0 : Int32).toInt = 0 ∧ (1 : Int32).toInt = 1 ∧ (2 : Int32).toInt = 2 := by decide
theorem own_ocL {p cap : Int32} (h : 0 ≤ p.toInt ∧ p.toInt + 3 ≤ cap.toInt ∧ cap.toInt ≤ 15) : own_oc p (3 : Int32) cap := by
  have r : (3 : Int32).toInt = 3 := by decide
  unfold own_oc; omega
theorem own_be {p : Int32} (h : 0 ≤ p.toInt ∧ p.toInt < 3) : 0 ≤ p.toInt ∧ p.toInt ≤ (3 : Int32).toInt ∧ (3 : Int32).toInt ≤ (3 : Int32).toInt := by
  have r : (3 : Int32).toInt = 3 := by decide
  omega
theorem own_ocU {p q cap : Int32} (h : 0 ≤ p.toInt ∧ p.toInt < 3) (g : 0 ≤ q.toInt ∧ q.toInt + (3 - p.toInt) ≤ cap.toInt ∧ cap.toInt ≤ 15) : own_oc q ((3 : Int32) - p) cap := by
  have r : (3 : Int32).toInt = 3 := by decide
  have a := c_isub (3 : Int32) p
  have b := rng32 ((3 : Int32) - p)
  unfold own_oc; omega
def own_cap (len n cap : Int32) : Int32 := if cap < len + n then own_max (len + n) (cap * (2 : Int32)) else cap
theorem own_addI {a b : Int32} (h : 0 ≤ a.toInt ∧ a.toInt ≤ 1000 ∧ 0 ≤ b.toInt ∧ b.toInt ≤ 1000) : (a + b).toInt = a.toInt + b.toInt := by
  have q := c_iadd a b
  have r := rng32 (a + b)
  omega
theorem own_subI {a b : Int32} (h : 0 ≤ a.toInt ∧ a.toInt ≤ 1000 ∧ 0 ≤ b.toInt ∧ b.toInt ≤ 1000) : (a - b).toInt = a.toInt - b.toInt := by
  have q := c_isub a b
  have r := rng32 (a - b)
  omega
section OwnApp
variable {len n cap cx : Int32}
theorem own_hg (h : 0 ≤ cap.toInt ∧ cap.toInt ≤ 15 ∧ 0 ≤ len.toInt ∧ len.toInt ≤ 3 ∧ len.toInt ≤ cap.toInt ∧ 0 ≤ n.toInt ∧ n.toInt ≤ 3) (q : cap < len + n) : 0 ≤ cap.toInt ∧ cap.toInt < (len + n).toInt ∧ (len + n).toInt ≤ 6 := by
  rw [Int32.lt_iff_toInt_lt] at q
  have a := own_addI (a := len) (b := n) (by omega)
  omega
theorem own_capI (h : 0 ≤ cap.toInt ∧ cap.toInt ≤ 15 ∧ 0 ≤ len.toInt ∧ len.toInt ≤ 3 ∧ len.toInt ≤ cap.toInt ∧ 0 ≤ n.toInt ∧ n.toInt ≤ 3) (e : cx = own_cap len n cap) : 0 ≤ cx.toInt ∧ cx.toInt ≤ 15 ∧ len.toInt + n.toInt ≤ cx.toInt := by
  have a := own_addI (a := len) (b := n) (by omega)
  subst e
  unfold own_cap
  split
  · rename_i q
    have g := own_hg h q
    have g4 := own_g4 g
    have m := own_maxI (len + n) (cap * (2 : Int32))
    have d := own_dbl (c := cap) (by omega)
    rw [d] at m
    split at m <;> omega
  · rename_i q
    rw [Int32.lt_iff_toInt_lt] at q
    omega
theorem own_s16 (h : 0 ≤ cap.toInt ∧ cap.toInt ≤ 15 ∧ 0 ≤ len.toInt ∧ len.toInt ≤ 3 ∧ len.toInt ≤ cap.toInt ∧ 0 ≤ n.toInt ∧ n.toInt ≤ 3) : ((len.toUInt32 >>> ((16 : Int32) &&& 31).toUInt32).toInt32) = (0 : Int32) := by
  have a := c_iushr len (16 : Int32) 16 (by decide) (by decide)
  simp only [Nat.reducePow] at a
  exact own_eqI (by rw [own_t0]; omega)
theorem own_m16 (h : 0 ≤ cap.toInt ∧ cap.toInt ≤ 15 ∧ 0 ≤ len.toInt ∧ len.toInt ≤ 3 ∧ len.toInt ≤ cap.toInt ∧ 0 ≤ n.toInt ∧ n.toInt ≤ 3) : (len &&& (65535 : Int32)) = len := by
  have a := c_mask len (65535 : Int32) 16 (by decide) (by decide)
  simp only [Nat.reducePow] at a
  exact own_eqI (by omega)
theorem own_f1 (h : 0 ≤ n.toInt) : n.toInt = (0 : Int32).toInt + (n.toNatClampNeg : Int) ∧ 0 ≤ (0 : Int32).toInt := by rw [own_t0, own_natI h]; omega
theorem own_lz (h : 0 ≤ cap.toInt ∧ cap.toInt ≤ 15 ∧ 0 ≤ len.toInt ∧ len.toInt ≤ 3 ∧ len.toInt ≤ cap.toInt ∧ 0 ≤ n.toInt ∧ n.toInt ≤ 3) (q : ¬ (0 : Int32) < n) : len + n = len := by
  rw [Int32.lt_iff_toInt_lt, own_t0] at q
  exact own_eqI (by rw [own_addI (by omega)]; omega)
end OwnApp
section OwnAt
variable {u0 u1 u2 n i : Int32}
theorem own_hP0 : ∀ j : Int32, 0 ≤ j.toInt → j.toInt < (0 : Int32).toInt → ¬ (255 : Int32) < own_at u0 u1 u2 j := fun j h0 h1 => by rw [own_t0] at h1; omega
theorem own_hP (hP : ∀ j : Int32, 0 ≤ j.toInt → j.toInt < i.toInt → ¬ (255 : Int32) < own_at u0 u1 u2 j) (h0 : 0 ≤ i.toInt) (h1 : i.toInt < 1000) (q : ¬ (255 : Int32) < own_at u0 u1 u2 i) : ∀ j : Int32, 0 ≤ j.toInt → j.toInt < (i + (1 : Int32)).toInt → ¬ (255 : Int32) < own_at u0 u1 u2 j := fun j a b => by
  rw [own_inc ⟨h0, h1⟩] at b
  by_cases e : j = i
  · subst e; exact q
  · exact hP j a (by have : j.toInt ≠ i.toInt := fun q => e (own_eqI q); omega)
theorem own_noW (hP : ∀ j : Int32, 0 ≤ j.toInt → j.toInt < i.toInt → ¬ (255 : Int32) < own_at u0 u1 u2 j) (h : n.toInt ≤ i.toInt) : ¬ own_w u0 u1 u2 n := by
  have z := own_012
  intro w
  rcases w with ⟨a, b⟩ | ⟨a, b⟩ | ⟨a, b⟩
  · rw [Int32.lt_iff_toInt_lt] at a; exact hP 0 (by omega) (by omega) b
  · rw [Int32.lt_iff_toInt_lt] at a; exact hP 1 (by omega) (by omega) b
  · rw [Int32.lt_iff_toInt_lt] at a; exact hP 2 (by omega) (by omega) b
theorem own_wpos (h : own_w u0 u1 u2 n) : (0 : Int32) < n := by
  have z := own_012
  rcases h with ⟨a, b⟩ | ⟨a, b⟩ | ⟨a, b⟩ <;> rw [Int32.lt_iff_toInt_lt] at a ⊢ <;> omega
theorem own_cases (h : 0 ≤ i.toInt ∧ i.toInt < 3) : i = 0 ∨ i = 1 ∨ i = 2 := by
  by_cases h0 : i = 0
  · exact Or.inl h0
  · by_cases h1 : i = 1
    · exact Or.inr (Or.inl h1)
    · exact Or.inr (Or.inr (own_two h h0 h1))
theorem own_atget (h : 0 ≤ i.toInt ∧ i.toInt < 3) : ([(.int u0), (.int u1), (.int u2)] : List Value)[i.toNatClampNeg]? = some (.int (own_at u0 u1 u2 i)) := by
  rcases own_cases h with rfl | rfl | rfl <;> rfl
theorem own_nwat (w : ¬ own_w u0 u1 u2 n) (h : 0 ≤ i.toInt ∧ i.toInt < n.toInt ∧ n.toInt ≤ 3) : ¬ (255 : Int32) < own_at u0 u1 u2 i := by
  have z := own_012
  intro q
  apply w
  rcases own_cases (i := i) (by omega) with rfl | rfl | rfl
  · exact Or.inl ⟨own_lt (by omega), q⟩
  · exact Or.inr (Or.inl ⟨own_lt (by omega), q⟩)
  · exact Or.inr (Or.inr ⟨own_lt (by omega), q⟩)
theorem own_le255 (h : 0 ≤ i.toInt ∧ i.toInt ≤ 255) : ¬ (255 : Int32) < i := own_nlt (by have r : (255 : Int32).toInt = 255 := (by decide); omega)
theorem own_fitc (h : 0 ≤ i.toInt ∧ i.toInt < 65536) : fits .char (.int i) = true := by rw [← own_narid h]; exact fits_nar_char i
theorem own_chfit (h : own_ch u0 u1 u2) : ∀ v ∈ ([(.int u0), (.int u1), (.int u2)] : List Value), fits .char v = true := by
  intro v hv
  simp only [List.mem_cons, List.not_mem_nil, or_false] at hv
  rcases hv with rfl | rfl | rfl
  · exact own_fitc h.1
  · exact own_fitc h.2.1
  · exact own_fitc h.2.2
theorem own_acA (h : 0 ≤ i.toInt ∧ i.toInt ≤ n.toInt ∧ n.toInt ≤ 3) : i.toNatClampNeg + (n - i).toNatClampNeg ≤ (3 : Int32).toNatClampNeg := by
  have a := own_subI (a := n) (b := i) (by omega)
  have r : (3 : Int32).toNatClampNeg = 3 := by decide
  rw [r]
  simp only [Int32.toNatClampNeg]
  omega
theorem own_acB {l c : Int32} (h : 0 ≤ i.toInt ∧ i.toInt ≤ n.toInt ∧ n.toInt ≤ 3 ∧ 0 ≤ l.toInt ∧ l.toInt ≤ 3 ∧ l.toInt + n.toInt ≤ c.toInt) : (l + i).toNatClampNeg + (n - i).toNatClampNeg ≤ c.toNatClampNeg := by
  have a := own_subI (a := n) (b := i) (by omega)
  have b := own_addI (a := l) (b := i) (by omega)
  simp only [Int32.toNatClampNeg]
  omega
theorem own_hpU {l c : Int32} (h : 0 ≤ i.toInt ∧ i.toInt < 3 ∧ 0 ≤ l.toInt ∧ l.toInt ≤ 3 ∧ l.toInt + (3 : Int32).toInt ≤ c.toInt ∧ c.toInt ≤ 15) : 0 ≤ (l + i).toInt ∧ (l + i).toInt + (3 - i.toInt) ≤ c.toInt ∧ c.toInt ≤ 15 := by
  have b := own_addI (a := l) (b := i) (by omega)
  have r : (3 : Int32).toInt = 3 := by decide
  omega
theorem own_hpL {l c : Int32} (h : 0 ≤ l.toInt ∧ l.toInt ≤ 3 ∧ l.toInt + (3 : Int32).toInt ≤ c.toInt ∧ c.toInt ≤ 15) : 0 ≤ (l + (0 : Int32)).toInt ∧ (l + (0 : Int32)).toInt + 3 ≤ c.toInt ∧ c.toInt ≤ 15 := by
  have b := own_addI (a := l) (b := (0 : Int32)) (by rw [own_t0]; omega)
  have r : (3 : Int32).toInt = 3 := by decide
  rw [own_t0] at b
  omega
end OwnAt
def own_sz (w c : Int32) : Int64 := if w = 0 then (0 : Int64) + c.toInt64 else (0 : Int64) + (2 : Int64) * c.toInt64
theorem own_3 : (3 : Int32).toInt = 3 := by decide
theorem own_chI {u0 u1 u2 : Int32} (h0 : 0 ≤ u0.toInt ∧ u0.toInt < 65536) (h1 : 0 ≤ u1.toInt ∧ u1.toInt < 65536) (h2 : 0 ≤ u2.toInt ∧ u2.toInt < 65536) : own_ch u0 u1 u2 := by unfold own_ch; exact ⟨h0, h1, h2⟩
theorem own_anyE1 {u0 u1 u2 n : Int32} (h : own_w u0 u1 u2 n) : own_any u0 u1 u2 n = 1 := if_pos h
theorem own_anyE0 {u0 u1 u2 n : Int32} (h : ¬ own_w u0 u1 u2 n) : own_any u0 u1 u2 n = 0 := if_neg h
theorem own_any1 {u0 u1 u2 n : Int32} (h : own_w u0 u1 u2 n) : ¬ own_any u0 u1 u2 n = (0 : Int32) := by rw [own_anyE1 h]; decide
theorem own_and15 (p : Int32) : 0 ≤ (p &&& (15 : Int32)).toInt ∧ (p &&& (15 : Int32)).toInt ≤ 15 := by
  have a := c_and p (15 : Int32) (by decide)
  have r : (15 : Int32).toInt = 15 := by decide
  omega
theorem own_and3 (p : Int32) : 0 ≤ (p &&& (3 : Int32)).toInt ∧ (p &&& (3 : Int32)).toInt ≤ 3 := by
  have a := c_and p (3 : Int32) (by decide)
  have r : (3 : Int32).toInt = 3 := by decide
  omega

theorem ef_8 (m : MethodId) (x0 : Int32) (x1 : Int32) : entryFrame m #[(.int x0), (.int x1)] 2 = mkF m 0 #[.val (.int x0), .val (.int x1)] [] := by first | (simp [entryFrame, mkF, argsToLocals, Value.category]; done) | rfl
set_option maxRecDepth 65536
set_option maxHeartbeats 40000000
abbrev oM (l : Launch) (y : MethodName) (cd : ByteArray) (ml : Nat) (rt : Option FieldType) (ws : List Jvm.Cond) (R : Room) (A : Array Value) (Z : State) (h0 : Heap) (Q : Option Value → Heap → List Loc → Prop) : Prop := MetFree l y (head1 (Jvm.Cond.code y cd ml rt :: ws) R) (fun a U => a = A ∧ Z.Warmed39 U.vm ∧ U.heap = h0) (fun _ _ _ _ _ => True) (fun _ U o U' => ∃ v L, o = .returned v ∧ Q v U'.heap L ∧ FrameEnd U o U' L R.cells R.slots)
abbrev Dc8 (i : Nat) (c : Instr) (k : Nat) : Prop := decode jdk_29_method_69_code i = .ok (c, k)
theorem d8_0 : Dc8 0 (.iload_n 0) 1 := by decide +kernel
theorem d8_1 : Dc8 1 (.iload_n 1) 1 := by decide +kernel
theorem d8_2 : Dc8 2 (.if_icmp .gt 7) 3 := by decide +kernel
theorem d8_9 : Dc8 9 (.iload_n 1) 1 := by decide +kernel
theorem d8_10 : Dc8 10 (.ireturn) 1 := by decide +kernel
theorem d8_5 : Dc8 5 (.iload_n 0) 1 := by decide +kernel
theorem d8_6 : Dc8 6 (.goto 4) 3 := by decide +kernel
def Q_min (Z : State) (p1 : Int32) (p2 : Int32) (h0 : Heap) (n0 : Nat) (v : Option Value) (h : Heap) (L : List Loc) : Prop := v = some (.int (own_min p1 p2)) ∧ Fr n0 L ∧ h = h0
theorem rm_min (l : Launch) (Z : State) (a0 : Array Value) (hw : ∀ d ∈ tables_1, d.before a0 Z = true) (ws : List Jvm.Cond) (p1 : Int32) (p2 : Int32) (h0 : Heap) (n0 : Nat) (Z0 : n0 ≤ h0.size) :
    oM l mN0 jdk_29_method_69_code 2 (some .int) ws ({ frames := 0, cells := 0, slots := 0, locals := 0 } : Room) #[(.int p1), (.int p2)] Z h0 (Q_min Z p1 p2 h0 n0) := by
  refine MetFree.of_bodySF (Jvm.Free.JP.mathPlain rfl (by decide +kernel)) hisR ?_
  intro p e s m args below meth c s₁ Bd hml0 hP hK
  obtain ⟨rfl, hZ, hh⟩ := hP
  have hx := Bd.exec
  have hby := Bd.bytes
  have hml : c.maxLocals = 2 := hml0
  have hown : s.vm.findClass "java/lang/Math" = some m.cls := findClass_of_methodNamed Bd.named
  have hnm := (name_of_methodNamed Bd.named Bd.method).1
  have X0 : Stand p l e ({ frames := 0, cells := 0, slots := 0, locals := 0 } : Room) s m #[(.int p1), (.int p2)] below meth c s₁ [] 0 0 := Stand.of_body Bd
  have e0 : s₁.heap = h0 := by rw [← hh, Bd.state]; rfl
  have N0 := Fr.nil n0
  obtain ⟨A0, hA0⟩ : ∃ z, z = s₁.setTop (entryFrame m #[(.int p1), (.int p2)] 2) := ⟨_, rfl⟩
  have K : OGo p e below A0 s₁ (mkF m 0 #[iv p1, iv p2] []) := fun t k => hA0 ▸ castTop (ef_8 m p1 p2) k
  by_cases hc2 : p2 < p1
  · replace K : OGo p e below A0 s₁ (mkF m 10 #[iv p1, iv p2] [(.int p2)]) := fun t k => K t (XS.iloadN X0.here hx rfl (hb hby d8_0) rfl (XS.iloadN X0.here hx rfl (hb hby d8_1) rfl (XS.icmpYes X0.here hx rfl (pc0 := 2) (pc' := 9) rfl (hb hby d8_2) rfl (tlt hc2).2.2.1 (by decide) (by decide) (XS.iloadN X0.here hx rfl (hb hby d8_9) rfl k))))
    obtain ⟨fs, hr, hrun, hended, hW, hsame⟩ := X0.leave (v := some (.int p2)) (fun h => by rw [Bd.returns] at h; cases h)
    subst hA0
    refine ⟨_, _, K _ (retOut X0 hx Bd.returns rfl (Or.inl ⟨rfl, Or.inl rfl, _, rfl⟩) (hb hby d8_10) hr), hrun, hended, _, _, rfl, ?_, ⟨_, rfl⟩, hW, hsame.mono (by decide) (by decide)⟩
    show Q_min Z p1 p2 h0 n0 _ s₁.heap _
    rw [e0]
    exact ⟨(by simp [own_min, hc2]), N0, rfl⟩
  · replace K : OGo p e below A0 s₁ (mkF m 10 #[iv p1, iv p2] [(.int p1)]) := fun t k => K t (XS.iloadN X0.here hx rfl (hb hby d8_0) rfl (XS.iloadN X0.here hx rfl (hb hby d8_1) rfl (XS.icmpNo X0.here hx rfl (hb hby d8_2) rfl (flt hc2).2.2.1 (XS.iloadN X0.here hx rfl (hb hby d8_5) rfl (XS.goto X0.here hx rfl (pc0 := 6) (pc' := 10) rfl (hb hby d8_6) (by decide) (by decide) k)))))
    obtain ⟨fs, hr, hrun, hended, hW, hsame⟩ := X0.leave (v := some (.int p1)) (fun h => by rw [Bd.returns] at h; cases h)
    subst hA0
    refine ⟨_, _, K _ (retOut X0 hx Bd.returns rfl (Or.inl ⟨rfl, Or.inl rfl, _, rfl⟩) (hb hby d8_10) hr), hrun, hended, _, _, rfl, ?_, ⟨_, rfl⟩, hW, hsame.mono (by decide) (by decide)⟩
    show Q_min Z p1 p2 h0 n0 _ s₁.heap _
    rw [e0]
    exact ⟨(by simp [own_min, hc2]), N0, rfl⟩
theorem ef_7 (m : MethodId) (x0 : Int32) (x1 : Int32) : entryFrame m #[(.int x0), (.int x1)] 2 = mkF m 0 #[.val (.int x0), .val (.int x1)] [] := by first | (simp [entryFrame, mkF, argsToLocals, Value.category]; done) | rfl
abbrev Dc7 (i : Nat) (c : Instr) (k : Nat) : Prop := decode jdk_29_method_65_code i = .ok (c, k)
theorem d7_0 : Dc7 0 (.iload_n 0) 1 := by decide +kernel
theorem d7_1 : Dc7 1 (.iload_n 1) 1 := by decide +kernel
theorem d7_2 : Dc7 2 (.if_icmp .lt 7) 3 := by decide +kernel
theorem d7_9 : Dc7 9 (.iload_n 1) 1 := by decide +kernel
theorem d7_10 : Dc7 10 (.ireturn) 1 := by decide +kernel
theorem d7_5 : Dc7 5 (.iload_n 0) 1 := by decide +kernel
theorem d7_6 : Dc7 6 (.goto 4) 3 := by decide +kernel
def Q_max (Z : State) (p1 : Int32) (p2 : Int32) (h0 : Heap) (n0 : Nat) (v : Option Value) (h : Heap) (L : List Loc) : Prop := v = some (.int (own_max p1 p2)) ∧ Fr n0 L ∧ h = h0
theorem rm_max (l : Launch) (Z : State) (a0 : Array Value) (hw : ∀ d ∈ tables_1, d.before a0 Z = true) (ws : List Jvm.Cond) (p1 : Int32) (p2 : Int32) (h0 : Heap) (n0 : Nat) (Z0 : n0 ≤ h0.size) :
    oM l mN1 jdk_29_method_65_code 2 (some .int) ws ({ frames := 0, cells := 0, slots := 0, locals := 0 } : Room) #[(.int p1), (.int p2)] Z h0 (Q_max Z p1 p2 h0 n0) := by
  refine MetFree.of_bodySF (Jvm.Free.JP.mathPlain rfl (by decide +kernel)) hisR ?_
  intro p e s m args below meth c s₁ Bd hml0 hP hK
  obtain ⟨rfl, hZ, hh⟩ := hP
  have hx := Bd.exec
  have hby := Bd.bytes
  have hml : c.maxLocals = 2 := hml0
  have hown : s.vm.findClass "java/lang/Math" = some m.cls := findClass_of_methodNamed Bd.named
  have hnm := (name_of_methodNamed Bd.named Bd.method).1
  have X0 : Stand p l e ({ frames := 0, cells := 0, slots := 0, locals := 0 } : Room) s m #[(.int p1), (.int p2)] below meth c s₁ [] 0 0 := Stand.of_body Bd
  have e0 : s₁.heap = h0 := by rw [← hh, Bd.state]; rfl
  have N0 := Fr.nil n0
  obtain ⟨A0, hA0⟩ : ∃ z, z = s₁.setTop (entryFrame m #[(.int p1), (.int p2)] 2) := ⟨_, rfl⟩
  have K : OGo p e below A0 s₁ (mkF m 0 #[iv p1, iv p2] []) := fun t k => hA0 ▸ castTop (ef_7 m p1 p2) k
  by_cases hc2 : p1 < p2
  · replace K : OGo p e below A0 s₁ (mkF m 10 #[iv p1, iv p2] [(.int p2)]) := fun t k => K t (XS.iloadN X0.here hx rfl (hb hby d7_0) rfl (XS.iloadN X0.here hx rfl (hb hby d7_1) rfl (XS.icmpYes X0.here hx rfl (pc0 := 2) (pc' := 9) rfl (hb hby d7_2) rfl (tlt hc2).1 (by decide) (by decide) (XS.iloadN X0.here hx rfl (hb hby d7_9) rfl k))))
    obtain ⟨fs, hr, hrun, hended, hW, hsame⟩ := X0.leave (v := some (.int p2)) (fun h => by rw [Bd.returns] at h; cases h)
    subst hA0
    refine ⟨_, _, K _ (retOut X0 hx Bd.returns rfl (Or.inl ⟨rfl, Or.inl rfl, _, rfl⟩) (hb hby d7_10) hr), hrun, hended, _, _, rfl, ?_, ⟨_, rfl⟩, hW, hsame.mono (by decide) (by decide)⟩
    show Q_max Z p1 p2 h0 n0 _ s₁.heap _
    rw [e0]
    exact ⟨(by simp [own_max, hc2]), N0, rfl⟩
  · replace K : OGo p e below A0 s₁ (mkF m 10 #[iv p1, iv p2] [(.int p1)]) := fun t k => K t (XS.iloadN X0.here hx rfl (hb hby d7_0) rfl (XS.iloadN X0.here hx rfl (hb hby d7_1) rfl (XS.icmpNo X0.here hx rfl (hb hby d7_2) rfl (flt hc2).1 (XS.iloadN X0.here hx rfl (hb hby d7_5) rfl (XS.goto X0.here hx rfl (pc0 := 6) (pc' := 10) rfl (hb hby d7_6) (by decide) (by decide) k)))))
    obtain ⟨fs, hr, hrun, hended, hW, hsame⟩ := X0.leave (v := some (.int p1)) (fun h => by rw [Bd.returns] at h; cases h)
    subst hA0
    refine ⟨_, _, K _ (retOut X0 hx Bd.returns rfl (Or.inl ⟨rfl, Or.inl rfl, _, rfl⟩) (hb hby d7_10) hr), hrun, hended, _, _, rfl, ?_, ⟨_, rfl⟩, hW, hsame.mono (by decide) (by decide)⟩
    show Q_max Z p1 p2 h0 n0 _ s₁.heap _
    rw [e0]
    exact ⟨(by simp [own_max, hc2]), N0, rfl⟩
theorem pn_java_util_Arrays : plainName "java/util/Arrays" = true := by first | (simp [plainName, overriddenIn]; done) | decide +kernel
theorem ef_9 (m : MethodId) (x0 : Addr) (x1 : Int32) : entryFrame m #[(.ref x0), (.int x1)] 3 = mkF m 0 #[.val (.ref x0), .val (.int x1), .unset] [] := by first | (simp [entryFrame, mkF, argsToLocals, Value.category]; done) | rfl
abbrev Dc9 (i : Nat) (c : Instr) (k : Nat) : Prop := decode jdk_65_method_121_code i = .ok (c, k)
theorem d9_0 : Dc9 0 (.iload_n 1) 1 := by decide +kernel
theorem d9_1 : Dc9 1 (.aload_n 0) 1 := by decide +kernel
theorem d9_2 : Dc9 2 (.arraylength) 1 := by decide +kernel
theorem d9_3 : Dc9 3 (.if_icmp .ne 11) 3 := by decide +kernel
theorem d9_14 : Dc9 14 (.iload_n 1) 1 := by decide +kernel
theorem d9_15 : Dc9 15 (.newarray .byte) 2 := by decide +kernel
theorem d9_17 : Dc9 17 (.astore_n 2) 1 := by decide +kernel
theorem d9_18 : Dc9 18 (.aload_n 0) 1 := by decide +kernel
theorem d9_19 : Dc9 19 (.iconst 0) 1 := by decide +kernel
theorem d9_20 : Dc9 20 (.aload_n 2) 1 := by decide +kernel
theorem d9_21 : Dc9 21 (.iconst 0) 1 := by decide +kernel
theorem d9_22 : Dc9 22 (.aload_n 0) 1 := by decide +kernel
theorem d9_23 : Dc9 23 (.arraylength) 1 := by decide +kernel
theorem d9_24 : Dc9 24 (.iload_n 1) 1 := by decide +kernel
theorem d9_25 : Dc9 25 (.invokestatic 304) 3 := by decide +kernel
theorem pd__II_I : parseMethodDescriptor "(II)I" = some ⟨[.int, .int], some .int⟩ := by decide +kernel
theorem d9_28 : Dc9 28 (.invokestatic 150) 3 := by decide +kernel
theorem d9_31 : Dc9 31 (.aload_n 2) 1 := by decide +kernel
theorem d9_32 : Dc9 32 (.areturn) 1 := by decide +kernel
def Q_copyB (Z : State) (a1 : Addr) (p1 : Int32) (k1 : ClassId) (z : Int32) (h0 : Heap) (n0 : Nat) (v : Option Value) (h : Heap) (L : List Loc) : Prop := ∃ (b : Addr) (kb : ClassId), v = some (.ref b) ∧ Fr n0 L ∧ Keep h0 h [] ∧ h0.size ≤ b ∧ Exa Z h b "[B" ∧ OPg Z h b kb .byte p1
theorem rm_copyB (l : Launch) (Z : State) (a0 : Array Value) (hw : ∀ d ∈ tables_1, d.before a0 Z = true) (ws : List Jvm.Cond) (a1 : Addr) (p1 : Int32) (k1 : ClassId) (z : Int32) (h0 : Heap) (n0 : Nat) (Z0 : n0 ≤ h0.size) (G_a1 : OPg Z h0 a1 k1 .byte z) (hz : 0 ≤ z.toInt ∧ z.toInt < p1.toInt ∧ p1.toInt ≤ 15) :
    oM l mN2 jdk_65_method_121_code 3 (some (.array .byte)) ws ({ frames := 1, cells := 1, slots := 15, locals := 20 } : Room) #[(.ref a1), (.int p1)] Z h0 (Q_copyB Z a1 p1 k1 z h0 n0) := by
  refine MetFree.of_bodySF (plainFor_of_name pn_java_util_Arrays) hisR ?_
  intro p e s m args below meth c s₁ Bd hml0 hP hK
  obtain ⟨rfl, hZ, hh⟩ := hP
  have hx := Bd.exec
  have hby := Bd.bytes
  have hml : c.maxLocals = 3 := hml0
  have hown : s.vm.findClass "java/util/Arrays" = some m.cls := findClass_of_methodNamed Bd.named
  have hnm := (name_of_methodNamed Bd.named Bd.method).1
  have X0 : Stand p l e ({ frames := 1, cells := 1, slots := 15, locals := 20 } : Room) s m #[(.ref a1), (.int p1)] below meth c s₁ [] 0 0 := Stand.of_body Bd
  have e0 : s₁.heap = h0 := by rw [← hh, Bd.state]; rfl
  have N0 := Fr.nil n0
  obtain ⟨A0, hA0⟩ : ∃ z, z = s₁.setTop (entryFrame m #[(.ref a1), (.int p1)] 3) := ⟨_, rfl⟩
  have K : OGo p e below A0 s₁ (mkF m 0 #[rv a1, iv p1, .unset] []) := fun t k => hA0 ▸ castTop (ef_9 m a1 p1) k
  obtain ⟨T1, h1, k1, X1, e1, E1, A1, Q1, st1⟩ := newPE X0 hx hZ (ow hw 12 rfl) e0 (g := (mkF m 15 #[rv a1, iv p1, .unset] [(.int p1)])) rfl (hb hby d9_15) rfl (own_nn (by omega)) (cap := 15) (own_nle (by omega)) (by decide) (by decide) (by decide) (ad := "[B") (by decide)
  obtain ⟨b1, gz1⟩ : ∃ z, z = h0.size := ⟨_, rfl⟩
  rw [← gz1] at A1 Q1 st1
  have ne_a1_b1 : a1 ≠ b1 := Nat.ne_of_lt (Nat.lt_of_lt_of_le G_a1.lt (Nat.le_of_eq gz1.symm))
  have g_b1 : n0 ≤ b1 := Nat.le_trans Z0 (Nat.le_of_eq gz1.symm)
  have sz_b1 : h0.size ≤ b1 := Nat.le_trans (Keep.refl h0 []).1 (Nat.le_of_eq gz1.symm)
  have Z1 : n0 ≤ h1.size := Nat.le_trans Z0 E1.1
  have Kp1 : Keep h0 h1 [] := (Keep.refl h0 []).ext E1
  have G_b1 : OPg Z h1 b1 k1 .byte p1 := OPg.new A1 (own_nn (by omega)) rfl
  have G_a1_2 := (G_a1.ext E1)
  obtain ⟨_, _, ⟨T3, L3, k3, n3⟩, -, X3, ⟨Lc3, hQ3, l3, y3, z3⟩, st3⟩ := Jvm.LawKit.callS X1 hx (y := mN0) hown (mvT hZ (ow hw 57 rfl)) (mvT hZ (ow hw 51 rfl)) (mvT hZ (ow hw 48 rfl)) (mvT hZ (ow hw 52 rfl)) (by decide) (backOf (W := 4) (rm_min l Z a0 hw [] z p1 h1 n0 Z1 ) hZ (ow hw 52 rfl) (ow hw 48 rfl) (by decide) (by decide)) (g := (mkF m 25 #[rv a1, iv p1, rv b1] [(.int p1), (.int z), (.int 0), (.ref b1), (.int 0), (.ref a1)])) rfl (by rw [hml]; rfl) (argsL := [(.int z), (.int p1)]) (rest := [(.int (0 : Int32)), (.ref b1), (.int (0 : Int32)), (.ref a1)]) (lenOf pd__II_I rfl) rfl (by show 2 * 0 + _ ≤ _; exact Nat.le_of_eq rfl) (hb hby d9_25) (fun _ _ => ⟨rfl, e1, (by decide : 1 + 0 ≤ _), (by decide : 15 + 0 ≤ _)⟩)
  dsimp only [Pt.U, Pt.locs, Pt.cells, Pt.slots] at X3 l3 y3 z3 st3 hQ3
  subst l3 y3 z3
  obtain ⟨rfl, Nq3, e3⟩ := hQ3
  have N3 := Fr.app N0 Nq3
  replace K : OGo p e below A0 T3 (mkF m 28 #[rv a1, iv p1, rv b1] [(.int (own_min z p1)), (.int 0), (.ref b1), (.int 0), (.ref a1)]) := fun t k => K t (XS.iloadN X0.here hx rfl (hb hby d9_0) rfl (XS.aloadN X0.here hx rfl (hb hby d9_1) rfl rfl (own_lenP X0 hx hZ e0 G_a1 (g := (mkF m 2 #[rv a1, iv p1, .unset] [(.ref a1), (.int p1)])) rfl rfl (hb hby d9_2) t (XS.icmpYes X0.here hx rfl (pc0 := 3) (pc' := 14) rfl (hb hby d9_3) rfl (feq ((own_neI (by omega)) : ¬ (p1 = z))).2 (by decide) (by decide) (XS.iloadN X0.here hx rfl (hb hby d9_14) rfl (st1 t (XS.astoreN X1.here hx rfl (hb hby d9_17) rfl rfl (l' := #[rv a1, iv p1, rv b1]) rfl (XS.aloadN X1.here hx rfl (hb hby d9_18) rfl rfl (XS.iconst X1.here hx rfl (hb hby d9_19) (XS.aloadN X1.here hx rfl (hb hby d9_20) rfl rfl (XS.iconst X1.here hx rfl (hb hby d9_21) (XS.aloadN X1.here hx rfl (hb hby d9_22) rfl rfl (own_lenP X1 hx hZ e1 G_a1_2 (g := (mkF m 23 #[rv a1, iv p1, rv b1] [(.ref a1), (.int 0), (.ref b1), (.int 0), (.ref a1)])) rfl rfl (hb hby d9_23) t (XS.iloadN X1.here hx rfl (hb hby d9_24) rfl (st3 t k)))))))))))))))
  rw [show (own_min z p1) = z from own_minl (by omega)] at K
  obtain ⟨T4, h4, L4, X4, e4, N4, K4, G4, st4⟩ := own_cpP X3 hx hZ hown (ow hw 58 rfl) (ow hw 61 rfl) (ow hw 59 rfl) (ow hw 60 rfl) e3 G_a1_2 G_b1 rfl (sp := (0 : Int32)) (dp := (0 : Int32)) (nn := z) (by decide) (by decide) (own_nn (by omega)) (own_z0 (by omega)) (own_z0 (by omega)) N3 g_b1 (g := (mkF m 28 #[rv a1, iv p1, rv b1] [(.int z), (.int 0), (.ref b1), (.int 0), (.ref a1)])) rfl (by rw [hml]; rfl) rfl (hb hby d9_28) (by decide) (W := 0) (by show 2 * 0 + _ ≤ _; exact Nat.le_of_eq rfl) (by decide)
  have Z4 : n0 ≤ h4.size := Nat.le_trans Z1 K4.1
  have Kp4 : Keep h0 h4 [] := Kp1.trans K4 (allS (Or.inr sz_b1) all0)
  replace K : OGo p e below A0 T4 (mkF m 32 #[rv a1, iv p1, rv b1] [(.ref b1)]) := fun t k => K t (st4 t (XS.aloadN X4.here hx rfl (hb hby d9_31) rfl rfl k))
  have Q1_5 := (Q1.keep K4)
  obtain ⟨fs, hr, hrun, hended, hW, hsame⟩ := X4.leave (v := some (.ref b1)) (fun h => by rw [Bd.returns] at h; cases h)
  subst hA0
  refine ⟨_, _, K _ (retOut X4 hx Bd.returns rfl (Or.inr (Or.inr (Or.inr (Or.inr ⟨rfl, rfl, rfl⟩)))) (hb hby d9_32) hr), hrun, hended, _, _, rfl, ?_, ⟨_, rfl⟩, hW, hsame.mono (by decide) (by decide)⟩
  show Q_copyB Z a1 p1 k1 z h0 n0 _ T4.heap _
  rw [e4]
  exact ⟨b1, k1, rfl, N4, Kp4, sz_b1, Q1_5, G4⟩
theorem ef_39 (m : MethodId) (x0 : Addr) (x1 : Int32) : entryFrame m #[(.ref x0), (.int x1)] 3 = mkF m 0 #[.val (.ref x0), .val (.int x1), .unset] [] := by first | (simp [entryFrame, mkF, argsToLocals, Value.category]; done) | rfl
abbrev Dc39 (i : Nat) (c : Instr) (k : Nat) : Prop := decode jdk_65_method_125_code i = .ok (c, k)
theorem d39_0 : Dc39 0 (.iload_n 1) 1 := by decide +kernel
theorem d39_1 : Dc39 1 (.aload_n 0) 1 := by decide +kernel
theorem d39_2 : Dc39 2 (.arraylength) 1 := by decide +kernel
theorem d39_3 : Dc39 3 (.if_icmp .ne 11) 3 := by decide +kernel
theorem d39_14 : Dc39 14 (.iload_n 1) 1 := by decide +kernel
theorem d39_15 : Dc39 15 (.newarray .char) 2 := by decide +kernel
theorem d39_17 : Dc39 17 (.astore_n 2) 1 := by decide +kernel
theorem d39_18 : Dc39 18 (.aload_n 0) 1 := by decide +kernel
theorem d39_19 : Dc39 19 (.iconst 0) 1 := by decide +kernel
theorem d39_20 : Dc39 20 (.aload_n 2) 1 := by decide +kernel
theorem d39_21 : Dc39 21 (.iconst 0) 1 := by decide +kernel
theorem d39_22 : Dc39 22 (.aload_n 0) 1 := by decide +kernel
theorem d39_23 : Dc39 23 (.arraylength) 1 := by decide +kernel
theorem d39_24 : Dc39 24 (.iload_n 1) 1 := by decide +kernel
theorem d39_25 : Dc39 25 (.invokestatic 304) 3 := by decide +kernel
theorem d39_28 : Dc39 28 (.invokestatic 150) 3 := by decide +kernel
theorem d39_31 : Dc39 31 (.aload_n 2) 1 := by decide +kernel
theorem d39_32 : Dc39 32 (.areturn) 1 := by decide +kernel
def Q_copyC (Z : State) (a1 : Addr) (p1 : Int32) (k1 : ClassId) (z : Int32) (h0 : Heap) (n0 : Nat) (v : Option Value) (h : Heap) (L : List Loc) : Prop := ∃ (b : Addr) (kb : ClassId), v = some (.ref b) ∧ Fr n0 L ∧ Keep h0 h [] ∧ h0.size ≤ b ∧ Exa Z h b "[C" ∧ OPg Z h b kb .char p1
theorem rm_copyC (l : Launch) (Z : State) (a0 : Array Value) (hw : ∀ d ∈ tables_1, d.before a0 Z = true) (ws : List Jvm.Cond) (a1 : Addr) (p1 : Int32) (k1 : ClassId) (z : Int32) (h0 : Heap) (n0 : Nat) (Z0 : n0 ≤ h0.size) (G_a1 : OPg Z h0 a1 k1 .char z) (hz : 0 ≤ z.toInt ∧ z.toInt < p1.toInt ∧ p1.toInt ≤ 15) :
    oM l mN3 jdk_65_method_125_code 3 (some (.array .char)) ws ({ frames := 1, cells := 1, slots := 15, locals := 20 } : Room) #[(.ref a1), (.int p1)] Z h0 (Q_copyC Z a1 p1 k1 z h0 n0) := by
  refine MetFree.of_bodySF (plainFor_of_name pn_java_util_Arrays) hisR ?_
  intro p e s m args below meth c s₁ Bd hml0 hP hK
  obtain ⟨rfl, hZ, hh⟩ := hP
  have hx := Bd.exec
  have hby := Bd.bytes
  have hml : c.maxLocals = 3 := hml0
  have hown : s.vm.findClass "java/util/Arrays" = some m.cls := findClass_of_methodNamed Bd.named
  have hnm := (name_of_methodNamed Bd.named Bd.method).1
  have X0 : Stand p l e ({ frames := 1, cells := 1, slots := 15, locals := 20 } : Room) s m #[(.ref a1), (.int p1)] below meth c s₁ [] 0 0 := Stand.of_body Bd
  have e0 : s₁.heap = h0 := by rw [← hh, Bd.state]; rfl
  have N0 := Fr.nil n0
  obtain ⟨A0, hA0⟩ : ∃ z, z = s₁.setTop (entryFrame m #[(.ref a1), (.int p1)] 3) := ⟨_, rfl⟩
  have K : OGo p e below A0 s₁ (mkF m 0 #[rv a1, iv p1, .unset] []) := fun t k => hA0 ▸ castTop (ef_39 m a1 p1) k
  obtain ⟨T1, h1, k1, X1, e1, E1, A1, Q1, st1⟩ := newPE X0 hx hZ (ow hw 0 rfl) e0 (g := (mkF m 15 #[rv a1, iv p1, .unset] [(.int p1)])) rfl (hb hby d39_15) rfl (own_nn (by omega)) (cap := 15) (own_nle (by omega)) (by decide) (by decide) (by decide) (ad := "[C") (by decide)
  obtain ⟨b1, gz1⟩ : ∃ z, z = h0.size := ⟨_, rfl⟩
  rw [← gz1] at A1 Q1 st1
  have ne_a1_b1 : a1 ≠ b1 := Nat.ne_of_lt (Nat.lt_of_lt_of_le G_a1.lt (Nat.le_of_eq gz1.symm))
  have g_b1 : n0 ≤ b1 := Nat.le_trans Z0 (Nat.le_of_eq gz1.symm)
  have sz_b1 : h0.size ≤ b1 := Nat.le_trans (Keep.refl h0 []).1 (Nat.le_of_eq gz1.symm)
  have Z1 : n0 ≤ h1.size := Nat.le_trans Z0 E1.1
  have Kp1 : Keep h0 h1 [] := (Keep.refl h0 []).ext E1
  have G_b1 : OPg Z h1 b1 k1 .char p1 := OPg.new A1 (own_nn (by omega)) rfl
  have G_a1_2 := (G_a1.ext E1)
  obtain ⟨_, _, ⟨T3, L3, k3, n3⟩, -, X3, ⟨Lc3, hQ3, l3, y3, z3⟩, st3⟩ := Jvm.LawKit.callS X1 hx (y := mN0) hown (mvT hZ (ow hw 57 rfl)) (mvT hZ (ow hw 51 rfl)) (mvT hZ (ow hw 48 rfl)) (mvT hZ (ow hw 52 rfl)) (by decide) (backOf (W := 4) (rm_min l Z a0 hw [] z p1 h1 n0 Z1 ) hZ (ow hw 52 rfl) (ow hw 48 rfl) (by decide) (by decide)) (g := (mkF m 25 #[rv a1, iv p1, rv b1] [(.int p1), (.int z), (.int 0), (.ref b1), (.int 0), (.ref a1)])) rfl (by rw [hml]; rfl) (argsL := [(.int z), (.int p1)]) (rest := [(.int (0 : Int32)), (.ref b1), (.int (0 : Int32)), (.ref a1)]) (lenOf pd__II_I rfl) rfl (by show 2 * 0 + _ ≤ _; exact Nat.le_of_eq rfl) (hb hby d39_25) (fun _ _ => ⟨rfl, e1, (by decide : 1 + 0 ≤ _), (by decide : 15 + 0 ≤ _)⟩)
  dsimp only [Pt.U, Pt.locs, Pt.cells, Pt.slots] at X3 l3 y3 z3 st3 hQ3
  subst l3 y3 z3
  obtain ⟨rfl, Nq3, e3⟩ := hQ3
  have N3 := Fr.app N0 Nq3
  replace K : OGo p e below A0 T3 (mkF m 28 #[rv a1, iv p1, rv b1] [(.int (own_min z p1)), (.int 0), (.ref b1), (.int 0), (.ref a1)]) := fun t k => K t (XS.iloadN X0.here hx rfl (hb hby d39_0) rfl (XS.aloadN X0.here hx rfl (hb hby d39_1) rfl rfl (own_lenP X0 hx hZ e0 G_a1 (g := (mkF m 2 #[rv a1, iv p1, .unset] [(.ref a1), (.int p1)])) rfl rfl (hb hby d39_2) t (XS.icmpYes X0.here hx rfl (pc0 := 3) (pc' := 14) rfl (hb hby d39_3) rfl (feq ((own_neI (by omega)) : ¬ (p1 = z))).2 (by decide) (by decide) (XS.iloadN X0.here hx rfl (hb hby d39_14) rfl (st1 t (XS.astoreN X1.here hx rfl (hb hby d39_17) rfl rfl (l' := #[rv a1, iv p1, rv b1]) rfl (XS.aloadN X1.here hx rfl (hb hby d39_18) rfl rfl (XS.iconst X1.here hx rfl (hb hby d39_19) (XS.aloadN X1.here hx rfl (hb hby d39_20) rfl rfl (XS.iconst X1.here hx rfl (hb hby d39_21) (XS.aloadN X1.here hx rfl (hb hby d39_22) rfl rfl (own_lenP X1 hx hZ e1 G_a1_2 (g := (mkF m 23 #[rv a1, iv p1, rv b1] [(.ref a1), (.int 0), (.ref b1), (.int 0), (.ref a1)])) rfl rfl (hb hby d39_23) t (XS.iloadN X1.here hx rfl (hb hby d39_24) rfl (st3 t k)))))))))))))))
  rw [show (own_min z p1) = z from own_minl (by omega)] at K
  obtain ⟨T4, h4, L4, X4, e4, N4, K4, G4, st4⟩ := own_cpP X3 hx hZ hown (ow hw 58 rfl) (ow hw 61 rfl) (ow hw 59 rfl) (ow hw 60 rfl) e3 G_a1_2 G_b1 rfl (sp := (0 : Int32)) (dp := (0 : Int32)) (nn := z) (by decide) (by decide) (own_nn (by omega)) (own_z0 (by omega)) (own_z0 (by omega)) N3 g_b1 (g := (mkF m 28 #[rv a1, iv p1, rv b1] [(.int z), (.int 0), (.ref b1), (.int 0), (.ref a1)])) rfl (by rw [hml]; rfl) rfl (hb hby d39_28) (by decide) (W := 0) (by show 2 * 0 + _ ≤ _; exact Nat.le_of_eq rfl) (by decide)
  have Z4 : n0 ≤ h4.size := Nat.le_trans Z1 K4.1
  have Kp4 : Keep h0 h4 [] := Kp1.trans K4 (allS (Or.inr sz_b1) all0)
  replace K : OGo p e below A0 T4 (mkF m 32 #[rv a1, iv p1, rv b1] [(.ref b1)]) := fun t k => K t (st4 t (XS.aloadN X4.here hx rfl (hb hby d39_31) rfl rfl k))
  have Q1_5 := (Q1.keep K4)
  obtain ⟨fs, hr, hrun, hended, hW, hsame⟩ := X4.leave (v := some (.ref b1)) (fun h => by rw [Bd.returns] at h; cases h)
  subst hA0
  refine ⟨_, _, K _ (retOut X4 hx Bd.returns rfl (Or.inr (Or.inr (Or.inr (Or.inr ⟨rfl, rfl, rfl⟩)))) (hb hby d39_32) hr), hrun, hended, _, _, rfl, ?_, ⟨_, rfl⟩, hW, hsame.mono (by decide) (by decide)⟩
  show Q_copyC Z a1 p1 k1 z h0 n0 _ T4.heap _
  rw [e4]
  exact ⟨b1, k1, rfl, N4, Kp4, sz_b1, Q1_5, G4⟩
theorem pn_com_example_imprint_imprint_tree_PagedText : plainName "com/example/imprint/imprint/tree/PagedText" = true := by first | (simp [plainName, overriddenIn]; done) | decide +kernel
theorem ef_1 (m : MethodId) (x0 : Addr) (x1 : Int32) : entryFrame m #[(.ref x0), (.int x1)] 2 = mkF m 0 #[.val (.ref x0), .val (.int x1)] [] := by first | (simp [entryFrame, mkF, argsToLocals, Value.category]; done) | rfl
abbrev Dc1 (i : Nat) (c : Instr) (k : Nat) : Prop := decode prog_89_method_1_code i = .ok (c, k)
theorem d1_0 : Dc1 0 (.aload_n 0) 1 := by decide +kernel
theorem d1_1 : Dc1 1 (.invokespecial 1) 3 := by decide +kernel
theorem d1_4 : Dc1 4 (.aload_n 0) 1 := by decide +kernel
theorem d1_5 : Dc1 5 (.iconst 1) 1 := by decide +kernel
theorem d1_6 : Dc1 6 (.anewarray 7) 3 := by decide +kernel
theorem d1_9 : Dc1 9 (.dup) 1 := by decide +kernel
theorem d1_10 : Dc1 10 (.iconst 0) 1 := by decide +kernel
theorem d1_11 : Dc1 11 (.iload_n 1) 1 := by decide +kernel
theorem d1_12 : Dc1 12 (.newarray .byte) 2 := by decide +kernel
theorem d1_14 : Dc1 14 (.aastore) 1 := by decide +kernel
theorem d1_15 : Dc1 15 (.putfield 9) 3 := by decide +kernel
theorem d1_18 : Dc1 18 (.aload_n 0) 1 := by decide +kernel
theorem d1_19 : Dc1 19 (.iconst 1) 1 := by decide +kernel
theorem d1_20 : Dc1 20 (.anewarray 15) 3 := by decide +kernel
theorem d1_23 : Dc1 23 (.putfield 17) 3 := by decide +kernel
theorem sn_cN0_widePages_narrowPages {a0 : Array Value} {Z : State} (hw : ∀ d ∈ tables_1, d.before a0 Z = true) : Jvm.RoadKit.slotOf Z cN0 "widePages" "[[C" ≠ Jvm.RoadKit.slotOf Z cN0 "narrowPages" "[[B" := slot_ne (Or.inl (ow hw 19 rfl)) (Or.inl (ow hw 15 rfl)) (by decide) (t := (.array (.array .char))) (t' := (.array (.array .byte))) (by decide) (by decide)
theorem d1_26 : Dc1 26 (.aload_n 0) 1 := by decide +kernel
theorem d1_27 : Dc1 27 (.iconst 1) 1 := by decide +kernel
theorem d1_28 : Dc1 28 (.putfield 21) 3 := by decide +kernel
theorem sn_cN0_pageCount_narrowPages {a0 : Array Value} {Z : State} (hw : ∀ d ∈ tables_1, d.before a0 Z = true) : Jvm.RoadKit.slotOf Z cN0 "pageCount" "I" ≠ Jvm.RoadKit.slotOf Z cN0 "narrowPages" "[[B" := slot_ne (Or.inl (ow hw 21 rfl)) (Or.inl (ow hw 15 rfl)) (by decide) (t := .int) (t' := (.array (.array .byte))) (by decide) (by decide)
theorem sn_cN0_pageCount_widePages {a0 : Array Value} {Z : State} (hw : ∀ d ∈ tables_1, d.before a0 Z = true) : Jvm.RoadKit.slotOf Z cN0 "pageCount" "I" ≠ Jvm.RoadKit.slotOf Z cN0 "widePages" "[[C" := slot_ne (Or.inl (ow hw 21 rfl)) (Or.inl (ow hw 19 rfl)) (by decide) (t := .int) (t' := (.array (.array .char))) (by decide) (by decide)
theorem d1_31 : Dc1 31 (.aload_n 0) 1 := by decide +kernel
theorem d1_32 : Dc1 32 (.iload_n 1) 1 := by decide +kernel
theorem d1_33 : Dc1 33 (.putfield 25) 3 := by decide +kernel
theorem sn_cN0_capacity_narrowPages {a0 : Array Value} {Z : State} (hw : ∀ d ∈ tables_1, d.before a0 Z = true) : Jvm.RoadKit.slotOf Z cN0 "capacity" "I" ≠ Jvm.RoadKit.slotOf Z cN0 "narrowPages" "[[B" := slot_ne (Or.inl (ow hw 23 rfl)) (Or.inl (ow hw 15 rfl)) (by decide) (t := .int) (t' := (.array (.array .byte))) (by decide) (by decide)
theorem sn_cN0_capacity_widePages {a0 : Array Value} {Z : State} (hw : ∀ d ∈ tables_1, d.before a0 Z = true) : Jvm.RoadKit.slotOf Z cN0 "capacity" "I" ≠ Jvm.RoadKit.slotOf Z cN0 "widePages" "[[C" := slot_ne (Or.inl (ow hw 23 rfl)) (Or.inl (ow hw 19 rfl)) (by decide) (t := .int) (t' := (.array (.array .char))) (by decide) (by decide)
theorem sn_cN0_capacity_pageCount {a0 : Array Value} {Z : State} (hw : ∀ d ∈ tables_1, d.before a0 Z = true) : Jvm.RoadKit.slotOf Z cN0 "capacity" "I" ≠ Jvm.RoadKit.slotOf Z cN0 "pageCount" "I" := slot_ne (Or.inl (ow hw 23 rfl)) (Or.inl (ow hw 21 rfl)) (by decide) (t := .int) (t' := .int) (by decide) (by decide)
theorem d1_36 : Dc1 36 (.return_) 1 := by decide +kernel
theorem sn_cN0_narrowPages_widePages {a0 : Array Value} {Z : State} (hw : ∀ d ∈ tables_1, d.before a0 Z = true) : Jvm.RoadKit.slotOf Z cN0 "narrowPages" "[[B" ≠ Jvm.RoadKit.slotOf Z cN0 "widePages" "[[C" := slot_ne (Or.inl (ow hw 15 rfl)) (Or.inl (ow hw 19 rfl)) (by decide) (t := (.array (.array .byte))) (t' := (.array (.array .char))) (by decide) (by decide)
theorem sn_cN0_narrowPages_pageCount {a0 : Array Value} {Z : State} (hw : ∀ d ∈ tables_1, d.before a0 Z = true) : Jvm.RoadKit.slotOf Z cN0 "narrowPages" "[[B" ≠ Jvm.RoadKit.slotOf Z cN0 "pageCount" "I" := slot_ne (Or.inl (ow hw 15 rfl)) (Or.inl (ow hw 21 rfl)) (by decide) (t := (.array (.array .byte))) (t' := .int) (by decide) (by decide)
theorem sn_cN0_narrowPages_capacity {a0 : Array Value} {Z : State} (hw : ∀ d ∈ tables_1, d.before a0 Z = true) : Jvm.RoadKit.slotOf Z cN0 "narrowPages" "[[B" ≠ Jvm.RoadKit.slotOf Z cN0 "capacity" "I" := slot_ne (Or.inl (ow hw 15 rfl)) (Or.inl (ow hw 23 rfl)) (by decide) (t := (.array (.array .byte))) (t' := .int) (by decide) (by decide)
theorem sn_cN0_widePages_pageCount {a0 : Array Value} {Z : State} (hw : ∀ d ∈ tables_1, d.before a0 Z = true) : Jvm.RoadKit.slotOf Z cN0 "widePages" "[[C" ≠ Jvm.RoadKit.slotOf Z cN0 "pageCount" "I" := slot_ne (Or.inl (ow hw 19 rfl)) (Or.inl (ow hw 21 rfl)) (by decide) (t := (.array (.array .char))) (t' := .int) (by decide) (by decide)
theorem sn_cN0_widePages_capacity {a0 : Array Value} {Z : State} (hw : ∀ d ∈ tables_1, d.before a0 Z = true) : Jvm.RoadKit.slotOf Z cN0 "widePages" "[[C" ≠ Jvm.RoadKit.slotOf Z cN0 "capacity" "I" := slot_ne (Or.inl (ow hw 19 rfl)) (Or.inl (ow hw 23 rfl)) (by decide) (t := (.array (.array .char))) (t' := .int) (by decide) (by decide)
theorem sn_cN0_pageCount_capacity {a0 : Array Value} {Z : State} (hw : ∀ d ∈ tables_1, d.before a0 Z = true) : Jvm.RoadKit.slotOf Z cN0 "pageCount" "I" ≠ Jvm.RoadKit.slotOf Z cN0 "capacity" "I" := slot_ne (Or.inl (ow hw 21 rfl)) (Or.inl (ow hw 23 rfl)) (by decide) (t := .int) (t' := .int) (by decide) (by decide)
theorem sn_cN0_length_narrowPages {a0 : Array Value} {Z : State} (hw : ∀ d ∈ tables_1, d.before a0 Z = true) : Jvm.RoadKit.slotOf Z cN0 "length" "I" ≠ Jvm.RoadKit.slotOf Z cN0 "narrowPages" "[[B" := slot_ne (Or.inl (ow hw 39 rfl)) (Or.inl (ow hw 15 rfl)) (by decide) (t := .int) (t' := (.array (.array .byte))) (by decide) (by decide)
theorem sn_cN0_length_widePages {a0 : Array Value} {Z : State} (hw : ∀ d ∈ tables_1, d.before a0 Z = true) : Jvm.RoadKit.slotOf Z cN0 "length" "I" ≠ Jvm.RoadKit.slotOf Z cN0 "widePages" "[[C" := slot_ne (Or.inl (ow hw 39 rfl)) (Or.inl (ow hw 19 rfl)) (by decide) (t := .int) (t' := (.array (.array .char))) (by decide) (by decide)
theorem sn_cN0_length_pageCount {a0 : Array Value} {Z : State} (hw : ∀ d ∈ tables_1, d.before a0 Z = true) : Jvm.RoadKit.slotOf Z cN0 "length" "I" ≠ Jvm.RoadKit.slotOf Z cN0 "pageCount" "I" := slot_ne (Or.inl (ow hw 39 rfl)) (Or.inl (ow hw 21 rfl)) (by decide) (t := .int) (t' := .int) (by decide) (by decide)
theorem sn_cN0_length_capacity {a0 : Array Value} {Z : State} (hw : ∀ d ∈ tables_1, d.before a0 Z = true) : Jvm.RoadKit.slotOf Z cN0 "length" "I" ≠ Jvm.RoadKit.slotOf Z cN0 "capacity" "I" := slot_ne (Or.inl (ow hw 39 rfl)) (Or.inl (ow hw 23 rfl)) (by decide) (t := .int) (t' := .int) (by decide) (by decide)
def Q_init (Z : State) (a1 : Addr) (cap : Int32) (h0 : Heap) (n0 : Nat) (v : Option Value) (h : Heap) (L : List Loc) : Prop := v = none ∧ Fr n0 L ∧ ∃ (np : Addr) (wp : Addr) (pg : Addr) (kn : ClassId) (kw : ClassId) (kp : ClassId), Keep h0 h [a1] ∧ h0.size ≤ np ∧ h0.size ≤ wp ∧ h0.size ≤ pg ∧ OND [np, wp, pg] ∧ OvrA Z kn .byte "[B" ∧ OvrA Z kw .char "[C" ∧ Exa Z h a1 cN0 ∧ Fld Z h a1 cN0 "narrowPages" "[[B" (.ref np) ∧ Fld Z h a1 cN0 "widePages" "[[C" (.ref wp) ∧ Fld Z h a1 cN0 "pageCount" "I" (.int (1 : Int32)) ∧ Fld Z h a1 cN0 "capacity" "I" (.int cap) ∧ Fld Z h a1 cN0 "length" "I" (.int (0 : Int32)) ∧ OAr Z h np kn (.array .byte) [(.ref pg)] ∧ OAr Z h wp kw (.array .char) [.null] ∧ Exa Z h pg "[B" ∧ OPg Z h pg kp .byte cap
theorem rm_init (l : Launch) (Z : State) (a0 : Array Value) (hw : ∀ d ∈ tables_1, d.before a0 Z = true) (ws : List Jvm.Cond) (a1 : Addr) (cap : Int32) (h0 : Heap) (n0 : Nat) (Z0 : n0 ≤ h0.size) (E_a1 : Exa Z h0 a1 cN0) (F_narrowPages_a1 : Fld Z h0 a1 cN0 "narrowPages" "[[B" .null) (F_widePages_a1 : Fld Z h0 a1 cN0 "widePages" "[[C" .null) (F_pageCount_a1 : Fld Z h0 a1 cN0 "pageCount" "I" (.int (0 : Int32))) (F_capacity_a1 : Fld Z h0 a1 cN0 "capacity" "I" (.int (0 : Int32))) (F_length_a1 : Fld Z h0 a1 cN0 "length" "I" (.int (0 : Int32))) (g_a1 : n0 ≤ a1) (hc : 0 ≤ cap.toInt ∧ cap.toInt ≤ 15) :
    oM l mN4 prog_89_method_1_code 2 none ws ({ frames := 1, cells := 3, slots := 17, locals := 12 } : Room) #[(.ref a1), (.int cap)] Z h0 (Q_init Z a1 cap h0 n0) := by
  refine MetFree.of_bodySF (plainFor_of_name pn_com_example_imprint_imprint_tree_PagedText) hisR ?_
  intro p e s m args below meth c s₁ Bd hml0 hP hK
  obtain ⟨rfl, hZ, hh⟩ := hP
  have hx := Bd.exec
  have hby := Bd.bytes
  have hml : c.maxLocals = 2 := hml0
  have hown : s.vm.findClass "com/example/imprint/imprint/tree/PagedText" = some m.cls := findClass_of_methodNamed Bd.named
  have hnm := (name_of_methodNamed Bd.named Bd.method).1
  have X0 : Stand p l e ({ frames := 1, cells := 3, slots := 17, locals := 12 } : Room) s m #[(.ref a1), (.int cap)] below meth c s₁ [] 0 0 := Stand.of_body Bd
  have e0 : s₁.heap = h0 := by rw [← hh, Bd.state]; rfl
  have N0 := Fr.nil n0
  obtain ⟨A0, hA0⟩ : ∃ z, z = s₁.setTop (entryFrame m #[(.ref a1), (.int cap)] 2) := ⟨_, rfl⟩
  have K : OGo p e below A0 s₁ (mkF m 0 #[rv a1, iv cap] []) := fun t k => hA0 ▸ castTop (ef_1 m a1 cap) k
  obtain ⟨T1, X1, e1, st1⟩ := initO X0 hx hZ hown (ow hw 7 rfl) (ow hw 8 rfl) (ow hw 9 rfl) e0 (g := (mkF m 1 #[rv a1, iv cap] [(.ref a1)])) rfl (by rw [hml]; rfl) rfl (hb hby d1_1) (by decide) (W := 0) (by show 2 * 0 + _ ≤ _; exact Nat.le_of_eq rfl) (by decide)
  obtain ⟨T2, h2, k2, X2, e2, E2, A2, Q2, O2, st2⟩ := newRA X1 hx hZ (ty := .byte) hown (by decide) (ow hw 10 rfl) (ow hw 11 rfl) e1 (g := (mkF m 6 #[rv a1, iv cap] [(.int 1), (.ref a1)])) rfl (hb hby d1_6) rfl (by decide) (cap := 1) (by decide) (by decide) (by decide) (by decide) (ad := "[[B") (by decide)
  obtain ⟨b2, gz2⟩ : ∃ z, z = h0.size := ⟨_, rfl⟩
  rw [← gz2] at A2 Q2 st2
  have ne_a1_b2 : a1 ≠ b2 := Nat.ne_of_lt (Nat.lt_of_lt_of_le E_a1.lt (Nat.le_of_eq gz2.symm))
  have g_b2 : n0 ≤ b2 := Nat.le_trans Z0 (Nat.le_of_eq gz2.symm)
  have sz_b2 : h0.size ≤ b2 := Nat.le_trans (Keep.refl h0 [a1]).1 (Nat.le_of_eq gz2.symm)
  have Z2 : n0 ≤ h2.size := Nat.le_trans Z0 E2.1
  have Kp2 : Keep h0 h2 [a1] := (Keep.refl h0 [a1]).ext E2
  have V_b2 : OAr Z h2 b2 k2 (.array .byte) [.null] := OAr.new A2
  obtain ⟨T3, h3, k3, X3, e3, E3, A3, Q3, st3⟩ := newPE X2 hx hZ (ow hw 12 rfl) e2 (g := (mkF m 12 #[rv a1, iv cap] [(.int cap), (.int 0), (.ref b2), (.ref b2), (.ref a1)])) rfl (hb hby d1_12) rfl (own_nn (by omega)) (cap := 15) (own_nle (by omega)) (by decide) (by decide) (by decide) (ad := "[B") (by decide)
  obtain ⟨b3, gz3⟩ : ∃ z, z = h2.size := ⟨_, rfl⟩
  rw [← gz3] at A3 Q3 st3
  have E_a1_4 := (E_a1.ext E2)
  have ne_a1_b3 : a1 ≠ b3 := Nat.ne_of_lt (Nat.lt_of_lt_of_le E_a1_4.lt (Nat.le_of_eq gz3.symm))
  have ne_b2_b3 : b2 ≠ b3 := Nat.ne_of_lt (Nat.lt_of_lt_of_le Q2.lt (Nat.le_of_eq gz3.symm))
  have g_b3 : n0 ≤ b3 := Nat.le_trans Z2 (Nat.le_of_eq gz3.symm)
  have sz_b3 : h0.size ≤ b3 := Nat.le_trans Kp2.1 (Nat.le_of_eq gz3.symm)
  have Z3 : n0 ≤ h3.size := Nat.le_trans Z2 E3.1
  have Kp3 : Keep h0 h3 [a1] := Kp2.ext E3
  have G_b3 : OPg Z h3 b3 k3 .byte cap := OPg.new A3 (own_nn (by omega)) rfl
  have V_b2_5 := (V_b2.ext E3)
  have Sto7 := own_sto V_b2_5 O2 (Ins.self Q3)
  obtain ⟨T6, h6, X6, e6, W6, V6, st6⟩ := own_stR X3 hx hZ e3 V_b2_5 rfl (j := (0 : Int32)) (by decide) (Nat.le_of_ble_eq_true rfl) Sto7 (g := (mkF m 14 #[rv a1, iv cap] [(.ref b3), (.int 0), (.ref b2), (.ref b2), (.ref a1)])) rfl rfl (hb hby d1_14)
  have Z6 : n0 ≤ h6.size := Nat.le_trans Z3 (Keep.of_wr W6).1
  have Kp6 : Keep h0 h6 [a1] := Kp3.wr W6 (Or.inr sz_b2)
  have V_b2_6 : OAr Z h6 b2 k2 (.array .byte) [(.ref b3)] := V6
  have N6 := Fr.snoc X6 N0 g_b2
  have F_narrowPages_a1_8 := (((F_narrowPages_a1.ext E2).ext E3).other W6 (Or.inl ne_a1_b2))
  have E_a1_9 := ((E_a1_4.ext E3).wr W6)
  obtain ⟨T10, h10, X10, e10, W10, st10⟩ := putF X6 hx hZ hown (host := "") (Or.inl (ow hw 14 rfl)) Via.refl e6 F_narrowPages_a1_8 E_a1_9 (Or.inl (ow hw 15 rfl)) (ow hw 2 rfl) (ty := (.array (.array .byte))) (by decide) rfl rfl (g := (mkF m 15 #[rv a1, iv cap] [(.ref b2), (.ref a1)])) rfl rfl (hb hby d1_15)
  have Z10 : n0 ≤ h10.size := Nat.le_trans Z6 (Keep.of_wr W10).1
  have Kp10 : Keep h0 h10 [a1] := Kp6.wr W10 (Or.inl (List.mem_of_getElem? (i := 0) rfl))
  have F_narrowPages_a1_10 := F_narrowPages_a1_8.same W10
  have N10 := Fr.snoc X10 N6 g_a1
  obtain ⟨T11, h11, k11, X11, e11, E11, A11, Q11, O11, st11⟩ := newRA X10 hx hZ (ty := .char) hown (by decide) (ow hw 16 rfl) (ow hw 17 rfl) e10 (g := (mkF m 20 #[rv a1, iv cap] [(.int 1), (.ref a1)])) rfl (hb hby d1_20) rfl (by decide) (cap := 1) (by decide) (by decide) (by decide) (by decide) (ad := "[[C") (by decide)
  obtain ⟨b11, gz11⟩ : ∃ z, z = h10.size := ⟨_, rfl⟩
  rw [← gz11] at A11 Q11 st11
  have E_a1_12 := (E_a1_9.wr W10)
  have ne_a1_b11 : a1 ≠ b11 := Nat.ne_of_lt (Nat.lt_of_lt_of_le E_a1_12.lt (Nat.le_of_eq gz11.symm))
  have Q2_13 := (((Q2.ext E3).wr W6).wr W10)
  have ne_b2_b11 : b2 ≠ b11 := Nat.ne_of_lt (Nat.lt_of_lt_of_le Q2_13.lt (Nat.le_of_eq gz11.symm))
  have Q3_14 := ((Q3.wr W6).wr W10)
  have ne_b3_b11 : b3 ≠ b11 := Nat.ne_of_lt (Nat.lt_of_lt_of_le Q3_14.lt (Nat.le_of_eq gz11.symm))
  have g_b11 : n0 ≤ b11 := Nat.le_trans Z10 (Nat.le_of_eq gz11.symm)
  have sz_b11 : h0.size ≤ b11 := Nat.le_trans Kp10.1 (Nat.le_of_eq gz11.symm)
  have Z11 : n0 ≤ h11.size := Nat.le_trans Z10 E11.1
  have Kp11 : Keep h0 h11 [a1] := Kp10.ext E11
  have V_b11 : OAr Z h11 b11 k11 (.array .char) [.null] := OAr.new A11
  have F_widePages_a1_15 := (((((F_widePages_a1.ext E2).ext E3).other W6 (Or.inl ne_a1_b2)).other W10 (Or.inr (sn_cN0_widePages_narrowPages hw))).ext E11)
  have E_a1_16 := (E_a1_12.ext E11)
  obtain ⟨T17, h17, X17, e17, W17, st17⟩ := putF X11 hx hZ hown (host := "") (Or.inl (ow hw 18 rfl)) Via.refl e11 F_widePages_a1_15 E_a1_16 (Or.inl (ow hw 19 rfl)) (ow hw 2 rfl) (ty := (.array (.array .char))) (by decide) rfl rfl (g := (mkF m 23 #[rv a1, iv cap] [(.ref b11), (.ref a1)])) rfl rfl (hb hby d1_23)
  have Z17 : n0 ≤ h17.size := Nat.le_trans Z11 (Keep.of_wr W17).1
  have Kp17 : Keep h0 h17 [a1] := Kp11.wr W17 (Or.inl (List.mem_of_getElem? (i := 0) rfl))
  have F_widePages_a1_17 := F_widePages_a1_15.same W17
  have N17 := Fr.snoc X17 N10 g_a1
  have F_pageCount_a1_18 := ((((((F_pageCount_a1.ext E2).ext E3).other W6 (Or.inl ne_a1_b2)).other W10 (Or.inr (sn_cN0_pageCount_narrowPages hw))).ext E11).other W17 (Or.inr (sn_cN0_pageCount_widePages hw)))
  have E_a1_19 := (E_a1_16.wr W17)
  obtain ⟨T20, h20, X20, e20, W20, st20⟩ := putF X17 hx hZ hown (host := "") (Or.inl (ow hw 20 rfl)) Via.refl e17 F_pageCount_a1_18 E_a1_19 (Or.inl (ow hw 21 rfl)) (ow hw 2 rfl) (ty := .int) (by decide) rfl rfl (g := (mkF m 28 #[rv a1, iv cap] [(.int 1), (.ref a1)])) rfl rfl (hb hby d1_28)
  have Z20 : n0 ≤ h20.size := Nat.le_trans Z17 (Keep.of_wr W20).1
  have Kp20 : Keep h0 h20 [a1] := Kp17.wr W20 (Or.inl (List.mem_of_getElem? (i := 0) rfl))
  have F_pageCount_a1_20 := F_pageCount_a1_18.same W20
  have N20 := Fr.snoc X20 N17 g_a1
  replace K : OGo p e below A0 T20 (mkF m 33 #[rv a1, iv cap] [(.int cap), (.ref a1)]) := fun t k => K t (XS.aloadN X0.here hx rfl (hb hby d1_0) rfl rfl (st1 t (XS.aloadN X1.here hx rfl (hb hby d1_4) rfl rfl (XS.iconst X1.here hx rfl (hb hby d1_5) (st2 t (XS.dup X2.here hx rfl (hb hby d1_9) rfl rfl (XS.iconst X2.here hx rfl (hb hby d1_10) (XS.iloadN X2.here hx rfl (hb hby d1_11) rfl (st3 t (st6 t (st10 t (XS.aloadN X10.here hx rfl (hb hby d1_18) rfl rfl (XS.iconst X10.here hx rfl (hb hby d1_19) (st11 t (st17 t (XS.aloadN X17.here hx rfl (hb hby d1_26) rfl rfl (XS.iconst X17.here hx rfl (hb hby d1_27) (st20 t (XS.aloadN X20.here hx rfl (hb hby d1_31) rfl rfl (XS.iloadN X20.here hx rfl (hb hby d1_32) rfl k))))))))))))))))))))
  have F_capacity_a1_21 := (((((((F_capacity_a1.ext E2).ext E3).other W6 (Or.inl ne_a1_b2)).other W10 (Or.inr (sn_cN0_capacity_narrowPages hw))).ext E11).other W17 (Or.inr (sn_cN0_capacity_widePages hw))).other W20 (Or.inr (sn_cN0_capacity_pageCount hw)))
  have E_a1_22 := (E_a1_19.wr W20)
  obtain ⟨T23, h23, X23, e23, W23, st23⟩ := putF X20 hx hZ hown (host := "") (Or.inl (ow hw 22 rfl)) Via.refl e20 F_capacity_a1_21 E_a1_22 (Or.inl (ow hw 23 rfl)) (ow hw 2 rfl) (ty := .int) (by decide) rfl rfl (g := (mkF m 33 #[rv a1, iv cap] [(.int cap), (.ref a1)])) rfl rfl (hb hby d1_33)
  have Z23 : n0 ≤ h23.size := Nat.le_trans Z20 (Keep.of_wr W23).1
  have Kp23 : Keep h0 h23 [a1] := Kp20.wr W23 (Or.inl (List.mem_of_getElem? (i := 0) rfl))
  have F_capacity_a1_23 := F_capacity_a1_21.same W23
  have N23 := Fr.snoc X23 N20 g_a1
  replace K : OGo p e below A0 T23 (mkF m 36 #[rv a1, iv cap] []) := fun t k => K t (st23 t k)
  have nd24 : OND [b2, b11, b3] := (ondS (allS ne_b2_b11 (allS ne_b2_b3 all0)) (ondS (allS (Ne.symm ne_b3_b11) all0) (ondS all0 ond0)))
  have E_a1_25 := (E_a1_22.wr W23)
  have F_narrowPages_a1_26 := ((((F_narrowPages_a1_10.ext E11).other W17 (Or.inr (sn_cN0_narrowPages_widePages hw))).other W20 (Or.inr (sn_cN0_narrowPages_pageCount hw))).other W23 (Or.inr (sn_cN0_narrowPages_capacity hw)))
  have F_widePages_a1_27 := ((F_widePages_a1_17.other W20 (Or.inr (sn_cN0_widePages_pageCount hw))).other W23 (Or.inr (sn_cN0_widePages_capacity hw)))
  have F_pageCount_a1_28 := (F_pageCount_a1_20.other W23 (Or.inr (sn_cN0_pageCount_capacity hw)))
  have F_length_a1_29 := ((((((((F_length_a1.ext E2).ext E3).other W6 (Or.inl ne_a1_b2)).other W10 (Or.inr (sn_cN0_length_narrowPages hw))).ext E11).other W17 (Or.inr (sn_cN0_length_widePages hw))).other W20 (Or.inr (sn_cN0_length_pageCount hw))).other W23 (Or.inr (sn_cN0_length_capacity hw)))
  have V_b2_30 := (((((V_b2_6.other W10 (Ne.symm ne_a1_b2)).ext E11).other W17 (Ne.symm ne_a1_b2)).other W20 (Ne.symm ne_a1_b2)).other W23 (Ne.symm ne_a1_b2))
  have V_b11_31 := (((V_b11.other W17 (Ne.symm ne_a1_b11)).other W20 (Ne.symm ne_a1_b11)).other W23 (Ne.symm ne_a1_b11))
  have Q3_32 := ((((Q3_14.ext E11).wr W17).wr W20).wr W23)
  have G_b3_33 := ((((((G_b3.other W6 (Ne.symm ne_b2_b3)).other W10 (Ne.symm ne_a1_b3)).ext E11).other W17 (Ne.symm ne_a1_b3)).other W20 (Ne.symm ne_a1_b3)).other W23 (Ne.symm ne_a1_b3))
  obtain ⟨fs, hr, hrun, hended, hW, hsame⟩ := X23.leave (v := none) (fun _ => rfl)
  subst hA0
  refine ⟨_, _, K _ (X23.returnOut hx Bd.returns (hb hby d1_36) hr), hrun, hended, _, _, rfl, ?_, ⟨_, rfl⟩, hW, hsame.mono (by decide) (by decide)⟩
  show Q_init Z a1 cap h0 n0 _ T23.heap _
  rw [e23]
  exact ⟨rfl, N23, b2, b11, b3, k2, k11, k3, Kp23, sz_b2, sz_b11, sz_b3, nd24, O2, O11, E_a1_25, F_narrowPages_a1_26, F_widePages_a1_27, F_pageCount_a1_28, F_capacity_a1_23, F_length_a1_29, V_b2_30, V_b11_31, Q3_32, G_b3_33⟩
theorem ef_3 (m : MethodId) (x0 : Addr) : entryFrame m #[(.ref x0)] 5 = mkF m 0 #[.val (.ref x0), .unset, .unset, .unset, .unset] [] := by first | (simp [entryFrame, mkF, argsToLocals, Value.category]; done) | rfl
abbrev Dc3 (i : Nat) (c : Instr) (k : Nat) : Prop := decode prog_89_method_3_code i = .ok (c, k)
theorem d3_0 : Dc3 0 (.lconst 0) 1 := by decide +kernel
theorem d3_1 : Dc3 1 (.lstore_n 1) 1 := by decide +kernel
theorem d3_2 : Dc3 2 (.iconst 0) 1 := by decide +kernel
theorem d3_3 : Dc3 3 (.istore_n 3) 1 := by decide +kernel
theorem d3_4 : Dc3 4 (.iload_n 3) 1 := by decide +kernel
theorem d3_5 : Dc3 5 (.aload_n 0) 1 := by decide +kernel
theorem d3_6 : Dc3 6 (.getfield 21) 3 := by decide +kernel
theorem d3_9 : Dc3 9 (.if_icmp .ge 56) 3 := by decide +kernel
theorem d3_12 : Dc3 12 (.aload_n 0) 1 := by decide +kernel
theorem d3_13 : Dc3 13 (.getfield 9) 3 := by decide +kernel
theorem d3_16 : Dc3 16 (.iload_n 3) 1 := by decide +kernel
theorem d3_17 : Dc3 17 (.aaload) 1 := by decide +kernel
theorem d3_18 : Dc3 18 (.ifnull 7) 3 := by decide +kernel
theorem d3_21 : Dc3 21 (.iconst 1) 1 := by decide +kernel
theorem d3_22 : Dc3 22 (.goto 4) 3 := by decide +kernel
theorem d3_26 : Dc3 26 (.istore 4) 2 := by decide +kernel
theorem d3_28 : Dc3 28 (.lload_n 1) 1 := by decide +kernel
theorem d3_29 : Dc3 29 (.iload 4) 2 := by decide +kernel
theorem d3_31 : Dc3 31 (.ifCond .eq 14) 3 := by decide +kernel
theorem d3_34 : Dc3 34 (.aload_n 0) 1 := by decide +kernel
theorem d3_35 : Dc3 35 (.getfield 9) 3 := by decide +kernel
theorem d3_38 : Dc3 38 (.iload_n 3) 1 := by decide +kernel
theorem d3_39 : Dc3 39 (.aaload) 1 := by decide +kernel
theorem d3_40 : Dc3 40 (.arraylength) 1 := by decide +kernel
theorem d3_41 : Dc3 41 (.i2l) 1 := by decide +kernel
theorem d3_42 : Dc3 42 (.goto 15) 3 := by decide +kernel
theorem d3_57 : Dc3 57 (.ladd) 1 := by decide +kernel
theorem d3_58 : Dc3 58 (.lstore_n 1) 1 := by decide +kernel
theorem d3_59 : Dc3 59 (.iinc 3 1) 3 := by decide +kernel
theorem d3_62 : Dc3 62 (.goto (-58)) 3 := by decide +kernel
theorem d3_65 : Dc3 65 (.lload_n 1) 1 := by decide +kernel
theorem d3_66 : Dc3 66 (.lreturn) 1 := by decide +kernel
def Q_bytesN (Z : State) (a1 : Addr) (np : Addr) (wp : Addr) (pg : Addr) (kn : ClassId) (kw : ClassId) (kp : ClassId) (cap : Int32) (len : Int32) (h0 : Heap) (n0 : Nat) (v : Option Value) (h : Heap) (L : List Loc) : Prop := v = some (.long ((0 : Int64) + (cap.toInt64))) ∧ Fr n0 L ∧ h = h0
theorem rm_bytesN (l : Launch) (Z : State) (a0 : Array Value) (hw : ∀ d ∈ tables_1, d.before a0 Z = true) (ws : List Jvm.Cond) (a1 : Addr) (np : Addr) (wp : Addr) (pg : Addr) (kn : ClassId) (kw : ClassId) (kp : ClassId) (cap : Int32) (len : Int32) (h0 : Heap) (n0 : Nat) (Z0 : n0 ≤ h0.size) (E_a1 : Exa Z h0 a1 cN0) (F_narrowPages_a1 : Fld Z h0 a1 cN0 "narrowPages" "[[B" (.ref np)) (F_widePages_a1 : Fld Z h0 a1 cN0 "widePages" "[[C" (.ref wp)) (F_pageCount_a1 : Fld Z h0 a1 cN0 "pageCount" "I" (.int (1 : Int32))) (F_capacity_a1 : Fld Z h0 a1 cN0 "capacity" "I" (.int cap)) (F_length_a1 : Fld Z h0 a1 cN0 "length" "I" (.int len)) (V_np : OAr Z h0 np kn (.array .byte) [(.ref pg)]) (V_wp : OAr Z h0 wp kw (.array .char) [.null]) (E_pg : Exa Z h0 pg "[B") (G_pg : OPg Z h0 pg kp .byte cap) :
    oM l mN5 prog_89_method_3_code 5 (some .long) ws ({ frames := 0, cells := 0, slots := 0, locals := 0 } : Room) #[(.ref a1)] Z h0 (Q_bytesN Z a1 np wp pg kn kw kp cap len h0 n0) := by
  refine MetFree.of_bodySF (plainFor_of_name pn_com_example_imprint_imprint_tree_PagedText) hisR ?_
  intro p e s m args below meth c s₁ Bd hml0 hP hK
  obtain ⟨rfl, hZ, hh⟩ := hP
  have hx := Bd.exec
  have hby := Bd.bytes
  have hml : c.maxLocals = 5 := hml0
  have hown : s.vm.findClass "com/example/imprint/imprint/tree/PagedText" = some m.cls := findClass_of_methodNamed Bd.named
  have hnm := (name_of_methodNamed Bd.named Bd.method).1
  have X0 : Stand p l e ({ frames := 0, cells := 0, slots := 0, locals := 0 } : Room) s m #[(.ref a1)] below meth c s₁ [] 0 0 := Stand.of_body Bd
  have e0 : s₁.heap = h0 := by rw [← hh, Bd.state]; rfl
  have N0 := Fr.nil n0
  obtain ⟨A0, hA0⟩ : ∃ z, z = s₁.setTop (entryFrame m #[(.ref a1)] 5) := ⟨_, rfl⟩
  have K : OGo p e below A0 s₁ (mkF m 0 #[rv a1, .unset, .unset, .unset, .unset] []) := fun t k => hA0 ▸ castTop (ef_3 m a1) k
  obtain ⟨T1, X1, e1, st1⟩ := getF X0 hx hZ hown (host := "") (Or.inl (ow hw 20 rfl)) Via.refl e0 F_pageCount_a1 (g := (mkF m 6 #[rv a1, .val (.long (0 : Int64)), .second, iv 0, .unset] [(.ref a1), (.int 0)])) rfl rfl (hb hby d3_6)
  obtain ⟨T2, X2, e2, st2⟩ := getF X1 hx hZ hown (host := "") (Or.inl (ow hw 14 rfl)) Via.refl e1 F_narrowPages_a1 (g := (mkF m 13 #[rv a1, .val (.long (0 : Int64)), .second, iv 0, .unset] [(.ref a1)])) rfl rfl (hb hby d3_13)
  replace K : OGo p e below A0 T2 (mkF m 35 #[rv a1, .val (.long (0 : Int64)), .second, iv 0, iv 1] [(.ref a1), (.long 0)]) := fun t k => K t (XS.lconst X0.here hx rfl (hb hby d3_0) (XS.lstoreN X0.here hx rfl (hb hby d3_1) rfl (l' := #[rv a1, .val (.long (0 : Int64)), .second, .unset, .unset]) rfl (XS.iconst X0.here hx rfl (hb hby d3_2) (XS.istoreN X0.here hx rfl (hb hby d3_3) rfl (l' := #[rv a1, .val (.long (0 : Int64)), .second, iv 0, .unset]) rfl (XS.iloadN X0.here hx rfl (hb hby d3_4) rfl (XS.aloadN X0.here hx rfl (hb hby d3_5) rfl rfl (st1 t (XS.icmpNo X1.here hx rfl (hb hby d3_9) rfl (tlt ((by decide : (0 : Int32) < (1 : Int32)) : (0 : Int32) < (1 : Int32))).2.1 (XS.aloadN X1.here hx rfl (hb hby d3_12) rfl rfl (st2 t (XS.iloadN X2.here hx rfl (hb hby d3_16) rfl (own_ldA X2 hx hZ e2 V_np rfl (j := (0 : Int32)) (v := (.ref pg)) (by decide) rfl (g := (mkF m 17 #[rv a1, .val (.long (0 : Int64)), .second, iv 0, .unset] [(.int 0), (.ref np)])) rfl rfl (hb hby d3_17) t (XS.ifnullNo X2.here hx rfl (hb hby d3_18) rfl (XS.iconst X2.here hx rfl (hb hby d3_21) (XS.goto X2.here hx rfl (pc0 := 22) (pc' := 26) rfl (hb hby d3_22) (by decide) (by decide) (XS.istore X2.here hx rfl (hb hby d3_26) rfl (l' := #[rv a1, .val (.long (0 : Int64)), .second, iv 0, iv 1]) rfl (XS.lloadN X2.here hx rfl (hb hby d3_28) rfl (XS.iload X2.here hx rfl (hb hby d3_29) rfl (XS.ifNo X2.here hx rfl (hb hby d3_31) rfl ((if0 _ _).trans (feq ((by decide : ¬ ((1 : Int32) = (0 : Int32))) : ¬ ((1 : Int32) = (0 : Int32)))).1) (XS.aloadN X2.here hx rfl (hb hby d3_34) rfl rfl k))))))))))))))))))))
  obtain ⟨T3, X3, e3, st3⟩ := getF X2 hx hZ hown (host := "") (Or.inl (ow hw 14 rfl)) Via.refl e2 F_narrowPages_a1 (g := (mkF m 35 #[rv a1, .val (.long (0 : Int64)), .second, iv 0, iv 1] [(.ref a1), (.long 0)])) rfl rfl (hb hby d3_35)
  obtain ⟨T4, X4, e4, st4⟩ := getF X3 hx hZ hown (host := "") (Or.inl (ow hw 20 rfl)) Via.refl e3 F_pageCount_a1 (g := (mkF m 6 #[rv a1, .val (.long ((0 : Int64) + (cap.toInt64))), .second, iv 1, iv 1] [(.ref a1), (.int 1)])) rfl rfl (hb hby d3_6)
  replace K : OGo p e below A0 T4 (mkF m 66 #[rv a1, .val (.long ((0 : Int64) + (cap.toInt64))), .second, iv 1, iv 1] [(.long ((0 : Int64) + (cap.toInt64)))]) := fun t k => K t (st3 t (XS.iloadN X3.here hx rfl (hb hby d3_38) rfl (own_ldA X3 hx hZ e3 V_np rfl (j := (0 : Int32)) (v := (.ref pg)) (by decide) rfl (g := (mkF m 39 #[rv a1, .val (.long (0 : Int64)), .second, iv 0, iv 1] [(.int 0), (.ref np), (.long 0)])) rfl rfl (hb hby d3_39) t (own_lenP X3 hx hZ e3 G_pg (g := (mkF m 40 #[rv a1, .val (.long (0 : Int64)), .second, iv 0, iv 1] [(.ref pg), (.long 0)])) rfl rfl (hb hby d3_40) t (XS.i2l X3.here hx rfl (hb hby d3_41) rfl (XS.goto X3.here hx rfl (pc0 := 42) (pc' := 57) rfl (hb hby d3_42) (by decide) (by decide) (XS.ladd X3.here hx rfl (hb hby d3_57) rfl (XS.lstoreN X3.here hx rfl (hb hby d3_58) rfl (l' := #[rv a1, .val (.long ((0 : Int64) + (cap.toInt64))), .second, iv 0, iv 1]) rfl (XS.iinc X3.here hx rfl (hb hby d3_59) rfl (l' := #[rv a1, .val (.long ((0 : Int64) + (cap.toInt64))), .second, iv 1, iv 1]) rfl (XS.goto X3.here hx rfl (pc0 := 62) (pc' := 4) rfl (hb hby d3_62) (by decide) (by decide) (XS.iloadN X3.here hx rfl (hb hby d3_4) rfl (XS.aloadN X3.here hx rfl (hb hby d3_5) rfl rfl (st4 t (XS.icmpYes X4.here hx rfl (pc0 := 9) (pc' := 65) rfl (hb hby d3_9) rfl (flt ((by decide : ¬ ((1 : Int32) < (1 : Int32))) : ¬ ((1 : Int32) < (1 : Int32)))).2.1 (by decide) (by decide) (XS.lloadN X4.here hx rfl (hb hby d3_65) rfl k)))))))))))))))
  obtain ⟨fs, hr, hrun, hended, hW, hsame⟩ := X4.leave (v := some (.long ((0 : Int64) + (cap.toInt64)))) (fun h => by rw [Bd.returns] at h; cases h)
  subst hA0
  refine ⟨_, _, K _ (retOut X4 hx Bd.returns rfl (Or.inr (Or.inl ⟨rfl, rfl, _, rfl⟩)) (hb hby d3_66) hr), hrun, hended, _, _, rfl, ?_, ⟨_, rfl⟩, hW, hsame.mono (by decide) (by decide)⟩
  show Q_bytesN Z a1 np wp pg kn kw kp cap len h0 n0 _ T4.heap _
  rw [e4]
  exact ⟨rfl, N0, rfl⟩
theorem ef_10 (m : MethodId) (x0 : Addr) (x1 : Int32) : entryFrame m #[(.ref x0), (.int x1)] 3 = mkF m 0 #[.val (.ref x0), .val (.int x1), .unset] [] := by first | (simp [entryFrame, mkF, argsToLocals, Value.category]; done) | rfl
abbrev Dc10 (i : Nat) (c : Instr) (k : Nat) : Prop := decode prog_89_method_10_code i = .ok (c, k)
theorem d10_0 : Dc10 0 (.aload_n 0) 1 := by decide +kernel
theorem d10_1 : Dc10 1 (.getfield 9) 3 := by decide +kernel
theorem d10_4 : Dc10 4 (.iload_n 1) 1 := by decide +kernel
theorem d10_5 : Dc10 5 (.aaload) 1 := by decide +kernel
theorem d10_6 : Dc10 6 (.astore_n 2) 1 := by decide +kernel
theorem d10_7 : Dc10 7 (.aload_n 2) 1 := by decide +kernel
theorem d10_8 : Dc10 8 (.ifnull 8) 3 := by decide +kernel
theorem d10_11 : Dc10 11 (.aload_n 2) 1 := by decide +kernel
theorem d10_12 : Dc10 12 (.arraylength) 1 := by decide +kernel
theorem d10_13 : Dc10 13 (.goto 10) 3 := by decide +kernel
theorem d10_23 : Dc10 23 (.ireturn) 1 := by decide +kernel
def Q_plenN (Z : State) (a1 : Addr) (np : Addr) (wp : Addr) (pg : Addr) (kn : ClassId) (kw : ClassId) (kp : ClassId) (cap : Int32) (len : Int32) (h0 : Heap) (n0 : Nat) (v : Option Value) (h : Heap) (L : List Loc) : Prop := v = some (.int cap) ∧ Fr n0 L ∧ h = h0
theorem rm_plenN (l : Launch) (Z : State) (a0 : Array Value) (hw : ∀ d ∈ tables_1, d.before a0 Z = true) (ws : List Jvm.Cond) (a1 : Addr) (np : Addr) (wp : Addr) (pg : Addr) (kn : ClassId) (kw : ClassId) (kp : ClassId) (cap : Int32) (len : Int32) (h0 : Heap) (n0 : Nat) (Z0 : n0 ≤ h0.size) (E_a1 : Exa Z h0 a1 cN0) (F_narrowPages_a1 : Fld Z h0 a1 cN0 "narrowPages" "[[B" (.ref np)) (F_widePages_a1 : Fld Z h0 a1 cN0 "widePages" "[[C" (.ref wp)) (F_pageCount_a1 : Fld Z h0 a1 cN0 "pageCount" "I" (.int (1 : Int32))) (F_capacity_a1 : Fld Z h0 a1 cN0 "capacity" "I" (.int cap)) (F_length_a1 : Fld Z h0 a1 cN0 "length" "I" (.int len)) (V_np : OAr Z h0 np kn (.array .byte) [(.ref pg)]) (V_wp : OAr Z h0 wp kw (.array .char) [.null]) (E_pg : Exa Z h0 pg "[B") (G_pg : OPg Z h0 pg kp .byte cap) :
    oM l mN6 prog_89_method_10_code 3 (some .int) ws ({ frames := 0, cells := 0, slots := 0, locals := 0 } : Room) #[(.ref a1), (.int (0 : Int32))] Z h0 (Q_plenN Z a1 np wp pg kn kw kp cap len h0 n0) := by
  refine MetFree.of_bodySF (plainFor_of_name pn_com_example_imprint_imprint_tree_PagedText) hisR ?_
  intro p e s m args below meth c s₁ Bd hml0 hP hK
  obtain ⟨rfl, hZ, hh⟩ := hP
  have hx := Bd.exec
  have hby := Bd.bytes
  have hml : c.maxLocals = 3 := hml0
  have hown : s.vm.findClass "com/example/imprint/imprint/tree/PagedText" = some m.cls := findClass_of_methodNamed Bd.named
  have hnm := (name_of_methodNamed Bd.named Bd.method).1
  have X0 : Stand p l e ({ frames := 0, cells := 0, slots := 0, locals := 0 } : Room) s m #[(.ref a1), (.int (0 : Int32))] below meth c s₁ [] 0 0 := Stand.of_body Bd
  have e0 : s₁.heap = h0 := by rw [← hh, Bd.state]; rfl
  have N0 := Fr.nil n0
  obtain ⟨A0, hA0⟩ : ∃ z, z = s₁.setTop (entryFrame m #[(.ref a1), (.int (0 : Int32))] 3) := ⟨_, rfl⟩
  have K : OGo p e below A0 s₁ (mkF m 0 #[rv a1, iv 0, .unset] []) := fun t k => hA0 ▸ castTop (ef_10 m a1 (0 : Int32)) k
  obtain ⟨T1, X1, e1, st1⟩ := getF X0 hx hZ hown (host := "") (Or.inl (ow hw 14 rfl)) Via.refl e0 F_narrowPages_a1 (g := (mkF m 1 #[rv a1, iv 0, .unset] [(.ref a1)])) rfl rfl (hb hby d10_1)
  replace K : OGo p e below A0 T1 (mkF m 23 #[rv a1, iv 0, rv pg] [(.int cap)]) := fun t k => K t (XS.aloadN X0.here hx rfl (hb hby d10_0) rfl rfl (st1 t (XS.iloadN X1.here hx rfl (hb hby d10_4) rfl (own_ldA X1 hx hZ e1 V_np rfl (j := (0 : Int32)) (v := (.ref pg)) (by decide) rfl (g := (mkF m 5 #[rv a1, iv 0, .unset] [(.int 0), (.ref np)])) rfl rfl (hb hby d10_5) t (XS.astoreN X1.here hx rfl (hb hby d10_6) rfl rfl (l' := #[rv a1, iv 0, rv pg]) rfl (XS.aloadN X1.here hx rfl (hb hby d10_7) rfl rfl (XS.ifnullNo X1.here hx rfl (hb hby d10_8) rfl (XS.aloadN X1.here hx rfl (hb hby d10_11) rfl rfl (own_lenP X1 hx hZ e1 G_pg (g := (mkF m 12 #[rv a1, iv 0, rv pg] [(.ref pg)])) rfl rfl (hb hby d10_12) t (XS.goto X1.here hx rfl (pc0 := 13) (pc' := 23) rfl (hb hby d10_13) (by decide) (by decide) k))))))))))
  obtain ⟨fs, hr, hrun, hended, hW, hsame⟩ := X1.leave (v := some (.int cap)) (fun h => by rw [Bd.returns] at h; cases h)
  subst hA0
  refine ⟨_, _, K _ (retOut X1 hx Bd.returns rfl (Or.inl ⟨rfl, Or.inl rfl, _, rfl⟩) (hb hby d10_23) hr), hrun, hended, _, _, rfl, ?_, ⟨_, rfl⟩, hW, hsame.mono (by decide) (by decide)⟩
  show Q_plenN Z a1 np wp pg kn kw kp cap len h0 n0 _ T1.heap _
  rw [e1]
  exact ⟨rfl, N0, rfl⟩
theorem d3_25 : Dc3 25 (.iconst 0) 1 := by decide +kernel
theorem d3_45 : Dc3 45 (.ldc2_w 31) 3 := by decide +kernel
theorem d3_48 : Dc3 48 (.aload_n 0) 1 := by decide +kernel
theorem d3_49 : Dc3 49 (.getfield 17) 3 := by decide +kernel
theorem d3_52 : Dc3 52 (.iload_n 3) 1 := by decide +kernel
theorem d3_53 : Dc3 53 (.aaload) 1 := by decide +kernel
theorem d3_54 : Dc3 54 (.arraylength) 1 := by decide +kernel
theorem d3_55 : Dc3 55 (.i2l) 1 := by decide +kernel
theorem d3_56 : Dc3 56 (.lmul) 1 := by decide +kernel
def Q_bytesW (Z : State) (a1 : Addr) (np : Addr) (wp : Addr) (pg : Addr) (kn : ClassId) (kw : ClassId) (kp : ClassId) (cap : Int32) (len : Int32) (h0 : Heap) (n0 : Nat) (v : Option Value) (h : Heap) (L : List Loc) : Prop := v = some (.long ((0 : Int64) + ((2 : Int64) * (cap.toInt64)))) ∧ Fr n0 L ∧ h = h0
theorem rm_bytesW (l : Launch) (Z : State) (a0 : Array Value) (hw : ∀ d ∈ tables_1, d.before a0 Z = true) (ws : List Jvm.Cond) (a1 : Addr) (np : Addr) (wp : Addr) (pg : Addr) (kn : ClassId) (kw : ClassId) (kp : ClassId) (cap : Int32) (len : Int32) (h0 : Heap) (n0 : Nat) (Z0 : n0 ≤ h0.size) (E_a1 : Exa Z h0 a1 cN0) (F_narrowPages_a1 : Fld Z h0 a1 cN0 "narrowPages" "[[B" (.ref np)) (F_widePages_a1 : Fld Z h0 a1 cN0 "widePages" "[[C" (.ref wp)) (F_pageCount_a1 : Fld Z h0 a1 cN0 "pageCount" "I" (.int (1 : Int32))) (F_capacity_a1 : Fld Z h0 a1 cN0 "capacity" "I" (.int cap)) (F_length_a1 : Fld Z h0 a1 cN0 "length" "I" (.int len)) (V_np : OAr Z h0 np kn (.array .byte) [.null]) (V_wp : OAr Z h0 wp kw (.array .char) [(.ref pg)]) (E_pg : Exa Z h0 pg "[C") (G_pg : OPg Z h0 pg kp .char cap) :
    oM l mN5 prog_89_method_3_code 5 (some .long) ws ({ frames := 0, cells := 0, slots := 0, locals := 0 } : Room) #[(.ref a1)] Z h0 (Q_bytesW Z a1 np wp pg kn kw kp cap len h0 n0) := by
  refine MetFree.of_bodySF (plainFor_of_name pn_com_example_imprint_imprint_tree_PagedText) hisR ?_
  intro p e s m args below meth c s₁ Bd hml0 hP hK
  obtain ⟨rfl, hZ, hh⟩ := hP
  have hx := Bd.exec
  have hby := Bd.bytes
  have hml : c.maxLocals = 5 := hml0
  have hown : s.vm.findClass "com/example/imprint/imprint/tree/PagedText" = some m.cls := findClass_of_methodNamed Bd.named
  have hnm := (name_of_methodNamed Bd.named Bd.method).1
  have X0 : Stand p l e ({ frames := 0, cells := 0, slots := 0, locals := 0 } : Room) s m #[(.ref a1)] below meth c s₁ [] 0 0 := Stand.of_body Bd
  have e0 : s₁.heap = h0 := by rw [← hh, Bd.state]; rfl
  have N0 := Fr.nil n0
  obtain ⟨A0, hA0⟩ : ∃ z, z = s₁.setTop (entryFrame m #[(.ref a1)] 5) := ⟨_, rfl⟩
  have K : OGo p e below A0 s₁ (mkF m 0 #[rv a1, .unset, .unset, .unset, .unset] []) := fun t k => hA0 ▸ castTop (ef_3 m a1) k
  obtain ⟨T1, X1, e1, st1⟩ := getF X0 hx hZ hown (host := "") (Or.inl (ow hw 20 rfl)) Via.refl e0 F_pageCount_a1 (g := (mkF m 6 #[rv a1, .val (.long (0 : Int64)), .second, iv 0, .unset] [(.ref a1), (.int 0)])) rfl rfl (hb hby d3_6)
  obtain ⟨T2, X2, e2, st2⟩ := getF X1 hx hZ hown (host := "") (Or.inl (ow hw 14 rfl)) Via.refl e1 F_narrowPages_a1 (g := (mkF m 13 #[rv a1, .val (.long (0 : Int64)), .second, iv 0, .unset] [(.ref a1)])) rfl rfl (hb hby d3_13)
  replace K : OGo p e below A0 T2 (mkF m 49 #[rv a1, .val (.long (0 : Int64)), .second, iv 0, iv 0] [(.ref a1), (.long 2), (.long 0)]) := fun t k => K t (XS.lconst X0.here hx rfl (hb hby d3_0) (XS.lstoreN X0.here hx rfl (hb hby d3_1) rfl (l' := #[rv a1, .val (.long (0 : Int64)), .second, .unset, .unset]) rfl (XS.iconst X0.here hx rfl (hb hby d3_2) (XS.istoreN X0.here hx rfl (hb hby d3_3) rfl (l' := #[rv a1, .val (.long (0 : Int64)), .second, iv 0, .unset]) rfl (XS.iloadN X0.here hx rfl (hb hby d3_4) rfl (XS.aloadN X0.here hx rfl (hb hby d3_5) rfl rfl (st1 t (XS.icmpNo X1.here hx rfl (hb hby d3_9) rfl (tlt ((by decide : (0 : Int32) < (1 : Int32)) : (0 : Int32) < (1 : Int32))).2.1 (XS.aloadN X1.here hx rfl (hb hby d3_12) rfl rfl (st2 t (XS.iloadN X2.here hx rfl (hb hby d3_16) rfl (own_ldA X2 hx hZ e2 V_np rfl (j := (0 : Int32)) (v := .null) (by decide) rfl (g := (mkF m 17 #[rv a1, .val (.long (0 : Int64)), .second, iv 0, .unset] [(.int 0), (.ref np)])) rfl rfl (hb hby d3_17) t (XS.ifnullYes X2.here hx rfl (pc0 := 18) (pc' := 25) rfl (hb hby d3_18) rfl (by decide) (by decide) (XS.iconst X2.here hx rfl (hb hby d3_25) (XS.istore X2.here hx rfl (hb hby d3_26) rfl (l' := #[rv a1, .val (.long (0 : Int64)), .second, iv 0, iv 0]) rfl (XS.lloadN X2.here hx rfl (hb hby d3_28) rfl (XS.iload X2.here hx rfl (hb hby d3_29) rfl (XS.ifYes X2.here hx rfl (pc0 := 31) (pc' := 45) rfl (hb hby d3_31) rfl ((if0 _ _).trans (teq ((by decide : (0 : Int32) = (0 : Int32)) : (0 : Int32) = (0 : Int32))).1) (by decide) (by decide) (X2.ldc2Long hx hown (mvT hZ (ow hw 144 rfl)) (g := (mkF m 45 #[rv a1, .val (.long (0 : Int64)), .second, iv 0, iv 0] [(.long 0)])) rfl (hb hby d3_45) t (XS.aloadN X2.here hx rfl (hb hby d3_48) rfl rfl k))))))))))))))))))))
  obtain ⟨T3, X3, e3, st3⟩ := getF X2 hx hZ hown (host := "") (Or.inl (ow hw 18 rfl)) Via.refl e2 F_widePages_a1 (g := (mkF m 49 #[rv a1, .val (.long (0 : Int64)), .second, iv 0, iv 0] [(.ref a1), (.long 2), (.long 0)])) rfl rfl (hb hby d3_49)
  obtain ⟨T4, X4, e4, st4⟩ := getF X3 hx hZ hown (host := "") (Or.inl (ow hw 20 rfl)) Via.refl e3 F_pageCount_a1 (g := (mkF m 6 #[rv a1, .val (.long ((0 : Int64) + ((2 : Int64) * (cap.toInt64)))), .second, iv 1, iv 0] [(.ref a1), (.int 1)])) rfl rfl (hb hby d3_6)
  replace K : OGo p e below A0 T4 (mkF m 66 #[rv a1, .val (.long ((0 : Int64) + ((2 : Int64) * (cap.toInt64)))), .second, iv 1, iv 0] [(.long ((0 : Int64) + ((2 : Int64) * (cap.toInt64))))]) := fun t k => K t (st3 t (XS.iloadN X3.here hx rfl (hb hby d3_52) rfl (own_ldA X3 hx hZ e3 V_wp rfl (j := (0 : Int32)) (v := (.ref pg)) (by decide) rfl (g := (mkF m 53 #[rv a1, .val (.long (0 : Int64)), .second, iv 0, iv 0] [(.int 0), (.ref wp), (.long 2), (.long 0)])) rfl rfl (hb hby d3_53) t (own_lenP X3 hx hZ e3 G_pg (g := (mkF m 54 #[rv a1, .val (.long (0 : Int64)), .second, iv 0, iv 0] [(.ref pg), (.long 2), (.long 0)])) rfl rfl (hb hby d3_54) t (XS.i2l X3.here hx rfl (hb hby d3_55) rfl (XS.lmul X3.here hx rfl (hb hby d3_56) rfl (XS.ladd X3.here hx rfl (hb hby d3_57) rfl (XS.lstoreN X3.here hx rfl (hb hby d3_58) rfl (l' := #[rv a1, .val (.long ((0 : Int64) + ((2 : Int64) * (cap.toInt64)))), .second, iv 0, iv 0]) rfl (XS.iinc X3.here hx rfl (hb hby d3_59) rfl (l' := #[rv a1, .val (.long ((0 : Int64) + ((2 : Int64) * (cap.toInt64)))), .second, iv 1, iv 0]) rfl (XS.goto X3.here hx rfl (pc0 := 62) (pc' := 4) rfl (hb hby d3_62) (by decide) (by decide) (XS.iloadN X3.here hx rfl (hb hby d3_4) rfl (XS.aloadN X3.here hx rfl (hb hby d3_5) rfl rfl (st4 t (XS.icmpYes X4.here hx rfl (pc0 := 9) (pc' := 65) rfl (hb hby d3_9) rfl (flt ((by decide : ¬ ((1 : Int32) < (1 : Int32))) : ¬ ((1 : Int32) < (1 : Int32)))).2.1 (by decide) (by decide) (XS.lloadN X4.here hx rfl (hb hby d3_65) rfl k)))))))))))))))
  obtain ⟨fs, hr, hrun, hended, hW, hsame⟩ := X4.leave (v := some (.long ((0 : Int64) + ((2 : Int64) * (cap.toInt64))))) (fun h => by rw [Bd.returns] at h; cases h)
  subst hA0
  refine ⟨_, _, K _ (retOut X4 hx Bd.returns rfl (Or.inr (Or.inl ⟨rfl, rfl, _, rfl⟩)) (hb hby d3_66) hr), hrun, hended, _, _, rfl, ?_, ⟨_, rfl⟩, hW, hsame.mono (by decide) (by decide)⟩
  show Q_bytesW Z a1 np wp pg kn kw kp cap len h0 n0 _ T4.heap _
  rw [e4]
  exact ⟨rfl, N0, rfl⟩
theorem d10_16 : Dc10 16 (.aload_n 0) 1 := by decide +kernel
theorem d10_17 : Dc10 17 (.getfield 17) 3 := by decide +kernel
theorem d10_20 : Dc10 20 (.iload_n 1) 1 := by decide +kernel
theorem d10_21 : Dc10 21 (.aaload) 1 := by decide +kernel
theorem d10_22 : Dc10 22 (.arraylength) 1 := by decide +kernel
def Q_plenW (Z : State) (a1 : Addr) (np : Addr) (wp : Addr) (pg : Addr) (kn : ClassId) (kw : ClassId) (kp : ClassId) (cap : Int32) (len : Int32) (h0 : Heap) (n0 : Nat) (v : Option Value) (h : Heap) (L : List Loc) : Prop := v = some (.int cap) ∧ Fr n0 L ∧ h = h0
theorem rm_plenW (l : Launch) (Z : State) (a0 : Array Value) (hw : ∀ d ∈ tables_1, d.before a0 Z = true) (ws : List Jvm.Cond) (a1 : Addr) (np : Addr) (wp : Addr) (pg : Addr) (kn : ClassId) (kw : ClassId) (kp : ClassId) (cap : Int32) (len : Int32) (h0 : Heap) (n0 : Nat) (Z0 : n0 ≤ h0.size) (E_a1 : Exa Z h0 a1 cN0) (F_narrowPages_a1 : Fld Z h0 a1 cN0 "narrowPages" "[[B" (.ref np)) (F_widePages_a1 : Fld Z h0 a1 cN0 "widePages" "[[C" (.ref wp)) (F_pageCount_a1 : Fld Z h0 a1 cN0 "pageCount" "I" (.int (1 : Int32))) (F_capacity_a1 : Fld Z h0 a1 cN0 "capacity" "I" (.int cap)) (F_length_a1 : Fld Z h0 a1 cN0 "length" "I" (.int len)) (V_np : OAr Z h0 np kn (.array .byte) [.null]) (V_wp : OAr Z h0 wp kw (.array .char) [(.ref pg)]) (E_pg : Exa Z h0 pg "[C") (G_pg : OPg Z h0 pg kp .char cap) :
    oM l mN6 prog_89_method_10_code 3 (some .int) ws ({ frames := 0, cells := 0, slots := 0, locals := 0 } : Room) #[(.ref a1), (.int (0 : Int32))] Z h0 (Q_plenW Z a1 np wp pg kn kw kp cap len h0 n0) := by
  refine MetFree.of_bodySF (plainFor_of_name pn_com_example_imprint_imprint_tree_PagedText) hisR ?_
  intro p e s m args below meth c s₁ Bd hml0 hP hK
  obtain ⟨rfl, hZ, hh⟩ := hP
  have hx := Bd.exec
  have hby := Bd.bytes
  have hml : c.maxLocals = 3 := hml0
  have hown : s.vm.findClass "com/example/imprint/imprint/tree/PagedText" = some m.cls := findClass_of_methodNamed Bd.named
  have hnm := (name_of_methodNamed Bd.named Bd.method).1
  have X0 : Stand p l e ({ frames := 0, cells := 0, slots := 0, locals := 0 } : Room) s m #[(.ref a1), (.int (0 : Int32))] below meth c s₁ [] 0 0 := Stand.of_body Bd
  have e0 : s₁.heap = h0 := by rw [← hh, Bd.state]; rfl
  have N0 := Fr.nil n0
  obtain ⟨A0, hA0⟩ : ∃ z, z = s₁.setTop (entryFrame m #[(.ref a1), (.int (0 : Int32))] 3) := ⟨_, rfl⟩
  have K : OGo p e below A0 s₁ (mkF m 0 #[rv a1, iv 0, .unset] []) := fun t k => hA0 ▸ castTop (ef_10 m a1 (0 : Int32)) k
  obtain ⟨T1, X1, e1, st1⟩ := getF X0 hx hZ hown (host := "") (Or.inl (ow hw 14 rfl)) Via.refl e0 F_narrowPages_a1 (g := (mkF m 1 #[rv a1, iv 0, .unset] [(.ref a1)])) rfl rfl (hb hby d10_1)
  obtain ⟨T2, X2, e2, st2⟩ := getF X1 hx hZ hown (host := "") (Or.inl (ow hw 18 rfl)) Via.refl e1 F_widePages_a1 (g := (mkF m 17 #[rv a1, iv 0, .val .null] [(.ref a1)])) rfl rfl (hb hby d10_17)
  replace K : OGo p e below A0 T2 (mkF m 23 #[rv a1, iv 0, .val .null] [(.int cap)]) := fun t k => K t (XS.aloadN X0.here hx rfl (hb hby d10_0) rfl rfl (st1 t (XS.iloadN X1.here hx rfl (hb hby d10_4) rfl (own_ldA X1 hx hZ e1 V_np rfl (j := (0 : Int32)) (v := .null) (by decide) rfl (g := (mkF m 5 #[rv a1, iv 0, .unset] [(.int 0), (.ref np)])) rfl rfl (hb hby d10_5) t (XS.astoreN X1.here hx rfl (hb hby d10_6) rfl rfl (l' := #[rv a1, iv 0, .val .null]) rfl (XS.aloadN X1.here hx rfl (hb hby d10_7) rfl rfl (XS.ifnullYes X1.here hx rfl (pc0 := 8) (pc' := 16) rfl (hb hby d10_8) rfl (by decide) (by decide) (XS.aloadN X1.here hx rfl (hb hby d10_16) rfl rfl (st2 t (XS.iloadN X2.here hx rfl (hb hby d10_20) rfl (own_ldA X2 hx hZ e2 V_wp rfl (j := (0 : Int32)) (v := (.ref pg)) (by decide) rfl (g := (mkF m 21 #[rv a1, iv 0, .val .null] [(.int 0), (.ref wp)])) rfl rfl (hb hby d10_21) t (own_lenP X2 hx hZ e2 G_pg (g := (mkF m 22 #[rv a1, iv 0, .val .null] [(.ref pg)])) rfl rfl (hb hby d10_22) t k))))))))))))
  obtain ⟨fs, hr, hrun, hended, hW, hsame⟩ := X2.leave (v := some (.int cap)) (fun h => by rw [Bd.returns] at h; cases h)
  subst hA0
  refine ⟨_, _, K _ (retOut X2 hx Bd.returns rfl (Or.inl ⟨rfl, Or.inl rfl, _, rfl⟩) (hb hby d10_23) hr), hrun, hended, _, _, rfl, ?_, ⟨_, rfl⟩, hW, hsame.mono (by decide) (by decide)⟩
  show Q_plenW Z a1 np wp pg kn kw kp cap len h0 n0 _ T2.heap _
  rw [e2]
  exact ⟨rfl, N0, rfl⟩
theorem ef_6 (m : MethodId) (x0 : Addr) (x1 : Int32) : entryFrame m #[(.ref x0), (.int x1)] 2 = mkF m 0 #[.val (.ref x0), .val (.int x1)] [] := by first | (simp [entryFrame, mkF, argsToLocals, Value.category]; done) | rfl
abbrev Dc6 (i : Nat) (c : Instr) (k : Nat) : Prop := decode prog_89_method_12_code i = .ok (c, k)
theorem d6_0 : Dc6 0 (.aload_n 0) 1 := by decide +kernel
theorem d6_1 : Dc6 1 (.getfield 21) 3 := by decide +kernel
theorem d6_4 : Dc6 4 (.iconst 1) 1 := by decide +kernel
theorem d6_5 : Dc6 5 (.if_icmp .ne 83) 3 := by decide +kernel
theorem d6_8 : Dc6 8 (.aload_n 0) 1 := by decide +kernel
theorem d6_9 : Dc6 9 (.getfield 25) 3 := by decide +kernel
theorem d6_12 : Dc6 12 (.getstatic 112) 3 := by decide +kernel
theorem d6_15 : Dc6 15 (.if_icmp .ge 73) 3 := by decide +kernel
theorem d6_18 : Dc6 18 (.aload_n 0) 1 := by decide +kernel
theorem d6_19 : Dc6 19 (.getstatic 112) 3 := by decide +kernel
theorem d6_22 : Dc6 22 (.iload_n 1) 1 := by decide +kernel
theorem d6_23 : Dc6 23 (.aload_n 0) 1 := by decide +kernel
theorem d6_24 : Dc6 24 (.getfield 25) 3 := by decide +kernel
theorem d6_27 : Dc6 27 (.iconst 2) 1 := by decide +kernel
theorem d6_28 : Dc6 28 (.imul) 1 := by decide +kernel
theorem d6_29 : Dc6 29 (.invokestatic 115) 3 := by decide +kernel
theorem d6_32 : Dc6 32 (.invokestatic 79) 3 := by decide +kernel
theorem d6_35 : Dc6 35 (.putfield 25) 3 := by decide +kernel
theorem d6_38 : Dc6 38 (.aload_n 0) 1 := by decide +kernel
theorem d6_39 : Dc6 39 (.getfield 9) 3 := by decide +kernel
theorem d6_42 : Dc6 42 (.iconst 0) 1 := by decide +kernel
theorem d6_43 : Dc6 43 (.aaload) 1 := by decide +kernel
theorem d6_44 : Dc6 44 (.ifnull 25) 3 := by decide +kernel
theorem d6_47 : Dc6 47 (.aload_n 0) 1 := by decide +kernel
theorem d6_48 : Dc6 48 (.getfield 9) 3 := by decide +kernel
theorem d6_51 : Dc6 51 (.iconst 0) 1 := by decide +kernel
theorem d6_52 : Dc6 52 (.aload_n 0) 1 := by decide +kernel
theorem d6_53 : Dc6 53 (.getfield 9) 3 := by decide +kernel
theorem d6_56 : Dc6 56 (.iconst 0) 1 := by decide +kernel
theorem d6_57 : Dc6 57 (.aaload) 1 := by decide +kernel
theorem d6_58 : Dc6 58 (.aload_n 0) 1 := by decide +kernel
theorem d6_59 : Dc6 59 (.getfield 25) 3 := by decide +kernel
theorem d6_62 : Dc6 62 (.invokestatic 118) 3 := by decide +kernel
theorem pd___BI__B : parseMethodDescriptor "([BI)[B" = some ⟨[(.array .byte), .int], some (.array .byte)⟩ := by decide +kernel
theorem d6_65 : Dc6 65 (.aastore) 1 := by decide +kernel
theorem d6_66 : Dc6 66 (.goto 22) 3 := by decide +kernel
theorem d6_88 : Dc6 88 (.aload_n 0) 1 := by decide +kernel
theorem d6_89 : Dc6 89 (.getfield 25) 3 := by decide +kernel
theorem d6_92 : Dc6 92 (.iload_n 1) 1 := by decide +kernel
theorem d6_93 : Dc6 93 (.if_icmp .ge 91) 3 := by decide +kernel
theorem d6_184 : Dc6 184 (.return_) 1 := by decide +kernel
def Q_growN (Z : State) (a1 : Addr) (p1 : Int32) (np : Addr) (wp : Addr) (pg : Addr) (kn : ClassId) (kw : ClassId) (kp : ClassId) (cap : Int32) (len : Int32) (cs : Int32) (fw : Value) (h0 : Heap) (n0 : Nat) (v : Option Value) (h : Heap) (L : List Loc) : Prop := v = none ∧ Fr n0 L ∧ ∃ (pg2 : Addr) (kp2 : ClassId), Keep h0 h [a1, np] ∧ h0.size ≤ pg2 ∧ Exa Z h a1 cN0 ∧ Fld Z h a1 cN0 "narrowPages" "[[B" (.ref np) ∧ Fld Z h a1 cN0 "widePages" "[[C" (.ref wp) ∧ Fld Z h a1 cN0 "pageCount" "I" (.int (1 : Int32)) ∧ Fld Z h a1 cN0 "capacity" "I" (.int (own_max p1 (cap * (2 : Int32)))) ∧ Fld Z h a1 cN0 "length" "I" (.int len) ∧ OAr Z h np kn (.array .byte) [(.ref pg2)] ∧ OAr Z h wp kw (.array .char) [.null] ∧ Exa Z h pg2 "[B" ∧ OPg Z h pg2 kp2 .byte (own_max p1 (cap * (2 : Int32)))
theorem rm_growN (l : Launch) (Z : State) (a0 : Array Value) (hw : ∀ d ∈ tables_1, d.before a0 Z = true) (ws : List Jvm.Cond) (a1 : Addr) (p1 : Int32) (np : Addr) (wp : Addr) (pg : Addr) (kn : ClassId) (kw : ClassId) (kp : ClassId) (cap : Int32) (len : Int32) (cs : Int32) (fw : Value) (h0 : Heap) (n0 : Nat) (Z0 : n0 ≤ h0.size) (hST : own_ST Z cs fw) (O_0 : Old Z n0 h0) (ovn : OvrA Z kn .byte "[B") (ovw : OvrA Z kw .char "[C") (E_a1 : Exa Z h0 a1 cN0) (F_narrowPages_a1 : Fld Z h0 a1 cN0 "narrowPages" "[[B" (.ref np)) (F_widePages_a1 : Fld Z h0 a1 cN0 "widePages" "[[C" (.ref wp)) (F_pageCount_a1 : Fld Z h0 a1 cN0 "pageCount" "I" (.int (1 : Int32))) (F_capacity_a1 : Fld Z h0 a1 cN0 "capacity" "I" (.int cap)) (F_length_a1 : Fld Z h0 a1 cN0 "length" "I" (.int len)) (V_np : OAr Z h0 np kn (.array .byte) [(.ref pg)]) (V_wp : OAr Z h0 wp kw (.array .char) [.null]) (E_pg : Exa Z h0 pg "[B") (G_pg : OPg Z h0 pg kp .byte cap) (g_a1 : n0 ≤ a1) (g_np : n0 ≤ np) (g_wp : n0 ≤ wp) (g_pg : n0 ≤ pg) (nd0 : OND [a1, np, wp, pg]) (hg : 0 ≤ cap.toInt ∧ cap.toInt < p1.toInt ∧ p1.toInt ≤ 6) :
    oM l mN7 prog_89_method_12_code 2 none ws ({ frames := 2, cells := 1, slots := 15, locals := 36 } : Room) #[(.ref a1), (.int p1)] Z h0 (Q_growN Z a1 p1 np wp pg kn kw kp cap len cs fw h0 n0) := by
  refine MetFree.of_bodySF (plainFor_of_name pn_com_example_imprint_imprint_tree_PagedText) hisR ?_
  intro p e s m args below meth c s₁ Bd hml0 hP hK
  obtain ⟨rfl, hZ, hh⟩ := hP
  have hx := Bd.exec
  have hby := Bd.bytes
  have hml : c.maxLocals = 2 := hml0
  have hown : s.vm.findClass "com/example/imprint/imprint/tree/PagedText" = some m.cls := findClass_of_methodNamed Bd.named
  have hnm := (name_of_methodNamed Bd.named Bd.method).1
  have X0 : Stand p l e ({ frames := 2, cells := 1, slots := 15, locals := 36 } : Room) s m #[(.ref a1), (.int p1)] below meth c s₁ [] 0 0 := Stand.of_body Bd
  have e0 : s₁.heap = h0 := by rw [← hh, Bd.state]; rfl
  have N0 := Fr.nil n0
  obtain ⟨A0, hA0⟩ : ∃ z, z = s₁.setTop (entryFrame m #[(.ref a1), (.int p1)] 2) := ⟨_, rfl⟩
  have K : OGo p e below A0 s₁ (mkF m 0 #[rv a1, iv p1] []) := fun t k => hA0 ▸ castTop (ef_6 m a1 p1) k
  obtain ⟨T1, X1, e1, st1⟩ := getF X0 hx hZ hown (host := "") (Or.inl (ow hw 20 rfl)) Via.refl e0 F_pageCount_a1 (g := (mkF m 1 #[rv a1, iv p1] [(.ref a1)])) rfl rfl (hb hby d6_1)
  obtain ⟨T2, X2, e2, st2⟩ := getF X1 hx hZ hown (host := "") (Or.inl (ow hw 22 rfl)) Via.refl e1 F_capacity_a1 (g := (mkF m 9 #[rv a1, iv p1] [(.ref a1)])) rfl rfl (hb hby d6_9)
  obtain ⟨T3, X3, e3, st3⟩ := getS2 X2 hx hZ hown (host := "") (Or.inl (ow hw 44 rfl)) Via.refl e2 (hST.ps.ext O_0.2) (g := (mkF m 12 #[rv a1, iv p1] [(.int cap)])) rfl (hb hby d6_12)
  obtain ⟨T4, X4, e4, st4⟩ := getS2 X3 hx hZ hown (host := "") (Or.inl (ow hw 44 rfl)) Via.refl e3 (hST.ps.ext O_0.2) (g := (mkF m 19 #[rv a1, iv p1] [(.ref a1)])) rfl (hb hby d6_19)
  obtain ⟨T5, X5, e5, st5⟩ := getF X4 hx hZ hown (host := "") (Or.inl (ow hw 22 rfl)) Via.refl e4 F_capacity_a1 (g := (mkF m 24 #[rv a1, iv p1] [(.ref a1), (.int p1), (.int 65536), (.ref a1)])) rfl rfl (hb hby d6_24)
  obtain ⟨_, _, ⟨T6, L6, k6, n6⟩, -, X6, ⟨Lc6, hQ6, l6, y6, z6⟩, st6⟩ := Jvm.LawKit.callS X5 hx (y := mN1) hown (mvT hZ (ow hw 46 rfl)) (mvT hZ (ow hw 47 rfl)) (mvT hZ (ow hw 48 rfl)) (mvT hZ (ow hw 49 rfl)) (by decide) (backOf (W := 2) (rm_max l Z a0 hw [] p1 (cap * (2 : Int32)) h0 n0 Z0 ) hZ (ow hw 49 rfl) (ow hw 48 rfl) (by decide) (by decide)) (g := (mkF m 29 #[rv a1, iv p1] [(.int (cap * (2 : Int32))), (.int p1), (.int 65536), (.ref a1)])) rfl (by rw [hml]; rfl) (argsL := [(.int p1), (.int (cap * (2 : Int32)))]) (rest := [(.int (65536 : Int32)), (.ref a1)]) (lenOf pd__II_I rfl) rfl (by show 2 * 0 + _ ≤ _; exact Nat.le_of_eq rfl) (hb hby d6_29) (fun _ _ => ⟨rfl, e5, (by decide : 0 + 0 ≤ _), (by decide : 0 + 0 ≤ _)⟩)
  dsimp only [Pt.U, Pt.locs, Pt.cells, Pt.slots] at X6 l6 y6 z6 st6 hQ6
  subst l6 y6 z6
  obtain ⟨rfl, Nq6, e6⟩ := hQ6
  have N6 := Fr.app N0 Nq6
  obtain ⟨_, _, ⟨T7, L7, k7, n7⟩, -, X7, ⟨Lc7, hQ7, l7, y7, z7⟩, st7⟩ := Jvm.LawKit.callS X6 hx (y := mN0) hown (mvT hZ (ow hw 50 rfl)) (mvT hZ (ow hw 51 rfl)) (mvT hZ (ow hw 48 rfl)) (mvT hZ (ow hw 52 rfl)) (by decide) (backOf (W := 1) (rm_min l Z a0 hw [] (65536 : Int32) (own_max p1 (cap * (2 : Int32))) h0 n0 Z0 ) hZ (ow hw 52 rfl) (ow hw 48 rfl) (by decide) (by decide)) (g := (mkF m 32 #[rv a1, iv p1] [(.int (own_max p1 (cap * (2 : Int32)))), (.int 65536), (.ref a1)])) rfl (by rw [hml]; rfl) (argsL := [(.int (65536 : Int32)), (.int (own_max p1 (cap * (2 : Int32))))]) (rest := [(.ref a1)]) (lenOf pd__II_I rfl) rfl (by show 2 * 0 + _ ≤ _; exact Nat.le_of_eq rfl) (hb hby d6_32) (fun _ _ => ⟨rfl, e6, (by decide : 0 + 0 ≤ _), (by decide : 0 + 0 ≤ _)⟩)
  dsimp only [Pt.U, Pt.locs, Pt.cells, Pt.slots] at X7 l7 y7 z7 st7 hQ7
  subst l7 y7 z7
  obtain ⟨rfl, Nq7, e7⟩ := hQ7
  have N7 := Fr.app N6 Nq7
  replace K : OGo p e below A0 T7 (mkF m 35 #[rv a1, iv p1] [(.int (own_min (65536 : Int32) (own_max p1 (cap * (2 : Int32))))), (.ref a1)]) := fun t k => K t (XS.aloadN X0.here hx rfl (hb hby d6_0) rfl rfl (st1 t (XS.iconst X1.here hx rfl (hb hby d6_4) (XS.icmpNo X1.here hx rfl (hb hby d6_5) rfl (teq ((by decide : (1 : Int32) = (1 : Int32)) : (1 : Int32) = (1 : Int32))).2 (XS.aloadN X1.here hx rfl (hb hby d6_8) rfl rfl (st2 t (st3 t (XS.icmpNo X3.here hx rfl (hb hby d6_15) rfl (tlt ((own_g1 hg) : cap < (65536 : Int32))).2.1 (XS.aloadN X3.here hx rfl (hb hby d6_18) rfl rfl (st4 t (XS.iloadN X4.here hx rfl (hb hby d6_22) rfl (XS.aloadN X4.here hx rfl (hb hby d6_23) rfl rfl (st5 t (XS.iconst X5.here hx rfl (hb hby d6_27) (XS.imul X5.here hx rfl (hb hby d6_28) rfl (st6 t (st7 t k)))))))))))))))))
  rw [show (own_min (65536 : Int32) (own_max p1 (cap * (2 : Int32)))) = (own_max p1 (cap * (2 : Int32))) from own_g2 hg] at K
  obtain ⟨T8, h8, X8, e8, W8, st8⟩ := putF X7 hx hZ hown (host := "") (Or.inl (ow hw 22 rfl)) Via.refl e7 F_capacity_a1 E_a1 (Or.inl (ow hw 23 rfl)) (ow hw 2 rfl) (ty := .int) (by decide) rfl rfl (g := (mkF m 35 #[rv a1, iv p1] [(.int (own_max p1 (cap * (2 : Int32)))), (.ref a1)])) rfl rfl (hb hby d6_35)
  have Z8 : n0 ≤ h8.size := Nat.le_trans Z0 (Keep.of_wr W8).1
  have Kp8 : Keep h0 h8 [a1, np] := (Keep.refl h0 [a1, np]).wr W8 (Or.inl (List.mem_of_getElem? (i := 0) rfl))
  have F_capacity_a1_8 := F_capacity_a1.same W8
  have N8 := Fr.snoc X8 N7 g_a1
  have F_narrowPages_a1_9 := (F_narrowPages_a1.other W8 (Or.inr (sn_cN0_narrowPages_capacity hw)))
  obtain ⟨T10, X10, e10, st10⟩ := getF X8 hx hZ hown (host := "") (Or.inl (ow hw 14 rfl)) Via.refl e8 F_narrowPages_a1_9 (g := (mkF m 39 #[rv a1, iv p1] [(.ref a1)])) rfl rfl (hb hby d6_39)
  have V_np_11 := (V_np.other W8 (Ne.symm (own_pw nd0 0 1 (by decide) rfl rfl)))
  obtain ⟨T12, X12, e12, st12⟩ := getF X10 hx hZ hown (host := "") (Or.inl (ow hw 14 rfl)) Via.refl e10 F_narrowPages_a1_9 (g := (mkF m 48 #[rv a1, iv p1] [(.ref a1)])) rfl rfl (hb hby d6_48)
  obtain ⟨T13, X13, e13, st13⟩ := getF X12 hx hZ hown (host := "") (Or.inl (ow hw 14 rfl)) Via.refl e12 F_narrowPages_a1_9 (g := (mkF m 53 #[rv a1, iv p1] [(.ref a1), (.int 0), (.ref np)])) rfl rfl (hb hby d6_53)
  obtain ⟨T14, X14, e14, st14⟩ := getF X13 hx hZ hown (host := "") (Or.inl (ow hw 22 rfl)) Via.refl e13 F_capacity_a1_8 (g := (mkF m 59 #[rv a1, iv p1] [(.ref a1), (.ref pg), (.int 0), (.ref np)])) rfl rfl (hb hby d6_59)
  have G_pg_16 := (G_pg.other W8 (Ne.symm (own_pw nd0 0 3 (by decide) rfl rfl)))
  obtain ⟨_, _, ⟨T15, L15, k15, n15⟩, -, X15, ⟨Lc15, hQ15, l15, y15, z15⟩, st15⟩ := Jvm.LawKit.callS X14 hx (y := mN2) hown (mvT hZ (ow hw 53 rfl)) (mvT hZ (ow hw 54 rfl)) (mvT hZ (ow hw 55 rfl)) (mvT hZ (ow hw 56 rfl)) (by decide) (backOf (W := 2) (rm_copyB l Z a0 hw [] pg (own_max p1 (cap * (2 : Int32))) kp cap h8 n0 Z8 G_pg_16 (own_g4 hg)) hZ (ow hw 56 rfl) (ow hw 55 rfl) (by decide) (by decide)) (g := (mkF m 62 #[rv a1, iv p1] [(.int (own_max p1 (cap * (2 : Int32)))), (.ref pg), (.int 0), (.ref np)])) rfl (by rw [hml]; rfl) (argsL := [(.ref pg), (.int (own_max p1 (cap * (2 : Int32))))]) (rest := [(.int (0 : Int32)), (.ref np)]) (lenOf pd___BI__B rfl) rfl (by show 2 * 0 + _ ≤ _; exact Nat.le_of_eq rfl) (hb hby d6_62) (fun _ _ => ⟨rfl, e14, (by decide : 0 + 1 ≤ _), (by decide : 0 + 15 ≤ _)⟩)
  dsimp only [Pt.U, Pt.locs, Pt.cells, Pt.slots] at X15 l15 y15 z15 st15 hQ15
  subst l15 y15 z15
  obtain ⟨hp15, e15⟩ : ∃ z, T15.heap = z := ⟨_, rfl⟩
  rw [e15] at hQ15
  obtain ⟨b_15, kb_15, rfl, Nq15, K15, P15_0, P15_1, P15_2⟩ := hQ15
  have E_a1_17 := (E_a1.wr W8)
  have ne_a1_b_15 : a1 ≠ b_15 := Nat.ne_of_lt (Nat.lt_of_lt_of_le E_a1_17.lt P15_0)
  have ne_np_b_15 : np ≠ b_15 := Nat.ne_of_lt (Nat.lt_of_lt_of_le V_np_11.lt P15_0)
  have V_wp_18 := (V_wp.other W8 (Ne.symm (own_pw nd0 0 2 (by decide) rfl rfl)))
  have ne_wp_b_15 : wp ≠ b_15 := Nat.ne_of_lt (Nat.lt_of_lt_of_le V_wp_18.lt P15_0)
  have E_pg_19 := (E_pg.wr W8)
  have ne_pg_b_15 : pg ≠ b_15 := Nat.ne_of_lt (Nat.lt_of_lt_of_le E_pg_19.lt P15_0)
  have g_b_15 : n0 ≤ b_15 := Nat.le_trans Z8 P15_0
  have sz_b_15 : h0.size ≤ b_15 := Nat.le_trans Kp8.1 P15_0
  have Z15 : n0 ≤ hp15.size := Nat.le_trans Z8 K15.1
  have Kp15 : Keep h0 hp15 [a1, np] := Kp8.trans K15 all0
  have N15 := Fr.app N8 Nq15
  have V_np_20 := (V_np_11.keep K15 nin0)
  have Sto22 := own_sto V_np_20 ovn (Ins.self P15_1)
  obtain ⟨T21, h21, X21, e21, W21, V21, st21⟩ := own_stR X15 hx hZ e15 V_np_20 rfl (j := (0 : Int32)) (by decide) (Nat.le_of_ble_eq_true rfl) Sto22 (g := (mkF m 65 #[rv a1, iv p1] [(.ref b_15), (.int 0), (.ref np)])) rfl rfl (hb hby d6_65)
  have Z21 : n0 ≤ h21.size := Nat.le_trans Z15 (Keep.of_wr W21).1
  have Kp21 : Keep h0 h21 [a1, np] := Kp15.wr W21 (Or.inl (List.mem_of_getElem? (i := 1) rfl))
  have V_np_21 : OAr Z h21 np kn (.array .byte) [(.ref b_15)] := V21
  have N21 := Fr.snoc X21 N15 g_np
  have F_capacity_a1_23 := ((F_capacity_a1_8.keep K15 nin0).other W21 (Or.inl (own_pw nd0 0 1 (by decide) rfl rfl)))
  obtain ⟨T24, X24, e24, st24⟩ := getF X21 hx hZ hown (host := "") (Or.inl (ow hw 22 rfl)) Via.refl e21 F_capacity_a1_23 (g := (mkF m 89 #[rv a1, iv p1] [(.ref a1)])) rfl rfl (hb hby d6_89)
  replace K : OGo p e below A0 T24 (mkF m 92 #[rv a1, iv p1] [(.int (own_max p1 (cap * (2 : Int32))))]) := fun t k => K t (st8 t (XS.aloadN X8.here hx rfl (hb hby d6_38) rfl rfl (st10 t (XS.iconst X10.here hx rfl (hb hby d6_42) (own_ldA X10 hx hZ e10 V_np_11 rfl (j := (0 : Int32)) (v := (.ref pg)) (by decide) rfl (g := (mkF m 43 #[rv a1, iv p1] [(.int 0), (.ref np)])) rfl rfl (hb hby d6_43) t (XS.ifnullNo X10.here hx rfl (hb hby d6_44) rfl (XS.aloadN X10.here hx rfl (hb hby d6_47) rfl rfl (st12 t (XS.iconst X12.here hx rfl (hb hby d6_51) (XS.aloadN X12.here hx rfl (hb hby d6_52) rfl rfl (st13 t (XS.iconst X13.here hx rfl (hb hby d6_56) (own_ldA X13 hx hZ e13 V_np_11 rfl (j := (0 : Int32)) (v := (.ref pg)) (by decide) rfl (g := (mkF m 57 #[rv a1, iv p1] [(.int 0), (.ref np), (.int 0), (.ref np)])) rfl rfl (hb hby d6_57) t (XS.aloadN X13.here hx rfl (hb hby d6_58) rfl rfl (st14 t (st15 t (st21 t (XS.goto X21.here hx rfl (pc0 := 66) (pc' := 88) rfl (hb hby d6_66) (by decide) (by decide) (XS.aloadN X21.here hx rfl (hb hby d6_88) rfl rfl (st24 t k))))))))))))))))))))
  replace K : OGo p e below A0 T24 (mkF m 184 #[rv a1, iv p1] []) := fun t k => K t (XS.iloadN X24.here hx rfl (hb hby d6_92) rfl (XS.icmpYes X24.here hx rfl (pc0 := 93) (pc' := 184) rfl (hb hby d6_93) rfl (flt ((own_g3 hg) : ¬ ((own_max p1 (cap * (2 : Int32))) < p1))).2.1 (by decide) (by decide) k))
  have E_a1_25 := ((E_a1_17.keep K15).wr W21)
  have F_narrowPages_a1_26 := ((F_narrowPages_a1_9.keep K15 nin0).other W21 (Or.inl (own_pw nd0 0 1 (by decide) rfl rfl)))
  have F_widePages_a1_27 := (((F_widePages_a1.other W8 (Or.inr (sn_cN0_widePages_capacity hw))).keep K15 nin0).other W21 (Or.inl (own_pw nd0 0 1 (by decide) rfl rfl)))
  have F_pageCount_a1_28 := (((F_pageCount_a1.other W8 (Or.inr (sn_cN0_pageCount_capacity hw))).keep K15 nin0).other W21 (Or.inl (own_pw nd0 0 1 (by decide) rfl rfl)))
  have F_length_a1_29 := (((F_length_a1.other W8 (Or.inr (sn_cN0_length_capacity hw))).keep K15 nin0).other W21 (Or.inl (own_pw nd0 0 1 (by decide) rfl rfl)))
  have V_wp_30 := ((V_wp_18.keep K15 nin0).other W21 (Ne.symm (own_pw nd0 1 2 (by decide) rfl rfl)))
  have E_b_15_31 := (P15_1.wr W21)
  have G_b_15_32 := (P15_2.other W21 (Ne.symm ne_np_b_15))
  obtain ⟨fs, hr, hrun, hended, hW, hsame⟩ := X24.leave (v := none) (fun _ => rfl)
  subst hA0
  refine ⟨_, _, K _ (X24.returnOut hx Bd.returns (hb hby d6_184) hr), hrun, hended, _, _, rfl, ?_, ⟨_, rfl⟩, hW, hsame.mono (by decide) (by decide)⟩
  show Q_growN Z a1 p1 np wp pg kn kw kp cap len cs fw h0 n0 _ T24.heap _
  rw [e24]
  exact ⟨rfl, N21, b_15, kb_15, Kp21, sz_b_15, E_a1_25, F_narrowPages_a1_26, F_widePages_a1_27, F_pageCount_a1_28, F_capacity_a1_23, F_length_a1_29, V_np_21, V_wp_30, E_b_15_31, G_b_15_32⟩
theorem d6_69 : Dc6 69 (.aload_n 0) 1 := by decide +kernel
theorem d6_70 : Dc6 70 (.getfield 17) 3 := by decide +kernel
theorem d6_73 : Dc6 73 (.iconst 0) 1 := by decide +kernel
theorem d6_74 : Dc6 74 (.aload_n 0) 1 := by decide +kernel
theorem d6_75 : Dc6 75 (.getfield 17) 3 := by decide +kernel
theorem d6_78 : Dc6 78 (.iconst 0) 1 := by decide +kernel
theorem d6_79 : Dc6 79 (.aaload) 1 := by decide +kernel
theorem d6_80 : Dc6 80 (.aload_n 0) 1 := by decide +kernel
theorem d6_81 : Dc6 81 (.getfield 25) 3 := by decide +kernel
theorem d6_84 : Dc6 84 (.invokestatic 124) 3 := by decide +kernel
theorem pd___CI__C : parseMethodDescriptor "([CI)[C" = some ⟨[(.array .char), .int], some (.array .char)⟩ := by decide +kernel
theorem d6_87 : Dc6 87 (.aastore) 1 := by decide +kernel
def Q_growW (Z : State) (a1 : Addr) (p1 : Int32) (np : Addr) (wp : Addr) (pg : Addr) (kn : ClassId) (kw : ClassId) (kp : ClassId) (cap : Int32) (len : Int32) (cs : Int32) (fw : Value) (h0 : Heap) (n0 : Nat) (v : Option Value) (h : Heap) (L : List Loc) : Prop := v = none ∧ Fr n0 L ∧ ∃ (pg2 : Addr) (kp2 : ClassId), Keep h0 h [a1, wp] ∧ h0.size ≤ pg2 ∧ Exa Z h a1 cN0 ∧ Fld Z h a1 cN0 "narrowPages" "[[B" (.ref np) ∧ Fld Z h a1 cN0 "widePages" "[[C" (.ref wp) ∧ Fld Z h a1 cN0 "pageCount" "I" (.int (1 : Int32)) ∧ Fld Z h a1 cN0 "capacity" "I" (.int (own_max p1 (cap * (2 : Int32)))) ∧ Fld Z h a1 cN0 "length" "I" (.int len) ∧ OAr Z h np kn (.array .byte) [.null] ∧ OAr Z h wp kw (.array .char) [(.ref pg2)] ∧ Exa Z h pg2 "[C" ∧ OPg Z h pg2 kp2 .char (own_max p1 (cap * (2 : Int32)))
theorem rm_growW (l : Launch) (Z : State) (a0 : Array Value) (hw : ∀ d ∈ tables_1, d.before a0 Z = true) (ws : List Jvm.Cond) (a1 : Addr) (p1 : Int32) (np : Addr) (wp : Addr) (pg : Addr) (kn : ClassId) (kw : ClassId) (kp : ClassId) (cap : Int32) (len : Int32) (cs : Int32) (fw : Value) (h0 : Heap) (n0 : Nat) (Z0 : n0 ≤ h0.size) (hST : own_ST Z cs fw) (O_0 : Old Z n0 h0) (ovn : OvrA Z kn .byte "[B") (ovw : OvrA Z kw .char "[C") (E_a1 : Exa Z h0 a1 cN0) (F_narrowPages_a1 : Fld Z h0 a1 cN0 "narrowPages" "[[B" (.ref np)) (F_widePages_a1 : Fld Z h0 a1 cN0 "widePages" "[[C" (.ref wp)) (F_pageCount_a1 : Fld Z h0 a1 cN0 "pageCount" "I" (.int (1 : Int32))) (F_capacity_a1 : Fld Z h0 a1 cN0 "capacity" "I" (.int cap)) (F_length_a1 : Fld Z h0 a1 cN0 "length" "I" (.int len)) (V_np : OAr Z h0 np kn (.array .byte) [.null]) (V_wp : OAr Z h0 wp kw (.array .char) [(.ref pg)]) (E_pg : Exa Z h0 pg "[C") (G_pg : OPg Z h0 pg kp .char cap) (g_a1 : n0 ≤ a1) (g_np : n0 ≤ np) (g_wp : n0 ≤ wp) (g_pg : n0 ≤ pg) (nd0 : OND [a1, np, wp, pg]) (hg : 0 ≤ cap.toInt ∧ cap.toInt < p1.toInt ∧ p1.toInt ≤ 6) :
    oM l mN7 prog_89_method_12_code 2 none ws ({ frames := 2, cells := 1, slots := 15, locals := 36 } : Room) #[(.ref a1), (.int p1)] Z h0 (Q_growW Z a1 p1 np wp pg kn kw kp cap len cs fw h0 n0) := by
  refine MetFree.of_bodySF (plainFor_of_name pn_com_example_imprint_imprint_tree_PagedText) hisR ?_
  intro p e s m args below meth c s₁ Bd hml0 hP hK
  obtain ⟨rfl, hZ, hh⟩ := hP
  have hx := Bd.exec
  have hby := Bd.bytes
  have hml : c.maxLocals = 2 := hml0
  have hown : s.vm.findClass "com/example/imprint/imprint/tree/PagedText" = some m.cls := findClass_of_methodNamed Bd.named
  have hnm := (name_of_methodNamed Bd.named Bd.method).1
  have X0 : Stand p l e ({ frames := 2, cells := 1, slots := 15, locals := 36 } : Room) s m #[(.ref a1), (.int p1)] below meth c s₁ [] 0 0 := Stand.of_body Bd
  have e0 : s₁.heap = h0 := by rw [← hh, Bd.state]; rfl
  have N0 := Fr.nil n0
  obtain ⟨A0, hA0⟩ : ∃ z, z = s₁.setTop (entryFrame m #[(.ref a1), (.int p1)] 2) := ⟨_, rfl⟩
  have K : OGo p e below A0 s₁ (mkF m 0 #[rv a1, iv p1] []) := fun t k => hA0 ▸ castTop (ef_6 m a1 p1) k
  obtain ⟨T1, X1, e1, st1⟩ := getF X0 hx hZ hown (host := "") (Or.inl (ow hw 20 rfl)) Via.refl e0 F_pageCount_a1 (g := (mkF m 1 #[rv a1, iv p1] [(.ref a1)])) rfl rfl (hb hby d6_1)
  obtain ⟨T2, X2, e2, st2⟩ := getF X1 hx hZ hown (host := "") (Or.inl (ow hw 22 rfl)) Via.refl e1 F_capacity_a1 (g := (mkF m 9 #[rv a1, iv p1] [(.ref a1)])) rfl rfl (hb hby d6_9)
  obtain ⟨T3, X3, e3, st3⟩ := getS2 X2 hx hZ hown (host := "") (Or.inl (ow hw 44 rfl)) Via.refl e2 (hST.ps.ext O_0.2) (g := (mkF m 12 #[rv a1, iv p1] [(.int cap)])) rfl (hb hby d6_12)
  obtain ⟨T4, X4, e4, st4⟩ := getS2 X3 hx hZ hown (host := "") (Or.inl (ow hw 44 rfl)) Via.refl e3 (hST.ps.ext O_0.2) (g := (mkF m 19 #[rv a1, iv p1] [(.ref a1)])) rfl (hb hby d6_19)
  obtain ⟨T5, X5, e5, st5⟩ := getF X4 hx hZ hown (host := "") (Or.inl (ow hw 22 rfl)) Via.refl e4 F_capacity_a1 (g := (mkF m 24 #[rv a1, iv p1] [(.ref a1), (.int p1), (.int 65536), (.ref a1)])) rfl rfl (hb hby d6_24)
  obtain ⟨_, _, ⟨T6, L6, k6, n6⟩, -, X6, ⟨Lc6, hQ6, l6, y6, z6⟩, st6⟩ := Jvm.LawKit.callS X5 hx (y := mN1) hown (mvT hZ (ow hw 46 rfl)) (mvT hZ (ow hw 47 rfl)) (mvT hZ (ow hw 48 rfl)) (mvT hZ (ow hw 49 rfl)) (by decide) (backOf (W := 2) (rm_max l Z a0 hw [] p1 (cap * (2 : Int32)) h0 n0 Z0 ) hZ (ow hw 49 rfl) (ow hw 48 rfl) (by decide) (by decide)) (g := (mkF m 29 #[rv a1, iv p1] [(.int (cap * (2 : Int32))), (.int p1), (.int 65536), (.ref a1)])) rfl (by rw [hml]; rfl) (argsL := [(.int p1), (.int (cap * (2 : Int32)))]) (rest := [(.int (65536 : Int32)), (.ref a1)]) (lenOf pd__II_I rfl) rfl (by show 2 * 0 + _ ≤ _; exact Nat.le_of_eq rfl) (hb hby d6_29) (fun _ _ => ⟨rfl, e5, (by decide : 0 + 0 ≤ _), (by decide : 0 + 0 ≤ _)⟩)
  dsimp only [Pt.U, Pt.locs, Pt.cells, Pt.slots] at X6 l6 y6 z6 st6 hQ6
  subst l6 y6 z6
  obtain ⟨rfl, Nq6, e6⟩ := hQ6
  have N6 := Fr.app N0 Nq6
  obtain ⟨_, _, ⟨T7, L7, k7, n7⟩, -, X7, ⟨Lc7, hQ7, l7, y7, z7⟩, st7⟩ := Jvm.LawKit.callS X6 hx (y := mN0) hown (mvT hZ (ow hw 50 rfl)) (mvT hZ (ow hw 51 rfl)) (mvT hZ (ow hw 48 rfl)) (mvT hZ (ow hw 52 rfl)) (by decide) (backOf (W := 1) (rm_min l Z a0 hw [] (65536 : Int32) (own_max p1 (cap * (2 : Int32))) h0 n0 Z0 ) hZ (ow hw 52 rfl) (ow hw 48 rfl) (by decide) (by decide)) (g := (mkF m 32 #[rv a1, iv p1] [(.int (own_max p1 (cap * (2 : Int32)))), (.int 65536), (.ref a1)])) rfl (by rw [hml]; rfl) (argsL := [(.int (65536 : Int32)), (.int (own_max p1 (cap * (2 : Int32))))]) (rest := [(.ref a1)]) (lenOf pd__II_I rfl) rfl (by show 2 * 0 + _ ≤ _; exact Nat.le_of_eq rfl) (hb hby d6_32) (fun _ _ => ⟨rfl, e6, (by decide : 0 + 0 ≤ _), (by decide : 0 + 0 ≤ _)⟩)
  dsimp only [Pt.U, Pt.locs, Pt.cells, Pt.slots] at X7 l7 y7 z7 st7 hQ7
  subst l7 y7 z7
  obtain ⟨rfl, Nq7, e7⟩ := hQ7
  have N7 := Fr.app N6 Nq7
  replace K : OGo p e below A0 T7 (mkF m 35 #[rv a1, iv p1] [(.int (own_min (65536 : Int32) (own_max p1 (cap * (2 : Int32))))), (.ref a1)]) := fun t k => K t (XS.aloadN X0.here hx rfl (hb hby d6_0) rfl rfl (st1 t (XS.iconst X1.here hx rfl (hb hby d6_4) (XS.icmpNo X1.here hx rfl (hb hby d6_5) rfl (teq ((by decide : (1 : Int32) = (1 : Int32)) : (1 : Int32) = (1 : Int32))).2 (XS.aloadN X1.here hx rfl (hb hby d6_8) rfl rfl (st2 t (st3 t (XS.icmpNo X3.here hx rfl (hb hby d6_15) rfl (tlt ((own_g1 hg) : cap < (65536 : Int32))).2.1 (XS.aloadN X3.here hx rfl (hb hby d6_18) rfl rfl (st4 t (XS.iloadN X4.here hx rfl (hb hby d6_22) rfl (XS.aloadN X4.here hx rfl (hb hby d6_23) rfl rfl (st5 t (XS.iconst X5.here hx rfl (hb hby d6_27) (XS.imul X5.here hx rfl (hb hby d6_28) rfl (st6 t (st7 t k)))))))))))))))))
  rw [show (own_min (65536 : Int32) (own_max p1 (cap * (2 : Int32)))) = (own_max p1 (cap * (2 : Int32))) from own_g2 hg] at K
  obtain ⟨T8, h8, X8, e8, W8, st8⟩ := putF X7 hx hZ hown (host := "") (Or.inl (ow hw 22 rfl)) Via.refl e7 F_capacity_a1 E_a1 (Or.inl (ow hw 23 rfl)) (ow hw 2 rfl) (ty := .int) (by decide) rfl rfl (g := (mkF m 35 #[rv a1, iv p1] [(.int (own_max p1 (cap * (2 : Int32)))), (.ref a1)])) rfl rfl (hb hby d6_35)
  have Z8 : n0 ≤ h8.size := Nat.le_trans Z0 (Keep.of_wr W8).1
  have Kp8 : Keep h0 h8 [a1, wp] := (Keep.refl h0 [a1, wp]).wr W8 (Or.inl (List.mem_of_getElem? (i := 0) rfl))
  have F_capacity_a1_8 := F_capacity_a1.same W8
  have N8 := Fr.snoc X8 N7 g_a1
  have F_narrowPages_a1_9 := (F_narrowPages_a1.other W8 (Or.inr (sn_cN0_narrowPages_capacity hw)))
  obtain ⟨T10, X10, e10, st10⟩ := getF X8 hx hZ hown (host := "") (Or.inl (ow hw 14 rfl)) Via.refl e8 F_narrowPages_a1_9 (g := (mkF m 39 #[rv a1, iv p1] [(.ref a1)])) rfl rfl (hb hby d6_39)
  have V_np_11 := (V_np.other W8 (Ne.symm (own_pw nd0 0 1 (by decide) rfl rfl)))
  have F_widePages_a1_12 := (F_widePages_a1.other W8 (Or.inr (sn_cN0_widePages_capacity hw)))
  obtain ⟨T13, X13, e13, st13⟩ := getF X10 hx hZ hown (host := "") (Or.inl (ow hw 18 rfl)) Via.refl e10 F_widePages_a1_12 (g := (mkF m 70 #[rv a1, iv p1] [(.ref a1)])) rfl rfl (hb hby d6_70)
  obtain ⟨T14, X14, e14, st14⟩ := getF X13 hx hZ hown (host := "") (Or.inl (ow hw 18 rfl)) Via.refl e13 F_widePages_a1_12 (g := (mkF m 75 #[rv a1, iv p1] [(.ref a1), (.int 0), (.ref wp)])) rfl rfl (hb hby d6_75)
  have V_wp_15 := (V_wp.other W8 (Ne.symm (own_pw nd0 0 2 (by decide) rfl rfl)))
  obtain ⟨T16, X16, e16, st16⟩ := getF X14 hx hZ hown (host := "") (Or.inl (ow hw 22 rfl)) Via.refl e14 F_capacity_a1_8 (g := (mkF m 81 #[rv a1, iv p1] [(.ref a1), (.ref pg), (.int 0), (.ref wp)])) rfl rfl (hb hby d6_81)
  have G_pg_18 := (G_pg.other W8 (Ne.symm (own_pw nd0 0 3 (by decide) rfl rfl)))
  obtain ⟨_, _, ⟨T17, L17, k17, n17⟩, -, X17, ⟨Lc17, hQ17, l17, y17, z17⟩, st17⟩ := Jvm.LawKit.callS X16 hx (y := mN3) hown (mvT hZ (ow hw 193 rfl)) (mvT hZ (ow hw 194 rfl)) (mvT hZ (ow hw 55 rfl)) (mvT hZ (ow hw 195 rfl)) (by decide) (backOf (W := 2) (rm_copyC l Z a0 hw [] pg (own_max p1 (cap * (2 : Int32))) kp cap h8 n0 Z8 G_pg_18 (own_g4 hg)) hZ (ow hw 195 rfl) (ow hw 55 rfl) (by decide) (by decide)) (g := (mkF m 84 #[rv a1, iv p1] [(.int (own_max p1 (cap * (2 : Int32)))), (.ref pg), (.int 0), (.ref wp)])) rfl (by rw [hml]; rfl) (argsL := [(.ref pg), (.int (own_max p1 (cap * (2 : Int32))))]) (rest := [(.int (0 : Int32)), (.ref wp)]) (lenOf pd___CI__C rfl) rfl (by show 2 * 0 + _ ≤ _; exact Nat.le_of_eq rfl) (hb hby d6_84) (fun _ _ => ⟨rfl, e16, (by decide : 0 + 1 ≤ _), (by decide : 0 + 15 ≤ _)⟩)
  dsimp only [Pt.U, Pt.locs, Pt.cells, Pt.slots] at X17 l17 y17 z17 st17 hQ17
  subst l17 y17 z17
  obtain ⟨hp17, e17⟩ : ∃ z, T17.heap = z := ⟨_, rfl⟩
  rw [e17] at hQ17
  obtain ⟨b_17, kb_17, rfl, Nq17, K17, P17_0, P17_1, P17_2⟩ := hQ17
  have E_a1_19 := (E_a1.wr W8)
  have ne_a1_b_17 : a1 ≠ b_17 := Nat.ne_of_lt (Nat.lt_of_lt_of_le E_a1_19.lt P17_0)
  have ne_np_b_17 : np ≠ b_17 := Nat.ne_of_lt (Nat.lt_of_lt_of_le V_np_11.lt P17_0)
  have ne_wp_b_17 : wp ≠ b_17 := Nat.ne_of_lt (Nat.lt_of_lt_of_le V_wp_15.lt P17_0)
  have E_pg_20 := (E_pg.wr W8)
  have ne_pg_b_17 : pg ≠ b_17 := Nat.ne_of_lt (Nat.lt_of_lt_of_le E_pg_20.lt P17_0)
  have g_b_17 : n0 ≤ b_17 := Nat.le_trans Z8 P17_0
  have sz_b_17 : h0.size ≤ b_17 := Nat.le_trans Kp8.1 P17_0
  have Z17 : n0 ≤ hp17.size := Nat.le_trans Z8 K17.1
  have Kp17 : Keep h0 hp17 [a1, wp] := Kp8.trans K17 all0
  have N17 := Fr.app N8 Nq17
  have V_wp_21 := (V_wp_15.keep K17 nin0)
  have Sto23 := own_sto V_wp_21 ovw (Ins.self P17_1)
  obtain ⟨T22, h22, X22, e22, W22, V22, st22⟩ := own_stR X17 hx hZ e17 V_wp_21 rfl (j := (0 : Int32)) (by decide) (Nat.le_of_ble_eq_true rfl) Sto23 (g := (mkF m 87 #[rv a1, iv p1] [(.ref b_17), (.int 0), (.ref wp)])) rfl rfl (hb hby d6_87)
  have Z22 : n0 ≤ h22.size := Nat.le_trans Z17 (Keep.of_wr W22).1
  have Kp22 : Keep h0 h22 [a1, wp] := Kp17.wr W22 (Or.inl (List.mem_of_getElem? (i := 1) rfl))
  have V_wp_22 : OAr Z h22 wp kw (.array .char) [(.ref b_17)] := V22
  have N22 := Fr.snoc X22 N17 g_wp
  have F_capacity_a1_24 := ((F_capacity_a1_8.keep K17 nin0).other W22 (Or.inl (own_pw nd0 0 2 (by decide) rfl rfl)))
  obtain ⟨T25, X25, e25, st25⟩ := getF X22 hx hZ hown (host := "") (Or.inl (ow hw 22 rfl)) Via.refl e22 F_capacity_a1_24 (g := (mkF m 89 #[rv a1, iv p1] [(.ref a1)])) rfl rfl (hb hby d6_89)
  replace K : OGo p e below A0 T25 (mkF m 93 #[rv a1, iv p1] [(.int p1), (.int (own_max p1 (cap * (2 : Int32))))]) := fun t k => K t (st8 t (XS.aloadN X8.here hx rfl (hb hby d6_38) rfl rfl (st10 t (XS.iconst X10.here hx rfl (hb hby d6_42) (own_ldA X10 hx hZ e10 V_np_11 rfl (j := (0 : Int32)) (v := .null) (by decide) rfl (g := (mkF m 43 #[rv a1, iv p1] [(.int 0), (.ref np)])) rfl rfl (hb hby d6_43) t (XS.ifnullYes X10.here hx rfl (pc0 := 44) (pc' := 69) rfl (hb hby d6_44) rfl (by decide) (by decide) (XS.aloadN X10.here hx rfl (hb hby d6_69) rfl rfl (st13 t (XS.iconst X13.here hx rfl (hb hby d6_73) (XS.aloadN X13.here hx rfl (hb hby d6_74) rfl rfl (st14 t (XS.iconst X14.here hx rfl (hb hby d6_78) (own_ldA X14 hx hZ e14 V_wp_15 rfl (j := (0 : Int32)) (v := (.ref pg)) (by decide) rfl (g := (mkF m 79 #[rv a1, iv p1] [(.int 0), (.ref wp), (.int 0), (.ref wp)])) rfl rfl (hb hby d6_79) t (XS.aloadN X14.here hx rfl (hb hby d6_80) rfl rfl (st16 t (st17 t (st22 t (XS.aloadN X22.here hx rfl (hb hby d6_88) rfl rfl (st25 t (XS.iloadN X25.here hx rfl (hb hby d6_92) rfl k))))))))))))))))))))
  replace K : OGo p e below A0 T25 (mkF m 184 #[rv a1, iv p1] []) := fun t k => K t (XS.icmpYes X25.here hx rfl (pc0 := 93) (pc' := 184) rfl (hb hby d6_93) rfl (flt ((own_g3 hg) : ¬ ((own_max p1 (cap * (2 : Int32))) < p1))).2.1 (by decide) (by decide) k)
  have E_a1_26 := ((E_a1_19.keep K17).wr W22)
  have F_narrowPages_a1_27 := ((F_narrowPages_a1_9.keep K17 nin0).other W22 (Or.inl (own_pw nd0 0 2 (by decide) rfl rfl)))
  have F_widePages_a1_28 := ((F_widePages_a1_12.keep K17 nin0).other W22 (Or.inl (own_pw nd0 0 2 (by decide) rfl rfl)))
  have F_pageCount_a1_29 := (((F_pageCount_a1.other W8 (Or.inr (sn_cN0_pageCount_capacity hw))).keep K17 nin0).other W22 (Or.inl (own_pw nd0 0 2 (by decide) rfl rfl)))
  have F_length_a1_30 := (((F_length_a1.other W8 (Or.inr (sn_cN0_length_capacity hw))).keep K17 nin0).other W22 (Or.inl (own_pw nd0 0 2 (by decide) rfl rfl)))
  have V_np_31 := ((V_np_11.keep K17 nin0).other W22 (own_pw nd0 1 2 (by decide) rfl rfl))
  have E_b_17_32 := (P17_1.wr W22)
  have G_b_17_33 := (P17_2.other W22 (Ne.symm ne_wp_b_17))
  obtain ⟨fs, hr, hrun, hended, hW, hsame⟩ := X25.leave (v := none) (fun _ => rfl)
  subst hA0
  refine ⟨_, _, K _ (X25.returnOut hx Bd.returns (hb hby d6_184) hr), hrun, hended, _, _, rfl, ?_, ⟨_, rfl⟩, hW, hsame.mono (by decide) (by decide)⟩
  show Q_growW Z a1 p1 np wp pg kn kw kp cap len cs fw h0 n0 _ T25.heap _
  rw [e25]
  exact ⟨rfl, N22, b_17, kb_17, Kp22, sz_b_17, E_a1_26, F_narrowPages_a1_27, F_widePages_a1_28, F_pageCount_a1_29, F_capacity_a1_24, F_length_a1_30, V_np_31, V_wp_22, E_b_17_32, G_b_17_33⟩
theorem ef_25 (m : MethodId) (x0 : Addr) (x1 : Int32) : entryFrame m #[(.ref x0), (.int x1)] 5 = mkF m 0 #[.val (.ref x0), .val (.int x1), .unset, .unset, .unset] [] := by first | (simp [entryFrame, mkF, argsToLocals, Value.category]; done) | rfl
abbrev Dc25 (i : Nat) (c : Instr) (k : Nat) : Prop := decode prog_89_method_11_code i = .ok (c, k)
theorem d25_0 : Dc25 0 (.aload_n 0) 1 := by decide +kernel
theorem d25_1 : Dc25 1 (.getfield 9) 3 := by decide +kernel
theorem d25_4 : Dc25 4 (.iload_n 1) 1 := by decide +kernel
theorem d25_5 : Dc25 5 (.aaload) 1 := by decide +kernel
theorem d25_6 : Dc25 6 (.astore_n 2) 1 := by decide +kernel
theorem d25_7 : Dc25 7 (.aload_n 2) 1 := by decide +kernel
theorem d25_8 : Dc25 8 (.arraylength) 1 := by decide +kernel
theorem d25_9 : Dc25 9 (.newarray .char) 2 := by decide +kernel
theorem d25_11 : Dc25 11 (.astore_n 3) 1 := by decide +kernel
theorem d25_12 : Dc25 12 (.iconst 0) 1 := by decide +kernel
theorem d25_13 : Dc25 13 (.istore 4) 2 := by decide +kernel
theorem d25_15 : Dc25 15 (.iload 4) 2 := by decide +kernel
theorem d25_17 : Dc25 17 (.aload_n 2) 1 := by decide +kernel
theorem d25_18 : Dc25 18 (.arraylength) 1 := by decide +kernel
theorem d25_19 : Dc25 19 (.if_icmp .ge 22) 3 := by decide +kernel
theorem d25_41 : Dc25 41 (.aload_n 0) 1 := by decide +kernel
theorem d25_42 : Dc25 42 (.getfield 17) 3 := by decide +kernel
theorem d25_45 : Dc25 45 (.iload_n 1) 1 := by decide +kernel
theorem d25_46 : Dc25 46 (.aload_n 3) 1 := by decide +kernel
theorem d25_47 : Dc25 47 (.aastore) 1 := by decide +kernel
theorem d25_48 : Dc25 48 (.aload_n 0) 1 := by decide +kernel
theorem d25_49 : Dc25 49 (.getfield 9) 3 := by decide +kernel
theorem d25_52 : Dc25 52 (.iload_n 1) 1 := by decide +kernel
theorem d25_53 : Dc25 53 (.aconst_null) 1 := by decide +kernel
theorem d25_54 : Dc25 54 (.aastore) 1 := by decide +kernel
theorem d25_55 : Dc25 55 (.return_) 1 := by decide +kernel
theorem d25_22 : Dc25 22 (.aload_n 3) 1 := by decide +kernel
theorem d25_23 : Dc25 23 (.iload 4) 2 := by decide +kernel
theorem d25_25 : Dc25 25 (.aload_n 2) 1 := by decide +kernel
theorem d25_26 : Dc25 26 (.iload 4) 2 := by decide +kernel
theorem d25_28 : Dc25 28 (.baload) 1 := by decide +kernel
theorem d25_29 : Dc25 29 (.sipush 255) 3 := by decide +kernel
theorem d25_32 : Dc25 32 (.iand) 1 := by decide +kernel
theorem d25_33 : Dc25 33 (.i2c) 1 := by decide +kernel
theorem d25_34 : Dc25 34 (.castore) 1 := by decide +kernel
theorem d25_35 : Dc25 35 (.iinc 4 1) 3 := by decide +kernel
theorem d25_38 : Dc25 38 (.goto (-23)) 3 := by decide +kernel
def Q_widen (Z : State) (a1 : Addr) (np : Addr) (wp : Addr) (pg : Addr) (kn : ClassId) (kw : ClassId) (kp : ClassId) (cap : Int32) (len : Int32) (h0 : Heap) (n0 : Nat) (v : Option Value) (h : Heap) (L : List Loc) : Prop := v = none ∧ Fr n0 L ∧ ∃ (pg2 : Addr) (kp2 : ClassId), Keep h0 h [np, wp] ∧ h0.size ≤ pg2 ∧ OAr Z h np kn (.array .byte) [.null] ∧ OAr Z h wp kw (.array .char) [(.ref pg2)] ∧ Exa Z h pg2 "[C" ∧ OPg Z h pg2 kp2 .char cap
theorem rm_widen (l : Launch) (Z : State) (a0 : Array Value) (hw : ∀ d ∈ tables_1, d.before a0 Z = true) (ws : List Jvm.Cond) (a1 : Addr) (np : Addr) (wp : Addr) (pg : Addr) (kn : ClassId) (kw : ClassId) (kp : ClassId) (cap : Int32) (len : Int32) (h0 : Heap) (n0 : Nat) (Z0 : n0 ≤ h0.size) (ovn : OvrA Z kn .byte "[B") (ovw : OvrA Z kw .char "[C") (E_a1 : Exa Z h0 a1 cN0) (F_narrowPages_a1 : Fld Z h0 a1 cN0 "narrowPages" "[[B" (.ref np)) (F_widePages_a1 : Fld Z h0 a1 cN0 "widePages" "[[C" (.ref wp)) (F_pageCount_a1 : Fld Z h0 a1 cN0 "pageCount" "I" (.int (1 : Int32))) (F_capacity_a1 : Fld Z h0 a1 cN0 "capacity" "I" (.int cap)) (F_length_a1 : Fld Z h0 a1 cN0 "length" "I" (.int len)) (V_np : OAr Z h0 np kn (.array .byte) [(.ref pg)]) (V_wp : OAr Z h0 wp kw (.array .char) [.null]) (E_pg : Exa Z h0 pg "[B") (G_pg : OPg Z h0 pg kp .byte cap) (g_np : n0 ≤ np) (g_wp : n0 ≤ wp) (nd0 : OND [a1, np, wp, pg]) (hc : 0 ≤ cap.toInt ∧ cap.toInt ≤ 15) :
    oM l mN8 prog_89_method_11_code 5 none ws ({ frames := 0, cells := 1, slots := 15, locals := 0 } : Room) #[(.ref a1), (.int (0 : Int32))] Z h0 (Q_widen Z a1 np wp pg kn kw kp cap len h0 n0) := by
  refine MetFree.of_bodySF (plainFor_of_name pn_com_example_imprint_imprint_tree_PagedText) hisR ?_
  intro p e s m args below meth c s₁ Bd hml0 hP hK
  obtain ⟨rfl, hZ, hh⟩ := hP
  have hx := Bd.exec
  have hby := Bd.bytes
  have hml : c.maxLocals = 5 := hml0
  have hown : s.vm.findClass "com/example/imprint/imprint/tree/PagedText" = some m.cls := findClass_of_methodNamed Bd.named
  have hnm := (name_of_methodNamed Bd.named Bd.method).1
  have X0 : Stand p l e ({ frames := 0, cells := 1, slots := 15, locals := 0 } : Room) s m #[(.ref a1), (.int (0 : Int32))] below meth c s₁ [] 0 0 := Stand.of_body Bd
  have e0 : s₁.heap = h0 := by rw [← hh, Bd.state]; rfl
  have N0 := Fr.nil n0
  obtain ⟨A0, hA0⟩ : ∃ z, z = s₁.setTop (entryFrame m #[(.ref a1), (.int (0 : Int32))] 5) := ⟨_, rfl⟩
  have K : OGo p e below A0 s₁ (mkF m 0 #[rv a1, iv 0, .unset, .unset, .unset] []) := fun t k => hA0 ▸ castTop (ef_25 m a1 (0 : Int32)) k
  obtain ⟨T1, X1, e1, st1⟩ := getF X0 hx hZ hown (host := "") (Or.inl (ow hw 14 rfl)) Via.refl e0 F_narrowPages_a1 (g := (mkF m 1 #[rv a1, iv 0, .unset, .unset, .unset] [(.ref a1)])) rfl rfl (hb hby d25_1)
  obtain ⟨T2, h2, k2, X2, e2, E2, A2, Q2, st2⟩ := newPE X1 hx hZ (ow hw 0 rfl) e1 (g := (mkF m 9 #[rv a1, iv 0, rv pg, .unset, .unset] [(.int cap)])) rfl (hb hby d25_9) rfl (own_nn hc.1) (cap := 15) (own_nle hc.2) (by decide) (by decide) (by decide) (ad := "[C") (by decide)
  obtain ⟨b2, gz2⟩ : ∃ z, z = h0.size := ⟨_, rfl⟩
  rw [← gz2] at A2 Q2 st2
  have ne_a1_b2 : a1 ≠ b2 := Nat.ne_of_lt (Nat.lt_of_lt_of_le E_a1.lt (Nat.le_of_eq gz2.symm))
  have ne_np_b2 : np ≠ b2 := Nat.ne_of_lt (Nat.lt_of_lt_of_le V_np.lt (Nat.le_of_eq gz2.symm))
  have ne_wp_b2 : wp ≠ b2 := Nat.ne_of_lt (Nat.lt_of_lt_of_le V_wp.lt (Nat.le_of_eq gz2.symm))
  have ne_pg_b2 : pg ≠ b2 := Nat.ne_of_lt (Nat.lt_of_lt_of_le E_pg.lt (Nat.le_of_eq gz2.symm))
  have g_b2 : n0 ≤ b2 := Nat.le_trans Z0 (Nat.le_of_eq gz2.symm)
  have sz_b2 : h0.size ≤ b2 := Nat.le_trans (Keep.refl h0 [np, wp]).1 (Nat.le_of_eq gz2.symm)
  have Z2 : n0 ≤ h2.size := Nat.le_trans Z0 E2.1
  have Kp2 : Keep h0 h2 [np, wp] := (Keep.refl h0 [np, wp]).ext E2
  have G_b2 : OPg Z h2 b2 k2 .char cap := OPg.new A2 (own_nn hc.1) rfl
  replace K : OGo p e below A0 T2 (mkF m 15 #[rv a1, iv 0, rv pg, rv b2, iv 0] []) := fun t k => K t (XS.aloadN X0.here hx rfl (hb hby d25_0) rfl rfl (st1 t (XS.iloadN X1.here hx rfl (hb hby d25_4) rfl (own_ldA X1 hx hZ e1 V_np rfl (j := (0 : Int32)) (v := (.ref pg)) (by decide) rfl (g := (mkF m 5 #[rv a1, iv 0, .unset, .unset, .unset] [(.int 0), (.ref np)])) rfl rfl (hb hby d25_5) t (XS.astoreN X1.here hx rfl (hb hby d25_6) rfl rfl (l' := #[rv a1, iv 0, rv pg, .unset, .unset]) rfl (XS.aloadN X1.here hx rfl (hb hby d25_7) rfl rfl (own_lenP X1 hx hZ e1 G_pg (g := (mkF m 8 #[rv a1, iv 0, rv pg, .unset, .unset] [(.ref pg)])) rfl rfl (hb hby d25_8) t (st2 t (XS.astoreN X2.here hx rfl (hb hby d25_11) rfl rfl (l' := #[rv a1, iv 0, rv pg, rv b2, .unset]) rfl (XS.iconst X2.here hx rfl (hb hby d25_12) (XS.istore X2.here hx rfl (hb hby d25_13) rfl (l' := #[rv a1, iv 0, rv pg, rv b2, iv 0]) rfl k)))))))))))
  have E_a1_4 := (E_a1.ext E2)
  have F_narrowPages_a1_5 := (F_narrowPages_a1.ext E2)
  have F_widePages_a1_6 := (F_widePages_a1.ext E2)
  have F_pageCount_a1_7 := (F_pageCount_a1.ext E2)
  have F_capacity_a1_8 := (F_capacity_a1.ext E2)
  have F_length_a1_9 := (F_length_a1.ext E2)
  have V_np_10 := (V_np.ext E2)
  have V_wp_11 := (V_wp.ext E2)
  have E_pg_12 := (E_pg.ext E2)
  have G_pg_13 := (G_pg.ext E2)
  obtain ⟨nF3, ix, Tl3, hl3, ll3, hI3⟩ : ∃ (nF3 : Nat) (ix : Int32) (Tl3 : State) (hl3 : Heap) (ll3 : List Loc), Stand p l e ({ frames := 0, cells := 1, slots := 15, locals := 0 } : Room) s m #[(.ref a1), (.int (0 : Int32))] below meth c Tl3 ll3 1 15 ∧ Tl3.heap = hl3 ∧ Fr n0 ll3 ∧ n0 ≤ hl3.size ∧ Keep h0 hl3 [np, wp] ∧ Exa Z hl3 a1 cN0 ∧ Fld Z hl3 a1 cN0 "narrowPages" "[[B" (.ref np) ∧ Fld Z hl3 a1 cN0 "widePages" "[[C" (.ref wp) ∧ Fld Z hl3 a1 cN0 "pageCount" "I" (.int (1 : Int32)) ∧ Fld Z hl3 a1 cN0 "capacity" "I" (.int cap) ∧ Fld Z hl3 a1 cN0 "length" "I" (.int len) ∧ OAr Z hl3 np kn (.array .byte) [(.ref pg)] ∧ OAr Z hl3 wp kw (.array .char) [.null] ∧ Exa Z hl3 pg "[B" ∧ OPg Z hl3 pg kp .byte cap ∧ Exa Z hl3 b2 "[C" ∧ OPg Z hl3 b2 k2 .char cap ∧ (cap.toInt = ix.toInt + (nF3 : Int) ∧ 0 ≤ ix.toInt) ∧ OGo p e below A0 Tl3 (mkF m 15 #[rv a1, iv 0, rv pg, rv b2, iv ix] []) := ⟨cap.toNatClampNeg, (0 : Int32), _, _, _, X2, e2, N0, Z2, Kp2, E_a1_4, F_narrowPages_a1_5, F_widePages_a1_6, F_pageCount_a1_7, F_capacity_a1_8, F_length_a1_9, V_np_10, V_wp_11, E_pg_12, G_pg_13, Q2, G_b2, (own_f0 hc), K⟩
  clear K
  induction nF3 generalizing ix Tl3 hl3 ll3 with
  | zero =>
    obtain ⟨Xl3, el3, Nl3, Zl3, Kl3, E_a1_l3, F_narrowPages_a1_l3, F_widePages_a1_l3, F_pageCount_a1_l3, F_capacity_a1_l3, F_length_a1_l3, V_np_l3, V_wp_l3, E_pg_l3, G_pg_l3, E_b2_l3, G_b2_l3, hF, K⟩ := hI3
    obtain ⟨T14, X14, e14, st14⟩ := getF Xl3 hx hZ hown (host := "") (Or.inl (ow hw 18 rfl)) Via.refl el3 F_widePages_a1_l3 (g := (mkF m 42 #[rv a1, iv 0, rv pg, rv b2, iv ix] [(.ref a1)])) rfl rfl (hb hby d25_42)
    have Sto16 := own_sto V_wp_l3 ovw (Ins.self E_b2_l3)
    obtain ⟨T15, h15, X15, e15, W15, V15, st15⟩ := own_stR X14 hx hZ e14 V_wp_l3 rfl (j := (0 : Int32)) (by decide) (Nat.le_of_ble_eq_true rfl) Sto16 (g := (mkF m 47 #[rv a1, iv 0, rv pg, rv b2, iv ix] [(.ref b2), (.int 0), (.ref wp)])) rfl rfl (hb hby d25_47)
    have Z15 : n0 ≤ h15.size := Nat.le_trans Zl3 (Keep.of_wr W15).1
    have Kp15 : Keep h0 h15 [np, wp] := Kl3.wr W15 (Or.inl (List.mem_of_getElem? (i := 1) rfl))
    have V_wp_15 : OAr Z h15 wp kw (.array .char) [(.ref b2)] := V15
    have N15 := Fr.snoc X15 Nl3 g_wp
    have F_narrowPages_a1_l3_17 := (F_narrowPages_a1_l3.other W15 (Or.inl (own_pw nd0 0 2 (by decide) rfl rfl)))
    obtain ⟨T18, X18, e18, st18⟩ := getF X15 hx hZ hown (host := "") (Or.inl (ow hw 14 rfl)) Via.refl e15 F_narrowPages_a1_l3_17 (g := (mkF m 49 #[rv a1, iv 0, rv pg, rv b2, iv ix] [(.ref a1)])) rfl rfl (hb hby d25_49)
    have V_np_l3_19 := (V_np_l3.other W15 (own_pw nd0 1 2 (by decide) rfl rfl))
    obtain ⟨T20, h20, X20, e20, W20, V20, st20⟩ := own_stR X18 hx hZ e18 V_np_l3_19 rfl (j := (0 : Int32)) (by decide) (Nat.le_of_ble_eq_true rfl) (Or.inl rfl) (g := (mkF m 54 #[rv a1, iv 0, rv pg, rv b2, iv ix] [.null, (.int 0), (.ref np)])) rfl rfl (hb hby d25_54)
    have Z20 : n0 ≤ h20.size := Nat.le_trans Z15 (Keep.of_wr W20).1
    have Kp20 : Keep h0 h20 [np, wp] := Kp15.wr W20 (Or.inl (List.mem_of_getElem? (i := 0) rfl))
    have V_np_20 : OAr Z h20 np kn (.array .byte) [.null] := V20
    have N20 := Fr.snoc X20 N15 g_np
    replace K : OGo p e below A0 T20 (mkF m 55 #[rv a1, iv 0, rv pg, rv b2, iv ix] []) := fun t k => K t (XS.iload Xl3.here hx rfl (hb hby d25_15) rfl (XS.aloadN Xl3.here hx rfl (hb hby d25_17) rfl rfl (own_lenP Xl3 hx hZ el3 G_pg_l3 (g := (mkF m 18 #[rv a1, iv 0, rv pg, rv b2, iv ix] [(.ref pg), (.int ix)])) rfl rfl (hb hby d25_18) t (XS.icmpYes Xl3.here hx rfl (pc0 := 19) (pc' := 41) rfl (hb hby d25_19) rfl (flt ((own_nlt (by omega)) : ¬ (ix < cap))).2.1 (by decide) (by decide) (XS.aloadN Xl3.here hx rfl (hb hby d25_41) rfl rfl (st14 t (XS.iloadN X14.here hx rfl (hb hby d25_45) rfl (XS.aloadN X14.here hx rfl (hb hby d25_46) rfl rfl (st15 t (XS.aloadN X15.here hx rfl (hb hby d25_48) rfl rfl (st18 t (XS.iloadN X18.here hx rfl (hb hby d25_52) rfl (XS.aconstNull X18.here hx rfl (hb hby d25_53) (st20 t k))))))))))))))
    have V_wp_21 := (V_wp_15.other W20 (Ne.symm (own_pw nd0 1 2 (by decide) rfl rfl)))
    have E_b2_l3_22 := ((E_b2_l3.wr W15).wr W20)
    have G_b2_l3_23 := ((G_b2_l3.other W15 (Ne.symm ne_wp_b2)).other W20 (Ne.symm ne_np_b2))
    obtain ⟨fs, hr, hrun, hended, hW, hsame⟩ := X20.leave (v := none) (fun _ => rfl)
    subst hA0
    refine ⟨_, _, K _ (X20.returnOut hx Bd.returns (hb hby d25_55) hr), hrun, hended, _, _, rfl, ?_, ⟨_, rfl⟩, hW, hsame.mono (by decide) (by decide)⟩
    show Q_widen Z a1 np wp pg kn kw kp cap len h0 n0 _ T20.heap _
    rw [e20]
    exact ⟨rfl, N20, b2, k2, Kp20, sz_b2, V_np_20, V_wp_21, E_b2_l3_22, G_b2_l3_23⟩
  | succ nF3 ih3 =>
    obtain ⟨Xl3, el3, Nl3, Zl3, Kl3, E_a1_l3, F_narrowPages_a1_l3, F_widePages_a1_l3, F_pageCount_a1_l3, F_capacity_a1_l3, F_length_a1_l3, V_np_l3, V_wp_l3, E_pg_l3, G_pg_l3, E_b2_l3, G_b2_l3, hF, K⟩ := hI3
    obtain ⟨w24, st24⟩ := own_ldBp Xl3 hx hZ el3 G_pg_l3 (j := ix) (own_nn hF.2) (own_ltN (by omega)) (g := (mkF m 28 #[rv a1, iv 0, rv pg, rv b2, iv ix] [(.int ix), (.ref pg), (.int ix), (.ref b2)])) rfl rfl (hb hby d25_28)
    obtain ⟨T25, h25, X25, e25, W25, G25, st25⟩ := own_stCp Xl3 hx hZ el3 G_b2_l3 (j := ix) (own_nn hF.2) (own_ltN (by omega)) (g := (mkF m 34 #[rv a1, iv 0, rv pg, rv b2, iv ix] [(.int ((w24 &&& (255 : Int32)).toUInt32.toUInt16.toUInt32.toInt32)), (.int ix), (.ref b2)])) rfl rfl (hb hby d25_34)
    have Z25 : n0 ≤ h25.size := Nat.le_trans Zl3 (Keep.of_wr W25).1
    have Kp25 : Keep h0 h25 [np, wp] := Kl3.wr W25 (Or.inr sz_b2)
    have N25 := Fr.snoc X25 Nl3 g_b2
    replace K : OGo p e below A0 T25 (mkF m 15 #[rv a1, iv 0, rv pg, rv b2, iv (ix + (1 : Int32))] []) := fun t k => K t (XS.iload Xl3.here hx rfl (hb hby d25_15) rfl (XS.aloadN Xl3.here hx rfl (hb hby d25_17) rfl rfl (own_lenP Xl3 hx hZ el3 G_pg_l3 (g := (mkF m 18 #[rv a1, iv 0, rv pg, rv b2, iv ix] [(.ref pg), (.int ix)])) rfl rfl (hb hby d25_18) t (XS.icmpNo Xl3.here hx rfl (hb hby d25_19) rfl (tlt ((own_lt (by omega)) : ix < cap)).2.1 (XS.aloadN Xl3.here hx rfl (hb hby d25_22) rfl rfl (XS.iload Xl3.here hx rfl (hb hby d25_23) rfl (XS.aloadN Xl3.here hx rfl (hb hby d25_25) rfl rfl (XS.iload Xl3.here hx rfl (hb hby d25_26) rfl (st24 t (XS.sipush Xl3.here hx rfl (hb hby d25_29) (XS.iand Xl3.here hx rfl (hb hby d25_32) rfl (XS.i2c Xl3.here hx rfl (hb hby d25_33) rfl (st25 t (XS.iinc X25.here hx rfl (hb hby d25_35) rfl (l' := #[rv a1, iv 0, rv pg, rv b2, iv (ix + (1 : Int32))]) rfl (XS.goto X25.here hx rfl (pc0 := 38) (pc' := 15) rfl (hb hby d25_38) (by decide) (by decide) k)))))))))))))))
    have E_a1_l3_26 := (E_a1_l3.wr W25)
    have F_narrowPages_a1_l3_27 := (F_narrowPages_a1_l3.other W25 (Or.inl ne_a1_b2))
    have F_widePages_a1_l3_28 := (F_widePages_a1_l3.other W25 (Or.inl ne_a1_b2))
    have F_pageCount_a1_l3_29 := (F_pageCount_a1_l3.other W25 (Or.inl ne_a1_b2))
    have F_capacity_a1_l3_30 := (F_capacity_a1_l3.other W25 (Or.inl ne_a1_b2))
    have F_length_a1_l3_31 := (F_length_a1_l3.other W25 (Or.inl ne_a1_b2))
    have V_np_l3_32 := (V_np_l3.other W25 ne_np_b2)
    have V_wp_l3_33 := (V_wp_l3.other W25 ne_wp_b2)
    have E_pg_l3_34 := (E_pg_l3.wr W25)
    have G_pg_l3_35 := (G_pg_l3.other W25 ne_pg_b2)
    have E_b2_l3_36 := (E_b2_l3.wr W25)
    exact ih3 (ix + (1 : Int32)) _ _ _ ⟨X25, e25, N25, Z25, Kp25, E_a1_l3_26, F_narrowPages_a1_l3_27, F_widePages_a1_l3_28, F_pageCount_a1_l3_29, F_capacity_a1_l3_30, F_length_a1_l3_31, V_np_l3_32, V_wp_l3_33, E_pg_l3_34, G_pg_l3_35, E_b2_l3_36, G25, (by have := own_inc (i := ix) (by omega); omega), K⟩
theorem pn_com_example_imprint_imprint_tree_PagedTextBytesPinLaw : plainName "com/example/imprint/imprint/tree/PagedTextBytesPinLaw" = true := by first | (simp [plainName, overriddenIn]; done) | decide +kernel
theorem ef_11 (m : MethodId) (x0 : Addr) (x1 : Int32) : entryFrame m #[(.ref x0), (.int x1)] 2 = mkF m 0 #[.val (.ref x0), .val (.int x1)] [] := by first | (simp [entryFrame, mkF, argsToLocals, Value.category]; done) | rfl
abbrev Dc11 (i : Nat) (c : Instr) (k : Nat) : Prop := decode method_2_code i = .ok (c, k)
theorem d11_0 : Dc11 0 (.iload_n 1) 1 := by decide +kernel
theorem d11_1 : Dc11 1 (.ifCond .le 12) 3 := by decide +kernel
theorem d11_4 : Dc11 4 (.aload_n 0) 1 := by decide +kernel
theorem d11_5 : Dc11 5 (.iconst 0) 1 := by decide +kernel
theorem d11_6 : Dc11 6 (.caload) 1 := by decide +kernel
theorem d11_7 : Dc11 7 (.sipush 255) 3 := by decide +kernel
theorem d11_10 : Dc11 10 (.if_icmp .gt 31) 3 := by decide +kernel
theorem d11_41 : Dc11 41 (.iconst 1) 1 := by decide +kernel
theorem d11_42 : Dc11 42 (.goto 4) 3 := by decide +kernel
theorem d11_13 : Dc11 13 (.iload_n 1) 1 := by decide +kernel
theorem d11_14 : Dc11 14 (.iconst 1) 1 := by decide +kernel
theorem d11_15 : Dc11 15 (.if_icmp .le 12) 3 := by decide +kernel
theorem d11_18 : Dc11 18 (.aload_n 0) 1 := by decide +kernel
theorem d11_19 : Dc11 19 (.iconst 1) 1 := by decide +kernel
theorem d11_20 : Dc11 20 (.caload) 1 := by decide +kernel
theorem d11_21 : Dc11 21 (.sipush 255) 3 := by decide +kernel
theorem d11_24 : Dc11 24 (.if_icmp .gt 17) 3 := by decide +kernel
theorem d11_27 : Dc11 27 (.iload_n 1) 1 := by decide +kernel
theorem d11_28 : Dc11 28 (.iconst 2) 1 := by decide +kernel
theorem d11_29 : Dc11 29 (.if_icmp .le 16) 3 := by decide +kernel
theorem d11_32 : Dc11 32 (.aload_n 0) 1 := by decide +kernel
theorem d11_33 : Dc11 33 (.iconst 2) 1 := by decide +kernel
theorem d11_34 : Dc11 34 (.caload) 1 := by decide +kernel
theorem d11_35 : Dc11 35 (.sipush 255) 3 := by decide +kernel
theorem d11_38 : Dc11 38 (.if_icmp .le 7) 3 := by decide +kernel
theorem d11_45 : Dc11 45 (.iconst 0) 1 := by decide +kernel
theorem d11_46 : Dc11 46 (.ireturn) 1 := by decide +kernel
def Q_any (Z : State) (x : Addr) (p1 : Int32) (kx : ClassId) (u0 : Int32) (u1 : Int32) (u2 : Int32) (h0 : Heap) (n0 : Nat) (v : Option Value) (h : Heap) (L : List Loc) : Prop := v = some (.int (own_any u0 u1 u2 p1)) ∧ Fr n0 L ∧ Keep h0 h []
theorem rm_any (l : Launch) (Z : State) (a0 : Array Value) (hw : ∀ d ∈ tables_1, d.before a0 Z = true) (ws : List Jvm.Cond) (x : Addr) (p1 : Int32) (kx : ClassId) (u0 : Int32) (u1 : Int32) (u2 : Int32) (h0 : Heap) (n0 : Nat) (Z0 : n0 ≤ h0.size) (V_x : OAr Z h0 x kx .char [(.int u0), (.int u1), (.int u2)]) :
    oM l mN9 method_2_code 2 (some .boolean) ws ({ frames := 0, cells := 0, slots := 0, locals := 0 } : Room) #[(.ref x), (.int p1)] Z h0 (Q_any Z x p1 kx u0 u1 u2 h0 n0) := by
  refine MetFree.of_bodySF (plainFor_of_name pn_com_example_imprint_imprint_tree_PagedTextBytesPinLaw) hisR ?_
  intro p e s m args below meth c s₁ Bd hml0 hP hK
  obtain ⟨rfl, hZ, hh⟩ := hP
  have hx := Bd.exec
  have hby := Bd.bytes
  have hml : c.maxLocals = 2 := hml0
  have hown : s.vm.findClass "com/example/imprint/imprint/tree/PagedTextBytesPinLaw" = some m.cls := findClass_of_methodNamed Bd.named
  have hnm := (name_of_methodNamed Bd.named Bd.method).1
  have X0 : Stand p l e ({ frames := 0, cells := 0, slots := 0, locals := 0 } : Room) s m #[(.ref x), (.int p1)] below meth c s₁ [] 0 0 := Stand.of_body Bd
  have e0 : s₁.heap = h0 := by rw [← hh, Bd.state]; rfl
  have N0 := Fr.nil n0
  obtain ⟨A0, hA0⟩ : ∃ z, z = s₁.setTop (entryFrame m #[(.ref x), (.int p1)] 2) := ⟨_, rfl⟩
  have K : OGo p e below A0 s₁ (mkF m 0 #[rv x, iv p1] []) := fun t k => hA0 ▸ castTop (ef_11 m x p1) k
  refine cps (A := ∃ (r : Int32) (Tj1 : State) (hj1 : Heap) (lj1 : List Loc), Stand p l e ({ frames := 0, cells := 0, slots := 0, locals := 0 } : Room) s m #[(.ref x), (.int p1)] below meth c Tj1 lj1 0 0 ∧ Tj1.heap = hj1 ∧ Fr n0 lj1 ∧ n0 ≤ hj1.size ∧ Keep h0 hj1 [] ∧ r = own_any u0 u1 u2 p1 ∧ nar .boolean r = r ∧ OGo p e below A0 Tj1 (mkF m 46 #[rv x, iv p1] [(.int r)])) (fun J1 => ?_) ?_
  · by_cases hc1 : (0 : Int32) < p1
    · by_cases hc10 : (255 : Int32) < u0
      · replace K : OGo p e below A0 s₁ (mkF m 46 #[rv x, iv p1] [(.int 1)]) := fun t k => K t (XS.iloadN X0.here hx rfl (hb hby d11_0) rfl (XS.ifNo X0.here hx rfl (hb hby d11_1) rfl ((if0 _ _).trans (tlt hc1).2.2.2) (XS.aloadN X0.here hx rfl (hb hby d11_4) rfl rfl (XS.iconst X0.here hx rfl (hb hby d11_5) (own_ldC X0 hx hZ e0 V_x (j := (0 : Int32)) (v := (.int u0)) (by decide) rfl (g := (mkF m 6 #[rv x, iv p1] [(.int 0), (.ref x)])) rfl rfl (hb hby d11_6) t (XS.sipush X0.here hx rfl (hb hby d11_7) (XS.icmpYes X0.here hx rfl (pc0 := 10) (pc' := 41) rfl (hb hby d11_10) rfl (tlt hc10).2.2.1 (by decide) (by decide) (XS.iconst X0.here hx rfl (hb hby d11_41) (XS.goto X0.here hx rfl (pc0 := 42) (pc' := 46) rfl (hb hby d11_42) (by decide) (by decide) k)))))))))
        exact J1 ⟨(1 : Int32), _, _, _, X0, e0, N0, Z0, (Keep.refl h0 []), (by simp [own_any, own_w, hc1, hc10]), rfl, K⟩
      · replace K : OGo p e below A0 s₁ (mkF m 15 #[rv x, iv p1] [(.int 1), (.int p1)]) := fun t k => K t (XS.iloadN X0.here hx rfl (hb hby d11_0) rfl (XS.ifNo X0.here hx rfl (hb hby d11_1) rfl ((if0 _ _).trans (tlt hc1).2.2.2) (XS.aloadN X0.here hx rfl (hb hby d11_4) rfl rfl (XS.iconst X0.here hx rfl (hb hby d11_5) (own_ldC X0 hx hZ e0 V_x (j := (0 : Int32)) (v := (.int u0)) (by decide) rfl (g := (mkF m 6 #[rv x, iv p1] [(.int 0), (.ref x)])) rfl rfl (hb hby d11_6) t (XS.sipush X0.here hx rfl (hb hby d11_7) (XS.icmpNo X0.here hx rfl (hb hby d11_10) rfl (flt hc10).2.2.1 (XS.iloadN X0.here hx rfl (hb hby d11_13) rfl (XS.iconst X0.here hx rfl (hb hby d11_14) k)))))))))
        by_cases hc15 : (1 : Int32) < p1
        · by_cases hc24 : (255 : Int32) < u1
          · replace K : OGo p e below A0 s₁ (mkF m 46 #[rv x, iv p1] [(.int 1)]) := fun t k => K t (XS.icmpNo X0.here hx rfl (hb hby d11_15) rfl (tlt hc15).2.2.2 (XS.aloadN X0.here hx rfl (hb hby d11_18) rfl rfl (XS.iconst X0.here hx rfl (hb hby d11_19) (own_ldC X0 hx hZ e0 V_x (j := (1 : Int32)) (v := (.int u1)) (by decide) rfl (g := (mkF m 20 #[rv x, iv p1] [(.int 1), (.ref x)])) rfl rfl (hb hby d11_20) t (XS.sipush X0.here hx rfl (hb hby d11_21) (XS.icmpYes X0.here hx rfl (pc0 := 24) (pc' := 41) rfl (hb hby d11_24) rfl (tlt hc24).2.2.1 (by decide) (by decide) (XS.iconst X0.here hx rfl (hb hby d11_41) (XS.goto X0.here hx rfl (pc0 := 42) (pc' := 46) rfl (hb hby d11_42) (by decide) (by decide) k))))))))
            exact J1 ⟨(1 : Int32), _, _, _, X0, e0, N0, Z0, (Keep.refl h0 []), (by simp [own_any, own_w, hc1, hc10, hc15, hc24]), rfl, K⟩
          · replace K : OGo p e below A0 s₁ (mkF m 29 #[rv x, iv p1] [(.int 2), (.int p1)]) := fun t k => K t (XS.icmpNo X0.here hx rfl (hb hby d11_15) rfl (tlt hc15).2.2.2 (XS.aloadN X0.here hx rfl (hb hby d11_18) rfl rfl (XS.iconst X0.here hx rfl (hb hby d11_19) (own_ldC X0 hx hZ e0 V_x (j := (1 : Int32)) (v := (.int u1)) (by decide) rfl (g := (mkF m 20 #[rv x, iv p1] [(.int 1), (.ref x)])) rfl rfl (hb hby d11_20) t (XS.sipush X0.here hx rfl (hb hby d11_21) (XS.icmpNo X0.here hx rfl (hb hby d11_24) rfl (flt hc24).2.2.1 (XS.iloadN X0.here hx rfl (hb hby d11_27) rfl (XS.iconst X0.here hx rfl (hb hby d11_28) k))))))))
            by_cases hc29 : (2 : Int32) < p1
            · by_cases hc38 : (255 : Int32) < u2
              · replace K : OGo p e below A0 s₁ (mkF m 46 #[rv x, iv p1] [(.int 1)]) := fun t k => K t (XS.icmpNo X0.here hx rfl (hb hby d11_29) rfl (tlt hc29).2.2.2 (XS.aloadN X0.here hx rfl (hb hby d11_32) rfl rfl (XS.iconst X0.here hx rfl (hb hby d11_33) (own_ldC X0 hx hZ e0 V_x (j := (2 : Int32)) (v := (.int u2)) (by decide) rfl (g := (mkF m 34 #[rv x, iv p1] [(.int 2), (.ref x)])) rfl rfl (hb hby d11_34) t (XS.sipush X0.here hx rfl (hb hby d11_35) (XS.icmpNo X0.here hx rfl (hb hby d11_38) rfl (tlt hc38).2.2.2 (XS.iconst X0.here hx rfl (hb hby d11_41) (XS.goto X0.here hx rfl (pc0 := 42) (pc' := 46) rfl (hb hby d11_42) (by decide) (by decide) k))))))))
                exact J1 ⟨(1 : Int32), _, _, _, X0, e0, N0, Z0, (Keep.refl h0 []), (by simp [own_any, own_w, hc1, hc10, hc15, hc24, hc29, hc38]), rfl, K⟩
              · replace K : OGo p e below A0 s₁ (mkF m 46 #[rv x, iv p1] [(.int 0)]) := fun t k => K t (XS.icmpNo X0.here hx rfl (hb hby d11_29) rfl (tlt hc29).2.2.2 (XS.aloadN X0.here hx rfl (hb hby d11_32) rfl rfl (XS.iconst X0.here hx rfl (hb hby d11_33) (own_ldC X0 hx hZ e0 V_x (j := (2 : Int32)) (v := (.int u2)) (by decide) rfl (g := (mkF m 34 #[rv x, iv p1] [(.int 2), (.ref x)])) rfl rfl (hb hby d11_34) t (XS.sipush X0.here hx rfl (hb hby d11_35) (XS.icmpYes X0.here hx rfl (pc0 := 38) (pc' := 45) rfl (hb hby d11_38) rfl (flt hc38).2.2.2 (by decide) (by decide) (XS.iconst X0.here hx rfl (hb hby d11_45) k)))))))
                exact J1 ⟨(0 : Int32), _, _, _, X0, e0, N0, Z0, (Keep.refl h0 []), (by simp [own_any, own_w, hc1, hc10, hc15, hc24, hc29, hc38]), rfl, K⟩
            · replace K : OGo p e below A0 s₁ (mkF m 46 #[rv x, iv p1] [(.int 0)]) := fun t k => K t (XS.icmpYes X0.here hx rfl (pc0 := 29) (pc' := 45) rfl (hb hby d11_29) rfl (flt hc29).2.2.2 (by decide) (by decide) (XS.iconst X0.here hx rfl (hb hby d11_45) k))
              exact J1 ⟨(0 : Int32), _, _, _, X0, e0, N0, Z0, (Keep.refl h0 []), (by simp [own_any, own_w, hc1, hc10, hc15, hc24, hc29]), rfl, K⟩
        · by_cases hc29 : (2 : Int32) < p1
          · replace K : OGo p e below A0 s₁ (mkF m 38 #[rv x, iv p1] [(.int 255), (.int u2)]) := fun t k => K t (XS.icmpYes X0.here hx rfl (pc0 := 15) (pc' := 27) rfl (hb hby d11_15) rfl (flt hc15).2.2.2 (by decide) (by decide) (XS.iloadN X0.here hx rfl (hb hby d11_27) rfl (XS.iconst X0.here hx rfl (hb hby d11_28) (XS.icmpNo X0.here hx rfl (hb hby d11_29) rfl (tlt hc29).2.2.2 (XS.aloadN X0.here hx rfl (hb hby d11_32) rfl rfl (XS.iconst X0.here hx rfl (hb hby d11_33) (own_ldC X0 hx hZ e0 V_x (j := (2 : Int32)) (v := (.int u2)) (by decide) rfl (g := (mkF m 34 #[rv x, iv p1] [(.int 2), (.ref x)])) rfl rfl (hb hby d11_34) t (XS.sipush X0.here hx rfl (hb hby d11_35) k))))))))
            by_cases hc38 : (255 : Int32) < u2
            · replace K : OGo p e below A0 s₁ (mkF m 46 #[rv x, iv p1] [(.int 1)]) := fun t k => K t (XS.icmpNo X0.here hx rfl (hb hby d11_38) rfl (tlt hc38).2.2.2 (XS.iconst X0.here hx rfl (hb hby d11_41) (XS.goto X0.here hx rfl (pc0 := 42) (pc' := 46) rfl (hb hby d11_42) (by decide) (by decide) k)))
              exact J1 ⟨(1 : Int32), _, _, _, X0, e0, N0, Z0, (Keep.refl h0 []), (by simp [own_any, own_w, hc1, hc10, hc15, hc29, hc38]), rfl, K⟩
            · replace K : OGo p e below A0 s₁ (mkF m 46 #[rv x, iv p1] [(.int 0)]) := fun t k => K t (XS.icmpYes X0.here hx rfl (pc0 := 38) (pc' := 45) rfl (hb hby d11_38) rfl (flt hc38).2.2.2 (by decide) (by decide) (XS.iconst X0.here hx rfl (hb hby d11_45) k))
              exact J1 ⟨(0 : Int32), _, _, _, X0, e0, N0, Z0, (Keep.refl h0 []), (by simp [own_any, own_w, hc1, hc10, hc15, hc29, hc38]), rfl, K⟩
          · replace K : OGo p e below A0 s₁ (mkF m 46 #[rv x, iv p1] [(.int 0)]) := fun t k => K t (XS.icmpYes X0.here hx rfl (pc0 := 15) (pc' := 27) rfl (hb hby d11_15) rfl (flt hc15).2.2.2 (by decide) (by decide) (XS.iloadN X0.here hx rfl (hb hby d11_27) rfl (XS.iconst X0.here hx rfl (hb hby d11_28) (XS.icmpYes X0.here hx rfl (pc0 := 29) (pc' := 45) rfl (hb hby d11_29) rfl (flt hc29).2.2.2 (by decide) (by decide) (XS.iconst X0.here hx rfl (hb hby d11_45) k)))))
            exact J1 ⟨(0 : Int32), _, _, _, X0, e0, N0, Z0, (Keep.refl h0 []), (by simp [own_any, own_w, hc1, hc10, hc15, hc29]), rfl, K⟩
    · by_cases hc15 : (1 : Int32) < p1
      · replace K : OGo p e below A0 s₁ (mkF m 24 #[rv x, iv p1] [(.int 255), (.int u1)]) := fun t k => K t (XS.iloadN X0.here hx rfl (hb hby d11_0) rfl (XS.ifYes X0.here hx rfl (pc0 := 1) (pc' := 13) rfl (hb hby d11_1) rfl ((if0 _ _).trans (flt hc1).2.2.2) (by decide) (by decide) (XS.iloadN X0.here hx rfl (hb hby d11_13) rfl (XS.iconst X0.here hx rfl (hb hby d11_14) (XS.icmpNo X0.here hx rfl (hb hby d11_15) rfl (tlt hc15).2.2.2 (XS.aloadN X0.here hx rfl (hb hby d11_18) rfl rfl (XS.iconst X0.here hx rfl (hb hby d11_19) (own_ldC X0 hx hZ e0 V_x (j := (1 : Int32)) (v := (.int u1)) (by decide) rfl (g := (mkF m 20 #[rv x, iv p1] [(.int 1), (.ref x)])) rfl rfl (hb hby d11_20) t (XS.sipush X0.here hx rfl (hb hby d11_21) k)))))))))
        by_cases hc24 : (255 : Int32) < u1
        · replace K : OGo p e below A0 s₁ (mkF m 46 #[rv x, iv p1] [(.int 1)]) := fun t k => K t (XS.icmpYes X0.here hx rfl (pc0 := 24) (pc' := 41) rfl (hb hby d11_24) rfl (tlt hc24).2.2.1 (by decide) (by decide) (XS.iconst X0.here hx rfl (hb hby d11_41) (XS.goto X0.here hx rfl (pc0 := 42) (pc' := 46) rfl (hb hby d11_42) (by decide) (by decide) k)))
          exact J1 ⟨(1 : Int32), _, _, _, X0, e0, N0, Z0, (Keep.refl h0 []), (by simp [own_any, own_w, hc1, hc15, hc24]), rfl, K⟩
        · by_cases hc29 : (2 : Int32) < p1
          · replace K : OGo p e below A0 s₁ (mkF m 38 #[rv x, iv p1] [(.int 255), (.int u2)]) := fun t k => K t (XS.icmpNo X0.here hx rfl (hb hby d11_24) rfl (flt hc24).2.2.1 (XS.iloadN X0.here hx rfl (hb hby d11_27) rfl (XS.iconst X0.here hx rfl (hb hby d11_28) (XS.icmpNo X0.here hx rfl (hb hby d11_29) rfl (tlt hc29).2.2.2 (XS.aloadN X0.here hx rfl (hb hby d11_32) rfl rfl (XS.iconst X0.here hx rfl (hb hby d11_33) (own_ldC X0 hx hZ e0 V_x (j := (2 : Int32)) (v := (.int u2)) (by decide) rfl (g := (mkF m 34 #[rv x, iv p1] [(.int 2), (.ref x)])) rfl rfl (hb hby d11_34) t (XS.sipush X0.here hx rfl (hb hby d11_35) k))))))))
            by_cases hc38 : (255 : Int32) < u2
            · replace K : OGo p e below A0 s₁ (mkF m 46 #[rv x, iv p1] [(.int 1)]) := fun t k => K t (XS.icmpNo X0.here hx rfl (hb hby d11_38) rfl (tlt hc38).2.2.2 (XS.iconst X0.here hx rfl (hb hby d11_41) (XS.goto X0.here hx rfl (pc0 := 42) (pc' := 46) rfl (hb hby d11_42) (by decide) (by decide) k)))
              exact J1 ⟨(1 : Int32), _, _, _, X0, e0, N0, Z0, (Keep.refl h0 []), (by simp [own_any, own_w, hc1, hc15, hc24, hc29, hc38]), rfl, K⟩
            · replace K : OGo p e below A0 s₁ (mkF m 46 #[rv x, iv p1] [(.int 0)]) := fun t k => K t (XS.icmpYes X0.here hx rfl (pc0 := 38) (pc' := 45) rfl (hb hby d11_38) rfl (flt hc38).2.2.2 (by decide) (by decide) (XS.iconst X0.here hx rfl (hb hby d11_45) k))
              exact J1 ⟨(0 : Int32), _, _, _, X0, e0, N0, Z0, (Keep.refl h0 []), (by simp [own_any, own_w, hc1, hc15, hc24, hc29, hc38]), rfl, K⟩
          · replace K : OGo p e below A0 s₁ (mkF m 46 #[rv x, iv p1] [(.int 0)]) := fun t k => K t (XS.icmpNo X0.here hx rfl (hb hby d11_24) rfl (flt hc24).2.2.1 (XS.iloadN X0.here hx rfl (hb hby d11_27) rfl (XS.iconst X0.here hx rfl (hb hby d11_28) (XS.icmpYes X0.here hx rfl (pc0 := 29) (pc' := 45) rfl (hb hby d11_29) rfl (flt hc29).2.2.2 (by decide) (by decide) (XS.iconst X0.here hx rfl (hb hby d11_45) k)))))
            exact J1 ⟨(0 : Int32), _, _, _, X0, e0, N0, Z0, (Keep.refl h0 []), (by simp [own_any, own_w, hc1, hc15, hc24, hc29]), rfl, K⟩
      · replace K : OGo p e below A0 s₁ (mkF m 29 #[rv x, iv p1] [(.int 2), (.int p1)]) := fun t k => K t (XS.iloadN X0.here hx rfl (hb hby d11_0) rfl (XS.ifYes X0.here hx rfl (pc0 := 1) (pc' := 13) rfl (hb hby d11_1) rfl ((if0 _ _).trans (flt hc1).2.2.2) (by decide) (by decide) (XS.iloadN X0.here hx rfl (hb hby d11_13) rfl (XS.iconst X0.here hx rfl (hb hby d11_14) (XS.icmpYes X0.here hx rfl (pc0 := 15) (pc' := 27) rfl (hb hby d11_15) rfl (flt hc15).2.2.2 (by decide) (by decide) (XS.iloadN X0.here hx rfl (hb hby d11_27) rfl (XS.iconst X0.here hx rfl (hb hby d11_28) k)))))))
        by_cases hc29 : (2 : Int32) < p1
        · by_cases hc38 : (255 : Int32) < u2
          · replace K : OGo p e below A0 s₁ (mkF m 46 #[rv x, iv p1] [(.int 1)]) := fun t k => K t (XS.icmpNo X0.here hx rfl (hb hby d11_29) rfl (tlt hc29).2.2.2 (XS.aloadN X0.here hx rfl (hb hby d11_32) rfl rfl (XS.iconst X0.here hx rfl (hb hby d11_33) (own_ldC X0 hx hZ e0 V_x (j := (2 : Int32)) (v := (.int u2)) (by decide) rfl (g := (mkF m 34 #[rv x, iv p1] [(.int 2), (.ref x)])) rfl rfl (hb hby d11_34) t (XS.sipush X0.here hx rfl (hb hby d11_35) (XS.icmpNo X0.here hx rfl (hb hby d11_38) rfl (tlt hc38).2.2.2 (XS.iconst X0.here hx rfl (hb hby d11_41) (XS.goto X0.here hx rfl (pc0 := 42) (pc' := 46) rfl (hb hby d11_42) (by decide) (by decide) k))))))))
            exact J1 ⟨(1 : Int32), _, _, _, X0, e0, N0, Z0, (Keep.refl h0 []), (by simp [own_any, own_w, hc1, hc15, hc29, hc38]), rfl, K⟩
          · replace K : OGo p e below A0 s₁ (mkF m 46 #[rv x, iv p1] [(.int 0)]) := fun t k => K t (XS.icmpNo X0.here hx rfl (hb hby d11_29) rfl (tlt hc29).2.2.2 (XS.aloadN X0.here hx rfl (hb hby d11_32) rfl rfl (XS.iconst X0.here hx rfl (hb hby d11_33) (own_ldC X0 hx hZ e0 V_x (j := (2 : Int32)) (v := (.int u2)) (by decide) rfl (g := (mkF m 34 #[rv x, iv p1] [(.int 2), (.ref x)])) rfl rfl (hb hby d11_34) t (XS.sipush X0.here hx rfl (hb hby d11_35) (XS.icmpYes X0.here hx rfl (pc0 := 38) (pc' := 45) rfl (hb hby d11_38) rfl (flt hc38).2.2.2 (by decide) (by decide) (XS.iconst X0.here hx rfl (hb hby d11_45) k)))))))
            exact J1 ⟨(0 : Int32), _, _, _, X0, e0, N0, Z0, (Keep.refl h0 []), (by simp [own_any, own_w, hc1, hc15, hc29, hc38]), rfl, K⟩
        · replace K : OGo p e below A0 s₁ (mkF m 46 #[rv x, iv p1] [(.int 0)]) := fun t k => K t (XS.icmpYes X0.here hx rfl (pc0 := 29) (pc' := 45) rfl (hb hby d11_29) rfl (flt hc29).2.2.2 (by decide) (by decide) (XS.iconst X0.here hx rfl (hb hby d11_45) k))
          exact J1 ⟨(0 : Int32), _, _, _, X0, e0, N0, Z0, (Keep.refl h0 []), (by simp [own_any, own_w, hc1, hc15, hc29]), rfl, K⟩
  clear K
  rintro ⟨r, Tj1, hj1, lj1, Xj1, ej1, Nj1, Zj1, Kj1, hrr, hrn, K⟩
  obtain ⟨fs, hr, hrun, hended, hW, hsame⟩ := Xj1.leave (v := some (.int (nar .boolean r))) (fun h => by rw [Bd.returns] at h; cases h)
  subst hA0
  refine ⟨_, _, K _ (retN Xj1 hx (t := .boolean) Bd.returns (by simp) (hb hby d11_46) hr), hrun, hended, _, _, rfl, ?_, ⟨_, rfl⟩, hW, hsame.mono (by decide) (by decide)⟩
  show Q_any Z x p1 kx u0 u1 u2 h0 n0 _ Tj1.heap _
  rw [ej1]
  exact ⟨(by rw [hrn, hrr]), Nj1, Kj1⟩
theorem pn_java_lang_StringUTF16 : plainName "java/lang/StringUTF16" = true := by first | (simp [plainName, overriddenIn]; done) | decide +kernel
theorem ef_38 (m : MethodId) (x0 : Addr) : entryFrame m #[(.ref x0)] 1 = mkF m 0 #[.val (.ref x0)] [] := by first | (simp [entryFrame, mkF, argsToLocals, Value.category]; done) | rfl
abbrev Dc38 (i : Nat) (c : Instr) (k : Nat) : Prop := decode jdk_52_method_6_code i = .ok (c, k)
theorem d38_0 : Dc38 0 (.aload_n 0) 1 := by decide +kernel
theorem d38_1 : Dc38 1 (.arraylength) 1 := by decide +kernel
theorem d38_2 : Dc38 2 (.iconst 1) 1 := by decide +kernel
theorem d38_3 : Dc38 3 (.ishr) 1 := by decide +kernel
theorem d38_4 : Dc38 4 (.ireturn) 1 := by decide +kernel
def Q_len16 (Z : State) (va : Addr) (kv : ClassId) (u0 : Int32) (u1 : Int32) (u2 : Int32) (h0 : Heap) (n0 : Nat) (v : Option Value) (h : Heap) (L : List Loc) : Prop := v = some (.int (3 : Int32)) ∧ Fr n0 L ∧ h = h0
theorem rm_len16 (l : Launch) (Z : State) (a0 : Array Value) (hw : ∀ d ∈ tables_1, d.before a0 Z = true) (ws : List Jvm.Cond) (va : Addr) (kv : ClassId) (u0 : Int32) (u1 : Int32) (u2 : Int32) (h0 : Heap) (n0 : Nat) (Z0 : n0 ≤ h0.size) (V_va : OAr Z h0 va kv .byte [(.int (own_b0 u0)), (.int (own_b1 u0)), (.int (own_b0 u1)), (.int (own_b1 u1)), (.int (own_b0 u2)), (.int (own_b1 u2))]) :
    oM l mN10 jdk_52_method_6_code 1 (some .int) ws ({ frames := 0, cells := 0, slots := 0, locals := 0 } : Room) #[(.ref va)] Z h0 (Q_len16 Z va kv u0 u1 u2 h0 n0) := by
  refine MetFree.of_bodySF (plainFor_of_name pn_java_lang_StringUTF16) hisR ?_
  intro p e s m args below meth c s₁ Bd hml0 hP hK
  obtain ⟨rfl, hZ, hh⟩ := hP
  have hx := Bd.exec
  have hby := Bd.bytes
  have hml : c.maxLocals = 1 := hml0
  have hown : s.vm.findClass "java/lang/StringUTF16" = some m.cls := findClass_of_methodNamed Bd.named
  have hnm := (name_of_methodNamed Bd.named Bd.method).1
  have X0 : Stand p l e ({ frames := 0, cells := 0, slots := 0, locals := 0 } : Room) s m #[(.ref va)] below meth c s₁ [] 0 0 := Stand.of_body Bd
  have e0 : s₁.heap = h0 := by rw [← hh, Bd.state]; rfl
  have N0 := Fr.nil n0
  obtain ⟨A0, hA0⟩ : ∃ z, z = s₁.setTop (entryFrame m #[(.ref va)] 1) := ⟨_, rfl⟩
  have K : OGo p e below A0 s₁ (mkF m 0 #[rv va] []) := fun t k => hA0 ▸ castTop (ef_38 m va) k
  replace K : OGo p e below A0 s₁ (mkF m 4 #[rv va] [(.int 3)]) := fun t k => K t (XS.aloadN X0.here hx rfl (hb hby d38_0) rfl rfl (own_len X0 hx hZ e0 V_va (n := (6 : Int32)) rfl (g := (mkF m 1 #[rv va] [(.ref va)])) rfl rfl (hb hby d38_1) t (XS.iconst X0.here hx rfl (hb hby d38_2) (XS.ishr X0.here hx rfl (hb hby d38_3) rfl k))))
  obtain ⟨fs, hr, hrun, hended, hW, hsame⟩ := X0.leave (v := some (.int (3 : Int32))) (fun h => by rw [Bd.returns] at h; cases h)
  subst hA0
  refine ⟨_, _, K _ (retOut X0 hx Bd.returns rfl (Or.inl ⟨rfl, Or.inl rfl, _, rfl⟩) (hb hby d38_4) hr), hrun, hended, _, _, rfl, ?_, ⟨_, rfl⟩, hW, hsame.mono (by decide) (by decide)⟩
  show Q_len16 Z va kv u0 u1 u2 h0 n0 _ s₁.heap _
  rw [e0]
  exact ⟨rfl, N0, rfl⟩
theorem pn_java_lang_String : plainName "java/lang/String" = true := by first | (simp [plainName, overriddenIn]; done) | decide +kernel
theorem ef_19 (m : MethodId) (x0 : Addr) : entryFrame m #[(.ref x0)] 1 = mkF m 0 #[.val (.ref x0)] [] := by first | (simp [entryFrame, mkF, argsToLocals, Value.category]; done) | rfl
abbrev Dc19 (i : Nat) (c : Instr) (k : Nat) : Prop := decode jdk_42_method_152_code i = .ok (c, k)
theorem d19_0 : Dc19 0 (.getstatic 38) 3 := by decide +kernel
theorem d19_3 : Dc19 3 (.ifCond .eq 10) 3 := by decide +kernel
theorem d19_6 : Dc19 6 (.aload_n 0) 1 := by decide +kernel
theorem d19_7 : Dc19 7 (.getfield 15) 3 := by decide +kernel
theorem d19_10 : Dc19 10 (.goto 4) 3 := by decide +kernel
theorem d19_14 : Dc19 14 (.ireturn) 1 := by decide +kernel
def Q_coderL (Z : State) (a1 : Addr) (va : Addr) (kv : ClassId) (cs : Int32) (fw : Value) (h0 : Heap) (n0 : Nat) (v : Option Value) (h : Heap) (L : List Loc) : Prop := v = some (.int (0 : Int32)) ∧ Fr n0 L ∧ h = h0
theorem rm_coderL (l : Launch) (Z : State) (a0 : Array Value) (hw : ∀ d ∈ tables_1, d.before a0 Z = true) (ws : List Jvm.Cond) (a1 : Addr) (va : Addr) (kv : ClassId) (cs : Int32) (fw : Value) (h0 : Heap) (n0 : Nat) (Z0 : n0 ≤ h0.size) (hST : own_ST Z cs fw) (O_0 : Old Z n0 h0) (F_value_a1 : Fld Z h0 a1 cN1 "value" "[B" (.ref va)) (F_coder_a1 : Fld Z h0 a1 cN1 "coder" "B" (.int (0 : Int32))) (G_va : OPg Z h0 va kv .byte (3 : Int32)) :
    oM l mN11 jdk_42_method_152_code 1 (some .byte) ws ({ frames := 0, cells := 0, slots := 0, locals := 0 } : Room) #[(.ref a1)] Z h0 (Q_coderL Z a1 va kv cs fw h0 n0) := by
  refine MetFree.of_bodySF (plainFor_of_name pn_java_lang_String) hisR ?_
  intro p e s m args below meth c s₁ Bd hml0 hP hK
  obtain ⟨rfl, hZ, hh⟩ := hP
  have hx := Bd.exec
  have hby := Bd.bytes
  have hml : c.maxLocals = 1 := hml0
  have hown : s.vm.findClass "java/lang/String" = some m.cls := findClass_of_methodNamed Bd.named
  have hnm := (name_of_methodNamed Bd.named Bd.method).1
  have X0 : Stand p l e ({ frames := 0, cells := 0, slots := 0, locals := 0 } : Room) s m #[(.ref a1)] below meth c s₁ [] 0 0 := Stand.of_body Bd
  have e0 : s₁.heap = h0 := by rw [← hh, Bd.state]; rfl
  have N0 := Fr.nil n0
  obtain ⟨A0, hA0⟩ : ∃ z, z = s₁.setTop (entryFrame m #[(.ref a1)] 1) := ⟨_, rfl⟩
  have K : OGo p e below A0 s₁ (mkF m 0 #[rv a1] []) := fun t k => hA0 ▸ castTop (ef_19 m a1) k
  obtain ⟨T1, X1, e1, st1⟩ := getS2 X0 hx hZ hown (host := "") (Or.inl (ow hw 86 rfl)) Via.refl e0 (hST.cs.ext O_0.2) (g := (mkF m 0 #[rv a1] [])) rfl (hb hby d19_0)
  obtain ⟨T2, X2, e2, st2⟩ := getF X1 hx hZ hown (host := "") (Or.inl (ow hw 97 rfl)) Via.refl e1 F_coder_a1 (g := (mkF m 7 #[rv a1] [(.ref a1)])) rfl rfl (hb hby d19_7)
  replace K : OGo p e below A0 T2 (mkF m 14 #[rv a1] [(.int 0)]) := fun t k => K t (st1 t (XS.ifNo X1.here hx rfl (hb hby d19_3) rfl ((if0 _ _).trans (feq (hST.cs0 : ¬ (cs = (0 : Int32)))).1) (XS.aloadN X1.here hx rfl (hb hby d19_6) rfl rfl (st2 t (XS.goto X2.here hx rfl (pc0 := 10) (pc' := 14) rfl (hb hby d19_10) (by decide) (by decide) k)))))
  obtain ⟨fs, hr, hrun, hended, hW, hsame⟩ := X2.leave (v := some (.int (0 : Int32))) (fun h => by rw [Bd.returns] at h; cases h)
  subst hA0
  refine ⟨_, _, K _ (retN X2 hx (t := .byte) Bd.returns (by simp) (hb hby d19_14) hr), hrun, hended, _, _, rfl, ?_, ⟨_, rfl⟩, hW, hsame.mono (by decide) (by decide)⟩
  show Q_coderL Z a1 va kv cs fw h0 n0 _ T2.heap _
  rw [e2]
  exact ⟨rfl, N0, rfl⟩
theorem ef_21 (m : MethodId) (x0 : Addr) : entryFrame m #[(.ref x0)] 1 = mkF m 0 #[.val (.ref x0)] [] := by first | (simp [entryFrame, mkF, argsToLocals, Value.category]; done) | rfl
abbrev Dc21 (i : Nat) (c : Instr) (k : Nat) : Prop := decode jdk_42_method_154_code i = .ok (c, k)
theorem d21_0 : Dc21 0 (.getstatic 38) 3 := by decide +kernel
theorem d21_3 : Dc21 3 (.ifCond .eq 14) 3 := by decide +kernel
theorem d21_6 : Dc21 6 (.aload_n 0) 1 := by decide +kernel
theorem d21_7 : Dc21 7 (.getfield 15) 3 := by decide +kernel
theorem d21_10 : Dc21 10 (.ifCond .ne 7) 3 := by decide +kernel
theorem d21_13 : Dc21 13 (.iconst 1) 1 := by decide +kernel
theorem d21_14 : Dc21 14 (.goto 4) 3 := by decide +kernel
theorem d21_18 : Dc21 18 (.ireturn) 1 := by decide +kernel
def Q_islL (Z : State) (a1 : Addr) (va : Addr) (kv : ClassId) (cs : Int32) (fw : Value) (h0 : Heap) (n0 : Nat) (v : Option Value) (h : Heap) (L : List Loc) : Prop := v = some (.int (1 : Int32)) ∧ Fr n0 L ∧ h = h0
theorem rm_islL (l : Launch) (Z : State) (a0 : Array Value) (hw : ∀ d ∈ tables_1, d.before a0 Z = true) (ws : List Jvm.Cond) (a1 : Addr) (va : Addr) (kv : ClassId) (cs : Int32) (fw : Value) (h0 : Heap) (n0 : Nat) (Z0 : n0 ≤ h0.size) (hST : own_ST Z cs fw) (O_0 : Old Z n0 h0) (F_value_a1 : Fld Z h0 a1 cN1 "value" "[B" (.ref va)) (F_coder_a1 : Fld Z h0 a1 cN1 "coder" "B" (.int (0 : Int32))) (G_va : OPg Z h0 va kv .byte (3 : Int32)) :
    oM l mN12 jdk_42_method_154_code 1 (some .boolean) ws ({ frames := 0, cells := 0, slots := 0, locals := 0 } : Room) #[(.ref a1)] Z h0 (Q_islL Z a1 va kv cs fw h0 n0) := by
  refine MetFree.of_bodySF (plainFor_of_name pn_java_lang_String) hisR ?_
  intro p e s m args below meth c s₁ Bd hml0 hP hK
  obtain ⟨rfl, hZ, hh⟩ := hP
  have hx := Bd.exec
  have hby := Bd.bytes
  have hml : c.maxLocals = 1 := hml0
  have hown : s.vm.findClass "java/lang/String" = some m.cls := findClass_of_methodNamed Bd.named
  have hnm := (name_of_methodNamed Bd.named Bd.method).1
  have X0 : Stand p l e ({ frames := 0, cells := 0, slots := 0, locals := 0 } : Room) s m #[(.ref a1)] below meth c s₁ [] 0 0 := Stand.of_body Bd
  have e0 : s₁.heap = h0 := by rw [← hh, Bd.state]; rfl
  have N0 := Fr.nil n0
  obtain ⟨A0, hA0⟩ : ∃ z, z = s₁.setTop (entryFrame m #[(.ref a1)] 1) := ⟨_, rfl⟩
  have K : OGo p e below A0 s₁ (mkF m 0 #[rv a1] []) := fun t k => hA0 ▸ castTop (ef_21 m a1) k
  obtain ⟨T1, X1, e1, st1⟩ := getS2 X0 hx hZ hown (host := "") (Or.inl (ow hw 86 rfl)) Via.refl e0 (hST.cs.ext O_0.2) (g := (mkF m 0 #[rv a1] [])) rfl (hb hby d21_0)
  obtain ⟨T2, X2, e2, st2⟩ := getF X1 hx hZ hown (host := "") (Or.inl (ow hw 97 rfl)) Via.refl e1 F_coder_a1 (g := (mkF m 7 #[rv a1] [(.ref a1)])) rfl rfl (hb hby d21_7)
  replace K : OGo p e below A0 T2 (mkF m 18 #[rv a1] [(.int 1)]) := fun t k => K t (st1 t (XS.ifNo X1.here hx rfl (hb hby d21_3) rfl ((if0 _ _).trans (feq (hST.cs0 : ¬ (cs = (0 : Int32)))).1) (XS.aloadN X1.here hx rfl (hb hby d21_6) rfl rfl (st2 t (XS.ifNo X2.here hx rfl (hb hby d21_10) rfl ((if0 _ _).trans (teq ((by decide : (0 : Int32) = (0 : Int32)) : (0 : Int32) = (0 : Int32))).2) (XS.iconst X2.here hx rfl (hb hby d21_13) (XS.goto X2.here hx rfl (pc0 := 14) (pc' := 18) rfl (hb hby d21_14) (by decide) (by decide) k)))))))
  obtain ⟨fs, hr, hrun, hended, hW, hsame⟩ := X2.leave (v := some (.int (1 : Int32))) (fun h => by rw [Bd.returns] at h; cases h)
  subst hA0
  refine ⟨_, _, K _ (retN X2 hx (t := .boolean) Bd.returns (by simp) (hb hby d21_18) hr), hrun, hended, _, _, rfl, ?_, ⟨_, rfl⟩, hW, hsame.mono (by decide) (by decide)⟩
  show Q_islL Z a1 va kv cs fw h0 n0 _ T2.heap _
  rw [e2]
  exact ⟨rfl, N0, rfl⟩
theorem ef_18 (m : MethodId) (x0 : Addr) : entryFrame m #[(.ref x0)] 1 = mkF m 0 #[.val (.ref x0)] [] := by first | (simp [entryFrame, mkF, argsToLocals, Value.category]; done) | rfl
abbrev Dc18 (i : Nat) (c : Instr) (k : Nat) : Prop := decode jdk_42_method_54_code i = .ok (c, k)
theorem d18_0 : Dc18 0 (.aload_n 0) 1 := by decide +kernel
theorem d18_1 : Dc18 1 (.getfield 9) 3 := by decide +kernel
theorem d18_4 : Dc18 4 (.arraylength) 1 := by decide +kernel
theorem d18_5 : Dc18 5 (.aload_n 0) 1 := by decide +kernel
theorem d18_6 : Dc18 6 (.invokevirtual 335) 3 := by decide +kernel
theorem pd___B : parseMethodDescriptor "()B" = some ⟨[], some .byte⟩ := by decide +kernel
theorem d18_9 : Dc18 9 (.ishr) 1 := by decide +kernel
theorem d18_10 : Dc18 10 (.ireturn) 1 := by decide +kernel
def Q_slenL (Z : State) (a1 : Addr) (va : Addr) (kv : ClassId) (cs : Int32) (fw : Value) (h0 : Heap) (n0 : Nat) (v : Option Value) (h : Heap) (L : List Loc) : Prop := v = some (.int (3 : Int32)) ∧ Fr n0 L ∧ h = h0
theorem rm_slenL (l : Launch) (Z : State) (a0 : Array Value) (hw : ∀ d ∈ tables_1, d.before a0 Z = true) (ws : List Jvm.Cond) (a1 : Addr) (va : Addr) (kv : ClassId) (cs : Int32) (fw : Value) (h0 : Heap) (n0 : Nat) (Z0 : n0 ≤ h0.size) (hST : own_ST Z cs fw) (O_0 : Old Z n0 h0) (F_value_a1 : Fld Z h0 a1 cN1 "value" "[B" (.ref va)) (F_coder_a1 : Fld Z h0 a1 cN1 "coder" "B" (.int (0 : Int32))) (G_va : OPg Z h0 va kv .byte (3 : Int32)) (E_a1 : Exa Z h0 a1 cN1) :
    oM l mN13 jdk_42_method_54_code 1 (some .int) ws ({ frames := 1, cells := 0, slots := 0, locals := 28 } : Room) #[(.ref a1)] Z h0 (Q_slenL Z a1 va kv cs fw h0 n0) := by
  refine MetFree.of_bodySF (plainFor_of_name pn_java_lang_String) hisR ?_
  intro p e s m args below meth c s₁ Bd hml0 hP hK
  obtain ⟨rfl, hZ, hh⟩ := hP
  have hx := Bd.exec
  have hby := Bd.bytes
  have hml : c.maxLocals = 1 := hml0
  have hown : s.vm.findClass "java/lang/String" = some m.cls := findClass_of_methodNamed Bd.named
  have hnm := (name_of_methodNamed Bd.named Bd.method).1
  have X0 : Stand p l e ({ frames := 1, cells := 0, slots := 0, locals := 28 } : Room) s m #[(.ref a1)] below meth c s₁ [] 0 0 := Stand.of_body Bd
  have e0 : s₁.heap = h0 := by rw [← hh, Bd.state]; rfl
  have N0 := Fr.nil n0
  obtain ⟨A0, hA0⟩ : ∃ z, z = s₁.setTop (entryFrame m #[(.ref a1)] 1) := ⟨_, rfl⟩
  have K : OGo p e below A0 s₁ (mkF m 0 #[rv a1] []) := fun t k => hA0 ▸ castTop (ef_18 m a1) k
  obtain ⟨T1, X1, e1, st1⟩ := getF X0 hx hZ hown (host := "") (Or.inl (ow hw 99 rfl)) Via.refl e0 F_value_a1 (g := (mkF m 1 #[rv a1] [(.ref a1)])) rfl rfl (hb hby d18_1)
  obtain ⟨cq2, kq2, qv2a, qv2b, qv2c⟩ := isOf hZ e1 E_a1
  obtain ⟨_, _, ⟨T2, L2, k2, n2⟩, -, X2, ⟨Lc2, hQ2, l2, y2, z2⟩, st2⟩ := X1.virtualBack hx (y := mN11) (z := mN11) hown (mvT hZ (ow hw 111 rfl)) (mvT hZ (ow hw 112 rfl)) (notFace_of_selects (args := #[]) (mvT hZ (ow hw 114 rfl))) (mvT hZ (ow hw 114 rfl)) (mvT hZ (ow hw 113 rfl)) (by decide) (backOf (W := 1) (rm_coderL l Z a0 hw [] a1 va kv cs fw h0 n0 Z0 hST O_0 F_value_a1 F_coder_a1 G_va) hZ (ow hw 115 rfl) (ow hw 77 rfl) (by decide) (by decide)) qv2a qv2c (g := (mkF m 6 #[rv a1] [(.ref a1), (.int 3)])) rfl (by rw [hml]; rfl) (Steps.refl _) (argsL := []) (rest := [(.int (3 : Int32))]) (lenOf pd___B rfl) rfl (by show 2 * 0 + _ ≤ _; exact Nat.le_of_eq rfl) (hb hby d18_6) (fun _ _ => ⟨rfl, e1, (by decide : 0 + 0 ≤ _), (by decide : 0 + 0 ≤ _)⟩)
  dsimp only [Pt.U, Pt.locs, Pt.cells, Pt.slots] at X2 l2 y2 z2 st2 hQ2
  subst l2 y2 z2
  obtain ⟨rfl, Nq2, e2⟩ := hQ2
  have N2 := Fr.app N0 Nq2
  replace K : OGo p e below A0 T2 (mkF m 10 #[rv a1] [(.int 3)]) := fun t k => K t (XS.aloadN X0.here hx rfl (hb hby d18_0) rfl rfl (st1 t (own_lenP X1 hx hZ e1 G_va (g := (mkF m 4 #[rv a1] [(.ref va)])) rfl rfl (hb hby d18_4) t (XS.aloadN X1.here hx rfl (hb hby d18_5) rfl rfl (st2.trans (XS.ishr X2.here hx rfl (hb hby d18_9) rfl k))))))
  obtain ⟨fs, hr, hrun, hended, hW, hsame⟩ := X2.leave (v := some (.int (3 : Int32))) (fun h => by rw [Bd.returns] at h; cases h)
  subst hA0
  refine ⟨_, _, K _ (retOut X2 hx Bd.returns rfl (Or.inl ⟨rfl, Or.inl rfl, _, rfl⟩) (hb hby d18_10) hr), hrun, hended, _, _, rfl, ?_, ⟨_, rfl⟩, hW, hsame.mono (by decide) (by decide)⟩
  show Q_slenL Z a1 va kv cs fw h0 n0 _ T2.heap _
  rw [e2]
  exact ⟨rfl, N2, rfl⟩
def Q_coderU (Z : State) (a1 : Addr) (va : Addr) (kv : ClassId) (u0 : Int32) (u1 : Int32) (u2 : Int32) (cs : Int32) (fw : Value) (h0 : Heap) (n0 : Nat) (v : Option Value) (h : Heap) (L : List Loc) : Prop := v = some (.int (1 : Int32)) ∧ Fr n0 L ∧ h = h0
theorem rm_coderU (l : Launch) (Z : State) (a0 : Array Value) (hw : ∀ d ∈ tables_1, d.before a0 Z = true) (ws : List Jvm.Cond) (a1 : Addr) (va : Addr) (kv : ClassId) (u0 : Int32) (u1 : Int32) (u2 : Int32) (cs : Int32) (fw : Value) (h0 : Heap) (n0 : Nat) (Z0 : n0 ≤ h0.size) (hST : own_ST Z cs fw) (O_0 : Old Z n0 h0) (F_value_a1 : Fld Z h0 a1 cN1 "value" "[B" (.ref va)) (F_coder_a1 : Fld Z h0 a1 cN1 "coder" "B" (.int (1 : Int32))) (V_va : OAr Z h0 va kv .byte [(.int (own_b0 u0)), (.int (own_b1 u0)), (.int (own_b0 u1)), (.int (own_b1 u1)), (.int (own_b0 u2)), (.int (own_b1 u2))]) :
    oM l mN11 jdk_42_method_152_code 1 (some .byte) ws ({ frames := 0, cells := 0, slots := 0, locals := 0 } : Room) #[(.ref a1)] Z h0 (Q_coderU Z a1 va kv u0 u1 u2 cs fw h0 n0) := by
  refine MetFree.of_bodySF (plainFor_of_name pn_java_lang_String) hisR ?_
  intro p e s m args below meth c s₁ Bd hml0 hP hK
  obtain ⟨rfl, hZ, hh⟩ := hP
  have hx := Bd.exec
  have hby := Bd.bytes
  have hml : c.maxLocals = 1 := hml0
  have hown : s.vm.findClass "java/lang/String" = some m.cls := findClass_of_methodNamed Bd.named
  have hnm := (name_of_methodNamed Bd.named Bd.method).1
  have X0 : Stand p l e ({ frames := 0, cells := 0, slots := 0, locals := 0 } : Room) s m #[(.ref a1)] below meth c s₁ [] 0 0 := Stand.of_body Bd
  have e0 : s₁.heap = h0 := by rw [← hh, Bd.state]; rfl
  have N0 := Fr.nil n0
  obtain ⟨A0, hA0⟩ : ∃ z, z = s₁.setTop (entryFrame m #[(.ref a1)] 1) := ⟨_, rfl⟩
  have K : OGo p e below A0 s₁ (mkF m 0 #[rv a1] []) := fun t k => hA0 ▸ castTop (ef_19 m a1) k
  obtain ⟨T1, X1, e1, st1⟩ := getS2 X0 hx hZ hown (host := "") (Or.inl (ow hw 86 rfl)) Via.refl e0 (hST.cs.ext O_0.2) (g := (mkF m 0 #[rv a1] [])) rfl (hb hby d19_0)
  obtain ⟨T2, X2, e2, st2⟩ := getF X1 hx hZ hown (host := "") (Or.inl (ow hw 97 rfl)) Via.refl e1 F_coder_a1 (g := (mkF m 7 #[rv a1] [(.ref a1)])) rfl rfl (hb hby d19_7)
  replace K : OGo p e below A0 T2 (mkF m 14 #[rv a1] [(.int 1)]) := fun t k => K t (st1 t (XS.ifNo X1.here hx rfl (hb hby d19_3) rfl ((if0 _ _).trans (feq (hST.cs0 : ¬ (cs = (0 : Int32)))).1) (XS.aloadN X1.here hx rfl (hb hby d19_6) rfl rfl (st2 t (XS.goto X2.here hx rfl (pc0 := 10) (pc' := 14) rfl (hb hby d19_10) (by decide) (by decide) k)))))
  obtain ⟨fs, hr, hrun, hended, hW, hsame⟩ := X2.leave (v := some (.int (1 : Int32))) (fun h => by rw [Bd.returns] at h; cases h)
  subst hA0
  refine ⟨_, _, K _ (retN X2 hx (t := .byte) Bd.returns (by simp) (hb hby d19_14) hr), hrun, hended, _, _, rfl, ?_, ⟨_, rfl⟩, hW, hsame.mono (by decide) (by decide)⟩
  show Q_coderU Z a1 va kv u0 u1 u2 cs fw h0 n0 _ T2.heap _
  rw [e2]
  exact ⟨rfl, N0, rfl⟩
theorem d21_17 : Dc21 17 (.iconst 0) 1 := by decide +kernel
def Q_islU (Z : State) (a1 : Addr) (va : Addr) (kv : ClassId) (u0 : Int32) (u1 : Int32) (u2 : Int32) (cs : Int32) (fw : Value) (h0 : Heap) (n0 : Nat) (v : Option Value) (h : Heap) (L : List Loc) : Prop := v = some (.int (0 : Int32)) ∧ Fr n0 L ∧ h = h0
theorem rm_islU (l : Launch) (Z : State) (a0 : Array Value) (hw : ∀ d ∈ tables_1, d.before a0 Z = true) (ws : List Jvm.Cond) (a1 : Addr) (va : Addr) (kv : ClassId) (u0 : Int32) (u1 : Int32) (u2 : Int32) (cs : Int32) (fw : Value) (h0 : Heap) (n0 : Nat) (Z0 : n0 ≤ h0.size) (hST : own_ST Z cs fw) (O_0 : Old Z n0 h0) (F_value_a1 : Fld Z h0 a1 cN1 "value" "[B" (.ref va)) (F_coder_a1 : Fld Z h0 a1 cN1 "coder" "B" (.int (1 : Int32))) (V_va : OAr Z h0 va kv .byte [(.int (own_b0 u0)), (.int (own_b1 u0)), (.int (own_b0 u1)), (.int (own_b1 u1)), (.int (own_b0 u2)), (.int (own_b1 u2))]) :
    oM l mN12 jdk_42_method_154_code 1 (some .boolean) ws ({ frames := 0, cells := 0, slots := 0, locals := 0 } : Room) #[(.ref a1)] Z h0 (Q_islU Z a1 va kv u0 u1 u2 cs fw h0 n0) := by
  refine MetFree.of_bodySF (plainFor_of_name pn_java_lang_String) hisR ?_
  intro p e s m args below meth c s₁ Bd hml0 hP hK
  obtain ⟨rfl, hZ, hh⟩ := hP
  have hx := Bd.exec
  have hby := Bd.bytes
  have hml : c.maxLocals = 1 := hml0
  have hown : s.vm.findClass "java/lang/String" = some m.cls := findClass_of_methodNamed Bd.named
  have hnm := (name_of_methodNamed Bd.named Bd.method).1
  have X0 : Stand p l e ({ frames := 0, cells := 0, slots := 0, locals := 0 } : Room) s m #[(.ref a1)] below meth c s₁ [] 0 0 := Stand.of_body Bd
  have e0 : s₁.heap = h0 := by rw [← hh, Bd.state]; rfl
  have N0 := Fr.nil n0
  obtain ⟨A0, hA0⟩ : ∃ z, z = s₁.setTop (entryFrame m #[(.ref a1)] 1) := ⟨_, rfl⟩
  have K : OGo p e below A0 s₁ (mkF m 0 #[rv a1] []) := fun t k => hA0 ▸ castTop (ef_21 m a1) k
  obtain ⟨T1, X1, e1, st1⟩ := getS2 X0 hx hZ hown (host := "") (Or.inl (ow hw 86 rfl)) Via.refl e0 (hST.cs.ext O_0.2) (g := (mkF m 0 #[rv a1] [])) rfl (hb hby d21_0)
  obtain ⟨T2, X2, e2, st2⟩ := getF X1 hx hZ hown (host := "") (Or.inl (ow hw 97 rfl)) Via.refl e1 F_coder_a1 (g := (mkF m 7 #[rv a1] [(.ref a1)])) rfl rfl (hb hby d21_7)
  replace K : OGo p e below A0 T2 (mkF m 18 #[rv a1] [(.int 0)]) := fun t k => K t (st1 t (XS.ifNo X1.here hx rfl (hb hby d21_3) rfl ((if0 _ _).trans (feq (hST.cs0 : ¬ (cs = (0 : Int32)))).1) (XS.aloadN X1.here hx rfl (hb hby d21_6) rfl rfl (st2 t (XS.ifYes X2.here hx rfl (pc0 := 10) (pc' := 17) rfl (hb hby d21_10) rfl ((if0 _ _).trans (feq ((by decide : ¬ ((1 : Int32) = (0 : Int32))) : ¬ ((1 : Int32) = (0 : Int32)))).2) (by decide) (by decide) (XS.iconst X2.here hx rfl (hb hby d21_17) k))))))
  obtain ⟨fs, hr, hrun, hended, hW, hsame⟩ := X2.leave (v := some (.int (0 : Int32))) (fun h => by rw [Bd.returns] at h; cases h)
  subst hA0
  refine ⟨_, _, K _ (retN X2 hx (t := .boolean) Bd.returns (by simp) (hb hby d21_18) hr), hrun, hended, _, _, rfl, ?_, ⟨_, rfl⟩, hW, hsame.mono (by decide) (by decide)⟩
  show Q_islU Z a1 va kv u0 u1 u2 cs fw h0 n0 _ T2.heap _
  rw [e2]
  exact ⟨rfl, N0, rfl⟩
def Q_slenU (Z : State) (a1 : Addr) (va : Addr) (kv : ClassId) (u0 : Int32) (u1 : Int32) (u2 : Int32) (cs : Int32) (fw : Value) (h0 : Heap) (n0 : Nat) (v : Option Value) (h : Heap) (L : List Loc) : Prop := v = some (.int (3 : Int32)) ∧ Fr n0 L ∧ h = h0
theorem rm_slenU (l : Launch) (Z : State) (a0 : Array Value) (hw : ∀ d ∈ tables_1, d.before a0 Z = true) (ws : List Jvm.Cond) (a1 : Addr) (va : Addr) (kv : ClassId) (u0 : Int32) (u1 : Int32) (u2 : Int32) (cs : Int32) (fw : Value) (h0 : Heap) (n0 : Nat) (Z0 : n0 ≤ h0.size) (hST : own_ST Z cs fw) (O_0 : Old Z n0 h0) (F_value_a1 : Fld Z h0 a1 cN1 "value" "[B" (.ref va)) (F_coder_a1 : Fld Z h0 a1 cN1 "coder" "B" (.int (1 : Int32))) (V_va : OAr Z h0 va kv .byte [(.int (own_b0 u0)), (.int (own_b1 u0)), (.int (own_b0 u1)), (.int (own_b1 u1)), (.int (own_b0 u2)), (.int (own_b1 u2))]) (E_a1 : Exa Z h0 a1 cN1) :
    oM l mN13 jdk_42_method_54_code 1 (some .int) ws ({ frames := 1, cells := 0, slots := 0, locals := 28 } : Room) #[(.ref a1)] Z h0 (Q_slenU Z a1 va kv u0 u1 u2 cs fw h0 n0) := by
  refine MetFree.of_bodySF (plainFor_of_name pn_java_lang_String) hisR ?_
  intro p e s m args below meth c s₁ Bd hml0 hP hK
  obtain ⟨rfl, hZ, hh⟩ := hP
  have hx := Bd.exec
  have hby := Bd.bytes
  have hml : c.maxLocals = 1 := hml0
  have hown : s.vm.findClass "java/lang/String" = some m.cls := findClass_of_methodNamed Bd.named
  have hnm := (name_of_methodNamed Bd.named Bd.method).1
  have X0 : Stand p l e ({ frames := 1, cells := 0, slots := 0, locals := 28 } : Room) s m #[(.ref a1)] below meth c s₁ [] 0 0 := Stand.of_body Bd
  have e0 : s₁.heap = h0 := by rw [← hh, Bd.state]; rfl
  have N0 := Fr.nil n0
  obtain ⟨A0, hA0⟩ : ∃ z, z = s₁.setTop (entryFrame m #[(.ref a1)] 1) := ⟨_, rfl⟩
  have K : OGo p e below A0 s₁ (mkF m 0 #[rv a1] []) := fun t k => hA0 ▸ castTop (ef_18 m a1) k
  obtain ⟨T1, X1, e1, st1⟩ := getF X0 hx hZ hown (host := "") (Or.inl (ow hw 99 rfl)) Via.refl e0 F_value_a1 (g := (mkF m 1 #[rv a1] [(.ref a1)])) rfl rfl (hb hby d18_1)
  obtain ⟨cq2, kq2, qv2a, qv2b, qv2c⟩ := isOf hZ e1 E_a1
  obtain ⟨_, _, ⟨T2, L2, k2, n2⟩, -, X2, ⟨Lc2, hQ2, l2, y2, z2⟩, st2⟩ := X1.virtualBack hx (y := mN11) (z := mN11) hown (mvT hZ (ow hw 111 rfl)) (mvT hZ (ow hw 112 rfl)) (notFace_of_selects (args := #[]) (mvT hZ (ow hw 114 rfl))) (mvT hZ (ow hw 114 rfl)) (mvT hZ (ow hw 113 rfl)) (by decide) (backOf (W := 1) (rm_coderU l Z a0 hw [] a1 va kv u0 u1 u2 cs fw h0 n0 Z0 hST O_0 F_value_a1 F_coder_a1 V_va) hZ (ow hw 115 rfl) (ow hw 77 rfl) (by decide) (by decide)) qv2a qv2c (g := (mkF m 6 #[rv a1] [(.ref a1), (.int 6)])) rfl (by rw [hml]; rfl) (Steps.refl _) (argsL := []) (rest := [(.int (6 : Int32))]) (lenOf pd___B rfl) rfl (by show 2 * 0 + _ ≤ _; exact Nat.le_of_eq rfl) (hb hby d18_6) (fun _ _ => ⟨rfl, e1, (by decide : 0 + 0 ≤ _), (by decide : 0 + 0 ≤ _)⟩)
  dsimp only [Pt.U, Pt.locs, Pt.cells, Pt.slots] at X2 l2 y2 z2 st2 hQ2
  subst l2 y2 z2
  obtain ⟨rfl, Nq2, e2⟩ := hQ2
  have N2 := Fr.app N0 Nq2
  replace K : OGo p e below A0 T2 (mkF m 10 #[rv a1] [(.int 3)]) := fun t k => K t (XS.aloadN X0.here hx rfl (hb hby d18_0) rfl rfl (st1 t (own_len X1 hx hZ e1 V_va (n := (6 : Int32)) rfl (g := (mkF m 4 #[rv a1] [(.ref va)])) rfl rfl (hb hby d18_4) t (XS.aloadN X1.here hx rfl (hb hby d18_5) rfl rfl (st2.trans (XS.ishr X2.here hx rfl (hb hby d18_9) rfl k))))))
  obtain ⟨fs, hr, hrun, hended, hW, hsame⟩ := X2.leave (v := some (.int (3 : Int32))) (fun h => by rw [Bd.returns] at h; cases h)
  subst hA0
  refine ⟨_, _, K _ (retOut X2 hx Bd.returns rfl (Or.inl ⟨rfl, Or.inl rfl, _, rfl⟩) (hb hby d18_10) hr), hrun, hended, _, _, rfl, ?_, ⟨_, rfl⟩, hW, hsame.mono (by decide) (by decide)⟩
  show Q_slenU Z a1 va kv u0 u1 u2 cs fw h0 n0 _ T2.heap _
  rw [e2]
  exact ⟨rfl, N2, rfl⟩
theorem pn_jdk_internal_util_Preconditions : plainName "jdk/internal/util/Preconditions" = true := by first | (simp [plainName, overriddenIn]; done) | decide +kernel
theorem ef_24 (m : MethodId) (x0 : Int32) (x1 : Int32) (x2 : Value) (hx2 : x2.isRef = true) : entryFrame m #[(.int x0), (.int x1), x2] 3 = mkF m 0 #[.val (.int x0), .val (.int x1), .val x2] [] := by rcases ref_cases hx2 with rfl | ⟨_, rfl⟩ <;> first | (simp [entryFrame, mkF, argsToLocals, Value.category]; done) | rfl
abbrev Dc24 (i : Nat) (c : Instr) (k : Nat) : Prop := decode jdk_41_method_11_code i = .ok (c, k)
theorem d24_0 : Dc24 0 (.iload_n 0) 1 := by decide +kernel
theorem d24_1 : Dc24 1 (.ifCond .lt 8) 3 := by decide +kernel
theorem d24_4 : Dc24 4 (.iload_n 0) 1 := by decide +kernel
theorem d24_5 : Dc24 5 (.iload_n 1) 1 := by decide +kernel
theorem d24_6 : Dc24 6 (.if_icmp .lt 10) 3 := by decide +kernel
theorem d24_16 : Dc24 16 (.iload_n 0) 1 := by decide +kernel
theorem d24_17 : Dc24 17 (.ireturn) 1 := by decide +kernel
def Q_pci (Z : State) (p1 : Int32) (p2 : Int32) (fw : Value) (h0 : Heap) (n0 : Nat) (v : Option Value) (h : Heap) (L : List Loc) : Prop := v = some (.int p1) ∧ Fr n0 L ∧ h = h0
theorem rm_pci (l : Launch) (Z : State) (a0 : Array Value) (hw : ∀ d ∈ tables_1, d.before a0 Z = true) (ws : List Jvm.Cond) (p1 : Int32) (p2 : Int32) (fw : Value) (h0 : Heap) (n0 : Nat) (Z0 : n0 ≤ h0.size) (hr_fw : fw.isRef = true) (hi : 0 ≤ p1.toInt ∧ p1.toInt < p2.toInt) :
    oM l mN14 jdk_41_method_11_code 3 (some .int) ws ({ frames := 0, cells := 0, slots := 0, locals := 0 } : Room) #[(.int p1), (.int p2), fw] Z h0 (Q_pci Z p1 p2 fw h0 n0) := by
  refine MetFree.of_bodySF (plainFor_of_name pn_jdk_internal_util_Preconditions) hisR ?_
  intro p e s m args below meth c s₁ Bd hml0 hP hK
  obtain ⟨rfl, hZ, hh⟩ := hP
  have hx := Bd.exec
  have hby := Bd.bytes
  have hml : c.maxLocals = 3 := hml0
  have hown : s.vm.findClass "jdk/internal/util/Preconditions" = some m.cls := findClass_of_methodNamed Bd.named
  have hnm := (name_of_methodNamed Bd.named Bd.method).1
  have X0 : Stand p l e ({ frames := 0, cells := 0, slots := 0, locals := 0 } : Room) s m #[(.int p1), (.int p2), fw] below meth c s₁ [] 0 0 := Stand.of_body Bd
  have e0 : s₁.heap = h0 := by rw [← hh, Bd.state]; rfl
  have N0 := Fr.nil n0
  obtain ⟨A0, hA0⟩ : ∃ z, z = s₁.setTop (entryFrame m #[(.int p1), (.int p2), fw] 3) := ⟨_, rfl⟩
  have K : OGo p e below A0 s₁ (mkF m 0 #[iv p1, iv p2, .val fw] []) := fun t k => hA0 ▸ castTop (ef_24 m p1 p2 fw hr_fw) k
  replace K : OGo p e below A0 s₁ (mkF m 17 #[iv p1, iv p2, .val fw] [(.int p1)]) := fun t k => K t (XS.iloadN X0.here hx rfl (hb hby d24_0) rfl (XS.ifNo X0.here hx rfl (hb hby d24_1) rfl ((if0 _ _).trans (flt ((own_nn hi.1) : ¬ (p1 < (0 : Int32)))).1) (XS.iloadN X0.here hx rfl (hb hby d24_4) rfl (XS.iloadN X0.here hx rfl (hb hby d24_5) rfl (XS.icmpYes X0.here hx rfl (pc0 := 6) (pc' := 16) rfl (hb hby d24_6) rfl (tlt ((own_lt hi.2) : p1 < p2)).1 (by decide) (by decide) (XS.iloadN X0.here hx rfl (hb hby d24_16) rfl k))))))
  obtain ⟨fs, hr, hrun, hended, hW, hsame⟩ := X0.leave (v := some (.int p1)) (fun h => by rw [Bd.returns] at h; cases h)
  subst hA0
  refine ⟨_, _, K _ (retOut X0 hx Bd.returns rfl (Or.inl ⟨rfl, Or.inl rfl, _, rfl⟩) (hb hby d24_17) hr), hrun, hended, _, _, rfl, ?_, ⟨_, rfl⟩, hW, hsame.mono (by decide) (by decide)⟩
  show Q_pci Z p1 p2 fw h0 n0 _ s₁.heap _
  rw [e0]
  exact ⟨rfl, N0, rfl⟩
theorem ef_33 (m : MethodId) (x0 : Int32) (x1 : Int32) (x2 : Int32) (x3 : Value) (hx3 : x3.isRef = true) : entryFrame m #[(.int x0), (.int x1), (.int x2), x3] 4 = mkF m 0 #[.val (.int x0), .val (.int x1), .val (.int x2), .val x3] [] := by rcases ref_cases hx3 with rfl | ⟨_, rfl⟩ <;> first | (simp [entryFrame, mkF, argsToLocals, Value.category]; done) | rfl
abbrev Dc33 (i : Nat) (c : Instr) (k : Nat) : Prop := decode jdk_41_method_12_code i = .ok (c, k)
theorem d33_0 : Dc33 0 (.iload_n 0) 1 := by decide +kernel
theorem d33_1 : Dc33 1 (.ifCond .lt 13) 3 := by decide +kernel
theorem d33_4 : Dc33 4 (.iload_n 0) 1 := by decide +kernel
theorem d33_5 : Dc33 5 (.iload_n 1) 1 := by decide +kernel
theorem d33_6 : Dc33 6 (.if_icmp .gt 8) 3 := by decide +kernel
theorem d33_9 : Dc33 9 (.iload_n 1) 1 := by decide +kernel
theorem d33_10 : Dc33 10 (.iload_n 2) 1 := by decide +kernel
theorem d33_11 : Dc33 11 (.if_icmp .le 11) 3 := by decide +kernel
theorem d33_22 : Dc33 22 (.iload_n 0) 1 := by decide +kernel
theorem d33_23 : Dc33 23 (.ireturn) 1 := by decide +kernel
def Q_pft (Z : State) (p1 : Int32) (p2 : Int32) (p3 : Int32) (fw : Value) (h0 : Heap) (n0 : Nat) (v : Option Value) (h : Heap) (L : List Loc) : Prop := v = some (.int p1) ∧ Fr n0 L ∧ h = h0
theorem rm_pft (l : Launch) (Z : State) (a0 : Array Value) (hw : ∀ d ∈ tables_1, d.before a0 Z = true) (ws : List Jvm.Cond) (p1 : Int32) (p2 : Int32) (p3 : Int32) (fw : Value) (h0 : Heap) (n0 : Nat) (Z0 : n0 ≤ h0.size) (hr_fw : fw.isRef = true) (hi : 0 ≤ p1.toInt ∧ p1.toInt ≤ p2.toInt ∧ p2.toInt ≤ p3.toInt) :
    oM l mN15 jdk_41_method_12_code 4 (some .int) ws ({ frames := 0, cells := 0, slots := 0, locals := 0 } : Room) #[(.int p1), (.int p2), (.int p3), fw] Z h0 (Q_pft Z p1 p2 p3 fw h0 n0) := by
  refine MetFree.of_bodySF (plainFor_of_name pn_jdk_internal_util_Preconditions) hisR ?_
  intro p e s m args below meth c s₁ Bd hml0 hP hK
  obtain ⟨rfl, hZ, hh⟩ := hP
  have hx := Bd.exec
  have hby := Bd.bytes
  have hml : c.maxLocals = 4 := hml0
  have hown : s.vm.findClass "jdk/internal/util/Preconditions" = some m.cls := findClass_of_methodNamed Bd.named
  have hnm := (name_of_methodNamed Bd.named Bd.method).1
  have X0 : Stand p l e ({ frames := 0, cells := 0, slots := 0, locals := 0 } : Room) s m #[(.int p1), (.int p2), (.int p3), fw] below meth c s₁ [] 0 0 := Stand.of_body Bd
  have e0 : s₁.heap = h0 := by rw [← hh, Bd.state]; rfl
  have N0 := Fr.nil n0
  obtain ⟨A0, hA0⟩ : ∃ z, z = s₁.setTop (entryFrame m #[(.int p1), (.int p2), (.int p3), fw] 4) := ⟨_, rfl⟩
  have K : OGo p e below A0 s₁ (mkF m 0 #[iv p1, iv p2, iv p3, .val fw] []) := fun t k => hA0 ▸ castTop (ef_33 m p1 p2 p3 fw hr_fw) k
  replace K : OGo p e below A0 s₁ (mkF m 23 #[iv p1, iv p2, iv p3, .val fw] [(.int p1)]) := fun t k => K t (XS.iloadN X0.here hx rfl (hb hby d33_0) rfl (XS.ifNo X0.here hx rfl (hb hby d33_1) rfl ((if0 _ _).trans (flt ((own_nn hi.1) : ¬ (p1 < (0 : Int32)))).1) (XS.iloadN X0.here hx rfl (hb hby d33_4) rfl (XS.iloadN X0.here hx rfl (hb hby d33_5) rfl (XS.icmpNo X0.here hx rfl (hb hby d33_6) rfl (flt ((own_nlt hi.2.1) : ¬ (p2 < p1))).2.2.1 (XS.iloadN X0.here hx rfl (hb hby d33_9) rfl (XS.iloadN X0.here hx rfl (hb hby d33_10) rfl (XS.icmpYes X0.here hx rfl (pc0 := 11) (pc' := 22) rfl (hb hby d33_11) rfl (flt ((own_nlt hi.2.2) : ¬ (p3 < p2))).2.2.2 (by decide) (by decide) (XS.iloadN X0.here hx rfl (hb hby d33_22) rfl k)))))))))
  obtain ⟨fs, hr, hrun, hended, hW, hsame⟩ := X0.leave (v := some (.int p1)) (fun h => by rw [Bd.returns] at h; cases h)
  subst hA0
  refine ⟨_, _, K _ (retOut X0 hx Bd.returns rfl (Or.inl ⟨rfl, Or.inl rfl, _, rfl⟩) (hb hby d33_23) hr), hrun, hended, _, _, rfl, ?_, ⟨_, rfl⟩, hW, hsame.mono (by decide) (by decide)⟩
  show Q_pft Z p1 p2 p3 fw h0 n0 _ s₁.heap _
  rw [e0]
  exact ⟨rfl, N0, rfl⟩
theorem ef_35 (m : MethodId) (x0 : Int32) (x1 : Int32) (x2 : Int32) (x3 : Value) (hx3 : x3.isRef = true) : entryFrame m #[(.int x0), (.int x1), (.int x2), x3] 4 = mkF m 0 #[.val (.int x0), .val (.int x1), .val (.int x2), .val x3] [] := by rcases ref_cases hx3 with rfl | ⟨_, rfl⟩ <;> first | (simp [entryFrame, mkF, argsToLocals, Value.category]; done) | rfl
abbrev Dc35 (i : Nat) (c : Instr) (k : Nat) : Prop := decode jdk_41_method_13_code i = .ok (c, k)
theorem d35_0 : Dc35 0 (.iload_n 2) 1 := by decide +kernel
theorem d35_1 : Dc35 1 (.iload_n 0) 1 := by decide +kernel
theorem d35_2 : Dc35 2 (.ior) 1 := by decide +kernel
theorem d35_3 : Dc35 3 (.iload_n 1) 1 := by decide +kernel
theorem d35_4 : Dc35 4 (.ior) 1 := by decide +kernel
theorem d35_5 : Dc35 5 (.ifCond .lt 10) 3 := by decide +kernel
theorem d35_8 : Dc35 8 (.iload_n 1) 1 := by decide +kernel
theorem d35_9 : Dc35 9 (.iload_n 2) 1 := by decide +kernel
theorem d35_10 : Dc35 10 (.iload_n 0) 1 := by decide +kernel
theorem d35_11 : Dc35 11 (.isub) 1 := by decide +kernel
theorem d35_12 : Dc35 12 (.if_icmp .le 11) 3 := by decide +kernel
theorem d35_23 : Dc35 23 (.iload_n 0) 1 := by decide +kernel
theorem d35_24 : Dc35 24 (.ireturn) 1 := by decide +kernel
def Q_pfs (Z : State) (p1 : Int32) (p2 : Int32) (p3 : Int32) (fw : Value) (h0 : Heap) (n0 : Nat) (v : Option Value) (h : Heap) (L : List Loc) : Prop := v = some (.int p1) ∧ Fr n0 L ∧ h = h0
theorem rm_pfs (l : Launch) (Z : State) (a0 : Array Value) (hw : ∀ d ∈ tables_1, d.before a0 Z = true) (ws : List Jvm.Cond) (p1 : Int32) (p2 : Int32) (p3 : Int32) (fw : Value) (h0 : Heap) (n0 : Nat) (Z0 : n0 ≤ h0.size) (hr_fw : fw.isRef = true) (hi : own_oc p1 p2 p3) :
    oM l mN16 jdk_41_method_13_code 4 (some .int) ws ({ frames := 0, cells := 0, slots := 0, locals := 0 } : Room) #[(.int p1), (.int p2), (.int p3), fw] Z h0 (Q_pfs Z p1 p2 p3 fw h0 n0) := by
  refine MetFree.of_bodySF (plainFor_of_name pn_jdk_internal_util_Preconditions) hisR ?_
  intro p e s m args below meth c s₁ Bd hml0 hP hK
  obtain ⟨rfl, hZ, hh⟩ := hP
  have hx := Bd.exec
  have hby := Bd.bytes
  have hml : c.maxLocals = 4 := hml0
  have hown : s.vm.findClass "jdk/internal/util/Preconditions" = some m.cls := findClass_of_methodNamed Bd.named
  have hnm := (name_of_methodNamed Bd.named Bd.method).1
  have X0 : Stand p l e ({ frames := 0, cells := 0, slots := 0, locals := 0 } : Room) s m #[(.int p1), (.int p2), (.int p3), fw] below meth c s₁ [] 0 0 := Stand.of_body Bd
  have e0 : s₁.heap = h0 := by rw [← hh, Bd.state]; rfl
  have N0 := Fr.nil n0
  obtain ⟨A0, hA0⟩ : ∃ z, z = s₁.setTop (entryFrame m #[(.int p1), (.int p2), (.int p3), fw] 4) := ⟨_, rfl⟩
  have K : OGo p e below A0 s₁ (mkF m 0 #[iv p1, iv p2, iv p3, .val fw] []) := fun t k => hA0 ▸ castTop (ef_35 m p1 p2 p3 fw hr_fw) k
  replace K : OGo p e below A0 s₁ (mkF m 24 #[iv p1, iv p2, iv p3, .val fw] [(.int p1)]) := fun t k => K t (XS.iloadN X0.here hx rfl (hb hby d35_0) rfl (XS.iloadN X0.here hx rfl (hb hby d35_1) rfl (XS.ior X0.here hx rfl (hb hby d35_2) rfl (XS.iloadN X0.here hx rfl (hb hby d35_3) rfl (XS.ior X0.here hx rfl (hb hby d35_4) rfl (XS.ifNo X0.here hx rfl (hb hby d35_5) rfl ((if0 _ _).trans (flt ((own_oc1 hi) : ¬ (((p3 ||| p1) ||| p2) < (0 : Int32)))).1) (XS.iloadN X0.here hx rfl (hb hby d35_8) rfl (XS.iloadN X0.here hx rfl (hb hby d35_9) rfl (XS.iloadN X0.here hx rfl (hb hby d35_10) rfl (XS.isub X0.here hx rfl (hb hby d35_11) rfl (XS.icmpYes X0.here hx rfl (pc0 := 12) (pc' := 23) rfl (hb hby d35_12) rfl (flt ((own_oc2 hi) : ¬ ((p3 - p1) < p2))).2.2.2 (by decide) (by decide) (XS.iloadN X0.here hx rfl (hb hby d35_23) rfl k))))))))))))
  obtain ⟨fs, hr, hrun, hended, hW, hsame⟩ := X0.leave (v := some (.int p1)) (fun h => by rw [Bd.returns] at h; cases h)
  subst hA0
  refine ⟨_, _, K _ (retOut X0 hx Bd.returns rfl (Or.inl ⟨rfl, Or.inl rfl, _, rfl⟩) (hb hby d35_24) hr), hrun, hended, _, _, rfl, ?_, ⟨_, rfl⟩, hW, hsame.mono (by decide) (by decide)⟩
  show Q_pfs Z p1 p2 p3 fw h0 n0 _ s₁.heap _
  rw [e0]
  exact ⟨rfl, N0, rfl⟩
theorem ef_23 (m : MethodId) (x0 : Int32) (x1 : Int32) : entryFrame m #[(.int x0), (.int x1)] 2 = mkF m 0 #[.val (.int x0), .val (.int x1)] [] := by first | (simp [entryFrame, mkF, argsToLocals, Value.category]; done) | rfl
abbrev Dc23 (i : Nat) (c : Instr) (k : Nat) : Prop := decode jdk_42_method_155_code i = .ok (c, k)
theorem d23_0 : Dc23 0 (.iload_n 0) 1 := by decide +kernel
theorem d23_1 : Dc23 1 (.iload_n 1) 1 := by decide +kernel
theorem d23_2 : Dc23 2 (.getstatic 1053) 3 := by decide +kernel
theorem d23_5 : Dc23 5 (.invokestatic 1059) 3 := by decide +kernel
theorem pd__IILjava_util_function_BiFunction__I : parseMethodDescriptor "(IILjava/util/function/BiFunction;)I" = some ⟨[.int, .int, (.object "java/util/function/BiFunction")], some .int⟩ := by decide +kernel
theorem d23_8 : Dc23 8 (.pop) 1 := by decide +kernel
theorem d23_9 : Dc23 9 (.return_) 1 := by decide +kernel
def Q_sci (Z : State) (p1 : Int32) (p2 : Int32) (cs : Int32) (fw : Value) (h0 : Heap) (n0 : Nat) (v : Option Value) (h : Heap) (L : List Loc) : Prop := v = none ∧ Fr n0 L ∧ h = h0
theorem rm_sci (l : Launch) (Z : State) (a0 : Array Value) (hw : ∀ d ∈ tables_1, d.before a0 Z = true) (ws : List Jvm.Cond) (p1 : Int32) (p2 : Int32) (cs : Int32) (fw : Value) (h0 : Heap) (n0 : Nat) (Z0 : n0 ≤ h0.size) (hST : own_ST Z cs fw) (O_0 : Old Z n0 h0) (hi : 0 ≤ p1.toInt ∧ p1.toInt < p2.toInt) :
    oM l mN17 jdk_42_method_155_code 2 none ws ({ frames := 1, cells := 0, slots := 0, locals := 28 } : Room) #[(.int p1), (.int p2)] Z h0 (Q_sci Z p1 p2 cs fw h0 n0) := by
  refine MetFree.of_bodySF (plainFor_of_name pn_java_lang_String) hisR ?_
  intro p e s m args below meth c s₁ Bd hml0 hP hK
  obtain ⟨rfl, hZ, hh⟩ := hP
  have hx := Bd.exec
  have hby := Bd.bytes
  have hml : c.maxLocals = 2 := hml0
  have hown : s.vm.findClass "java/lang/String" = some m.cls := findClass_of_methodNamed Bd.named
  have hnm := (name_of_methodNamed Bd.named Bd.method).1
  have X0 : Stand p l e ({ frames := 1, cells := 0, slots := 0, locals := 28 } : Room) s m #[(.int p1), (.int p2)] below meth c s₁ [] 0 0 := Stand.of_body Bd
  have e0 : s₁.heap = h0 := by rw [← hh, Bd.state]; rfl
  have N0 := Fr.nil n0
  obtain ⟨A0, hA0⟩ : ∃ z, z = s₁.setTop (entryFrame m #[(.int p1), (.int p2)] 2) := ⟨_, rfl⟩
  have K : OGo p e below A0 s₁ (mkF m 0 #[iv p1, iv p2] []) := fun t k => hA0 ▸ castTop (ef_23 m p1 p2) k
  have hr_fw := hST.fr
  obtain ⟨T1, X1, e1, st1⟩ := getS2 X0 hx hZ hown (host := "") (Or.inl (ow hw 133 rfl)) Via.refl e0 (hST.fm.ext O_0.2) (g := (mkF m 2 #[iv p1, iv p2] [(.int p2), (.int p1)])) rfl (hb hby d23_2)
  obtain ⟨_, _, ⟨T2, L2, k2, n2⟩, -, X2, ⟨Lc2, hQ2, l2, y2, z2⟩, st2⟩ := Jvm.LawKit.callS X1 hx (y := mN14) hown (mvT hZ (ow hw 135 rfl)) (mvT hZ (ow hw 136 rfl)) (mvT hZ (ow hw 134 rfl)) (mvT hZ (ow hw 137 rfl)) (by decide) (backOf (W := 0) (rm_pci l Z a0 hw [] p1 p2 fw h0 n0 Z0 hr_fw hi) hZ (ow hw 137 rfl) (ow hw 134 rfl) (by decide) (by decide)) (g := (mkF m 5 #[iv p1, iv p2] [fw, (.int p2), (.int p1)])) rfl (by rw [hml]; rfl) (argsL := [(.int p1), (.int p2), fw]) (rest := []) (lenOf pd__IILjava_util_function_BiFunction__I rfl) rfl (by show 2 * 0 + _ ≤ _; exact Nat.le_of_eq rfl) (hb hby d23_5) (fun _ _ => ⟨rfl, e1, (by decide : 0 + 0 ≤ _), (by decide : 0 + 0 ≤ _)⟩)
  dsimp only [Pt.U, Pt.locs, Pt.cells, Pt.slots] at X2 l2 y2 z2 st2 hQ2
  subst l2 y2 z2
  obtain ⟨rfl, Nq2, e2⟩ := hQ2
  have N2 := Fr.app N0 Nq2
  replace K : OGo p e below A0 T2 (mkF m 9 #[iv p1, iv p2] []) := fun t k => K t (XS.iloadN X0.here hx rfl (hb hby d23_0) rfl (XS.iloadN X0.here hx rfl (hb hby d23_1) rfl (st1 t (st2 t (Jvm.Free.XT.pop X2.here hx rfl (hb hby d23_8) rfl rfl k)))))
  obtain ⟨fs, hr, hrun, hended, hW, hsame⟩ := X2.leave (v := none) (fun _ => rfl)
  subst hA0
  refine ⟨_, _, K _ (X2.returnOut hx Bd.returns (hb hby d23_9) hr), hrun, hended, _, _, rfl, ?_, ⟨_, rfl⟩, hW, hsame.mono (by decide) (by decide)⟩
  show Q_sci Z p1 p2 cs fw h0 n0 _ T2.heap _
  rw [e2]
  exact ⟨rfl, N2, rfl⟩
theorem ef_32 (m : MethodId) (x0 : Int32) (x1 : Int32) (x2 : Int32) : entryFrame m #[(.int x0), (.int x1), (.int x2)] 3 = mkF m 0 #[.val (.int x0), .val (.int x1), .val (.int x2)] [] := by first | (simp [entryFrame, mkF, argsToLocals, Value.category]; done) | rfl
abbrev Dc32 (i : Nat) (c : Instr) (k : Nat) : Prop := decode jdk_42_method_158_code i = .ok (c, k)
theorem d32_0 : Dc32 0 (.iload_n 0) 1 := by decide +kernel
theorem d32_1 : Dc32 1 (.iload_n 1) 1 := by decide +kernel
theorem d32_2 : Dc32 2 (.iload_n 2) 1 := by decide +kernel
theorem d32_3 : Dc32 3 (.getstatic 1053) 3 := by decide +kernel
theorem d32_6 : Dc32 6 (.invokestatic 1062) 3 := by decide +kernel
theorem pd__IIILjava_util_function_BiFunction__I : parseMethodDescriptor "(IIILjava/util/function/BiFunction;)I" = some ⟨[.int, .int, .int, (.object "java/util/function/BiFunction")], some .int⟩ := by decide +kernel
theorem d32_9 : Dc32 9 (.pop) 1 := by decide +kernel
theorem d32_10 : Dc32 10 (.return_) 1 := by decide +kernel
def Q_cbe (Z : State) (p1 : Int32) (p2 : Int32) (p3 : Int32) (cs : Int32) (fw : Value) (h0 : Heap) (n0 : Nat) (v : Option Value) (h : Heap) (L : List Loc) : Prop := v = none ∧ Fr n0 L ∧ h = h0
theorem rm_cbe (l : Launch) (Z : State) (a0 : Array Value) (hw : ∀ d ∈ tables_1, d.before a0 Z = true) (ws : List Jvm.Cond) (p1 : Int32) (p2 : Int32) (p3 : Int32) (cs : Int32) (fw : Value) (h0 : Heap) (n0 : Nat) (Z0 : n0 ≤ h0.size) (hST : own_ST Z cs fw) (O_0 : Old Z n0 h0) (hi : 0 ≤ p1.toInt ∧ p1.toInt ≤ p2.toInt ∧ p2.toInt ≤ p3.toInt) :
    oM l mN18 jdk_42_method_158_code 3 none ws ({ frames := 1, cells := 0, slots := 0, locals := 28 } : Room) #[(.int p1), (.int p2), (.int p3)] Z h0 (Q_cbe Z p1 p2 p3 cs fw h0 n0) := by
  refine MetFree.of_bodySF (plainFor_of_name pn_java_lang_String) hisR ?_
  intro p e s m args below meth c s₁ Bd hml0 hP hK
  obtain ⟨rfl, hZ, hh⟩ := hP
  have hx := Bd.exec
  have hby := Bd.bytes
  have hml : c.maxLocals = 3 := hml0
  have hown : s.vm.findClass "java/lang/String" = some m.cls := findClass_of_methodNamed Bd.named
  have hnm := (name_of_methodNamed Bd.named Bd.method).1
  have X0 : Stand p l e ({ frames := 1, cells := 0, slots := 0, locals := 28 } : Room) s m #[(.int p1), (.int p2), (.int p3)] below meth c s₁ [] 0 0 := Stand.of_body Bd
  have e0 : s₁.heap = h0 := by rw [← hh, Bd.state]; rfl
  have N0 := Fr.nil n0
  obtain ⟨A0, hA0⟩ : ∃ z, z = s₁.setTop (entryFrame m #[(.int p1), (.int p2), (.int p3)] 3) := ⟨_, rfl⟩
  have K : OGo p e below A0 s₁ (mkF m 0 #[iv p1, iv p2, iv p3] []) := fun t k => hA0 ▸ castTop (ef_32 m p1 p2 p3) k
  have hr_fw := hST.fr
  obtain ⟨T1, X1, e1, st1⟩ := getS2 X0 hx hZ hown (host := "") (Or.inl (ow hw 133 rfl)) Via.refl e0 (hST.fm.ext O_0.2) (g := (mkF m 3 #[iv p1, iv p2, iv p3] [(.int p3), (.int p2), (.int p1)])) rfl (hb hby d32_3)
  obtain ⟨_, _, ⟨T2, L2, k2, n2⟩, -, X2, ⟨Lc2, hQ2, l2, y2, z2⟩, st2⟩ := Jvm.LawKit.callS X1 hx (y := mN15) hown (mvT hZ (ow hw 174 rfl)) (mvT hZ (ow hw 175 rfl)) (mvT hZ (ow hw 134 rfl)) (mvT hZ (ow hw 176 rfl)) (by decide) (backOf (W := 0) (rm_pft l Z a0 hw [] p1 p2 p3 fw h0 n0 Z0 hr_fw hi) hZ (ow hw 176 rfl) (ow hw 134 rfl) (by decide) (by decide)) (g := (mkF m 6 #[iv p1, iv p2, iv p3] [fw, (.int p3), (.int p2), (.int p1)])) rfl (by rw [hml]; rfl) (argsL := [(.int p1), (.int p2), (.int p3), fw]) (rest := []) (lenOf pd__IIILjava_util_function_BiFunction__I rfl) rfl (by show 2 * 0 + _ ≤ _; exact Nat.le_of_eq rfl) (hb hby d32_6) (fun _ _ => ⟨rfl, e1, (by decide : 0 + 0 ≤ _), (by decide : 0 + 0 ≤ _)⟩)
  dsimp only [Pt.U, Pt.locs, Pt.cells, Pt.slots] at X2 l2 y2 z2 st2 hQ2
  subst l2 y2 z2
  obtain ⟨rfl, Nq2, e2⟩ := hQ2
  have N2 := Fr.app N0 Nq2
  replace K : OGo p e below A0 T2 (mkF m 10 #[iv p1, iv p2, iv p3] []) := fun t k => K t (XS.iloadN X0.here hx rfl (hb hby d32_0) rfl (XS.iloadN X0.here hx rfl (hb hby d32_1) rfl (XS.iloadN X0.here hx rfl (hb hby d32_2) rfl (st1 t (st2 t (Jvm.Free.XT.pop X2.here hx rfl (hb hby d32_9) rfl rfl k))))))
  obtain ⟨fs, hr, hrun, hended, hW, hsame⟩ := X2.leave (v := none) (fun _ => rfl)
  subst hA0
  refine ⟨_, _, K _ (X2.returnOut hx Bd.returns (hb hby d32_10) hr), hrun, hended, _, _, rfl, ?_, ⟨_, rfl⟩, hW, hsame.mono (by decide) (by decide)⟩
  show Q_cbe Z p1 p2 p3 cs fw h0 n0 _ T2.heap _
  rw [e2]
  exact ⟨rfl, N2, rfl⟩
theorem ef_34 (m : MethodId) (x0 : Int32) (x1 : Int32) (x2 : Int32) : entryFrame m #[(.int x0), (.int x1), (.int x2)] 3 = mkF m 0 #[.val (.int x0), .val (.int x1), .val (.int x2)] [] := by first | (simp [entryFrame, mkF, argsToLocals, Value.category]; done) | rfl
abbrev Dc34 (i : Nat) (c : Instr) (k : Nat) : Prop := decode jdk_42_method_157_code i = .ok (c, k)
theorem d34_0 : Dc34 0 (.iload_n 0) 1 := by decide +kernel
theorem d34_1 : Dc34 1 (.iload_n 1) 1 := by decide +kernel
theorem d34_2 : Dc34 2 (.iload_n 2) 1 := by decide +kernel
theorem d34_3 : Dc34 3 (.getstatic 1053) 3 := by decide +kernel
theorem d34_6 : Dc34 6 (.invokestatic 1065) 3 := by decide +kernel
theorem d34_9 : Dc34 9 (.ireturn) 1 := by decide +kernel
def Q_coc (Z : State) (p1 : Int32) (p2 : Int32) (p3 : Int32) (cs : Int32) (fw : Value) (h0 : Heap) (n0 : Nat) (v : Option Value) (h : Heap) (L : List Loc) : Prop := v = some (.int p1) ∧ Fr n0 L ∧ h = h0
theorem rm_coc (l : Launch) (Z : State) (a0 : Array Value) (hw : ∀ d ∈ tables_1, d.before a0 Z = true) (ws : List Jvm.Cond) (p1 : Int32) (p2 : Int32) (p3 : Int32) (cs : Int32) (fw : Value) (h0 : Heap) (n0 : Nat) (Z0 : n0 ≤ h0.size) (hST : own_ST Z cs fw) (O_0 : Old Z n0 h0) (hi : own_oc p1 p2 p3) :
    oM l mN19 jdk_42_method_157_code 3 (some .int) ws ({ frames := 1, cells := 0, slots := 0, locals := 28 } : Room) #[(.int p1), (.int p2), (.int p3)] Z h0 (Q_coc Z p1 p2 p3 cs fw h0 n0) := by
  refine MetFree.of_bodySF (plainFor_of_name pn_java_lang_String) hisR ?_
  intro p e s m args below meth c s₁ Bd hml0 hP hK
  obtain ⟨rfl, hZ, hh⟩ := hP
  have hx := Bd.exec
  have hby := Bd.bytes
  have hml : c.maxLocals = 3 := hml0
  have hown : s.vm.findClass "java/lang/String" = some m.cls := findClass_of_methodNamed Bd.named
  have hnm := (name_of_methodNamed Bd.named Bd.method).1
  have X0 : Stand p l e ({ frames := 1, cells := 0, slots := 0, locals := 28 } : Room) s m #[(.int p1), (.int p2), (.int p3)] below meth c s₁ [] 0 0 := Stand.of_body Bd
  have e0 : s₁.heap = h0 := by rw [← hh, Bd.state]; rfl
  have N0 := Fr.nil n0
  obtain ⟨A0, hA0⟩ : ∃ z, z = s₁.setTop (entryFrame m #[(.int p1), (.int p2), (.int p3)] 3) := ⟨_, rfl⟩
  have K : OGo p e below A0 s₁ (mkF m 0 #[iv p1, iv p2, iv p3] []) := fun t k => hA0 ▸ castTop (ef_34 m p1 p2 p3) k
  have hr_fw := hST.fr
  obtain ⟨T1, X1, e1, st1⟩ := getS2 X0 hx hZ hown (host := "") (Or.inl (ow hw 133 rfl)) Via.refl e0 (hST.fm.ext O_0.2) (g := (mkF m 3 #[iv p1, iv p2, iv p3] [(.int p3), (.int p2), (.int p1)])) rfl (hb hby d34_3)
  obtain ⟨_, _, ⟨T2, L2, k2, n2⟩, -, X2, ⟨Lc2, hQ2, l2, y2, z2⟩, st2⟩ := Jvm.LawKit.callS X1 hx (y := mN16) hown (mvT hZ (ow hw 180 rfl)) (mvT hZ (ow hw 181 rfl)) (mvT hZ (ow hw 134 rfl)) (mvT hZ (ow hw 182 rfl)) (by decide) (backOf (W := 0) (rm_pfs l Z a0 hw [] p1 p2 p3 fw h0 n0 Z0 hr_fw hi) hZ (ow hw 182 rfl) (ow hw 134 rfl) (by decide) (by decide)) (g := (mkF m 6 #[iv p1, iv p2, iv p3] [fw, (.int p3), (.int p2), (.int p1)])) rfl (by rw [hml]; rfl) (argsL := [(.int p1), (.int p2), (.int p3), fw]) (rest := []) (lenOf pd__IIILjava_util_function_BiFunction__I rfl) rfl (by show 2 * 0 + _ ≤ _; exact Nat.le_of_eq rfl) (hb hby d34_6) (fun _ _ => ⟨rfl, e1, (by decide : 0 + 0 ≤ _), (by decide : 0 + 0 ≤ _)⟩)
  dsimp only [Pt.U, Pt.locs, Pt.cells, Pt.slots] at X2 l2 y2 z2 st2 hQ2
  subst l2 y2 z2
  obtain ⟨rfl, Nq2, e2⟩ := hQ2
  have N2 := Fr.app N0 Nq2
  replace K : OGo p e below A0 T2 (mkF m 9 #[iv p1, iv p2, iv p3] [(.int p1)]) := fun t k => K t (XS.iloadN X0.here hx rfl (hb hby d34_0) rfl (XS.iloadN X0.here hx rfl (hb hby d34_1) rfl (XS.iloadN X0.here hx rfl (hb hby d34_2) rfl (st1 t (st2 t k)))))
  obtain ⟨fs, hr, hrun, hended, hW, hsame⟩ := X2.leave (v := some (.int p1)) (fun h => by rw [Bd.returns] at h; cases h)
  subst hA0
  refine ⟨_, _, K _ (retOut X2 hx Bd.returns rfl (Or.inl ⟨rfl, Or.inl rfl, _, rfl⟩) (hb hby d34_9) hr), hrun, hended, _, _, rfl, ?_, ⟨_, rfl⟩, hW, hsame.mono (by decide) (by decide)⟩
  show Q_coc Z p1 p2 p3 cs fw h0 n0 _ T2.heap _
  rw [e2]
  exact ⟨rfl, N2, rfl⟩
theorem ef_37 (m : MethodId) (x0 : Int32) (x1 : Int32) (x2 : Addr) : entryFrame m #[(.int x0), (.int x1), (.ref x2)] 3 = mkF m 0 #[.val (.int x0), .val (.int x1), .val (.ref x2)] [] := by first | (simp [entryFrame, mkF, argsToLocals, Value.category]; done) | rfl
abbrev Dc37 (i : Nat) (c : Instr) (k : Nat) : Prop := decode jdk_52_method_94_code i = .ok (c, k)
theorem d37_0 : Dc37 0 (.iload_n 0) 1 := by decide +kernel
theorem d37_1 : Dc37 1 (.iload_n 1) 1 := by decide +kernel
theorem d37_2 : Dc37 2 (.aload_n 2) 1 := by decide +kernel
theorem d37_3 : Dc37 3 (.invokestatic 48) 3 := by decide +kernel
theorem pd___B_I : parseMethodDescriptor "([B)I" = some ⟨[(.array .byte)], some .int⟩ := by decide +kernel
theorem d37_6 : Dc37 6 (.invokestatic 419) 3 := by decide +kernel
theorem pd__III_I : parseMethodDescriptor "(III)I" = some ⟨[.int, .int, .int], some .int⟩ := by decide +kernel
theorem d37_9 : Dc37 9 (.pop) 1 := by decide +kernel
theorem d37_10 : Dc37 10 (.return_) 1 := by decide +kernel
def Q_coc16 (Z : State) (p1 : Int32) (p2 : Int32) (va : Addr) (kv : ClassId) (u0 : Int32) (u1 : Int32) (u2 : Int32) (cs : Int32) (fw : Value) (h0 : Heap) (n0 : Nat) (v : Option Value) (h : Heap) (L : List Loc) : Prop := v = none ∧ Fr n0 L ∧ h = h0
theorem rm_coc16 (l : Launch) (Z : State) (a0 : Array Value) (hw : ∀ d ∈ tables_1, d.before a0 Z = true) (ws : List Jvm.Cond) (p1 : Int32) (p2 : Int32) (va : Addr) (kv : ClassId) (u0 : Int32) (u1 : Int32) (u2 : Int32) (cs : Int32) (fw : Value) (h0 : Heap) (n0 : Nat) (Z0 : n0 ≤ h0.size) (hST : own_ST Z cs fw) (O_0 : Old Z n0 h0) (V_va : OAr Z h0 va kv .byte [(.int (own_b0 u0)), (.int (own_b1 u0)), (.int (own_b0 u1)), (.int (own_b1 u1)), (.int (own_b0 u2)), (.int (own_b1 u2))]) (hi : own_oc p1 p2 (3 : Int32)) :
    oM l mN20 jdk_52_method_94_code 3 none ws ({ frames := 2, cells := 0, slots := 0, locals := 56 } : Room) #[(.int p1), (.int p2), (.ref va)] Z h0 (Q_coc16 Z p1 p2 va kv u0 u1 u2 cs fw h0 n0) := by
  refine MetFree.of_bodySF (plainFor_of_name pn_java_lang_StringUTF16) hisR ?_
  intro p e s m args below meth c s₁ Bd hml0 hP hK
  obtain ⟨rfl, hZ, hh⟩ := hP
  have hx := Bd.exec
  have hby := Bd.bytes
  have hml : c.maxLocals = 3 := hml0
  have hown : s.vm.findClass "java/lang/StringUTF16" = some m.cls := findClass_of_methodNamed Bd.named
  have hnm := (name_of_methodNamed Bd.named Bd.method).1
  have X0 : Stand p l e ({ frames := 2, cells := 0, slots := 0, locals := 56 } : Room) s m #[(.int p1), (.int p2), (.ref va)] below meth c s₁ [] 0 0 := Stand.of_body Bd
  have e0 : s₁.heap = h0 := by rw [← hh, Bd.state]; rfl
  have N0 := Fr.nil n0
  obtain ⟨A0, hA0⟩ : ∃ z, z = s₁.setTop (entryFrame m #[(.int p1), (.int p2), (.ref va)] 3) := ⟨_, rfl⟩
  have K : OGo p e below A0 s₁ (mkF m 0 #[iv p1, iv p2, rv va] []) := fun t k => hA0 ▸ castTop (ef_37 m p1 p2 va) k
  obtain ⟨_, _, ⟨T1, L1, k1, n1⟩, -, X1, ⟨Lc1, hQ1, l1, y1, z1⟩, st1⟩ := Jvm.LawKit.callS X0 hx (y := mN10) hown (mvT hZ (ow hw 189 rfl)) (mvT hZ (ow hw 190 rfl)) (mvT hZ (ow hw 89 rfl)) (mvT hZ (ow hw 191 rfl)) (by decide) (backOf (W := 2) (rm_len16 l Z a0 hw [] va kv u0 u1 u2 h0 n0 Z0 V_va) hZ (ow hw 191 rfl) (ow hw 89 rfl) (by decide) (by decide)) (g := (mkF m 3 #[iv p1, iv p2, rv va] [(.ref va), (.int p2), (.int p1)])) rfl (by rw [hml]; rfl) (argsL := [(.ref va)]) (rest := [(.int p2), (.int p1)]) (lenOf pd___B_I rfl) rfl (by show 2 * 0 + _ ≤ _; exact Nat.le_of_eq rfl) (hb hby d37_3) (fun _ _ => ⟨rfl, e0, (by decide : 0 + 0 ≤ _), (by decide : 0 + 0 ≤ _)⟩)
  dsimp only [Pt.U, Pt.locs, Pt.cells, Pt.slots] at X1 l1 y1 z1 st1 hQ1
  subst l1 y1 z1
  obtain ⟨rfl, Nq1, e1⟩ := hQ1
  have N1 := Fr.app N0 Nq1
  obtain ⟨_, _, ⟨T2, L2, k2, n2⟩, -, X2, ⟨Lc2, hQ2, l2, y2, z2⟩, st2⟩ := Jvm.LawKit.callS X1 hx (y := mN19) hown (mvT hZ (ow hw 192 rfl)) (mvT hZ (ow hw 178 rfl)) (mvT hZ (ow hw 77 rfl)) (mvT hZ (ow hw 179 rfl)) (by decide) (backOf (W := 0) (rm_coc l Z a0 hw [] p1 p2 (3 : Int32) cs fw h0 n0 Z0 hST O_0 hi) hZ (ow hw 179 rfl) (ow hw 77 rfl) (by decide) (by decide)) (g := (mkF m 6 #[iv p1, iv p2, rv va] [(.int 3), (.int p2), (.int p1)])) rfl (by rw [hml]; rfl) (argsL := [(.int p1), (.int p2), (.int (3 : Int32))]) (rest := []) (lenOf pd__III_I rfl) rfl (by show 2 * 0 + _ ≤ _; exact Nat.le_of_eq rfl) (hb hby d37_6) (fun _ _ => ⟨rfl, e1, (by decide : 0 + 0 ≤ _), (by decide : 0 + 0 ≤ _)⟩)
  dsimp only [Pt.U, Pt.locs, Pt.cells, Pt.slots] at X2 l2 y2 z2 st2 hQ2
  subst l2 y2 z2
  obtain ⟨rfl, Nq2, e2⟩ := hQ2
  have N2 := Fr.app N1 Nq2
  replace K : OGo p e below A0 T2 (mkF m 10 #[iv p1, iv p2, rv va] []) := fun t k => K t (XS.iloadN X0.here hx rfl (hb hby d37_0) rfl (XS.iloadN X0.here hx rfl (hb hby d37_1) rfl (XS.aloadN X0.here hx rfl (hb hby d37_2) rfl rfl (st1 t (st2 t (Jvm.Free.XT.pop X2.here hx rfl (hb hby d37_9) rfl rfl k))))))
  obtain ⟨fs, hr, hrun, hended, hW, hsame⟩ := X2.leave (v := none) (fun _ => rfl)
  subst hA0
  refine ⟨_, _, K _ (X2.returnOut hx Bd.returns (hb hby d37_10) hr), hrun, hended, _, _, rfl, ?_, ⟨_, rfl⟩, hW, hsame.mono (by decide) (by decide)⟩
  show Q_coc16 Z p1 p2 va kv u0 u1 u2 cs fw h0 n0 _ T2.heap _
  rw [e2]
  exact ⟨rfl, N2, rfl⟩
theorem ef_41 (m : MethodId) (x0 : Int32) (x1 : Addr) : entryFrame m #[(.int x0), (.ref x1)] 2 = mkF m 0 #[.val (.int x0), .val (.ref x1)] [] := by first | (simp [entryFrame, mkF, argsToLocals, Value.category]; done) | rfl
abbrev Dc41 (i : Nat) (c : Instr) (k : Nat) : Prop := decode jdk_52_method_91_code i = .ok (c, k)
theorem d41_0 : Dc41 0 (.iload_n 0) 1 := by decide +kernel
theorem d41_1 : Dc41 1 (.aload_n 1) 1 := by decide +kernel
theorem d41_2 : Dc41 2 (.invokestatic 48) 3 := by decide +kernel
theorem d41_5 : Dc41 5 (.invokestatic 414) 3 := by decide +kernel
theorem pd__II_V : parseMethodDescriptor "(II)V" = some ⟨[.int, .int], none⟩ := by decide +kernel
theorem d41_8 : Dc41 8 (.return_) 1 := by decide +kernel
def Q_ci16 (Z : State) (p1 : Int32) (va : Addr) (kv : ClassId) (u0 : Int32) (u1 : Int32) (u2 : Int32) (cs : Int32) (fw : Value) (h0 : Heap) (n0 : Nat) (v : Option Value) (h : Heap) (L : List Loc) : Prop := v = none ∧ Fr n0 L ∧ h = h0
theorem rm_ci16 (l : Launch) (Z : State) (a0 : Array Value) (hw : ∀ d ∈ tables_1, d.before a0 Z = true) (ws : List Jvm.Cond) (p1 : Int32) (va : Addr) (kv : ClassId) (u0 : Int32) (u1 : Int32) (u2 : Int32) (cs : Int32) (fw : Value) (h0 : Heap) (n0 : Nat) (Z0 : n0 ≤ h0.size) (hST : own_ST Z cs fw) (O_0 : Old Z n0 h0) (V_va : OAr Z h0 va kv .byte [(.int (own_b0 u0)), (.int (own_b1 u0)), (.int (own_b0 u1)), (.int (own_b1 u1)), (.int (own_b0 u2)), (.int (own_b1 u2))]) (hi : 0 ≤ p1.toInt ∧ p1.toInt < 3) :
    oM l mN21 jdk_52_method_91_code 2 none ws ({ frames := 2, cells := 0, slots := 0, locals := 56 } : Room) #[(.int p1), (.ref va)] Z h0 (Q_ci16 Z p1 va kv u0 u1 u2 cs fw h0 n0) := by
  refine MetFree.of_bodySF (plainFor_of_name pn_java_lang_StringUTF16) hisR ?_
  intro p e s m args below meth c s₁ Bd hml0 hP hK
  obtain ⟨rfl, hZ, hh⟩ := hP
  have hx := Bd.exec
  have hby := Bd.bytes
  have hml : c.maxLocals = 2 := hml0
  have hown : s.vm.findClass "java/lang/StringUTF16" = some m.cls := findClass_of_methodNamed Bd.named
  have hnm := (name_of_methodNamed Bd.named Bd.method).1
  have X0 : Stand p l e ({ frames := 2, cells := 0, slots := 0, locals := 56 } : Room) s m #[(.int p1), (.ref va)] below meth c s₁ [] 0 0 := Stand.of_body Bd
  have e0 : s₁.heap = h0 := by rw [← hh, Bd.state]; rfl
  have N0 := Fr.nil n0
  obtain ⟨A0, hA0⟩ : ∃ z, z = s₁.setTop (entryFrame m #[(.int p1), (.ref va)] 2) := ⟨_, rfl⟩
  have K : OGo p e below A0 s₁ (mkF m 0 #[iv p1, rv va] []) := fun t k => hA0 ▸ castTop (ef_41 m p1 va) k
  obtain ⟨_, _, ⟨T1, L1, k1, n1⟩, -, X1, ⟨Lc1, hQ1, l1, y1, z1⟩, st1⟩ := Jvm.LawKit.callS X0 hx (y := mN10) hown (mvT hZ (ow hw 189 rfl)) (mvT hZ (ow hw 190 rfl)) (mvT hZ (ow hw 89 rfl)) (mvT hZ (ow hw 191 rfl)) (by decide) (backOf (W := 1) (rm_len16 l Z a0 hw [] va kv u0 u1 u2 h0 n0 Z0 V_va) hZ (ow hw 191 rfl) (ow hw 89 rfl) (by decide) (by decide)) (g := (mkF m 2 #[iv p1, rv va] [(.ref va), (.int p1)])) rfl (by rw [hml]; rfl) (argsL := [(.ref va)]) (rest := [(.int p1)]) (lenOf pd___B_I rfl) rfl (by show 2 * 0 + _ ≤ _; exact Nat.le_of_eq rfl) (hb hby d41_2) (fun _ _ => ⟨rfl, e0, (by decide : 0 + 0 ≤ _), (by decide : 0 + 0 ≤ _)⟩)
  dsimp only [Pt.U, Pt.locs, Pt.cells, Pt.slots] at X1 l1 y1 z1 st1 hQ1
  subst l1 y1 z1
  obtain ⟨rfl, Nq1, e1⟩ := hQ1
  have N1 := Fr.app N0 Nq1
  obtain ⟨_, _, ⟨T2, L2, k2, n2⟩, -, X2, ⟨Lc2, hQ2, l2, y2, z2⟩, st2⟩ := Jvm.LawKit.callS X1 hx (y := mN17) hown (mvT hZ (ow hw 202 rfl)) (mvT hZ (ow hw 131 rfl)) (mvT hZ (ow hw 77 rfl)) (mvT hZ (ow hw 132 rfl)) (by decide) (backOf (W := 0) (rm_sci l Z a0 hw [] p1 (3 : Int32) cs fw h0 n0 Z0 hST O_0 (own_i3 hi)) hZ (ow hw 132 rfl) (ow hw 77 rfl) (by decide) (by decide)) (g := (mkF m 5 #[iv p1, rv va] [(.int 3), (.int p1)])) rfl (by rw [hml]; rfl) (argsL := [(.int p1), (.int (3 : Int32))]) (rest := []) (lenOf pd__II_V rfl) rfl (by show 2 * 0 + _ ≤ _; exact Nat.le_of_eq rfl) (hb hby d41_5) (fun _ _ => ⟨rfl, e1, (by decide : 0 + 0 ≤ _), (by decide : 0 + 0 ≤ _)⟩)
  dsimp only [Pt.U, Pt.locs, Pt.cells, Pt.slots] at X2 l2 y2 z2 st2 hQ2
  subst l2 y2 z2
  obtain ⟨rfl, Nq2, e2⟩ := hQ2
  have N2 := Fr.app N1 Nq2
  replace K : OGo p e below A0 T2 (mkF m 8 #[iv p1, rv va] []) := fun t k => K t (XS.iloadN X0.here hx rfl (hb hby d41_0) rfl (XS.aloadN X0.here hx rfl (hb hby d41_1) rfl rfl (st1 t (st2 t k))))
  obtain ⟨fs, hr, hrun, hended, hW, hsame⟩ := X2.leave (v := none) (fun _ => rfl)
  subst hA0
  refine ⟨_, _, K _ (X2.returnOut hx Bd.returns (hb hby d41_8) hr), hrun, hended, _, _, rfl, ?_, ⟨_, rfl⟩, hW, hsame.mono (by decide) (by decide)⟩
  show Q_ci16 Z p1 va kv u0 u1 u2 cs fw h0 n0 _ T2.heap _
  rw [e2]
  exact ⟨rfl, N2, rfl⟩
theorem pn_java_lang_StringLatin1 : plainName "java/lang/StringLatin1" = true := by first | (simp [plainName, overriddenIn]; done) | decide +kernel
theorem ef_22 (m : MethodId) (x0 : Addr) (x1 : Int32) : entryFrame m #[(.ref x0), (.int x1)] 2 = mkF m 0 #[.val (.ref x0), .val (.int x1)] [] := by first | (simp [entryFrame, mkF, argsToLocals, Value.category]; done) | rfl
abbrev Dc22 (i : Nat) (c : Instr) (k : Nat) : Prop := decode jdk_43_method_2_code i = .ok (c, k)
theorem d22_0 : Dc22 0 (.iload_n 1) 1 := by decide +kernel
theorem d22_1 : Dc22 1 (.aload_n 0) 1 := by decide +kernel
theorem d22_2 : Dc22 2 (.arraylength) 1 := by decide +kernel
theorem d22_3 : Dc22 3 (.invokestatic 9) 3 := by decide +kernel
theorem d22_6 : Dc22 6 (.aload_n 0) 1 := by decide +kernel
theorem d22_7 : Dc22 7 (.iload_n 1) 1 := by decide +kernel
theorem d22_8 : Dc22 8 (.baload) 1 := by decide +kernel
theorem d22_9 : Dc22 9 (.sipush 255) 3 := by decide +kernel
theorem d22_12 : Dc22 12 (.iand) 1 := by decide +kernel
theorem d22_13 : Dc22 13 (.i2c) 1 := by decide +kernel
theorem d22_14 : Dc22 14 (.ireturn) 1 := by decide +kernel
def Q_catL1 (Z : State) (va : Addr) (p1 : Int32) (kv : ClassId) (cs : Int32) (fw : Value) (h0 : Heap) (n0 : Nat) (v : Option Value) (h : Heap) (L : List Loc) : Prop := ∃ (w : Int32), v = some (.int w) ∧ Fr n0 L ∧ Keep h0 h [] ∧ 0 ≤ w.toInt ∧ w.toInt ≤ 255
theorem rm_catL1 (l : Launch) (Z : State) (a0 : Array Value) (hw : ∀ d ∈ tables_1, d.before a0 Z = true) (ws : List Jvm.Cond) (va : Addr) (p1 : Int32) (kv : ClassId) (cs : Int32) (fw : Value) (h0 : Heap) (n0 : Nat) (Z0 : n0 ≤ h0.size) (hST : own_ST Z cs fw) (O_0 : Old Z n0 h0) (G_va : OPg Z h0 va kv .byte (3 : Int32)) (hi : 0 ≤ p1.toInt ∧ p1.toInt < 3) :
    oM l mN22 jdk_43_method_2_code 2 (some .char) ws ({ frames := 2, cells := 0, slots := 0, locals := 56 } : Room) #[(.ref va), (.int p1)] Z h0 (Q_catL1 Z va p1 kv cs fw h0 n0) := by
  refine MetFree.of_bodySF (plainFor_of_name pn_java_lang_StringLatin1) hisR ?_
  intro p e s m args below meth c s₁ Bd hml0 hP hK
  obtain ⟨rfl, hZ, hh⟩ := hP
  have hx := Bd.exec
  have hby := Bd.bytes
  have hml : c.maxLocals = 2 := hml0
  have hown : s.vm.findClass "java/lang/StringLatin1" = some m.cls := findClass_of_methodNamed Bd.named
  have hnm := (name_of_methodNamed Bd.named Bd.method).1
  have X0 : Stand p l e ({ frames := 2, cells := 0, slots := 0, locals := 56 } : Room) s m #[(.ref va), (.int p1)] below meth c s₁ [] 0 0 := Stand.of_body Bd
  have e0 : s₁.heap = h0 := by rw [← hh, Bd.state]; rfl
  have N0 := Fr.nil n0
  obtain ⟨A0, hA0⟩ : ∃ z, z = s₁.setTop (entryFrame m #[(.ref va), (.int p1)] 2) := ⟨_, rfl⟩
  have K : OGo p e below A0 s₁ (mkF m 0 #[rv va, iv p1] []) := fun t k => hA0 ▸ castTop (ef_22 m va p1) k
  obtain ⟨_, _, ⟨T1, L1, k1, n1⟩, -, X1, ⟨Lc1, hQ1, l1, y1, z1⟩, st1⟩ := Jvm.LawKit.callS X0 hx (y := mN17) hown (mvT hZ (ow hw 130 rfl)) (mvT hZ (ow hw 131 rfl)) (mvT hZ (ow hw 77 rfl)) (mvT hZ (ow hw 132 rfl)) (by decide) (backOf (W := 0) (rm_sci l Z a0 hw [] p1 (3 : Int32) cs fw h0 n0 Z0 hST O_0 (own_i3 hi)) hZ (ow hw 132 rfl) (ow hw 77 rfl) (by decide) (by decide)) (g := (mkF m 3 #[rv va, iv p1] [(.int 3), (.int p1)])) rfl (by rw [hml]; rfl) (argsL := [(.int p1), (.int (3 : Int32))]) (rest := []) (lenOf pd__II_V rfl) rfl (by show 2 * 0 + _ ≤ _; exact Nat.le_of_eq rfl) (hb hby d22_3) (fun _ _ => ⟨rfl, e0, (by decide : 0 + 0 ≤ _), (by decide : 0 + 0 ≤ _)⟩)
  dsimp only [Pt.U, Pt.locs, Pt.cells, Pt.slots] at X1 l1 y1 z1 st1 hQ1
  subst l1 y1 z1
  obtain ⟨rfl, Nq1, e1⟩ := hQ1
  have N1 := Fr.app N0 Nq1
  obtain ⟨w2, st2⟩ := own_ldBp X1 hx hZ e1 G_va (j := p1) (own_nn hi.1) (own_ltN (own_i3 hi)) (g := (mkF m 8 #[rv va, iv p1] [(.int p1), (.ref va)])) rfl rfl (hb hby d22_8)
  replace K : OGo p e below A0 T1 (mkF m 14 #[rv va, iv p1] [(.int ((w2 &&& (255 : Int32)).toUInt32.toUInt16.toUInt32.toInt32))]) := fun t k => K t (XS.iloadN X0.here hx rfl (hb hby d22_0) rfl (XS.aloadN X0.here hx rfl (hb hby d22_1) rfl rfl (own_lenP X0 hx hZ e0 G_va (g := (mkF m 2 #[rv va, iv p1] [(.ref va), (.int p1)])) rfl rfl (hb hby d22_2) t (st1 t (XS.aloadN X1.here hx rfl (hb hby d22_6) rfl rfl (XS.iloadN X1.here hx rfl (hb hby d22_7) rfl (st2 t (XS.sipush X1.here hx rfl (hb hby d22_9) (XS.iand X1.here hx rfl (hb hby d22_12) rfl (XS.i2c X1.here hx rfl (hb hby d22_13) rfl k))))))))))
  obtain ⟨fs, hr, hrun, hended, hW, hsame⟩ := X1.leave (v := some (.int (nar .char ((w2 &&& (255 : Int32)).toUInt32.toUInt16.toUInt32.toInt32)))) (fun h => by rw [Bd.returns] at h; cases h)
  subst hA0
  refine ⟨_, _, K _ (retN X1 hx (t := .char) Bd.returns (by simp) (hb hby d22_14) hr), hrun, hended, _, _, rfl, ?_, ⟨_, rfl⟩, hW, hsame.mono (by decide) (by decide)⟩
  show Q_catL1 Z va p1 kv cs fw h0 n0 _ T1.heap _
  rw [e1]
  exact ⟨(nar .char ((w2 &&& (255 : Int32)).toUInt32.toUInt16.toUInt32.toInt32)), rfl, N1, (Keep.refl h0 []), (own_nc255 _)⟩
theorem ef_30 (m : MethodId) (x0 : Addr) (x1 : Int32) : entryFrame m #[(.ref x0), (.int x1)] 2 = mkF m 0 #[.val (.ref x0), .val (.int x1)] [] := by first | (simp [entryFrame, mkF, argsToLocals, Value.category]; done) | rfl
abbrev Dc30 (i : Nat) (c : Instr) (k : Nat) : Prop := decode jdk_52_method_5_code i = .ok (c, k)
theorem d30_0 : Dc30 0 (.getstatic 44) 3 := by decide +kernel
theorem d30_3 : Dc30 3 (.ifCond .ne 25) 3 := by decide +kernel
theorem d30_28 : Dc30 28 (.iload_n 1) 1 := by decide +kernel
theorem d30_29 : Dc30 29 (.iconst 1) 1 := by decide +kernel
theorem d30_30 : Dc30 30 (.ishl) 1 := by decide +kernel
theorem d30_31 : Dc30 31 (.istore_n 1) 1 := by decide +kernel
theorem d30_32 : Dc30 32 (.aload_n 0) 1 := by decide +kernel
theorem d30_33 : Dc30 33 (.iload_n 1) 1 := by decide +kernel
theorem d30_34 : Dc30 34 (.iinc 1 1) 3 := by decide +kernel
theorem d30_37 : Dc30 37 (.baload) 1 := by decide +kernel
theorem d30_38 : Dc30 38 (.sipush 255) 3 := by decide +kernel
theorem d30_41 : Dc30 41 (.iand) 1 := by decide +kernel
theorem d30_42 : Dc30 42 (.getstatic 59) 3 := by decide +kernel
theorem d30_45 : Dc30 45 (.ishl) 1 := by decide +kernel
theorem d30_46 : Dc30 46 (.aload_n 0) 1 := by decide +kernel
theorem d30_47 : Dc30 47 (.iload_n 1) 1 := by decide +kernel
theorem d30_48 : Dc30 48 (.baload) 1 := by decide +kernel
theorem d30_49 : Dc30 49 (.sipush 255) 3 := by decide +kernel
theorem d30_52 : Dc30 52 (.iand) 1 := by decide +kernel
theorem d30_53 : Dc30 53 (.getstatic 63) 3 := by decide +kernel
theorem d30_56 : Dc30 56 (.ishl) 1 := by decide +kernel
theorem d30_57 : Dc30 57 (.ior) 1 := by decide +kernel
theorem d30_58 : Dc30 58 (.i2c) 1 := by decide +kernel
theorem d30_59 : Dc30 59 (.ireturn) 1 := by decide +kernel
def Q_getC (Z : State) (va : Addr) (p1 : Int32) (kv : ClassId) (u0 : Int32) (u1 : Int32) (u2 : Int32) (cs : Int32) (fw : Value) (h0 : Heap) (n0 : Nat) (v : Option Value) (h : Heap) (L : List Loc) : Prop := v = some (.int (own_at u0 u1 u2 p1)) ∧ Fr n0 L ∧ h = h0
theorem rm_getC (l : Launch) (Z : State) (a0 : Array Value) (hw : ∀ d ∈ tables_1, d.before a0 Z = true) (ws : List Jvm.Cond) (va : Addr) (p1 : Int32) (kv : ClassId) (u0 : Int32) (u1 : Int32) (u2 : Int32) (cs : Int32) (fw : Value) (h0 : Heap) (n0 : Nat) (Z0 : n0 ≤ h0.size) (hST : own_ST Z cs fw) (O_0 : Old Z n0 h0) (V_va : OAr Z h0 va kv .byte [(.int (own_b0 u0)), (.int (own_b1 u0)), (.int (own_b0 u1)), (.int (own_b1 u1)), (.int (own_b0 u2)), (.int (own_b1 u2))]) (hi : 0 ≤ p1.toInt ∧ p1.toInt < 3) (hu : own_ch u0 u1 u2) :
    oM l mN23 jdk_52_method_5_code 2 (some .char) ws ({ frames := 0, cells := 0, slots := 0, locals := 0 } : Room) #[(.ref va), (.int p1)] Z h0 (Q_getC Z va p1 kv u0 u1 u2 cs fw h0 n0) := by
  refine MetFree.of_bodySF (plainFor_of_name pn_java_lang_StringUTF16) hisR ?_
  intro p e s m args below meth c s₁ Bd hml0 hP hK
  obtain ⟨rfl, hZ, hh⟩ := hP
  have hx := Bd.exec
  have hby := Bd.bytes
  have hml : c.maxLocals = 2 := hml0
  have hown : s.vm.findClass "java/lang/StringUTF16" = some m.cls := findClass_of_methodNamed Bd.named
  have hnm := (name_of_methodNamed Bd.named Bd.method).1
  have X0 : Stand p l e ({ frames := 0, cells := 0, slots := 0, locals := 0 } : Room) s m #[(.ref va), (.int p1)] below meth c s₁ [] 0 0 := Stand.of_body Bd
  have e0 : s₁.heap = h0 := by rw [← hh, Bd.state]; rfl
  have N0 := Fr.nil n0
  obtain ⟨A0, hA0⟩ : ∃ z, z = s₁.setTop (entryFrame m #[(.ref va), (.int p1)] 2) := ⟨_, rfl⟩
  have K : OGo p e below A0 s₁ (mkF m 0 #[rv va, iv p1] []) := fun t k => hA0 ▸ castTop (ef_30 m va p1) k
  by_cases hi0 : p1 = (0 : Int32)
  · rw [hi0] at K
    obtain ⟨T1, X1, e1, st1⟩ := getS2 X0 hx hZ hown (host := "") (Or.inl (ow hw 159 rfl)) Via.refl e0 (hST.ad.ext O_0.2) (g := (mkF m 0 #[rv va, iv 0] [])) rfl (hb hby d30_0)
    obtain ⟨T2, X2, e2, st2⟩ := getS2 X1 hx hZ hown (host := "") (Or.inl (ow hw 160 rfl)) Via.refl e1 (hST.hi.ext O_0.2) (g := (mkF m 42 #[rv va, iv 1] [(.int ((own_b0 u0) &&& (255 : Int32)))])) rfl (hb hby d30_42)
    obtain ⟨T3, X3, e3, st3⟩ := getS2 X2 hx hZ hown (host := "") (Or.inl (ow hw 161 rfl)) Via.refl e2 (hST.lo.ext O_0.2) (g := (mkF m 53 #[rv va, iv 1] [(.int ((own_b1 u0) &&& (255 : Int32))), (.int (((own_b0 u0) &&& (255 : Int32)) <<< ((0 : Int32) &&& 31)))])) rfl (hb hby d30_53)
    replace K : OGo p e below A0 T3 (mkF m 56 #[rv va, iv 1] [(.int 8), (.int ((own_b1 u0) &&& (255 : Int32))), (.int (((own_b0 u0) &&& (255 : Int32)) <<< ((0 : Int32) &&& 31)))]) := fun t k => K t (st1 t (XS.ifYes X1.here hx rfl (pc0 := 3) (pc' := 28) rfl (hb hby d30_3) rfl ((if0 _ _).trans (feq ((by decide : ¬ ((1 : Int32) = (0 : Int32))) : ¬ ((1 : Int32) = (0 : Int32)))).2) (by decide) (by decide) (XS.iloadN X1.here hx rfl (hb hby d30_28) rfl (XS.iconst X1.here hx rfl (hb hby d30_29) (XS.ishl X1.here hx rfl (hb hby d30_30) rfl (XS.istoreN X1.here hx rfl (hb hby d30_31) rfl (l' := #[rv va, iv 0]) rfl (XS.aloadN X1.here hx rfl (hb hby d30_32) rfl rfl (XS.iloadN X1.here hx rfl (hb hby d30_33) rfl (XS.iinc X1.here hx rfl (hb hby d30_34) rfl (l' := #[rv va, iv 1]) rfl (own_ldB X1 hx hZ e1 V_va (j := (0 : Int32)) (v := (.int (own_b0 u0))) (by decide) rfl (g := (mkF m 37 #[rv va, iv 1] [(.int 0), (.ref va)])) rfl rfl (hb hby d30_37) t (XS.sipush X1.here hx rfl (hb hby d30_38) (XS.iand X1.here hx rfl (hb hby d30_41) rfl (st2 t (XS.ishl X2.here hx rfl (hb hby d30_45) rfl (XS.aloadN X2.here hx rfl (hb hby d30_46) rfl rfl (XS.iloadN X2.here hx rfl (hb hby d30_47) rfl (own_ldB X2 hx hZ e2 V_va (j := (1 : Int32)) (v := (.int (own_b1 u0))) (by decide) rfl (g := (mkF m 48 #[rv va, iv 1] [(.int 1), (.ref va), (.int (((own_b0 u0) &&& (255 : Int32)) <<< ((0 : Int32) &&& 31)))])) rfl rfl (hb hby d30_48) t (XS.sipush X2.here hx rfl (hb hby d30_49) (XS.iand X2.here hx rfl (hb hby d30_52) rfl (st3 t k))))))))))))))))))))
    replace K : OGo p e below A0 T3 (mkF m 59 #[rv va, iv 1] [(.int (((((own_b0 u0) &&& (255 : Int32)) <<< ((0 : Int32) &&& 31)) ||| (((own_b1 u0) &&& (255 : Int32)) <<< ((8 : Int32) &&& 31))).toUInt32.toUInt16.toUInt32.toInt32))]) := fun t k => K t (XS.ishl X3.here hx rfl (hb hby d30_56) rfl (XS.ior X3.here hx rfl (hb hby d30_57) rfl (XS.i2c X3.here hx rfl (hb hby d30_58) rfl k)))
    obtain ⟨fs, hr, hrun, hended, hW, hsame⟩ := X3.leave (v := some (.int (nar .char (((((own_b0 u0) &&& (255 : Int32)) <<< ((0 : Int32) &&& 31)) ||| (((own_b1 u0) &&& (255 : Int32)) <<< ((8 : Int32) &&& 31))).toUInt32.toUInt16.toUInt32.toInt32)))) (fun h => by rw [Bd.returns] at h; cases h)
    subst hA0
    refine ⟨_, _, K _ (retN X3 hx (t := .char) Bd.returns (by simp) (hb hby d30_59) hr), hrun, hended, _, _, rfl, ?_, ⟨_, rfl⟩, hW, hsame.mono (by decide) (by decide)⟩
    show Q_getC Z va p1 kv u0 u1 u2 cs fw h0 n0 _ T3.heap _
    rw [e3]
    exact ⟨(own_gat0 hu hi0), N0, rfl⟩
  · by_cases hi1 : p1 = (1 : Int32)
    · rw [hi1] at K
      obtain ⟨T4, X4, e4, st4⟩ := getS2 X0 hx hZ hown (host := "") (Or.inl (ow hw 159 rfl)) Via.refl e0 (hST.ad.ext O_0.2) (g := (mkF m 0 #[rv va, iv 1] [])) rfl (hb hby d30_0)
      obtain ⟨T5, X5, e5, st5⟩ := getS2 X4 hx hZ hown (host := "") (Or.inl (ow hw 160 rfl)) Via.refl e4 (hST.hi.ext O_0.2) (g := (mkF m 42 #[rv va, iv 3] [(.int ((own_b0 u1) &&& (255 : Int32)))])) rfl (hb hby d30_42)
      obtain ⟨T6, X6, e6, st6⟩ := getS2 X5 hx hZ hown (host := "") (Or.inl (ow hw 161 rfl)) Via.refl e5 (hST.lo.ext O_0.2) (g := (mkF m 53 #[rv va, iv 3] [(.int ((own_b1 u1) &&& (255 : Int32))), (.int (((own_b0 u1) &&& (255 : Int32)) <<< ((0 : Int32) &&& 31)))])) rfl (hb hby d30_53)
      replace K : OGo p e below A0 T6 (mkF m 56 #[rv va, iv 3] [(.int 8), (.int ((own_b1 u1) &&& (255 : Int32))), (.int (((own_b0 u1) &&& (255 : Int32)) <<< ((0 : Int32) &&& 31)))]) := fun t k => K t (st4 t (XS.ifYes X4.here hx rfl (pc0 := 3) (pc' := 28) rfl (hb hby d30_3) rfl ((if0 _ _).trans (feq ((by decide : ¬ ((1 : Int32) = (0 : Int32))) : ¬ ((1 : Int32) = (0 : Int32)))).2) (by decide) (by decide) (XS.iloadN X4.here hx rfl (hb hby d30_28) rfl (XS.iconst X4.here hx rfl (hb hby d30_29) (XS.ishl X4.here hx rfl (hb hby d30_30) rfl (XS.istoreN X4.here hx rfl (hb hby d30_31) rfl (l' := #[rv va, iv 2]) rfl (XS.aloadN X4.here hx rfl (hb hby d30_32) rfl rfl (XS.iloadN X4.here hx rfl (hb hby d30_33) rfl (XS.iinc X4.here hx rfl (hb hby d30_34) rfl (l' := #[rv va, iv 3]) rfl (own_ldB X4 hx hZ e4 V_va (j := (2 : Int32)) (v := (.int (own_b0 u1))) (by decide) rfl (g := (mkF m 37 #[rv va, iv 3] [(.int 2), (.ref va)])) rfl rfl (hb hby d30_37) t (XS.sipush X4.here hx rfl (hb hby d30_38) (XS.iand X4.here hx rfl (hb hby d30_41) rfl (st5 t (XS.ishl X5.here hx rfl (hb hby d30_45) rfl (XS.aloadN X5.here hx rfl (hb hby d30_46) rfl rfl (XS.iloadN X5.here hx rfl (hb hby d30_47) rfl (own_ldB X5 hx hZ e5 V_va (j := (3 : Int32)) (v := (.int (own_b1 u1))) (by decide) rfl (g := (mkF m 48 #[rv va, iv 3] [(.int 3), (.ref va), (.int (((own_b0 u1) &&& (255 : Int32)) <<< ((0 : Int32) &&& 31)))])) rfl rfl (hb hby d30_48) t (XS.sipush X5.here hx rfl (hb hby d30_49) (XS.iand X5.here hx rfl (hb hby d30_52) rfl (st6 t k))))))))))))))))))))
      replace K : OGo p e below A0 T6 (mkF m 59 #[rv va, iv 3] [(.int (((((own_b0 u1) &&& (255 : Int32)) <<< ((0 : Int32) &&& 31)) ||| (((own_b1 u1) &&& (255 : Int32)) <<< ((8 : Int32) &&& 31))).toUInt32.toUInt16.toUInt32.toInt32))]) := fun t k => K t (XS.ishl X6.here hx rfl (hb hby d30_56) rfl (XS.ior X6.here hx rfl (hb hby d30_57) rfl (XS.i2c X6.here hx rfl (hb hby d30_58) rfl k)))
      obtain ⟨fs, hr, hrun, hended, hW, hsame⟩ := X6.leave (v := some (.int (nar .char (((((own_b0 u1) &&& (255 : Int32)) <<< ((0 : Int32) &&& 31)) ||| (((own_b1 u1) &&& (255 : Int32)) <<< ((8 : Int32) &&& 31))).toUInt32.toUInt16.toUInt32.toInt32)))) (fun h => by rw [Bd.returns] at h; cases h)
      subst hA0
      refine ⟨_, _, K _ (retN X6 hx (t := .char) Bd.returns (by simp) (hb hby d30_59) hr), hrun, hended, _, _, rfl, ?_, ⟨_, rfl⟩, hW, hsame.mono (by decide) (by decide)⟩
      show Q_getC Z va p1 kv u0 u1 u2 cs fw h0 n0 _ T6.heap _
      rw [e6]
      exact ⟨(own_gat1 hu hi1), N0, rfl⟩
    · have hi2 : p1 = (2 : Int32) := own_two hi hi0 hi1
      rw [hi2] at K
      obtain ⟨T7, X7, e7, st7⟩ := getS2 X0 hx hZ hown (host := "") (Or.inl (ow hw 159 rfl)) Via.refl e0 (hST.ad.ext O_0.2) (g := (mkF m 0 #[rv va, iv 2] [])) rfl (hb hby d30_0)
      obtain ⟨T8, X8, e8, st8⟩ := getS2 X7 hx hZ hown (host := "") (Or.inl (ow hw 160 rfl)) Via.refl e7 (hST.hi.ext O_0.2) (g := (mkF m 42 #[rv va, iv 5] [(.int ((own_b0 u2) &&& (255 : Int32)))])) rfl (hb hby d30_42)
      obtain ⟨T9, X9, e9, st9⟩ := getS2 X8 hx hZ hown (host := "") (Or.inl (ow hw 161 rfl)) Via.refl e8 (hST.lo.ext O_0.2) (g := (mkF m 53 #[rv va, iv 5] [(.int ((own_b1 u2) &&& (255 : Int32))), (.int (((own_b0 u2) &&& (255 : Int32)) <<< ((0 : Int32) &&& 31)))])) rfl (hb hby d30_53)
      replace K : OGo p e below A0 T9 (mkF m 56 #[rv va, iv 5] [(.int 8), (.int ((own_b1 u2) &&& (255 : Int32))), (.int (((own_b0 u2) &&& (255 : Int32)) <<< ((0 : Int32) &&& 31)))]) := fun t k => K t (st7 t (XS.ifYes X7.here hx rfl (pc0 := 3) (pc' := 28) rfl (hb hby d30_3) rfl ((if0 _ _).trans (feq ((by decide : ¬ ((1 : Int32) = (0 : Int32))) : ¬ ((1 : Int32) = (0 : Int32)))).2) (by decide) (by decide) (XS.iloadN X7.here hx rfl (hb hby d30_28) rfl (XS.iconst X7.here hx rfl (hb hby d30_29) (XS.ishl X7.here hx rfl (hb hby d30_30) rfl (XS.istoreN X7.here hx rfl (hb hby d30_31) rfl (l' := #[rv va, iv 4]) rfl (XS.aloadN X7.here hx rfl (hb hby d30_32) rfl rfl (XS.iloadN X7.here hx rfl (hb hby d30_33) rfl (XS.iinc X7.here hx rfl (hb hby d30_34) rfl (l' := #[rv va, iv 5]) rfl (own_ldB X7 hx hZ e7 V_va (j := (4 : Int32)) (v := (.int (own_b0 u2))) (by decide) rfl (g := (mkF m 37 #[rv va, iv 5] [(.int 4), (.ref va)])) rfl rfl (hb hby d30_37) t (XS.sipush X7.here hx rfl (hb hby d30_38) (XS.iand X7.here hx rfl (hb hby d30_41) rfl (st8 t (XS.ishl X8.here hx rfl (hb hby d30_45) rfl (XS.aloadN X8.here hx rfl (hb hby d30_46) rfl rfl (XS.iloadN X8.here hx rfl (hb hby d30_47) rfl (own_ldB X8 hx hZ e8 V_va (j := (5 : Int32)) (v := (.int (own_b1 u2))) (by decide) rfl (g := (mkF m 48 #[rv va, iv 5] [(.int 5), (.ref va), (.int (((own_b0 u2) &&& (255 : Int32)) <<< ((0 : Int32) &&& 31)))])) rfl rfl (hb hby d30_48) t (XS.sipush X8.here hx rfl (hb hby d30_49) (XS.iand X8.here hx rfl (hb hby d30_52) rfl (st9 t k))))))))))))))))))))
      replace K : OGo p e below A0 T9 (mkF m 59 #[rv va, iv 5] [(.int (((((own_b0 u2) &&& (255 : Int32)) <<< ((0 : Int32) &&& 31)) ||| (((own_b1 u2) &&& (255 : Int32)) <<< ((8 : Int32) &&& 31))).toUInt32.toUInt16.toUInt32.toInt32))]) := fun t k => K t (XS.ishl X9.here hx rfl (hb hby d30_56) rfl (XS.ior X9.here hx rfl (hb hby d30_57) rfl (XS.i2c X9.here hx rfl (hb hby d30_58) rfl k)))
      obtain ⟨fs, hr, hrun, hended, hW, hsame⟩ := X9.leave (v := some (.int (nar .char (((((own_b0 u2) &&& (255 : Int32)) <<< ((0 : Int32) &&& 31)) ||| (((own_b1 u2) &&& (255 : Int32)) <<< ((8 : Int32) &&& 31))).toUInt32.toUInt16.toUInt32.toInt32)))) (fun h => by rw [Bd.returns] at h; cases h)
      subst hA0
      refine ⟨_, _, K _ (retN X9 hx (t := .char) Bd.returns (by simp) (hb hby d30_59) hr), hrun, hended, _, _, rfl, ?_, ⟨_, rfl⟩, hW, hsame.mono (by decide) (by decide)⟩
      show Q_getC Z va p1 kv u0 u1 u2 cs fw h0 n0 _ T9.heap _
      rw [e9]
      exact ⟨(own_gat2 hu hi2), N0, rfl⟩
theorem ef_40 (m : MethodId) (x0 : Addr) (x1 : Int32) : entryFrame m #[(.ref x0), (.int x1)] 2 = mkF m 0 #[.val (.ref x0), .val (.int x1)] [] := by first | (simp [entryFrame, mkF, argsToLocals, Value.category]; done) | rfl
abbrev Dc40 (i : Nat) (c : Instr) (k : Nat) : Prop := decode jdk_52_method_83_code i = .ok (c, k)
theorem d40_0 : Dc40 0 (.iload_n 1) 1 := by decide +kernel
theorem d40_1 : Dc40 1 (.aload_n 0) 1 := by decide +kernel
theorem d40_2 : Dc40 2 (.invokestatic 67) 3 := by decide +kernel
theorem pd__I_B_V : parseMethodDescriptor "(I[B)V" = some ⟨[.int, (.array .byte)], none⟩ := by decide +kernel
theorem d40_5 : Dc40 5 (.aload_n 0) 1 := by decide +kernel
theorem d40_6 : Dc40 6 (.iload_n 1) 1 := by decide +kernel
theorem d40_7 : Dc40 7 (.invokestatic 71) 3 := by decide +kernel
theorem pd___BI_C : parseMethodDescriptor "([BI)C" = some ⟨[(.array .byte), .int], some .char⟩ := by decide +kernel
theorem d40_10 : Dc40 10 (.ireturn) 1 := by decide +kernel
def Q_cat16 (Z : State) (va : Addr) (p1 : Int32) (kv : ClassId) (u0 : Int32) (u1 : Int32) (u2 : Int32) (cs : Int32) (fw : Value) (h0 : Heap) (n0 : Nat) (v : Option Value) (h : Heap) (L : List Loc) : Prop := v = some (.int (own_at u0 u1 u2 p1)) ∧ Fr n0 L ∧ h = h0
theorem rm_cat16 (l : Launch) (Z : State) (a0 : Array Value) (hw : ∀ d ∈ tables_1, d.before a0 Z = true) (ws : List Jvm.Cond) (va : Addr) (p1 : Int32) (kv : ClassId) (u0 : Int32) (u1 : Int32) (u2 : Int32) (cs : Int32) (fw : Value) (h0 : Heap) (n0 : Nat) (Z0 : n0 ≤ h0.size) (hST : own_ST Z cs fw) (O_0 : Old Z n0 h0) (V_va : OAr Z h0 va kv .byte [(.int (own_b0 u0)), (.int (own_b1 u0)), (.int (own_b0 u1)), (.int (own_b1 u1)), (.int (own_b0 u2)), (.int (own_b1 u2))]) (hi : 0 ≤ p1.toInt ∧ p1.toInt < 3) (hu : own_ch u0 u1 u2) :
    oM l mN24 jdk_52_method_83_code 2 (some .char) ws ({ frames := 3, cells := 0, slots := 0, locals := 84 } : Room) #[(.ref va), (.int p1)] Z h0 (Q_cat16 Z va p1 kv u0 u1 u2 cs fw h0 n0) := by
  refine MetFree.of_bodySF (plainFor_of_name pn_java_lang_StringUTF16) hisR ?_
  intro p e s m args below meth c s₁ Bd hml0 hP hK
  obtain ⟨rfl, hZ, hh⟩ := hP
  have hx := Bd.exec
  have hby := Bd.bytes
  have hml : c.maxLocals = 2 := hml0
  have hown : s.vm.findClass "java/lang/StringUTF16" = some m.cls := findClass_of_methodNamed Bd.named
  have hnm := (name_of_methodNamed Bd.named Bd.method).1
  have X0 : Stand p l e ({ frames := 3, cells := 0, slots := 0, locals := 84 } : Room) s m #[(.ref va), (.int p1)] below meth c s₁ [] 0 0 := Stand.of_body Bd
  have e0 : s₁.heap = h0 := by rw [← hh, Bd.state]; rfl
  have N0 := Fr.nil n0
  obtain ⟨A0, hA0⟩ : ∃ z, z = s₁.setTop (entryFrame m #[(.ref va), (.int p1)] 2) := ⟨_, rfl⟩
  have K : OGo p e below A0 s₁ (mkF m 0 #[rv va, iv p1] []) := fun t k => hA0 ▸ castTop (ef_40 m va p1) k
  obtain ⟨_, _, ⟨T1, L1, k1, n1⟩, -, X1, ⟨Lc1, hQ1, l1, y1, z1⟩, st1⟩ := Jvm.LawKit.callS X0 hx (y := mN21) hown (mvT hZ (ow hw 199 rfl)) (mvT hZ (ow hw 200 rfl)) (mvT hZ (ow hw 89 rfl)) (mvT hZ (ow hw 201 rfl)) (by decide) (backOf (W := 0) (rm_ci16 l Z a0 hw [] p1 va kv u0 u1 u2 cs fw h0 n0 Z0 hST O_0 V_va hi) hZ (ow hw 201 rfl) (ow hw 89 rfl) (by decide) (by decide)) (g := (mkF m 2 #[rv va, iv p1] [(.ref va), (.int p1)])) rfl (by rw [hml]; rfl) (argsL := [(.int p1), (.ref va)]) (rest := []) (lenOf pd__I_B_V rfl) rfl (by show 2 * 0 + _ ≤ _; exact Nat.le_of_eq rfl) (hb hby d40_2) (fun _ _ => ⟨rfl, e0, (by decide : 0 + 0 ≤ _), (by decide : 0 + 0 ≤ _)⟩)
  dsimp only [Pt.U, Pt.locs, Pt.cells, Pt.slots] at X1 l1 y1 z1 st1 hQ1
  subst l1 y1 z1
  obtain ⟨rfl, Nq1, e1⟩ := hQ1
  have N1 := Fr.app N0 Nq1
  obtain ⟨_, _, ⟨T2, L2, k2, n2⟩, -, X2, ⟨Lc2, hQ2, l2, y2, z2⟩, st2⟩ := Jvm.LawKit.callS X1 hx (y := mN23) hown (mvT hZ (ow hw 162 rfl)) (mvT hZ (ow hw 163 rfl)) (mvT hZ (ow hw 89 rfl)) (mvT hZ (ow hw 164 rfl)) (by decide) (backOf (W := 0) (rm_getC l Z a0 hw [] va p1 kv u0 u1 u2 cs fw h0 n0 Z0 hST O_0 V_va hi hu) hZ (ow hw 164 rfl) (ow hw 89 rfl) (by decide) (by decide)) (g := (mkF m 7 #[rv va, iv p1] [(.int p1), (.ref va)])) rfl (by rw [hml]; rfl) (argsL := [(.ref va), (.int p1)]) (rest := []) (lenOf pd___BI_C rfl) rfl (by show 2 * 0 + _ ≤ _; exact Nat.le_of_eq rfl) (hb hby d40_7) (fun _ _ => ⟨rfl, e1, (by decide : 0 + 0 ≤ _), (by decide : 0 + 0 ≤ _)⟩)
  dsimp only [Pt.U, Pt.locs, Pt.cells, Pt.slots] at X2 l2 y2 z2 st2 hQ2
  subst l2 y2 z2
  obtain ⟨rfl, Nq2, e2⟩ := hQ2
  have N2 := Fr.app N1 Nq2
  replace K : OGo p e below A0 T2 (mkF m 10 #[rv va, iv p1] [(.int (own_at u0 u1 u2 p1))]) := fun t k => K t (XS.iloadN X0.here hx rfl (hb hby d40_0) rfl (XS.aloadN X0.here hx rfl (hb hby d40_1) rfl rfl (st1 t (XS.aloadN X1.here hx rfl (hb hby d40_5) rfl rfl (XS.iloadN X1.here hx rfl (hb hby d40_6) rfl (st2 t k))))))
  obtain ⟨fs, hr, hrun, hended, hW, hsame⟩ := X2.leave (v := some (.int (nar .char (own_at u0 u1 u2 p1)))) (fun h => by rw [Bd.returns] at h; cases h)
  subst hA0
  refine ⟨_, _, K _ (retN X2 hx (t := .char) Bd.returns (by simp) (hb hby d40_10) hr), hrun, hended, _, _, rfl, ?_, ⟨_, rfl⟩, hW, hsame.mono (by decide) (by decide)⟩
  show Q_cat16 Z va p1 kv u0 u1 u2 cs fw h0 n0 _ T2.heap _
  rw [e2]
  exact ⟨(by rw [own_narat hu]), N2, rfl⟩
theorem ef_20 (m : MethodId) (x0 : Addr) (x1 : Int32) : entryFrame m #[(.ref x0), (.int x1)] 2 = mkF m 0 #[.val (.ref x0), .val (.int x1)] [] := by first | (simp [entryFrame, mkF, argsToLocals, Value.category]; done) | rfl
abbrev Dc20 (i : Nat) (c : Instr) (k : Nat) : Prop := decode jdk_42_method_56_code i = .ok (c, k)
theorem d20_0 : Dc20 0 (.aload_n 0) 1 := by decide +kernel
theorem d20_1 : Dc20 1 (.invokevirtual 492) 3 := by decide +kernel
theorem pd___Z : parseMethodDescriptor "()Z" = some ⟨[], some .boolean⟩ := by decide +kernel
theorem d20_4 : Dc20 4 (.ifCond .eq 12) 3 := by decide +kernel
theorem d20_7 : Dc20 7 (.aload_n 0) 1 := by decide +kernel
theorem d20_8 : Dc20 8 (.getfield 9) 3 := by decide +kernel
theorem d20_11 : Dc20 11 (.iload_n 1) 1 := by decide +kernel
theorem d20_12 : Dc20 12 (.invokestatic 495) 3 := by decide +kernel
theorem d20_15 : Dc20 15 (.ireturn) 1 := by decide +kernel
def Q_catL (Z : State) (a1 : Addr) (p1 : Int32) (va : Addr) (kv : ClassId) (cs : Int32) (fw : Value) (h0 : Heap) (n0 : Nat) (v : Option Value) (h : Heap) (L : List Loc) : Prop := ∃ (w : Int32), v = some (.int w) ∧ Fr n0 L ∧ Keep h0 h [] ∧ 0 ≤ w.toInt ∧ w.toInt ≤ 255
theorem rm_catL (l : Launch) (Z : State) (a0 : Array Value) (hw : ∀ d ∈ tables_1, d.before a0 Z = true) (ws : List Jvm.Cond) (a1 : Addr) (p1 : Int32) (va : Addr) (kv : ClassId) (cs : Int32) (fw : Value) (h0 : Heap) (n0 : Nat) (Z0 : n0 ≤ h0.size) (hST : own_ST Z cs fw) (O_0 : Old Z n0 h0) (F_value_a1 : Fld Z h0 a1 cN1 "value" "[B" (.ref va)) (F_coder_a1 : Fld Z h0 a1 cN1 "coder" "B" (.int (0 : Int32))) (G_va : OPg Z h0 va kv .byte (3 : Int32)) (E_a1 : Exa Z h0 a1 cN1) (hi : 0 ≤ p1.toInt ∧ p1.toInt < 3) :
    oM l mN25 jdk_42_method_56_code 2 (some .char) ws ({ frames := 4, cells := 0, slots := 0, locals := 112 } : Room) #[(.ref a1), (.int p1)] Z h0 (Q_catL Z a1 p1 va kv cs fw h0 n0) := by
  refine MetFree.of_bodySF (plainFor_of_name pn_java_lang_String) hisR ?_
  intro p e s m args below meth c s₁ Bd hml0 hP hK
  obtain ⟨rfl, hZ, hh⟩ := hP
  have hx := Bd.exec
  have hby := Bd.bytes
  have hml : c.maxLocals = 2 := hml0
  have hown : s.vm.findClass "java/lang/String" = some m.cls := findClass_of_methodNamed Bd.named
  have hnm := (name_of_methodNamed Bd.named Bd.method).1
  have X0 : Stand p l e ({ frames := 4, cells := 0, slots := 0, locals := 112 } : Room) s m #[(.ref a1), (.int p1)] below meth c s₁ [] 0 0 := Stand.of_body Bd
  have e0 : s₁.heap = h0 := by rw [← hh, Bd.state]; rfl
  have N0 := Fr.nil n0
  obtain ⟨A0, hA0⟩ : ∃ z, z = s₁.setTop (entryFrame m #[(.ref a1), (.int p1)] 2) := ⟨_, rfl⟩
  have K : OGo p e below A0 s₁ (mkF m 0 #[rv a1, iv p1] []) := fun t k => hA0 ▸ castTop (ef_20 m a1 p1) k
  obtain ⟨cq1, kq1, qv1a, qv1b, qv1c⟩ := isOf hZ e0 E_a1
  obtain ⟨_, _, ⟨T1, L1, k1, n1⟩, -, X1, ⟨Lc1, hQ1, l1, y1, z1⟩, st1⟩ := X0.virtualBack hx (y := mN12) (z := mN12) hown (mvT hZ (ow hw 121 rfl)) (mvT hZ (ow hw 122 rfl)) (notFace_of_selects (args := #[]) (mvT hZ (ow hw 124 rfl))) (mvT hZ (ow hw 124 rfl)) (mvT hZ (ow hw 123 rfl)) (by decide) (backOf (W := 0) (rm_islL l Z a0 hw [] a1 va kv cs fw h0 n0 Z0 hST O_0 F_value_a1 F_coder_a1 G_va) hZ (ow hw 125 rfl) (ow hw 77 rfl) (by decide) (by decide)) qv1a qv1c (g := (mkF m 1 #[rv a1, iv p1] [(.ref a1)])) rfl (by rw [hml]; rfl) (Steps.refl _) (argsL := []) (rest := []) (lenOf pd___Z rfl) rfl (by show 2 * 0 + _ ≤ _; exact Nat.le_of_eq rfl) (hb hby d20_1) (fun _ _ => ⟨rfl, e0, (by decide : 0 + 0 ≤ _), (by decide : 0 + 0 ≤ _)⟩)
  dsimp only [Pt.U, Pt.locs, Pt.cells, Pt.slots] at X1 l1 y1 z1 st1 hQ1
  subst l1 y1 z1
  obtain ⟨rfl, Nq1, e1⟩ := hQ1
  have N1 := Fr.app N0 Nq1
  obtain ⟨T2, X2, e2, st2⟩ := getF X1 hx hZ hown (host := "") (Or.inl (ow hw 99 rfl)) Via.refl e1 F_value_a1 (g := (mkF m 8 #[rv a1, iv p1] [(.ref a1)])) rfl rfl (hb hby d20_8)
  obtain ⟨_, _, ⟨T3, L3, k3, n3⟩, -, X3, ⟨Lc3, hQ3, l3, y3, z3⟩, st3⟩ := Jvm.LawKit.callS X2 hx (y := mN22) hown (mvT hZ (ow hw 126 rfl)) (mvT hZ (ow hw 127 rfl)) (mvT hZ (ow hw 128 rfl)) (mvT hZ (ow hw 129 rfl)) (by decide) (backOf (W := 0) (rm_catL1 l Z a0 hw [] va p1 kv cs fw h0 n0 Z0 hST O_0 G_va hi) hZ (ow hw 129 rfl) (ow hw 128 rfl) (by decide) (by decide)) (g := (mkF m 12 #[rv a1, iv p1] [(.int p1), (.ref va)])) rfl (by rw [hml]; rfl) (argsL := [(.ref va), (.int p1)]) (rest := []) (lenOf pd___BI_C rfl) rfl (by show 2 * 0 + _ ≤ _; exact Nat.le_of_eq rfl) (hb hby d20_12) (fun _ _ => ⟨rfl, e2, (by decide : 0 + 0 ≤ _), (by decide : 0 + 0 ≤ _)⟩)
  dsimp only [Pt.U, Pt.locs, Pt.cells, Pt.slots] at X3 l3 y3 z3 st3 hQ3
  subst l3 y3 z3
  obtain ⟨hp3, e3⟩ : ∃ z, T3.heap = z := ⟨_, rfl⟩
  rw [e3] at hQ3
  obtain ⟨w_3, rfl, Nq3, K3, P3_0⟩ := hQ3
  have Z3 : n0 ≤ hp3.size := Nat.le_trans Z0 K3.1
  have Kp3 : Keep h0 hp3 [] := (Keep.refl h0 []).trans K3 all0
  have N3 := Fr.app N1 Nq3
  replace K : OGo p e below A0 T3 (mkF m 15 #[rv a1, iv p1] [(.int w_3)]) := fun t k => K t (XS.aloadN X0.here hx rfl (hb hby d20_0) rfl rfl (st1.trans (XS.ifNo X1.here hx rfl (hb hby d20_4) rfl ((if0 _ _).trans (feq ((by decide : ¬ ((1 : Int32) = (0 : Int32))) : ¬ ((1 : Int32) = (0 : Int32)))).1) (XS.aloadN X1.here hx rfl (hb hby d20_7) rfl rfl (st2 t (XS.iloadN X2.here hx rfl (hb hby d20_11) rfl (st3 t k)))))))
  obtain ⟨fs, hr, hrun, hended, hW, hsame⟩ := X3.leave (v := some (.int (nar .char w_3))) (fun h => by rw [Bd.returns] at h; cases h)
  subst hA0
  refine ⟨_, _, K _ (retN X3 hx (t := .char) Bd.returns (by simp) (hb hby d20_15) hr), hrun, hended, _, _, rfl, ?_, ⟨_, rfl⟩, hW, hsame.mono (by decide) (by decide)⟩
  show Q_catL Z a1 p1 va kv cs fw h0 n0 _ T3.heap _
  rw [e3]
  exact ⟨(nar .char w_3), rfl, N3, Kp3, (own_nc255' P3_0)⟩
theorem d20_16 : Dc20 16 (.aload_n 0) 1 := by decide +kernel
theorem d20_17 : Dc20 17 (.getfield 9) 3 := by decide +kernel
theorem d20_20 : Dc20 20 (.iload_n 1) 1 := by decide +kernel
theorem d20_21 : Dc20 21 (.invokestatic 498) 3 := by decide +kernel
theorem d20_24 : Dc20 24 (.ireturn) 1 := by decide +kernel
def Q_catU (Z : State) (a1 : Addr) (p1 : Int32) (va : Addr) (kv : ClassId) (u0 : Int32) (u1 : Int32) (u2 : Int32) (cs : Int32) (fw : Value) (h0 : Heap) (n0 : Nat) (v : Option Value) (h : Heap) (L : List Loc) : Prop := v = some (.int (own_at u0 u1 u2 p1)) ∧ Fr n0 L ∧ h = h0
theorem rm_catU (l : Launch) (Z : State) (a0 : Array Value) (hw : ∀ d ∈ tables_1, d.before a0 Z = true) (ws : List Jvm.Cond) (a1 : Addr) (p1 : Int32) (va : Addr) (kv : ClassId) (u0 : Int32) (u1 : Int32) (u2 : Int32) (cs : Int32) (fw : Value) (h0 : Heap) (n0 : Nat) (Z0 : n0 ≤ h0.size) (hST : own_ST Z cs fw) (O_0 : Old Z n0 h0) (F_value_a1 : Fld Z h0 a1 cN1 "value" "[B" (.ref va)) (F_coder_a1 : Fld Z h0 a1 cN1 "coder" "B" (.int (1 : Int32))) (V_va : OAr Z h0 va kv .byte [(.int (own_b0 u0)), (.int (own_b1 u0)), (.int (own_b0 u1)), (.int (own_b1 u1)), (.int (own_b0 u2)), (.int (own_b1 u2))]) (E_a1 : Exa Z h0 a1 cN1) (hi : 0 ≤ p1.toInt ∧ p1.toInt < 3) (hu : own_ch u0 u1 u2) :
    oM l mN25 jdk_42_method_56_code 2 (some .char) ws ({ frames := 4, cells := 0, slots := 0, locals := 112 } : Room) #[(.ref a1), (.int p1)] Z h0 (Q_catU Z a1 p1 va kv u0 u1 u2 cs fw h0 n0) := by
  refine MetFree.of_bodySF (plainFor_of_name pn_java_lang_String) hisR ?_
  intro p e s m args below meth c s₁ Bd hml0 hP hK
  obtain ⟨rfl, hZ, hh⟩ := hP
  have hx := Bd.exec
  have hby := Bd.bytes
  have hml : c.maxLocals = 2 := hml0
  have hown : s.vm.findClass "java/lang/String" = some m.cls := findClass_of_methodNamed Bd.named
  have hnm := (name_of_methodNamed Bd.named Bd.method).1
  have X0 : Stand p l e ({ frames := 4, cells := 0, slots := 0, locals := 112 } : Room) s m #[(.ref a1), (.int p1)] below meth c s₁ [] 0 0 := Stand.of_body Bd
  have e0 : s₁.heap = h0 := by rw [← hh, Bd.state]; rfl
  have N0 := Fr.nil n0
  obtain ⟨A0, hA0⟩ : ∃ z, z = s₁.setTop (entryFrame m #[(.ref a1), (.int p1)] 2) := ⟨_, rfl⟩
  have K : OGo p e below A0 s₁ (mkF m 0 #[rv a1, iv p1] []) := fun t k => hA0 ▸ castTop (ef_20 m a1 p1) k
  obtain ⟨cq1, kq1, qv1a, qv1b, qv1c⟩ := isOf hZ e0 E_a1
  obtain ⟨_, _, ⟨T1, L1, k1, n1⟩, -, X1, ⟨Lc1, hQ1, l1, y1, z1⟩, st1⟩ := X0.virtualBack hx (y := mN12) (z := mN12) hown (mvT hZ (ow hw 121 rfl)) (mvT hZ (ow hw 122 rfl)) (notFace_of_selects (args := #[]) (mvT hZ (ow hw 124 rfl))) (mvT hZ (ow hw 124 rfl)) (mvT hZ (ow hw 123 rfl)) (by decide) (backOf (W := 0) (rm_islU l Z a0 hw [] a1 va kv u0 u1 u2 cs fw h0 n0 Z0 hST O_0 F_value_a1 F_coder_a1 V_va) hZ (ow hw 125 rfl) (ow hw 77 rfl) (by decide) (by decide)) qv1a qv1c (g := (mkF m 1 #[rv a1, iv p1] [(.ref a1)])) rfl (by rw [hml]; rfl) (Steps.refl _) (argsL := []) (rest := []) (lenOf pd___Z rfl) rfl (by show 2 * 0 + _ ≤ _; exact Nat.le_of_eq rfl) (hb hby d20_1) (fun _ _ => ⟨rfl, e0, (by decide : 0 + 0 ≤ _), (by decide : 0 + 0 ≤ _)⟩)
  dsimp only [Pt.U, Pt.locs, Pt.cells, Pt.slots] at X1 l1 y1 z1 st1 hQ1
  subst l1 y1 z1
  obtain ⟨rfl, Nq1, e1⟩ := hQ1
  have N1 := Fr.app N0 Nq1
  obtain ⟨T2, X2, e2, st2⟩ := getF X1 hx hZ hown (host := "") (Or.inl (ow hw 99 rfl)) Via.refl e1 F_value_a1 (g := (mkF m 17 #[rv a1, iv p1] [(.ref a1)])) rfl rfl (hb hby d20_17)
  obtain ⟨_, _, ⟨T3, L3, k3, n3⟩, -, X3, ⟨Lc3, hQ3, l3, y3, z3⟩, st3⟩ := Jvm.LawKit.callS X2 hx (y := mN24) hown (mvT hZ (ow hw 196 rfl)) (mvT hZ (ow hw 197 rfl)) (mvT hZ (ow hw 89 rfl)) (mvT hZ (ow hw 198 rfl)) (by decide) (backOf (W := 0) (rm_cat16 l Z a0 hw [] va p1 kv u0 u1 u2 cs fw h0 n0 Z0 hST O_0 V_va hi hu) hZ (ow hw 198 rfl) (ow hw 89 rfl) (by decide) (by decide)) (g := (mkF m 21 #[rv a1, iv p1] [(.int p1), (.ref va)])) rfl (by rw [hml]; rfl) (argsL := [(.ref va), (.int p1)]) (rest := []) (lenOf pd___BI_C rfl) rfl (by show 2 * 0 + _ ≤ _; exact Nat.le_of_eq rfl) (hb hby d20_21) (fun _ _ => ⟨rfl, e2, (by decide : 0 + 0 ≤ _), (by decide : 0 + 0 ≤ _)⟩)
  dsimp only [Pt.U, Pt.locs, Pt.cells, Pt.slots] at X3 l3 y3 z3 st3 hQ3
  subst l3 y3 z3
  obtain ⟨rfl, Nq3, e3⟩ := hQ3
  have N3 := Fr.app N1 Nq3
  replace K : OGo p e below A0 T3 (mkF m 24 #[rv a1, iv p1] [(.int (own_at u0 u1 u2 p1))]) := fun t k => K t (XS.aloadN X0.here hx rfl (hb hby d20_0) rfl rfl (st1.trans (XS.ifYes X1.here hx rfl (pc0 := 4) (pc' := 16) rfl (hb hby d20_4) rfl ((if0 _ _).trans (teq ((by decide : (0 : Int32) = (0 : Int32)) : (0 : Int32) = (0 : Int32))).1) (by decide) (by decide) (XS.aloadN X1.here hx rfl (hb hby d20_16) rfl rfl (st2 t (XS.iloadN X2.here hx rfl (hb hby d20_20) rfl (st3 t k)))))))
  obtain ⟨fs, hr, hrun, hended, hW, hsame⟩ := X3.leave (v := some (.int (nar .char (own_at u0 u1 u2 p1)))) (fun h => by rw [Bd.returns] at h; cases h)
  subst hA0
  refine ⟨_, _, K _ (retN X3 hx (t := .char) Bd.returns (by simp) (hb hby d20_24) hr), hrun, hended, _, _, rfl, ?_, ⟨_, rfl⟩, hW, hsame.mono (by decide) (by decide)⟩
  show Q_catU Z a1 p1 va kv u0 u1 u2 cs fw h0 n0 _ T3.heap _
  rw [e3]
  exact ⟨(by rw [own_narat hu]), N3, rfl⟩
theorem ef_28 (m : MethodId) (x0 : Int32) : entryFrame m #[(.int x0)] 1 = mkF m 0 #[.val (.int x0)] [] := by first | (simp [entryFrame, mkF, argsToLocals, Value.category]; done) | rfl
abbrev Dc28 (i : Nat) (c : Instr) (k : Nat) : Prop := decode jdk_52_method_3_code i = .ok (c, k)
theorem d28_0 : Dc28 0 (.iload_n 0) 1 := by decide +kernel
theorem d28_1 : Dc28 1 (.ifCond .ge 11) 3 := by decide +kernel
theorem d28_12 : Dc28 12 (.iload_n 0) 1 := by decide +kernel
theorem d28_13 : Dc28 13 (.ldc 20) 2 := by decide +kernel
theorem d28_15 : Dc28 15 (.if_icmp .lt 40) 3 := by decide +kernel
theorem d28_55 : Dc28 55 (.iload_n 0) 1 := by decide +kernel
theorem d28_56 : Dc28 56 (.iconst 1) 1 := by decide +kernel
theorem d28_57 : Dc28 57 (.ishl) 1 := by decide +kernel
theorem d28_58 : Dc28 58 (.ireturn) 1 := by decide +kernel
def Q_nbl (Z : State)  (h0 : Heap) (n0 : Nat) (v : Option Value) (h : Heap) (L : List Loc) : Prop := v = some (.int (6 : Int32)) ∧ Fr n0 L ∧ h = h0
theorem rm_nbl (l : Launch) (Z : State) (a0 : Array Value) (hw : ∀ d ∈ tables_1, d.before a0 Z = true) (ws : List Jvm.Cond)  (h0 : Heap) (n0 : Nat) (Z0 : n0 ≤ h0.size) :
    oM l mN26 jdk_52_method_3_code 1 (some .int) ws ({ frames := 0, cells := 0, slots := 0, locals := 0 } : Room) #[(.int (3 : Int32))] Z h0 (Q_nbl Z  h0 n0) := by
  refine MetFree.of_bodySF (plainFor_of_name pn_java_lang_StringUTF16) hisR ?_
  intro p e s m args below meth c s₁ Bd hml0 hP hK
  obtain ⟨rfl, hZ, hh⟩ := hP
  have hx := Bd.exec
  have hby := Bd.bytes
  have hml : c.maxLocals = 1 := hml0
  have hown : s.vm.findClass "java/lang/StringUTF16" = some m.cls := findClass_of_methodNamed Bd.named
  have hnm := (name_of_methodNamed Bd.named Bd.method).1
  have X0 : Stand p l e ({ frames := 0, cells := 0, slots := 0, locals := 0 } : Room) s m #[(.int (3 : Int32))] below meth c s₁ [] 0 0 := Stand.of_body Bd
  have e0 : s₁.heap = h0 := by rw [← hh, Bd.state]; rfl
  have N0 := Fr.nil n0
  obtain ⟨A0, hA0⟩ : ∃ z, z = s₁.setTop (entryFrame m #[(.int (3 : Int32))] 1) := ⟨_, rfl⟩
  have K : OGo p e below A0 s₁ (mkF m 0 #[iv 3] []) := fun t k => hA0 ▸ castTop (ef_28 m (3 : Int32)) k
  replace K : OGo p e below A0 s₁ (mkF m 58 #[iv 3] [(.int 6)]) := fun t k => K t (XS.iloadN X0.here hx rfl (hb hby d28_0) rfl (XS.ifYes X0.here hx rfl (pc0 := 1) (pc' := 12) rfl (hb hby d28_1) rfl ((if0 _ _).trans (flt ((by decide : ¬ ((3 : Int32) < (0 : Int32))) : ¬ ((3 : Int32) < (0 : Int32)))).2.1) (by decide) (by decide) (XS.iloadN X0.here hx rfl (hb hby d28_12) rfl (X0.ldcInt hx hown (mvT hZ (ow hw 155 rfl)) (g := (mkF m 13 #[iv 3] [(.int 3)])) rfl (hb hby d28_13) t (XS.icmpYes X0.here hx rfl (pc0 := 15) (pc' := 55) rfl (hb hby d28_15) rfl (tlt ((by decide : (3 : Int32) < (1073741823 : Int32)) : (3 : Int32) < (1073741823 : Int32))).1 (by decide) (by decide) (XS.iloadN X0.here hx rfl (hb hby d28_55) rfl (XS.iconst X0.here hx rfl (hb hby d28_56) (XS.ishl X0.here hx rfl (hb hby d28_57) rfl k))))))))
  obtain ⟨fs, hr, hrun, hended, hW, hsame⟩ := X0.leave (v := some (.int (6 : Int32))) (fun h => by rw [Bd.returns] at h; cases h)
  subst hA0
  refine ⟨_, _, K _ (retOut X0 hx Bd.returns rfl (Or.inl ⟨rfl, Or.inl rfl, _, rfl⟩) (hb hby d28_58) hr), hrun, hended, _, _, rfl, ?_, ⟨_, rfl⟩, hW, hsame.mono (by decide) (by decide)⟩
  show Q_nbl Z  h0 n0 _ s₁.heap _
  rw [e0]
  exact ⟨rfl, N0, rfl⟩
theorem ef_27 (m : MethodId) (x0 : Int32) : entryFrame m #[(.int x0)] 1 = mkF m 0 #[.val (.int x0)] [] := by first | (simp [entryFrame, mkF, argsToLocals, Value.category]; done) | rfl
abbrev Dc27 (i : Nat) (c : Instr) (k : Nat) : Prop := decode jdk_52_method_2_code i = .ok (c, k)
theorem d27_0 : Dc27 0 (.iload_n 0) 1 := by decide +kernel
theorem d27_1 : Dc27 1 (.invokestatic 11) 3 := by decide +kernel
theorem pd__I_I : parseMethodDescriptor "(I)I" = some ⟨[.int], some .int⟩ := by decide +kernel
theorem d27_4 : Dc27 4 (.newarray .byte) 2 := by decide +kernel
theorem d27_6 : Dc27 6 (.areturn) 1 := by decide +kernel
def Q_nbf (Z : State)  (h0 : Heap) (n0 : Nat) (v : Option Value) (h : Heap) (L : List Loc) : Prop := ∃ (b : Addr) (kb : ClassId), v = some (.ref b) ∧ Fr n0 L ∧ Keep h0 h [] ∧ h0.size ≤ b ∧ OAr Z h b kb .byte [(.int (0 : Int32)), (.int (0 : Int32)), (.int (0 : Int32)), (.int (0 : Int32)), (.int (0 : Int32)), (.int (0 : Int32))]
theorem rm_nbf (l : Launch) (Z : State) (a0 : Array Value) (hw : ∀ d ∈ tables_1, d.before a0 Z = true) (ws : List Jvm.Cond)  (h0 : Heap) (n0 : Nat) (Z0 : n0 ≤ h0.size) :
    oM l mN27 jdk_52_method_2_code 1 (some (.array .byte)) ws ({ frames := 1, cells := 1, slots := 6, locals := 28 } : Room) #[(.int (3 : Int32))] Z h0 (Q_nbf Z  h0 n0) := by
  refine MetFree.of_bodySF (plainFor_of_name pn_java_lang_StringUTF16) hisR ?_
  intro p e s m args below meth c s₁ Bd hml0 hP hK
  obtain ⟨rfl, hZ, hh⟩ := hP
  have hx := Bd.exec
  have hby := Bd.bytes
  have hml : c.maxLocals = 1 := hml0
  have hown : s.vm.findClass "java/lang/StringUTF16" = some m.cls := findClass_of_methodNamed Bd.named
  have hnm := (name_of_methodNamed Bd.named Bd.method).1
  have X0 : Stand p l e ({ frames := 1, cells := 1, slots := 6, locals := 28 } : Room) s m #[(.int (3 : Int32))] below meth c s₁ [] 0 0 := Stand.of_body Bd
  have e0 : s₁.heap = h0 := by rw [← hh, Bd.state]; rfl
  have N0 := Fr.nil n0
  obtain ⟨A0, hA0⟩ : ∃ z, z = s₁.setTop (entryFrame m #[(.int (3 : Int32))] 1) := ⟨_, rfl⟩
  have K : OGo p e below A0 s₁ (mkF m 0 #[iv 3] []) := fun t k => hA0 ▸ castTop (ef_27 m (3 : Int32)) k
  obtain ⟨_, _, ⟨T1, L1, k1, n1⟩, -, X1, ⟨Lc1, hQ1, l1, y1, z1⟩, st1⟩ := Jvm.LawKit.callS X0 hx (y := mN26) hown (mvT hZ (ow hw 152 rfl)) (mvT hZ (ow hw 153 rfl)) (mvT hZ (ow hw 89 rfl)) (mvT hZ (ow hw 154 rfl)) (by decide) (backOf (W := 0) (rm_nbl l Z a0 hw []  h0 n0 Z0 ) hZ (ow hw 154 rfl) (ow hw 89 rfl) (by decide) (by decide)) (g := (mkF m 1 #[iv 3] [(.int 3)])) rfl (by rw [hml]; rfl) (argsL := [(.int (3 : Int32))]) (rest := []) (lenOf pd__I_I rfl) rfl (by show 2 * 0 + _ ≤ _; exact Nat.le_of_eq rfl) (hb hby d27_1) (fun _ _ => ⟨rfl, e0, (by decide : 0 + 0 ≤ _), (by decide : 0 + 0 ≤ _)⟩)
  dsimp only [Pt.U, Pt.locs, Pt.cells, Pt.slots] at X1 l1 y1 z1 st1 hQ1
  subst l1 y1 z1
  obtain ⟨rfl, Nq1, e1⟩ := hQ1
  have N1 := Fr.app N0 Nq1
  obtain ⟨T2, h2, k2, X2, e2, E2, A2, Q2, st2⟩ := newPE X1 hx hZ (ow hw 12 rfl) e1 (g := (mkF m 4 #[iv 3] [(.int 6)])) rfl (hb hby d27_4) rfl (by decide) (cap := 6) (by decide) (by decide) (by decide) (by decide) (ad := "[B") (by decide)
  obtain ⟨b2, gz2⟩ : ∃ z, z = h0.size := ⟨_, rfl⟩
  rw [← gz2] at A2 Q2 st2
  have g_b2 : n0 ≤ b2 := Nat.le_trans Z0 (Nat.le_of_eq gz2.symm)
  have sz_b2 : h0.size ≤ b2 := Nat.le_trans (Keep.refl h0 []).1 (Nat.le_of_eq gz2.symm)
  have Z2 : n0 ≤ h2.size := Nat.le_trans Z0 E2.1
  have Kp2 : Keep h0 h2 [] := (Keep.refl h0 []).ext E2
  have V_b2 : OAr Z h2 b2 k2 .byte [(.int (0 : Int32)), (.int (0 : Int32)), (.int (0 : Int32)), (.int (0 : Int32)), (.int (0 : Int32)), (.int (0 : Int32))] := OAr.new A2
  replace K : OGo p e below A0 T2 (mkF m 6 #[iv 3] [(.ref b2)]) := fun t k => K t (XS.iloadN X0.here hx rfl (hb hby d27_0) rfl (st1 t (st2 t k)))
  obtain ⟨fs, hr, hrun, hended, hW, hsame⟩ := X2.leave (v := some (.ref b2)) (fun h => by rw [Bd.returns] at h; cases h)
  subst hA0
  refine ⟨_, _, K _ (retOut X2 hx Bd.returns rfl (Or.inr (Or.inr (Or.inr (Or.inr ⟨rfl, rfl, rfl⟩)))) (hb hby d27_6) hr), hrun, hended, _, _, rfl, ?_, ⟨_, rfl⟩, hW, hsame.mono (by decide) (by decide)⟩
  show Q_nbf Z  h0 n0 _ T2.heap _
  rw [e2]
  exact ⟨b2, k2, rfl, N1, Kp2, sz_b2, V_b2⟩
theorem ef_29 (m : MethodId) (x0 : Addr) (x1 : Int32) (x2 : Int32) : entryFrame m #[(.ref x0), (.int x1), (.int x2)] 3 = mkF m 0 #[.val (.ref x0), .val (.int x1), .val (.int x2)] [] := by first | (simp [entryFrame, mkF, argsToLocals, Value.category]; done) | rfl
abbrev Dc29 (i : Nat) (c : Instr) (k : Nat) : Prop := decode jdk_52_method_4_code i = .ok (c, k)
theorem d29_0 : Dc29 0 (.getstatic 44) 3 := by decide +kernel
theorem d29_3 : Dc29 3 (.ifCond .ne 25) 3 := by decide +kernel
theorem d29_28 : Dc29 28 (.iload_n 1) 1 := by decide +kernel
theorem d29_29 : Dc29 29 (.iconst 1) 1 := by decide +kernel
theorem d29_30 : Dc29 30 (.ishl) 1 := by decide +kernel
theorem d29_31 : Dc29 31 (.istore_n 1) 1 := by decide +kernel
theorem d29_32 : Dc29 32 (.aload_n 0) 1 := by decide +kernel
theorem d29_33 : Dc29 33 (.iload_n 1) 1 := by decide +kernel
theorem d29_34 : Dc29 34 (.iinc 1 1) 3 := by decide +kernel
theorem d29_37 : Dc29 37 (.iload_n 2) 1 := by decide +kernel
theorem d29_38 : Dc29 38 (.getstatic 59) 3 := by decide +kernel
theorem d29_41 : Dc29 41 (.ishr) 1 := by decide +kernel
theorem d29_42 : Dc29 42 (.i2b) 1 := by decide +kernel
theorem d29_43 : Dc29 43 (.bastore) 1 := by decide +kernel
theorem d29_44 : Dc29 44 (.aload_n 0) 1 := by decide +kernel
theorem d29_45 : Dc29 45 (.iload_n 1) 1 := by decide +kernel
theorem d29_46 : Dc29 46 (.iload_n 2) 1 := by decide +kernel
theorem d29_47 : Dc29 47 (.getstatic 63) 3 := by decide +kernel
theorem d29_50 : Dc29 50 (.ishr) 1 := by decide +kernel
theorem d29_51 : Dc29 51 (.i2b) 1 := by decide +kernel
theorem d29_52 : Dc29 52 (.bastore) 1 := by decide +kernel
theorem d29_53 : Dc29 53 (.return_) 1 := by decide +kernel
def Q_putC0 (Z : State) (va : Addr) (p1 : Int32) (kv : ClassId) (y0 : Int32) (y1 : Int32) (y2 : Int32) (y3 : Int32) (y4 : Int32) (y5 : Int32) (cs : Int32) (fw : Value) (h0 : Heap) (n0 : Nat) (v : Option Value) (h : Heap) (L : List Loc) : Prop := v = none ∧ Fr n0 L ∧ Keep h0 h [va] ∧ OAr Z h va kv .byte [(.int (own_b0 p1)), (.int (own_b1 p1)), (.int y2), (.int y3), (.int y4), (.int y5)]
theorem rm_putC0 (l : Launch) (Z : State) (a0 : Array Value) (hw : ∀ d ∈ tables_1, d.before a0 Z = true) (ws : List Jvm.Cond) (va : Addr) (p1 : Int32) (kv : ClassId) (y0 : Int32) (y1 : Int32) (y2 : Int32) (y3 : Int32) (y4 : Int32) (y5 : Int32) (cs : Int32) (fw : Value) (h0 : Heap) (n0 : Nat) (Z0 : n0 ≤ h0.size) (hST : own_ST Z cs fw) (O_0 : Old Z n0 h0) (V_va : OAr Z h0 va kv .byte [(.int y0), (.int y1), (.int y2), (.int y3), (.int y4), (.int y5)]) (g_va : n0 ≤ va) :
    oM l mN28 jdk_52_method_4_code 3 none ws ({ frames := 0, cells := 0, slots := 0, locals := 0 } : Room) #[(.ref va), (.int (0 : Int32)), (.int p1)] Z h0 (Q_putC0 Z va p1 kv y0 y1 y2 y3 y4 y5 cs fw h0 n0) := by
  refine MetFree.of_bodySF (plainFor_of_name pn_java_lang_StringUTF16) hisR ?_
  intro p e s m args below meth c s₁ Bd hml0 hP hK
  obtain ⟨rfl, hZ, hh⟩ := hP
  have hx := Bd.exec
  have hby := Bd.bytes
  have hml : c.maxLocals = 3 := hml0
  have hown : s.vm.findClass "java/lang/StringUTF16" = some m.cls := findClass_of_methodNamed Bd.named
  have hnm := (name_of_methodNamed Bd.named Bd.method).1
  have X0 : Stand p l e ({ frames := 0, cells := 0, slots := 0, locals := 0 } : Room) s m #[(.ref va), (.int (0 : Int32)), (.int p1)] below meth c s₁ [] 0 0 := Stand.of_body Bd
  have e0 : s₁.heap = h0 := by rw [← hh, Bd.state]; rfl
  have N0 := Fr.nil n0
  obtain ⟨A0, hA0⟩ : ∃ z, z = s₁.setTop (entryFrame m #[(.ref va), (.int (0 : Int32)), (.int p1)] 3) := ⟨_, rfl⟩
  have K : OGo p e below A0 s₁ (mkF m 0 #[rv va, iv 0, iv p1] []) := fun t k => hA0 ▸ castTop (ef_29 m va (0 : Int32) p1) k
  obtain ⟨T1, X1, e1, st1⟩ := getS2 X0 hx hZ hown (host := "") (Or.inl (ow hw 159 rfl)) Via.refl e0 (hST.ad.ext O_0.2) (g := (mkF m 0 #[rv va, iv 0, iv p1] [])) rfl (hb hby d29_0)
  obtain ⟨T2, X2, e2, st2⟩ := getS2 X1 hx hZ hown (host := "") (Or.inl (ow hw 160 rfl)) Via.refl e1 (hST.hi.ext O_0.2) (g := (mkF m 38 #[rv va, iv 1, iv p1] [(.int p1), (.int 0), (.ref va)])) rfl (hb hby d29_38)
  obtain ⟨T3, h3, X3, e3, W3, V3, st3⟩ := own_stB X2 hx hZ e2 V_va (j := (0 : Int32)) (by decide) (Nat.le_of_ble_eq_true rfl) (g := (mkF m 43 #[rv va, iv 1, iv p1] [(.int ((p1 >>> ((0 : Int32) &&& 31)).toInt8.toInt32)), (.int 0), (.ref va)])) rfl rfl (hb hby d29_43)
  have Z3 : n0 ≤ h3.size := Nat.le_trans Z0 (Keep.of_wr W3).1
  have Kp3 : Keep h0 h3 [va] := (Keep.refl h0 [va]).wr W3 (Or.inl (List.mem_of_getElem? (i := 0) rfl))
  have V_va_3 : OAr Z h3 va kv .byte [(.int (nar .byte ((p1 >>> ((0 : Int32) &&& 31)).toInt8.toInt32))), (.int y1), (.int y2), (.int y3), (.int y4), (.int y5)] := V3
  have N3 := Fr.snoc X3 N0 g_va
  have O_4 := (O_0.wr W3 g_va)
  obtain ⟨T5, X5, e5, st5⟩ := getS2 X3 hx hZ hown (host := "") (Or.inl (ow hw 161 rfl)) Via.refl e3 (hST.lo.ext O_4.2) (g := (mkF m 47 #[rv va, iv 1, iv p1] [(.int p1), (.int 1), (.ref va)])) rfl (hb hby d29_47)
  replace K : OGo p e below A0 T5 (mkF m 52 #[rv va, iv 1, iv p1] [(.int ((p1 >>> ((8 : Int32) &&& 31)).toInt8.toInt32)), (.int 1), (.ref va)]) := fun t k => K t (st1 t (XS.ifYes X1.here hx rfl (pc0 := 3) (pc' := 28) rfl (hb hby d29_3) rfl ((if0 _ _).trans (feq ((by decide : ¬ ((1 : Int32) = (0 : Int32))) : ¬ ((1 : Int32) = (0 : Int32)))).2) (by decide) (by decide) (XS.iloadN X1.here hx rfl (hb hby d29_28) rfl (XS.iconst X1.here hx rfl (hb hby d29_29) (XS.ishl X1.here hx rfl (hb hby d29_30) rfl (XS.istoreN X1.here hx rfl (hb hby d29_31) rfl (l' := #[rv va, iv 0, iv p1]) rfl (XS.aloadN X1.here hx rfl (hb hby d29_32) rfl rfl (XS.iloadN X1.here hx rfl (hb hby d29_33) rfl (XS.iinc X1.here hx rfl (hb hby d29_34) rfl (l' := #[rv va, iv 1, iv p1]) rfl (XS.iloadN X1.here hx rfl (hb hby d29_37) rfl (st2 t (XS.ishr X2.here hx rfl (hb hby d29_41) rfl (XS.i2b X2.here hx rfl (hb hby d29_42) rfl (st3 t (XS.aloadN X3.here hx rfl (hb hby d29_44) rfl rfl (XS.iloadN X3.here hx rfl (hb hby d29_45) rfl (XS.iloadN X3.here hx rfl (hb hby d29_46) rfl (st5 t (XS.ishr X5.here hx rfl (hb hby d29_50) rfl (XS.i2b X5.here hx rfl (hb hby d29_51) rfl k))))))))))))))))))))
  obtain ⟨T6, h6, X6, e6, W6, V6, st6⟩ := own_stB X5 hx hZ e5 V_va_3 (j := (1 : Int32)) (by decide) (Nat.le_of_ble_eq_true rfl) (g := (mkF m 52 #[rv va, iv 1, iv p1] [(.int ((p1 >>> ((8 : Int32) &&& 31)).toInt8.toInt32)), (.int 1), (.ref va)])) rfl rfl (hb hby d29_52)
  have Z6 : n0 ≤ h6.size := Nat.le_trans Z3 (Keep.of_wr W6).1
  have Kp6 : Keep h0 h6 [va] := Kp3.wr W6 (Or.inl (List.mem_of_getElem? (i := 0) rfl))
  have V_va_6 : OAr Z h6 va kv .byte [(.int (nar .byte ((p1 >>> ((0 : Int32) &&& 31)).toInt8.toInt32))), (.int (nar .byte ((p1 >>> ((8 : Int32) &&& 31)).toInt8.toInt32))), (.int y2), (.int y3), (.int y4), (.int y5)] := V6
  have N6 := Fr.snoc X6 N3 g_va
  replace K : OGo p e below A0 T6 (mkF m 53 #[rv va, iv 1, iv p1] []) := fun t k => K t (st6 t k)
  obtain ⟨fs, hr, hrun, hended, hW, hsame⟩ := X6.leave (v := none) (fun _ => rfl)
  subst hA0
  refine ⟨_, _, K _ (X6.returnOut hx Bd.returns (hb hby d29_53) hr), hrun, hended, _, _, rfl, ?_, ⟨_, rfl⟩, hW, hsame.mono (by decide) (by decide)⟩
  show Q_putC0 Z va p1 kv y0 y1 y2 y3 y4 y5 cs fw h0 n0 _ T6.heap _
  rw [e6]
  exact ⟨rfl, N6, Kp6, V_va_6⟩
def Q_putC1 (Z : State) (va : Addr) (p1 : Int32) (kv : ClassId) (y0 : Int32) (y1 : Int32) (y2 : Int32) (y3 : Int32) (y4 : Int32) (y5 : Int32) (cs : Int32) (fw : Value) (h0 : Heap) (n0 : Nat) (v : Option Value) (h : Heap) (L : List Loc) : Prop := v = none ∧ Fr n0 L ∧ Keep h0 h [va] ∧ OAr Z h va kv .byte [(.int y0), (.int y1), (.int (own_b0 p1)), (.int (own_b1 p1)), (.int y4), (.int y5)]
theorem rm_putC1 (l : Launch) (Z : State) (a0 : Array Value) (hw : ∀ d ∈ tables_1, d.before a0 Z = true) (ws : List Jvm.Cond) (va : Addr) (p1 : Int32) (kv : ClassId) (y0 : Int32) (y1 : Int32) (y2 : Int32) (y3 : Int32) (y4 : Int32) (y5 : Int32) (cs : Int32) (fw : Value) (h0 : Heap) (n0 : Nat) (Z0 : n0 ≤ h0.size) (hST : own_ST Z cs fw) (O_0 : Old Z n0 h0) (V_va : OAr Z h0 va kv .byte [(.int y0), (.int y1), (.int y2), (.int y3), (.int y4), (.int y5)]) (g_va : n0 ≤ va) :
    oM l mN28 jdk_52_method_4_code 3 none ws ({ frames := 0, cells := 0, slots := 0, locals := 0 } : Room) #[(.ref va), (.int (1 : Int32)), (.int p1)] Z h0 (Q_putC1 Z va p1 kv y0 y1 y2 y3 y4 y5 cs fw h0 n0) := by
  refine MetFree.of_bodySF (plainFor_of_name pn_java_lang_StringUTF16) hisR ?_
  intro p e s m args below meth c s₁ Bd hml0 hP hK
  obtain ⟨rfl, hZ, hh⟩ := hP
  have hx := Bd.exec
  have hby := Bd.bytes
  have hml : c.maxLocals = 3 := hml0
  have hown : s.vm.findClass "java/lang/StringUTF16" = some m.cls := findClass_of_methodNamed Bd.named
  have hnm := (name_of_methodNamed Bd.named Bd.method).1
  have X0 : Stand p l e ({ frames := 0, cells := 0, slots := 0, locals := 0 } : Room) s m #[(.ref va), (.int (1 : Int32)), (.int p1)] below meth c s₁ [] 0 0 := Stand.of_body Bd
  have e0 : s₁.heap = h0 := by rw [← hh, Bd.state]; rfl
  have N0 := Fr.nil n0
  obtain ⟨A0, hA0⟩ : ∃ z, z = s₁.setTop (entryFrame m #[(.ref va), (.int (1 : Int32)), (.int p1)] 3) := ⟨_, rfl⟩
  have K : OGo p e below A0 s₁ (mkF m 0 #[rv va, iv 1, iv p1] []) := fun t k => hA0 ▸ castTop (ef_29 m va (1 : Int32) p1) k
  obtain ⟨T1, X1, e1, st1⟩ := getS2 X0 hx hZ hown (host := "") (Or.inl (ow hw 159 rfl)) Via.refl e0 (hST.ad.ext O_0.2) (g := (mkF m 0 #[rv va, iv 1, iv p1] [])) rfl (hb hby d29_0)
  obtain ⟨T2, X2, e2, st2⟩ := getS2 X1 hx hZ hown (host := "") (Or.inl (ow hw 160 rfl)) Via.refl e1 (hST.hi.ext O_0.2) (g := (mkF m 38 #[rv va, iv 3, iv p1] [(.int p1), (.int 2), (.ref va)])) rfl (hb hby d29_38)
  obtain ⟨T3, h3, X3, e3, W3, V3, st3⟩ := own_stB X2 hx hZ e2 V_va (j := (2 : Int32)) (by decide) (Nat.le_of_ble_eq_true rfl) (g := (mkF m 43 #[rv va, iv 3, iv p1] [(.int ((p1 >>> ((0 : Int32) &&& 31)).toInt8.toInt32)), (.int 2), (.ref va)])) rfl rfl (hb hby d29_43)
  have Z3 : n0 ≤ h3.size := Nat.le_trans Z0 (Keep.of_wr W3).1
  have Kp3 : Keep h0 h3 [va] := (Keep.refl h0 [va]).wr W3 (Or.inl (List.mem_of_getElem? (i := 0) rfl))
  have V_va_3 : OAr Z h3 va kv .byte [(.int y0), (.int y1), (.int (nar .byte ((p1 >>> ((0 : Int32) &&& 31)).toInt8.toInt32))), (.int y3), (.int y4), (.int y5)] := V3
  have N3 := Fr.snoc X3 N0 g_va
  have O_4 := (O_0.wr W3 g_va)
  obtain ⟨T5, X5, e5, st5⟩ := getS2 X3 hx hZ hown (host := "") (Or.inl (ow hw 161 rfl)) Via.refl e3 (hST.lo.ext O_4.2) (g := (mkF m 47 #[rv va, iv 3, iv p1] [(.int p1), (.int 3), (.ref va)])) rfl (hb hby d29_47)
  replace K : OGo p e below A0 T5 (mkF m 52 #[rv va, iv 3, iv p1] [(.int ((p1 >>> ((8 : Int32) &&& 31)).toInt8.toInt32)), (.int 3), (.ref va)]) := fun t k => K t (st1 t (XS.ifYes X1.here hx rfl (pc0 := 3) (pc' := 28) rfl (hb hby d29_3) rfl ((if0 _ _).trans (feq ((by decide : ¬ ((1 : Int32) = (0 : Int32))) : ¬ ((1 : Int32) = (0 : Int32)))).2) (by decide) (by decide) (XS.iloadN X1.here hx rfl (hb hby d29_28) rfl (XS.iconst X1.here hx rfl (hb hby d29_29) (XS.ishl X1.here hx rfl (hb hby d29_30) rfl (XS.istoreN X1.here hx rfl (hb hby d29_31) rfl (l' := #[rv va, iv 2, iv p1]) rfl (XS.aloadN X1.here hx rfl (hb hby d29_32) rfl rfl (XS.iloadN X1.here hx rfl (hb hby d29_33) rfl (XS.iinc X1.here hx rfl (hb hby d29_34) rfl (l' := #[rv va, iv 3, iv p1]) rfl (XS.iloadN X1.here hx rfl (hb hby d29_37) rfl (st2 t (XS.ishr X2.here hx rfl (hb hby d29_41) rfl (XS.i2b X2.here hx rfl (hb hby d29_42) rfl (st3 t (XS.aloadN X3.here hx rfl (hb hby d29_44) rfl rfl (XS.iloadN X3.here hx rfl (hb hby d29_45) rfl (XS.iloadN X3.here hx rfl (hb hby d29_46) rfl (st5 t (XS.ishr X5.here hx rfl (hb hby d29_50) rfl (XS.i2b X5.here hx rfl (hb hby d29_51) rfl k))))))))))))))))))))
  obtain ⟨T6, h6, X6, e6, W6, V6, st6⟩ := own_stB X5 hx hZ e5 V_va_3 (j := (3 : Int32)) (by decide) (Nat.le_of_ble_eq_true rfl) (g := (mkF m 52 #[rv va, iv 3, iv p1] [(.int ((p1 >>> ((8 : Int32) &&& 31)).toInt8.toInt32)), (.int 3), (.ref va)])) rfl rfl (hb hby d29_52)
  have Z6 : n0 ≤ h6.size := Nat.le_trans Z3 (Keep.of_wr W6).1
  have Kp6 : Keep h0 h6 [va] := Kp3.wr W6 (Or.inl (List.mem_of_getElem? (i := 0) rfl))
  have V_va_6 : OAr Z h6 va kv .byte [(.int y0), (.int y1), (.int (nar .byte ((p1 >>> ((0 : Int32) &&& 31)).toInt8.toInt32))), (.int (nar .byte ((p1 >>> ((8 : Int32) &&& 31)).toInt8.toInt32))), (.int y4), (.int y5)] := V6
  have N6 := Fr.snoc X6 N3 g_va
  replace K : OGo p e below A0 T6 (mkF m 53 #[rv va, iv 3, iv p1] []) := fun t k => K t (st6 t k)
  obtain ⟨fs, hr, hrun, hended, hW, hsame⟩ := X6.leave (v := none) (fun _ => rfl)
  subst hA0
  refine ⟨_, _, K _ (X6.returnOut hx Bd.returns (hb hby d29_53) hr), hrun, hended, _, _, rfl, ?_, ⟨_, rfl⟩, hW, hsame.mono (by decide) (by decide)⟩
  show Q_putC1 Z va p1 kv y0 y1 y2 y3 y4 y5 cs fw h0 n0 _ T6.heap _
  rw [e6]
  exact ⟨rfl, N6, Kp6, V_va_6⟩
def Q_putC2 (Z : State) (va : Addr) (p1 : Int32) (kv : ClassId) (y0 : Int32) (y1 : Int32) (y2 : Int32) (y3 : Int32) (y4 : Int32) (y5 : Int32) (cs : Int32) (fw : Value) (h0 : Heap) (n0 : Nat) (v : Option Value) (h : Heap) (L : List Loc) : Prop := v = none ∧ Fr n0 L ∧ Keep h0 h [va] ∧ OAr Z h va kv .byte [(.int y0), (.int y1), (.int y2), (.int y3), (.int (own_b0 p1)), (.int (own_b1 p1))]
theorem rm_putC2 (l : Launch) (Z : State) (a0 : Array Value) (hw : ∀ d ∈ tables_1, d.before a0 Z = true) (ws : List Jvm.Cond) (va : Addr) (p1 : Int32) (kv : ClassId) (y0 : Int32) (y1 : Int32) (y2 : Int32) (y3 : Int32) (y4 : Int32) (y5 : Int32) (cs : Int32) (fw : Value) (h0 : Heap) (n0 : Nat) (Z0 : n0 ≤ h0.size) (hST : own_ST Z cs fw) (O_0 : Old Z n0 h0) (V_va : OAr Z h0 va kv .byte [(.int y0), (.int y1), (.int y2), (.int y3), (.int y4), (.int y5)]) (g_va : n0 ≤ va) :
    oM l mN28 jdk_52_method_4_code 3 none ws ({ frames := 0, cells := 0, slots := 0, locals := 0 } : Room) #[(.ref va), (.int (2 : Int32)), (.int p1)] Z h0 (Q_putC2 Z va p1 kv y0 y1 y2 y3 y4 y5 cs fw h0 n0) := by
  refine MetFree.of_bodySF (plainFor_of_name pn_java_lang_StringUTF16) hisR ?_
  intro p e s m args below meth c s₁ Bd hml0 hP hK
  obtain ⟨rfl, hZ, hh⟩ := hP
  have hx := Bd.exec
  have hby := Bd.bytes
  have hml : c.maxLocals = 3 := hml0
  have hown : s.vm.findClass "java/lang/StringUTF16" = some m.cls := findClass_of_methodNamed Bd.named
  have hnm := (name_of_methodNamed Bd.named Bd.method).1
  have X0 : Stand p l e ({ frames := 0, cells := 0, slots := 0, locals := 0 } : Room) s m #[(.ref va), (.int (2 : Int32)), (.int p1)] below meth c s₁ [] 0 0 := Stand.of_body Bd
  have e0 : s₁.heap = h0 := by rw [← hh, Bd.state]; rfl
  have N0 := Fr.nil n0
  obtain ⟨A0, hA0⟩ : ∃ z, z = s₁.setTop (entryFrame m #[(.ref va), (.int (2 : Int32)), (.int p1)] 3) := ⟨_, rfl⟩
  have K : OGo p e below A0 s₁ (mkF m 0 #[rv va, iv 2, iv p1] []) := fun t k => hA0 ▸ castTop (ef_29 m va (2 : Int32) p1) k
  obtain ⟨T1, X1, e1, st1⟩ := getS2 X0 hx hZ hown (host := "") (Or.inl (ow hw 159 rfl)) Via.refl e0 (hST.ad.ext O_0.2) (g := (mkF m 0 #[rv va, iv 2, iv p1] [])) rfl (hb hby d29_0)
  obtain ⟨T2, X2, e2, st2⟩ := getS2 X1 hx hZ hown (host := "") (Or.inl (ow hw 160 rfl)) Via.refl e1 (hST.hi.ext O_0.2) (g := (mkF m 38 #[rv va, iv 5, iv p1] [(.int p1), (.int 4), (.ref va)])) rfl (hb hby d29_38)
  obtain ⟨T3, h3, X3, e3, W3, V3, st3⟩ := own_stB X2 hx hZ e2 V_va (j := (4 : Int32)) (by decide) (Nat.le_of_ble_eq_true rfl) (g := (mkF m 43 #[rv va, iv 5, iv p1] [(.int ((p1 >>> ((0 : Int32) &&& 31)).toInt8.toInt32)), (.int 4), (.ref va)])) rfl rfl (hb hby d29_43)
  have Z3 : n0 ≤ h3.size := Nat.le_trans Z0 (Keep.of_wr W3).1
  have Kp3 : Keep h0 h3 [va] := (Keep.refl h0 [va]).wr W3 (Or.inl (List.mem_of_getElem? (i := 0) rfl))
  have V_va_3 : OAr Z h3 va kv .byte [(.int y0), (.int y1), (.int y2), (.int y3), (.int (nar .byte ((p1 >>> ((0 : Int32) &&& 31)).toInt8.toInt32))), (.int y5)] := V3
  have N3 := Fr.snoc X3 N0 g_va
  have O_4 := (O_0.wr W3 g_va)
  obtain ⟨T5, X5, e5, st5⟩ := getS2 X3 hx hZ hown (host := "") (Or.inl (ow hw 161 rfl)) Via.refl e3 (hST.lo.ext O_4.2) (g := (mkF m 47 #[rv va, iv 5, iv p1] [(.int p1), (.int 5), (.ref va)])) rfl (hb hby d29_47)
  replace K : OGo p e below A0 T5 (mkF m 52 #[rv va, iv 5, iv p1] [(.int ((p1 >>> ((8 : Int32) &&& 31)).toInt8.toInt32)), (.int 5), (.ref va)]) := fun t k => K t (st1 t (XS.ifYes X1.here hx rfl (pc0 := 3) (pc' := 28) rfl (hb hby d29_3) rfl ((if0 _ _).trans (feq ((by decide : ¬ ((1 : Int32) = (0 : Int32))) : ¬ ((1 : Int32) = (0 : Int32)))).2) (by decide) (by decide) (XS.iloadN X1.here hx rfl (hb hby d29_28) rfl (XS.iconst X1.here hx rfl (hb hby d29_29) (XS.ishl X1.here hx rfl (hb hby d29_30) rfl (XS.istoreN X1.here hx rfl (hb hby d29_31) rfl (l' := #[rv va, iv 4, iv p1]) rfl (XS.aloadN X1.here hx rfl (hb hby d29_32) rfl rfl (XS.iloadN X1.here hx rfl (hb hby d29_33) rfl (XS.iinc X1.here hx rfl (hb hby d29_34) rfl (l' := #[rv va, iv 5, iv p1]) rfl (XS.iloadN X1.here hx rfl (hb hby d29_37) rfl (st2 t (XS.ishr X2.here hx rfl (hb hby d29_41) rfl (XS.i2b X2.here hx rfl (hb hby d29_42) rfl (st3 t (XS.aloadN X3.here hx rfl (hb hby d29_44) rfl rfl (XS.iloadN X3.here hx rfl (hb hby d29_45) rfl (XS.iloadN X3.here hx rfl (hb hby d29_46) rfl (st5 t (XS.ishr X5.here hx rfl (hb hby d29_50) rfl (XS.i2b X5.here hx rfl (hb hby d29_51) rfl k))))))))))))))))))))
  obtain ⟨T6, h6, X6, e6, W6, V6, st6⟩ := own_stB X5 hx hZ e5 V_va_3 (j := (5 : Int32)) (by decide) (Nat.le_of_ble_eq_true rfl) (g := (mkF m 52 #[rv va, iv 5, iv p1] [(.int ((p1 >>> ((8 : Int32) &&& 31)).toInt8.toInt32)), (.int 5), (.ref va)])) rfl rfl (hb hby d29_52)
  have Z6 : n0 ≤ h6.size := Nat.le_trans Z3 (Keep.of_wr W6).1
  have Kp6 : Keep h0 h6 [va] := Kp3.wr W6 (Or.inl (List.mem_of_getElem? (i := 0) rfl))
  have V_va_6 : OAr Z h6 va kv .byte [(.int y0), (.int y1), (.int y2), (.int y3), (.int (nar .byte ((p1 >>> ((0 : Int32) &&& 31)).toInt8.toInt32))), (.int (nar .byte ((p1 >>> ((8 : Int32) &&& 31)).toInt8.toInt32)))] := V6
  have N6 := Fr.snoc X6 N3 g_va
  replace K : OGo p e below A0 T6 (mkF m 53 #[rv va, iv 5, iv p1] []) := fun t k => K t (st6 t k)
  obtain ⟨fs, hr, hrun, hended, hW, hsame⟩ := X6.leave (v := none) (fun _ => rfl)
  subst hA0
  refine ⟨_, _, K _ (X6.returnOut hx Bd.returns (hb hby d29_53) hr), hrun, hended, _, _, rfl, ?_, ⟨_, rfl⟩, hW, hsame.mono (by decide) (by decide)⟩
  show Q_putC2 Z va p1 kv y0 y1 y2 y3 y4 y5 cs fw h0 n0 _ T6.heap _
  rw [e6]
  exact ⟨rfl, N6, Kp6, V_va_6⟩
theorem ef_26 (m : MethodId) (x0 : Addr) (x1 : Int32) (x2 : Int32) : entryFrame m #[(.ref x0), (.int x1), (.int x2)] 5 = mkF m 0 #[.val (.ref x0), .val (.int x1), .val (.int x2), .unset, .unset] [] := by first | (simp [entryFrame, mkF, argsToLocals, Value.category]; done) | rfl
abbrev Dc26 (i : Nat) (c : Instr) (k : Nat) : Prop := decode jdk_52_method_14_code i = .ok (c, k)
theorem d26_0 : Dc26 0 (.iload_n 2) 1 := by decide +kernel
theorem d26_1 : Dc26 1 (.invokestatic 107) 3 := by decide +kernel
theorem pd__I__B : parseMethodDescriptor "(I)[B" = some ⟨[.int], some (.array .byte)⟩ := by decide +kernel
theorem d26_4 : Dc26 4 (.astore_n 3) 1 := by decide +kernel
theorem d26_5 : Dc26 5 (.iconst 0) 1 := by decide +kernel
theorem d26_6 : Dc26 6 (.istore 4) 2 := by decide +kernel
theorem d26_8 : Dc26 8 (.iload 4) 2 := by decide +kernel
theorem d26_10 : Dc26 10 (.iload_n 2) 1 := by decide +kernel
theorem d26_11 : Dc26 11 (.if_icmp .ge 21) 3 := by decide +kernel
theorem d26_14 : Dc26 14 (.aload_n 3) 1 := by decide +kernel
theorem d26_15 : Dc26 15 (.iload 4) 2 := by decide +kernel
theorem d26_17 : Dc26 17 (.aload_n 0) 1 := by decide +kernel
theorem d26_18 : Dc26 18 (.iload_n 1) 1 := by decide +kernel
theorem d26_19 : Dc26 19 (.caload) 1 := by decide +kernel
theorem d26_20 : Dc26 20 (.invokestatic 111) 3 := by decide +kernel
theorem pd___BII_V : parseMethodDescriptor "([BII)V" = some ⟨[(.array .byte), .int, .int], none⟩ := by decide +kernel
theorem d26_23 : Dc26 23 (.iinc 1 1) 3 := by decide +kernel
theorem d26_26 : Dc26 26 (.iinc 4 1) 3 := by decide +kernel
theorem d26_29 : Dc26 29 (.goto (-21)) 3 := by decide +kernel
theorem d26_32 : Dc26 32 (.aload_n 3) 1 := by decide +kernel
theorem d26_33 : Dc26 33 (.areturn) 1 := by decide +kernel
def Q_toB (Z : State) (x : Addr) (kx : ClassId) (u0 : Int32) (u1 : Int32) (u2 : Int32) (cs : Int32) (fw : Value) (h0 : Heap) (n0 : Nat) (v : Option Value) (h : Heap) (L : List Loc) : Prop := ∃ (b : Addr) (kb : ClassId), v = some (.ref b) ∧ Fr n0 L ∧ Keep h0 h [] ∧ h0.size ≤ b ∧ OAr Z h b kb .byte [(.int (own_b0 u0)), (.int (own_b1 u0)), (.int (own_b0 u1)), (.int (own_b1 u1)), (.int (own_b0 u2)), (.int (own_b1 u2))]
theorem rm_toB (l : Launch) (Z : State) (a0 : Array Value) (hw : ∀ d ∈ tables_1, d.before a0 Z = true) (ws : List Jvm.Cond) (x : Addr) (kx : ClassId) (u0 : Int32) (u1 : Int32) (u2 : Int32) (cs : Int32) (fw : Value) (h0 : Heap) (n0 : Nat) (Z0 : n0 ≤ h0.size) (hST : own_ST Z cs fw) (O_0 : Old Z n0 h0) (V_x : OAr Z h0 x kx .char [(.int u0), (.int u1), (.int u2)]) :
    oM l mN29 jdk_52_method_14_code 5 (some (.array .byte)) ws ({ frames := 2, cells := 1, slots := 6, locals := 56 } : Room) #[(.ref x), (.int (0 : Int32)), (.int (3 : Int32))] Z h0 (Q_toB Z x kx u0 u1 u2 cs fw h0 n0) := by
  refine MetFree.of_bodySF (plainFor_of_name pn_java_lang_StringUTF16) hisR ?_
  intro p e s m args below meth c s₁ Bd hml0 hP hK
  obtain ⟨rfl, hZ, hh⟩ := hP
  have hx := Bd.exec
  have hby := Bd.bytes
  have hml : c.maxLocals = 5 := hml0
  have hown : s.vm.findClass "java/lang/StringUTF16" = some m.cls := findClass_of_methodNamed Bd.named
  have hnm := (name_of_methodNamed Bd.named Bd.method).1
  have X0 : Stand p l e ({ frames := 2, cells := 1, slots := 6, locals := 56 } : Room) s m #[(.ref x), (.int (0 : Int32)), (.int (3 : Int32))] below meth c s₁ [] 0 0 := Stand.of_body Bd
  have e0 : s₁.heap = h0 := by rw [← hh, Bd.state]; rfl
  have N0 := Fr.nil n0
  obtain ⟨A0, hA0⟩ : ∃ z, z = s₁.setTop (entryFrame m #[(.ref x), (.int (0 : Int32)), (.int (3 : Int32))] 5) := ⟨_, rfl⟩
  have K : OGo p e below A0 s₁ (mkF m 0 #[rv x, iv 0, iv 3, .unset, .unset] []) := fun t k => hA0 ▸ castTop (ef_26 m x (0 : Int32) (3 : Int32)) k
  obtain ⟨_, _, ⟨T1, L1, k1, n1⟩, -, X1, ⟨Lc1, hQ1, l1, y1, z1⟩, st1⟩ := Jvm.LawKit.callS X0 hx (y := mN27) hown (mvT hZ (ow hw 149 rfl)) (mvT hZ (ow hw 150 rfl)) (mvT hZ (ow hw 89 rfl)) (mvT hZ (ow hw 151 rfl)) (by decide) (backOf (W := 0) (rm_nbf l Z a0 hw []  h0 n0 Z0 ) hZ (ow hw 151 rfl) (ow hw 89 rfl) (by decide) (by decide)) (g := (mkF m 1 #[rv x, iv 0, iv 3, .unset, .unset] [(.int 3)])) rfl (by rw [hml]; rfl) (argsL := [(.int (3 : Int32))]) (rest := []) (lenOf pd__I__B rfl) rfl (by show 2 * 0 + _ ≤ _; exact Nat.le_of_eq rfl) (hb hby d26_1) (fun _ _ => ⟨rfl, e0, (by decide : 0 + 1 ≤ _), (by decide : 0 + 6 ≤ _)⟩)
  dsimp only [Pt.U, Pt.locs, Pt.cells, Pt.slots] at X1 l1 y1 z1 st1 hQ1
  subst l1 y1 z1
  obtain ⟨hp1, e1⟩ : ∃ z, T1.heap = z := ⟨_, rfl⟩
  rw [e1] at hQ1
  obtain ⟨b_1, kb_1, rfl, Nq1, K1, P1_0, P1_1⟩ := hQ1
  have ne_x_b_1 : x ≠ b_1 := Nat.ne_of_lt (Nat.lt_of_lt_of_le V_x.lt P1_0)
  have g_b_1 : n0 ≤ b_1 := Nat.le_trans Z0 P1_0
  have sz_b_1 : h0.size ≤ b_1 := Nat.le_trans (Keep.refl h0 []).1 P1_0
  have Z1 : n0 ≤ hp1.size := Nat.le_trans Z0 K1.1
  have Kp1 : Keep h0 hp1 [] := (Keep.refl h0 []).trans K1 all0
  have N1 := Fr.app N0 Nq1
  have V_x_2 := (V_x.keep K1 nin0)
  have O_4 := (O_0.keep K1 all0)
  obtain ⟨_, _, ⟨T3, L3, k3, n3⟩, -, X3, ⟨Lc3, hQ3, l3, y3, z3⟩, st3⟩ := Jvm.LawKit.callS X1 hx (y := mN28) hown (mvT hZ (ow hw 156 rfl)) (mvT hZ (ow hw 157 rfl)) (mvT hZ (ow hw 89 rfl)) (mvT hZ (ow hw 158 rfl)) (by decide) (backOf (W := 0) (rm_putC0 l Z a0 hw [] b_1 u0 kb_1 (0 : Int32) (0 : Int32) (0 : Int32) (0 : Int32) (0 : Int32) (0 : Int32) cs fw hp1 n0 Z1 hST O_4 P1_1 g_b_1) hZ (ow hw 158 rfl) (ow hw 89 rfl) (by decide) (by decide)) (g := (mkF m 20 #[rv x, iv 0, iv 3, rv b_1, iv 0] [(.int u0), (.int 0), (.ref b_1)])) rfl (by rw [hml]; rfl) (argsL := [(.ref b_1), (.int (0 : Int32)), (.int u0)]) (rest := []) (lenOf pd___BII_V rfl) rfl (by show 2 * 0 + _ ≤ _; exact Nat.le_of_eq rfl) (hb hby d26_20) (fun _ _ => ⟨rfl, e1, (by decide : 1 + 0 ≤ _), (by decide : 6 + 0 ≤ _)⟩)
  dsimp only [Pt.U, Pt.locs, Pt.cells, Pt.slots] at X3 l3 y3 z3 st3 hQ3
  subst l3 y3 z3
  obtain ⟨hp3, e3⟩ : ∃ z, T3.heap = z := ⟨_, rfl⟩
  rw [e3] at hQ3
  obtain ⟨rfl, Nq3, K3, P3_0⟩ := hQ3
  have Z3 : n0 ≤ hp3.size := Nat.le_trans Z1 K3.1
  have Kp3 : Keep h0 hp3 [] := Kp1.trans K3 (allS (Or.inr sz_b_1) all0)
  have N3 := Fr.app N1 Nq3
  replace K : OGo p e below A0 T3 (mkF m 14 #[rv x, iv 1, iv 3, rv b_1, iv 1] []) := fun t k => K t (XS.iloadN X0.here hx rfl (hb hby d26_0) rfl (st1 t (XS.astoreN X1.here hx rfl (hb hby d26_4) rfl rfl (l' := #[rv x, iv 0, iv 3, rv b_1, .unset]) rfl (XS.iconst X1.here hx rfl (hb hby d26_5) (XS.istore X1.here hx rfl (hb hby d26_6) rfl (l' := #[rv x, iv 0, iv 3, rv b_1, iv 0]) rfl (XS.iload X1.here hx rfl (hb hby d26_8) rfl (XS.iloadN X1.here hx rfl (hb hby d26_10) rfl (XS.icmpNo X1.here hx rfl (hb hby d26_11) rfl (tlt ((by decide : (0 : Int32) < (3 : Int32)) : (0 : Int32) < (3 : Int32))).2.1 (XS.aloadN X1.here hx rfl (hb hby d26_14) rfl rfl (XS.iload X1.here hx rfl (hb hby d26_15) rfl (XS.aloadN X1.here hx rfl (hb hby d26_17) rfl rfl (XS.iloadN X1.here hx rfl (hb hby d26_18) rfl (own_ldC X1 hx hZ e1 V_x_2 (j := (0 : Int32)) (v := (.int u0)) (by decide) rfl (g := (mkF m 19 #[rv x, iv 0, iv 3, rv b_1, iv 0] [(.int 0), (.ref x), (.int 0), (.ref b_1)])) rfl rfl (hb hby d26_19) t (st3 t (XS.iinc X3.here hx rfl (hb hby d26_23) rfl (l' := #[rv x, iv 1, iv 3, rv b_1, iv 0]) rfl (XS.iinc X3.here hx rfl (hb hby d26_26) rfl (l' := #[rv x, iv 1, iv 3, rv b_1, iv 1]) rfl (XS.goto X3.here hx rfl (pc0 := 29) (pc' := 8) rfl (hb hby d26_29) (by decide) (by decide) (XS.iload X3.here hx rfl (hb hby d26_8) rfl (XS.iloadN X3.here hx rfl (hb hby d26_10) rfl (XS.icmpNo X3.here hx rfl (hb hby d26_11) rfl (tlt ((by decide : (1 : Int32) < (3 : Int32)) : (1 : Int32) < (3 : Int32))).2.1 k))))))))))))))))))))
  have V_x_5 := (V_x_2.keep K3 (ninS ne_x_b_1 nin0))
  have O_7 := (O_4.keep K3 (allS g_b_1 all0))
  obtain ⟨_, _, ⟨T6, L6, k6, n6⟩, -, X6, ⟨Lc6, hQ6, l6, y6, z6⟩, st6⟩ := Jvm.LawKit.callS X3 hx (y := mN28) hown (mvT hZ (ow hw 156 rfl)) (mvT hZ (ow hw 157 rfl)) (mvT hZ (ow hw 89 rfl)) (mvT hZ (ow hw 158 rfl)) (by decide) (backOf (W := 0) (rm_putC1 l Z a0 hw [] b_1 u1 kb_1 (own_b0 u0) (own_b1 u0) (0 : Int32) (0 : Int32) (0 : Int32) (0 : Int32) cs fw hp3 n0 Z3 hST O_7 P3_0 g_b_1) hZ (ow hw 158 rfl) (ow hw 89 rfl) (by decide) (by decide)) (g := (mkF m 20 #[rv x, iv 1, iv 3, rv b_1, iv 1] [(.int u1), (.int 1), (.ref b_1)])) rfl (by rw [hml]; rfl) (argsL := [(.ref b_1), (.int (1 : Int32)), (.int u1)]) (rest := []) (lenOf pd___BII_V rfl) rfl (by show 2 * 0 + _ ≤ _; exact Nat.le_of_eq rfl) (hb hby d26_20) (fun _ _ => ⟨rfl, e3, (by decide : 1 + 0 ≤ _), (by decide : 6 + 0 ≤ _)⟩)
  dsimp only [Pt.U, Pt.locs, Pt.cells, Pt.slots] at X6 l6 y6 z6 st6 hQ6
  subst l6 y6 z6
  obtain ⟨hp6, e6⟩ : ∃ z, T6.heap = z := ⟨_, rfl⟩
  rw [e6] at hQ6
  obtain ⟨rfl, Nq6, K6, P6_0⟩ := hQ6
  have Z6 : n0 ≤ hp6.size := Nat.le_trans Z3 K6.1
  have Kp6 : Keep h0 hp6 [] := Kp3.trans K6 (allS (Or.inr sz_b_1) all0)
  have N6 := Fr.app N3 Nq6
  have V_x_8 := (V_x_5.keep K6 (ninS ne_x_b_1 nin0))
  have O_10 := (O_7.keep K6 (allS g_b_1 all0))
  obtain ⟨_, _, ⟨T9, L9, k9, n9⟩, -, X9, ⟨Lc9, hQ9, l9, y9, z9⟩, st9⟩ := Jvm.LawKit.callS X6 hx (y := mN28) hown (mvT hZ (ow hw 156 rfl)) (mvT hZ (ow hw 157 rfl)) (mvT hZ (ow hw 89 rfl)) (mvT hZ (ow hw 158 rfl)) (by decide) (backOf (W := 0) (rm_putC2 l Z a0 hw [] b_1 u2 kb_1 (own_b0 u0) (own_b1 u0) (own_b0 u1) (own_b1 u1) (0 : Int32) (0 : Int32) cs fw hp6 n0 Z6 hST O_10 P6_0 g_b_1) hZ (ow hw 158 rfl) (ow hw 89 rfl) (by decide) (by decide)) (g := (mkF m 20 #[rv x, iv 2, iv 3, rv b_1, iv 2] [(.int u2), (.int 2), (.ref b_1)])) rfl (by rw [hml]; rfl) (argsL := [(.ref b_1), (.int (2 : Int32)), (.int u2)]) (rest := []) (lenOf pd___BII_V rfl) rfl (by show 2 * 0 + _ ≤ _; exact Nat.le_of_eq rfl) (hb hby d26_20) (fun _ _ => ⟨rfl, e6, (by decide : 1 + 0 ≤ _), (by decide : 6 + 0 ≤ _)⟩)
  dsimp only [Pt.U, Pt.locs, Pt.cells, Pt.slots] at X9 l9 y9 z9 st9 hQ9
  subst l9 y9 z9
  obtain ⟨hp9, e9⟩ : ∃ z, T9.heap = z := ⟨_, rfl⟩
  rw [e9] at hQ9
  obtain ⟨rfl, Nq9, K9, P9_0⟩ := hQ9
  have Z9 : n0 ≤ hp9.size := Nat.le_trans Z6 K9.1
  have Kp9 : Keep h0 hp9 [] := Kp6.trans K9 (allS (Or.inr sz_b_1) all0)
  have N9 := Fr.app N6 Nq9
  replace K : OGo p e below A0 T9 (mkF m 29 #[rv x, iv 3, iv 3, rv b_1, iv 3] []) := fun t k => K t (XS.aloadN X3.here hx rfl (hb hby d26_14) rfl rfl (XS.iload X3.here hx rfl (hb hby d26_15) rfl (XS.aloadN X3.here hx rfl (hb hby d26_17) rfl rfl (XS.iloadN X3.here hx rfl (hb hby d26_18) rfl (own_ldC X3 hx hZ e3 V_x_5 (j := (1 : Int32)) (v := (.int u1)) (by decide) rfl (g := (mkF m 19 #[rv x, iv 1, iv 3, rv b_1, iv 1] [(.int 1), (.ref x), (.int 1), (.ref b_1)])) rfl rfl (hb hby d26_19) t (st6 t (XS.iinc X6.here hx rfl (hb hby d26_23) rfl (l' := #[rv x, iv 2, iv 3, rv b_1, iv 1]) rfl (XS.iinc X6.here hx rfl (hb hby d26_26) rfl (l' := #[rv x, iv 2, iv 3, rv b_1, iv 2]) rfl (XS.goto X6.here hx rfl (pc0 := 29) (pc' := 8) rfl (hb hby d26_29) (by decide) (by decide) (XS.iload X6.here hx rfl (hb hby d26_8) rfl (XS.iloadN X6.here hx rfl (hb hby d26_10) rfl (XS.icmpNo X6.here hx rfl (hb hby d26_11) rfl (tlt ((by decide : (2 : Int32) < (3 : Int32)) : (2 : Int32) < (3 : Int32))).2.1 (XS.aloadN X6.here hx rfl (hb hby d26_14) rfl rfl (XS.iload X6.here hx rfl (hb hby d26_15) rfl (XS.aloadN X6.here hx rfl (hb hby d26_17) rfl rfl (XS.iloadN X6.here hx rfl (hb hby d26_18) rfl (own_ldC X6 hx hZ e6 V_x_8 (j := (2 : Int32)) (v := (.int u2)) (by decide) rfl (g := (mkF m 19 #[rv x, iv 2, iv 3, rv b_1, iv 2] [(.int 2), (.ref x), (.int 2), (.ref b_1)])) rfl rfl (hb hby d26_19) t (st9 t (XS.iinc X9.here hx rfl (hb hby d26_23) rfl (l' := #[rv x, iv 3, iv 3, rv b_1, iv 2]) rfl (XS.iinc X9.here hx rfl (hb hby d26_26) rfl (l' := #[rv x, iv 3, iv 3, rv b_1, iv 3]) rfl k))))))))))))))))))))
  replace K : OGo p e below A0 T9 (mkF m 33 #[rv x, iv 3, iv 3, rv b_1, iv 3] [(.ref b_1)]) := fun t k => K t (XS.goto X9.here hx rfl (pc0 := 29) (pc' := 8) rfl (hb hby d26_29) (by decide) (by decide) (XS.iload X9.here hx rfl (hb hby d26_8) rfl (XS.iloadN X9.here hx rfl (hb hby d26_10) rfl (XS.icmpYes X9.here hx rfl (pc0 := 11) (pc' := 32) rfl (hb hby d26_11) rfl (flt ((by decide : ¬ ((3 : Int32) < (3 : Int32))) : ¬ ((3 : Int32) < (3 : Int32)))).2.1 (by decide) (by decide) (XS.aloadN X9.here hx rfl (hb hby d26_32) rfl rfl k)))))
  obtain ⟨fs, hr, hrun, hended, hW, hsame⟩ := X9.leave (v := some (.ref b_1)) (fun h => by rw [Bd.returns] at h; cases h)
  subst hA0
  refine ⟨_, _, K _ (retOut X9 hx Bd.returns rfl (Or.inr (Or.inr (Or.inr (Or.inr ⟨rfl, rfl, rfl⟩)))) (hb hby d26_33) hr), hrun, hended, _, _, rfl, ?_, ⟨_, rfl⟩, hW, hsame.mono (by decide) (by decide)⟩
  show Q_toB Z x kx u0 u1 u2 cs fw h0 n0 _ T9.heap _
  rw [e9]
  exact ⟨b_1, kb_1, rfl, N9, Kp9, sz_b_1, P9_0⟩
theorem ef_15 (m : MethodId) (x0 : Addr) (x1 : Int32) (x2 : Addr) (x3 : Int32) (x4 : Int32) : entryFrame m #[(.ref x0), (.int x1), (.ref x2), (.int x3), (.int x4)] 7 = mkF m 0 #[.val (.ref x0), .val (.int x1), .val (.ref x2), .val (.int x3), .val (.int x4), .unset, .unset] [] := by first | (simp [entryFrame, mkF, argsToLocals, Value.category]; done) | rfl
abbrev Dc15 (i : Nat) (c : Instr) (k : Nat) : Prop := decode jdk_52_method_21_code i = .ok (c, k)
theorem d15_0 : Dc15 0 (.iconst 0) 1 := by decide +kernel
theorem d15_1 : Dc15 1 (.istore 5) 2 := by decide +kernel
theorem d15_3 : Dc15 3 (.iload 5) 2 := by decide +kernel
theorem d15_5 : Dc15 5 (.iload 4) 2 := by decide +kernel
theorem d15_7 : Dc15 7 (.if_icmp .ge 37) 3 := by decide +kernel
theorem d15_10 : Dc15 10 (.aload_n 0) 1 := by decide +kernel
theorem d15_11 : Dc15 11 (.iload_n 1) 1 := by decide +kernel
theorem d15_12 : Dc15 12 (.caload) 1 := by decide +kernel
theorem d15_13 : Dc15 13 (.istore 6) 2 := by decide +kernel
theorem d15_15 : Dc15 15 (.iload 6) 2 := by decide +kernel
theorem d15_17 : Dc15 17 (.sipush 255) 3 := by decide +kernel
theorem d15_20 : Dc15 20 (.if_icmp .le 6) 3 := by decide +kernel
theorem d15_26 : Dc15 26 (.aload_n 2) 1 := by decide +kernel
theorem d15_27 : Dc15 27 (.iload_n 3) 1 := by decide +kernel
theorem d15_28 : Dc15 28 (.iload 6) 2 := by decide +kernel
theorem d15_30 : Dc15 30 (.i2b) 1 := by decide +kernel
theorem d15_31 : Dc15 31 (.bastore) 1 := by decide +kernel
theorem d15_32 : Dc15 32 (.iinc 1 1) 3 := by decide +kernel
theorem d15_35 : Dc15 35 (.iinc 3 1) 3 := by decide +kernel
theorem d15_38 : Dc15 38 (.iinc 5 1) 3 := by decide +kernel
theorem d15_41 : Dc15 41 (.goto (-38)) 3 := by decide +kernel
theorem d15_44 : Dc15 44 (.iload 4) 2 := by decide +kernel
theorem d15_46 : Dc15 46 (.ireturn) 1 := by decide +kernel
def Q_cmpN (Z : State) (x : Addr) (b : Addr) (kx : ClassId) (kb : ClassId) (u0 : Int32) (u1 : Int32) (u2 : Int32) (h0 : Heap) (n0 : Nat) (v : Option Value) (h : Heap) (L : List Loc) : Prop := v = some (.int (3 : Int32)) ∧ Fr n0 L ∧ Keep h0 h [b] ∧ OPg Z h b kb .byte (3 : Int32)
theorem rm_cmpN (l : Launch) (Z : State) (a0 : Array Value) (hw : ∀ d ∈ tables_1, d.before a0 Z = true) (ws : List Jvm.Cond) (x : Addr) (b : Addr) (kx : ClassId) (kb : ClassId) (u0 : Int32) (u1 : Int32) (u2 : Int32) (h0 : Heap) (n0 : Nat) (Z0 : n0 ≤ h0.size) (V_x : OAr Z h0 x kx .char [(.int u0), (.int u1), (.int u2)]) (G_b : OPg Z h0 b kb .byte (3 : Int32)) (g_b : n0 ≤ b) (ne_x_b : x ≠ b) (hn : ¬ own_w u0 u1 u2 (3 : Int32)) :
    oM l mN30 jdk_52_method_21_code 7 (some .int) ws ({ frames := 0, cells := 0, slots := 0, locals := 0 } : Room) #[(.ref x), (.int (0 : Int32)), (.ref b), (.int (0 : Int32)), (.int (3 : Int32))] Z h0 (Q_cmpN Z x b kx kb u0 u1 u2 h0 n0) := by
  refine MetFree.of_bodySF (plainFor_of_name pn_java_lang_StringUTF16) hisR ?_
  intro p e s m args below meth c s₁ Bd hml0 hP hK
  obtain ⟨rfl, hZ, hh⟩ := hP
  have hx := Bd.exec
  have hby := Bd.bytes
  have hml : c.maxLocals = 7 := hml0
  have hown : s.vm.findClass "java/lang/StringUTF16" = some m.cls := findClass_of_methodNamed Bd.named
  have hnm := (name_of_methodNamed Bd.named Bd.method).1
  have X0 : Stand p l e ({ frames := 0, cells := 0, slots := 0, locals := 0 } : Room) s m #[(.ref x), (.int (0 : Int32)), (.ref b), (.int (0 : Int32)), (.int (3 : Int32))] below meth c s₁ [] 0 0 := Stand.of_body Bd
  have e0 : s₁.heap = h0 := by rw [← hh, Bd.state]; rfl
  have N0 := Fr.nil n0
  obtain ⟨A0, hA0⟩ : ∃ z, z = s₁.setTop (entryFrame m #[(.ref x), (.int (0 : Int32)), (.ref b), (.int (0 : Int32)), (.int (3 : Int32))] 7) := ⟨_, rfl⟩
  have K : OGo p e below A0 s₁ (mkF m 0 #[rv x, iv 0, rv b, iv 0, iv 3, .unset, .unset] []) := fun t k => hA0 ▸ castTop (ef_15 m x (0 : Int32) b (0 : Int32) (3 : Int32)) k
  obtain ⟨T1, h1, X1, e1, W1, G1, st1⟩ := own_stBp X0 hx hZ e0 G_b (j := (0 : Int32)) (by decide) (by decide) (g := (mkF m 31 #[rv x, iv 0, rv b, iv 0, iv 3, iv 0, iv u0] [(.int (u0.toInt8.toInt32)), (.int 0), (.ref b)])) rfl rfl (hb hby d15_31)
  have Z1 : n0 ≤ h1.size := Nat.le_trans Z0 (Keep.of_wr W1).1
  have Kp1 : Keep h0 h1 [b] := (Keep.refl h0 [b]).wr W1 (Or.inl (List.mem_of_getElem? (i := 0) rfl))
  have N1 := Fr.snoc X1 N0 g_b
  replace K : OGo p e below A0 T1 (mkF m 41 #[rv x, iv 1, rv b, iv 1, iv 3, iv 1, iv u0] []) := fun t k => K t (XS.iconst X0.here hx rfl (hb hby d15_0) (XS.istore X0.here hx rfl (hb hby d15_1) rfl (l' := #[rv x, iv 0, rv b, iv 0, iv 3, iv 0, .unset]) rfl (XS.iload X0.here hx rfl (hb hby d15_3) rfl (XS.iload X0.here hx rfl (hb hby d15_5) rfl (XS.icmpNo X0.here hx rfl (hb hby d15_7) rfl (tlt ((by decide : (0 : Int32) < (3 : Int32)) : (0 : Int32) < (3 : Int32))).2.1 (XS.aloadN X0.here hx rfl (hb hby d15_10) rfl rfl (XS.iloadN X0.here hx rfl (hb hby d15_11) rfl (own_ldC X0 hx hZ e0 V_x (j := (0 : Int32)) (v := (.int u0)) (by decide) rfl (g := (mkF m 12 #[rv x, iv 0, rv b, iv 0, iv 3, iv 0, .unset] [(.int 0), (.ref x)])) rfl rfl (hb hby d15_12) t (XS.istore X0.here hx rfl (hb hby d15_13) rfl (l' := #[rv x, iv 0, rv b, iv 0, iv 3, iv 0, iv u0]) rfl (XS.iload X0.here hx rfl (hb hby d15_15) rfl (XS.sipush X0.here hx rfl (hb hby d15_17) (XS.icmpYes X0.here hx rfl (pc0 := 20) (pc' := 26) rfl (hb hby d15_20) rfl (flt ((own_w3 hn).1 : ¬ ((255 : Int32) < u0))).2.2.2 (by decide) (by decide) (XS.aloadN X0.here hx rfl (hb hby d15_26) rfl rfl (XS.iloadN X0.here hx rfl (hb hby d15_27) rfl (XS.iload X0.here hx rfl (hb hby d15_28) rfl (XS.i2b X0.here hx rfl (hb hby d15_30) rfl (st1 t (XS.iinc X1.here hx rfl (hb hby d15_32) rfl (l' := #[rv x, iv 1, rv b, iv 0, iv 3, iv 0, iv u0]) rfl (XS.iinc X1.here hx rfl (hb hby d15_35) rfl (l' := #[rv x, iv 1, rv b, iv 1, iv 3, iv 0, iv u0]) rfl (XS.iinc X1.here hx rfl (hb hby d15_38) rfl (l' := #[rv x, iv 1, rv b, iv 1, iv 3, iv 1, iv u0]) rfl k))))))))))))))))))))
  have V_x_2 := (V_x.other W1 ne_x_b)
  obtain ⟨T3, h3, X3, e3, W3, G3, st3⟩ := own_stBp X1 hx hZ e1 G1 (j := (1 : Int32)) (by decide) (by decide) (g := (mkF m 31 #[rv x, iv 1, rv b, iv 1, iv 3, iv 1, iv u1] [(.int (u1.toInt8.toInt32)), (.int 1), (.ref b)])) rfl rfl (hb hby d15_31)
  have Z3 : n0 ≤ h3.size := Nat.le_trans Z1 (Keep.of_wr W3).1
  have Kp3 : Keep h0 h3 [b] := Kp1.wr W3 (Or.inl (List.mem_of_getElem? (i := 0) rfl))
  have N3 := Fr.snoc X3 N1 g_b
  replace K : OGo p e below A0 T3 (mkF m 3 #[rv x, iv 2, rv b, iv 2, iv 3, iv 2, iv u1] []) := fun t k => K t (XS.goto X1.here hx rfl (pc0 := 41) (pc' := 3) rfl (hb hby d15_41) (by decide) (by decide) (XS.iload X1.here hx rfl (hb hby d15_3) rfl (XS.iload X1.here hx rfl (hb hby d15_5) rfl (XS.icmpNo X1.here hx rfl (hb hby d15_7) rfl (tlt ((by decide : (1 : Int32) < (3 : Int32)) : (1 : Int32) < (3 : Int32))).2.1 (XS.aloadN X1.here hx rfl (hb hby d15_10) rfl rfl (XS.iloadN X1.here hx rfl (hb hby d15_11) rfl (own_ldC X1 hx hZ e1 V_x_2 (j := (1 : Int32)) (v := (.int u1)) (by decide) rfl (g := (mkF m 12 #[rv x, iv 1, rv b, iv 1, iv 3, iv 1, iv u0] [(.int 1), (.ref x)])) rfl rfl (hb hby d15_12) t (XS.istore X1.here hx rfl (hb hby d15_13) rfl (l' := #[rv x, iv 1, rv b, iv 1, iv 3, iv 1, iv u1]) rfl (XS.iload X1.here hx rfl (hb hby d15_15) rfl (XS.sipush X1.here hx rfl (hb hby d15_17) (XS.icmpYes X1.here hx rfl (pc0 := 20) (pc' := 26) rfl (hb hby d15_20) rfl (flt ((own_w3 hn).2.1 : ¬ ((255 : Int32) < u1))).2.2.2 (by decide) (by decide) (XS.aloadN X1.here hx rfl (hb hby d15_26) rfl rfl (XS.iloadN X1.here hx rfl (hb hby d15_27) rfl (XS.iload X1.here hx rfl (hb hby d15_28) rfl (XS.i2b X1.here hx rfl (hb hby d15_30) rfl (st3 t (XS.iinc X3.here hx rfl (hb hby d15_32) rfl (l' := #[rv x, iv 2, rv b, iv 1, iv 3, iv 1, iv u1]) rfl (XS.iinc X3.here hx rfl (hb hby d15_35) rfl (l' := #[rv x, iv 2, rv b, iv 2, iv 3, iv 1, iv u1]) rfl (XS.iinc X3.here hx rfl (hb hby d15_38) rfl (l' := #[rv x, iv 2, rv b, iv 2, iv 3, iv 2, iv u1]) rfl (XS.goto X3.here hx rfl (pc0 := 41) (pc' := 3) rfl (hb hby d15_41) (by decide) (by decide) k))))))))))))))))))))
  have V_x_4 := (V_x_2.other W3 ne_x_b)
  obtain ⟨T5, h5, X5, e5, W5, G5, st5⟩ := own_stBp X3 hx hZ e3 G3 (j := (2 : Int32)) (by decide) (by decide) (g := (mkF m 31 #[rv x, iv 2, rv b, iv 2, iv 3, iv 2, iv u2] [(.int (u2.toInt8.toInt32)), (.int 2), (.ref b)])) rfl rfl (hb hby d15_31)
  have Z5 : n0 ≤ h5.size := Nat.le_trans Z3 (Keep.of_wr W5).1
  have Kp5 : Keep h0 h5 [b] := Kp3.wr W5 (Or.inl (List.mem_of_getElem? (i := 0) rfl))
  have N5 := Fr.snoc X5 N3 g_b
  replace K : OGo p e below A0 T5 (mkF m 5 #[rv x, iv 3, rv b, iv 3, iv 3, iv 3, iv u2] [(.int 3)]) := fun t k => K t (XS.iload X3.here hx rfl (hb hby d15_3) rfl (XS.iload X3.here hx rfl (hb hby d15_5) rfl (XS.icmpNo X3.here hx rfl (hb hby d15_7) rfl (tlt ((by decide : (2 : Int32) < (3 : Int32)) : (2 : Int32) < (3 : Int32))).2.1 (XS.aloadN X3.here hx rfl (hb hby d15_10) rfl rfl (XS.iloadN X3.here hx rfl (hb hby d15_11) rfl (own_ldC X3 hx hZ e3 V_x_4 (j := (2 : Int32)) (v := (.int u2)) (by decide) rfl (g := (mkF m 12 #[rv x, iv 2, rv b, iv 2, iv 3, iv 2, iv u1] [(.int 2), (.ref x)])) rfl rfl (hb hby d15_12) t (XS.istore X3.here hx rfl (hb hby d15_13) rfl (l' := #[rv x, iv 2, rv b, iv 2, iv 3, iv 2, iv u2]) rfl (XS.iload X3.here hx rfl (hb hby d15_15) rfl (XS.sipush X3.here hx rfl (hb hby d15_17) (XS.icmpYes X3.here hx rfl (pc0 := 20) (pc' := 26) rfl (hb hby d15_20) rfl (flt ((own_w3 hn).2.2 : ¬ ((255 : Int32) < u2))).2.2.2 (by decide) (by decide) (XS.aloadN X3.here hx rfl (hb hby d15_26) rfl rfl (XS.iloadN X3.here hx rfl (hb hby d15_27) rfl (XS.iload X3.here hx rfl (hb hby d15_28) rfl (XS.i2b X3.here hx rfl (hb hby d15_30) rfl (st5 t (XS.iinc X5.here hx rfl (hb hby d15_32) rfl (l' := #[rv x, iv 3, rv b, iv 2, iv 3, iv 2, iv u2]) rfl (XS.iinc X5.here hx rfl (hb hby d15_35) rfl (l' := #[rv x, iv 3, rv b, iv 3, iv 3, iv 2, iv u2]) rfl (XS.iinc X5.here hx rfl (hb hby d15_38) rfl (l' := #[rv x, iv 3, rv b, iv 3, iv 3, iv 3, iv u2]) rfl (XS.goto X5.here hx rfl (pc0 := 41) (pc' := 3) rfl (hb hby d15_41) (by decide) (by decide) (XS.iload X5.here hx rfl (hb hby d15_3) rfl k))))))))))))))))))))
  replace K : OGo p e below A0 T5 (mkF m 46 #[rv x, iv 3, rv b, iv 3, iv 3, iv 3, iv u2] [(.int 3)]) := fun t k => K t (XS.iload X5.here hx rfl (hb hby d15_5) rfl (XS.icmpYes X5.here hx rfl (pc0 := 7) (pc' := 44) rfl (hb hby d15_7) rfl (flt ((by decide : ¬ ((3 : Int32) < (3 : Int32))) : ¬ ((3 : Int32) < (3 : Int32)))).2.1 (by decide) (by decide) (XS.iload X5.here hx rfl (hb hby d15_44) rfl k)))
  obtain ⟨fs, hr, hrun, hended, hW, hsame⟩ := X5.leave (v := some (.int (3 : Int32))) (fun h => by rw [Bd.returns] at h; cases h)
  subst hA0
  refine ⟨_, _, K _ (retOut X5 hx Bd.returns rfl (Or.inl ⟨rfl, Or.inl rfl, _, rfl⟩) (hb hby d15_46) hr), hrun, hended, _, _, rfl, ?_, ⟨_, rfl⟩, hW, hsame.mono (by decide) (by decide)⟩
  show Q_cmpN Z x b kx kb u0 u1 u2 h0 n0 _ T5.heap _
  rw [e5]
  exact ⟨rfl, N5, Kp5, G5⟩
theorem d15_23 : Dc15 23 (.iload 5) 2 := by decide +kernel
theorem d15_25 : Dc15 25 (.ireturn) 1 := by decide +kernel
def Q_cmpW (Z : State) (x : Addr) (b : Addr) (kx : ClassId) (kb : ClassId) (u0 : Int32) (u1 : Int32) (u2 : Int32) (h0 : Heap) (n0 : Nat) (v : Option Value) (h : Heap) (L : List Loc) : Prop := v = some (.int (own_fw u0 u1 u2)) ∧ Fr n0 L ∧ Keep h0 h [b]
theorem rm_cmpW (l : Launch) (Z : State) (a0 : Array Value) (hw : ∀ d ∈ tables_1, d.before a0 Z = true) (ws : List Jvm.Cond) (x : Addr) (b : Addr) (kx : ClassId) (kb : ClassId) (u0 : Int32) (u1 : Int32) (u2 : Int32) (h0 : Heap) (n0 : Nat) (Z0 : n0 ≤ h0.size) (V_x : OAr Z h0 x kx .char [(.int u0), (.int u1), (.int u2)]) (G_b : OPg Z h0 b kb .byte (3 : Int32)) (g_b : n0 ≤ b) (ne_x_b : x ≠ b) (hn : own_w u0 u1 u2 (3 : Int32)) :
    oM l mN30 jdk_52_method_21_code 7 (some .int) ws ({ frames := 0, cells := 0, slots := 0, locals := 0 } : Room) #[(.ref x), (.int (0 : Int32)), (.ref b), (.int (0 : Int32)), (.int (3 : Int32))] Z h0 (Q_cmpW Z x b kx kb u0 u1 u2 h0 n0) := by
  refine MetFree.of_bodySF (plainFor_of_name pn_java_lang_StringUTF16) hisR ?_
  intro p e s m args below meth c s₁ Bd hml0 hP hK
  obtain ⟨rfl, hZ, hh⟩ := hP
  have hx := Bd.exec
  have hby := Bd.bytes
  have hml : c.maxLocals = 7 := hml0
  have hown : s.vm.findClass "java/lang/StringUTF16" = some m.cls := findClass_of_methodNamed Bd.named
  have hnm := (name_of_methodNamed Bd.named Bd.method).1
  have X0 : Stand p l e ({ frames := 0, cells := 0, slots := 0, locals := 0 } : Room) s m #[(.ref x), (.int (0 : Int32)), (.ref b), (.int (0 : Int32)), (.int (3 : Int32))] below meth c s₁ [] 0 0 := Stand.of_body Bd
  have e0 : s₁.heap = h0 := by rw [← hh, Bd.state]; rfl
  have N0 := Fr.nil n0
  obtain ⟨A0, hA0⟩ : ∃ z, z = s₁.setTop (entryFrame m #[(.ref x), (.int (0 : Int32)), (.ref b), (.int (0 : Int32)), (.int (3 : Int32))] 7) := ⟨_, rfl⟩
  have K : OGo p e below A0 s₁ (mkF m 0 #[rv x, iv 0, rv b, iv 0, iv 3, .unset, .unset] []) := fun t k => hA0 ▸ castTop (ef_15 m x (0 : Int32) b (0 : Int32) (3 : Int32)) k
  replace K : OGo p e below A0 s₁ (mkF m 20 #[rv x, iv 0, rv b, iv 0, iv 3, iv 0, iv u0] [(.int 255), (.int u0)]) := fun t k => K t (XS.iconst X0.here hx rfl (hb hby d15_0) (XS.istore X0.here hx rfl (hb hby d15_1) rfl (l' := #[rv x, iv 0, rv b, iv 0, iv 3, iv 0, .unset]) rfl (XS.iload X0.here hx rfl (hb hby d15_3) rfl (XS.iload X0.here hx rfl (hb hby d15_5) rfl (XS.icmpNo X0.here hx rfl (hb hby d15_7) rfl (tlt ((by decide : (0 : Int32) < (3 : Int32)) : (0 : Int32) < (3 : Int32))).2.1 (XS.aloadN X0.here hx rfl (hb hby d15_10) rfl rfl (XS.iloadN X0.here hx rfl (hb hby d15_11) rfl (own_ldC X0 hx hZ e0 V_x (j := (0 : Int32)) (v := (.int u0)) (by decide) rfl (g := (mkF m 12 #[rv x, iv 0, rv b, iv 0, iv 3, iv 0, .unset] [(.int 0), (.ref x)])) rfl rfl (hb hby d15_12) t (XS.istore X0.here hx rfl (hb hby d15_13) rfl (l' := #[rv x, iv 0, rv b, iv 0, iv 3, iv 0, iv u0]) rfl (XS.iload X0.here hx rfl (hb hby d15_15) rfl (XS.sipush X0.here hx rfl (hb hby d15_17) k)))))))))))
  by_cases hc20 : (255 : Int32) < u0
  · replace K : OGo p e below A0 s₁ (mkF m 25 #[rv x, iv 0, rv b, iv 0, iv 3, iv 0, iv u0] [(.int 0)]) := fun t k => K t (XS.icmpNo X0.here hx rfl (hb hby d15_20) rfl (tlt hc20).2.2.2 (XS.iload X0.here hx rfl (hb hby d15_23) rfl k))
    obtain ⟨fs, hr, hrun, hended, hW, hsame⟩ := X0.leave (v := some (.int (0 : Int32))) (fun h => by rw [Bd.returns] at h; cases h)
    subst hA0
    refine ⟨_, _, K _ (retOut X0 hx Bd.returns rfl (Or.inl ⟨rfl, Or.inl rfl, _, rfl⟩) (hb hby d15_25) hr), hrun, hended, _, _, rfl, ?_, ⟨_, rfl⟩, hW, hsame.mono (by decide) (by decide)⟩
    show Q_cmpW Z x b kx kb u0 u1 u2 h0 n0 _ s₁.heap _
    rw [e0]
    exact ⟨(by simp [own_fw, hc20]), N0, (Keep.refl h0 [b])⟩
  · obtain ⟨T1, h1, X1, e1, W1, G1, st1⟩ := own_stBp X0 hx hZ e0 G_b (j := (0 : Int32)) (by decide) (by decide) (g := (mkF m 31 #[rv x, iv 0, rv b, iv 0, iv 3, iv 0, iv u0] [(.int (u0.toInt8.toInt32)), (.int 0), (.ref b)])) rfl rfl (hb hby d15_31)
    have Z1 : n0 ≤ h1.size := Nat.le_trans Z0 (Keep.of_wr W1).1
    have Kp1 : Keep h0 h1 [b] := (Keep.refl h0 [b]).wr W1 (Or.inl (List.mem_of_getElem? (i := 0) rfl))
    have N1 := Fr.snoc X1 N0 g_b
    have V_x_2 := (V_x.other W1 ne_x_b)
    replace K : OGo p e below A0 T1 (mkF m 20 #[rv x, iv 1, rv b, iv 1, iv 3, iv 1, iv u1] [(.int 255), (.int u1)]) := fun t k => K t (XS.icmpYes X0.here hx rfl (pc0 := 20) (pc' := 26) rfl (hb hby d15_20) rfl (flt hc20).2.2.2 (by decide) (by decide) (XS.aloadN X0.here hx rfl (hb hby d15_26) rfl rfl (XS.iloadN X0.here hx rfl (hb hby d15_27) rfl (XS.iload X0.here hx rfl (hb hby d15_28) rfl (XS.i2b X0.here hx rfl (hb hby d15_30) rfl (st1 t (XS.iinc X1.here hx rfl (hb hby d15_32) rfl (l' := #[rv x, iv 1, rv b, iv 0, iv 3, iv 0, iv u0]) rfl (XS.iinc X1.here hx rfl (hb hby d15_35) rfl (l' := #[rv x, iv 1, rv b, iv 1, iv 3, iv 0, iv u0]) rfl (XS.iinc X1.here hx rfl (hb hby d15_38) rfl (l' := #[rv x, iv 1, rv b, iv 1, iv 3, iv 1, iv u0]) rfl (XS.goto X1.here hx rfl (pc0 := 41) (pc' := 3) rfl (hb hby d15_41) (by decide) (by decide) (XS.iload X1.here hx rfl (hb hby d15_3) rfl (XS.iload X1.here hx rfl (hb hby d15_5) rfl (XS.icmpNo X1.here hx rfl (hb hby d15_7) rfl (tlt ((by decide : (1 : Int32) < (3 : Int32)) : (1 : Int32) < (3 : Int32))).2.1 (XS.aloadN X1.here hx rfl (hb hby d15_10) rfl rfl (XS.iloadN X1.here hx rfl (hb hby d15_11) rfl (own_ldC X1 hx hZ e1 V_x_2 (j := (1 : Int32)) (v := (.int u1)) (by decide) rfl (g := (mkF m 12 #[rv x, iv 1, rv b, iv 1, iv 3, iv 1, iv u0] [(.int 1), (.ref x)])) rfl rfl (hb hby d15_12) t (XS.istore X1.here hx rfl (hb hby d15_13) rfl (l' := #[rv x, iv 1, rv b, iv 1, iv 3, iv 1, iv u1]) rfl (XS.iload X1.here hx rfl (hb hby d15_15) rfl (XS.sipush X1.here hx rfl (hb hby d15_17) k)))))))))))))))))))
    by_cases hc20_3 : (255 : Int32) < u1
    · replace K : OGo p e below A0 T1 (mkF m 25 #[rv x, iv 1, rv b, iv 1, iv 3, iv 1, iv u1] [(.int 1)]) := fun t k => K t (XS.icmpNo X1.here hx rfl (hb hby d15_20) rfl (tlt hc20_3).2.2.2 (XS.iload X1.here hx rfl (hb hby d15_23) rfl k))
      obtain ⟨fs, hr, hrun, hended, hW, hsame⟩ := X1.leave (v := some (.int (1 : Int32))) (fun h => by rw [Bd.returns] at h; cases h)
      subst hA0
      refine ⟨_, _, K _ (retOut X1 hx Bd.returns rfl (Or.inl ⟨rfl, Or.inl rfl, _, rfl⟩) (hb hby d15_25) hr), hrun, hended, _, _, rfl, ?_, ⟨_, rfl⟩, hW, hsame.mono (by decide) (by decide)⟩
      show Q_cmpW Z x b kx kb u0 u1 u2 h0 n0 _ T1.heap _
      rw [e1]
      exact ⟨(by simp [own_fw, hc20, hc20_3]), N1, Kp1⟩
    · obtain ⟨T4, h4, X4, e4, W4, G4, st4⟩ := own_stBp X1 hx hZ e1 G1 (j := (1 : Int32)) (by decide) (by decide) (g := (mkF m 31 #[rv x, iv 1, rv b, iv 1, iv 3, iv 1, iv u1] [(.int (u1.toInt8.toInt32)), (.int 1), (.ref b)])) rfl rfl (hb hby d15_31)
      have Z4 : n0 ≤ h4.size := Nat.le_trans Z1 (Keep.of_wr W4).1
      have Kp4 : Keep h0 h4 [b] := Kp1.wr W4 (Or.inl (List.mem_of_getElem? (i := 0) rfl))
      have N4 := Fr.snoc X4 N1 g_b
      have V_x_5 := (V_x_2.other W4 ne_x_b)
      replace K : OGo p e below A0 T4 (mkF m 23 #[rv x, iv 2, rv b, iv 2, iv 3, iv 2, iv u2] []) := fun t k => K t (XS.icmpYes X1.here hx rfl (pc0 := 20) (pc' := 26) rfl (hb hby d15_20) rfl (flt hc20_3).2.2.2 (by decide) (by decide) (XS.aloadN X1.here hx rfl (hb hby d15_26) rfl rfl (XS.iloadN X1.here hx rfl (hb hby d15_27) rfl (XS.iload X1.here hx rfl (hb hby d15_28) rfl (XS.i2b X1.here hx rfl (hb hby d15_30) rfl (st4 t (XS.iinc X4.here hx rfl (hb hby d15_32) rfl (l' := #[rv x, iv 2, rv b, iv 1, iv 3, iv 1, iv u1]) rfl (XS.iinc X4.here hx rfl (hb hby d15_35) rfl (l' := #[rv x, iv 2, rv b, iv 2, iv 3, iv 1, iv u1]) rfl (XS.iinc X4.here hx rfl (hb hby d15_38) rfl (l' := #[rv x, iv 2, rv b, iv 2, iv 3, iv 2, iv u1]) rfl (XS.goto X4.here hx rfl (pc0 := 41) (pc' := 3) rfl (hb hby d15_41) (by decide) (by decide) (XS.iload X4.here hx rfl (hb hby d15_3) rfl (XS.iload X4.here hx rfl (hb hby d15_5) rfl (XS.icmpNo X4.here hx rfl (hb hby d15_7) rfl (tlt ((by decide : (2 : Int32) < (3 : Int32)) : (2 : Int32) < (3 : Int32))).2.1 (XS.aloadN X4.here hx rfl (hb hby d15_10) rfl rfl (XS.iloadN X4.here hx rfl (hb hby d15_11) rfl (own_ldC X4 hx hZ e4 V_x_5 (j := (2 : Int32)) (v := (.int u2)) (by decide) rfl (g := (mkF m 12 #[rv x, iv 2, rv b, iv 2, iv 3, iv 2, iv u1] [(.int 2), (.ref x)])) rfl rfl (hb hby d15_12) t (XS.istore X4.here hx rfl (hb hby d15_13) rfl (l' := #[rv x, iv 2, rv b, iv 2, iv 3, iv 2, iv u2]) rfl (XS.iload X4.here hx rfl (hb hby d15_15) rfl (XS.sipush X4.here hx rfl (hb hby d15_17) (XS.icmpNo X4.here hx rfl (hb hby d15_20) rfl (tlt ((own_w2 hn hc20 hc20_3) : (255 : Int32) < u2)).2.2.2 k))))))))))))))))))))
      replace K : OGo p e below A0 T4 (mkF m 25 #[rv x, iv 2, rv b, iv 2, iv 3, iv 2, iv u2] [(.int 2)]) := fun t k => K t (XS.iload X4.here hx rfl (hb hby d15_23) rfl k)
      obtain ⟨fs, hr, hrun, hended, hW, hsame⟩ := X4.leave (v := some (.int (2 : Int32))) (fun h => by rw [Bd.returns] at h; cases h)
      subst hA0
      refine ⟨_, _, K _ (retOut X4 hx Bd.returns rfl (Or.inl ⟨rfl, Or.inl rfl, _, rfl⟩) (hb hby d15_25) hr), hrun, hended, _, _, rfl, ?_, ⟨_, rfl⟩, hW, hsame.mono (by decide) (by decide)⟩
      show Q_cmpW Z x b kx kb u0 u1 u2 h0 n0 _ T4.heap _
      rw [e4]
      exact ⟨(by simp [own_fw, hc20, hc20_3]), N4, Kp4⟩
theorem ef_14 (m : MethodId) (x0 : Addr) (x1 : Int32) (x2 : Int32) : entryFrame m #[(.ref x0), (.int x1), (.int x2)] 6 = mkF m 0 #[.val (.ref x0), .val (.int x1), .val (.int x2), .unset, .unset, .unset] [] := by first | (simp [entryFrame, mkF, argsToLocals, Value.category]; done) | rfl
abbrev Dc14 (i : Nat) (c : Instr) (k : Nat) : Prop := decode jdk_52_method_16_code i = .ok (c, k)
theorem d14_0 : Dc14 0 (.iload_n 2) 1 := by decide +kernel
theorem d14_1 : Dc14 1 (.newarray .byte) 2 := by decide +kernel
theorem d14_3 : Dc14 3 (.astore_n 3) 1 := by decide +kernel
theorem d14_4 : Dc14 4 (.aload_n 0) 1 := by decide +kernel
theorem d14_5 : Dc14 5 (.iload_n 1) 1 := by decide +kernel
theorem d14_6 : Dc14 6 (.aload_n 3) 1 := by decide +kernel
theorem d14_7 : Dc14 7 (.iconst 0) 1 := by decide +kernel
theorem d14_8 : Dc14 8 (.iload_n 2) 1 := by decide +kernel
theorem d14_9 : Dc14 9 (.invokestatic 115) 3 := by decide +kernel
theorem pd___CI_BII_I : parseMethodDescriptor "([CI[BII)I" = some ⟨[(.array .char), .int, (.array .byte), .int, .int], some .int⟩ := by decide +kernel
theorem d14_12 : Dc14 12 (.istore 4) 2 := by decide +kernel
theorem d14_14 : Dc14 14 (.iload 4) 2 := by decide +kernel
theorem d14_16 : Dc14 16 (.iload_n 2) 1 := by decide +kernel
theorem d14_17 : Dc14 17 (.if_icmp .eq 40) 3 := by decide +kernel
theorem d14_57 : Dc14 57 (.aload_n 3) 1 := by decide +kernel
theorem d14_58 : Dc14 58 (.areturn) 1 := by decide +kernel
def Q_comN (Z : State) (x : Addr) (kx : ClassId) (u0 : Int32) (u1 : Int32) (u2 : Int32) (h0 : Heap) (n0 : Nat) (v : Option Value) (h : Heap) (L : List Loc) : Prop := ∃ (b : Addr) (kb : ClassId), v = some (.ref b) ∧ Fr n0 L ∧ Keep h0 h [] ∧ h0.size ≤ b ∧ OPg Z h b kb .byte (3 : Int32)
theorem rm_comN (l : Launch) (Z : State) (a0 : Array Value) (hw : ∀ d ∈ tables_1, d.before a0 Z = true) (ws : List Jvm.Cond) (x : Addr) (kx : ClassId) (u0 : Int32) (u1 : Int32) (u2 : Int32) (h0 : Heap) (n0 : Nat) (Z0 : n0 ≤ h0.size) (V_x : OAr Z h0 x kx .char [(.int u0), (.int u1), (.int u2)]) (hn : ¬ own_w u0 u1 u2 (3 : Int32)) :
    oM l mN31 jdk_52_method_16_code 6 (some (.array .byte)) ws ({ frames := 3, cells := 1, slots := 3, locals := 84 } : Room) #[(.ref x), (.int (0 : Int32)), (.int (3 : Int32))] Z h0 (Q_comN Z x kx u0 u1 u2 h0 n0) := by
  refine MetFree.of_bodySF (plainFor_of_name pn_java_lang_StringUTF16) hisR ?_
  intro p e s m args below meth c s₁ Bd hml0 hP hK
  obtain ⟨rfl, hZ, hh⟩ := hP
  have hx := Bd.exec
  have hby := Bd.bytes
  have hml : c.maxLocals = 6 := hml0
  have hown : s.vm.findClass "java/lang/StringUTF16" = some m.cls := findClass_of_methodNamed Bd.named
  have hnm := (name_of_methodNamed Bd.named Bd.method).1
  have X0 : Stand p l e ({ frames := 3, cells := 1, slots := 3, locals := 84 } : Room) s m #[(.ref x), (.int (0 : Int32)), (.int (3 : Int32))] below meth c s₁ [] 0 0 := Stand.of_body Bd
  have e0 : s₁.heap = h0 := by rw [← hh, Bd.state]; rfl
  have N0 := Fr.nil n0
  obtain ⟨A0, hA0⟩ : ∃ z, z = s₁.setTop (entryFrame m #[(.ref x), (.int (0 : Int32)), (.int (3 : Int32))] 6) := ⟨_, rfl⟩
  have K : OGo p e below A0 s₁ (mkF m 0 #[rv x, iv 0, iv 3, .unset, .unset, .unset] []) := fun t k => hA0 ▸ castTop (ef_14 m x (0 : Int32) (3 : Int32)) k
  obtain ⟨T1, h1, k1, X1, e1, E1, A1, Q1, st1⟩ := newPE X0 hx hZ (ow hw 12 rfl) e0 (g := (mkF m 1 #[rv x, iv 0, iv 3, .unset, .unset, .unset] [(.int 3)])) rfl (hb hby d14_1) rfl (by decide) (cap := 3) (by decide) (by decide) (by decide) (by decide) (ad := "[B") (by decide)
  obtain ⟨b1, gz1⟩ : ∃ z, z = h0.size := ⟨_, rfl⟩
  rw [← gz1] at A1 Q1 st1
  have ne_x_b1 : x ≠ b1 := Nat.ne_of_lt (Nat.lt_of_lt_of_le V_x.lt (Nat.le_of_eq gz1.symm))
  have g_b1 : n0 ≤ b1 := Nat.le_trans Z0 (Nat.le_of_eq gz1.symm)
  have sz_b1 : h0.size ≤ b1 := Nat.le_trans (Keep.refl h0 []).1 (Nat.le_of_eq gz1.symm)
  have Z1 : n0 ≤ h1.size := Nat.le_trans Z0 E1.1
  have Kp1 : Keep h0 h1 [] := (Keep.refl h0 []).ext E1
  have G_b1 : OPg Z h1 b1 k1 .byte (3 : Int32) := OPg.new A1 (by decide) rfl
  have V_x_3 := (V_x.ext E1)
  obtain ⟨_, _, ⟨T2, L2, k2, n2⟩, -, X2, ⟨Lc2, hQ2, l2, y2, z2⟩, st2⟩ := Jvm.LawKit.callS X1 hx (y := mN30) hown (mvT hZ (ow hw 91 rfl)) (mvT hZ (ow hw 92 rfl)) (mvT hZ (ow hw 89 rfl)) (mvT hZ (ow hw 93 rfl)) (by decide) (backOf (W := 0) (rm_cmpN l Z a0 hw [] x b1 kx k1 u0 u1 u2 h1 n0 Z1 V_x_3 G_b1 g_b1 ne_x_b1 hn) hZ (ow hw 93 rfl) (ow hw 89 rfl) (by decide) (by decide)) (g := (mkF m 9 #[rv x, iv 0, iv 3, rv b1, .unset, .unset] [(.int 3), (.int 0), (.ref b1), (.int 0), (.ref x)])) rfl (by rw [hml]; rfl) (argsL := [(.ref x), (.int (0 : Int32)), (.ref b1), (.int (0 : Int32)), (.int (3 : Int32))]) (rest := []) (lenOf pd___CI_BII_I rfl) rfl (by show 2 * 0 + _ ≤ _; exact Nat.le_of_eq rfl) (hb hby d14_9) (fun _ _ => ⟨rfl, e1, (by decide : 1 + 0 ≤ _), (by decide : 3 + 0 ≤ _)⟩)
  dsimp only [Pt.U, Pt.locs, Pt.cells, Pt.slots] at X2 l2 y2 z2 st2 hQ2
  subst l2 y2 z2
  obtain ⟨hp2, e2⟩ : ∃ z, T2.heap = z := ⟨_, rfl⟩
  rw [e2] at hQ2
  obtain ⟨rfl, Nq2, K2, P2_0⟩ := hQ2
  have Z2 : n0 ≤ hp2.size := Nat.le_trans Z1 K2.1
  have Kp2 : Keep h0 hp2 [] := Kp1.trans K2 (allS (Or.inr sz_b1) all0)
  have N2 := Fr.app N0 Nq2
  replace K : OGo p e below A0 T2 (mkF m 58 #[rv x, iv 0, iv 3, rv b1, iv 3, .unset] [(.ref b1)]) := fun t k => K t (XS.iloadN X0.here hx rfl (hb hby d14_0) rfl (st1 t (XS.astoreN X1.here hx rfl (hb hby d14_3) rfl rfl (l' := #[rv x, iv 0, iv 3, rv b1, .unset, .unset]) rfl (XS.aloadN X1.here hx rfl (hb hby d14_4) rfl rfl (XS.iloadN X1.here hx rfl (hb hby d14_5) rfl (XS.aloadN X1.here hx rfl (hb hby d14_6) rfl rfl (XS.iconst X1.here hx rfl (hb hby d14_7) (XS.iloadN X1.here hx rfl (hb hby d14_8) rfl (st2 t (XS.istore X2.here hx rfl (hb hby d14_12) rfl (l' := #[rv x, iv 0, iv 3, rv b1, iv 3, .unset]) rfl (XS.iload X2.here hx rfl (hb hby d14_14) rfl (XS.iloadN X2.here hx rfl (hb hby d14_16) rfl (XS.icmpYes X2.here hx rfl (pc0 := 17) (pc' := 57) rfl (hb hby d14_17) rfl (teq ((by decide : (3 : Int32) = (3 : Int32)) : (3 : Int32) = (3 : Int32))).1 (by decide) (by decide) (XS.aloadN X2.here hx rfl (hb hby d14_57) rfl rfl k))))))))))))))
  obtain ⟨fs, hr, hrun, hended, hW, hsame⟩ := X2.leave (v := some (.ref b1)) (fun h => by rw [Bd.returns] at h; cases h)
  subst hA0
  refine ⟨_, _, K _ (retOut X2 hx Bd.returns rfl (Or.inr (Or.inr (Or.inr (Or.inr ⟨rfl, rfl, rfl⟩)))) (hb hby d14_58) hr), hrun, hended, _, _, rfl, ?_, ⟨_, rfl⟩, hW, hsame.mono (by decide) (by decide)⟩
  show Q_comN Z x kx u0 u1 u2 h0 n0 _ T2.heap _
  rw [e2]
  exact ⟨b1, k1, rfl, N2, Kp2, sz_b1, P2_0⟩
theorem d14_20 : Dc14 20 (.aload_n 0) 1 := by decide +kernel
theorem d14_21 : Dc14 21 (.iload_n 1) 1 := by decide +kernel
theorem d14_22 : Dc14 22 (.iload_n 2) 1 := by decide +kernel
theorem d14_23 : Dc14 23 (.invokestatic 119) 3 := by decide +kernel
theorem pd___CII__B : parseMethodDescriptor "([CII)[B" = some ⟨[(.array .char), .int, .int], some (.array .byte)⟩ := by decide +kernel
theorem d14_26 : Dc14 26 (.astore 5) 2 := by decide +kernel
theorem d14_28 : Dc14 28 (.aload 5) 2 := by decide +kernel
theorem d14_30 : Dc14 30 (.iload 4) 2 := by decide +kernel
theorem d14_32 : Dc14 32 (.invokestatic 71) 3 := by decide +kernel
theorem d14_35 : Dc14 35 (.sipush 255) 3 := by decide +kernel
theorem d14_38 : Dc14 38 (.if_icmp .gt 16) 3 := by decide +kernel
theorem d14_54 : Dc14 54 (.aload 5) 2 := by decide +kernel
theorem d14_56 : Dc14 56 (.areturn) 1 := by decide +kernel
def Q_comW (Z : State) (x : Addr) (kx : ClassId) (u0 : Int32) (u1 : Int32) (u2 : Int32) (cs : Int32) (fw : Value) (h0 : Heap) (n0 : Nat) (v : Option Value) (h : Heap) (L : List Loc) : Prop := ∃ (b : Addr) (kb : ClassId), v = some (.ref b) ∧ Fr n0 L ∧ Keep h0 h [] ∧ h0.size ≤ b ∧ OAr Z h b kb .byte [(.int (own_b0 u0)), (.int (own_b1 u0)), (.int (own_b0 u1)), (.int (own_b1 u1)), (.int (own_b0 u2)), (.int (own_b1 u2))]
theorem rm_comW (l : Launch) (Z : State) (a0 : Array Value) (hw : ∀ d ∈ tables_1, d.before a0 Z = true) (ws : List Jvm.Cond) (x : Addr) (kx : ClassId) (u0 : Int32) (u1 : Int32) (u2 : Int32) (cs : Int32) (fw : Value) (h0 : Heap) (n0 : Nat) (Z0 : n0 ≤ h0.size) (hST : own_ST Z cs fw) (O_0 : Old Z n0 h0) (V_x : OAr Z h0 x kx .char [(.int u0), (.int u1), (.int u2)]) (hn : own_w u0 u1 u2 (3 : Int32)) (hu : own_ch u0 u1 u2) :
    oM l mN31 jdk_52_method_16_code 6 (some (.array .byte)) ws ({ frames := 3, cells := 2, slots := 9, locals := 84 } : Room) #[(.ref x), (.int (0 : Int32)), (.int (3 : Int32))] Z h0 (Q_comW Z x kx u0 u1 u2 cs fw h0 n0) := by
  refine MetFree.of_bodySF (plainFor_of_name pn_java_lang_StringUTF16) hisR ?_
  intro p e s m args below meth c s₁ Bd hml0 hP hK
  obtain ⟨rfl, hZ, hh⟩ := hP
  have hx := Bd.exec
  have hby := Bd.bytes
  have hml : c.maxLocals = 6 := hml0
  have hown : s.vm.findClass "java/lang/StringUTF16" = some m.cls := findClass_of_methodNamed Bd.named
  have hnm := (name_of_methodNamed Bd.named Bd.method).1
  have X0 : Stand p l e ({ frames := 3, cells := 2, slots := 9, locals := 84 } : Room) s m #[(.ref x), (.int (0 : Int32)), (.int (3 : Int32))] below meth c s₁ [] 0 0 := Stand.of_body Bd
  have e0 : s₁.heap = h0 := by rw [← hh, Bd.state]; rfl
  have N0 := Fr.nil n0
  obtain ⟨A0, hA0⟩ : ∃ z, z = s₁.setTop (entryFrame m #[(.ref x), (.int (0 : Int32)), (.int (3 : Int32))] 6) := ⟨_, rfl⟩
  have K : OGo p e below A0 s₁ (mkF m 0 #[rv x, iv 0, iv 3, .unset, .unset, .unset] []) := fun t k => hA0 ▸ castTop (ef_14 m x (0 : Int32) (3 : Int32)) k
  obtain ⟨T1, h1, k1, X1, e1, E1, A1, Q1, st1⟩ := newPE X0 hx hZ (ow hw 12 rfl) e0 (g := (mkF m 1 #[rv x, iv 0, iv 3, .unset, .unset, .unset] [(.int 3)])) rfl (hb hby d14_1) rfl (by decide) (cap := 3) (by decide) (by decide) (by decide) (by decide) (ad := "[B") (by decide)
  obtain ⟨b1, gz1⟩ : ∃ z, z = h0.size := ⟨_, rfl⟩
  rw [← gz1] at A1 Q1 st1
  have ne_x_b1 : x ≠ b1 := Nat.ne_of_lt (Nat.lt_of_lt_of_le V_x.lt (Nat.le_of_eq gz1.symm))
  have g_b1 : n0 ≤ b1 := Nat.le_trans Z0 (Nat.le_of_eq gz1.symm)
  have sz_b1 : h0.size ≤ b1 := Nat.le_trans (Keep.refl h0 []).1 (Nat.le_of_eq gz1.symm)
  have Z1 : n0 ≤ h1.size := Nat.le_trans Z0 E1.1
  have Kp1 : Keep h0 h1 [] := (Keep.refl h0 []).ext E1
  have G_b1 : OPg Z h1 b1 k1 .byte (3 : Int32) := OPg.new A1 (by decide) rfl
  have V_x_3 := (V_x.ext E1)
  obtain ⟨_, _, ⟨T2, L2, k2, n2⟩, -, X2, ⟨Lc2, hQ2, l2, y2, z2⟩, st2⟩ := Jvm.LawKit.callS X1 hx (y := mN30) hown (mvT hZ (ow hw 91 rfl)) (mvT hZ (ow hw 92 rfl)) (mvT hZ (ow hw 89 rfl)) (mvT hZ (ow hw 93 rfl)) (by decide) (backOf (W := 0) (rm_cmpW l Z a0 hw [] x b1 kx k1 u0 u1 u2 h1 n0 Z1 V_x_3 G_b1 g_b1 ne_x_b1 hn) hZ (ow hw 93 rfl) (ow hw 89 rfl) (by decide) (by decide)) (g := (mkF m 9 #[rv x, iv 0, iv 3, rv b1, .unset, .unset] [(.int 3), (.int 0), (.ref b1), (.int 0), (.ref x)])) rfl (by rw [hml]; rfl) (argsL := [(.ref x), (.int (0 : Int32)), (.ref b1), (.int (0 : Int32)), (.int (3 : Int32))]) (rest := []) (lenOf pd___CI_BII_I rfl) rfl (by show 2 * 0 + _ ≤ _; exact Nat.le_of_eq rfl) (hb hby d14_9) (fun _ _ => ⟨rfl, e1, (by decide : 1 + 0 ≤ _), (by decide : 3 + 0 ≤ _)⟩)
  dsimp only [Pt.U, Pt.locs, Pt.cells, Pt.slots] at X2 l2 y2 z2 st2 hQ2
  subst l2 y2 z2
  obtain ⟨hp2, e2⟩ : ∃ z, T2.heap = z := ⟨_, rfl⟩
  rw [e2] at hQ2
  obtain ⟨rfl, Nq2, K2⟩ := hQ2
  have Z2 : n0 ≤ hp2.size := Nat.le_trans Z1 K2.1
  have Kp2 : Keep h0 hp2 [] := Kp1.trans K2 (allS (Or.inr sz_b1) all0)
  have N2 := Fr.app N0 Nq2
  have O_5 := ((O_0.ext E1).keep K2 (allS g_b1 all0))
  have V_x_6 := (V_x_3.keep K2 (ninS ne_x_b1 nin0))
  obtain ⟨_, _, ⟨T4, L4, k4, n4⟩, -, X4, ⟨Lc4, hQ4, l4, y4, z4⟩, st4⟩ := Jvm.LawKit.callS X2 hx (y := mN29) hown (mvT hZ (ow hw 146 rfl)) (mvT hZ (ow hw 147 rfl)) (mvT hZ (ow hw 89 rfl)) (mvT hZ (ow hw 148 rfl)) (by decide) (backOf (W := 0) (rm_toB l Z a0 hw [] x kx u0 u1 u2 cs fw hp2 n0 Z2 hST O_5 V_x_6) hZ (ow hw 148 rfl) (ow hw 89 rfl) (by decide) (by decide)) (g := (mkF m 23 #[rv x, iv 0, iv 3, rv b1, iv (own_fw u0 u1 u2), .unset] [(.int 3), (.int 0), (.ref x)])) rfl (by rw [hml]; rfl) (argsL := [(.ref x), (.int (0 : Int32)), (.int (3 : Int32))]) (rest := []) (lenOf pd___CII__B rfl) rfl (by show 2 * 0 + _ ≤ _; exact Nat.le_of_eq rfl) (hb hby d14_23) (fun _ _ => ⟨rfl, e2, (by decide : 1 + 1 ≤ _), (by decide : 3 + 6 ≤ _)⟩)
  dsimp only [Pt.U, Pt.locs, Pt.cells, Pt.slots] at X4 l4 y4 z4 st4 hQ4
  subst l4 y4 z4
  obtain ⟨hp4, e4⟩ : ∃ z, T4.heap = z := ⟨_, rfl⟩
  rw [e4] at hQ4
  obtain ⟨b_4, kb_4, rfl, Nq4, K4, P4_0, P4_1⟩ := hQ4
  have ne_x_b_4 : x ≠ b_4 := Nat.ne_of_lt (Nat.lt_of_lt_of_le V_x_6.lt P4_0)
  have Q1_7 := (Q1.keep K2)
  have ne_b1_b_4 : b1 ≠ b_4 := Nat.ne_of_lt (Nat.lt_of_lt_of_le Q1_7.lt P4_0)
  have g_b_4 : n0 ≤ b_4 := Nat.le_trans Z2 P4_0
  have sz_b_4 : h0.size ≤ b_4 := Nat.le_trans Kp2.1 P4_0
  have Z4 : n0 ≤ hp4.size := Nat.le_trans Z2 K4.1
  have Kp4 : Keep h0 hp4 [] := Kp2.trans K4 all0
  have N4 := Fr.app N2 Nq4
  replace K : OGo p e below A0 T4 (mkF m 32 #[rv x, iv 0, iv 3, rv b1, iv (own_fw u0 u1 u2), rv b_4] [(.int (own_fw u0 u1 u2)), (.ref b_4)]) := fun t k => K t (XS.iloadN X0.here hx rfl (hb hby d14_0) rfl (st1 t (XS.astoreN X1.here hx rfl (hb hby d14_3) rfl rfl (l' := #[rv x, iv 0, iv 3, rv b1, .unset, .unset]) rfl (XS.aloadN X1.here hx rfl (hb hby d14_4) rfl rfl (XS.iloadN X1.here hx rfl (hb hby d14_5) rfl (XS.aloadN X1.here hx rfl (hb hby d14_6) rfl rfl (XS.iconst X1.here hx rfl (hb hby d14_7) (XS.iloadN X1.here hx rfl (hb hby d14_8) rfl (st2 t (XS.istore X2.here hx rfl (hb hby d14_12) rfl (l' := #[rv x, iv 0, iv 3, rv b1, iv (own_fw u0 u1 u2), .unset]) rfl (XS.iload X2.here hx rfl (hb hby d14_14) rfl (XS.iloadN X2.here hx rfl (hb hby d14_16) rfl (XS.icmpNo X2.here hx rfl (hb hby d14_17) rfl (feq ((own_fw3 _ _ _) : ¬ ((own_fw u0 u1 u2) = (3 : Int32)))).1 (XS.aloadN X2.here hx rfl (hb hby d14_20) rfl rfl (XS.iloadN X2.here hx rfl (hb hby d14_21) rfl (XS.iloadN X2.here hx rfl (hb hby d14_22) rfl (st4 t (XS.astore X4.here hx rfl (hb hby d14_26) rfl rfl (l' := #[rv x, iv 0, iv 3, rv b1, iv (own_fw u0 u1 u2), rv b_4]) rfl (XS.aload X4.here hx rfl (hb hby d14_28) rfl rfl (XS.iload X4.here hx rfl (hb hby d14_30) rfl k))))))))))))))))))))
  have O_9 := (O_5.keep K4 all0)
  obtain ⟨_, _, ⟨T8, L8, k8, n8⟩, -, X8, ⟨Lc8, hQ8, l8, y8, z8⟩, st8⟩ := Jvm.LawKit.callS X4 hx (y := mN23) hown (mvT hZ (ow hw 162 rfl)) (mvT hZ (ow hw 163 rfl)) (mvT hZ (ow hw 89 rfl)) (mvT hZ (ow hw 164 rfl)) (by decide) (backOf (W := 0) (rm_getC l Z a0 hw [] b_4 (own_fw u0 u1 u2) kb_4 u0 u1 u2 cs fw hp4 n0 Z4 hST O_9 P4_1 (own_fwI _ _ _) hu) hZ (ow hw 164 rfl) (ow hw 89 rfl) (by decide) (by decide)) (g := (mkF m 32 #[rv x, iv 0, iv 3, rv b1, iv (own_fw u0 u1 u2), rv b_4] [(.int (own_fw u0 u1 u2)), (.ref b_4)])) rfl (by rw [hml]; rfl) (argsL := [(.ref b_4), (.int (own_fw u0 u1 u2))]) (rest := []) (lenOf pd___BI_C rfl) rfl (by show 2 * 0 + _ ≤ _; exact Nat.le_of_eq rfl) (hb hby d14_32) (fun _ _ => ⟨rfl, e4, (by decide : 2 + 0 ≤ _), (by decide : 9 + 0 ≤ _)⟩)
  dsimp only [Pt.U, Pt.locs, Pt.cells, Pt.slots] at X8 l8 y8 z8 st8 hQ8
  subst l8 y8 z8
  obtain ⟨rfl, Nq8, e8⟩ := hQ8
  have N8 := Fr.app N4 Nq8
  replace K : OGo p e below A0 T8 (mkF m 56 #[rv x, iv 0, iv 3, rv b1, iv (own_fw u0 u1 u2), rv b_4] [(.ref b_4)]) := fun t k => K t (st8 t (XS.sipush X8.here hx rfl (hb hby d14_35) (XS.icmpYes X8.here hx rfl (pc0 := 38) (pc' := 54) rfl (hb hby d14_38) rfl (tlt ((own_fwat hn) : (255 : Int32) < (own_at u0 u1 u2 (own_fw u0 u1 u2)))).2.2.1 (by decide) (by decide) (XS.aload X8.here hx rfl (hb hby d14_54) rfl rfl k))))
  obtain ⟨fs, hr, hrun, hended, hW, hsame⟩ := X8.leave (v := some (.ref b_4)) (fun h => by rw [Bd.returns] at h; cases h)
  subst hA0
  refine ⟨_, _, K _ (retOut X8 hx Bd.returns rfl (Or.inr (Or.inr (Or.inr (Or.inr ⟨rfl, rfl, rfl⟩)))) (hb hby d14_56) hr), hrun, hended, _, _, rfl, ?_, ⟨_, rfl⟩, hW, hsame.mono (by decide) (by decide)⟩
  show Q_comW Z x kx u0 u1 u2 cs fw h0 n0 _ T8.heap _
  rw [e8]
  exact ⟨b_4, kb_4, rfl, N8, Kp4, sz_b_4, P4_1⟩
theorem ef_16 (m : MethodId) (x0 : Addr) (x1 : Int32) : entryFrame m #[(.ref x0), (.int x1)] 2 = mkF m 0 #[.val (.ref x0), .val (.int x1)] [] := by first | (simp [entryFrame, mkF, argsToLocals, Value.category]; done) | rfl
abbrev Dc16 (i : Nat) (c : Instr) (k : Nat) : Prop := decode jdk_52_method_15_code i = .ok (c, k)
theorem d16_0 : Dc16 0 (.iload_n 1) 1 := by decide +kernel
theorem d16_1 : Dc16 1 (.aload_n 0) 1 := by decide +kernel
theorem d16_2 : Dc16 2 (.arraylength) 1 := by decide +kernel
theorem d16_3 : Dc16 3 (.isub) 1 := by decide +kernel
theorem d16_4 : Dc16 4 (.bipush 31) 2 := by decide +kernel
theorem d16_6 : Dc16 6 (.iushr) 1 := by decide +kernel
theorem d16_7 : Dc16 7 (.i2b) 1 := by decide +kernel
theorem d16_8 : Dc16 8 (.ireturn) 1 := by decide +kernel
def Q_cflL (Z : State) (va : Addr) (kv : ClassId) (h0 : Heap) (n0 : Nat) (v : Option Value) (h : Heap) (L : List Loc) : Prop := v = some (.int (0 : Int32)) ∧ Fr n0 L ∧ h = h0
theorem rm_cflL (l : Launch) (Z : State) (a0 : Array Value) (hw : ∀ d ∈ tables_1, d.before a0 Z = true) (ws : List Jvm.Cond) (va : Addr) (kv : ClassId) (h0 : Heap) (n0 : Nat) (Z0 : n0 ≤ h0.size) (G_va : OPg Z h0 va kv .byte (3 : Int32)) :
    oM l mN32 jdk_52_method_15_code 2 (some .byte) ws ({ frames := 0, cells := 0, slots := 0, locals := 0 } : Room) #[(.ref va), (.int (3 : Int32))] Z h0 (Q_cflL Z va kv h0 n0) := by
  refine MetFree.of_bodySF (plainFor_of_name pn_java_lang_StringUTF16) hisR ?_
  intro p e s m args below meth c s₁ Bd hml0 hP hK
  obtain ⟨rfl, hZ, hh⟩ := hP
  have hx := Bd.exec
  have hby := Bd.bytes
  have hml : c.maxLocals = 2 := hml0
  have hown : s.vm.findClass "java/lang/StringUTF16" = some m.cls := findClass_of_methodNamed Bd.named
  have hnm := (name_of_methodNamed Bd.named Bd.method).1
  have X0 : Stand p l e ({ frames := 0, cells := 0, slots := 0, locals := 0 } : Room) s m #[(.ref va), (.int (3 : Int32))] below meth c s₁ [] 0 0 := Stand.of_body Bd
  have e0 : s₁.heap = h0 := by rw [← hh, Bd.state]; rfl
  have N0 := Fr.nil n0
  obtain ⟨A0, hA0⟩ : ∃ z, z = s₁.setTop (entryFrame m #[(.ref va), (.int (3 : Int32))] 2) := ⟨_, rfl⟩
  have K : OGo p e below A0 s₁ (mkF m 0 #[rv va, iv 3] []) := fun t k => hA0 ▸ castTop (ef_16 m va (3 : Int32)) k
  replace K : OGo p e below A0 s₁ (mkF m 8 #[rv va, iv 3] [(.int 0)]) := fun t k => K t (XS.iloadN X0.here hx rfl (hb hby d16_0) rfl (XS.aloadN X0.here hx rfl (hb hby d16_1) rfl rfl (own_lenP X0 hx hZ e0 G_va (g := (mkF m 2 #[rv va, iv 3] [(.ref va), (.int 3)])) rfl rfl (hb hby d16_2) t (XS.isub X0.here hx rfl (hb hby d16_3) rfl (XS.bipush X0.here hx rfl (hb hby d16_4) (XS.iushr X0.here hx rfl (hb hby d16_6) rfl (XS.i2b X0.here hx rfl (hb hby d16_7) rfl k)))))))
  obtain ⟨fs, hr, hrun, hended, hW, hsame⟩ := X0.leave (v := some (.int (0 : Int32))) (fun h => by rw [Bd.returns] at h; cases h)
  subst hA0
  refine ⟨_, _, K _ (retN X0 hx (t := .byte) Bd.returns (by simp) (hb hby d16_8) hr), hrun, hended, _, _, rfl, ?_, ⟨_, rfl⟩, hW, hsame.mono (by decide) (by decide)⟩
  show Q_cflL Z va kv h0 n0 _ s₁.heap _
  rw [e0]
  exact ⟨rfl, N0, rfl⟩
def Q_cflU (Z : State) (va : Addr) (kv : ClassId) (u0 : Int32) (u1 : Int32) (u2 : Int32) (h0 : Heap) (n0 : Nat) (v : Option Value) (h : Heap) (L : List Loc) : Prop := v = some (.int (1 : Int32)) ∧ Fr n0 L ∧ h = h0
theorem rm_cflU (l : Launch) (Z : State) (a0 : Array Value) (hw : ∀ d ∈ tables_1, d.before a0 Z = true) (ws : List Jvm.Cond) (va : Addr) (kv : ClassId) (u0 : Int32) (u1 : Int32) (u2 : Int32) (h0 : Heap) (n0 : Nat) (Z0 : n0 ≤ h0.size) (V_va : OAr Z h0 va kv .byte [(.int (own_b0 u0)), (.int (own_b1 u0)), (.int (own_b0 u1)), (.int (own_b1 u1)), (.int (own_b0 u2)), (.int (own_b1 u2))]) :
    oM l mN32 jdk_52_method_15_code 2 (some .byte) ws ({ frames := 0, cells := 0, slots := 0, locals := 0 } : Room) #[(.ref va), (.int (3 : Int32))] Z h0 (Q_cflU Z va kv u0 u1 u2 h0 n0) := by
  refine MetFree.of_bodySF (plainFor_of_name pn_java_lang_StringUTF16) hisR ?_
  intro p e s m args below meth c s₁ Bd hml0 hP hK
  obtain ⟨rfl, hZ, hh⟩ := hP
  have hx := Bd.exec
  have hby := Bd.bytes
  have hml : c.maxLocals = 2 := hml0
  have hown : s.vm.findClass "java/lang/StringUTF16" = some m.cls := findClass_of_methodNamed Bd.named
  have hnm := (name_of_methodNamed Bd.named Bd.method).1
  have X0 : Stand p l e ({ frames := 0, cells := 0, slots := 0, locals := 0 } : Room) s m #[(.ref va), (.int (3 : Int32))] below meth c s₁ [] 0 0 := Stand.of_body Bd
  have e0 : s₁.heap = h0 := by rw [← hh, Bd.state]; rfl
  have N0 := Fr.nil n0
  obtain ⟨A0, hA0⟩ : ∃ z, z = s₁.setTop (entryFrame m #[(.ref va), (.int (3 : Int32))] 2) := ⟨_, rfl⟩
  have K : OGo p e below A0 s₁ (mkF m 0 #[rv va, iv 3] []) := fun t k => hA0 ▸ castTop (ef_16 m va (3 : Int32)) k
  replace K : OGo p e below A0 s₁ (mkF m 8 #[rv va, iv 3] [(.int 1)]) := fun t k => K t (XS.iloadN X0.here hx rfl (hb hby d16_0) rfl (XS.aloadN X0.here hx rfl (hb hby d16_1) rfl rfl (own_len X0 hx hZ e0 V_va (n := (6 : Int32)) rfl (g := (mkF m 2 #[rv va, iv 3] [(.ref va), (.int 3)])) rfl rfl (hb hby d16_2) t (XS.isub X0.here hx rfl (hb hby d16_3) rfl (XS.bipush X0.here hx rfl (hb hby d16_4) (XS.iushr X0.here hx rfl (hb hby d16_6) rfl (XS.i2b X0.here hx rfl (hb hby d16_7) rfl k)))))))
  obtain ⟨fs, hr, hrun, hended, hW, hsame⟩ := X0.leave (v := some (.int (1 : Int32))) (fun h => by rw [Bd.returns] at h; cases h)
  subst hA0
  refine ⟨_, _, K _ (retN X0 hx (t := .byte) Bd.returns (by simp) (hb hby d16_8) hr), hrun, hended, _, _, rfl, ?_, ⟨_, rfl⟩, hW, hsame.mono (by decide) (by decide)⟩
  show Q_cflU Z va kv u0 u1 u2 h0 n0 _ s₁.heap _
  rw [e0]
  exact ⟨rfl, N0, rfl⟩
theorem ef_13_n4 (m : MethodId) (x0 : Addr) (x1 : Addr) (x2 : Int32) (x3 : Int32) : entryFrame m #[(.ref x0), (.ref x1), (.int x2), (.int x3), .null] 6 = mkF m 0 #[.val (.ref x0), .val (.ref x1), .val (.int x2), .val (.int x3), .val .null, .unset] [] := by first | (simp [entryFrame, mkF, argsToLocals, Value.category]; done) | rfl
abbrev Dc13 (i : Nat) (c : Instr) (k : Nat) : Prop := decode jdk_42_method_149_code i = .ok (c, k)
theorem d13_0 : Dc13 0 (.aload_n 0) 1 := by decide +kernel
theorem d13_1 : Dc13 1 (.invokespecial 1) 3 := by decide +kernel
theorem d13_4 : Dc13 4 (.iload_n 3) 1 := by decide +kernel
theorem d13_5 : Dc13 5 (.ifCond .ne 22) 3 := by decide +kernel
theorem d13_27 : Dc13 27 (.getstatic 38) 3 := by decide +kernel
theorem d13_30 : Dc13 30 (.ifCond .eq 28) 3 := by decide +kernel
theorem d13_33 : Dc13 33 (.aload_n 1) 1 := by decide +kernel
theorem d13_34 : Dc13 34 (.iload_n 2) 1 := by decide +kernel
theorem d13_35 : Dc13 35 (.iload_n 3) 1 := by decide +kernel
theorem d13_36 : Dc13 36 (.invokestatic 177) 3 := by decide +kernel
theorem d13_39 : Dc13 39 (.astore 5) 2 := by decide +kernel
theorem d13_41 : Dc13 41 (.aload_n 0) 1 := by decide +kernel
theorem d13_42 : Dc13 42 (.aload 5) 2 := by decide +kernel
theorem d13_44 : Dc13 44 (.iload_n 3) 1 := by decide +kernel
theorem d13_45 : Dc13 45 (.invokestatic 47) 3 := by decide +kernel
theorem pd___BI_B : parseMethodDescriptor "([BI)B" = some ⟨[(.array .byte), .int], some .byte⟩ := by decide +kernel
theorem d13_48 : Dc13 48 (.putfield 15) 3 := by decide +kernel
theorem d13_51 : Dc13 51 (.aload_n 0) 1 := by decide +kernel
theorem d13_52 : Dc13 52 (.aload 5) 2 := by decide +kernel
theorem d13_54 : Dc13 54 (.putfield 9) 3 := by decide +kernel
theorem sn_cN1_value_coder {a0 : Array Value} {Z : State} (hw : ∀ d ∈ tables_1, d.before a0 Z = true) : Jvm.RoadKit.slotOf Z cN1 "value" "[B" ≠ Jvm.RoadKit.slotOf Z cN1 "coder" "B" := slot_ne (Or.inr (ow hw 100 rfl)) (Or.inr (ow hw 98 rfl)) (by decide) (t := (.array .byte)) (t' := .byte) (by decide) (by decide)
theorem d13_57 : Dc13 57 (.return_) 1 := by decide +kernel
theorem sn_cN1_coder_value {a0 : Array Value} {Z : State} (hw : ∀ d ∈ tables_1, d.before a0 Z = true) : Jvm.RoadKit.slotOf Z cN1 "coder" "B" ≠ Jvm.RoadKit.slotOf Z cN1 "value" "[B" := slot_ne (Or.inr (ow hw 98 rfl)) (Or.inr (ow hw 100 rfl)) (by decide) (t := .byte) (t' := (.array .byte)) (by decide) (by decide)
def Q_si4L (Z : State) (a1 : Addr) (x : Addr) (kx : ClassId) (u0 : Int32) (u1 : Int32) (u2 : Int32) (cs : Int32) (fw : Value) (h0 : Heap) (n0 : Nat) (v : Option Value) (h : Heap) (L : List Loc) : Prop := v = none ∧ Fr n0 L ∧ ∃ (va : Addr) (kv : ClassId), Keep h0 h [a1] ∧ h0.size ≤ va ∧ Fld Z h a1 cN1 "value" "[B" (.ref va) ∧ Fld Z h a1 cN1 "coder" "B" (.int (0 : Int32)) ∧ OPg Z h va kv .byte (3 : Int32)
theorem rm_si4L (l : Launch) (Z : State) (a0 : Array Value) (hw : ∀ d ∈ tables_1, d.before a0 Z = true) (ws : List Jvm.Cond) (a1 : Addr) (x : Addr) (kx : ClassId) (u0 : Int32) (u1 : Int32) (u2 : Int32) (cs : Int32) (fw : Value) (h0 : Heap) (n0 : Nat) (Z0 : n0 ≤ h0.size) (hST : own_ST Z cs fw) (O_0 : Old Z n0 h0) (E_a1 : Exa Z h0 a1 cN1) (F_value_a1 : Fld Z h0 a1 cN1 "value" "[B" .null) (F_coder_a1 : Fld Z h0 a1 cN1 "coder" "B" (.int (0 : Int32))) (g_a1 : n0 ≤ a1) (ne_a1_x : a1 ≠ x) (V_x : OAr Z h0 x kx .char [(.int u0), (.int u1), (.int u2)]) (hn : ¬ own_w u0 u1 u2 (3 : Int32)) :
    oM l mN33 jdk_42_method_149_code 6 none ws ({ frames := 4, cells := 2, slots := 9, locals := 112 } : Room) #[(.ref a1), (.ref x), (.int (0 : Int32)), (.int (3 : Int32)), .null] Z h0 (Q_si4L Z a1 x kx u0 u1 u2 cs fw h0 n0) := by
  refine MetFree.of_bodySF (plainFor_of_name pn_java_lang_String) hisR ?_
  intro p e s m args below meth c s₁ Bd hml0 hP hK
  obtain ⟨rfl, hZ, hh⟩ := hP
  have hx := Bd.exec
  have hby := Bd.bytes
  have hml : c.maxLocals = 6 := hml0
  have hown : s.vm.findClass "java/lang/String" = some m.cls := findClass_of_methodNamed Bd.named
  have hnm := (name_of_methodNamed Bd.named Bd.method).1
  have X0 : Stand p l e ({ frames := 4, cells := 2, slots := 9, locals := 112 } : Room) s m #[(.ref a1), (.ref x), (.int (0 : Int32)), (.int (3 : Int32)), .null] below meth c s₁ [] 0 0 := Stand.of_body Bd
  have e0 : s₁.heap = h0 := by rw [← hh, Bd.state]; rfl
  have N0 := Fr.nil n0
  obtain ⟨A0, hA0⟩ : ∃ z, z = s₁.setTop (entryFrame m #[(.ref a1), (.ref x), (.int (0 : Int32)), (.int (3 : Int32)), .null] 6) := ⟨_, rfl⟩
  have K : OGo p e below A0 s₁ (mkF m 0 #[rv a1, rv x, iv 0, iv 3, .val .null, .unset] []) := fun t k => hA0 ▸ castTop (ef_13_n4 m a1 x (0 : Int32) (3 : Int32)) k
  obtain ⟨T1, X1, e1, st1⟩ := initO X0 hx hZ hown (ow hw 85 rfl) (ow hw 8 rfl) (ow hw 9 rfl) e0 (g := (mkF m 1 #[rv a1, rv x, iv 0, iv 3, .val .null, .unset] [(.ref a1)])) rfl (by rw [hml]; rfl) rfl (hb hby d13_1) (by decide) (W := 0) (by show 2 * 0 + _ ≤ _; exact Nat.le_of_eq rfl) (by decide)
  obtain ⟨T2, X2, e2, st2⟩ := getS2 X1 hx hZ hown (host := "") (Or.inl (ow hw 86 rfl)) Via.refl e1 (hST.cs.ext O_0.2) (g := (mkF m 27 #[rv a1, rv x, iv 0, iv 3, .val .null, .unset] [])) rfl (hb hby d13_27)
  obtain ⟨_, _, ⟨T3, L3, k3, n3⟩, -, X3, ⟨Lc3, hQ3, l3, y3, z3⟩, st3⟩ := Jvm.LawKit.callS X2 hx (y := mN31) hown (mvT hZ (ow hw 87 rfl)) (mvT hZ (ow hw 88 rfl)) (mvT hZ (ow hw 89 rfl)) (mvT hZ (ow hw 90 rfl)) (by decide) (backOf (W := 0) (rm_comN l Z a0 hw [] x kx u0 u1 u2 h0 n0 Z0 V_x hn) hZ (ow hw 90 rfl) (ow hw 89 rfl) (by decide) (by decide)) (g := (mkF m 36 #[rv a1, rv x, iv 0, iv 3, .val .null, .unset] [(.int 3), (.int 0), (.ref x)])) rfl (by rw [hml]; rfl) (argsL := [(.ref x), (.int (0 : Int32)), (.int (3 : Int32))]) (rest := []) (lenOf pd___CII__B rfl) rfl (by show 2 * 0 + _ ≤ _; exact Nat.le_of_eq rfl) (hb hby d13_36) (fun _ _ => ⟨rfl, e2, (by decide : 0 + 1 ≤ _), (by decide : 0 + 3 ≤ _)⟩)
  dsimp only [Pt.U, Pt.locs, Pt.cells, Pt.slots] at X3 l3 y3 z3 st3 hQ3
  subst l3 y3 z3
  obtain ⟨hp3, e3⟩ : ∃ z, T3.heap = z := ⟨_, rfl⟩
  rw [e3] at hQ3
  obtain ⟨b_3, kb_3, rfl, Nq3, K3, P3_0, P3_1⟩ := hQ3
  have ne_a1_b_3 : a1 ≠ b_3 := Nat.ne_of_lt (Nat.lt_of_lt_of_le E_a1.lt P3_0)
  have ne_x_b_3 : x ≠ b_3 := Nat.ne_of_lt (Nat.lt_of_lt_of_le V_x.lt P3_0)
  have g_b_3 : n0 ≤ b_3 := Nat.le_trans Z0 P3_0
  have sz_b_3 : h0.size ≤ b_3 := Nat.le_trans (Keep.refl h0 [a1]).1 P3_0
  have Z3 : n0 ≤ hp3.size := Nat.le_trans Z0 K3.1
  have Kp3 : Keep h0 hp3 [a1] := (Keep.refl h0 [a1]).trans K3 all0
  have N3 := Fr.app N0 Nq3
  obtain ⟨_, _, ⟨T4, L4, k4, n4⟩, -, X4, ⟨Lc4, hQ4, l4, y4, z4⟩, st4⟩ := Jvm.LawKit.callS X3 hx (y := mN32) hown (mvT hZ (ow hw 94 rfl)) (mvT hZ (ow hw 95 rfl)) (mvT hZ (ow hw 89 rfl)) (mvT hZ (ow hw 96 rfl)) (by decide) (backOf (W := 1) (rm_cflL l Z a0 hw [] b_3 kb_3 hp3 n0 Z3 P3_1) hZ (ow hw 96 rfl) (ow hw 89 rfl) (by decide) (by decide)) (g := (mkF m 45 #[rv a1, rv x, iv 0, iv 3, .val .null, rv b_3] [(.int 3), (.ref b_3), (.ref a1)])) rfl (by rw [hml]; rfl) (argsL := [(.ref b_3), (.int (3 : Int32))]) (rest := [(.ref a1)]) (lenOf pd___BI_B rfl) rfl (by show 2 * 0 + _ ≤ _; exact Nat.le_of_eq rfl) (hb hby d13_45) (fun _ _ => ⟨rfl, e3, (by decide : 1 + 0 ≤ _), (by decide : 3 + 0 ≤ _)⟩)
  dsimp only [Pt.U, Pt.locs, Pt.cells, Pt.slots] at X4 l4 y4 z4 st4 hQ4
  subst l4 y4 z4
  obtain ⟨rfl, Nq4, e4⟩ := hQ4
  have N4 := Fr.app N3 Nq4
  have F_coder_a1_5 := (F_coder_a1.keep K3 nin0)
  have E_a1_6 := (E_a1.keep K3)
  obtain ⟨T7, h7, X7, e7, W7, st7⟩ := putF X4 hx hZ hown (host := "") (Or.inl (ow hw 97 rfl)) Via.refl e4 F_coder_a1_5 E_a1_6 (Or.inr ⟨(ow hw 98 rfl), rfl, hnm⟩) (ow hw 76 rfl) (ty := .byte) (by decide) rfl rfl (g := (mkF m 48 #[rv a1, rv x, iv 0, iv 3, .val .null, rv b_3] [(.int 0), (.ref a1)])) rfl rfl (hb hby d13_48)
  have Z7 : n0 ≤ h7.size := Nat.le_trans Z3 (Keep.of_wr W7).1
  have Kp7 : Keep h0 h7 [a1] := Kp3.wr W7 (Or.inl (List.mem_of_getElem? (i := 0) rfl))
  have F_coder_a1_7 := F_coder_a1_5.same W7
  have N7 := Fr.snoc X7 N4 g_a1
  have F_value_a1_8 := ((F_value_a1.keep K3 nin0).other W7 (Or.inr (sn_cN1_value_coder hw)))
  have E_a1_9 := (E_a1_6.wr W7)
  obtain ⟨T10, h10, X10, e10, W10, st10⟩ := putF X7 hx hZ hown (host := "") (Or.inl (ow hw 99 rfl)) Via.refl e7 F_value_a1_8 E_a1_9 (Or.inr ⟨(ow hw 100 rfl), rfl, hnm⟩) (ow hw 76 rfl) (ty := (.array .byte)) (by decide) rfl rfl (g := (mkF m 54 #[rv a1, rv x, iv 0, iv 3, .val .null, rv b_3] [(.ref b_3), (.ref a1)])) rfl rfl (hb hby d13_54)
  have Z10 : n0 ≤ h10.size := Nat.le_trans Z7 (Keep.of_wr W10).1
  have Kp10 : Keep h0 h10 [a1] := Kp7.wr W10 (Or.inl (List.mem_of_getElem? (i := 0) rfl))
  have F_value_a1_10 := F_value_a1_8.same W10
  have N10 := Fr.snoc X10 N7 g_a1
  replace K : OGo p e below A0 T10 (mkF m 57 #[rv a1, rv x, iv 0, iv 3, .val .null, rv b_3] []) := fun t k => K t (XS.aloadN X0.here hx rfl (hb hby d13_0) rfl rfl (st1 t (XS.iloadN X1.here hx rfl (hb hby d13_4) rfl (XS.ifYes X1.here hx rfl (pc0 := 5) (pc' := 27) rfl (hb hby d13_5) rfl ((if0 _ _).trans (feq ((by decide : ¬ ((3 : Int32) = (0 : Int32))) : ¬ ((3 : Int32) = (0 : Int32)))).2) (by decide) (by decide) (st2 t (XS.ifNo X2.here hx rfl (hb hby d13_30) rfl ((if0 _ _).trans (feq (hST.cs0 : ¬ (cs = (0 : Int32)))).1) (XS.aloadN X2.here hx rfl (hb hby d13_33) rfl rfl (XS.iloadN X2.here hx rfl (hb hby d13_34) rfl (XS.iloadN X2.here hx rfl (hb hby d13_35) rfl (st3 t (XS.astore X3.here hx rfl (hb hby d13_39) rfl rfl (l' := #[rv a1, rv x, iv 0, iv 3, .val .null, rv b_3]) rfl (XS.aloadN X3.here hx rfl (hb hby d13_41) rfl rfl (XS.aload X3.here hx rfl (hb hby d13_42) rfl rfl (XS.iloadN X3.here hx rfl (hb hby d13_44) rfl (st4 t (st7 t (XS.aloadN X7.here hx rfl (hb hby d13_51) rfl rfl (XS.aload X7.here hx rfl (hb hby d13_52) rfl rfl (st10 t k)))))))))))))))))))
  have F_coder_a1_11 := (F_coder_a1_7.other W10 (Or.inr (sn_cN1_coder_value hw)))
  have G_b_3_12 := ((P3_1.other W7 (Ne.symm ne_a1_b_3)).other W10 (Ne.symm ne_a1_b_3))
  obtain ⟨fs, hr, hrun, hended, hW, hsame⟩ := X10.leave (v := none) (fun _ => rfl)
  subst hA0
  refine ⟨_, _, K _ (X10.returnOut hx Bd.returns (hb hby d13_57) hr), hrun, hended, _, _, rfl, ?_, ⟨_, rfl⟩, hW, hsame.mono (by decide) (by decide)⟩
  show Q_si4L Z a1 x kx u0 u1 u2 cs fw h0 n0 _ T10.heap _
  rw [e10]
  exact ⟨rfl, N10, b_3, kb_3, Kp10, sz_b_3, F_value_a1_10, F_coder_a1_11, G_b_3_12⟩
theorem ef_12 (m : MethodId) (x0 : Addr) (x1 : Addr) : entryFrame m #[(.ref x0), (.ref x1)] 2 = mkF m 0 #[.val (.ref x0), .val (.ref x1)] [] := by first | (simp [entryFrame, mkF, argsToLocals, Value.category]; done) | rfl
abbrev Dc12 (i : Nat) (c : Instr) (k : Nat) : Prop := decode jdk_42_method_3_code i = .ok (c, k)
theorem d12_0 : Dc12 0 (.aload_n 0) 1 := by decide +kernel
theorem d12_1 : Dc12 1 (.aload_n 1) 1 := by decide +kernel
theorem d12_2 : Dc12 2 (.iconst 0) 1 := by decide +kernel
theorem d12_3 : Dc12 3 (.aload_n 1) 1 := by decide +kernel
theorem d12_4 : Dc12 4 (.arraylength) 1 := by decide +kernel
theorem d12_5 : Dc12 5 (.aconst_null) 1 := by decide +kernel
theorem d12_6 : Dc12 6 (.invokespecial 27) 3 := by decide +kernel
theorem pd___CIILjava_lang_Void__V : parseMethodDescriptor "([CIILjava/lang/Void;)V" = some ⟨[(.array .char), .int, .int, (.object "java/lang/Void")], none⟩ := by decide +kernel
theorem d12_9 : Dc12 9 (.return_) 1 := by decide +kernel
def Q_si1L (Z : State) (a1 : Addr) (x : Addr) (kx : ClassId) (u0 : Int32) (u1 : Int32) (u2 : Int32) (cs : Int32) (fw : Value) (h0 : Heap) (n0 : Nat) (v : Option Value) (h : Heap) (L : List Loc) : Prop := v = none ∧ Fr n0 L ∧ ∃ (va : Addr) (kv : ClassId), Keep h0 h [a1] ∧ h0.size ≤ va ∧ Fld Z h a1 cN1 "value" "[B" (.ref va) ∧ Fld Z h a1 cN1 "coder" "B" (.int (0 : Int32)) ∧ OPg Z h va kv .byte (3 : Int32)
theorem rm_si1L (l : Launch) (Z : State) (a0 : Array Value) (hw : ∀ d ∈ tables_1, d.before a0 Z = true) (ws : List Jvm.Cond) (a1 : Addr) (x : Addr) (kx : ClassId) (u0 : Int32) (u1 : Int32) (u2 : Int32) (cs : Int32) (fw : Value) (h0 : Heap) (n0 : Nat) (Z0 : n0 ≤ h0.size) (hST : own_ST Z cs fw) (O_0 : Old Z n0 h0) (E_a1 : Exa Z h0 a1 cN1) (F_value_a1 : Fld Z h0 a1 cN1 "value" "[B" .null) (F_coder_a1 : Fld Z h0 a1 cN1 "coder" "B" (.int (0 : Int32))) (g_a1 : n0 ≤ a1) (ne_a1_x : a1 ≠ x) (V_x : OAr Z h0 x kx .char [(.int u0), (.int u1), (.int u2)]) (hn : ¬ own_w u0 u1 u2 (3 : Int32)) :
    oM l mN34 jdk_42_method_3_code 2 none ws ({ frames := 5, cells := 2, slots := 9, locals := 140 } : Room) #[(.ref a1), (.ref x)] Z h0 (Q_si1L Z a1 x kx u0 u1 u2 cs fw h0 n0) := by
  refine MetFree.of_bodySF (plainFor_of_name pn_java_lang_String) hisR ?_
  intro p e s m args below meth c s₁ Bd hml0 hP hK
  obtain ⟨rfl, hZ, hh⟩ := hP
  have hx := Bd.exec
  have hby := Bd.bytes
  have hml : c.maxLocals = 2 := hml0
  have hown : s.vm.findClass "java/lang/String" = some m.cls := findClass_of_methodNamed Bd.named
  have hnm := (name_of_methodNamed Bd.named Bd.method).1
  have X0 : Stand p l e ({ frames := 5, cells := 2, slots := 9, locals := 140 } : Room) s m #[(.ref a1), (.ref x)] below meth c s₁ [] 0 0 := Stand.of_body Bd
  have e0 : s₁.heap = h0 := by rw [← hh, Bd.state]; rfl
  have N0 := Fr.nil n0
  obtain ⟨A0, hA0⟩ : ∃ z, z = s₁.setTop (entryFrame m #[(.ref a1), (.ref x)] 2) := ⟨_, rfl⟩
  have K : OGo p e below A0 s₁ (mkF m 0 #[rv a1, rv x] []) := fun t k => hA0 ▸ castTop (ef_12 m a1 x) k
  obtain ⟨_, _, ⟨T1, L1, k1, n1⟩, -, X1, ⟨Lc1, hQ1, l1, y1, z1⟩, st1⟩ := X0.specialBack hx (y := mN33) rfl hown (mvT hZ (ow hw 81 rfl)) (mvT hZ (ow hw 82 rfl)) (mvT hZ (ow hw 84 rfl)) (by decide) (backOf (W := 0) (rm_si4L l Z a0 hw [] a1 x kx u0 u1 u2 cs fw h0 n0 Z0 hST O_0 E_a1 F_value_a1 F_coder_a1 g_a1 ne_a1_x V_x hn) hZ (ow hw 84 rfl) (ow hw 77 rfl) (by decide) (by decide)) (g := (mkF m 6 #[rv a1, rv x] [.null, (.int 3), (.int 0), (.ref x), (.ref a1)])) rfl (by rw [hml]; rfl) (Steps.refl _) (a := a1) (argsL := [(.ref x), (.int (0 : Int32)), (.int (3 : Int32)), .null]) (rest := []) (lenOf pd___CIILjava_lang_Void__V rfl) rfl (by show 2 * 0 + _ ≤ _; exact Nat.le_of_eq rfl) (hb hby d12_6) (fun _ _ => ⟨rfl, e0, (by decide : 0 + 2 ≤ _), (by decide : 0 + 9 ≤ _)⟩)
  dsimp only [Pt.U, Pt.locs, Pt.cells, Pt.slots] at X1 l1 y1 z1 st1 hQ1
  subst l1 y1 z1
  obtain ⟨hp1, e1⟩ : ∃ z, T1.heap = z := ⟨_, rfl⟩
  rw [e1] at hQ1
  obtain ⟨rfl, Nq1, va_1, kv_1, K1, P1_0, P1_1, P1_2, P1_3⟩ := hQ1
  have ne_a1_va_1 : a1 ≠ va_1 := Nat.ne_of_lt (Nat.lt_of_lt_of_le E_a1.lt P1_0)
  have ne_x_va_1 : x ≠ va_1 := Nat.ne_of_lt (Nat.lt_of_lt_of_le V_x.lt P1_0)
  have g_va_1 : n0 ≤ va_1 := Nat.le_trans Z0 P1_0
  have sz_va_1 : h0.size ≤ va_1 := Nat.le_trans (Keep.refl h0 [a1]).1 P1_0
  have Z1 : n0 ≤ hp1.size := Nat.le_trans Z0 K1.1
  have Kp1 : Keep h0 hp1 [a1] := (Keep.refl h0 [a1]).trans K1 (allS (Or.inl (List.mem_of_getElem? (i := 0) rfl)) all0)
  have N1 := Fr.app N0 Nq1
  replace K : OGo p e below A0 T1 (mkF m 9 #[rv a1, rv x] []) := fun t k => K t (XS.aloadN X0.here hx rfl (hb hby d12_0) rfl rfl (XS.aloadN X0.here hx rfl (hb hby d12_1) rfl rfl (XS.iconst X0.here hx rfl (hb hby d12_2) (XS.aloadN X0.here hx rfl (hb hby d12_3) rfl rfl (own_len X0 hx hZ e0 V_x (n := (3 : Int32)) rfl (g := (mkF m 4 #[rv a1, rv x] [(.ref x), (.int 0), (.ref x), (.ref a1)])) rfl rfl (hb hby d12_4) t (XS.aconstNull X0.here hx rfl (hb hby d12_5) (st1.trans k)))))))
  obtain ⟨fs, hr, hrun, hended, hW, hsame⟩ := X1.leave (v := none) (fun _ => rfl)
  subst hA0
  refine ⟨_, _, K _ (X1.returnOut hx Bd.returns (hb hby d12_9) hr), hrun, hended, _, _, rfl, ?_, ⟨_, rfl⟩, hW, hsame.mono (by decide) (by decide)⟩
  show Q_si1L Z a1 x kx u0 u1 u2 cs fw h0 n0 _ T1.heap _
  rw [e1]
  exact ⟨rfl, N1, va_1, kv_1, Kp1, sz_va_1, P1_1, P1_2, P1_3⟩
def Q_si4U (Z : State) (a1 : Addr) (x : Addr) (kx : ClassId) (u0 : Int32) (u1 : Int32) (u2 : Int32) (cs : Int32) (fw : Value) (h0 : Heap) (n0 : Nat) (v : Option Value) (h : Heap) (L : List Loc) : Prop := v = none ∧ Fr n0 L ∧ ∃ (va : Addr) (kv : ClassId), Keep h0 h [a1] ∧ h0.size ≤ va ∧ Fld Z h a1 cN1 "value" "[B" (.ref va) ∧ Fld Z h a1 cN1 "coder" "B" (.int (1 : Int32)) ∧ OAr Z h va kv .byte [(.int (own_b0 u0)), (.int (own_b1 u0)), (.int (own_b0 u1)), (.int (own_b1 u1)), (.int (own_b0 u2)), (.int (own_b1 u2))]
theorem rm_si4U (l : Launch) (Z : State) (a0 : Array Value) (hw : ∀ d ∈ tables_1, d.before a0 Z = true) (ws : List Jvm.Cond) (a1 : Addr) (x : Addr) (kx : ClassId) (u0 : Int32) (u1 : Int32) (u2 : Int32) (cs : Int32) (fw : Value) (h0 : Heap) (n0 : Nat) (Z0 : n0 ≤ h0.size) (hST : own_ST Z cs fw) (O_0 : Old Z n0 h0) (E_a1 : Exa Z h0 a1 cN1) (F_value_a1 : Fld Z h0 a1 cN1 "value" "[B" .null) (F_coder_a1 : Fld Z h0 a1 cN1 "coder" "B" (.int (0 : Int32))) (g_a1 : n0 ≤ a1) (ne_a1_x : a1 ≠ x) (V_x : OAr Z h0 x kx .char [(.int u0), (.int u1), (.int u2)]) (hn : own_w u0 u1 u2 (3 : Int32)) (hu : own_ch u0 u1 u2) :
    oM l mN33 jdk_42_method_149_code 6 none ws ({ frames := 4, cells := 2, slots := 9, locals := 112 } : Room) #[(.ref a1), (.ref x), (.int (0 : Int32)), (.int (3 : Int32)), .null] Z h0 (Q_si4U Z a1 x kx u0 u1 u2 cs fw h0 n0) := by
  refine MetFree.of_bodySF (plainFor_of_name pn_java_lang_String) hisR ?_
  intro p e s m args below meth c s₁ Bd hml0 hP hK
  obtain ⟨rfl, hZ, hh⟩ := hP
  have hx := Bd.exec
  have hby := Bd.bytes
  have hml : c.maxLocals = 6 := hml0
  have hown : s.vm.findClass "java/lang/String" = some m.cls := findClass_of_methodNamed Bd.named
  have hnm := (name_of_methodNamed Bd.named Bd.method).1
  have X0 : Stand p l e ({ frames := 4, cells := 2, slots := 9, locals := 112 } : Room) s m #[(.ref a1), (.ref x), (.int (0 : Int32)), (.int (3 : Int32)), .null] below meth c s₁ [] 0 0 := Stand.of_body Bd
  have e0 : s₁.heap = h0 := by rw [← hh, Bd.state]; rfl
  have N0 := Fr.nil n0
  obtain ⟨A0, hA0⟩ : ∃ z, z = s₁.setTop (entryFrame m #[(.ref a1), (.ref x), (.int (0 : Int32)), (.int (3 : Int32)), .null] 6) := ⟨_, rfl⟩
  have K : OGo p e below A0 s₁ (mkF m 0 #[rv a1, rv x, iv 0, iv 3, .val .null, .unset] []) := fun t k => hA0 ▸ castTop (ef_13_n4 m a1 x (0 : Int32) (3 : Int32)) k
  obtain ⟨T1, X1, e1, st1⟩ := initO X0 hx hZ hown (ow hw 85 rfl) (ow hw 8 rfl) (ow hw 9 rfl) e0 (g := (mkF m 1 #[rv a1, rv x, iv 0, iv 3, .val .null, .unset] [(.ref a1)])) rfl (by rw [hml]; rfl) rfl (hb hby d13_1) (by decide) (W := 0) (by show 2 * 0 + _ ≤ _; exact Nat.le_of_eq rfl) (by decide)
  obtain ⟨T2, X2, e2, st2⟩ := getS2 X1 hx hZ hown (host := "") (Or.inl (ow hw 86 rfl)) Via.refl e1 (hST.cs.ext O_0.2) (g := (mkF m 27 #[rv a1, rv x, iv 0, iv 3, .val .null, .unset] [])) rfl (hb hby d13_27)
  obtain ⟨_, _, ⟨T3, L3, k3, n3⟩, -, X3, ⟨Lc3, hQ3, l3, y3, z3⟩, st3⟩ := Jvm.LawKit.callS X2 hx (y := mN31) hown (mvT hZ (ow hw 87 rfl)) (mvT hZ (ow hw 88 rfl)) (mvT hZ (ow hw 89 rfl)) (mvT hZ (ow hw 90 rfl)) (by decide) (backOf (W := 0) (rm_comW l Z a0 hw [] x kx u0 u1 u2 cs fw h0 n0 Z0 hST O_0 V_x hn hu) hZ (ow hw 90 rfl) (ow hw 89 rfl) (by decide) (by decide)) (g := (mkF m 36 #[rv a1, rv x, iv 0, iv 3, .val .null, .unset] [(.int 3), (.int 0), (.ref x)])) rfl (by rw [hml]; rfl) (argsL := [(.ref x), (.int (0 : Int32)), (.int (3 : Int32))]) (rest := []) (lenOf pd___CII__B rfl) rfl (by show 2 * 0 + _ ≤ _; exact Nat.le_of_eq rfl) (hb hby d13_36) (fun _ _ => ⟨rfl, e2, (by decide : 0 + 2 ≤ _), (by decide : 0 + 9 ≤ _)⟩)
  dsimp only [Pt.U, Pt.locs, Pt.cells, Pt.slots] at X3 l3 y3 z3 st3 hQ3
  subst l3 y3 z3
  obtain ⟨hp3, e3⟩ : ∃ z, T3.heap = z := ⟨_, rfl⟩
  rw [e3] at hQ3
  obtain ⟨b_3, kb_3, rfl, Nq3, K3, P3_0, P3_1⟩ := hQ3
  have ne_a1_b_3 : a1 ≠ b_3 := Nat.ne_of_lt (Nat.lt_of_lt_of_le E_a1.lt P3_0)
  have ne_x_b_3 : x ≠ b_3 := Nat.ne_of_lt (Nat.lt_of_lt_of_le V_x.lt P3_0)
  have g_b_3 : n0 ≤ b_3 := Nat.le_trans Z0 P3_0
  have sz_b_3 : h0.size ≤ b_3 := Nat.le_trans (Keep.refl h0 [a1]).1 P3_0
  have Z3 : n0 ≤ hp3.size := Nat.le_trans Z0 K3.1
  have Kp3 : Keep h0 hp3 [a1] := (Keep.refl h0 [a1]).trans K3 all0
  have N3 := Fr.app N0 Nq3
  obtain ⟨_, _, ⟨T4, L4, k4, n4⟩, -, X4, ⟨Lc4, hQ4, l4, y4, z4⟩, st4⟩ := Jvm.LawKit.callS X3 hx (y := mN32) hown (mvT hZ (ow hw 94 rfl)) (mvT hZ (ow hw 95 rfl)) (mvT hZ (ow hw 89 rfl)) (mvT hZ (ow hw 96 rfl)) (by decide) (backOf (W := 1) (rm_cflU l Z a0 hw [] b_3 kb_3 u0 u1 u2 hp3 n0 Z3 P3_1) hZ (ow hw 96 rfl) (ow hw 89 rfl) (by decide) (by decide)) (g := (mkF m 45 #[rv a1, rv x, iv 0, iv 3, .val .null, rv b_3] [(.int 3), (.ref b_3), (.ref a1)])) rfl (by rw [hml]; rfl) (argsL := [(.ref b_3), (.int (3 : Int32))]) (rest := [(.ref a1)]) (lenOf pd___BI_B rfl) rfl (by show 2 * 0 + _ ≤ _; exact Nat.le_of_eq rfl) (hb hby d13_45) (fun _ _ => ⟨rfl, e3, (by decide : 2 + 0 ≤ _), (by decide : 9 + 0 ≤ _)⟩)
  dsimp only [Pt.U, Pt.locs, Pt.cells, Pt.slots] at X4 l4 y4 z4 st4 hQ4
  subst l4 y4 z4
  obtain ⟨rfl, Nq4, e4⟩ := hQ4
  have N4 := Fr.app N3 Nq4
  have F_coder_a1_5 := (F_coder_a1.keep K3 nin0)
  have E_a1_6 := (E_a1.keep K3)
  obtain ⟨T7, h7, X7, e7, W7, st7⟩ := putF X4 hx hZ hown (host := "") (Or.inl (ow hw 97 rfl)) Via.refl e4 F_coder_a1_5 E_a1_6 (Or.inr ⟨(ow hw 98 rfl), rfl, hnm⟩) (ow hw 76 rfl) (ty := .byte) (by decide) rfl rfl (g := (mkF m 48 #[rv a1, rv x, iv 0, iv 3, .val .null, rv b_3] [(.int 1), (.ref a1)])) rfl rfl (hb hby d13_48)
  have Z7 : n0 ≤ h7.size := Nat.le_trans Z3 (Keep.of_wr W7).1
  have Kp7 : Keep h0 h7 [a1] := Kp3.wr W7 (Or.inl (List.mem_of_getElem? (i := 0) rfl))
  have F_coder_a1_7 := F_coder_a1_5.same W7
  have N7 := Fr.snoc X7 N4 g_a1
  have F_value_a1_8 := ((F_value_a1.keep K3 nin0).other W7 (Or.inr (sn_cN1_value_coder hw)))
  have E_a1_9 := (E_a1_6.wr W7)
  obtain ⟨T10, h10, X10, e10, W10, st10⟩ := putF X7 hx hZ hown (host := "") (Or.inl (ow hw 99 rfl)) Via.refl e7 F_value_a1_8 E_a1_9 (Or.inr ⟨(ow hw 100 rfl), rfl, hnm⟩) (ow hw 76 rfl) (ty := (.array .byte)) (by decide) rfl rfl (g := (mkF m 54 #[rv a1, rv x, iv 0, iv 3, .val .null, rv b_3] [(.ref b_3), (.ref a1)])) rfl rfl (hb hby d13_54)
  have Z10 : n0 ≤ h10.size := Nat.le_trans Z7 (Keep.of_wr W10).1
  have Kp10 : Keep h0 h10 [a1] := Kp7.wr W10 (Or.inl (List.mem_of_getElem? (i := 0) rfl))
  have F_value_a1_10 := F_value_a1_8.same W10
  have N10 := Fr.snoc X10 N7 g_a1
  replace K : OGo p e below A0 T10 (mkF m 57 #[rv a1, rv x, iv 0, iv 3, .val .null, rv b_3] []) := fun t k => K t (XS.aloadN X0.here hx rfl (hb hby d13_0) rfl rfl (st1 t (XS.iloadN X1.here hx rfl (hb hby d13_4) rfl (XS.ifYes X1.here hx rfl (pc0 := 5) (pc' := 27) rfl (hb hby d13_5) rfl ((if0 _ _).trans (feq ((by decide : ¬ ((3 : Int32) = (0 : Int32))) : ¬ ((3 : Int32) = (0 : Int32)))).2) (by decide) (by decide) (st2 t (XS.ifNo X2.here hx rfl (hb hby d13_30) rfl ((if0 _ _).trans (feq (hST.cs0 : ¬ (cs = (0 : Int32)))).1) (XS.aloadN X2.here hx rfl (hb hby d13_33) rfl rfl (XS.iloadN X2.here hx rfl (hb hby d13_34) rfl (XS.iloadN X2.here hx rfl (hb hby d13_35) rfl (st3 t (XS.astore X3.here hx rfl (hb hby d13_39) rfl rfl (l' := #[rv a1, rv x, iv 0, iv 3, .val .null, rv b_3]) rfl (XS.aloadN X3.here hx rfl (hb hby d13_41) rfl rfl (XS.aload X3.here hx rfl (hb hby d13_42) rfl rfl (XS.iloadN X3.here hx rfl (hb hby d13_44) rfl (st4 t (st7 t (XS.aloadN X7.here hx rfl (hb hby d13_51) rfl rfl (XS.aload X7.here hx rfl (hb hby d13_52) rfl rfl (st10 t k)))))))))))))))))))
  have F_coder_a1_11 := (F_coder_a1_7.other W10 (Or.inr (sn_cN1_coder_value hw)))
  have V_b_3_12 := ((P3_1.other W7 (Ne.symm ne_a1_b_3)).other W10 (Ne.symm ne_a1_b_3))
  obtain ⟨fs, hr, hrun, hended, hW, hsame⟩ := X10.leave (v := none) (fun _ => rfl)
  subst hA0
  refine ⟨_, _, K _ (X10.returnOut hx Bd.returns (hb hby d13_57) hr), hrun, hended, _, _, rfl, ?_, ⟨_, rfl⟩, hW, hsame.mono (by decide) (by decide)⟩
  show Q_si4U Z a1 x kx u0 u1 u2 cs fw h0 n0 _ T10.heap _
  rw [e10]
  exact ⟨rfl, N10, b_3, kb_3, Kp10, sz_b_3, F_value_a1_10, F_coder_a1_11, V_b_3_12⟩
def Q_si1U (Z : State) (a1 : Addr) (x : Addr) (kx : ClassId) (u0 : Int32) (u1 : Int32) (u2 : Int32) (cs : Int32) (fw : Value) (h0 : Heap) (n0 : Nat) (v : Option Value) (h : Heap) (L : List Loc) : Prop := v = none ∧ Fr n0 L ∧ ∃ (va : Addr) (kv : ClassId), Keep h0 h [a1] ∧ h0.size ≤ va ∧ Fld Z h a1 cN1 "value" "[B" (.ref va) ∧ Fld Z h a1 cN1 "coder" "B" (.int (1 : Int32)) ∧ OAr Z h va kv .byte [(.int (own_b0 u0)), (.int (own_b1 u0)), (.int (own_b0 u1)), (.int (own_b1 u1)), (.int (own_b0 u2)), (.int (own_b1 u2))]
theorem rm_si1U (l : Launch) (Z : State) (a0 : Array Value) (hw : ∀ d ∈ tables_1, d.before a0 Z = true) (ws : List Jvm.Cond) (a1 : Addr) (x : Addr) (kx : ClassId) (u0 : Int32) (u1 : Int32) (u2 : Int32) (cs : Int32) (fw : Value) (h0 : Heap) (n0 : Nat) (Z0 : n0 ≤ h0.size) (hST : own_ST Z cs fw) (O_0 : Old Z n0 h0) (E_a1 : Exa Z h0 a1 cN1) (F_value_a1 : Fld Z h0 a1 cN1 "value" "[B" .null) (F_coder_a1 : Fld Z h0 a1 cN1 "coder" "B" (.int (0 : Int32))) (g_a1 : n0 ≤ a1) (ne_a1_x : a1 ≠ x) (V_x : OAr Z h0 x kx .char [(.int u0), (.int u1), (.int u2)]) (hn : own_w u0 u1 u2 (3 : Int32)) (hu : own_ch u0 u1 u2) :
    oM l mN34 jdk_42_method_3_code 2 none ws ({ frames := 5, cells := 2, slots := 9, locals := 140 } : Room) #[(.ref a1), (.ref x)] Z h0 (Q_si1U Z a1 x kx u0 u1 u2 cs fw h0 n0) := by
  refine MetFree.of_bodySF (plainFor_of_name pn_java_lang_String) hisR ?_
  intro p e s m args below meth c s₁ Bd hml0 hP hK
  obtain ⟨rfl, hZ, hh⟩ := hP
  have hx := Bd.exec
  have hby := Bd.bytes
  have hml : c.maxLocals = 2 := hml0
  have hown : s.vm.findClass "java/lang/String" = some m.cls := findClass_of_methodNamed Bd.named
  have hnm := (name_of_methodNamed Bd.named Bd.method).1
  have X0 : Stand p l e ({ frames := 5, cells := 2, slots := 9, locals := 140 } : Room) s m #[(.ref a1), (.ref x)] below meth c s₁ [] 0 0 := Stand.of_body Bd
  have e0 : s₁.heap = h0 := by rw [← hh, Bd.state]; rfl
  have N0 := Fr.nil n0
  obtain ⟨A0, hA0⟩ : ∃ z, z = s₁.setTop (entryFrame m #[(.ref a1), (.ref x)] 2) := ⟨_, rfl⟩
  have K : OGo p e below A0 s₁ (mkF m 0 #[rv a1, rv x] []) := fun t k => hA0 ▸ castTop (ef_12 m a1 x) k
  obtain ⟨_, _, ⟨T1, L1, k1, n1⟩, -, X1, ⟨Lc1, hQ1, l1, y1, z1⟩, st1⟩ := X0.specialBack hx (y := mN33) rfl hown (mvT hZ (ow hw 81 rfl)) (mvT hZ (ow hw 82 rfl)) (mvT hZ (ow hw 84 rfl)) (by decide) (backOf (W := 0) (rm_si4U l Z a0 hw [] a1 x kx u0 u1 u2 cs fw h0 n0 Z0 hST O_0 E_a1 F_value_a1 F_coder_a1 g_a1 ne_a1_x V_x hn hu) hZ (ow hw 84 rfl) (ow hw 77 rfl) (by decide) (by decide)) (g := (mkF m 6 #[rv a1, rv x] [.null, (.int 3), (.int 0), (.ref x), (.ref a1)])) rfl (by rw [hml]; rfl) (Steps.refl _) (a := a1) (argsL := [(.ref x), (.int (0 : Int32)), (.int (3 : Int32)), .null]) (rest := []) (lenOf pd___CIILjava_lang_Void__V rfl) rfl (by show 2 * 0 + _ ≤ _; exact Nat.le_of_eq rfl) (hb hby d12_6) (fun _ _ => ⟨rfl, e0, (by decide : 0 + 2 ≤ _), (by decide : 0 + 9 ≤ _)⟩)
  dsimp only [Pt.U, Pt.locs, Pt.cells, Pt.slots] at X1 l1 y1 z1 st1 hQ1
  subst l1 y1 z1
  obtain ⟨hp1, e1⟩ : ∃ z, T1.heap = z := ⟨_, rfl⟩
  rw [e1] at hQ1
  obtain ⟨rfl, Nq1, va_1, kv_1, K1, P1_0, P1_1, P1_2, P1_3⟩ := hQ1
  have ne_a1_va_1 : a1 ≠ va_1 := Nat.ne_of_lt (Nat.lt_of_lt_of_le E_a1.lt P1_0)
  have ne_x_va_1 : x ≠ va_1 := Nat.ne_of_lt (Nat.lt_of_lt_of_le V_x.lt P1_0)
  have g_va_1 : n0 ≤ va_1 := Nat.le_trans Z0 P1_0
  have sz_va_1 : h0.size ≤ va_1 := Nat.le_trans (Keep.refl h0 [a1]).1 P1_0
  have Z1 : n0 ≤ hp1.size := Nat.le_trans Z0 K1.1
  have Kp1 : Keep h0 hp1 [a1] := (Keep.refl h0 [a1]).trans K1 (allS (Or.inl (List.mem_of_getElem? (i := 0) rfl)) all0)
  have N1 := Fr.app N0 Nq1
  replace K : OGo p e below A0 T1 (mkF m 9 #[rv a1, rv x] []) := fun t k => K t (XS.aloadN X0.here hx rfl (hb hby d12_0) rfl rfl (XS.aloadN X0.here hx rfl (hb hby d12_1) rfl rfl (XS.iconst X0.here hx rfl (hb hby d12_2) (XS.aloadN X0.here hx rfl (hb hby d12_3) rfl rfl (own_len X0 hx hZ e0 V_x (n := (3 : Int32)) rfl (g := (mkF m 4 #[rv a1, rv x] [(.ref x), (.int 0), (.ref x), (.ref a1)])) rfl rfl (hb hby d12_4) t (XS.aconstNull X0.here hx rfl (hb hby d12_5) (st1.trans k)))))))
  obtain ⟨fs, hr, hrun, hended, hW, hsame⟩ := X1.leave (v := none) (fun _ => rfl)
  subst hA0
  refine ⟨_, _, K _ (X1.returnOut hx Bd.returns (hb hby d12_9) hr), hrun, hended, _, _, rfl, ?_, ⟨_, rfl⟩, hW, hsame.mono (by decide) (by decide)⟩
  show Q_si1U Z a1 x kx u0 u1 u2 cs fw h0 n0 _ T1.heap _
  rw [e1]
  exact ⟨rfl, N1, va_1, kv_1, Kp1, sz_va_1, P1_1, P1_2, P1_3⟩
theorem ef_43 (m : MethodId) (x0 : Addr) (x1 : Int32) (x2 : Addr) (x3 : Int32) (x4 : Int32) : entryFrame m #[(.ref x0), (.int x1), (.ref x2), (.int x3), (.int x4)] 6 = mkF m 0 #[.val (.ref x0), .val (.int x1), .val (.ref x2), .val (.int x3), .val (.int x4), .unset] [] := by first | (simp [entryFrame, mkF, argsToLocals, Value.category]; done) | rfl
abbrev Dc43 (i : Nat) (c : Instr) (k : Nat) : Prop := decode jdk_43_method_49_code i = .ok (c, k)
theorem d43_0 : Dc43 0 (.iconst 0) 1 := by decide +kernel
theorem d43_1 : Dc43 1 (.istore 5) 2 := by decide +kernel
theorem d43_3 : Dc43 3 (.iload 5) 2 := by decide +kernel
theorem d43_5 : Dc43 5 (.iload 4) 2 := by decide +kernel
theorem d43_7 : Dc43 7 (.if_icmp .ge 26) 3 := by decide +kernel
theorem d43_10 : Dc43 10 (.aload_n 2) 1 := by decide +kernel
theorem d43_11 : Dc43 11 (.iload_n 3) 1 := by decide +kernel
theorem d43_12 : Dc43 12 (.iinc 3 1) 3 := by decide +kernel
theorem d43_15 : Dc43 15 (.aload_n 0) 1 := by decide +kernel
theorem d43_16 : Dc43 16 (.iload_n 1) 1 := by decide +kernel
theorem d43_17 : Dc43 17 (.iinc 1 1) 3 := by decide +kernel
theorem d43_20 : Dc43 20 (.baload) 1 := by decide +kernel
theorem d43_21 : Dc43 21 (.sipush 255) 3 := by decide +kernel
theorem d43_24 : Dc43 24 (.iand) 1 := by decide +kernel
theorem d43_25 : Dc43 25 (.i2c) 1 := by decide +kernel
theorem d43_26 : Dc43 26 (.castore) 1 := by decide +kernel
theorem d43_27 : Dc43 27 (.iinc 5 1) 3 := by decide +kernel
theorem d43_30 : Dc43 30 (.goto (-27)) 3 := by decide +kernel
theorem d43_33 : Dc43 33 (.return_) 1 := by decide +kernel
def Q_infl (Z : State) (va : Addr) (pg : Addr) (p1 : Int32) (kv : ClassId) (kp : ClassId) (cap : Int32) (h0 : Heap) (n0 : Nat) (v : Option Value) (h : Heap) (L : List Loc) : Prop := v = none ∧ Fr n0 L ∧ Keep h0 h [pg] ∧ OPg Z h pg kp .char cap
theorem rm_infl (l : Launch) (Z : State) (a0 : Array Value) (hw : ∀ d ∈ tables_1, d.before a0 Z = true) (ws : List Jvm.Cond) (va : Addr) (pg : Addr) (p1 : Int32) (kv : ClassId) (kp : ClassId) (cap : Int32) (h0 : Heap) (n0 : Nat) (Z0 : n0 ≤ h0.size) (G_va : OPg Z h0 va kv .byte (3 : Int32)) (G_pg : OPg Z h0 pg kp .char cap) (g_pg : n0 ≤ pg) (ne_va_pg : va ≠ pg) (hi : 0 ≤ p1.toInt ∧ p1.toInt + 3 ≤ cap.toInt ∧ cap.toInt ≤ 15) :
    oM l mN35 jdk_43_method_49_code 6 none ws ({ frames := 0, cells := 0, slots := 0, locals := 0 } : Room) #[(.ref va), (.int (0 : Int32)), (.ref pg), (.int p1), (.int (3 : Int32))] Z h0 (Q_infl Z va pg p1 kv kp cap h0 n0) := by
  refine MetFree.of_bodySF (plainFor_of_name pn_java_lang_StringLatin1) hisR ?_
  intro p e s m args below meth c s₁ Bd hml0 hP hK
  obtain ⟨rfl, hZ, hh⟩ := hP
  have hx := Bd.exec
  have hby := Bd.bytes
  have hml : c.maxLocals = 6 := hml0
  have hown : s.vm.findClass "java/lang/StringLatin1" = some m.cls := findClass_of_methodNamed Bd.named
  have hnm := (name_of_methodNamed Bd.named Bd.method).1
  have X0 : Stand p l e ({ frames := 0, cells := 0, slots := 0, locals := 0 } : Room) s m #[(.ref va), (.int (0 : Int32)), (.ref pg), (.int p1), (.int (3 : Int32))] below meth c s₁ [] 0 0 := Stand.of_body Bd
  have e0 : s₁.heap = h0 := by rw [← hh, Bd.state]; rfl
  have N0 := Fr.nil n0
  obtain ⟨A0, hA0⟩ : ∃ z, z = s₁.setTop (entryFrame m #[(.ref va), (.int (0 : Int32)), (.ref pg), (.int p1), (.int (3 : Int32))] 6) := ⟨_, rfl⟩
  have K : OGo p e below A0 s₁ (mkF m 0 #[rv va, iv 0, rv pg, iv p1, iv 3, .unset] []) := fun t k => hA0 ▸ castTop (ef_43 m va (0 : Int32) pg p1 (3 : Int32)) k
  have oa1 := own_inc (i := p1) (by omega)
  have oa2 := own_inc (i := p1 + (1 : Int32)) (by omega)
  obtain ⟨w1, st1⟩ := own_ldBp X0 hx hZ e0 G_va (j := (0 : Int32)) (by decide) (by decide) (g := (mkF m 20 #[rv va, iv 1, rv pg, iv (p1 + (1 : Int32)), iv 3, iv 0] [(.int 0), (.ref va), (.int p1), (.ref pg)])) rfl rfl (hb hby d43_20)
  obtain ⟨T2, h2, X2, e2, W2, G2, st2⟩ := own_stCp X0 hx hZ e0 G_pg (j := p1) (own_nn (by omega)) (own_ltN (by omega)) (g := (mkF m 26 #[rv va, iv 1, rv pg, iv (p1 + (1 : Int32)), iv 3, iv 0] [(.int ((w1 &&& (255 : Int32)).toUInt32.toUInt16.toUInt32.toInt32)), (.int p1), (.ref pg)])) rfl rfl (hb hby d43_26)
  have Z2 : n0 ≤ h2.size := Nat.le_trans Z0 (Keep.of_wr W2).1
  have Kp2 : Keep h0 h2 [pg] := (Keep.refl h0 [pg]).wr W2 (Or.inl (List.mem_of_getElem? (i := 0) rfl))
  have N2 := Fr.snoc X2 N0 g_pg
  replace K : OGo p e below A0 T2 (mkF m 7 #[rv va, iv 1, rv pg, iv (p1 + (1 : Int32)), iv 3, iv 1] [(.int 3), (.int 1)]) := fun t k => K t (XS.iconst X0.here hx rfl (hb hby d43_0) (XS.istore X0.here hx rfl (hb hby d43_1) rfl (l' := #[rv va, iv 0, rv pg, iv p1, iv 3, iv 0]) rfl (XS.iload X0.here hx rfl (hb hby d43_3) rfl (XS.iload X0.here hx rfl (hb hby d43_5) rfl (XS.icmpNo X0.here hx rfl (hb hby d43_7) rfl (tlt ((by decide : (0 : Int32) < (3 : Int32)) : (0 : Int32) < (3 : Int32))).2.1 (XS.aloadN X0.here hx rfl (hb hby d43_10) rfl rfl (XS.iloadN X0.here hx rfl (hb hby d43_11) rfl (XS.iinc X0.here hx rfl (hb hby d43_12) rfl (l' := #[rv va, iv 0, rv pg, iv (p1 + (1 : Int32)), iv 3, iv 0]) rfl (XS.aloadN X0.here hx rfl (hb hby d43_15) rfl rfl (XS.iloadN X0.here hx rfl (hb hby d43_16) rfl (XS.iinc X0.here hx rfl (hb hby d43_17) rfl (l' := #[rv va, iv 1, rv pg, iv (p1 + (1 : Int32)), iv 3, iv 0]) rfl (st1 t (XS.sipush X0.here hx rfl (hb hby d43_21) (XS.iand X0.here hx rfl (hb hby d43_24) rfl (XS.i2c X0.here hx rfl (hb hby d43_25) rfl (st2 t (XS.iinc X2.here hx rfl (hb hby d43_27) rfl (l' := #[rv va, iv 1, rv pg, iv (p1 + (1 : Int32)), iv 3, iv 1]) rfl (XS.goto X2.here hx rfl (pc0 := 30) (pc' := 3) rfl (hb hby d43_30) (by decide) (by decide) (XS.iload X2.here hx rfl (hb hby d43_3) rfl (XS.iload X2.here hx rfl (hb hby d43_5) rfl k))))))))))))))))))))
  have G_va_3 := (G_va.other W2 ne_va_pg)
  obtain ⟨w4, st4⟩ := own_ldBp X2 hx hZ e2 G_va_3 (j := (1 : Int32)) (by decide) (by decide) (g := (mkF m 20 #[rv va, iv 2, rv pg, iv ((p1 + (1 : Int32)) + (1 : Int32)), iv 3, iv 1] [(.int 1), (.ref va), (.int (p1 + (1 : Int32))), (.ref pg)])) rfl rfl (hb hby d43_20)
  obtain ⟨T5, h5, X5, e5, W5, G5, st5⟩ := own_stCp X2 hx hZ e2 G2 (j := (p1 + (1 : Int32))) (own_nn (by omega)) (own_ltN (by omega)) (g := (mkF m 26 #[rv va, iv 2, rv pg, iv ((p1 + (1 : Int32)) + (1 : Int32)), iv 3, iv 1] [(.int ((w4 &&& (255 : Int32)).toUInt32.toUInt16.toUInt32.toInt32)), (.int (p1 + (1 : Int32))), (.ref pg)])) rfl rfl (hb hby d43_26)
  have Z5 : n0 ≤ h5.size := Nat.le_trans Z2 (Keep.of_wr W5).1
  have Kp5 : Keep h0 h5 [pg] := Kp2.wr W5 (Or.inl (List.mem_of_getElem? (i := 0) rfl))
  have N5 := Fr.snoc X5 N2 g_pg
  replace K : OGo p e below A0 T5 (mkF m 15 #[rv va, iv 2, rv pg, iv (((p1 + (1 : Int32)) + (1 : Int32)) + (1 : Int32)), iv 3, iv 2] [(.int ((p1 + (1 : Int32)) + (1 : Int32))), (.ref pg)]) := fun t k => K t (XS.icmpNo X2.here hx rfl (hb hby d43_7) rfl (tlt ((by decide : (1 : Int32) < (3 : Int32)) : (1 : Int32) < (3 : Int32))).2.1 (XS.aloadN X2.here hx rfl (hb hby d43_10) rfl rfl (XS.iloadN X2.here hx rfl (hb hby d43_11) rfl (XS.iinc X2.here hx rfl (hb hby d43_12) rfl (l' := #[rv va, iv 1, rv pg, iv ((p1 + (1 : Int32)) + (1 : Int32)), iv 3, iv 1]) rfl (XS.aloadN X2.here hx rfl (hb hby d43_15) rfl rfl (XS.iloadN X2.here hx rfl (hb hby d43_16) rfl (XS.iinc X2.here hx rfl (hb hby d43_17) rfl (l' := #[rv va, iv 2, rv pg, iv ((p1 + (1 : Int32)) + (1 : Int32)), iv 3, iv 1]) rfl (st4 t (XS.sipush X2.here hx rfl (hb hby d43_21) (XS.iand X2.here hx rfl (hb hby d43_24) rfl (XS.i2c X2.here hx rfl (hb hby d43_25) rfl (st5 t (XS.iinc X5.here hx rfl (hb hby d43_27) rfl (l' := #[rv va, iv 2, rv pg, iv ((p1 + (1 : Int32)) + (1 : Int32)), iv 3, iv 2]) rfl (XS.goto X5.here hx rfl (pc0 := 30) (pc' := 3) rfl (hb hby d43_30) (by decide) (by decide) (XS.iload X5.here hx rfl (hb hby d43_3) rfl (XS.iload X5.here hx rfl (hb hby d43_5) rfl (XS.icmpNo X5.here hx rfl (hb hby d43_7) rfl (tlt ((by decide : (2 : Int32) < (3 : Int32)) : (2 : Int32) < (3 : Int32))).2.1 (XS.aloadN X5.here hx rfl (hb hby d43_10) rfl rfl (XS.iloadN X5.here hx rfl (hb hby d43_11) rfl (XS.iinc X5.here hx rfl (hb hby d43_12) rfl (l' := #[rv va, iv 2, rv pg, iv (((p1 + (1 : Int32)) + (1 : Int32)) + (1 : Int32)), iv 3, iv 2]) rfl k))))))))))))))))))))
  have G_va_6 := (G_va_3.other W5 ne_va_pg)
  obtain ⟨w7, st7⟩ := own_ldBp X5 hx hZ e5 G_va_6 (j := (2 : Int32)) (by decide) (by decide) (g := (mkF m 20 #[rv va, iv 3, rv pg, iv (((p1 + (1 : Int32)) + (1 : Int32)) + (1 : Int32)), iv 3, iv 2] [(.int 2), (.ref va), (.int ((p1 + (1 : Int32)) + (1 : Int32))), (.ref pg)])) rfl rfl (hb hby d43_20)
  obtain ⟨T8, h8, X8, e8, W8, G8, st8⟩ := own_stCp X5 hx hZ e5 G5 (j := ((p1 + (1 : Int32)) + (1 : Int32))) (own_nn (by omega)) (own_ltN (by omega)) (g := (mkF m 26 #[rv va, iv 3, rv pg, iv (((p1 + (1 : Int32)) + (1 : Int32)) + (1 : Int32)), iv 3, iv 2] [(.int ((w7 &&& (255 : Int32)).toUInt32.toUInt16.toUInt32.toInt32)), (.int ((p1 + (1 : Int32)) + (1 : Int32))), (.ref pg)])) rfl rfl (hb hby d43_26)
  have Z8 : n0 ≤ h8.size := Nat.le_trans Z5 (Keep.of_wr W8).1
  have Kp8 : Keep h0 h8 [pg] := Kp5.wr W8 (Or.inl (List.mem_of_getElem? (i := 0) rfl))
  have N8 := Fr.snoc X8 N5 g_pg
  replace K : OGo p e below A0 T8 (mkF m 33 #[rv va, iv 3, rv pg, iv (((p1 + (1 : Int32)) + (1 : Int32)) + (1 : Int32)), iv 3, iv 3] []) := fun t k => K t (XS.aloadN X5.here hx rfl (hb hby d43_15) rfl rfl (XS.iloadN X5.here hx rfl (hb hby d43_16) rfl (XS.iinc X5.here hx rfl (hb hby d43_17) rfl (l' := #[rv va, iv 3, rv pg, iv (((p1 + (1 : Int32)) + (1 : Int32)) + (1 : Int32)), iv 3, iv 2]) rfl (st7 t (XS.sipush X5.here hx rfl (hb hby d43_21) (XS.iand X5.here hx rfl (hb hby d43_24) rfl (XS.i2c X5.here hx rfl (hb hby d43_25) rfl (st8 t (XS.iinc X8.here hx rfl (hb hby d43_27) rfl (l' := #[rv va, iv 3, rv pg, iv (((p1 + (1 : Int32)) + (1 : Int32)) + (1 : Int32)), iv 3, iv 3]) rfl (XS.goto X8.here hx rfl (pc0 := 30) (pc' := 3) rfl (hb hby d43_30) (by decide) (by decide) (XS.iload X8.here hx rfl (hb hby d43_3) rfl (XS.iload X8.here hx rfl (hb hby d43_5) rfl (XS.icmpYes X8.here hx rfl (pc0 := 7) (pc' := 33) rfl (hb hby d43_7) rfl (flt ((by decide : ¬ ((3 : Int32) < (3 : Int32))) : ¬ ((3 : Int32) < (3 : Int32)))).2.1 (by decide) (by decide) k)))))))))))))
  obtain ⟨fs, hr, hrun, hended, hW, hsame⟩ := X8.leave (v := none) (fun _ => rfl)
  subst hA0
  refine ⟨_, _, K _ (X8.returnOut hx Bd.returns (hb hby d43_33) hr), hrun, hended, _, _, rfl, ?_, ⟨_, rfl⟩, hW, hsame.mono (by decide) (by decide)⟩
  show Q_infl Z va pg p1 kv kp cap h0 n0 _ T8.heap _
  rw [e8]
  exact ⟨rfl, N8, Kp8, G8⟩
theorem ef_42 (m : MethodId) (x0 : Addr) (x1 : Int32) (x2 : Int32) (x3 : Addr) (x4 : Int32) : entryFrame m #[(.ref x0), (.int x1), (.int x2), (.ref x3), (.int x4)] 5 = mkF m 0 #[.val (.ref x0), .val (.int x1), .val (.int x2), .val (.ref x3), .val (.int x4)] [] := by first | (simp [entryFrame, mkF, argsToLocals, Value.category]; done) | rfl
abbrev Dc42 (i : Nat) (c : Instr) (k : Nat) : Prop := decode jdk_43_method_11_code i = .ok (c, k)
theorem d42_0 : Dc42 0 (.aload_n 0) 1 := by decide +kernel
theorem d42_1 : Dc42 1 (.iload_n 1) 1 := by decide +kernel
theorem d42_2 : Dc42 2 (.aload_n 3) 1 := by decide +kernel
theorem d42_3 : Dc42 3 (.iload 4) 2 := by decide +kernel
theorem d42_5 : Dc42 5 (.iload_n 2) 1 := by decide +kernel
theorem d42_6 : Dc42 6 (.iload_n 1) 1 := by decide +kernel
theorem d42_7 : Dc42 7 (.isub) 1 := by decide +kernel
theorem d42_8 : Dc42 8 (.invokestatic 13) 3 := by decide +kernel
theorem pd___BI_CII_V : parseMethodDescriptor "([BI[CII)V" = some ⟨[(.array .byte), .int, (.array .char), .int, .int], none⟩ := by decide +kernel
theorem d42_11 : Dc42 11 (.return_) 1 := by decide +kernel
def Q_gcL1 (Z : State) (va : Addr) (pg : Addr) (p1 : Int32) (kv : ClassId) (kp : ClassId) (cap : Int32) (h0 : Heap) (n0 : Nat) (v : Option Value) (h : Heap) (L : List Loc) : Prop := v = none ∧ Fr n0 L ∧ Keep h0 h [pg] ∧ OPg Z h pg kp .char cap
theorem rm_gcL1 (l : Launch) (Z : State) (a0 : Array Value) (hw : ∀ d ∈ tables_1, d.before a0 Z = true) (ws : List Jvm.Cond) (va : Addr) (pg : Addr) (p1 : Int32) (kv : ClassId) (kp : ClassId) (cap : Int32) (h0 : Heap) (n0 : Nat) (Z0 : n0 ≤ h0.size) (G_va : OPg Z h0 va kv .byte (3 : Int32)) (G_pg : OPg Z h0 pg kp .char cap) (g_pg : n0 ≤ pg) (ne_va_pg : va ≠ pg) (hi : 0 ≤ p1.toInt ∧ p1.toInt + 3 ≤ cap.toInt ∧ cap.toInt ≤ 15) :
    oM l mN36 jdk_43_method_11_code 5 none ws ({ frames := 1, cells := 0, slots := 0, locals := 28 } : Room) #[(.ref va), (.int (0 : Int32)), (.int (3 : Int32)), (.ref pg), (.int p1)] Z h0 (Q_gcL1 Z va pg p1 kv kp cap h0 n0) := by
  refine MetFree.of_bodySF (plainFor_of_name pn_java_lang_StringLatin1) hisR ?_
  intro p e s m args below meth c s₁ Bd hml0 hP hK
  obtain ⟨rfl, hZ, hh⟩ := hP
  have hx := Bd.exec
  have hby := Bd.bytes
  have hml : c.maxLocals = 5 := hml0
  have hown : s.vm.findClass "java/lang/StringLatin1" = some m.cls := findClass_of_methodNamed Bd.named
  have hnm := (name_of_methodNamed Bd.named Bd.method).1
  have X0 : Stand p l e ({ frames := 1, cells := 0, slots := 0, locals := 28 } : Room) s m #[(.ref va), (.int (0 : Int32)), (.int (3 : Int32)), (.ref pg), (.int p1)] below meth c s₁ [] 0 0 := Stand.of_body Bd
  have e0 : s₁.heap = h0 := by rw [← hh, Bd.state]; rfl
  have N0 := Fr.nil n0
  obtain ⟨A0, hA0⟩ : ∃ z, z = s₁.setTop (entryFrame m #[(.ref va), (.int (0 : Int32)), (.int (3 : Int32)), (.ref pg), (.int p1)] 5) := ⟨_, rfl⟩
  have K : OGo p e below A0 s₁ (mkF m 0 #[rv va, iv 0, iv 3, rv pg, iv p1] []) := fun t k => hA0 ▸ castTop (ef_42 m va (0 : Int32) (3 : Int32) pg p1) k
  obtain ⟨_, _, ⟨T1, L1, k1, n1⟩, -, X1, ⟨Lc1, hQ1, l1, y1, z1⟩, st1⟩ := Jvm.LawKit.callS X0 hx (y := mN35) hown (mvT hZ (ow hw 206 rfl)) (mvT hZ (ow hw 207 rfl)) (mvT hZ (ow hw 128 rfl)) (mvT hZ (ow hw 208 rfl)) (by decide) (backOf (W := 0) (rm_infl l Z a0 hw [] va pg p1 kv kp cap h0 n0 Z0 G_va G_pg g_pg ne_va_pg hi) hZ (ow hw 208 rfl) (ow hw 128 rfl) (by decide) (by decide)) (g := (mkF m 8 #[rv va, iv 0, iv 3, rv pg, iv p1] [(.int 3), (.int p1), (.ref pg), (.int 0), (.ref va)])) rfl (by rw [hml]; rfl) (argsL := [(.ref va), (.int (0 : Int32)), (.ref pg), (.int p1), (.int (3 : Int32))]) (rest := []) (lenOf pd___BI_CII_V rfl) rfl (by show 2 * 0 + _ ≤ _; exact Nat.le_of_eq rfl) (hb hby d42_8) (fun _ _ => ⟨rfl, e0, (by decide : 0 + 0 ≤ _), (by decide : 0 + 0 ≤ _)⟩)
  dsimp only [Pt.U, Pt.locs, Pt.cells, Pt.slots] at X1 l1 y1 z1 st1 hQ1
  subst l1 y1 z1
  obtain ⟨hp1, e1⟩ : ∃ z, T1.heap = z := ⟨_, rfl⟩
  rw [e1] at hQ1
  obtain ⟨rfl, Nq1, K1, P1_0⟩ := hQ1
  have Z1 : n0 ≤ hp1.size := Nat.le_trans Z0 K1.1
  have Kp1 : Keep h0 hp1 [pg] := (Keep.refl h0 [pg]).trans K1 (allS (Or.inl (List.mem_of_getElem? (i := 0) rfl)) all0)
  have N1 := Fr.app N0 Nq1
  replace K : OGo p e below A0 T1 (mkF m 11 #[rv va, iv 0, iv 3, rv pg, iv p1] []) := fun t k => K t (XS.aloadN X0.here hx rfl (hb hby d42_0) rfl rfl (XS.iloadN X0.here hx rfl (hb hby d42_1) rfl (XS.aloadN X0.here hx rfl (hb hby d42_2) rfl rfl (XS.iload X0.here hx rfl (hb hby d42_3) rfl (XS.iloadN X0.here hx rfl (hb hby d42_5) rfl (XS.iloadN X0.here hx rfl (hb hby d42_6) rfl (XS.isub X0.here hx rfl (hb hby d42_7) rfl (st1 t k))))))))
  obtain ⟨fs, hr, hrun, hended, hW, hsame⟩ := X1.leave (v := none) (fun _ => rfl)
  subst hA0
  refine ⟨_, _, K _ (X1.returnOut hx Bd.returns (hb hby d42_11) hr), hrun, hended, _, _, rfl, ?_, ⟨_, rfl⟩, hW, hsame.mono (by decide) (by decide)⟩
  show Q_gcL1 Z va pg p1 kv kp cap h0 n0 _ T1.heap _
  rw [e1]
  exact ⟨rfl, N1, Kp1, P1_0⟩
theorem ef_36 (m : MethodId) (x0 : Addr) (x1 : Int32) (x2 : Int32) (x3 : Addr) (x4 : Int32) : entryFrame m #[(.ref x0), (.int x1), (.int x2), (.ref x3), (.int x4)] 6 = mkF m 0 #[.val (.ref x0), .val (.int x1), .val (.int x2), .val (.ref x3), .val (.int x4), .unset] [] := by first | (simp [entryFrame, mkF, argsToLocals, Value.category]; done) | rfl
abbrev Dc36 (i : Nat) (c : Instr) (k : Nat) : Prop := decode jdk_52_method_26_code i = .ok (c, k)
theorem d36_0 : Dc36 0 (.iload_n 1) 1 := by decide +kernel
theorem d36_1 : Dc36 1 (.iload_n 2) 1 := by decide +kernel
theorem d36_2 : Dc36 2 (.if_icmp .ge 11) 3 := by decide +kernel
theorem d36_5 : Dc36 5 (.iload_n 1) 1 := by decide +kernel
theorem d36_6 : Dc36 6 (.iload_n 2) 1 := by decide +kernel
theorem d36_7 : Dc36 7 (.iload_n 1) 1 := by decide +kernel
theorem d36_8 : Dc36 8 (.isub) 1 := by decide +kernel
theorem d36_9 : Dc36 9 (.aload_n 0) 1 := by decide +kernel
theorem d36_10 : Dc36 10 (.invokestatic 173) 3 := by decide +kernel
theorem pd__II_B_V : parseMethodDescriptor "(II[B)V" = some ⟨[.int, .int, (.array .byte)], none⟩ := by decide +kernel
theorem d36_13 : Dc36 13 (.iload_n 1) 1 := by decide +kernel
theorem d36_14 : Dc36 14 (.istore 5) 2 := by decide +kernel
theorem d36_16 : Dc36 16 (.iload 5) 2 := by decide +kernel
theorem d36_18 : Dc36 18 (.iload_n 2) 1 := by decide +kernel
theorem d36_19 : Dc36 19 (.if_icmp .ge 22) 3 := by decide +kernel
theorem d36_22 : Dc36 22 (.aload_n 3) 1 := by decide +kernel
theorem d36_23 : Dc36 23 (.iload 4) 2 := by decide +kernel
theorem d36_25 : Dc36 25 (.iinc 4 1) 3 := by decide +kernel
theorem d36_28 : Dc36 28 (.aload_n 0) 1 := by decide +kernel
theorem d36_29 : Dc36 29 (.iload 5) 2 := by decide +kernel
theorem d36_31 : Dc36 31 (.invokestatic 71) 3 := by decide +kernel
theorem d36_34 : Dc36 34 (.castore) 1 := by decide +kernel
theorem d36_35 : Dc36 35 (.iinc 5 1) 3 := by decide +kernel
theorem d36_38 : Dc36 38 (.goto (-22)) 3 := by decide +kernel
theorem d36_41 : Dc36 41 (.return_) 1 := by decide +kernel
def Q_gc16 (Z : State) (va : Addr) (p1 : Int32) (pg : Addr) (p2 : Int32) (kv : ClassId) (u0 : Int32) (u1 : Int32) (u2 : Int32) (kp : ClassId) (cap : Int32) (cs : Int32) (fw : Value) (h0 : Heap) (n0 : Nat) (v : Option Value) (h : Heap) (L : List Loc) : Prop := v = none ∧ Fr n0 L ∧ Keep h0 h [pg] ∧ OPg Z h pg kp .char cap
theorem rm_gc16 (l : Launch) (Z : State) (a0 : Array Value) (hw : ∀ d ∈ tables_1, d.before a0 Z = true) (ws : List Jvm.Cond) (va : Addr) (p1 : Int32) (pg : Addr) (p2 : Int32) (kv : ClassId) (u0 : Int32) (u1 : Int32) (u2 : Int32) (kp : ClassId) (cap : Int32) (cs : Int32) (fw : Value) (h0 : Heap) (n0 : Nat) (Z0 : n0 ≤ h0.size) (hST : own_ST Z cs fw) (O_0 : Old Z n0 h0) (V_va : OAr Z h0 va kv .byte [(.int (own_b0 u0)), (.int (own_b1 u0)), (.int (own_b0 u1)), (.int (own_b1 u1)), (.int (own_b0 u2)), (.int (own_b1 u2))]) (G_pg : OPg Z h0 pg kp .char cap) (g_pg : n0 ≤ pg) (ne_va_pg : va ≠ pg) (hi : 0 ≤ p1.toInt ∧ p1.toInt < 3) (hp : 0 ≤ p2.toInt ∧ p2.toInt + (3 - p1.toInt) ≤ cap.toInt ∧ cap.toInt ≤ 15) (hu : own_ch u0 u1 u2) :
    oM l mN37 jdk_52_method_26_code 6 none ws ({ frames := 3, cells := 0, slots := 0, locals := 84 } : Room) #[(.ref va), (.int p1), (.int (3 : Int32)), (.ref pg), (.int p2)] Z h0 (Q_gc16 Z va p1 pg p2 kv u0 u1 u2 kp cap cs fw h0 n0) := by
  refine MetFree.of_bodySF (plainFor_of_name pn_java_lang_StringUTF16) hisR ?_
  intro p e s m args below meth c s₁ Bd hml0 hP hK
  obtain ⟨rfl, hZ, hh⟩ := hP
  have hx := Bd.exec
  have hby := Bd.bytes
  have hml : c.maxLocals = 6 := hml0
  have hown : s.vm.findClass "java/lang/StringUTF16" = some m.cls := findClass_of_methodNamed Bd.named
  have hnm := (name_of_methodNamed Bd.named Bd.method).1
  have X0 : Stand p l e ({ frames := 3, cells := 0, slots := 0, locals := 84 } : Room) s m #[(.ref va), (.int p1), (.int (3 : Int32)), (.ref pg), (.int p2)] below meth c s₁ [] 0 0 := Stand.of_body Bd
  have e0 : s₁.heap = h0 := by rw [← hh, Bd.state]; rfl
  have N0 := Fr.nil n0
  obtain ⟨A0, hA0⟩ : ∃ z, z = s₁.setTop (entryFrame m #[(.ref va), (.int p1), (.int (3 : Int32)), (.ref pg), (.int p2)] 6) := ⟨_, rfl⟩
  have K : OGo p e below A0 s₁ (mkF m 0 #[rv va, iv p1, iv 3, rv pg, iv p2, .unset] []) := fun t k => hA0 ▸ castTop (ef_36 m va p1 (3 : Int32) pg p2) k
  have oa1 := own_inc (i := p2) (by omega)
  have oa2 := own_inc (i := p2 + (1 : Int32)) (by omega)
  have oz := own_012
  by_cases hi0 : p1 = (0 : Int32)
  · rw [hi0] at K
    obtain ⟨_, _, ⟨T1, L1, k1, n1⟩, -, X1, ⟨Lc1, hQ1, l1, y1, z1⟩, st1⟩ := Jvm.LawKit.callS X0 hx (y := mN20) hown (mvT hZ (ow hw 186 rfl)) (mvT hZ (ow hw 187 rfl)) (mvT hZ (ow hw 89 rfl)) (mvT hZ (ow hw 188 rfl)) (by decide) (backOf (W := 0) (rm_coc16 l Z a0 hw [] (0 : Int32) (3 : Int32) va kv u0 u1 u2 cs fw h0 n0 Z0 hST O_0 V_va (by unfold own_oc; decide)) hZ (ow hw 188 rfl) (ow hw 89 rfl) (by decide) (by decide)) (g := (mkF m 10 #[rv va, iv 0, iv 3, rv pg, iv p2, .unset] [(.ref va), (.int 3), (.int 0)])) rfl (by rw [hml]; rfl) (argsL := [(.int (0 : Int32)), (.int (3 : Int32)), (.ref va)]) (rest := []) (lenOf pd__II_B_V rfl) rfl (by show 2 * 0 + _ ≤ _; exact Nat.le_of_eq rfl) (hb hby d36_10) (fun _ _ => ⟨rfl, e0, (by decide : 0 + 0 ≤ _), (by decide : 0 + 0 ≤ _)⟩)
    dsimp only [Pt.U, Pt.locs, Pt.cells, Pt.slots] at X1 l1 y1 z1 st1 hQ1
    subst l1 y1 z1
    obtain ⟨rfl, Nq1, e1⟩ := hQ1
    have N1 := Fr.app N0 Nq1
    obtain ⟨_, _, ⟨T2, L2, k2, n2⟩, -, X2, ⟨Lc2, hQ2, l2, y2, z2⟩, st2⟩ := Jvm.LawKit.callS X1 hx (y := mN23) hown (mvT hZ (ow hw 162 rfl)) (mvT hZ (ow hw 163 rfl)) (mvT hZ (ow hw 89 rfl)) (mvT hZ (ow hw 164 rfl)) (by decide) (backOf (W := 2) (rm_getC l Z a0 hw [] va (0 : Int32) kv u0 u1 u2 cs fw h0 n0 Z0 hST O_0 V_va (by decide) hu) hZ (ow hw 164 rfl) (ow hw 89 rfl) (by decide) (by decide)) (g := (mkF m 31 #[rv va, iv 0, iv 3, rv pg, iv (p2 + (1 : Int32)), iv 0] [(.int 0), (.ref va), (.int p2), (.ref pg)])) rfl (by rw [hml]; rfl) (argsL := [(.ref va), (.int (0 : Int32))]) (rest := [(.int p2), (.ref pg)]) (lenOf pd___BI_C rfl) rfl (by show 2 * 0 + _ ≤ _; exact Nat.le_of_eq rfl) (hb hby d36_31) (fun _ _ => ⟨rfl, e1, (by decide : 0 + 0 ≤ _), (by decide : 0 + 0 ≤ _)⟩)
    dsimp only [Pt.U, Pt.locs, Pt.cells, Pt.slots] at X2 l2 y2 z2 st2 hQ2
    subst l2 y2 z2
    obtain ⟨rfl, Nq2, e2⟩ := hQ2
    have N2 := Fr.app N1 Nq2
    replace K : OGo p e below A0 T2 (mkF m 34 #[rv va, iv 0, iv 3, rv pg, iv (p2 + (1 : Int32)), iv 0] [(.int (own_at u0 u1 u2 (0 : Int32))), (.int p2), (.ref pg)]) := fun t k => K t (XS.iloadN X0.here hx rfl (hb hby d36_0) rfl (XS.iloadN X0.here hx rfl (hb hby d36_1) rfl (XS.icmpNo X0.here hx rfl (hb hby d36_2) rfl (tlt ((by decide : (0 : Int32) < (3 : Int32)) : (0 : Int32) < (3 : Int32))).2.1 (XS.iloadN X0.here hx rfl (hb hby d36_5) rfl (XS.iloadN X0.here hx rfl (hb hby d36_6) rfl (XS.iloadN X0.here hx rfl (hb hby d36_7) rfl (XS.isub X0.here hx rfl (hb hby d36_8) rfl (XS.aloadN X0.here hx rfl (hb hby d36_9) rfl rfl (st1 t (XS.iloadN X1.here hx rfl (hb hby d36_13) rfl (XS.istore X1.here hx rfl (hb hby d36_14) rfl (l' := #[rv va, iv 0, iv 3, rv pg, iv p2, iv 0]) rfl (XS.iload X1.here hx rfl (hb hby d36_16) rfl (XS.iloadN X1.here hx rfl (hb hby d36_18) rfl (XS.icmpNo X1.here hx rfl (hb hby d36_19) rfl (tlt ((by decide : (0 : Int32) < (3 : Int32)) : (0 : Int32) < (3 : Int32))).2.1 (XS.aloadN X1.here hx rfl (hb hby d36_22) rfl rfl (XS.iload X1.here hx rfl (hb hby d36_23) rfl (XS.iinc X1.here hx rfl (hb hby d36_25) rfl (l' := #[rv va, iv 0, iv 3, rv pg, iv (p2 + (1 : Int32)), iv 0]) rfl (XS.aloadN X1.here hx rfl (hb hby d36_28) rfl rfl (XS.iload X1.here hx rfl (hb hby d36_29) rfl (st2 t k))))))))))))))))))))
    obtain ⟨T3, h3, X3, e3, W3, G3, st3⟩ := own_stCp X2 hx hZ e2 G_pg (j := p2) (own_nn (by rw [hi0] at hp; omega)) (own_ltN (by rw [hi0] at hp; omega)) (g := (mkF m 34 #[rv va, iv 0, iv 3, rv pg, iv (p2 + (1 : Int32)), iv 0] [(.int (own_at u0 u1 u2 (0 : Int32))), (.int p2), (.ref pg)])) rfl rfl (hb hby d36_34)
    have Z3 : n0 ≤ h3.size := Nat.le_trans Z0 (Keep.of_wr W3).1
    have Kp3 : Keep h0 h3 [pg] := (Keep.refl h0 [pg]).wr W3 (Or.inl (List.mem_of_getElem? (i := 0) rfl))
    have N3 := Fr.snoc X3 N2 g_pg
    have O_5 := (O_0.wr W3 g_pg)
    have V_va_6 := (V_va.other W3 ne_va_pg)
    obtain ⟨_, _, ⟨T4, L4, k4, n4⟩, -, X4, ⟨Lc4, hQ4, l4, y4, z4⟩, st4⟩ := Jvm.LawKit.callS X3 hx (y := mN23) hown (mvT hZ (ow hw 162 rfl)) (mvT hZ (ow hw 163 rfl)) (mvT hZ (ow hw 89 rfl)) (mvT hZ (ow hw 164 rfl)) (by decide) (backOf (W := 2) (rm_getC l Z a0 hw [] va (1 : Int32) kv u0 u1 u2 cs fw h3 n0 Z3 hST O_5 V_va_6 (by decide) hu) hZ (ow hw 164 rfl) (ow hw 89 rfl) (by decide) (by decide)) (g := (mkF m 31 #[rv va, iv 0, iv 3, rv pg, iv ((p2 + (1 : Int32)) + (1 : Int32)), iv 1] [(.int 1), (.ref va), (.int (p2 + (1 : Int32))), (.ref pg)])) rfl (by rw [hml]; rfl) (argsL := [(.ref va), (.int (1 : Int32))]) (rest := [(.int (p2 + (1 : Int32))), (.ref pg)]) (lenOf pd___BI_C rfl) rfl (by show 2 * 0 + _ ≤ _; exact Nat.le_of_eq rfl) (hb hby d36_31) (fun _ _ => ⟨rfl, e3, (by decide : 0 + 0 ≤ _), (by decide : 0 + 0 ≤ _)⟩)
    dsimp only [Pt.U, Pt.locs, Pt.cells, Pt.slots] at X4 l4 y4 z4 st4 hQ4
    subst l4 y4 z4
    obtain ⟨rfl, Nq4, e4⟩ := hQ4
    have N4 := Fr.app N3 Nq4
    obtain ⟨T7, h7, X7, e7, W7, G7, st7⟩ := own_stCp X4 hx hZ e4 G3 (j := (p2 + (1 : Int32))) (own_nn (by rw [hi0] at hp; omega)) (own_ltN (by rw [hi0] at hp; omega)) (g := (mkF m 34 #[rv va, iv 0, iv 3, rv pg, iv ((p2 + (1 : Int32)) + (1 : Int32)), iv 1] [(.int (own_at u0 u1 u2 (1 : Int32))), (.int (p2 + (1 : Int32))), (.ref pg)])) rfl rfl (hb hby d36_34)
    have Z7 : n0 ≤ h7.size := Nat.le_trans Z3 (Keep.of_wr W7).1
    have Kp7 : Keep h0 h7 [pg] := Kp3.wr W7 (Or.inl (List.mem_of_getElem? (i := 0) rfl))
    have N7 := Fr.snoc X7 N4 g_pg
    replace K : OGo p e below A0 T7 (mkF m 25 #[rv va, iv 0, iv 3, rv pg, iv ((p2 + (1 : Int32)) + (1 : Int32)), iv 2] [(.int ((p2 + (1 : Int32)) + (1 : Int32))), (.ref pg)]) := fun t k => K t (st3 t (XS.iinc X3.here hx rfl (hb hby d36_35) rfl (l' := #[rv va, iv 0, iv 3, rv pg, iv (p2 + (1 : Int32)), iv 1]) rfl (XS.goto X3.here hx rfl (pc0 := 38) (pc' := 16) rfl (hb hby d36_38) (by decide) (by decide) (XS.iload X3.here hx rfl (hb hby d36_16) rfl (XS.iloadN X3.here hx rfl (hb hby d36_18) rfl (XS.icmpNo X3.here hx rfl (hb hby d36_19) rfl (tlt ((by decide : (1 : Int32) < (3 : Int32)) : (1 : Int32) < (3 : Int32))).2.1 (XS.aloadN X3.here hx rfl (hb hby d36_22) rfl rfl (XS.iload X3.here hx rfl (hb hby d36_23) rfl (XS.iinc X3.here hx rfl (hb hby d36_25) rfl (l' := #[rv va, iv 0, iv 3, rv pg, iv ((p2 + (1 : Int32)) + (1 : Int32)), iv 1]) rfl (XS.aloadN X3.here hx rfl (hb hby d36_28) rfl rfl (XS.iload X3.here hx rfl (hb hby d36_29) rfl (st4 t (st7 t (XS.iinc X7.here hx rfl (hb hby d36_35) rfl (l' := #[rv va, iv 0, iv 3, rv pg, iv ((p2 + (1 : Int32)) + (1 : Int32)), iv 2]) rfl (XS.goto X7.here hx rfl (pc0 := 38) (pc' := 16) rfl (hb hby d36_38) (by decide) (by decide) (XS.iload X7.here hx rfl (hb hby d36_16) rfl (XS.iloadN X7.here hx rfl (hb hby d36_18) rfl (XS.icmpNo X7.here hx rfl (hb hby d36_19) rfl (tlt ((by decide : (2 : Int32) < (3 : Int32)) : (2 : Int32) < (3 : Int32))).2.1 (XS.aloadN X7.here hx rfl (hb hby d36_22) rfl rfl (XS.iload X7.here hx rfl (hb hby d36_23) rfl k))))))))))))))))))))
    have O_9 := (O_5.wr W7 g_pg)
    have V_va_10 := (V_va_6.other W7 ne_va_pg)
    obtain ⟨_, _, ⟨T8, L8, k8, n8⟩, -, X8, ⟨Lc8, hQ8, l8, y8, z8⟩, st8⟩ := Jvm.LawKit.callS X7 hx (y := mN23) hown (mvT hZ (ow hw 162 rfl)) (mvT hZ (ow hw 163 rfl)) (mvT hZ (ow hw 89 rfl)) (mvT hZ (ow hw 164 rfl)) (by decide) (backOf (W := 2) (rm_getC l Z a0 hw [] va (2 : Int32) kv u0 u1 u2 cs fw h7 n0 Z7 hST O_9 V_va_10 (by decide) hu) hZ (ow hw 164 rfl) (ow hw 89 rfl) (by decide) (by decide)) (g := (mkF m 31 #[rv va, iv 0, iv 3, rv pg, iv (((p2 + (1 : Int32)) + (1 : Int32)) + (1 : Int32)), iv 2] [(.int 2), (.ref va), (.int ((p2 + (1 : Int32)) + (1 : Int32))), (.ref pg)])) rfl (by rw [hml]; rfl) (argsL := [(.ref va), (.int (2 : Int32))]) (rest := [(.int ((p2 + (1 : Int32)) + (1 : Int32))), (.ref pg)]) (lenOf pd___BI_C rfl) rfl (by show 2 * 0 + _ ≤ _; exact Nat.le_of_eq rfl) (hb hby d36_31) (fun _ _ => ⟨rfl, e7, (by decide : 0 + 0 ≤ _), (by decide : 0 + 0 ≤ _)⟩)
    dsimp only [Pt.U, Pt.locs, Pt.cells, Pt.slots] at X8 l8 y8 z8 st8 hQ8
    subst l8 y8 z8
    obtain ⟨rfl, Nq8, e8⟩ := hQ8
    have N8 := Fr.app N7 Nq8
    obtain ⟨T11, h11, X11, e11, W11, G11, st11⟩ := own_stCp X8 hx hZ e8 G7 (j := ((p2 + (1 : Int32)) + (1 : Int32))) (own_nn (by rw [hi0] at hp; omega)) (own_ltN (by rw [hi0] at hp; omega)) (g := (mkF m 34 #[rv va, iv 0, iv 3, rv pg, iv (((p2 + (1 : Int32)) + (1 : Int32)) + (1 : Int32)), iv 2] [(.int (own_at u0 u1 u2 (2 : Int32))), (.int ((p2 + (1 : Int32)) + (1 : Int32))), (.ref pg)])) rfl rfl (hb hby d36_34)
    have Z11 : n0 ≤ h11.size := Nat.le_trans Z7 (Keep.of_wr W11).1
    have Kp11 : Keep h0 h11 [pg] := Kp7.wr W11 (Or.inl (List.mem_of_getElem? (i := 0) rfl))
    have N11 := Fr.snoc X11 N8 g_pg
    replace K : OGo p e below A0 T11 (mkF m 41 #[rv va, iv 0, iv 3, rv pg, iv (((p2 + (1 : Int32)) + (1 : Int32)) + (1 : Int32)), iv 3] []) := fun t k => K t (XS.iinc X7.here hx rfl (hb hby d36_25) rfl (l' := #[rv va, iv 0, iv 3, rv pg, iv (((p2 + (1 : Int32)) + (1 : Int32)) + (1 : Int32)), iv 2]) rfl (XS.aloadN X7.here hx rfl (hb hby d36_28) rfl rfl (XS.iload X7.here hx rfl (hb hby d36_29) rfl (st8 t (st11 t (XS.iinc X11.here hx rfl (hb hby d36_35) rfl (l' := #[rv va, iv 0, iv 3, rv pg, iv (((p2 + (1 : Int32)) + (1 : Int32)) + (1 : Int32)), iv 3]) rfl (XS.goto X11.here hx rfl (pc0 := 38) (pc' := 16) rfl (hb hby d36_38) (by decide) (by decide) (XS.iload X11.here hx rfl (hb hby d36_16) rfl (XS.iloadN X11.here hx rfl (hb hby d36_18) rfl (XS.icmpYes X11.here hx rfl (pc0 := 19) (pc' := 41) rfl (hb hby d36_19) rfl (flt ((by decide : ¬ ((3 : Int32) < (3 : Int32))) : ¬ ((3 : Int32) < (3 : Int32)))).2.1 (by decide) (by decide) k))))))))))
    obtain ⟨fs, hr, hrun, hended, hW, hsame⟩ := X11.leave (v := none) (fun _ => rfl)
    subst hA0
    refine ⟨_, _, K _ (X11.returnOut hx Bd.returns (hb hby d36_41) hr), hrun, hended, _, _, rfl, ?_, ⟨_, rfl⟩, hW, hsame.mono (by decide) (by decide)⟩
    show Q_gc16 Z va p1 pg p2 kv u0 u1 u2 kp cap cs fw h0 n0 _ T11.heap _
    rw [e11]
    exact ⟨rfl, N11, Kp11, G11⟩
  · by_cases hi1 : p1 = (1 : Int32)
    · rw [hi1] at K
      obtain ⟨_, _, ⟨T12, L12, k12, n12⟩, -, X12, ⟨Lc12, hQ12, l12, y12, z12⟩, st12⟩ := Jvm.LawKit.callS X0 hx (y := mN20) hown (mvT hZ (ow hw 186 rfl)) (mvT hZ (ow hw 187 rfl)) (mvT hZ (ow hw 89 rfl)) (mvT hZ (ow hw 188 rfl)) (by decide) (backOf (W := 0) (rm_coc16 l Z a0 hw [] (1 : Int32) (2 : Int32) va kv u0 u1 u2 cs fw h0 n0 Z0 hST O_0 V_va (by unfold own_oc; decide)) hZ (ow hw 188 rfl) (ow hw 89 rfl) (by decide) (by decide)) (g := (mkF m 10 #[rv va, iv 1, iv 3, rv pg, iv p2, .unset] [(.ref va), (.int 2), (.int 1)])) rfl (by rw [hml]; rfl) (argsL := [(.int (1 : Int32)), (.int (2 : Int32)), (.ref va)]) (rest := []) (lenOf pd__II_B_V rfl) rfl (by show 2 * 0 + _ ≤ _; exact Nat.le_of_eq rfl) (hb hby d36_10) (fun _ _ => ⟨rfl, e0, (by decide : 0 + 0 ≤ _), (by decide : 0 + 0 ≤ _)⟩)
      dsimp only [Pt.U, Pt.locs, Pt.cells, Pt.slots] at X12 l12 y12 z12 st12 hQ12
      subst l12 y12 z12
      obtain ⟨rfl, Nq12, e12⟩ := hQ12
      have N12 := Fr.app N0 Nq12
      obtain ⟨_, _, ⟨T13, L13, k13, n13⟩, -, X13, ⟨Lc13, hQ13, l13, y13, z13⟩, st13⟩ := Jvm.LawKit.callS X12 hx (y := mN23) hown (mvT hZ (ow hw 162 rfl)) (mvT hZ (ow hw 163 rfl)) (mvT hZ (ow hw 89 rfl)) (mvT hZ (ow hw 164 rfl)) (by decide) (backOf (W := 2) (rm_getC l Z a0 hw [] va (1 : Int32) kv u0 u1 u2 cs fw h0 n0 Z0 hST O_0 V_va (by decide) hu) hZ (ow hw 164 rfl) (ow hw 89 rfl) (by decide) (by decide)) (g := (mkF m 31 #[rv va, iv 1, iv 3, rv pg, iv (p2 + (1 : Int32)), iv 1] [(.int 1), (.ref va), (.int p2), (.ref pg)])) rfl (by rw [hml]; rfl) (argsL := [(.ref va), (.int (1 : Int32))]) (rest := [(.int p2), (.ref pg)]) (lenOf pd___BI_C rfl) rfl (by show 2 * 0 + _ ≤ _; exact Nat.le_of_eq rfl) (hb hby d36_31) (fun _ _ => ⟨rfl, e12, (by decide : 0 + 0 ≤ _), (by decide : 0 + 0 ≤ _)⟩)
      dsimp only [Pt.U, Pt.locs, Pt.cells, Pt.slots] at X13 l13 y13 z13 st13 hQ13
      subst l13 y13 z13
      obtain ⟨rfl, Nq13, e13⟩ := hQ13
      have N13 := Fr.app N12 Nq13
      replace K : OGo p e below A0 T13 (mkF m 34 #[rv va, iv 1, iv 3, rv pg, iv (p2 + (1 : Int32)), iv 1] [(.int (own_at u0 u1 u2 (1 : Int32))), (.int p2), (.ref pg)]) := fun t k => K t (XS.iloadN X0.here hx rfl (hb hby d36_0) rfl (XS.iloadN X0.here hx rfl (hb hby d36_1) rfl (XS.icmpNo X0.here hx rfl (hb hby d36_2) rfl (tlt ((by decide : (1 : Int32) < (3 : Int32)) : (1 : Int32) < (3 : Int32))).2.1 (XS.iloadN X0.here hx rfl (hb hby d36_5) rfl (XS.iloadN X0.here hx rfl (hb hby d36_6) rfl (XS.iloadN X0.here hx rfl (hb hby d36_7) rfl (XS.isub X0.here hx rfl (hb hby d36_8) rfl (XS.aloadN X0.here hx rfl (hb hby d36_9) rfl rfl (st12 t (XS.iloadN X12.here hx rfl (hb hby d36_13) rfl (XS.istore X12.here hx rfl (hb hby d36_14) rfl (l' := #[rv va, iv 1, iv 3, rv pg, iv p2, iv 1]) rfl (XS.iload X12.here hx rfl (hb hby d36_16) rfl (XS.iloadN X12.here hx rfl (hb hby d36_18) rfl (XS.icmpNo X12.here hx rfl (hb hby d36_19) rfl (tlt ((by decide : (1 : Int32) < (3 : Int32)) : (1 : Int32) < (3 : Int32))).2.1 (XS.aloadN X12.here hx rfl (hb hby d36_22) rfl rfl (XS.iload X12.here hx rfl (hb hby d36_23) rfl (XS.iinc X12.here hx rfl (hb hby d36_25) rfl (l' := #[rv va, iv 1, iv 3, rv pg, iv (p2 + (1 : Int32)), iv 1]) rfl (XS.aloadN X12.here hx rfl (hb hby d36_28) rfl rfl (XS.iload X12.here hx rfl (hb hby d36_29) rfl (st13 t k))))))))))))))))))))
      obtain ⟨T14, h14, X14, e14, W14, G14, st14⟩ := own_stCp X13 hx hZ e13 G_pg (j := p2) (own_nn (by rw [hi1] at hp; omega)) (own_ltN (by rw [hi1] at hp; omega)) (g := (mkF m 34 #[rv va, iv 1, iv 3, rv pg, iv (p2 + (1 : Int32)), iv 1] [(.int (own_at u0 u1 u2 (1 : Int32))), (.int p2), (.ref pg)])) rfl rfl (hb hby d36_34)
      have Z14 : n0 ≤ h14.size := Nat.le_trans Z0 (Keep.of_wr W14).1
      have Kp14 : Keep h0 h14 [pg] := (Keep.refl h0 [pg]).wr W14 (Or.inl (List.mem_of_getElem? (i := 0) rfl))
      have N14 := Fr.snoc X14 N13 g_pg
      have O_16 := (O_0.wr W14 g_pg)
      have V_va_17 := (V_va.other W14 ne_va_pg)
      obtain ⟨_, _, ⟨T15, L15, k15, n15⟩, -, X15, ⟨Lc15, hQ15, l15, y15, z15⟩, st15⟩ := Jvm.LawKit.callS X14 hx (y := mN23) hown (mvT hZ (ow hw 162 rfl)) (mvT hZ (ow hw 163 rfl)) (mvT hZ (ow hw 89 rfl)) (mvT hZ (ow hw 164 rfl)) (by decide) (backOf (W := 2) (rm_getC l Z a0 hw [] va (2 : Int32) kv u0 u1 u2 cs fw h14 n0 Z14 hST O_16 V_va_17 (by decide) hu) hZ (ow hw 164 rfl) (ow hw 89 rfl) (by decide) (by decide)) (g := (mkF m 31 #[rv va, iv 1, iv 3, rv pg, iv ((p2 + (1 : Int32)) + (1 : Int32)), iv 2] [(.int 2), (.ref va), (.int (p2 + (1 : Int32))), (.ref pg)])) rfl (by rw [hml]; rfl) (argsL := [(.ref va), (.int (2 : Int32))]) (rest := [(.int (p2 + (1 : Int32))), (.ref pg)]) (lenOf pd___BI_C rfl) rfl (by show 2 * 0 + _ ≤ _; exact Nat.le_of_eq rfl) (hb hby d36_31) (fun _ _ => ⟨rfl, e14, (by decide : 0 + 0 ≤ _), (by decide : 0 + 0 ≤ _)⟩)
      dsimp only [Pt.U, Pt.locs, Pt.cells, Pt.slots] at X15 l15 y15 z15 st15 hQ15
      subst l15 y15 z15
      obtain ⟨rfl, Nq15, e15⟩ := hQ15
      have N15 := Fr.app N14 Nq15
      obtain ⟨T18, h18, X18, e18, W18, G18, st18⟩ := own_stCp X15 hx hZ e15 G14 (j := (p2 + (1 : Int32))) (own_nn (by rw [hi1] at hp; omega)) (own_ltN (by rw [hi1] at hp; omega)) (g := (mkF m 34 #[rv va, iv 1, iv 3, rv pg, iv ((p2 + (1 : Int32)) + (1 : Int32)), iv 2] [(.int (own_at u0 u1 u2 (2 : Int32))), (.int (p2 + (1 : Int32))), (.ref pg)])) rfl rfl (hb hby d36_34)
      have Z18 : n0 ≤ h18.size := Nat.le_trans Z14 (Keep.of_wr W18).1
      have Kp18 : Keep h0 h18 [pg] := Kp14.wr W18 (Or.inl (List.mem_of_getElem? (i := 0) rfl))
      have N18 := Fr.snoc X18 N15 g_pg
      replace K : OGo p e below A0 T18 (mkF m 41 #[rv va, iv 1, iv 3, rv pg, iv ((p2 + (1 : Int32)) + (1 : Int32)), iv 3] []) := fun t k => K t (st14 t (XS.iinc X14.here hx rfl (hb hby d36_35) rfl (l' := #[rv va, iv 1, iv 3, rv pg, iv (p2 + (1 : Int32)), iv 2]) rfl (XS.goto X14.here hx rfl (pc0 := 38) (pc' := 16) rfl (hb hby d36_38) (by decide) (by decide) (XS.iload X14.here hx rfl (hb hby d36_16) rfl (XS.iloadN X14.here hx rfl (hb hby d36_18) rfl (XS.icmpNo X14.here hx rfl (hb hby d36_19) rfl (tlt ((by decide : (2 : Int32) < (3 : Int32)) : (2 : Int32) < (3 : Int32))).2.1 (XS.aloadN X14.here hx rfl (hb hby d36_22) rfl rfl (XS.iload X14.here hx rfl (hb hby d36_23) rfl (XS.iinc X14.here hx rfl (hb hby d36_25) rfl (l' := #[rv va, iv 1, iv 3, rv pg, iv ((p2 + (1 : Int32)) + (1 : Int32)), iv 2]) rfl (XS.aloadN X14.here hx rfl (hb hby d36_28) rfl rfl (XS.iload X14.here hx rfl (hb hby d36_29) rfl (st15 t (st18 t (XS.iinc X18.here hx rfl (hb hby d36_35) rfl (l' := #[rv va, iv 1, iv 3, rv pg, iv ((p2 + (1 : Int32)) + (1 : Int32)), iv 3]) rfl (XS.goto X18.here hx rfl (pc0 := 38) (pc' := 16) rfl (hb hby d36_38) (by decide) (by decide) (XS.iload X18.here hx rfl (hb hby d36_16) rfl (XS.iloadN X18.here hx rfl (hb hby d36_18) rfl (XS.icmpYes X18.here hx rfl (pc0 := 19) (pc' := 41) rfl (hb hby d36_19) rfl (flt ((by decide : ¬ ((3 : Int32) < (3 : Int32))) : ¬ ((3 : Int32) < (3 : Int32)))).2.1 (by decide) (by decide) k))))))))))))))))))
      obtain ⟨fs, hr, hrun, hended, hW, hsame⟩ := X18.leave (v := none) (fun _ => rfl)
      subst hA0
      refine ⟨_, _, K _ (X18.returnOut hx Bd.returns (hb hby d36_41) hr), hrun, hended, _, _, rfl, ?_, ⟨_, rfl⟩, hW, hsame.mono (by decide) (by decide)⟩
      show Q_gc16 Z va p1 pg p2 kv u0 u1 u2 kp cap cs fw h0 n0 _ T18.heap _
      rw [e18]
      exact ⟨rfl, N18, Kp18, G18⟩
    · have hi2 : p1 = (2 : Int32) := own_two hi hi0 hi1
      rw [hi2] at K
      obtain ⟨_, _, ⟨T19, L19, k19, n19⟩, -, X19, ⟨Lc19, hQ19, l19, y19, z19⟩, st19⟩ := Jvm.LawKit.callS X0 hx (y := mN20) hown (mvT hZ (ow hw 186 rfl)) (mvT hZ (ow hw 187 rfl)) (mvT hZ (ow hw 89 rfl)) (mvT hZ (ow hw 188 rfl)) (by decide) (backOf (W := 0) (rm_coc16 l Z a0 hw [] (2 : Int32) (1 : Int32) va kv u0 u1 u2 cs fw h0 n0 Z0 hST O_0 V_va (by unfold own_oc; decide)) hZ (ow hw 188 rfl) (ow hw 89 rfl) (by decide) (by decide)) (g := (mkF m 10 #[rv va, iv 2, iv 3, rv pg, iv p2, .unset] [(.ref va), (.int 1), (.int 2)])) rfl (by rw [hml]; rfl) (argsL := [(.int (2 : Int32)), (.int (1 : Int32)), (.ref va)]) (rest := []) (lenOf pd__II_B_V rfl) rfl (by show 2 * 0 + _ ≤ _; exact Nat.le_of_eq rfl) (hb hby d36_10) (fun _ _ => ⟨rfl, e0, (by decide : 0 + 0 ≤ _), (by decide : 0 + 0 ≤ _)⟩)
      dsimp only [Pt.U, Pt.locs, Pt.cells, Pt.slots] at X19 l19 y19 z19 st19 hQ19
      subst l19 y19 z19
      obtain ⟨rfl, Nq19, e19⟩ := hQ19
      have N19 := Fr.app N0 Nq19
      obtain ⟨_, _, ⟨T20, L20, k20, n20⟩, -, X20, ⟨Lc20, hQ20, l20, y20, z20⟩, st20⟩ := Jvm.LawKit.callS X19 hx (y := mN23) hown (mvT hZ (ow hw 162 rfl)) (mvT hZ (ow hw 163 rfl)) (mvT hZ (ow hw 89 rfl)) (mvT hZ (ow hw 164 rfl)) (by decide) (backOf (W := 2) (rm_getC l Z a0 hw [] va (2 : Int32) kv u0 u1 u2 cs fw h0 n0 Z0 hST O_0 V_va (by decide) hu) hZ (ow hw 164 rfl) (ow hw 89 rfl) (by decide) (by decide)) (g := (mkF m 31 #[rv va, iv 2, iv 3, rv pg, iv (p2 + (1 : Int32)), iv 2] [(.int 2), (.ref va), (.int p2), (.ref pg)])) rfl (by rw [hml]; rfl) (argsL := [(.ref va), (.int (2 : Int32))]) (rest := [(.int p2), (.ref pg)]) (lenOf pd___BI_C rfl) rfl (by show 2 * 0 + _ ≤ _; exact Nat.le_of_eq rfl) (hb hby d36_31) (fun _ _ => ⟨rfl, e19, (by decide : 0 + 0 ≤ _), (by decide : 0 + 0 ≤ _)⟩)
      dsimp only [Pt.U, Pt.locs, Pt.cells, Pt.slots] at X20 l20 y20 z20 st20 hQ20
      subst l20 y20 z20
      obtain ⟨rfl, Nq20, e20⟩ := hQ20
      have N20 := Fr.app N19 Nq20
      replace K : OGo p e below A0 T20 (mkF m 34 #[rv va, iv 2, iv 3, rv pg, iv (p2 + (1 : Int32)), iv 2] [(.int (own_at u0 u1 u2 (2 : Int32))), (.int p2), (.ref pg)]) := fun t k => K t (XS.iloadN X0.here hx rfl (hb hby d36_0) rfl (XS.iloadN X0.here hx rfl (hb hby d36_1) rfl (XS.icmpNo X0.here hx rfl (hb hby d36_2) rfl (tlt ((by decide : (2 : Int32) < (3 : Int32)) : (2 : Int32) < (3 : Int32))).2.1 (XS.iloadN X0.here hx rfl (hb hby d36_5) rfl (XS.iloadN X0.here hx rfl (hb hby d36_6) rfl (XS.iloadN X0.here hx rfl (hb hby d36_7) rfl (XS.isub X0.here hx rfl (hb hby d36_8) rfl (XS.aloadN X0.here hx rfl (hb hby d36_9) rfl rfl (st19 t (XS.iloadN X19.here hx rfl (hb hby d36_13) rfl (XS.istore X19.here hx rfl (hb hby d36_14) rfl (l' := #[rv va, iv 2, iv 3, rv pg, iv p2, iv 2]) rfl (XS.iload X19.here hx rfl (hb hby d36_16) rfl (XS.iloadN X19.here hx rfl (hb hby d36_18) rfl (XS.icmpNo X19.here hx rfl (hb hby d36_19) rfl (tlt ((by decide : (2 : Int32) < (3 : Int32)) : (2 : Int32) < (3 : Int32))).2.1 (XS.aloadN X19.here hx rfl (hb hby d36_22) rfl rfl (XS.iload X19.here hx rfl (hb hby d36_23) rfl (XS.iinc X19.here hx rfl (hb hby d36_25) rfl (l' := #[rv va, iv 2, iv 3, rv pg, iv (p2 + (1 : Int32)), iv 2]) rfl (XS.aloadN X19.here hx rfl (hb hby d36_28) rfl rfl (XS.iload X19.here hx rfl (hb hby d36_29) rfl (st20 t k))))))))))))))))))))
      obtain ⟨T21, h21, X21, e21, W21, G21, st21⟩ := own_stCp X20 hx hZ e20 G_pg (j := p2) (own_nn (by rw [hi2] at hp; omega)) (own_ltN (by rw [hi2] at hp; omega)) (g := (mkF m 34 #[rv va, iv 2, iv 3, rv pg, iv (p2 + (1 : Int32)), iv 2] [(.int (own_at u0 u1 u2 (2 : Int32))), (.int p2), (.ref pg)])) rfl rfl (hb hby d36_34)
      have Z21 : n0 ≤ h21.size := Nat.le_trans Z0 (Keep.of_wr W21).1
      have Kp21 : Keep h0 h21 [pg] := (Keep.refl h0 [pg]).wr W21 (Or.inl (List.mem_of_getElem? (i := 0) rfl))
      have N21 := Fr.snoc X21 N20 g_pg
      replace K : OGo p e below A0 T21 (mkF m 41 #[rv va, iv 2, iv 3, rv pg, iv (p2 + (1 : Int32)), iv 3] []) := fun t k => K t (st21 t (XS.iinc X21.here hx rfl (hb hby d36_35) rfl (l' := #[rv va, iv 2, iv 3, rv pg, iv (p2 + (1 : Int32)), iv 3]) rfl (XS.goto X21.here hx rfl (pc0 := 38) (pc' := 16) rfl (hb hby d36_38) (by decide) (by decide) (XS.iload X21.here hx rfl (hb hby d36_16) rfl (XS.iloadN X21.here hx rfl (hb hby d36_18) rfl (XS.icmpYes X21.here hx rfl (pc0 := 19) (pc' := 41) rfl (hb hby d36_19) rfl (flt ((by decide : ¬ ((3 : Int32) < (3 : Int32))) : ¬ ((3 : Int32) < (3 : Int32)))).2.1 (by decide) (by decide) k))))))
      obtain ⟨fs, hr, hrun, hended, hW, hsame⟩ := X21.leave (v := none) (fun _ => rfl)
      subst hA0
      refine ⟨_, _, K _ (X21.returnOut hx Bd.returns (hb hby d36_41) hr), hrun, hended, _, _, rfl, ?_, ⟨_, rfl⟩, hW, hsame.mono (by decide) (by decide)⟩
      show Q_gc16 Z va p1 pg p2 kv u0 u1 u2 kp cap cs fw h0 n0 _ T21.heap _
      rw [e21]
      exact ⟨rfl, N21, Kp21, G21⟩
theorem ef_31 (m : MethodId) (x0 : Addr) (x1 : Int32) (x2 : Int32) (x3 : Addr) (x4 : Int32) : entryFrame m #[(.ref x0), (.int x1), (.int x2), (.ref x3), (.int x4)] 5 = mkF m 0 #[.val (.ref x0), .val (.int x1), .val (.int x2), .val (.ref x3), .val (.int x4)] [] := by first | (simp [entryFrame, mkF, argsToLocals, Value.category]; done) | rfl
abbrev Dc31 (i : Nat) (c : Instr) (k : Nat) : Prop := decode jdk_42_method_61_code i = .ok (c, k)
theorem d31_0 : Dc31 0 (.iload_n 1) 1 := by decide +kernel
theorem d31_1 : Dc31 1 (.iload_n 2) 1 := by decide +kernel
theorem d31_2 : Dc31 2 (.aload_n 0) 1 := by decide +kernel
theorem d31_3 : Dc31 3 (.invokevirtual 505) 3 := by decide +kernel
theorem pd___I : parseMethodDescriptor "()I" = some ⟨[], some .int⟩ := by decide +kernel
theorem d31_6 : Dc31 6 (.invokestatic 521) 3 := by decide +kernel
theorem pd__III_V : parseMethodDescriptor "(III)V" = some ⟨[.int, .int, .int], none⟩ := by decide +kernel
theorem d31_9 : Dc31 9 (.iload 4) 2 := by decide +kernel
theorem d31_11 : Dc31 11 (.iload_n 2) 1 := by decide +kernel
theorem d31_12 : Dc31 12 (.iload_n 1) 1 := by decide +kernel
theorem d31_13 : Dc31 13 (.isub) 1 := by decide +kernel
theorem d31_14 : Dc31 14 (.aload_n 3) 1 := by decide +kernel
theorem d31_15 : Dc31 15 (.arraylength) 1 := by decide +kernel
theorem d31_16 : Dc31 16 (.invokestatic 34) 3 := by decide +kernel
theorem d31_19 : Dc31 19 (.pop) 1 := by decide +kernel
theorem d31_20 : Dc31 20 (.aload_n 0) 1 := by decide +kernel
theorem d31_21 : Dc31 21 (.invokevirtual 492) 3 := by decide +kernel
theorem d31_24 : Dc31 24 (.ifCond .eq 18) 3 := by decide +kernel
theorem d31_27 : Dc31 27 (.aload_n 0) 1 := by decide +kernel
theorem d31_28 : Dc31 28 (.getfield 9) 3 := by decide +kernel
theorem d31_31 : Dc31 31 (.iload_n 1) 1 := by decide +kernel
theorem d31_32 : Dc31 32 (.iload_n 2) 1 := by decide +kernel
theorem d31_33 : Dc31 33 (.aload_n 3) 1 := by decide +kernel
theorem d31_34 : Dc31 34 (.iload 4) 2 := by decide +kernel
theorem d31_36 : Dc31 36 (.invokestatic 525) 3 := by decide +kernel
theorem pd___BII_CI_V : parseMethodDescriptor "([BII[CI)V" = some ⟨[(.array .byte), .int, .int, (.array .char), .int], none⟩ := by decide +kernel
theorem d31_39 : Dc31 39 (.goto 15) 3 := by decide +kernel
theorem d31_54 : Dc31 54 (.return_) 1 := by decide +kernel
def Q_sgL (Z : State) (a1 : Addr) (pg : Addr) (p2 : Int32) (va : Addr) (kv : ClassId) (kp : ClassId) (cap : Int32) (cs : Int32) (fw : Value) (h0 : Heap) (n0 : Nat) (v : Option Value) (h : Heap) (L : List Loc) : Prop := v = none ∧ Fr n0 L ∧ Keep h0 h [pg] ∧ OPg Z h pg kp .char cap
theorem rm_sgL (l : Launch) (Z : State) (a0 : Array Value) (hw : ∀ d ∈ tables_1, d.before a0 Z = true) (ws : List Jvm.Cond) (a1 : Addr) (pg : Addr) (p2 : Int32) (va : Addr) (kv : ClassId) (kp : ClassId) (cap : Int32) (cs : Int32) (fw : Value) (h0 : Heap) (n0 : Nat) (Z0 : n0 ≤ h0.size) (hST : own_ST Z cs fw) (O_0 : Old Z n0 h0) (F_value_a1 : Fld Z h0 a1 cN1 "value" "[B" (.ref va)) (F_coder_a1 : Fld Z h0 a1 cN1 "coder" "B" (.int (0 : Int32))) (G_va : OPg Z h0 va kv .byte (3 : Int32)) (G_pg : OPg Z h0 pg kp .char cap) (E_a1 : Exa Z h0 a1 cN1) (g_pg : n0 ≤ pg) (nd0 : OND [a1, va, pg]) (hp : 0 ≤ p2.toInt ∧ p2.toInt + 3 ≤ cap.toInt ∧ cap.toInt ≤ 15) :
    oM l mN38 jdk_42_method_61_code 5 none ws ({ frames := 4, cells := 0, slots := 0, locals := 112 } : Room) #[(.ref a1), (.int (0 : Int32)), (.int (3 : Int32)), (.ref pg), (.int p2)] Z h0 (Q_sgL Z a1 pg p2 va kv kp cap cs fw h0 n0) := by
  refine MetFree.of_bodySF (plainFor_of_name pn_java_lang_String) hisR ?_
  intro p e s m args below meth c s₁ Bd hml0 hP hK
  obtain ⟨rfl, hZ, hh⟩ := hP
  have hx := Bd.exec
  have hby := Bd.bytes
  have hml : c.maxLocals = 5 := hml0
  have hown : s.vm.findClass "java/lang/String" = some m.cls := findClass_of_methodNamed Bd.named
  have hnm := (name_of_methodNamed Bd.named Bd.method).1
  have X0 : Stand p l e ({ frames := 4, cells := 0, slots := 0, locals := 112 } : Room) s m #[(.ref a1), (.int (0 : Int32)), (.int (3 : Int32)), (.ref pg), (.int p2)] below meth c s₁ [] 0 0 := Stand.of_body Bd
  have e0 : s₁.heap = h0 := by rw [← hh, Bd.state]; rfl
  have N0 := Fr.nil n0
  obtain ⟨A0, hA0⟩ : ∃ z, z = s₁.setTop (entryFrame m #[(.ref a1), (.int (0 : Int32)), (.int (3 : Int32)), (.ref pg), (.int p2)] 5) := ⟨_, rfl⟩
  have K : OGo p e below A0 s₁ (mkF m 0 #[rv a1, iv 0, iv 3, rv pg, iv p2] []) := fun t k => hA0 ▸ castTop (ef_31 m a1 (0 : Int32) (3 : Int32) pg p2) k
  obtain ⟨cq1, kq1, qv1a, qv1b, qv1c⟩ := isOf hZ e0 E_a1
  obtain ⟨_, _, ⟨T1, L1, k1, n1⟩, -, X1, ⟨Lc1, hQ1, l1, y1, z1⟩, st1⟩ := X0.virtualBack hx (y := mN13) (z := mN13) hown (mvT hZ (ow hw 170 rfl)) (mvT hZ (ow hw 107 rfl)) (notFace_of_selects (args := #[]) (mvT hZ (ow hw 109 rfl))) (mvT hZ (ow hw 109 rfl)) (mvT hZ (ow hw 108 rfl)) (by decide) (backOf (W := 2) (rm_slenL l Z a0 hw [] a1 va kv cs fw h0 n0 Z0 hST O_0 F_value_a1 F_coder_a1 G_va E_a1) hZ (ow hw 110 rfl) (ow hw 77 rfl) (by decide) (by decide)) qv1a qv1c (g := (mkF m 3 #[rv a1, iv 0, iv 3, rv pg, iv p2] [(.ref a1), (.int 3), (.int 0)])) rfl (by rw [hml]; rfl) (Steps.refl _) (argsL := []) (rest := [(.int (3 : Int32)), (.int (0 : Int32))]) (lenOf pd___I rfl) rfl (by show 2 * 0 + _ ≤ _; exact Nat.le_of_eq rfl) (hb hby d31_3) (fun _ _ => ⟨rfl, e0, (by decide : 0 + 0 ≤ _), (by decide : 0 + 0 ≤ _)⟩)
  dsimp only [Pt.U, Pt.locs, Pt.cells, Pt.slots] at X1 l1 y1 z1 st1 hQ1
  subst l1 y1 z1
  obtain ⟨rfl, Nq1, e1⟩ := hQ1
  have N1 := Fr.app N0 Nq1
  obtain ⟨_, _, ⟨T2, L2, k2, n2⟩, -, X2, ⟨Lc2, hQ2, l2, y2, z2⟩, st2⟩ := Jvm.LawKit.callS X1 hx (y := mN18) hown (mvT hZ (ow hw 171 rfl)) (mvT hZ (ow hw 172 rfl)) (mvT hZ (ow hw 77 rfl)) (mvT hZ (ow hw 173 rfl)) (by decide) (backOf (W := 0) (rm_cbe l Z a0 hw [] (0 : Int32) (3 : Int32) (3 : Int32) cs fw h0 n0 Z0 hST O_0 (by decide)) hZ (ow hw 173 rfl) (ow hw 77 rfl) (by decide) (by decide)) (g := (mkF m 6 #[rv a1, iv 0, iv 3, rv pg, iv p2] [(.int 3), (.int 3), (.int 0)])) rfl (by rw [hml]; rfl) (argsL := [(.int (0 : Int32)), (.int (3 : Int32)), (.int (3 : Int32))]) (rest := []) (lenOf pd__III_V rfl) rfl (by show 2 * 0 + _ ≤ _; exact Nat.le_of_eq rfl) (hb hby d31_6) (fun _ _ => ⟨rfl, e1, (by decide : 0 + 0 ≤ _), (by decide : 0 + 0 ≤ _)⟩)
  dsimp only [Pt.U, Pt.locs, Pt.cells, Pt.slots] at X2 l2 y2 z2 st2 hQ2
  subst l2 y2 z2
  obtain ⟨rfl, Nq2, e2⟩ := hQ2
  have N2 := Fr.app N1 Nq2
  obtain ⟨_, _, ⟨T3, L3, k3, n3⟩, -, X3, ⟨Lc3, hQ3, l3, y3, z3⟩, st3⟩ := Jvm.LawKit.callS X2 hx (y := mN19) hown (mvT hZ (ow hw 177 rfl)) (mvT hZ (ow hw 178 rfl)) (mvT hZ (ow hw 77 rfl)) (mvT hZ (ow hw 179 rfl)) (by decide) (backOf (W := 0) (rm_coc l Z a0 hw [] p2 (3 : Int32) cap cs fw h0 n0 Z0 hST O_0 (own_ocL hp)) hZ (ow hw 179 rfl) (ow hw 77 rfl) (by decide) (by decide)) (g := (mkF m 16 #[rv a1, iv 0, iv 3, rv pg, iv p2] [(.int cap), (.int 3), (.int p2)])) rfl (by rw [hml]; rfl) (argsL := [(.int p2), (.int (3 : Int32)), (.int cap)]) (rest := []) (lenOf pd__III_I rfl) rfl (by show 2 * 0 + _ ≤ _; exact Nat.le_of_eq rfl) (hb hby d31_16) (fun _ _ => ⟨rfl, e2, (by decide : 0 + 0 ≤ _), (by decide : 0 + 0 ≤ _)⟩)
  dsimp only [Pt.U, Pt.locs, Pt.cells, Pt.slots] at X3 l3 y3 z3 st3 hQ3
  subst l3 y3 z3
  obtain ⟨rfl, Nq3, e3⟩ := hQ3
  have N3 := Fr.app N2 Nq3
  obtain ⟨cq4, kq4, qv4a, qv4b, qv4c⟩ := isOf hZ e3 E_a1
  obtain ⟨_, _, ⟨T4, L4, k4, n4⟩, -, X4, ⟨Lc4, hQ4, l4, y4, z4⟩, st4⟩ := X3.virtualBack hx (y := mN12) (z := mN12) hown (mvT hZ (ow hw 121 rfl)) (mvT hZ (ow hw 122 rfl)) (notFace_of_selects (args := #[]) (mvT hZ (ow hw 124 rfl))) (mvT hZ (ow hw 124 rfl)) (mvT hZ (ow hw 123 rfl)) (by decide) (backOf (W := 0) (rm_islL l Z a0 hw [] a1 va kv cs fw h0 n0 Z0 hST O_0 F_value_a1 F_coder_a1 G_va) hZ (ow hw 125 rfl) (ow hw 77 rfl) (by decide) (by decide)) qv4a qv4c (g := (mkF m 21 #[rv a1, iv 0, iv 3, rv pg, iv p2] [(.ref a1)])) rfl (by rw [hml]; rfl) (Steps.refl _) (argsL := []) (rest := []) (lenOf pd___Z rfl) rfl (by show 2 * 0 + _ ≤ _; exact Nat.le_of_eq rfl) (hb hby d31_21) (fun _ _ => ⟨rfl, e3, (by decide : 0 + 0 ≤ _), (by decide : 0 + 0 ≤ _)⟩)
  dsimp only [Pt.U, Pt.locs, Pt.cells, Pt.slots] at X4 l4 y4 z4 st4 hQ4
  subst l4 y4 z4
  obtain ⟨rfl, Nq4, e4⟩ := hQ4
  have N4 := Fr.app N3 Nq4
  obtain ⟨T5, X5, e5, st5⟩ := getF X4 hx hZ hown (host := "") (Or.inl (ow hw 99 rfl)) Via.refl e4 F_value_a1 (g := (mkF m 28 #[rv a1, iv 0, iv 3, rv pg, iv p2] [(.ref a1)])) rfl rfl (hb hby d31_28)
  replace K : OGo p e below A0 T5 (mkF m 33 #[rv a1, iv 0, iv 3, rv pg, iv p2] [(.int 3), (.int 0), (.ref va)]) := fun t k => K t (XS.iloadN X0.here hx rfl (hb hby d31_0) rfl (XS.iloadN X0.here hx rfl (hb hby d31_1) rfl (XS.aloadN X0.here hx rfl (hb hby d31_2) rfl rfl (st1.trans (st2 t (XS.iload X2.here hx rfl (hb hby d31_9) rfl (XS.iloadN X2.here hx rfl (hb hby d31_11) rfl (XS.iloadN X2.here hx rfl (hb hby d31_12) rfl (XS.isub X2.here hx rfl (hb hby d31_13) rfl (XS.aloadN X2.here hx rfl (hb hby d31_14) rfl rfl (own_lenP X2 hx hZ e2 G_pg (g := (mkF m 15 #[rv a1, iv 0, iv 3, rv pg, iv p2] [(.ref pg), (.int 3), (.int p2)])) rfl rfl (hb hby d31_15) t (st3 t (Jvm.Free.XT.pop X3.here hx rfl (hb hby d31_19) rfl rfl (XS.aloadN X3.here hx rfl (hb hby d31_20) rfl rfl (st4.trans (XS.ifNo X4.here hx rfl (hb hby d31_24) rfl ((if0 _ _).trans (feq ((by decide : ¬ ((1 : Int32) = (0 : Int32))) : ¬ ((1 : Int32) = (0 : Int32)))).1) (XS.aloadN X4.here hx rfl (hb hby d31_27) rfl rfl (st5 t (XS.iloadN X5.here hx rfl (hb hby d31_31) rfl (XS.iloadN X5.here hx rfl (hb hby d31_32) rfl k))))))))))))))))))))
  obtain ⟨_, _, ⟨T6, L6, k6, n6⟩, -, X6, ⟨Lc6, hQ6, l6, y6, z6⟩, st6⟩ := Jvm.LawKit.callS X5 hx (y := mN36) hown (mvT hZ (ow hw 203 rfl)) (mvT hZ (ow hw 204 rfl)) (mvT hZ (ow hw 128 rfl)) (mvT hZ (ow hw 205 rfl)) (by decide) (backOf (W := 0) (rm_gcL1 l Z a0 hw [] va pg p2 kv kp cap h0 n0 Z0 G_va G_pg g_pg (own_pw nd0 1 2 (by decide) rfl rfl) hp) hZ (ow hw 205 rfl) (ow hw 128 rfl) (by decide) (by decide)) (g := (mkF m 36 #[rv a1, iv 0, iv 3, rv pg, iv p2] [(.int p2), (.ref pg), (.int 3), (.int 0), (.ref va)])) rfl (by rw [hml]; rfl) (argsL := [(.ref va), (.int (0 : Int32)), (.int (3 : Int32)), (.ref pg), (.int p2)]) (rest := []) (lenOf pd___BII_CI_V rfl) rfl (by show 2 * 0 + _ ≤ _; exact Nat.le_of_eq rfl) (hb hby d31_36) (fun _ _ => ⟨rfl, e5, (by decide : 0 + 0 ≤ _), (by decide : 0 + 0 ≤ _)⟩)
  dsimp only [Pt.U, Pt.locs, Pt.cells, Pt.slots] at X6 l6 y6 z6 st6 hQ6
  subst l6 y6 z6
  obtain ⟨hp6, e6⟩ : ∃ z, T6.heap = z := ⟨_, rfl⟩
  rw [e6] at hQ6
  obtain ⟨rfl, Nq6, K6, P6_0⟩ := hQ6
  have Z6 : n0 ≤ hp6.size := Nat.le_trans Z0 K6.1
  have Kp6 : Keep h0 hp6 [pg] := (Keep.refl h0 [pg]).trans K6 (allS (Or.inl (List.mem_of_getElem? (i := 0) rfl)) all0)
  have N6 := Fr.app N4 Nq6
  replace K : OGo p e below A0 T6 (mkF m 54 #[rv a1, iv 0, iv 3, rv pg, iv p2] []) := fun t k => K t (XS.aloadN X5.here hx rfl (hb hby d31_33) rfl rfl (XS.iload X5.here hx rfl (hb hby d31_34) rfl (st6 t (XS.goto X6.here hx rfl (pc0 := 39) (pc' := 54) rfl (hb hby d31_39) (by decide) (by decide) k))))
  obtain ⟨fs, hr, hrun, hended, hW, hsame⟩ := X6.leave (v := none) (fun _ => rfl)
  subst hA0
  refine ⟨_, _, K _ (X6.returnOut hx Bd.returns (hb hby d31_54) hr), hrun, hended, _, _, rfl, ?_, ⟨_, rfl⟩, hW, hsame.mono (by decide) (by decide)⟩
  show Q_sgL Z a1 pg p2 va kv kp cap cs fw h0 n0 _ T6.heap _
  rw [e6]
  exact ⟨rfl, N6, Kp6, P6_0⟩
theorem d31_42 : Dc31 42 (.aload_n 0) 1 := by decide +kernel
theorem d31_43 : Dc31 43 (.getfield 9) 3 := by decide +kernel
theorem d31_46 : Dc31 46 (.iload_n 1) 1 := by decide +kernel
theorem d31_47 : Dc31 47 (.iload_n 2) 1 := by decide +kernel
theorem d31_48 : Dc31 48 (.aload_n 3) 1 := by decide +kernel
theorem d31_49 : Dc31 49 (.iload 4) 2 := by decide +kernel
theorem d31_51 : Dc31 51 (.invokestatic 529) 3 := by decide +kernel
def Q_sgU (Z : State) (a1 : Addr) (p1 : Int32) (pg : Addr) (p2 : Int32) (va : Addr) (kv : ClassId) (u0 : Int32) (u1 : Int32) (u2 : Int32) (kp : ClassId) (cap : Int32) (cs : Int32) (fw : Value) (h0 : Heap) (n0 : Nat) (v : Option Value) (h : Heap) (L : List Loc) : Prop := v = none ∧ Fr n0 L ∧ Keep h0 h [pg] ∧ OPg Z h pg kp .char cap
theorem rm_sgU (l : Launch) (Z : State) (a0 : Array Value) (hw : ∀ d ∈ tables_1, d.before a0 Z = true) (ws : List Jvm.Cond) (a1 : Addr) (p1 : Int32) (pg : Addr) (p2 : Int32) (va : Addr) (kv : ClassId) (u0 : Int32) (u1 : Int32) (u2 : Int32) (kp : ClassId) (cap : Int32) (cs : Int32) (fw : Value) (h0 : Heap) (n0 : Nat) (Z0 : n0 ≤ h0.size) (hST : own_ST Z cs fw) (O_0 : Old Z n0 h0) (F_value_a1 : Fld Z h0 a1 cN1 "value" "[B" (.ref va)) (F_coder_a1 : Fld Z h0 a1 cN1 "coder" "B" (.int (1 : Int32))) (V_va : OAr Z h0 va kv .byte [(.int (own_b0 u0)), (.int (own_b1 u0)), (.int (own_b0 u1)), (.int (own_b1 u1)), (.int (own_b0 u2)), (.int (own_b1 u2))]) (G_pg : OPg Z h0 pg kp .char cap) (E_a1 : Exa Z h0 a1 cN1) (g_pg : n0 ≤ pg) (nd0 : OND [a1, va, pg]) (hi : 0 ≤ p1.toInt ∧ p1.toInt < 3) (hp : 0 ≤ p2.toInt ∧ p2.toInt + (3 - p1.toInt) ≤ cap.toInt ∧ cap.toInt ≤ 15) (hu : own_ch u0 u1 u2) :
    oM l mN38 jdk_42_method_61_code 5 none ws ({ frames := 4, cells := 0, slots := 0, locals := 112 } : Room) #[(.ref a1), (.int p1), (.int (3 : Int32)), (.ref pg), (.int p2)] Z h0 (Q_sgU Z a1 p1 pg p2 va kv u0 u1 u2 kp cap cs fw h0 n0) := by
  refine MetFree.of_bodySF (plainFor_of_name pn_java_lang_String) hisR ?_
  intro p e s m args below meth c s₁ Bd hml0 hP hK
  obtain ⟨rfl, hZ, hh⟩ := hP
  have hx := Bd.exec
  have hby := Bd.bytes
  have hml : c.maxLocals = 5 := hml0
  have hown : s.vm.findClass "java/lang/String" = some m.cls := findClass_of_methodNamed Bd.named
  have hnm := (name_of_methodNamed Bd.named Bd.method).1
  have X0 : Stand p l e ({ frames := 4, cells := 0, slots := 0, locals := 112 } : Room) s m #[(.ref a1), (.int p1), (.int (3 : Int32)), (.ref pg), (.int p2)] below meth c s₁ [] 0 0 := Stand.of_body Bd
  have e0 : s₁.heap = h0 := by rw [← hh, Bd.state]; rfl
  have N0 := Fr.nil n0
  obtain ⟨A0, hA0⟩ : ∃ z, z = s₁.setTop (entryFrame m #[(.ref a1), (.int p1), (.int (3 : Int32)), (.ref pg), (.int p2)] 5) := ⟨_, rfl⟩
  have K : OGo p e below A0 s₁ (mkF m 0 #[rv a1, iv p1, iv 3, rv pg, iv p2] []) := fun t k => hA0 ▸ castTop (ef_31 m a1 p1 (3 : Int32) pg p2) k
  obtain ⟨cq1, kq1, qv1a, qv1b, qv1c⟩ := isOf hZ e0 E_a1
  obtain ⟨_, _, ⟨T1, L1, k1, n1⟩, -, X1, ⟨Lc1, hQ1, l1, y1, z1⟩, st1⟩ := X0.virtualBack hx (y := mN13) (z := mN13) hown (mvT hZ (ow hw 170 rfl)) (mvT hZ (ow hw 107 rfl)) (notFace_of_selects (args := #[]) (mvT hZ (ow hw 109 rfl))) (mvT hZ (ow hw 109 rfl)) (mvT hZ (ow hw 108 rfl)) (by decide) (backOf (W := 2) (rm_slenU l Z a0 hw [] a1 va kv u0 u1 u2 cs fw h0 n0 Z0 hST O_0 F_value_a1 F_coder_a1 V_va E_a1) hZ (ow hw 110 rfl) (ow hw 77 rfl) (by decide) (by decide)) qv1a qv1c (g := (mkF m 3 #[rv a1, iv p1, iv 3, rv pg, iv p2] [(.ref a1), (.int 3), (.int p1)])) rfl (by rw [hml]; rfl) (Steps.refl _) (argsL := []) (rest := [(.int (3 : Int32)), (.int p1)]) (lenOf pd___I rfl) rfl (by show 2 * 0 + _ ≤ _; exact Nat.le_of_eq rfl) (hb hby d31_3) (fun _ _ => ⟨rfl, e0, (by decide : 0 + 0 ≤ _), (by decide : 0 + 0 ≤ _)⟩)
  dsimp only [Pt.U, Pt.locs, Pt.cells, Pt.slots] at X1 l1 y1 z1 st1 hQ1
  subst l1 y1 z1
  obtain ⟨rfl, Nq1, e1⟩ := hQ1
  have N1 := Fr.app N0 Nq1
  obtain ⟨_, _, ⟨T2, L2, k2, n2⟩, -, X2, ⟨Lc2, hQ2, l2, y2, z2⟩, st2⟩ := Jvm.LawKit.callS X1 hx (y := mN18) hown (mvT hZ (ow hw 171 rfl)) (mvT hZ (ow hw 172 rfl)) (mvT hZ (ow hw 77 rfl)) (mvT hZ (ow hw 173 rfl)) (by decide) (backOf (W := 0) (rm_cbe l Z a0 hw [] p1 (3 : Int32) (3 : Int32) cs fw h0 n0 Z0 hST O_0 (own_be hi)) hZ (ow hw 173 rfl) (ow hw 77 rfl) (by decide) (by decide)) (g := (mkF m 6 #[rv a1, iv p1, iv 3, rv pg, iv p2] [(.int 3), (.int 3), (.int p1)])) rfl (by rw [hml]; rfl) (argsL := [(.int p1), (.int (3 : Int32)), (.int (3 : Int32))]) (rest := []) (lenOf pd__III_V rfl) rfl (by show 2 * 0 + _ ≤ _; exact Nat.le_of_eq rfl) (hb hby d31_6) (fun _ _ => ⟨rfl, e1, (by decide : 0 + 0 ≤ _), (by decide : 0 + 0 ≤ _)⟩)
  dsimp only [Pt.U, Pt.locs, Pt.cells, Pt.slots] at X2 l2 y2 z2 st2 hQ2
  subst l2 y2 z2
  obtain ⟨rfl, Nq2, e2⟩ := hQ2
  have N2 := Fr.app N1 Nq2
  obtain ⟨_, _, ⟨T3, L3, k3, n3⟩, -, X3, ⟨Lc3, hQ3, l3, y3, z3⟩, st3⟩ := Jvm.LawKit.callS X2 hx (y := mN19) hown (mvT hZ (ow hw 177 rfl)) (mvT hZ (ow hw 178 rfl)) (mvT hZ (ow hw 77 rfl)) (mvT hZ (ow hw 179 rfl)) (by decide) (backOf (W := 0) (rm_coc l Z a0 hw [] p2 ((3 : Int32) - p1) cap cs fw h0 n0 Z0 hST O_0 (own_ocU hi hp)) hZ (ow hw 179 rfl) (ow hw 77 rfl) (by decide) (by decide)) (g := (mkF m 16 #[rv a1, iv p1, iv 3, rv pg, iv p2] [(.int cap), (.int ((3 : Int32) - p1)), (.int p2)])) rfl (by rw [hml]; rfl) (argsL := [(.int p2), (.int ((3 : Int32) - p1)), (.int cap)]) (rest := []) (lenOf pd__III_I rfl) rfl (by show 2 * 0 + _ ≤ _; exact Nat.le_of_eq rfl) (hb hby d31_16) (fun _ _ => ⟨rfl, e2, (by decide : 0 + 0 ≤ _), (by decide : 0 + 0 ≤ _)⟩)
  dsimp only [Pt.U, Pt.locs, Pt.cells, Pt.slots] at X3 l3 y3 z3 st3 hQ3
  subst l3 y3 z3
  obtain ⟨rfl, Nq3, e3⟩ := hQ3
  have N3 := Fr.app N2 Nq3
  obtain ⟨cq4, kq4, qv4a, qv4b, qv4c⟩ := isOf hZ e3 E_a1
  obtain ⟨_, _, ⟨T4, L4, k4, n4⟩, -, X4, ⟨Lc4, hQ4, l4, y4, z4⟩, st4⟩ := X3.virtualBack hx (y := mN12) (z := mN12) hown (mvT hZ (ow hw 121 rfl)) (mvT hZ (ow hw 122 rfl)) (notFace_of_selects (args := #[]) (mvT hZ (ow hw 124 rfl))) (mvT hZ (ow hw 124 rfl)) (mvT hZ (ow hw 123 rfl)) (by decide) (backOf (W := 0) (rm_islU l Z a0 hw [] a1 va kv u0 u1 u2 cs fw h0 n0 Z0 hST O_0 F_value_a1 F_coder_a1 V_va) hZ (ow hw 125 rfl) (ow hw 77 rfl) (by decide) (by decide)) qv4a qv4c (g := (mkF m 21 #[rv a1, iv p1, iv 3, rv pg, iv p2] [(.ref a1)])) rfl (by rw [hml]; rfl) (Steps.refl _) (argsL := []) (rest := []) (lenOf pd___Z rfl) rfl (by show 2 * 0 + _ ≤ _; exact Nat.le_of_eq rfl) (hb hby d31_21) (fun _ _ => ⟨rfl, e3, (by decide : 0 + 0 ≤ _), (by decide : 0 + 0 ≤ _)⟩)
  dsimp only [Pt.U, Pt.locs, Pt.cells, Pt.slots] at X4 l4 y4 z4 st4 hQ4
  subst l4 y4 z4
  obtain ⟨rfl, Nq4, e4⟩ := hQ4
  have N4 := Fr.app N3 Nq4
  obtain ⟨T5, X5, e5, st5⟩ := getF X4 hx hZ hown (host := "") (Or.inl (ow hw 99 rfl)) Via.refl e4 F_value_a1 (g := (mkF m 43 #[rv a1, iv p1, iv 3, rv pg, iv p2] [(.ref a1)])) rfl rfl (hb hby d31_43)
  replace K : OGo p e below A0 T5 (mkF m 48 #[rv a1, iv p1, iv 3, rv pg, iv p2] [(.int 3), (.int p1), (.ref va)]) := fun t k => K t (XS.iloadN X0.here hx rfl (hb hby d31_0) rfl (XS.iloadN X0.here hx rfl (hb hby d31_1) rfl (XS.aloadN X0.here hx rfl (hb hby d31_2) rfl rfl (st1.trans (st2 t (XS.iload X2.here hx rfl (hb hby d31_9) rfl (XS.iloadN X2.here hx rfl (hb hby d31_11) rfl (XS.iloadN X2.here hx rfl (hb hby d31_12) rfl (XS.isub X2.here hx rfl (hb hby d31_13) rfl (XS.aloadN X2.here hx rfl (hb hby d31_14) rfl rfl (own_lenP X2 hx hZ e2 G_pg (g := (mkF m 15 #[rv a1, iv p1, iv 3, rv pg, iv p2] [(.ref pg), (.int ((3 : Int32) - p1)), (.int p2)])) rfl rfl (hb hby d31_15) t (st3 t (Jvm.Free.XT.pop X3.here hx rfl (hb hby d31_19) rfl rfl (XS.aloadN X3.here hx rfl (hb hby d31_20) rfl rfl (st4.trans (XS.ifYes X4.here hx rfl (pc0 := 24) (pc' := 42) rfl (hb hby d31_24) rfl ((if0 _ _).trans (teq ((by decide : (0 : Int32) = (0 : Int32)) : (0 : Int32) = (0 : Int32))).1) (by decide) (by decide) (XS.aloadN X4.here hx rfl (hb hby d31_42) rfl rfl (st5 t (XS.iloadN X5.here hx rfl (hb hby d31_46) rfl (XS.iloadN X5.here hx rfl (hb hby d31_47) rfl k))))))))))))))))))))
  obtain ⟨_, _, ⟨T6, L6, k6, n6⟩, -, X6, ⟨Lc6, hQ6, l6, y6, z6⟩, st6⟩ := Jvm.LawKit.callS X5 hx (y := mN37) hown (mvT hZ (ow hw 183 rfl)) (mvT hZ (ow hw 184 rfl)) (mvT hZ (ow hw 89 rfl)) (mvT hZ (ow hw 185 rfl)) (by decide) (backOf (W := 0) (rm_gc16 l Z a0 hw [] va p1 pg p2 kv u0 u1 u2 kp cap cs fw h0 n0 Z0 hST O_0 V_va G_pg g_pg (own_pw nd0 1 2 (by decide) rfl rfl) hi hp hu) hZ (ow hw 185 rfl) (ow hw 89 rfl) (by decide) (by decide)) (g := (mkF m 51 #[rv a1, iv p1, iv 3, rv pg, iv p2] [(.int p2), (.ref pg), (.int 3), (.int p1), (.ref va)])) rfl (by rw [hml]; rfl) (argsL := [(.ref va), (.int p1), (.int (3 : Int32)), (.ref pg), (.int p2)]) (rest := []) (lenOf pd___BII_CI_V rfl) rfl (by show 2 * 0 + _ ≤ _; exact Nat.le_of_eq rfl) (hb hby d31_51) (fun _ _ => ⟨rfl, e5, (by decide : 0 + 0 ≤ _), (by decide : 0 + 0 ≤ _)⟩)
  dsimp only [Pt.U, Pt.locs, Pt.cells, Pt.slots] at X6 l6 y6 z6 st6 hQ6
  subst l6 y6 z6
  obtain ⟨hp6, e6⟩ : ∃ z, T6.heap = z := ⟨_, rfl⟩
  rw [e6] at hQ6
  obtain ⟨rfl, Nq6, K6, P6_0⟩ := hQ6
  have Z6 : n0 ≤ hp6.size := Nat.le_trans Z0 K6.1
  have Kp6 : Keep h0 hp6 [pg] := (Keep.refl h0 [pg]).trans K6 (allS (Or.inl (List.mem_of_getElem? (i := 0) rfl)) all0)
  have N6 := Fr.app N4 Nq6
  replace K : OGo p e below A0 T6 (mkF m 54 #[rv a1, iv p1, iv 3, rv pg, iv p2] []) := fun t k => K t (XS.aloadN X5.here hx rfl (hb hby d31_48) rfl rfl (XS.iload X5.here hx rfl (hb hby d31_49) rfl (st6 t k)))
  obtain ⟨fs, hr, hrun, hended, hW, hsame⟩ := X6.leave (v := none) (fun _ => rfl)
  subst hA0
  refine ⟨_, _, K _ (X6.returnOut hx Bd.returns (hb hby d31_54) hr), hrun, hended, _, _, rfl, ?_, ⟨_, rfl⟩, hW, hsame.mono (by decide) (by decide)⟩
  show Q_sgU Z a1 p1 pg p2 va kv u0 u1 u2 kp cap cs fw h0 n0 _ T6.heap _
  rw [e6]
  exact ⟨rfl, N6, Kp6, P6_0⟩
theorem ef_5_n2 (m : MethodId) (x0 : Addr) (x1 : Addr) (x3 : Int32) (x4 : Int32) : entryFrame m #[(.ref x0), (.ref x1), .null, (.int x3), (.int x4)] 13 = mkF m 0 #[.val (.ref x0), .val (.ref x1), .val .null, .val (.int x3), .val (.int x4), .unset, .unset, .unset, .unset, .unset, .unset, .unset, .unset] [] := by first | (simp [entryFrame, mkF, argsToLocals, Value.category]; done) | rfl
abbrev Dc5 (i : Nat) (c : Instr) (k : Nat) : Prop := decode prog_89_method_9_code i = .ok (c, k)
theorem d5_0 : Dc5 0 (.aload_n 0) 1 := by decide +kernel
theorem d5_1 : Dc5 1 (.getfield 28) 3 := by decide +kernel
theorem d5_4 : Dc5 4 (.iload 4) 2 := by decide +kernel
theorem d5_6 : Dc5 6 (.iadd) 1 := by decide +kernel
theorem d5_7 : Dc5 7 (.aload_n 0) 1 := by decide +kernel
theorem d5_8 : Dc5 8 (.getfield 25) 3 := by decide +kernel
theorem d5_11 : Dc5 11 (.if_icmp .le 14) 3 := by decide +kernel
theorem d5_14 : Dc5 14 (.aload_n 0) 1 := by decide +kernel
theorem d5_15 : Dc5 15 (.aload_n 0) 1 := by decide +kernel
theorem d5_16 : Dc5 16 (.getfield 28) 3 := by decide +kernel
theorem d5_19 : Dc5 19 (.iload 4) 2 := by decide +kernel
theorem d5_21 : Dc5 21 (.iadd) 1 := by decide +kernel
theorem d5_22 : Dc5 22 (.invokevirtual 92) 3 := by decide +kernel
theorem pd__I_V : parseMethodDescriptor "(I)V" = some ⟨[.int], none⟩ := by decide +kernel
theorem d5_25 : Dc5 25 (.iload_n 3) 1 := by decide +kernel
theorem d5_26 : Dc5 26 (.istore 5) 2 := by decide +kernel
theorem d5_28 : Dc5 28 (.iload_n 3) 1 := by decide +kernel
theorem d5_29 : Dc5 29 (.iload 4) 2 := by decide +kernel
theorem d5_31 : Dc5 31 (.iadd) 1 := by decide +kernel
theorem d5_32 : Dc5 32 (.istore 6) 2 := by decide +kernel
theorem d5_34 : Dc5 34 (.iload 5) 2 := by decide +kernel
theorem d5_36 : Dc5 36 (.iload 6) 2 := by decide +kernel
theorem d5_38 : Dc5 38 (.if_icmp .ge 213) 3 := by decide +kernel
theorem d5_41 : Dc5 41 (.aload_n 0) 1 := by decide +kernel
theorem d5_42 : Dc5 42 (.getfield 28) 3 := by decide +kernel
theorem d5_45 : Dc5 45 (.getstatic 44) 3 := by decide +kernel
theorem d5_48 : Dc5 48 (.iushr) 1 := by decide +kernel
theorem d5_49 : Dc5 49 (.istore 7) 2 := by decide +kernel
theorem d5_51 : Dc5 51 (.aload_n 0) 1 := by decide +kernel
theorem d5_52 : Dc5 52 (.getfield 28) 3 := by decide +kernel
theorem d5_55 : Dc5 55 (.getstatic 47) 3 := by decide +kernel
theorem d5_58 : Dc5 58 (.iand) 1 := by decide +kernel
theorem d5_59 : Dc5 59 (.istore 8) 2 := by decide +kernel
theorem d5_61 : Dc5 61 (.iload 6) 2 := by decide +kernel
theorem d5_63 : Dc5 63 (.iload 5) 2 := by decide +kernel
theorem d5_65 : Dc5 65 (.isub) 1 := by decide +kernel
theorem d5_66 : Dc5 66 (.aload_n 0) 1 := by decide +kernel
theorem d5_67 : Dc5 67 (.iload 7) 2 := by decide +kernel
theorem d5_69 : Dc5 69 (.invokevirtual 50) 3 := by decide +kernel
theorem d5_72 : Dc5 72 (.iload 8) 2 := by decide +kernel
theorem d5_74 : Dc5 74 (.isub) 1 := by decide +kernel
theorem d5_75 : Dc5 75 (.invokestatic 79) 3 := by decide +kernel
theorem d5_78 : Dc5 78 (.istore 9) 2 := by decide +kernel
theorem d5_80 : Dc5 80 (.iconst 0) 1 := by decide +kernel
theorem d5_81 : Dc5 81 (.istore 10) 2 := by decide +kernel
theorem d5_83 : Dc5 83 (.aload_n 0) 1 := by decide +kernel
theorem d5_84 : Dc5 84 (.getfield 9) 3 := by decide +kernel
theorem d5_87 : Dc5 87 (.iload 7) 2 := by decide +kernel
theorem d5_89 : Dc5 89 (.aaload) 1 := by decide +kernel
theorem d5_90 : Dc5 90 (.astore 11) 2 := by decide +kernel
theorem d5_92 : Dc5 92 (.aload 11) 2 := by decide +kernel
theorem d5_94 : Dc5 94 (.ifnull 69) 3 := by decide +kernel
theorem d5_97 : Dc5 97 (.iload 10) 2 := by decide +kernel
theorem d5_99 : Dc5 99 (.iload 9) 2 := by decide +kernel
theorem d5_101 : Dc5 101 (.if_icmp .ge 62) 3 := by decide +kernel
theorem d5_163 : Dc5 163 (.iload 10) 2 := by decide +kernel
theorem d5_165 : Dc5 165 (.iload 9) 2 := by decide +kernel
theorem d5_167 : Dc5 167 (.if_icmp .ge 63) 3 := by decide +kernel
theorem d5_230 : Dc5 230 (.iload 5) 2 := by decide +kernel
theorem d5_232 : Dc5 232 (.iload 9) 2 := by decide +kernel
theorem d5_234 : Dc5 234 (.iadd) 1 := by decide +kernel
theorem d5_235 : Dc5 235 (.istore 5) 2 := by decide +kernel
theorem d5_237 : Dc5 237 (.aload_n 0) 1 := by decide +kernel
theorem d5_238 : Dc5 238 (.dup) 1 := by decide +kernel
theorem d5_239 : Dc5 239 (.getfield 28) 3 := by decide +kernel
theorem d5_242 : Dc5 242 (.iload 9) 2 := by decide +kernel
theorem d5_244 : Dc5 244 (.iadd) 1 := by decide +kernel
theorem d5_245 : Dc5 245 (.putfield 28) 3 := by decide +kernel
theorem d5_248 : Dc5 248 (.goto (-214)) 3 := by decide +kernel
theorem d5_251 : Dc5 251 (.return_) 1 := by decide +kernel
theorem sn_cN0_narrowPages_length {a0 : Array Value} {Z : State} (hw : ∀ d ∈ tables_1, d.before a0 Z = true) : Jvm.RoadKit.slotOf Z cN0 "narrowPages" "[[B" ≠ Jvm.RoadKit.slotOf Z cN0 "length" "I" := slot_ne (Or.inl (ow hw 15 rfl)) (Or.inl (ow hw 39 rfl)) (by decide) (t := (.array (.array .byte))) (t' := .int) (by decide) (by decide)
theorem sn_cN0_widePages_length {a0 : Array Value} {Z : State} (hw : ∀ d ∈ tables_1, d.before a0 Z = true) : Jvm.RoadKit.slotOf Z cN0 "widePages" "[[C" ≠ Jvm.RoadKit.slotOf Z cN0 "length" "I" := slot_ne (Or.inl (ow hw 19 rfl)) (Or.inl (ow hw 39 rfl)) (by decide) (t := (.array (.array .char))) (t' := .int) (by decide) (by decide)
theorem sn_cN0_pageCount_length {a0 : Array Value} {Z : State} (hw : ∀ d ∈ tables_1, d.before a0 Z = true) : Jvm.RoadKit.slotOf Z cN0 "pageCount" "I" ≠ Jvm.RoadKit.slotOf Z cN0 "length" "I" := slot_ne (Or.inl (ow hw 21 rfl)) (Or.inl (ow hw 39 rfl)) (by decide) (t := .int) (t' := .int) (by decide) (by decide)
theorem sn_cN0_capacity_length {a0 : Array Value} {Z : State} (hw : ∀ d ∈ tables_1, d.before a0 Z = true) : Jvm.RoadKit.slotOf Z cN0 "capacity" "I" ≠ Jvm.RoadKit.slotOf Z cN0 "length" "I" := slot_ne (Or.inl (ow hw 23 rfl)) (Or.inl (ow hw 39 rfl)) (by decide) (t := .int) (t' := .int) (by decide) (by decide)
theorem d5_104 : Dc5 104 (.aload_n 1) 1 := by decide +kernel
theorem d5_105 : Dc5 105 (.ifnull 13) 3 := by decide +kernel
theorem d5_108 : Dc5 108 (.aload_n 1) 1 := by decide +kernel
theorem d5_109 : Dc5 109 (.iload 5) 2 := by decide +kernel
theorem d5_111 : Dc5 111 (.iload 10) 2 := by decide +kernel
theorem d5_113 : Dc5 113 (.iadd) 1 := by decide +kernel
theorem d5_114 : Dc5 114 (.caload) 1 := by decide +kernel
theorem d5_115 : Dc5 115 (.goto 12) 3 := by decide +kernel
theorem d5_127 : Dc5 127 (.istore 12) 2 := by decide +kernel
theorem d5_129 : Dc5 129 (.iload 12) 2 := by decide +kernel
theorem d5_131 : Dc5 131 (.sipush 255) 3 := by decide +kernel
theorem d5_134 : Dc5 134 (.if_icmp .le 12) 3 := by decide +kernel
theorem d5_146 : Dc5 146 (.aload 11) 2 := by decide +kernel
theorem d5_148 : Dc5 148 (.iload 8) 2 := by decide +kernel
theorem d5_150 : Dc5 150 (.iload 10) 2 := by decide +kernel
theorem d5_152 : Dc5 152 (.iadd) 1 := by decide +kernel
theorem d5_153 : Dc5 153 (.iload 12) 2 := by decide +kernel
theorem d5_155 : Dc5 155 (.i2b) 1 := by decide +kernel
theorem d5_156 : Dc5 156 (.bastore) 1 := by decide +kernel
theorem d5_157 : Dc5 157 (.iinc 10 1) 3 := by decide +kernel
theorem d5_160 : Dc5 160 (.goto (-63)) 3 := by decide +kernel
def Q_afcNN (Z : State) (a1 : Addr) (x : Addr) (p1 : Int32) (np : Addr) (wp : Addr) (pg : Addr) (kn : ClassId) (kw : ClassId) (kp : ClassId) (cap : Int32) (len : Int32) (kx : ClassId) (u0 : Int32) (u1 : Int32) (u2 : Int32) (cs : Int32) (fw : Value) (h0 : Heap) (n0 : Nat) (v : Option Value) (h : Heap) (L : List Loc) : Prop := v = none ∧ Fr n0 L ∧ ∃ (pgr : Addr) (kpr : ClassId) (cxr : Int32), Keep h0 h [a1, np, wp, pg] ∧ (pgr = pg ∨ h0.size ≤ pgr) ∧ Exa Z h a1 cN0 ∧ Fld Z h a1 cN0 "narrowPages" "[[B" (.ref np) ∧ Fld Z h a1 cN0 "widePages" "[[C" (.ref wp) ∧ Fld Z h a1 cN0 "pageCount" "I" (.int (1 : Int32)) ∧ Fld Z h a1 cN0 "capacity" "I" (.int cxr) ∧ Fld Z h a1 cN0 "length" "I" (.int (len + p1)) ∧ OAr Z h np kn (.array .byte) [(.ref pgr)] ∧ OAr Z h wp kw (.array .char) [.null] ∧ Exa Z h pgr "[B" ∧ OPg Z h pgr kpr .byte cxr ∧ cxr = own_cap len p1 cap
theorem rm_afcNN (l : Launch) (Z : State) (a0 : Array Value) (hw : ∀ d ∈ tables_1, d.before a0 Z = true) (ws : List Jvm.Cond) (a1 : Addr) (x : Addr) (p1 : Int32) (np : Addr) (wp : Addr) (pg : Addr) (kn : ClassId) (kw : ClassId) (kp : ClassId) (cap : Int32) (len : Int32) (kx : ClassId) (u0 : Int32) (u1 : Int32) (u2 : Int32) (cs : Int32) (fw : Value) (h0 : Heap) (n0 : Nat) (Z0 : n0 ≤ h0.size) (hST : own_ST Z cs fw) (O_0 : Old Z n0 h0) (ovn : OvrA Z kn .byte "[B") (ovw : OvrA Z kw .char "[C") (E_a1 : Exa Z h0 a1 cN0) (F_narrowPages_a1 : Fld Z h0 a1 cN0 "narrowPages" "[[B" (.ref np)) (F_widePages_a1 : Fld Z h0 a1 cN0 "widePages" "[[C" (.ref wp)) (F_pageCount_a1 : Fld Z h0 a1 cN0 "pageCount" "I" (.int (1 : Int32))) (F_capacity_a1 : Fld Z h0 a1 cN0 "capacity" "I" (.int cap)) (F_length_a1 : Fld Z h0 a1 cN0 "length" "I" (.int len)) (V_np : OAr Z h0 np kn (.array .byte) [(.ref pg)]) (V_wp : OAr Z h0 wp kw (.array .char) [.null]) (E_pg : Exa Z h0 pg "[B") (G_pg : OPg Z h0 pg kp .byte cap) (V_x : OAr Z h0 x kx .char [(.int u0), (.int u1), (.int u2)]) (g_a1 : n0 ≤ a1) (g_np : n0 ≤ np) (g_wp : n0 ≤ wp) (g_pg : n0 ≤ pg) (nd0 : OND [a1, np, wp, pg, x]) (hI : 0 ≤ cap.toInt ∧ cap.toInt ≤ 15 ∧ 0 ≤ len.toInt ∧ len.toInt ≤ 3 ∧ len.toInt ≤ cap.toInt ∧ 0 ≤ p1.toInt ∧ p1.toInt ≤ 3) (hwd : ¬ own_w u0 u1 u2 p1) (hu : own_ch u0 u1 u2) :
    oM l mN39 prog_89_method_9_code 13 none ws ({ frames := 5, cells := 2, slots := 30, locals := 150 } : Room) #[(.ref a1), (.ref x), .null, (.int (0 : Int32)), (.int p1)] Z h0 (Q_afcNN Z a1 x p1 np wp pg kn kw kp cap len kx u0 u1 u2 cs fw h0 n0) := by
  refine MetFree.of_bodySF (plainFor_of_name pn_com_example_imprint_imprint_tree_PagedText) hisR ?_
  intro p e s m args below meth c s₁ Bd hml0 hP hK
  obtain ⟨rfl, hZ, hh⟩ := hP
  have hx := Bd.exec
  have hby := Bd.bytes
  have hml : c.maxLocals = 13 := hml0
  have hown : s.vm.findClass "com/example/imprint/imprint/tree/PagedText" = some m.cls := findClass_of_methodNamed Bd.named
  have hnm := (name_of_methodNamed Bd.named Bd.method).1
  have X0 : Stand p l e ({ frames := 5, cells := 2, slots := 30, locals := 150 } : Room) s m #[(.ref a1), (.ref x), .null, (.int (0 : Int32)), (.int p1)] below meth c s₁ [] 0 0 := Stand.of_body Bd
  have e0 : s₁.heap = h0 := by rw [← hh, Bd.state]; rfl
  have N0 := Fr.nil n0
  obtain ⟨A0, hA0⟩ : ∃ z, z = s₁.setTop (entryFrame m #[(.ref a1), (.ref x), .null, (.int (0 : Int32)), (.int p1)] 13) := ⟨_, rfl⟩
  have K : OGo p e below A0 s₁ (mkF m 0 #[rv a1, rv x, .val .null, iv 0, iv p1, .unset, .unset, .unset, .unset, .unset, .unset, .unset, .unset] []) := fun t k => hA0 ▸ castTop (ef_5_n2 m a1 x (0 : Int32) p1) k
  have oz := own_t0
  refine cps (A := ∃ (pg2 : Addr) (kp2 : ClassId) (cx : Int32) (Tj1 : State) (hj1 : Heap) (lj1 : List Loc), Stand p l e ({ frames := 5, cells := 2, slots := 30, locals := 150 } : Room) s m #[(.ref a1), (.ref x), .null, (.int (0 : Int32)), (.int p1)] below meth c Tj1 lj1 1 15 ∧ Tj1.heap = hj1 ∧ Fr n0 lj1 ∧ n0 ≤ hj1.size ∧ Keep h0 hj1 [a1, np, wp, pg] ∧ Exa Z hj1 a1 cN0 ∧ Fld Z hj1 a1 cN0 "narrowPages" "[[B" (.ref np) ∧ Fld Z hj1 a1 cN0 "widePages" "[[C" (.ref wp) ∧ Fld Z hj1 a1 cN0 "pageCount" "I" (.int (1 : Int32)) ∧ Fld Z hj1 a1 cN0 "capacity" "I" (.int cx) ∧ Fld Z hj1 a1 cN0 "length" "I" (.int len) ∧ OAr Z hj1 np kn (.array .byte) [(.ref pg2)] ∧ OAr Z hj1 wp kw (.array .char) [.null] ∧ Exa Z hj1 pg2 "[B" ∧ OPg Z hj1 pg2 kp2 .byte cx ∧ OAr Z hj1 x kx .char [(.int u0), (.int u1), (.int u2)] ∧ Old Z n0 hj1 ∧ (pg2 = pg ∨ h0.size ≤ pg2) ∧ n0 ≤ pg2 ∧ OND [a1, np, wp, pg2, x] ∧ cx = own_cap len p1 cap ∧ OGo p e below A0 Tj1 (mkF m 25 #[rv a1, rv x, .val .null, iv 0, iv p1, .unset, .unset, .unset, .unset, .unset, .unset, .unset, .unset] [])) (fun J1 => ?_) ?_
  · obtain ⟨T2, X2, e2, st2⟩ := getF X0 hx hZ hown (host := "") (Or.inl (ow hw 38 rfl)) Via.refl e0 F_length_a1 (g := (mkF m 1 #[rv a1, rv x, .val .null, iv 0, iv p1, .unset, .unset, .unset, .unset, .unset, .unset, .unset, .unset] [(.ref a1)])) rfl rfl (hb hby d5_1)
    obtain ⟨T3, X3, e3, st3⟩ := getF X2 hx hZ hown (host := "") (Or.inl (ow hw 22 rfl)) Via.refl e2 F_capacity_a1 (g := (mkF m 8 #[rv a1, rv x, .val .null, iv 0, iv p1, .unset, .unset, .unset, .unset, .unset, .unset, .unset, .unset] [(.ref a1), (.int (len + p1))])) rfl rfl (hb hby d5_8)
    by_cases hc11 : cap < (len + p1)
    · obtain ⟨T4, X4, e4, st4⟩ := getF X3 hx hZ hown (host := "") (Or.inl (ow hw 38 rfl)) Via.refl e3 F_length_a1 (g := (mkF m 16 #[rv a1, rv x, .val .null, iv 0, iv p1, .unset, .unset, .unset, .unset, .unset, .unset, .unset, .unset] [(.ref a1), (.ref a1)])) rfl rfl (hb hby d5_16)
      have nd6 : OND [a1, np, wp, pg] := (ondS (allS (own_pw nd0 0 1 (by decide) rfl rfl) (allS (own_pw nd0 0 2 (by decide) rfl rfl) (allS (own_pw nd0 0 3 (by decide) rfl rfl) all0))) (ondS (allS (own_pw nd0 1 2 (by decide) rfl rfl) (allS (own_pw nd0 1 3 (by decide) rfl rfl) all0)) (ondS (allS (own_pw nd0 2 3 (by decide) rfl rfl) all0) (ondS all0 ond0))))
      obtain ⟨cq5, qp5, qp5'⟩ := E_a1.cell
      obtain ⟨_, _, ⟨T5, L5, k5, n5⟩, -, X5, ⟨Lc5, hQ5, l5, y5, z5⟩, st5⟩ := X4.privateBack hx (y := mN7) hown (mvT hZ (ow hw 40 rfl)) (mvT hZ (ow hw 41 rfl)) (own_selp hZ (ow hw 2 rfl) (ow hw 42 rfl) (ow hw 41 rfl)) (Cond.privateMethod_at (mvP hZ (ow hw 42 rfl) (args := #[]))) (mvT hZ (ow hw 43 rfl)) (by decide) (backOf (W := 0) (rm_growN l Z a0 hw [] a1 (len + p1) np wp pg kn kw kp cap len cs fw h0 n0 Z0 hST O_0 ovn ovw E_a1 F_narrowPages_a1 F_widePages_a1 F_pageCount_a1 F_capacity_a1 F_length_a1 V_np V_wp E_pg G_pg g_a1 g_np g_wp g_pg nd6 (own_hg hI hc11)) hZ (ow hw 43 rfl) (ow hw 3 rfl) (by decide) (by decide)) (g := (mkF m 22 #[rv a1, rv x, .val .null, iv 0, iv p1, .unset, .unset, .unset, .unset, .unset, .unset, .unset, .unset] [(.int (len + p1)), (.ref a1)])) rfl (by rw [hml]; rfl) (Steps.refl _) (a := a1) (by rw [e4]; exact qp5) qp5' (argsL := [(.int (len + p1))]) (rest := []) (lenOf pd__I_V rfl) rfl (by show 2 * 0 + _ ≤ _; exact Nat.le_of_eq rfl) (hb hby d5_22) (fun _ _ => ⟨rfl, e4, (by decide : 0 + 1 ≤ _), (by decide : 0 + 15 ≤ _)⟩)
      dsimp only [Pt.U, Pt.locs, Pt.cells, Pt.slots] at X5 l5 y5 z5 st5 hQ5
      subst l5 y5 z5
      obtain ⟨hp5, e5⟩ : ∃ z, T5.heap = z := ⟨_, rfl⟩
      rw [e5] at hQ5
      obtain ⟨rfl, Nq5, pg2_5, kp2_5, K5, P5_0, P5_1, P5_2, P5_3, P5_4, P5_5, P5_6, P5_7, P5_8, P5_9, P5_10⟩ := hQ5
      have ne_a1_pg2_5 : a1 ≠ pg2_5 := Nat.ne_of_lt (Nat.lt_of_lt_of_le E_a1.lt P5_0)
      have ne_x_pg2_5 : x ≠ pg2_5 := Nat.ne_of_lt (Nat.lt_of_lt_of_le V_x.lt P5_0)
      have ne_np_pg2_5 : np ≠ pg2_5 := Nat.ne_of_lt (Nat.lt_of_lt_of_le V_np.lt P5_0)
      have ne_wp_pg2_5 : wp ≠ pg2_5 := Nat.ne_of_lt (Nat.lt_of_lt_of_le V_wp.lt P5_0)
      have ne_pg_pg2_5 : pg ≠ pg2_5 := Nat.ne_of_lt (Nat.lt_of_lt_of_le E_pg.lt P5_0)
      have g_pg2_5 : n0 ≤ pg2_5 := Nat.le_trans Z0 P5_0
      have sz_pg2_5 : h0.size ≤ pg2_5 := Nat.le_trans (Keep.refl h0 [a1, np, wp, pg]).1 P5_0
      have Z5 : n0 ≤ hp5.size := Nat.le_trans Z0 K5.1
      have Kp5 : Keep h0 hp5 [a1, np, wp, pg] := (Keep.refl h0 [a1, np, wp, pg]).trans K5 (allS (Or.inl (List.mem_of_getElem? (i := 0) rfl)) (allS (Or.inl (List.mem_of_getElem? (i := 1) rfl)) all0))
      have N5 := Fr.app N0 Nq5
      replace K : OGo p e below A0 T5 (mkF m 25 #[rv a1, rv x, .val .null, iv 0, iv p1, .unset, .unset, .unset, .unset, .unset, .unset, .unset, .unset] []) := fun t k => K t (XS.aloadN X0.here hx rfl (hb hby d5_0) rfl rfl (st2 t (XS.iload X2.here hx rfl (hb hby d5_4) rfl (XS.iadd X2.here hx rfl (hb hby d5_6) rfl (XS.aloadN X2.here hx rfl (hb hby d5_7) rfl rfl (st3 t (XS.icmpNo X3.here hx rfl (hb hby d5_11) rfl (tlt hc11).2.2.2 (XS.aloadN X3.here hx rfl (hb hby d5_14) rfl rfl (XS.aloadN X3.here hx rfl (hb hby d5_15) rfl rfl (st4 t (XS.iload X4.here hx rfl (hb hby d5_19) rfl (XS.iadd X4.here hx rfl (hb hby d5_21) rfl (st5.trans k)))))))))))))
      have V_x_7 := (V_x.keep K5 (ninS (Ne.symm (own_pw nd0 0 4 (by decide) rfl rfl)) (ninS (Ne.symm (own_pw nd0 1 4 (by decide) rfl rfl)) nin0)))
      have O_8 := (O_0.keep K5 (allS g_a1 (allS g_np all0)))
      have nd9 : OND [a1, np, wp, pg2_5, x] := (ondS (allS (own_pw nd0 0 1 (by decide) rfl rfl) (allS (own_pw nd0 0 2 (by decide) rfl rfl) (allS ne_a1_pg2_5 (allS (own_pw nd0 0 4 (by decide) rfl rfl) all0)))) (ondS (allS (own_pw nd0 1 2 (by decide) rfl rfl) (allS ne_np_pg2_5 (allS (own_pw nd0 1 4 (by decide) rfl rfl) all0))) (ondS (allS ne_wp_pg2_5 (allS (own_pw nd0 2 4 (by decide) rfl rfl) all0)) (ondS (allS (Ne.symm ne_x_pg2_5) all0) (ondS all0 ond0)))))
      exact J1 ⟨pg2_5, kp2_5, (own_max (len + p1) (cap * (2 : Int32))), _, _, _, X5, e5, N5, Z5, Kp5, P5_1, P5_2, P5_3, P5_4, P5_5, P5_6, P5_7, P5_8, P5_9, P5_10, V_x_7, O_8, (Or.inr sz_pg2_5), g_pg2_5, nd9, (by simp [own_cap, hc11]), K⟩
    · replace K : OGo p e below A0 T3 (mkF m 25 #[rv a1, rv x, .val .null, iv 0, iv p1, .unset, .unset, .unset, .unset, .unset, .unset, .unset, .unset] []) := fun t k => K t (XS.aloadN X0.here hx rfl (hb hby d5_0) rfl rfl (st2 t (XS.iload X2.here hx rfl (hb hby d5_4) rfl (XS.iadd X2.here hx rfl (hb hby d5_6) rfl (XS.aloadN X2.here hx rfl (hb hby d5_7) rfl rfl (st3 t (XS.icmpYes X3.here hx rfl (pc0 := 11) (pc' := 25) rfl (hb hby d5_11) rfl (flt hc11).2.2.2 (by decide) (by decide) k)))))))
      exact J1 ⟨pg, kp, cap, _, _, _, (X3.more (by decide) (by decide)), e3, N0, Z0, (Keep.refl h0 [a1, np, wp, pg]), E_a1, F_narrowPages_a1, F_widePages_a1, F_pageCount_a1, F_capacity_a1, F_length_a1, V_np, V_wp, E_pg, G_pg, V_x, O_0, (Or.inl rfl), g_pg, nd0, (by simp [own_cap, hc11]), K⟩
  clear K
  rintro ⟨pg2, kp2, cx, Tj1, hj1, lj1, Xj1, ej1, Nj1, Zj1, Kj1, E_a1_j1, F_narrowPages_a1_j1, F_widePages_a1_j1, F_pageCount_a1_j1, F_capacity_a1_j1, F_length_a1_j1, V_np_j1, V_wp_j1, E_pg2_j1, G_pg2_j1, V_x_j1, O_0_j1, or_pg2, g_pg2, nd1, hcx, K⟩
  have hJ := own_capI hI hcx
  replace K : OGo p e below A0 Tj1 (mkF m 32 #[rv a1, rv x, .val .null, iv 0, iv p1, iv 0, .unset, .unset, .unset, .unset, .unset, .unset, .unset] [(.int ((0 : Int32) + p1))]) := fun t k => K t (XS.iloadN Xj1.here hx rfl (hb hby d5_25) rfl (XS.istore Xj1.here hx rfl (hb hby d5_26) rfl (l' := #[rv a1, rv x, .val .null, iv 0, iv p1, iv 0, .unset, .unset, .unset, .unset, .unset, .unset, .unset]) rfl (XS.iloadN Xj1.here hx rfl (hb hby d5_28) rfl (XS.iload Xj1.here hx rfl (hb hby d5_29) rfl (XS.iadd Xj1.here hx rfl (hb hby d5_31) rfl k)))))
  rw [show ((0 : Int32) + p1) = p1 from Int32.zero_add _] at K
  by_cases hc38 : (0 : Int32) < p1
  · obtain ⟨T10, X10, e10, st10⟩ := getF Xj1 hx hZ hown (host := "") (Or.inl (ow hw 38 rfl)) Via.refl ej1 F_length_a1_j1 (g := (mkF m 42 #[rv a1, rv x, .val .null, iv 0, iv p1, iv 0, iv p1, .unset, .unset, .unset, .unset, .unset, .unset] [(.ref a1)])) rfl rfl (hb hby d5_42)
    obtain ⟨T11, X11, e11, st11⟩ := getS2 X10 hx hZ hown (host := "") (Or.inl (ow hw 62 rfl)) Via.refl e10 (hST.pb.ext O_0_j1.2) (g := (mkF m 45 #[rv a1, rv x, .val .null, iv 0, iv p1, iv 0, iv p1, .unset, .unset, .unset, .unset, .unset, .unset] [(.int len)])) rfl (hb hby d5_45)
    replace K : OGo p e below A0 T11 (mkF m 49 #[rv a1, rv x, .val .null, iv 0, iv p1, iv 0, iv p1, .unset, .unset, .unset, .unset, .unset, .unset] [(.int ((len.toUInt32 >>> ((16 : Int32) &&& 31).toUInt32).toInt32))]) := fun t k => K t (XS.istore Xj1.here hx rfl (hb hby d5_32) rfl (l' := #[rv a1, rv x, .val .null, iv 0, iv p1, iv 0, iv p1, .unset, .unset, .unset, .unset, .unset, .unset]) rfl (XS.iload Xj1.here hx rfl (hb hby d5_34) rfl (XS.iload Xj1.here hx rfl (hb hby d5_36) rfl (XS.icmpNo Xj1.here hx rfl (hb hby d5_38) rfl (tlt hc38).2.1 (XS.aloadN Xj1.here hx rfl (hb hby d5_41) rfl rfl (st10 t (st11 t (XS.iushr X11.here hx rfl (hb hby d5_48) rfl k))))))))
    rw [show ((len.toUInt32 >>> ((16 : Int32) &&& 31).toUInt32).toInt32) = (0 : Int32) from own_s16 hI] at K
    obtain ⟨T12, X12, e12, st12⟩ := getF X11 hx hZ hown (host := "") (Or.inl (ow hw 38 rfl)) Via.refl e11 F_length_a1_j1 (g := (mkF m 52 #[rv a1, rv x, .val .null, iv 0, iv p1, iv 0, iv p1, iv 0, .unset, .unset, .unset, .unset, .unset] [(.ref a1)])) rfl rfl (hb hby d5_52)
    obtain ⟨T13, X13, e13, st13⟩ := getS2 X12 hx hZ hown (host := "") (Or.inl (ow hw 64 rfl)) Via.refl e12 (hST.om.ext O_0_j1.2) (g := (mkF m 55 #[rv a1, rv x, .val .null, iv 0, iv p1, iv 0, iv p1, iv 0, .unset, .unset, .unset, .unset, .unset] [(.int len)])) rfl (hb hby d5_55)
    replace K : OGo p e below A0 T13 (mkF m 59 #[rv a1, rv x, .val .null, iv 0, iv p1, iv 0, iv p1, iv 0, .unset, .unset, .unset, .unset, .unset] [(.int (len &&& (65535 : Int32)))]) := fun t k => K t (XS.istore X11.here hx rfl (hb hby d5_49) rfl (l' := #[rv a1, rv x, .val .null, iv 0, iv p1, iv 0, iv p1, iv 0, .unset, .unset, .unset, .unset, .unset]) rfl (XS.aloadN X11.here hx rfl (hb hby d5_51) rfl rfl (st12 t (st13 t (XS.iand X13.here hx rfl (hb hby d5_58) rfl k)))))
    rw [show (len &&& (65535 : Int32)) = len from own_m16 hI] at K
    replace K : OGo p e below A0 T13 (mkF m 66 #[rv a1, rv x, .val .null, iv 0, iv p1, iv 0, iv p1, iv 0, iv len, .unset, .unset, .unset, .unset] [(.int (p1 - (0 : Int32)))]) := fun t k => K t (XS.istore X13.here hx rfl (hb hby d5_59) rfl (l' := #[rv a1, rv x, .val .null, iv 0, iv p1, iv 0, iv p1, iv 0, iv len, .unset, .unset, .unset, .unset]) rfl (XS.iload X13.here hx rfl (hb hby d5_61) rfl (XS.iload X13.here hx rfl (hb hby d5_63) rfl (XS.isub X13.here hx rfl (hb hby d5_65) rfl k))))
    rw [show (p1 - (0 : Int32)) = p1 from Int32.sub_zero _] at K
    obtain ⟨cq14, qp14, qp14'⟩ := E_a1_j1.cell
    obtain ⟨_, _, ⟨T14, L14, k14, n14⟩, -, X14, ⟨Lc14, hQ14, l14, y14, z14⟩, st14⟩ := X13.privateBack hx (y := mN6) hown (mvT hZ (ow hw 66 rfl)) (mvT hZ (ow hw 67 rfl)) (own_selp hZ (ow hw 2 rfl) (ow hw 68 rfl) (ow hw 67 rfl)) (Cond.privateMethod_at (mvP hZ (ow hw 68 rfl) (args := #[]))) (mvT hZ (ow hw 69 rfl)) (by decide) (backOf (W := 1) (rm_plenN l Z a0 hw [] a1 np wp pg2 kn kw kp2 cx len hj1 n0 Zj1 E_a1_j1 F_narrowPages_a1_j1 F_widePages_a1_j1 F_pageCount_a1_j1 F_capacity_a1_j1 F_length_a1_j1 V_np_j1 V_wp_j1 E_pg2_j1 G_pg2_j1) hZ (ow hw 69 rfl) (ow hw 3 rfl) (by decide) (by decide)) (g := (mkF m 69 #[rv a1, rv x, .val .null, iv 0, iv p1, iv 0, iv p1, iv 0, iv len, .unset, .unset, .unset, .unset] [(.int 0), (.ref a1), (.int p1)])) rfl (by rw [hml]; rfl) (Steps.refl _) (a := a1) (by rw [e13]; exact qp14) qp14' (argsL := [(.int (0 : Int32))]) (rest := [(.int p1)]) (lenOf pd__I_I rfl) rfl (by show 2 * 0 + _ ≤ _; exact Nat.le_of_eq rfl) (hb hby d5_69) (fun _ _ => ⟨rfl, e13, (by decide : 1 + 0 ≤ _), (by decide : 15 + 0 ≤ _)⟩)
    dsimp only [Pt.U, Pt.locs, Pt.cells, Pt.slots] at X14 l14 y14 z14 st14 hQ14
    subst l14 y14 z14
    obtain ⟨rfl, Nq14, e14⟩ := hQ14
    have N14 := Fr.app Nj1 Nq14
    obtain ⟨_, _, ⟨T15, L15, k15, n15⟩, -, X15, ⟨Lc15, hQ15, l15, y15, z15⟩, st15⟩ := Jvm.LawKit.callS X14 hx (y := mN0) hown (mvT hZ (ow hw 50 rfl)) (mvT hZ (ow hw 51 rfl)) (mvT hZ (ow hw 48 rfl)) (mvT hZ (ow hw 52 rfl)) (by decide) (backOf (W := 0) (rm_min l Z a0 hw [] p1 (cx - len) hj1 n0 Zj1 ) hZ (ow hw 52 rfl) (ow hw 48 rfl) (by decide) (by decide)) (g := (mkF m 75 #[rv a1, rv x, .val .null, iv 0, iv p1, iv 0, iv p1, iv 0, iv len, .unset, .unset, .unset, .unset] [(.int (cx - len)), (.int p1)])) rfl (by rw [hml]; rfl) (argsL := [(.int p1), (.int (cx - len))]) (rest := []) (lenOf pd__II_I rfl) rfl (by show 2 * 0 + _ ≤ _; exact Nat.le_of_eq rfl) (hb hby d5_75) (fun _ _ => ⟨rfl, e14, (by decide : 1 + 0 ≤ _), (by decide : 15 + 0 ≤ _)⟩)
    dsimp only [Pt.U, Pt.locs, Pt.cells, Pt.slots] at X15 l15 y15 z15 st15 hQ15
    subst l15 y15 z15
    obtain ⟨rfl, Nq15, e15⟩ := hQ15
    have N15 := Fr.app N14 Nq15
    replace K : OGo p e below A0 T15 (mkF m 78 #[rv a1, rv x, .val .null, iv 0, iv p1, iv 0, iv p1, iv 0, iv len, .unset, .unset, .unset, .unset] [(.int (own_min p1 (cx - len)))]) := fun t k => K t (XS.aloadN X13.here hx rfl (hb hby d5_66) rfl rfl (XS.iload X13.here hx rfl (hb hby d5_67) rfl (st14.trans (XS.iload X14.here hx rfl (hb hby d5_72) rfl (XS.isub X14.here hx rfl (hb hby d5_74) rfl (st15 t k))))))
    rw [show (own_min p1 (cx - len)) = p1 from own_minl (by rw [own_subI (a := cx) (b := len) (by omega)]; omega)] at K
    obtain ⟨T16, X16, e16, st16⟩ := getF X15 hx hZ hown (host := "") (Or.inl (ow hw 14 rfl)) Via.refl e15 F_narrowPages_a1_j1 (g := (mkF m 84 #[rv a1, rv x, .val .null, iv 0, iv p1, iv 0, iv p1, iv 0, iv len, iv p1, iv 0, .unset, .unset] [(.ref a1)])) rfl rfl (hb hby d5_84)
    replace K : OGo p e below A0 T16 (mkF m 97 #[rv a1, rv x, .val .null, iv 0, iv p1, iv 0, iv p1, iv 0, iv len, iv p1, iv 0, rv pg2, .unset] []) := fun t k => K t (XS.istore X15.here hx rfl (hb hby d5_78) rfl (l' := #[rv a1, rv x, .val .null, iv 0, iv p1, iv 0, iv p1, iv 0, iv len, iv p1, .unset, .unset, .unset]) rfl (XS.iconst X15.here hx rfl (hb hby d5_80) (XS.istore X15.here hx rfl (hb hby d5_81) rfl (l' := #[rv a1, rv x, .val .null, iv 0, iv p1, iv 0, iv p1, iv 0, iv len, iv p1, iv 0, .unset, .unset]) rfl (XS.aloadN X15.here hx rfl (hb hby d5_83) rfl rfl (st16 t (XS.iload X16.here hx rfl (hb hby d5_87) rfl (own_ldA X16 hx hZ e16 V_np_j1 rfl (j := (0 : Int32)) (v := (.ref pg2)) (by decide) rfl (g := (mkF m 89 #[rv a1, rv x, .val .null, iv 0, iv p1, iv 0, iv p1, iv 0, iv len, iv p1, iv 0, .unset, .unset] [(.int 0), (.ref np)])) rfl rfl (hb hby d5_89) t (XS.astore X16.here hx rfl (hb hby d5_90) rfl rfl (l' := #[rv a1, rv x, .val .null, iv 0, iv p1, iv 0, iv p1, iv 0, iv len, iv p1, iv 0, rv pg2, .unset]) rfl (XS.aload X16.here hx rfl (hb hby d5_92) rfl rfl (XS.ifnullNo X16.here hx rfl (hb hby d5_94) rfl k))))))))))
    obtain ⟨nF17, ix, sl, Tl17, hl17, ll17, hI17⟩ : ∃ (nF17 : Nat) (ix : Int32) (sl : Slot) (Tl17 : State) (hl17 : Heap) (ll17 : List Loc), Stand p l e ({ frames := 5, cells := 2, slots := 30, locals := 150 } : Room) s m #[(.ref a1), (.ref x), .null, (.int (0 : Int32)), (.int p1)] below meth c Tl17 ll17 1 15 ∧ Tl17.heap = hl17 ∧ Fr n0 ll17 ∧ n0 ≤ hl17.size ∧ Keep h0 hl17 [a1, np, wp, pg] ∧ Exa Z hl17 a1 cN0 ∧ Fld Z hl17 a1 cN0 "narrowPages" "[[B" (.ref np) ∧ Fld Z hl17 a1 cN0 "widePages" "[[C" (.ref wp) ∧ Fld Z hl17 a1 cN0 "pageCount" "I" (.int (1 : Int32)) ∧ Fld Z hl17 a1 cN0 "capacity" "I" (.int cx) ∧ Fld Z hl17 a1 cN0 "length" "I" (.int len) ∧ OAr Z hl17 np kn (.array .byte) [(.ref pg2)] ∧ OAr Z hl17 wp kw (.array .char) [.null] ∧ Exa Z hl17 pg2 "[B" ∧ OPg Z hl17 pg2 kp2 .byte cx ∧ OAr Z hl17 x kx .char [(.int u0), (.int u1), (.int u2)] ∧ Old Z n0 hl17 ∧ (p1.toInt = ix.toInt + (nF17 : Int) ∧ 0 ≤ ix.toInt) ∧ (sl = .unset ∨ ∃ z : Int32, sl = iv z) ∧ OGo p e below A0 Tl17 (mkF m 97 #[rv a1, rv x, .val .null, iv 0, iv p1, iv 0, iv p1, iv 0, iv len, iv p1, iv ix, rv pg2, sl] []) := ⟨p1.toNatClampNeg, (0 : Int32), .unset, _, _, _, X16, e16, N15, Zj1, Kj1, E_a1_j1, F_narrowPages_a1_j1, F_widePages_a1_j1, F_pageCount_a1_j1, F_capacity_a1_j1, F_length_a1_j1, V_np_j1, V_wp_j1, E_pg2_j1, G_pg2_j1, V_x_j1, O_0_j1, (own_f1 (by omega)), (Or.inl rfl), K⟩
    clear K
    induction nF17 generalizing ix sl Tl17 hl17 ll17 with
    | zero =>
      obtain ⟨Xl17, el17, Nl17, Zl17, Kl17, E_a1_l17, F_narrowPages_a1_l17, F_widePages_a1_l17, F_pageCount_a1_l17, F_capacity_a1_l17, F_length_a1_l17, V_np_l17, V_wp_l17, E_pg2_l17, G_pg2_l17, V_x_l17, O_0_l17, hF, hsl, K⟩ := hI17
      replace K : OGo p e below A0 Tl17 (mkF m 235 #[rv a1, rv x, .val .null, iv 0, iv p1, iv 0, iv p1, iv 0, iv len, iv p1, iv ix, rv pg2, sl] [(.int ((0 : Int32) + p1))]) := fun t k => K t (XS.iload Xl17.here hx rfl (hb hby d5_97) rfl (XS.iload Xl17.here hx rfl (hb hby d5_99) rfl (XS.icmpYes Xl17.here hx rfl (pc0 := 101) (pc' := 163) rfl (hb hby d5_101) rfl (flt ((own_nlt (by omega)) : ¬ (ix < p1))).2.1 (by decide) (by decide) (XS.iload Xl17.here hx rfl (hb hby d5_163) rfl (XS.iload Xl17.here hx rfl (hb hby d5_165) rfl (XS.icmpYes Xl17.here hx rfl (pc0 := 167) (pc' := 230) rfl (hb hby d5_167) rfl (flt ((own_nlt (by omega)) : ¬ (ix < p1))).2.1 (by decide) (by decide) (XS.iload Xl17.here hx rfl (hb hby d5_230) rfl (XS.iload Xl17.here hx rfl (hb hby d5_232) rfl (XS.iadd Xl17.here hx rfl (hb hby d5_234) rfl k)))))))))
      rw [show ((0 : Int32) + p1) = p1 from Int32.zero_add _] at K
      obtain ⟨T18, X18, e18, st18⟩ := getF Xl17 hx hZ hown (host := "") (Or.inl (ow hw 38 rfl)) Via.refl el17 F_length_a1_l17 (g := (mkF m 239 #[rv a1, rv x, .val .null, iv 0, iv p1, iv p1, iv p1, iv 0, iv len, iv p1, iv ix, rv pg2, sl] [(.ref a1), (.ref a1)])) rfl rfl (hb hby d5_239)
      obtain ⟨T19, h19, X19, e19, W19, st19⟩ := putF X18 hx hZ hown (host := "") (Or.inl (ow hw 38 rfl)) Via.refl e18 F_length_a1_l17 E_a1_l17 (Or.inl (ow hw 39 rfl)) (ow hw 2 rfl) (ty := .int) (by decide) rfl rfl (g := (mkF m 245 #[rv a1, rv x, .val .null, iv 0, iv p1, iv p1, iv p1, iv 0, iv len, iv p1, iv ix, rv pg2, sl] [(.int (len + p1)), (.ref a1)])) rfl rfl (hb hby d5_245)
      have Z19 : n0 ≤ h19.size := Nat.le_trans Zl17 (Keep.of_wr W19).1
      have Kp19 : Keep h0 h19 [a1, np, wp, pg] := Kl17.wr W19 (Or.inl (List.mem_of_getElem? (i := 0) rfl))
      have F_length_a1_19 := F_length_a1_l17.same W19
      have N19 := Fr.snoc X19 Nl17 g_a1
      replace K : OGo p e below A0 T19 (mkF m 251 #[rv a1, rv x, .val .null, iv 0, iv p1, iv p1, iv p1, iv 0, iv len, iv p1, iv ix, rv pg2, sl] []) := fun t k => K t (XS.istore Xl17.here hx rfl (hb hby d5_235) rfl (l' := #[rv a1, rv x, .val .null, iv 0, iv p1, iv p1, iv p1, iv 0, iv len, iv p1, iv ix, rv pg2, sl]) rfl (XS.aloadN Xl17.here hx rfl (hb hby d5_237) rfl rfl (XS.dup Xl17.here hx rfl (hb hby d5_238) rfl rfl (st18 t (XS.iload X18.here hx rfl (hb hby d5_242) rfl (XS.iadd X18.here hx rfl (hb hby d5_244) rfl (st19 t (XS.goto X19.here hx rfl (pc0 := 248) (pc' := 34) rfl (hb hby d5_248) (by decide) (by decide) (XS.iload X19.here hx rfl (hb hby d5_34) rfl (XS.iload X19.here hx rfl (hb hby d5_36) rfl (XS.icmpYes X19.here hx rfl (pc0 := 38) (pc' := 251) rfl (hb hby d5_38) rfl (flt ((own_nlt (Int.le_refl _)) : ¬ (p1 < p1))).2.1 (by decide) (by decide) k)))))))))))
      have E_a1_l17_20 := (E_a1_l17.wr W19)
      have F_narrowPages_a1_l17_21 := (F_narrowPages_a1_l17.other W19 (Or.inr (sn_cN0_narrowPages_length hw)))
      have F_widePages_a1_l17_22 := (F_widePages_a1_l17.other W19 (Or.inr (sn_cN0_widePages_length hw)))
      have F_pageCount_a1_l17_23 := (F_pageCount_a1_l17.other W19 (Or.inr (sn_cN0_pageCount_length hw)))
      have F_capacity_a1_l17_24 := (F_capacity_a1_l17.other W19 (Or.inr (sn_cN0_capacity_length hw)))
      have V_np_l17_25 := (V_np_l17.other W19 (Ne.symm (own_pw nd0 0 1 (by decide) rfl rfl)))
      have V_wp_l17_26 := (V_wp_l17.other W19 (Ne.symm (own_pw nd0 0 2 (by decide) rfl rfl)))
      have E_pg2_l17_27 := (E_pg2_l17.wr W19)
      have G_pg2_l17_28 := (G_pg2_l17.other W19 (Ne.symm (own_pw nd1 0 3 (by decide) rfl rfl)))
      obtain ⟨fs, hr, hrun, hended, hW, hsame⟩ := X19.leave (v := none) (fun _ => rfl)
      subst hA0
      refine ⟨_, _, K _ (X19.returnOut hx Bd.returns (hb hby d5_251) hr), hrun, hended, _, _, rfl, ?_, ⟨_, rfl⟩, hW, hsame.mono (by decide) (by decide)⟩
      show Q_afcNN Z a1 x p1 np wp pg kn kw kp cap len kx u0 u1 u2 cs fw h0 n0 _ T19.heap _
      rw [e19]
      exact ⟨rfl, N19, pg2, kp2, cx, Kp19, or_pg2, E_a1_l17_20, F_narrowPages_a1_l17_21, F_widePages_a1_l17_22, F_pageCount_a1_l17_23, F_capacity_a1_l17_24, F_length_a1_19, V_np_l17_25, V_wp_l17_26, E_pg2_l17_27, G_pg2_l17_28, hcx⟩
    | succ nF17 ih17 =>
      obtain ⟨Xl17, el17, Nl17, Zl17, Kl17, E_a1_l17, F_narrowPages_a1_l17, F_widePages_a1_l17, F_pageCount_a1_l17, F_capacity_a1_l17, F_length_a1_l17, V_np_l17, V_wp_l17, E_pg2_l17, G_pg2_l17, V_x_l17, O_0_l17, hF, hsl, K⟩ := hI17
      replace K : OGo p e below A0 Tl17 (mkF m 114 #[rv a1, rv x, .val .null, iv 0, iv p1, iv 0, iv p1, iv 0, iv len, iv p1, iv ix, rv pg2, sl] [(.int ((0 : Int32) + ix)), (.ref x)]) := fun t k => K t (XS.iload Xl17.here hx rfl (hb hby d5_97) rfl (XS.iload Xl17.here hx rfl (hb hby d5_99) rfl (XS.icmpNo Xl17.here hx rfl (hb hby d5_101) rfl (tlt ((own_lt (by omega)) : ix < p1)).2.1 (XS.aloadN Xl17.here hx rfl (hb hby d5_104) rfl rfl (XS.ifnullNo Xl17.here hx rfl (hb hby d5_105) rfl (XS.aloadN Xl17.here hx rfl (hb hby d5_108) rfl rfl (XS.iload Xl17.here hx rfl (hb hby d5_109) rfl (XS.iload Xl17.here hx rfl (hb hby d5_111) rfl (XS.iadd Xl17.here hx rfl (hb hby d5_113) rfl k)))))))))
      rw [show ((0 : Int32) + ix) = ix from Int32.zero_add _] at K
      obtain ⟨T29, h29, X29, e29, W29, G29, st29⟩ := own_stBp Xl17 hx hZ el17 G_pg2_l17 (j := (len + ix)) (own_nn (by rw [own_addI (a := len) (b := ix) (by omega)]; omega)) (own_ltN (by rw [own_addI (a := len) (b := ix) (by omega)]; omega)) (g := (mkF m 156 #[rv a1, rv x, .val .null, iv 0, iv p1, iv 0, iv p1, iv 0, iv len, iv p1, iv ix, rv pg2, iv (own_at u0 u1 u2 ix)] [(.int ((own_at u0 u1 u2 ix).toInt8.toInt32)), (.int (len + ix)), (.ref pg2)])) rfl rfl (hb hby d5_156)
      have Z29 : n0 ≤ h29.size := Nat.le_trans Zl17 (Keep.of_wr W29).1
      have Kp29 : Keep h0 h29 [a1, np, wp, pg] := Kl17.wr W29 (own_orin or_pg2 (List.mem_of_getElem? (i := 3) rfl))
      have N29 := Fr.snoc X29 Nl17 g_pg2
      replace K : OGo p e below A0 T29 (mkF m 97 #[rv a1, rv x, .val .null, iv 0, iv p1, iv 0, iv p1, iv 0, iv len, iv p1, iv (ix + (1 : Int32)), rv pg2, iv (own_at u0 u1 u2 ix)] []) := fun t k => K t (own_ldC Xl17 hx hZ el17 V_x_l17 (j := ix) (v := (.int (own_at u0 u1 u2 ix))) (own_nn hF.2) (own_atget (by omega)) (g := (mkF m 114 #[rv a1, rv x, .val .null, iv 0, iv p1, iv 0, iv p1, iv 0, iv len, iv p1, iv ix, rv pg2, sl] [(.int ix), (.ref x)])) rfl rfl (hb hby d5_114) t (XS.goto Xl17.here hx rfl (pc0 := 115) (pc' := 127) rfl (hb hby d5_115) (by decide) (by decide) (XS.istore Xl17.here hx rfl (hb hby d5_127) rfl (l' := #[rv a1, rv x, .val .null, iv 0, iv p1, iv 0, iv p1, iv 0, iv len, iv p1, iv ix, rv pg2, iv (own_at u0 u1 u2 ix)]) (by rcases hsl with rfl | ⟨_, rfl⟩ <;> rfl) (XS.iload Xl17.here hx rfl (hb hby d5_129) rfl (XS.sipush Xl17.here hx rfl (hb hby d5_131) (XS.icmpYes Xl17.here hx rfl (pc0 := 134) (pc' := 146) rfl (hb hby d5_134) rfl (flt ((own_nwat hwd (by omega)) : ¬ ((255 : Int32) < (own_at u0 u1 u2 ix)))).2.2.2 (by decide) (by decide) (XS.aload Xl17.here hx rfl (hb hby d5_146) rfl rfl (XS.iload Xl17.here hx rfl (hb hby d5_148) rfl (XS.iload Xl17.here hx rfl (hb hby d5_150) rfl (XS.iadd Xl17.here hx rfl (hb hby d5_152) rfl (XS.iload Xl17.here hx rfl (hb hby d5_153) rfl (XS.i2b Xl17.here hx rfl (hb hby d5_155) rfl (st29 t (XS.iinc X29.here hx rfl (hb hby d5_157) rfl (l' := #[rv a1, rv x, .val .null, iv 0, iv p1, iv 0, iv p1, iv 0, iv len, iv p1, iv (ix + (1 : Int32)), rv pg2, iv (own_at u0 u1 u2 ix)]) rfl (XS.goto X29.here hx rfl (pc0 := 160) (pc' := 97) rfl (hb hby d5_160) (by decide) (by decide) k)))))))))))))))
      have E_a1_l17_30 := (E_a1_l17.wr W29)
      have F_narrowPages_a1_l17_31 := (F_narrowPages_a1_l17.other W29 (Or.inl (own_pw nd1 0 3 (by decide) rfl rfl)))
      have F_widePages_a1_l17_32 := (F_widePages_a1_l17.other W29 (Or.inl (own_pw nd1 0 3 (by decide) rfl rfl)))
      have F_pageCount_a1_l17_33 := (F_pageCount_a1_l17.other W29 (Or.inl (own_pw nd1 0 3 (by decide) rfl rfl)))
      have F_capacity_a1_l17_34 := (F_capacity_a1_l17.other W29 (Or.inl (own_pw nd1 0 3 (by decide) rfl rfl)))
      have F_length_a1_l17_35 := (F_length_a1_l17.other W29 (Or.inl (own_pw nd1 0 3 (by decide) rfl rfl)))
      have V_np_l17_36 := (V_np_l17.other W29 (own_pw nd1 1 3 (by decide) rfl rfl))
      have V_wp_l17_37 := (V_wp_l17.other W29 (own_pw nd1 2 3 (by decide) rfl rfl))
      have E_pg2_l17_38 := (E_pg2_l17.wr W29)
      have V_x_l17_39 := (V_x_l17.other W29 (Ne.symm (own_pw nd1 3 4 (by decide) rfl rfl)))
      have O_0_l17_40 := (O_0_l17.wr W29 g_pg2)
      exact ih17 (ix + (1 : Int32)) (iv (own_at u0 u1 u2 ix)) _ _ _ ⟨X29, e29, N29, Z29, Kp29, E_a1_l17_30, F_narrowPages_a1_l17_31, F_widePages_a1_l17_32, F_pageCount_a1_l17_33, F_capacity_a1_l17_34, F_length_a1_l17_35, V_np_l17_36, V_wp_l17_37, E_pg2_l17_38, G29, V_x_l17_39, O_0_l17_40, (by have := own_inc (i := ix) (by omega); omega), (Or.inr ⟨_, rfl⟩), K⟩
  · replace K : OGo p e below A0 Tj1 (mkF m 251 #[rv a1, rv x, .val .null, iv 0, iv p1, iv 0, iv p1, .unset, .unset, .unset, .unset, .unset, .unset] []) := fun t k => K t (XS.istore Xj1.here hx rfl (hb hby d5_32) rfl (l' := #[rv a1, rv x, .val .null, iv 0, iv p1, iv 0, iv p1, .unset, .unset, .unset, .unset, .unset, .unset]) rfl (XS.iload Xj1.here hx rfl (hb hby d5_34) rfl (XS.iload Xj1.here hx rfl (hb hby d5_36) rfl (XS.icmpYes Xj1.here hx rfl (pc0 := 38) (pc' := 251) rfl (hb hby d5_38) rfl (flt hc38).2.1 (by decide) (by decide) k))))
    have F_length_a1_41 : Fld Z hj1 a1 cN0 "length" "I" (.int (len + p1)) := by rw [own_lz hI hc38]; exact F_length_a1_j1
    obtain ⟨fs, hr, hrun, hended, hW, hsame⟩ := Xj1.leave (v := none) (fun _ => rfl)
    subst hA0
    refine ⟨_, _, K _ (Xj1.returnOut hx Bd.returns (hb hby d5_251) hr), hrun, hended, _, _, rfl, ?_, ⟨_, rfl⟩, hW, hsame.mono (by decide) (by decide)⟩
    show Q_afcNN Z a1 x p1 np wp pg kn kw kp cap len kx u0 u1 u2 cs fw h0 n0 _ Tj1.heap _
    rw [ej1]
    exact ⟨rfl, Nj1, pg2, kp2, cx, Kj1, or_pg2, E_a1_j1, F_narrowPages_a1_j1, F_widePages_a1_j1, F_pageCount_a1_j1, F_capacity_a1_j1, F_length_a1_41, V_np_j1, V_wp_j1, E_pg2_j1, G_pg2_j1, hcx⟩
theorem d5_137 : Dc5 137 (.aload_n 0) 1 := by decide +kernel
theorem d5_138 : Dc5 138 (.iload 7) 2 := by decide +kernel
theorem d5_140 : Dc5 140 (.invokevirtual 99) 3 := by decide +kernel
theorem d5_143 : Dc5 143 (.goto 20) 3 := by decide +kernel
theorem d5_170 : Dc5 170 (.iload 5) 2 := by decide +kernel
theorem d5_172 : Dc5 172 (.iload 10) 2 := by decide +kernel
theorem d5_174 : Dc5 174 (.iadd) 1 := by decide +kernel
theorem d5_175 : Dc5 175 (.istore 12) 2 := by decide +kernel
theorem d5_177 : Dc5 177 (.aload_n 1) 1 := by decide +kernel
theorem d5_178 : Dc5 178 (.ifnull 29) 3 := by decide +kernel
theorem d5_181 : Dc5 181 (.aload_n 1) 1 := by decide +kernel
theorem d5_182 : Dc5 182 (.iload 12) 2 := by decide +kernel
theorem d5_184 : Dc5 184 (.aload_n 0) 1 := by decide +kernel
theorem d5_185 : Dc5 185 (.getfield 17) 3 := by decide +kernel
theorem d5_188 : Dc5 188 (.iload 7) 2 := by decide +kernel
theorem d5_190 : Dc5 190 (.aaload) 1 := by decide +kernel
theorem d5_191 : Dc5 191 (.iload 8) 2 := by decide +kernel
theorem d5_193 : Dc5 193 (.iload 10) 2 := by decide +kernel
theorem d5_195 : Dc5 195 (.iadd) 1 := by decide +kernel
theorem d5_196 : Dc5 196 (.iload 9) 2 := by decide +kernel
theorem d5_198 : Dc5 198 (.iload 10) 2 := by decide +kernel
theorem d5_200 : Dc5 200 (.isub) 1 := by decide +kernel
theorem d5_201 : Dc5 201 (.invokestatic 102) 3 := by decide +kernel
theorem d5_204 : Dc5 204 (.goto 26) 3 := by decide +kernel
def Q_afcNW (Z : State) (a1 : Addr) (x : Addr) (p1 : Int32) (np : Addr) (wp : Addr) (pg : Addr) (kn : ClassId) (kw : ClassId) (kp : ClassId) (cap : Int32) (len : Int32) (kx : ClassId) (u0 : Int32) (u1 : Int32) (u2 : Int32) (cs : Int32) (fw : Value) (h0 : Heap) (n0 : Nat) (v : Option Value) (h : Heap) (L : List Loc) : Prop := v = none ∧ Fr n0 L ∧ ∃ (pgr : Addr) (kpr : ClassId) (cxr : Int32), Keep h0 h [a1, np, wp, pg] ∧ (pgr = pg ∨ h0.size ≤ pgr) ∧ Exa Z h a1 cN0 ∧ Fld Z h a1 cN0 "narrowPages" "[[B" (.ref np) ∧ Fld Z h a1 cN0 "widePages" "[[C" (.ref wp) ∧ Fld Z h a1 cN0 "pageCount" "I" (.int (1 : Int32)) ∧ Fld Z h a1 cN0 "capacity" "I" (.int cxr) ∧ Fld Z h a1 cN0 "length" "I" (.int (len + p1)) ∧ OAr Z h np kn (.array .byte) [.null] ∧ OAr Z h wp kw (.array .char) [(.ref pgr)] ∧ Exa Z h pgr "[C" ∧ OPg Z h pgr kpr .char cxr ∧ cxr = own_cap len p1 cap
theorem rm_afcNW (l : Launch) (Z : State) (a0 : Array Value) (hw : ∀ d ∈ tables_1, d.before a0 Z = true) (ws : List Jvm.Cond) (a1 : Addr) (x : Addr) (p1 : Int32) (np : Addr) (wp : Addr) (pg : Addr) (kn : ClassId) (kw : ClassId) (kp : ClassId) (cap : Int32) (len : Int32) (kx : ClassId) (u0 : Int32) (u1 : Int32) (u2 : Int32) (cs : Int32) (fw : Value) (h0 : Heap) (n0 : Nat) (Z0 : n0 ≤ h0.size) (hST : own_ST Z cs fw) (O_0 : Old Z n0 h0) (ovn : OvrA Z kn .byte "[B") (ovw : OvrA Z kw .char "[C") (E_a1 : Exa Z h0 a1 cN0) (F_narrowPages_a1 : Fld Z h0 a1 cN0 "narrowPages" "[[B" (.ref np)) (F_widePages_a1 : Fld Z h0 a1 cN0 "widePages" "[[C" (.ref wp)) (F_pageCount_a1 : Fld Z h0 a1 cN0 "pageCount" "I" (.int (1 : Int32))) (F_capacity_a1 : Fld Z h0 a1 cN0 "capacity" "I" (.int cap)) (F_length_a1 : Fld Z h0 a1 cN0 "length" "I" (.int len)) (V_np : OAr Z h0 np kn (.array .byte) [(.ref pg)]) (V_wp : OAr Z h0 wp kw (.array .char) [.null]) (E_pg : Exa Z h0 pg "[B") (G_pg : OPg Z h0 pg kp .byte cap) (V_x : OAr Z h0 x kx .char [(.int u0), (.int u1), (.int u2)]) (g_a1 : n0 ≤ a1) (g_np : n0 ≤ np) (g_wp : n0 ≤ wp) (g_pg : n0 ≤ pg) (nd0 : OND [a1, np, wp, pg, x]) (hI : 0 ≤ cap.toInt ∧ cap.toInt ≤ 15 ∧ 0 ≤ len.toInt ∧ len.toInt ≤ 3 ∧ len.toInt ≤ cap.toInt ∧ 0 ≤ p1.toInt ∧ p1.toInt ≤ 3) (hwd : own_w u0 u1 u2 p1) (hu : own_ch u0 u1 u2) :
    oM l mN39 prog_89_method_9_code 13 none ws ({ frames := 5, cells := 2, slots := 30, locals := 150 } : Room) #[(.ref a1), (.ref x), .null, (.int (0 : Int32)), (.int p1)] Z h0 (Q_afcNW Z a1 x p1 np wp pg kn kw kp cap len kx u0 u1 u2 cs fw h0 n0) := by
  refine MetFree.of_bodySF (plainFor_of_name pn_com_example_imprint_imprint_tree_PagedText) hisR ?_
  intro p e s m args below meth c s₁ Bd hml0 hP hK
  obtain ⟨rfl, hZ, hh⟩ := hP
  have hx := Bd.exec
  have hby := Bd.bytes
  have hml : c.maxLocals = 13 := hml0
  have hown : s.vm.findClass "com/example/imprint/imprint/tree/PagedText" = some m.cls := findClass_of_methodNamed Bd.named
  have hnm := (name_of_methodNamed Bd.named Bd.method).1
  have X0 : Stand p l e ({ frames := 5, cells := 2, slots := 30, locals := 150 } : Room) s m #[(.ref a1), (.ref x), .null, (.int (0 : Int32)), (.int p1)] below meth c s₁ [] 0 0 := Stand.of_body Bd
  have e0 : s₁.heap = h0 := by rw [← hh, Bd.state]; rfl
  have N0 := Fr.nil n0
  obtain ⟨A0, hA0⟩ : ∃ z, z = s₁.setTop (entryFrame m #[(.ref a1), (.ref x), .null, (.int (0 : Int32)), (.int p1)] 13) := ⟨_, rfl⟩
  have K : OGo p e below A0 s₁ (mkF m 0 #[rv a1, rv x, .val .null, iv 0, iv p1, .unset, .unset, .unset, .unset, .unset, .unset, .unset, .unset] []) := fun t k => hA0 ▸ castTop (ef_5_n2 m a1 x (0 : Int32) p1) k
  have oz := own_t0
  refine cps (A := ∃ (pg2 : Addr) (kp2 : ClassId) (cx : Int32) (Tj1 : State) (hj1 : Heap) (lj1 : List Loc), Stand p l e ({ frames := 5, cells := 2, slots := 30, locals := 150 } : Room) s m #[(.ref a1), (.ref x), .null, (.int (0 : Int32)), (.int p1)] below meth c Tj1 lj1 1 15 ∧ Tj1.heap = hj1 ∧ Fr n0 lj1 ∧ n0 ≤ hj1.size ∧ Keep h0 hj1 [a1, np, wp, pg] ∧ Exa Z hj1 a1 cN0 ∧ Fld Z hj1 a1 cN0 "narrowPages" "[[B" (.ref np) ∧ Fld Z hj1 a1 cN0 "widePages" "[[C" (.ref wp) ∧ Fld Z hj1 a1 cN0 "pageCount" "I" (.int (1 : Int32)) ∧ Fld Z hj1 a1 cN0 "capacity" "I" (.int cx) ∧ Fld Z hj1 a1 cN0 "length" "I" (.int len) ∧ OAr Z hj1 np kn (.array .byte) [(.ref pg2)] ∧ OAr Z hj1 wp kw (.array .char) [.null] ∧ Exa Z hj1 pg2 "[B" ∧ OPg Z hj1 pg2 kp2 .byte cx ∧ OAr Z hj1 x kx .char [(.int u0), (.int u1), (.int u2)] ∧ Old Z n0 hj1 ∧ (pg2 = pg ∨ h0.size ≤ pg2) ∧ n0 ≤ pg2 ∧ OND [a1, np, wp, pg2, x] ∧ cx = own_cap len p1 cap ∧ OGo p e below A0 Tj1 (mkF m 25 #[rv a1, rv x, .val .null, iv 0, iv p1, .unset, .unset, .unset, .unset, .unset, .unset, .unset, .unset] [])) (fun J1 => ?_) ?_
  · obtain ⟨T2, X2, e2, st2⟩ := getF X0 hx hZ hown (host := "") (Or.inl (ow hw 38 rfl)) Via.refl e0 F_length_a1 (g := (mkF m 1 #[rv a1, rv x, .val .null, iv 0, iv p1, .unset, .unset, .unset, .unset, .unset, .unset, .unset, .unset] [(.ref a1)])) rfl rfl (hb hby d5_1)
    obtain ⟨T3, X3, e3, st3⟩ := getF X2 hx hZ hown (host := "") (Or.inl (ow hw 22 rfl)) Via.refl e2 F_capacity_a1 (g := (mkF m 8 #[rv a1, rv x, .val .null, iv 0, iv p1, .unset, .unset, .unset, .unset, .unset, .unset, .unset, .unset] [(.ref a1), (.int (len + p1))])) rfl rfl (hb hby d5_8)
    by_cases hc11 : cap < (len + p1)
    · obtain ⟨T4, X4, e4, st4⟩ := getF X3 hx hZ hown (host := "") (Or.inl (ow hw 38 rfl)) Via.refl e3 F_length_a1 (g := (mkF m 16 #[rv a1, rv x, .val .null, iv 0, iv p1, .unset, .unset, .unset, .unset, .unset, .unset, .unset, .unset] [(.ref a1), (.ref a1)])) rfl rfl (hb hby d5_16)
      have nd6 : OND [a1, np, wp, pg] := (ondS (allS (own_pw nd0 0 1 (by decide) rfl rfl) (allS (own_pw nd0 0 2 (by decide) rfl rfl) (allS (own_pw nd0 0 3 (by decide) rfl rfl) all0))) (ondS (allS (own_pw nd0 1 2 (by decide) rfl rfl) (allS (own_pw nd0 1 3 (by decide) rfl rfl) all0)) (ondS (allS (own_pw nd0 2 3 (by decide) rfl rfl) all0) (ondS all0 ond0))))
      obtain ⟨cq5, qp5, qp5'⟩ := E_a1.cell
      obtain ⟨_, _, ⟨T5, L5, k5, n5⟩, -, X5, ⟨Lc5, hQ5, l5, y5, z5⟩, st5⟩ := X4.privateBack hx (y := mN7) hown (mvT hZ (ow hw 40 rfl)) (mvT hZ (ow hw 41 rfl)) (own_selp hZ (ow hw 2 rfl) (ow hw 42 rfl) (ow hw 41 rfl)) (Cond.privateMethod_at (mvP hZ (ow hw 42 rfl) (args := #[]))) (mvT hZ (ow hw 43 rfl)) (by decide) (backOf (W := 0) (rm_growN l Z a0 hw [] a1 (len + p1) np wp pg kn kw kp cap len cs fw h0 n0 Z0 hST O_0 ovn ovw E_a1 F_narrowPages_a1 F_widePages_a1 F_pageCount_a1 F_capacity_a1 F_length_a1 V_np V_wp E_pg G_pg g_a1 g_np g_wp g_pg nd6 (own_hg hI hc11)) hZ (ow hw 43 rfl) (ow hw 3 rfl) (by decide) (by decide)) (g := (mkF m 22 #[rv a1, rv x, .val .null, iv 0, iv p1, .unset, .unset, .unset, .unset, .unset, .unset, .unset, .unset] [(.int (len + p1)), (.ref a1)])) rfl (by rw [hml]; rfl) (Steps.refl _) (a := a1) (by rw [e4]; exact qp5) qp5' (argsL := [(.int (len + p1))]) (rest := []) (lenOf pd__I_V rfl) rfl (by show 2 * 0 + _ ≤ _; exact Nat.le_of_eq rfl) (hb hby d5_22) (fun _ _ => ⟨rfl, e4, (by decide : 0 + 1 ≤ _), (by decide : 0 + 15 ≤ _)⟩)
      dsimp only [Pt.U, Pt.locs, Pt.cells, Pt.slots] at X5 l5 y5 z5 st5 hQ5
      subst l5 y5 z5
      obtain ⟨hp5, e5⟩ : ∃ z, T5.heap = z := ⟨_, rfl⟩
      rw [e5] at hQ5
      obtain ⟨rfl, Nq5, pg2_5, kp2_5, K5, P5_0, P5_1, P5_2, P5_3, P5_4, P5_5, P5_6, P5_7, P5_8, P5_9, P5_10⟩ := hQ5
      have ne_a1_pg2_5 : a1 ≠ pg2_5 := Nat.ne_of_lt (Nat.lt_of_lt_of_le E_a1.lt P5_0)
      have ne_x_pg2_5 : x ≠ pg2_5 := Nat.ne_of_lt (Nat.lt_of_lt_of_le V_x.lt P5_0)
      have ne_np_pg2_5 : np ≠ pg2_5 := Nat.ne_of_lt (Nat.lt_of_lt_of_le V_np.lt P5_0)
      have ne_wp_pg2_5 : wp ≠ pg2_5 := Nat.ne_of_lt (Nat.lt_of_lt_of_le V_wp.lt P5_0)
      have ne_pg_pg2_5 : pg ≠ pg2_5 := Nat.ne_of_lt (Nat.lt_of_lt_of_le E_pg.lt P5_0)
      have g_pg2_5 : n0 ≤ pg2_5 := Nat.le_trans Z0 P5_0
      have sz_pg2_5 : h0.size ≤ pg2_5 := Nat.le_trans (Keep.refl h0 [a1, np, wp, pg]).1 P5_0
      have Z5 : n0 ≤ hp5.size := Nat.le_trans Z0 K5.1
      have Kp5 : Keep h0 hp5 [a1, np, wp, pg] := (Keep.refl h0 [a1, np, wp, pg]).trans K5 (allS (Or.inl (List.mem_of_getElem? (i := 0) rfl)) (allS (Or.inl (List.mem_of_getElem? (i := 1) rfl)) all0))
      have N5 := Fr.app N0 Nq5
      replace K : OGo p e below A0 T5 (mkF m 25 #[rv a1, rv x, .val .null, iv 0, iv p1, .unset, .unset, .unset, .unset, .unset, .unset, .unset, .unset] []) := fun t k => K t (XS.aloadN X0.here hx rfl (hb hby d5_0) rfl rfl (st2 t (XS.iload X2.here hx rfl (hb hby d5_4) rfl (XS.iadd X2.here hx rfl (hb hby d5_6) rfl (XS.aloadN X2.here hx rfl (hb hby d5_7) rfl rfl (st3 t (XS.icmpNo X3.here hx rfl (hb hby d5_11) rfl (tlt hc11).2.2.2 (XS.aloadN X3.here hx rfl (hb hby d5_14) rfl rfl (XS.aloadN X3.here hx rfl (hb hby d5_15) rfl rfl (st4 t (XS.iload X4.here hx rfl (hb hby d5_19) rfl (XS.iadd X4.here hx rfl (hb hby d5_21) rfl (st5.trans k)))))))))))))
      have V_x_7 := (V_x.keep K5 (ninS (Ne.symm (own_pw nd0 0 4 (by decide) rfl rfl)) (ninS (Ne.symm (own_pw nd0 1 4 (by decide) rfl rfl)) nin0)))
      have O_8 := (O_0.keep K5 (allS g_a1 (allS g_np all0)))
      have nd9 : OND [a1, np, wp, pg2_5, x] := (ondS (allS (own_pw nd0 0 1 (by decide) rfl rfl) (allS (own_pw nd0 0 2 (by decide) rfl rfl) (allS ne_a1_pg2_5 (allS (own_pw nd0 0 4 (by decide) rfl rfl) all0)))) (ondS (allS (own_pw nd0 1 2 (by decide) rfl rfl) (allS ne_np_pg2_5 (allS (own_pw nd0 1 4 (by decide) rfl rfl) all0))) (ondS (allS ne_wp_pg2_5 (allS (own_pw nd0 2 4 (by decide) rfl rfl) all0)) (ondS (allS (Ne.symm ne_x_pg2_5) all0) (ondS all0 ond0)))))
      exact J1 ⟨pg2_5, kp2_5, (own_max (len + p1) (cap * (2 : Int32))), _, _, _, X5, e5, N5, Z5, Kp5, P5_1, P5_2, P5_3, P5_4, P5_5, P5_6, P5_7, P5_8, P5_9, P5_10, V_x_7, O_8, (Or.inr sz_pg2_5), g_pg2_5, nd9, (by simp [own_cap, hc11]), K⟩
    · replace K : OGo p e below A0 T3 (mkF m 25 #[rv a1, rv x, .val .null, iv 0, iv p1, .unset, .unset, .unset, .unset, .unset, .unset, .unset, .unset] []) := fun t k => K t (XS.aloadN X0.here hx rfl (hb hby d5_0) rfl rfl (st2 t (XS.iload X2.here hx rfl (hb hby d5_4) rfl (XS.iadd X2.here hx rfl (hb hby d5_6) rfl (XS.aloadN X2.here hx rfl (hb hby d5_7) rfl rfl (st3 t (XS.icmpYes X3.here hx rfl (pc0 := 11) (pc' := 25) rfl (hb hby d5_11) rfl (flt hc11).2.2.2 (by decide) (by decide) k)))))))
      exact J1 ⟨pg, kp, cap, _, _, _, (X3.more (by decide) (by decide)), e3, N0, Z0, (Keep.refl h0 [a1, np, wp, pg]), E_a1, F_narrowPages_a1, F_widePages_a1, F_pageCount_a1, F_capacity_a1, F_length_a1, V_np, V_wp, E_pg, G_pg, V_x, O_0, (Or.inl rfl), g_pg, nd0, (by simp [own_cap, hc11]), K⟩
  clear K
  rintro ⟨pg2, kp2, cx, Tj1, hj1, lj1, Xj1, ej1, Nj1, Zj1, Kj1, E_a1_j1, F_narrowPages_a1_j1, F_widePages_a1_j1, F_pageCount_a1_j1, F_capacity_a1_j1, F_length_a1_j1, V_np_j1, V_wp_j1, E_pg2_j1, G_pg2_j1, V_x_j1, O_0_j1, or_pg2, g_pg2, nd1, hcx, K⟩
  have hJ := own_capI hI hcx
  replace K : OGo p e below A0 Tj1 (mkF m 32 #[rv a1, rv x, .val .null, iv 0, iv p1, iv 0, .unset, .unset, .unset, .unset, .unset, .unset, .unset] [(.int ((0 : Int32) + p1))]) := fun t k => K t (XS.iloadN Xj1.here hx rfl (hb hby d5_25) rfl (XS.istore Xj1.here hx rfl (hb hby d5_26) rfl (l' := #[rv a1, rv x, .val .null, iv 0, iv p1, iv 0, .unset, .unset, .unset, .unset, .unset, .unset, .unset]) rfl (XS.iloadN Xj1.here hx rfl (hb hby d5_28) rfl (XS.iload Xj1.here hx rfl (hb hby d5_29) rfl (XS.iadd Xj1.here hx rfl (hb hby d5_31) rfl k)))))
  rw [show ((0 : Int32) + p1) = p1 from Int32.zero_add _] at K
  obtain ⟨T10, X10, e10, st10⟩ := getF Xj1 hx hZ hown (host := "") (Or.inl (ow hw 38 rfl)) Via.refl ej1 F_length_a1_j1 (g := (mkF m 42 #[rv a1, rv x, .val .null, iv 0, iv p1, iv 0, iv p1, .unset, .unset, .unset, .unset, .unset, .unset] [(.ref a1)])) rfl rfl (hb hby d5_42)
  obtain ⟨T11, X11, e11, st11⟩ := getS2 X10 hx hZ hown (host := "") (Or.inl (ow hw 62 rfl)) Via.refl e10 (hST.pb.ext O_0_j1.2) (g := (mkF m 45 #[rv a1, rv x, .val .null, iv 0, iv p1, iv 0, iv p1, .unset, .unset, .unset, .unset, .unset, .unset] [(.int len)])) rfl (hb hby d5_45)
  replace K : OGo p e below A0 T11 (mkF m 49 #[rv a1, rv x, .val .null, iv 0, iv p1, iv 0, iv p1, .unset, .unset, .unset, .unset, .unset, .unset] [(.int ((len.toUInt32 >>> ((16 : Int32) &&& 31).toUInt32).toInt32))]) := fun t k => K t (XS.istore Xj1.here hx rfl (hb hby d5_32) rfl (l' := #[rv a1, rv x, .val .null, iv 0, iv p1, iv 0, iv p1, .unset, .unset, .unset, .unset, .unset, .unset]) rfl (XS.iload Xj1.here hx rfl (hb hby d5_34) rfl (XS.iload Xj1.here hx rfl (hb hby d5_36) rfl (XS.icmpNo Xj1.here hx rfl (hb hby d5_38) rfl (tlt ((own_wpos hwd) : (0 : Int32) < p1)).2.1 (XS.aloadN Xj1.here hx rfl (hb hby d5_41) rfl rfl (st10 t (st11 t (XS.iushr X11.here hx rfl (hb hby d5_48) rfl k))))))))
  rw [show ((len.toUInt32 >>> ((16 : Int32) &&& 31).toUInt32).toInt32) = (0 : Int32) from own_s16 hI] at K
  obtain ⟨T12, X12, e12, st12⟩ := getF X11 hx hZ hown (host := "") (Or.inl (ow hw 38 rfl)) Via.refl e11 F_length_a1_j1 (g := (mkF m 52 #[rv a1, rv x, .val .null, iv 0, iv p1, iv 0, iv p1, iv 0, .unset, .unset, .unset, .unset, .unset] [(.ref a1)])) rfl rfl (hb hby d5_52)
  obtain ⟨T13, X13, e13, st13⟩ := getS2 X12 hx hZ hown (host := "") (Or.inl (ow hw 64 rfl)) Via.refl e12 (hST.om.ext O_0_j1.2) (g := (mkF m 55 #[rv a1, rv x, .val .null, iv 0, iv p1, iv 0, iv p1, iv 0, .unset, .unset, .unset, .unset, .unset] [(.int len)])) rfl (hb hby d5_55)
  replace K : OGo p e below A0 T13 (mkF m 59 #[rv a1, rv x, .val .null, iv 0, iv p1, iv 0, iv p1, iv 0, .unset, .unset, .unset, .unset, .unset] [(.int (len &&& (65535 : Int32)))]) := fun t k => K t (XS.istore X11.here hx rfl (hb hby d5_49) rfl (l' := #[rv a1, rv x, .val .null, iv 0, iv p1, iv 0, iv p1, iv 0, .unset, .unset, .unset, .unset, .unset]) rfl (XS.aloadN X11.here hx rfl (hb hby d5_51) rfl rfl (st12 t (st13 t (XS.iand X13.here hx rfl (hb hby d5_58) rfl k)))))
  rw [show (len &&& (65535 : Int32)) = len from own_m16 hI] at K
  replace K : OGo p e below A0 T13 (mkF m 66 #[rv a1, rv x, .val .null, iv 0, iv p1, iv 0, iv p1, iv 0, iv len, .unset, .unset, .unset, .unset] [(.int (p1 - (0 : Int32)))]) := fun t k => K t (XS.istore X13.here hx rfl (hb hby d5_59) rfl (l' := #[rv a1, rv x, .val .null, iv 0, iv p1, iv 0, iv p1, iv 0, iv len, .unset, .unset, .unset, .unset]) rfl (XS.iload X13.here hx rfl (hb hby d5_61) rfl (XS.iload X13.here hx rfl (hb hby d5_63) rfl (XS.isub X13.here hx rfl (hb hby d5_65) rfl k))))
  rw [show (p1 - (0 : Int32)) = p1 from Int32.sub_zero _] at K
  obtain ⟨cq14, qp14, qp14'⟩ := E_a1_j1.cell
  obtain ⟨_, _, ⟨T14, L14, k14, n14⟩, -, X14, ⟨Lc14, hQ14, l14, y14, z14⟩, st14⟩ := X13.privateBack hx (y := mN6) hown (mvT hZ (ow hw 66 rfl)) (mvT hZ (ow hw 67 rfl)) (own_selp hZ (ow hw 2 rfl) (ow hw 68 rfl) (ow hw 67 rfl)) (Cond.privateMethod_at (mvP hZ (ow hw 68 rfl) (args := #[]))) (mvT hZ (ow hw 69 rfl)) (by decide) (backOf (W := 1) (rm_plenN l Z a0 hw [] a1 np wp pg2 kn kw kp2 cx len hj1 n0 Zj1 E_a1_j1 F_narrowPages_a1_j1 F_widePages_a1_j1 F_pageCount_a1_j1 F_capacity_a1_j1 F_length_a1_j1 V_np_j1 V_wp_j1 E_pg2_j1 G_pg2_j1) hZ (ow hw 69 rfl) (ow hw 3 rfl) (by decide) (by decide)) (g := (mkF m 69 #[rv a1, rv x, .val .null, iv 0, iv p1, iv 0, iv p1, iv 0, iv len, .unset, .unset, .unset, .unset] [(.int 0), (.ref a1), (.int p1)])) rfl (by rw [hml]; rfl) (Steps.refl _) (a := a1) (by rw [e13]; exact qp14) qp14' (argsL := [(.int (0 : Int32))]) (rest := [(.int p1)]) (lenOf pd__I_I rfl) rfl (by show 2 * 0 + _ ≤ _; exact Nat.le_of_eq rfl) (hb hby d5_69) (fun _ _ => ⟨rfl, e13, (by decide : 1 + 0 ≤ _), (by decide : 15 + 0 ≤ _)⟩)
  dsimp only [Pt.U, Pt.locs, Pt.cells, Pt.slots] at X14 l14 y14 z14 st14 hQ14
  subst l14 y14 z14
  obtain ⟨rfl, Nq14, e14⟩ := hQ14
  have N14 := Fr.app Nj1 Nq14
  obtain ⟨_, _, ⟨T15, L15, k15, n15⟩, -, X15, ⟨Lc15, hQ15, l15, y15, z15⟩, st15⟩ := Jvm.LawKit.callS X14 hx (y := mN0) hown (mvT hZ (ow hw 50 rfl)) (mvT hZ (ow hw 51 rfl)) (mvT hZ (ow hw 48 rfl)) (mvT hZ (ow hw 52 rfl)) (by decide) (backOf (W := 0) (rm_min l Z a0 hw [] p1 (cx - len) hj1 n0 Zj1 ) hZ (ow hw 52 rfl) (ow hw 48 rfl) (by decide) (by decide)) (g := (mkF m 75 #[rv a1, rv x, .val .null, iv 0, iv p1, iv 0, iv p1, iv 0, iv len, .unset, .unset, .unset, .unset] [(.int (cx - len)), (.int p1)])) rfl (by rw [hml]; rfl) (argsL := [(.int p1), (.int (cx - len))]) (rest := []) (lenOf pd__II_I rfl) rfl (by show 2 * 0 + _ ≤ _; exact Nat.le_of_eq rfl) (hb hby d5_75) (fun _ _ => ⟨rfl, e14, (by decide : 1 + 0 ≤ _), (by decide : 15 + 0 ≤ _)⟩)
  dsimp only [Pt.U, Pt.locs, Pt.cells, Pt.slots] at X15 l15 y15 z15 st15 hQ15
  subst l15 y15 z15
  obtain ⟨rfl, Nq15, e15⟩ := hQ15
  have N15 := Fr.app N14 Nq15
  replace K : OGo p e below A0 T15 (mkF m 78 #[rv a1, rv x, .val .null, iv 0, iv p1, iv 0, iv p1, iv 0, iv len, .unset, .unset, .unset, .unset] [(.int (own_min p1 (cx - len)))]) := fun t k => K t (XS.aloadN X13.here hx rfl (hb hby d5_66) rfl rfl (XS.iload X13.here hx rfl (hb hby d5_67) rfl (st14.trans (XS.iload X14.here hx rfl (hb hby d5_72) rfl (XS.isub X14.here hx rfl (hb hby d5_74) rfl (st15 t k))))))
  rw [show (own_min p1 (cx - len)) = p1 from own_minl (by rw [own_subI (a := cx) (b := len) (by omega)]; omega)] at K
  obtain ⟨T16, X16, e16, st16⟩ := getF X15 hx hZ hown (host := "") (Or.inl (ow hw 14 rfl)) Via.refl e15 F_narrowPages_a1_j1 (g := (mkF m 84 #[rv a1, rv x, .val .null, iv 0, iv p1, iv 0, iv p1, iv 0, iv len, iv p1, iv 0, .unset, .unset] [(.ref a1)])) rfl rfl (hb hby d5_84)
  replace K : OGo p e below A0 T16 (mkF m 97 #[rv a1, rv x, .val .null, iv 0, iv p1, iv 0, iv p1, iv 0, iv len, iv p1, iv 0, rv pg2, .unset] []) := fun t k => K t (XS.istore X15.here hx rfl (hb hby d5_78) rfl (l' := #[rv a1, rv x, .val .null, iv 0, iv p1, iv 0, iv p1, iv 0, iv len, iv p1, .unset, .unset, .unset]) rfl (XS.iconst X15.here hx rfl (hb hby d5_80) (XS.istore X15.here hx rfl (hb hby d5_81) rfl (l' := #[rv a1, rv x, .val .null, iv 0, iv p1, iv 0, iv p1, iv 0, iv len, iv p1, iv 0, .unset, .unset]) rfl (XS.aloadN X15.here hx rfl (hb hby d5_83) rfl rfl (st16 t (XS.iload X16.here hx rfl (hb hby d5_87) rfl (own_ldA X16 hx hZ e16 V_np_j1 rfl (j := (0 : Int32)) (v := (.ref pg2)) (by decide) rfl (g := (mkF m 89 #[rv a1, rv x, .val .null, iv 0, iv p1, iv 0, iv p1, iv 0, iv len, iv p1, iv 0, .unset, .unset] [(.int 0), (.ref np)])) rfl rfl (hb hby d5_89) t (XS.astore X16.here hx rfl (hb hby d5_90) rfl rfl (l' := #[rv a1, rv x, .val .null, iv 0, iv p1, iv 0, iv p1, iv 0, iv len, iv p1, iv 0, rv pg2, .unset]) rfl (XS.aload X16.here hx rfl (hb hby d5_92) rfl rfl (XS.ifnullNo X16.here hx rfl (hb hby d5_94) rfl k))))))))))
  obtain ⟨nF17, ix, sl, Tl17, hl17, ll17, hI17⟩ : ∃ (nF17 : Nat) (ix : Int32) (sl : Slot) (Tl17 : State) (hl17 : Heap) (ll17 : List Loc), Stand p l e ({ frames := 5, cells := 2, slots := 30, locals := 150 } : Room) s m #[(.ref a1), (.ref x), .null, (.int (0 : Int32)), (.int p1)] below meth c Tl17 ll17 1 15 ∧ Tl17.heap = hl17 ∧ Fr n0 ll17 ∧ n0 ≤ hl17.size ∧ Keep h0 hl17 [a1, np, wp, pg] ∧ Exa Z hl17 a1 cN0 ∧ Fld Z hl17 a1 cN0 "narrowPages" "[[B" (.ref np) ∧ Fld Z hl17 a1 cN0 "widePages" "[[C" (.ref wp) ∧ Fld Z hl17 a1 cN0 "pageCount" "I" (.int (1 : Int32)) ∧ Fld Z hl17 a1 cN0 "capacity" "I" (.int cx) ∧ Fld Z hl17 a1 cN0 "length" "I" (.int len) ∧ OAr Z hl17 np kn (.array .byte) [(.ref pg2)] ∧ OAr Z hl17 wp kw (.array .char) [.null] ∧ Exa Z hl17 pg2 "[B" ∧ OPg Z hl17 pg2 kp2 .byte cx ∧ OAr Z hl17 x kx .char [(.int u0), (.int u1), (.int u2)] ∧ Old Z n0 hl17 ∧ (p1.toInt = ix.toInt + (nF17 : Int) ∧ 0 ≤ ix.toInt) ∧ (sl = .unset ∨ ∃ z : Int32, sl = iv z) ∧ (∀ j : Int32, 0 ≤ j.toInt → j.toInt < ix.toInt → ¬ (255 : Int32) < own_at u0 u1 u2 j) ∧ OGo p e below A0 Tl17 (mkF m 97 #[rv a1, rv x, .val .null, iv 0, iv p1, iv 0, iv p1, iv 0, iv len, iv p1, iv ix, rv pg2, sl] []) := ⟨p1.toNatClampNeg, (0 : Int32), .unset, _, _, _, X16, e16, N15, Zj1, Kj1, E_a1_j1, F_narrowPages_a1_j1, F_widePages_a1_j1, F_pageCount_a1_j1, F_capacity_a1_j1, F_length_a1_j1, V_np_j1, V_wp_j1, E_pg2_j1, G_pg2_j1, V_x_j1, O_0_j1, (own_f1 (by omega)), (Or.inl rfl), own_hP0, K⟩
  clear K
  induction nF17 generalizing ix sl Tl17 hl17 ll17 with
  | zero =>
    obtain ⟨Xl17, el17, Nl17, Zl17, Kl17, E_a1_l17, F_narrowPages_a1_l17, F_widePages_a1_l17, F_pageCount_a1_l17, F_capacity_a1_l17, F_length_a1_l17, V_np_l17, V_wp_l17, E_pg2_l17, G_pg2_l17, V_x_l17, O_0_l17, hF, hsl, hP, K⟩ := hI17
    exact absurd hwd (own_noW hP (by omega))
  | succ nF17 ih17 =>
    obtain ⟨Xl17, el17, Nl17, Zl17, Kl17, E_a1_l17, F_narrowPages_a1_l17, F_widePages_a1_l17, F_pageCount_a1_l17, F_capacity_a1_l17, F_length_a1_l17, V_np_l17, V_wp_l17, E_pg2_l17, G_pg2_l17, V_x_l17, O_0_l17, hF, hsl, hP, K⟩ := hI17
    replace K : OGo p e below A0 Tl17 (mkF m 114 #[rv a1, rv x, .val .null, iv 0, iv p1, iv 0, iv p1, iv 0, iv len, iv p1, iv ix, rv pg2, sl] [(.int ((0 : Int32) + ix)), (.ref x)]) := fun t k => K t (XS.iload Xl17.here hx rfl (hb hby d5_97) rfl (XS.iload Xl17.here hx rfl (hb hby d5_99) rfl (XS.icmpNo Xl17.here hx rfl (hb hby d5_101) rfl (tlt ((own_lt (by omega)) : ix < p1)).2.1 (XS.aloadN Xl17.here hx rfl (hb hby d5_104) rfl rfl (XS.ifnullNo Xl17.here hx rfl (hb hby d5_105) rfl (XS.aloadN Xl17.here hx rfl (hb hby d5_108) rfl rfl (XS.iload Xl17.here hx rfl (hb hby d5_109) rfl (XS.iload Xl17.here hx rfl (hb hby d5_111) rfl (XS.iadd Xl17.here hx rfl (hb hby d5_113) rfl k)))))))))
    rw [show ((0 : Int32) + ix) = ix from Int32.zero_add _] at K
    by_cases hc134 : (255 : Int32) < (own_at u0 u1 u2 ix)
    · have nd19 : OND [a1, np, wp, pg2] := (ondS (allS (own_pw nd0 0 1 (by decide) rfl rfl) (allS (own_pw nd0 0 2 (by decide) rfl rfl) (allS (own_pw nd1 0 3 (by decide) rfl rfl) all0))) (ondS (allS (own_pw nd0 1 2 (by decide) rfl rfl) (allS (own_pw nd1 1 3 (by decide) rfl rfl) all0)) (ondS (allS (own_pw nd1 2 3 (by decide) rfl rfl) all0) (ondS all0 ond0))))
      obtain ⟨cq18, qp18, qp18'⟩ := E_a1_l17.cell
      obtain ⟨_, _, ⟨T18, L18, k18, n18⟩, -, X18, ⟨Lc18, hQ18, l18, y18, z18⟩, st18⟩ := Xl17.privateBack hx (y := mN8) hown (mvT hZ (ow hw 138 rfl)) (mvT hZ (ow hw 139 rfl)) (own_selp hZ (ow hw 2 rfl) (ow hw 140 rfl) (ow hw 139 rfl)) (Cond.privateMethod_at (mvP hZ (ow hw 140 rfl) (args := #[]))) (mvT hZ (ow hw 141 rfl)) (by decide) (backOf (W := 0) (rm_widen l Z a0 hw [] a1 np wp pg2 kn kw kp2 cx len hl17 n0 Zl17 ovn ovw E_a1_l17 F_narrowPages_a1_l17 F_widePages_a1_l17 F_pageCount_a1_l17 F_capacity_a1_l17 F_length_a1_l17 V_np_l17 V_wp_l17 E_pg2_l17 G_pg2_l17 g_np g_wp nd19 (by omega)) hZ (ow hw 141 rfl) (ow hw 3 rfl) (by decide) (by decide)) (g := (mkF m 140 #[rv a1, rv x, .val .null, iv 0, iv p1, iv 0, iv p1, iv 0, iv len, iv p1, iv ix, rv pg2, iv (own_at u0 u1 u2 ix)] [(.int 0), (.ref a1)])) rfl (by rw [hml]; rfl) (Steps.refl _) (a := a1) (by rw [el17]; exact qp18) qp18' (argsL := [(.int (0 : Int32))]) (rest := []) (lenOf pd__I_V rfl) rfl (by show 2 * 0 + _ ≤ _; exact Nat.le_of_eq rfl) (hb hby d5_140) (fun _ _ => ⟨rfl, el17, (by decide : 1 + 1 ≤ _), (by decide : 15 + 15 ≤ _)⟩)
      dsimp only [Pt.U, Pt.locs, Pt.cells, Pt.slots] at X18 l18 y18 z18 st18 hQ18
      subst l18 y18 z18
      obtain ⟨hp18, e18⟩ : ∃ z, T18.heap = z := ⟨_, rfl⟩
      rw [e18] at hQ18
      obtain ⟨rfl, Nq18, pg2_18, kp2_18, K18, P18_0, P18_1, P18_2, P18_3, P18_4⟩ := hQ18
      have ne_a1_pg2_18 : a1 ≠ pg2_18 := Nat.ne_of_lt (Nat.lt_of_lt_of_le E_a1_l17.lt P18_0)
      have ne_x_pg2_18 : x ≠ pg2_18 := Nat.ne_of_lt (Nat.lt_of_lt_of_le V_x_l17.lt P18_0)
      have ne_np_pg2_18 : np ≠ pg2_18 := Nat.ne_of_lt (Nat.lt_of_lt_of_le V_np_l17.lt P18_0)
      have ne_wp_pg2_18 : wp ≠ pg2_18 := Nat.ne_of_lt (Nat.lt_of_lt_of_le V_wp_l17.lt P18_0)
      have ne_pg2_pg2_18 : pg2 ≠ pg2_18 := Nat.ne_of_lt (Nat.lt_of_lt_of_le E_pg2_l17.lt P18_0)
      have g_pg2_18 : n0 ≤ pg2_18 := Nat.le_trans Zl17 P18_0
      have sz_pg2_18 : h0.size ≤ pg2_18 := Nat.le_trans Kl17.1 P18_0
      have Z18 : n0 ≤ hp18.size := Nat.le_trans Zl17 K18.1
      have Kp18 : Keep h0 hp18 [a1, np, wp, pg] := Kl17.trans K18 (allS (Or.inl (List.mem_of_getElem? (i := 1) rfl)) (allS (Or.inl (List.mem_of_getElem? (i := 2) rfl)) all0))
      have N18 := Fr.app Nl17 Nq18
      replace K : OGo p e below A0 T18 (mkF m 175 #[rv a1, rv x, .val .null, iv 0, iv p1, iv 0, iv p1, iv 0, iv len, iv p1, iv ix, rv pg2, iv (own_at u0 u1 u2 ix)] [(.int ((0 : Int32) + ix))]) := fun t k => K t (own_ldC Xl17 hx hZ el17 V_x_l17 (j := ix) (v := (.int (own_at u0 u1 u2 ix))) (own_nn hF.2) (own_atget (by omega)) (g := (mkF m 114 #[rv a1, rv x, .val .null, iv 0, iv p1, iv 0, iv p1, iv 0, iv len, iv p1, iv ix, rv pg2, sl] [(.int ix), (.ref x)])) rfl rfl (hb hby d5_114) t (XS.goto Xl17.here hx rfl (pc0 := 115) (pc' := 127) rfl (hb hby d5_115) (by decide) (by decide) (XS.istore Xl17.here hx rfl (hb hby d5_127) rfl (l' := #[rv a1, rv x, .val .null, iv 0, iv p1, iv 0, iv p1, iv 0, iv len, iv p1, iv ix, rv pg2, iv (own_at u0 u1 u2 ix)]) (by rcases hsl with rfl | ⟨_, rfl⟩ <;> rfl) (XS.iload Xl17.here hx rfl (hb hby d5_129) rfl (XS.sipush Xl17.here hx rfl (hb hby d5_131) (XS.icmpNo Xl17.here hx rfl (hb hby d5_134) rfl (tlt hc134).2.2.2 (XS.aloadN Xl17.here hx rfl (hb hby d5_137) rfl rfl (XS.iload Xl17.here hx rfl (hb hby d5_138) rfl (st18.trans (XS.goto X18.here hx rfl (pc0 := 143) (pc' := 163) rfl (hb hby d5_143) (by decide) (by decide) (XS.iload X18.here hx rfl (hb hby d5_163) rfl (XS.iload X18.here hx rfl (hb hby d5_165) rfl (XS.icmpNo X18.here hx rfl (hb hby d5_167) rfl (tlt ((own_lt (by omega)) : ix < p1)).2.1 (XS.iload X18.here hx rfl (hb hby d5_170) rfl (XS.iload X18.here hx rfl (hb hby d5_172) rfl (XS.iadd X18.here hx rfl (hb hby d5_174) rfl k))))))))))))))))
      rw [show ((0 : Int32) + ix) = ix from Int32.zero_add _] at K
      have F_widePages_a1_l17_20 := (F_widePages_a1_l17.keep K18 (ninS (own_pw nd0 0 1 (by decide) rfl rfl) (ninS (own_pw nd0 0 2 (by decide) rfl rfl) nin0)))
      obtain ⟨T21, X21, e21, st21⟩ := getF X18 hx hZ hown (host := "") (Or.inl (ow hw 18 rfl)) Via.refl e18 F_widePages_a1_l17_20 (g := (mkF m 185 #[rv a1, rv x, .val .null, iv 0, iv p1, iv 0, iv p1, iv 0, iv len, iv p1, iv ix, rv pg2, iv ix] [(.ref a1), (.int ix), (.ref x)])) rfl rfl (hb hby d5_185)
      replace K : OGo p e below A0 T21 (mkF m 201 #[rv a1, rv x, .val .null, iv 0, iv p1, iv 0, iv p1, iv 0, iv len, iv p1, iv ix, rv pg2, iv ix] [(.int (p1 - ix)), (.int (len + ix)), (.ref pg2_18), (.int ix), (.ref x)]) := fun t k => K t (XS.istore X18.here hx rfl (hb hby d5_175) rfl (l' := #[rv a1, rv x, .val .null, iv 0, iv p1, iv 0, iv p1, iv 0, iv len, iv p1, iv ix, rv pg2, iv ix]) rfl (XS.aloadN X18.here hx rfl (hb hby d5_177) rfl rfl (XS.ifnullNo X18.here hx rfl (hb hby d5_178) rfl (XS.aloadN X18.here hx rfl (hb hby d5_181) rfl rfl (XS.iload X18.here hx rfl (hb hby d5_182) rfl (XS.aloadN X18.here hx rfl (hb hby d5_184) rfl rfl (st21 t (XS.iload X21.here hx rfl (hb hby d5_188) rfl (own_ldA X21 hx hZ e21 P18_2 rfl (j := (0 : Int32)) (v := (.ref pg2_18)) (by decide) rfl (g := (mkF m 190 #[rv a1, rv x, .val .null, iv 0, iv p1, iv 0, iv p1, iv 0, iv len, iv p1, iv ix, rv pg2, iv ix] [(.int 0), (.ref wp), (.int ix), (.ref x)])) rfl rfl (hb hby d5_190) t (XS.iload X21.here hx rfl (hb hby d5_191) rfl (XS.iload X21.here hx rfl (hb hby d5_193) rfl (XS.iadd X21.here hx rfl (hb hby d5_195) rfl (XS.iload X21.here hx rfl (hb hby d5_196) rfl (XS.iload X21.here hx rfl (hb hby d5_198) rfl (XS.isub X21.here hx rfl (hb hby d5_200) rfl k)))))))))))))))
      have V_x_l17_22 := (V_x_l17.keep K18 (ninS (Ne.symm (own_pw nd0 1 4 (by decide) rfl rfl)) (ninS (Ne.symm (own_pw nd0 2 4 (by decide) rfl rfl)) nin0)))
      have G_x23 := OPg.ofL (n := (3 : Int32)) V_x_l17_22 rfl (by decide) (own_chfit hu)
      obtain ⟨T24, h24, L24, X24, e24, N24, K24, G24, st24⟩ := own_cpP X21 hx hZ hown (ow hw 143 rfl) (ow hw 61 rfl) (ow hw 59 rfl) (ow hw 60 rfl) e21 G_x23 P18_4 rfl (sp := ix) (dp := (len + ix)) (nn := (p1 - ix)) (own_nn (by omega)) (own_nn (by rw [own_addI (a := len) (b := ix) (by omega)]; omega)) (own_nn (by rw [own_subI (a := p1) (b := ix) (by omega)]; omega)) (own_acA (by omega)) (own_acB (by omega)) N18 g_pg2_18 (g := (mkF m 201 #[rv a1, rv x, .val .null, iv 0, iv p1, iv 0, iv p1, iv 0, iv len, iv p1, iv ix, rv pg2, iv ix] [(.int (p1 - ix)), (.int (len + ix)), (.ref pg2_18), (.int ix), (.ref x)])) rfl (by rw [hml]; rfl) rfl (hb hby d5_201) (by decide) (W := 0) (by show 2 * 0 + _ ≤ _; exact Nat.le_of_eq rfl) (by decide)
      have Z24 : n0 ≤ h24.size := Nat.le_trans Z18 K24.1
      have Kp24 : Keep h0 h24 [a1, np, wp, pg] := Kp18.trans K24 (allS (Or.inr sz_pg2_18) all0)
      replace K : OGo p e below A0 T24 (mkF m 235 #[rv a1, rv x, .val .null, iv 0, iv p1, iv 0, iv p1, iv 0, iv len, iv p1, iv ix, rv pg2, iv ix] [(.int ((0 : Int32) + p1))]) := fun t k => K t (st24 t (XS.goto X24.here hx rfl (pc0 := 204) (pc' := 230) rfl (hb hby d5_204) (by decide) (by decide) (XS.iload X24.here hx rfl (hb hby d5_230) rfl (XS.iload X24.here hx rfl (hb hby d5_232) rfl (XS.iadd X24.here hx rfl (hb hby d5_234) rfl k)))))
      rw [show ((0 : Int32) + p1) = p1 from Int32.zero_add _] at K
      have F_length_a1_l17_25 := ((F_length_a1_l17.keep K18 (ninS (own_pw nd0 0 1 (by decide) rfl rfl) (ninS (own_pw nd0 0 2 (by decide) rfl rfl) nin0))).keep K24 (ninS ne_a1_pg2_18 nin0))
      obtain ⟨T26, X26, e26, st26⟩ := getF X24 hx hZ hown (host := "") (Or.inl (ow hw 38 rfl)) Via.refl e24 F_length_a1_l17_25 (g := (mkF m 239 #[rv a1, rv x, .val .null, iv 0, iv p1, iv p1, iv p1, iv 0, iv len, iv p1, iv ix, rv pg2, iv ix] [(.ref a1), (.ref a1)])) rfl rfl (hb hby d5_239)
      have E_a1_l17_27 := ((E_a1_l17.keep K18).keep K24)
      obtain ⟨T28, h28, X28, e28, W28, st28⟩ := putF X26 hx hZ hown (host := "") (Or.inl (ow hw 38 rfl)) Via.refl e26 F_length_a1_l17_25 E_a1_l17_27 (Or.inl (ow hw 39 rfl)) (ow hw 2 rfl) (ty := .int) (by decide) rfl rfl (g := (mkF m 245 #[rv a1, rv x, .val .null, iv 0, iv p1, iv p1, iv p1, iv 0, iv len, iv p1, iv ix, rv pg2, iv ix] [(.int (len + p1)), (.ref a1)])) rfl rfl (hb hby d5_245)
      have Z28 : n0 ≤ h28.size := Nat.le_trans Z24 (Keep.of_wr W28).1
      have Kp28 : Keep h0 h28 [a1, np, wp, pg] := Kp24.wr W28 (Or.inl (List.mem_of_getElem? (i := 0) rfl))
      have F_length_a1_28 := F_length_a1_l17_25.same W28
      have N28 := Fr.snoc X28 N24 g_a1
      replace K : OGo p e below A0 T28 (mkF m 251 #[rv a1, rv x, .val .null, iv 0, iv p1, iv p1, iv p1, iv 0, iv len, iv p1, iv ix, rv pg2, iv ix] []) := fun t k => K t (XS.istore X24.here hx rfl (hb hby d5_235) rfl (l' := #[rv a1, rv x, .val .null, iv 0, iv p1, iv p1, iv p1, iv 0, iv len, iv p1, iv ix, rv pg2, iv ix]) rfl (XS.aloadN X24.here hx rfl (hb hby d5_237) rfl rfl (XS.dup X24.here hx rfl (hb hby d5_238) rfl rfl (st26 t (XS.iload X26.here hx rfl (hb hby d5_242) rfl (XS.iadd X26.here hx rfl (hb hby d5_244) rfl (st28 t (XS.goto X28.here hx rfl (pc0 := 248) (pc' := 34) rfl (hb hby d5_248) (by decide) (by decide) (XS.iload X28.here hx rfl (hb hby d5_34) rfl (XS.iload X28.here hx rfl (hb hby d5_36) rfl (XS.icmpYes X28.here hx rfl (pc0 := 38) (pc' := 251) rfl (hb hby d5_38) rfl (flt ((own_nlt (Int.le_refl _)) : ¬ (p1 < p1))).2.1 (by decide) (by decide) k)))))))))))
      have E_a1_l17_29 := (E_a1_l17_27.wr W28)
      have F_narrowPages_a1_l17_30 := (((F_narrowPages_a1_l17.keep K18 (ninS (own_pw nd0 0 1 (by decide) rfl rfl) (ninS (own_pw nd0 0 2 (by decide) rfl rfl) nin0))).keep K24 (ninS ne_a1_pg2_18 nin0)).other W28 (Or.inr (sn_cN0_narrowPages_length hw)))
      have F_widePages_a1_l17_31 := ((F_widePages_a1_l17_20.keep K24 (ninS ne_a1_pg2_18 nin0)).other W28 (Or.inr (sn_cN0_widePages_length hw)))
      have F_pageCount_a1_l17_32 := (((F_pageCount_a1_l17.keep K18 (ninS (own_pw nd0 0 1 (by decide) rfl rfl) (ninS (own_pw nd0 0 2 (by decide) rfl rfl) nin0))).keep K24 (ninS ne_a1_pg2_18 nin0)).other W28 (Or.inr (sn_cN0_pageCount_length hw)))
      have F_capacity_a1_l17_33 := (((F_capacity_a1_l17.keep K18 (ninS (own_pw nd0 0 1 (by decide) rfl rfl) (ninS (own_pw nd0 0 2 (by decide) rfl rfl) nin0))).keep K24 (ninS ne_a1_pg2_18 nin0)).other W28 (Or.inr (sn_cN0_capacity_length hw)))
      have V_np_34 := ((P18_1.keep K24 (ninS ne_np_pg2_18 nin0)).other W28 (Ne.symm (own_pw nd0 0 1 (by decide) rfl rfl)))
      have V_wp_35 := ((P18_2.keep K24 (ninS ne_wp_pg2_18 nin0)).other W28 (Ne.symm (own_pw nd0 0 2 (by decide) rfl rfl)))
      have E_pg2_18_36 := ((P18_3.keep K24).wr W28)
      have G_pg2_18_37 := (G24.other W28 (Ne.symm ne_a1_pg2_18))
      obtain ⟨fs, hr, hrun, hended, hW, hsame⟩ := X28.leave (v := none) (fun _ => rfl)
      subst hA0
      refine ⟨_, _, K _ (X28.returnOut hx Bd.returns (hb hby d5_251) hr), hrun, hended, _, _, rfl, ?_, ⟨_, rfl⟩, hW, hsame.mono (by decide) (by decide)⟩
      show Q_afcNW Z a1 x p1 np wp pg kn kw kp cap len kx u0 u1 u2 cs fw h0 n0 _ T28.heap _
      rw [e28]
      exact ⟨rfl, N28, pg2_18, kp2_18, cx, Kp28, (Or.inr sz_pg2_18), E_a1_l17_29, F_narrowPages_a1_l17_30, F_widePages_a1_l17_31, F_pageCount_a1_l17_32, F_capacity_a1_l17_33, F_length_a1_28, V_np_34, V_wp_35, E_pg2_18_36, G_pg2_18_37, hcx⟩
    · obtain ⟨T38, h38, X38, e38, W38, G38, st38⟩ := own_stBp Xl17 hx hZ el17 G_pg2_l17 (j := (len + ix)) (own_nn (by rw [own_addI (a := len) (b := ix) (by omega)]; omega)) (own_ltN (by rw [own_addI (a := len) (b := ix) (by omega)]; omega)) (g := (mkF m 156 #[rv a1, rv x, .val .null, iv 0, iv p1, iv 0, iv p1, iv 0, iv len, iv p1, iv ix, rv pg2, iv (own_at u0 u1 u2 ix)] [(.int ((own_at u0 u1 u2 ix).toInt8.toInt32)), (.int (len + ix)), (.ref pg2)])) rfl rfl (hb hby d5_156)
      have Z38 : n0 ≤ h38.size := Nat.le_trans Zl17 (Keep.of_wr W38).1
      have Kp38 : Keep h0 h38 [a1, np, wp, pg] := Kl17.wr W38 (own_orin or_pg2 (List.mem_of_getElem? (i := 3) rfl))
      have N38 := Fr.snoc X38 Nl17 g_pg2
      replace K : OGo p e below A0 T38 (mkF m 97 #[rv a1, rv x, .val .null, iv 0, iv p1, iv 0, iv p1, iv 0, iv len, iv p1, iv (ix + (1 : Int32)), rv pg2, iv (own_at u0 u1 u2 ix)] []) := fun t k => K t (own_ldC Xl17 hx hZ el17 V_x_l17 (j := ix) (v := (.int (own_at u0 u1 u2 ix))) (own_nn hF.2) (own_atget (by omega)) (g := (mkF m 114 #[rv a1, rv x, .val .null, iv 0, iv p1, iv 0, iv p1, iv 0, iv len, iv p1, iv ix, rv pg2, sl] [(.int ix), (.ref x)])) rfl rfl (hb hby d5_114) t (XS.goto Xl17.here hx rfl (pc0 := 115) (pc' := 127) rfl (hb hby d5_115) (by decide) (by decide) (XS.istore Xl17.here hx rfl (hb hby d5_127) rfl (l' := #[rv a1, rv x, .val .null, iv 0, iv p1, iv 0, iv p1, iv 0, iv len, iv p1, iv ix, rv pg2, iv (own_at u0 u1 u2 ix)]) (by rcases hsl with rfl | ⟨_, rfl⟩ <;> rfl) (XS.iload Xl17.here hx rfl (hb hby d5_129) rfl (XS.sipush Xl17.here hx rfl (hb hby d5_131) (XS.icmpYes Xl17.here hx rfl (pc0 := 134) (pc' := 146) rfl (hb hby d5_134) rfl (flt hc134).2.2.2 (by decide) (by decide) (XS.aload Xl17.here hx rfl (hb hby d5_146) rfl rfl (XS.iload Xl17.here hx rfl (hb hby d5_148) rfl (XS.iload Xl17.here hx rfl (hb hby d5_150) rfl (XS.iadd Xl17.here hx rfl (hb hby d5_152) rfl (XS.iload Xl17.here hx rfl (hb hby d5_153) rfl (XS.i2b Xl17.here hx rfl (hb hby d5_155) rfl (st38 t (XS.iinc X38.here hx rfl (hb hby d5_157) rfl (l' := #[rv a1, rv x, .val .null, iv 0, iv p1, iv 0, iv p1, iv 0, iv len, iv p1, iv (ix + (1 : Int32)), rv pg2, iv (own_at u0 u1 u2 ix)]) rfl (XS.goto X38.here hx rfl (pc0 := 160) (pc' := 97) rfl (hb hby d5_160) (by decide) (by decide) k)))))))))))))))
      have E_a1_l17_39 := (E_a1_l17.wr W38)
      have F_narrowPages_a1_l17_40 := (F_narrowPages_a1_l17.other W38 (Or.inl (own_pw nd1 0 3 (by decide) rfl rfl)))
      have F_widePages_a1_l17_41 := (F_widePages_a1_l17.other W38 (Or.inl (own_pw nd1 0 3 (by decide) rfl rfl)))
      have F_pageCount_a1_l17_42 := (F_pageCount_a1_l17.other W38 (Or.inl (own_pw nd1 0 3 (by decide) rfl rfl)))
      have F_capacity_a1_l17_43 := (F_capacity_a1_l17.other W38 (Or.inl (own_pw nd1 0 3 (by decide) rfl rfl)))
      have F_length_a1_l17_44 := (F_length_a1_l17.other W38 (Or.inl (own_pw nd1 0 3 (by decide) rfl rfl)))
      have V_np_l17_45 := (V_np_l17.other W38 (own_pw nd1 1 3 (by decide) rfl rfl))
      have V_wp_l17_46 := (V_wp_l17.other W38 (own_pw nd1 2 3 (by decide) rfl rfl))
      have E_pg2_l17_47 := (E_pg2_l17.wr W38)
      have V_x_l17_48 := (V_x_l17.other W38 (Ne.symm (own_pw nd1 3 4 (by decide) rfl rfl)))
      have O_0_l17_49 := (O_0_l17.wr W38 g_pg2)
      exact ih17 (ix + (1 : Int32)) (iv (own_at u0 u1 u2 ix)) _ _ _ ⟨X38, e38, N38, Z38, Kp38, E_a1_l17_39, F_narrowPages_a1_l17_40, F_widePages_a1_l17_41, F_pageCount_a1_l17_42, F_capacity_a1_l17_43, F_length_a1_l17_44, V_np_l17_45, V_wp_l17_46, E_pg2_l17_47, G38, V_x_l17_48, O_0_l17_49, (by have := own_inc (i := ix) (by omega); omega), (Or.inr ⟨_, rfl⟩), (own_hP hP hF.2 (by omega) hc134), K⟩
def Q_afcWW (Z : State) (a1 : Addr) (x : Addr) (p1 : Int32) (np : Addr) (wp : Addr) (pg : Addr) (kn : ClassId) (kw : ClassId) (kp : ClassId) (cap : Int32) (len : Int32) (kx : ClassId) (u0 : Int32) (u1 : Int32) (u2 : Int32) (cs : Int32) (fw : Value) (h0 : Heap) (n0 : Nat) (v : Option Value) (h : Heap) (L : List Loc) : Prop := v = none ∧ Fr n0 L ∧ ∃ (pgr : Addr) (kpr : ClassId) (cxr : Int32), Keep h0 h [a1, np, wp, pg] ∧ (pgr = pg ∨ h0.size ≤ pgr) ∧ Exa Z h a1 cN0 ∧ Fld Z h a1 cN0 "narrowPages" "[[B" (.ref np) ∧ Fld Z h a1 cN0 "widePages" "[[C" (.ref wp) ∧ Fld Z h a1 cN0 "pageCount" "I" (.int (1 : Int32)) ∧ Fld Z h a1 cN0 "capacity" "I" (.int cxr) ∧ Fld Z h a1 cN0 "length" "I" (.int (len + p1)) ∧ OAr Z h np kn (.array .byte) [.null] ∧ OAr Z h wp kw (.array .char) [(.ref pgr)] ∧ Exa Z h pgr "[C" ∧ OPg Z h pgr kpr .char cxr ∧ cxr = own_cap len p1 cap
theorem rm_afcWW (l : Launch) (Z : State) (a0 : Array Value) (hw : ∀ d ∈ tables_1, d.before a0 Z = true) (ws : List Jvm.Cond) (a1 : Addr) (x : Addr) (p1 : Int32) (np : Addr) (wp : Addr) (pg : Addr) (kn : ClassId) (kw : ClassId) (kp : ClassId) (cap : Int32) (len : Int32) (kx : ClassId) (u0 : Int32) (u1 : Int32) (u2 : Int32) (cs : Int32) (fw : Value) (h0 : Heap) (n0 : Nat) (Z0 : n0 ≤ h0.size) (hST : own_ST Z cs fw) (O_0 : Old Z n0 h0) (ovn : OvrA Z kn .byte "[B") (ovw : OvrA Z kw .char "[C") (E_a1 : Exa Z h0 a1 cN0) (F_narrowPages_a1 : Fld Z h0 a1 cN0 "narrowPages" "[[B" (.ref np)) (F_widePages_a1 : Fld Z h0 a1 cN0 "widePages" "[[C" (.ref wp)) (F_pageCount_a1 : Fld Z h0 a1 cN0 "pageCount" "I" (.int (1 : Int32))) (F_capacity_a1 : Fld Z h0 a1 cN0 "capacity" "I" (.int cap)) (F_length_a1 : Fld Z h0 a1 cN0 "length" "I" (.int len)) (V_np : OAr Z h0 np kn (.array .byte) [.null]) (V_wp : OAr Z h0 wp kw (.array .char) [(.ref pg)]) (E_pg : Exa Z h0 pg "[C") (G_pg : OPg Z h0 pg kp .char cap) (V_x : OAr Z h0 x kx .char [(.int u0), (.int u1), (.int u2)]) (g_a1 : n0 ≤ a1) (g_np : n0 ≤ np) (g_wp : n0 ≤ wp) (g_pg : n0 ≤ pg) (nd0 : OND [a1, np, wp, pg, x]) (hI : 0 ≤ cap.toInt ∧ cap.toInt ≤ 15 ∧ 0 ≤ len.toInt ∧ len.toInt ≤ 3 ∧ len.toInt ≤ cap.toInt ∧ 0 ≤ p1.toInt ∧ p1.toInt ≤ 3) (hu : own_ch u0 u1 u2) :
    oM l mN39 prog_89_method_9_code 13 none ws ({ frames := 5, cells := 2, slots := 30, locals := 150 } : Room) #[(.ref a1), (.ref x), .null, (.int (0 : Int32)), (.int p1)] Z h0 (Q_afcWW Z a1 x p1 np wp pg kn kw kp cap len kx u0 u1 u2 cs fw h0 n0) := by
  refine MetFree.of_bodySF (plainFor_of_name pn_com_example_imprint_imprint_tree_PagedText) hisR ?_
  intro p e s m args below meth c s₁ Bd hml0 hP hK
  obtain ⟨rfl, hZ, hh⟩ := hP
  have hx := Bd.exec
  have hby := Bd.bytes
  have hml : c.maxLocals = 13 := hml0
  have hown : s.vm.findClass "com/example/imprint/imprint/tree/PagedText" = some m.cls := findClass_of_methodNamed Bd.named
  have hnm := (name_of_methodNamed Bd.named Bd.method).1
  have X0 : Stand p l e ({ frames := 5, cells := 2, slots := 30, locals := 150 } : Room) s m #[(.ref a1), (.ref x), .null, (.int (0 : Int32)), (.int p1)] below meth c s₁ [] 0 0 := Stand.of_body Bd
  have e0 : s₁.heap = h0 := by rw [← hh, Bd.state]; rfl
  have N0 := Fr.nil n0
  obtain ⟨A0, hA0⟩ : ∃ z, z = s₁.setTop (entryFrame m #[(.ref a1), (.ref x), .null, (.int (0 : Int32)), (.int p1)] 13) := ⟨_, rfl⟩
  have K : OGo p e below A0 s₁ (mkF m 0 #[rv a1, rv x, .val .null, iv 0, iv p1, .unset, .unset, .unset, .unset, .unset, .unset, .unset, .unset] []) := fun t k => hA0 ▸ castTop (ef_5_n2 m a1 x (0 : Int32) p1) k
  have oz := own_t0
  refine cps (A := ∃ (pg2 : Addr) (kp2 : ClassId) (cx : Int32) (Tj1 : State) (hj1 : Heap) (lj1 : List Loc), Stand p l e ({ frames := 5, cells := 2, slots := 30, locals := 150 } : Room) s m #[(.ref a1), (.ref x), .null, (.int (0 : Int32)), (.int p1)] below meth c Tj1 lj1 1 15 ∧ Tj1.heap = hj1 ∧ Fr n0 lj1 ∧ n0 ≤ hj1.size ∧ Keep h0 hj1 [a1, np, wp, pg] ∧ Exa Z hj1 a1 cN0 ∧ Fld Z hj1 a1 cN0 "narrowPages" "[[B" (.ref np) ∧ Fld Z hj1 a1 cN0 "widePages" "[[C" (.ref wp) ∧ Fld Z hj1 a1 cN0 "pageCount" "I" (.int (1 : Int32)) ∧ Fld Z hj1 a1 cN0 "capacity" "I" (.int cx) ∧ Fld Z hj1 a1 cN0 "length" "I" (.int len) ∧ OAr Z hj1 np kn (.array .byte) [.null] ∧ OAr Z hj1 wp kw (.array .char) [(.ref pg2)] ∧ Exa Z hj1 pg2 "[C" ∧ OPg Z hj1 pg2 kp2 .char cx ∧ OAr Z hj1 x kx .char [(.int u0), (.int u1), (.int u2)] ∧ Old Z n0 hj1 ∧ (pg2 = pg ∨ h0.size ≤ pg2) ∧ n0 ≤ pg2 ∧ OND [a1, np, wp, pg2, x] ∧ cx = own_cap len p1 cap ∧ OGo p e below A0 Tj1 (mkF m 25 #[rv a1, rv x, .val .null, iv 0, iv p1, .unset, .unset, .unset, .unset, .unset, .unset, .unset, .unset] [])) (fun J1 => ?_) ?_
  · obtain ⟨T2, X2, e2, st2⟩ := getF X0 hx hZ hown (host := "") (Or.inl (ow hw 38 rfl)) Via.refl e0 F_length_a1 (g := (mkF m 1 #[rv a1, rv x, .val .null, iv 0, iv p1, .unset, .unset, .unset, .unset, .unset, .unset, .unset, .unset] [(.ref a1)])) rfl rfl (hb hby d5_1)
    obtain ⟨T3, X3, e3, st3⟩ := getF X2 hx hZ hown (host := "") (Or.inl (ow hw 22 rfl)) Via.refl e2 F_capacity_a1 (g := (mkF m 8 #[rv a1, rv x, .val .null, iv 0, iv p1, .unset, .unset, .unset, .unset, .unset, .unset, .unset, .unset] [(.ref a1), (.int (len + p1))])) rfl rfl (hb hby d5_8)
    by_cases hc11 : cap < (len + p1)
    · obtain ⟨T4, X4, e4, st4⟩ := getF X3 hx hZ hown (host := "") (Or.inl (ow hw 38 rfl)) Via.refl e3 F_length_a1 (g := (mkF m 16 #[rv a1, rv x, .val .null, iv 0, iv p1, .unset, .unset, .unset, .unset, .unset, .unset, .unset, .unset] [(.ref a1), (.ref a1)])) rfl rfl (hb hby d5_16)
      have nd6 : OND [a1, np, wp, pg] := (ondS (allS (own_pw nd0 0 1 (by decide) rfl rfl) (allS (own_pw nd0 0 2 (by decide) rfl rfl) (allS (own_pw nd0 0 3 (by decide) rfl rfl) all0))) (ondS (allS (own_pw nd0 1 2 (by decide) rfl rfl) (allS (own_pw nd0 1 3 (by decide) rfl rfl) all0)) (ondS (allS (own_pw nd0 2 3 (by decide) rfl rfl) all0) (ondS all0 ond0))))
      obtain ⟨cq5, qp5, qp5'⟩ := E_a1.cell
      obtain ⟨_, _, ⟨T5, L5, k5, n5⟩, -, X5, ⟨Lc5, hQ5, l5, y5, z5⟩, st5⟩ := X4.privateBack hx (y := mN7) hown (mvT hZ (ow hw 40 rfl)) (mvT hZ (ow hw 41 rfl)) (own_selp hZ (ow hw 2 rfl) (ow hw 42 rfl) (ow hw 41 rfl)) (Cond.privateMethod_at (mvP hZ (ow hw 42 rfl) (args := #[]))) (mvT hZ (ow hw 43 rfl)) (by decide) (backOf (W := 0) (rm_growW l Z a0 hw [] a1 (len + p1) np wp pg kn kw kp cap len cs fw h0 n0 Z0 hST O_0 ovn ovw E_a1 F_narrowPages_a1 F_widePages_a1 F_pageCount_a1 F_capacity_a1 F_length_a1 V_np V_wp E_pg G_pg g_a1 g_np g_wp g_pg nd6 (own_hg hI hc11)) hZ (ow hw 43 rfl) (ow hw 3 rfl) (by decide) (by decide)) (g := (mkF m 22 #[rv a1, rv x, .val .null, iv 0, iv p1, .unset, .unset, .unset, .unset, .unset, .unset, .unset, .unset] [(.int (len + p1)), (.ref a1)])) rfl (by rw [hml]; rfl) (Steps.refl _) (a := a1) (by rw [e4]; exact qp5) qp5' (argsL := [(.int (len + p1))]) (rest := []) (lenOf pd__I_V rfl) rfl (by show 2 * 0 + _ ≤ _; exact Nat.le_of_eq rfl) (hb hby d5_22) (fun _ _ => ⟨rfl, e4, (by decide : 0 + 1 ≤ _), (by decide : 0 + 15 ≤ _)⟩)
      dsimp only [Pt.U, Pt.locs, Pt.cells, Pt.slots] at X5 l5 y5 z5 st5 hQ5
      subst l5 y5 z5
      obtain ⟨hp5, e5⟩ : ∃ z, T5.heap = z := ⟨_, rfl⟩
      rw [e5] at hQ5
      obtain ⟨rfl, Nq5, pg2_5, kp2_5, K5, P5_0, P5_1, P5_2, P5_3, P5_4, P5_5, P5_6, P5_7, P5_8, P5_9, P5_10⟩ := hQ5
      have ne_a1_pg2_5 : a1 ≠ pg2_5 := Nat.ne_of_lt (Nat.lt_of_lt_of_le E_a1.lt P5_0)
      have ne_x_pg2_5 : x ≠ pg2_5 := Nat.ne_of_lt (Nat.lt_of_lt_of_le V_x.lt P5_0)
      have ne_np_pg2_5 : np ≠ pg2_5 := Nat.ne_of_lt (Nat.lt_of_lt_of_le V_np.lt P5_0)
      have ne_wp_pg2_5 : wp ≠ pg2_5 := Nat.ne_of_lt (Nat.lt_of_lt_of_le V_wp.lt P5_0)
      have ne_pg_pg2_5 : pg ≠ pg2_5 := Nat.ne_of_lt (Nat.lt_of_lt_of_le E_pg.lt P5_0)
      have g_pg2_5 : n0 ≤ pg2_5 := Nat.le_trans Z0 P5_0
      have sz_pg2_5 : h0.size ≤ pg2_5 := Nat.le_trans (Keep.refl h0 [a1, np, wp, pg]).1 P5_0
      have Z5 : n0 ≤ hp5.size := Nat.le_trans Z0 K5.1
      have Kp5 : Keep h0 hp5 [a1, np, wp, pg] := (Keep.refl h0 [a1, np, wp, pg]).trans K5 (allS (Or.inl (List.mem_of_getElem? (i := 0) rfl)) (allS (Or.inl (List.mem_of_getElem? (i := 2) rfl)) all0))
      have N5 := Fr.app N0 Nq5
      replace K : OGo p e below A0 T5 (mkF m 25 #[rv a1, rv x, .val .null, iv 0, iv p1, .unset, .unset, .unset, .unset, .unset, .unset, .unset, .unset] []) := fun t k => K t (XS.aloadN X0.here hx rfl (hb hby d5_0) rfl rfl (st2 t (XS.iload X2.here hx rfl (hb hby d5_4) rfl (XS.iadd X2.here hx rfl (hb hby d5_6) rfl (XS.aloadN X2.here hx rfl (hb hby d5_7) rfl rfl (st3 t (XS.icmpNo X3.here hx rfl (hb hby d5_11) rfl (tlt hc11).2.2.2 (XS.aloadN X3.here hx rfl (hb hby d5_14) rfl rfl (XS.aloadN X3.here hx rfl (hb hby d5_15) rfl rfl (st4 t (XS.iload X4.here hx rfl (hb hby d5_19) rfl (XS.iadd X4.here hx rfl (hb hby d5_21) rfl (st5.trans k)))))))))))))
      have V_x_7 := (V_x.keep K5 (ninS (Ne.symm (own_pw nd0 0 4 (by decide) rfl rfl)) (ninS (Ne.symm (own_pw nd0 2 4 (by decide) rfl rfl)) nin0)))
      have O_8 := (O_0.keep K5 (allS g_a1 (allS g_wp all0)))
      have nd9 : OND [a1, np, wp, pg2_5, x] := (ondS (allS (own_pw nd0 0 1 (by decide) rfl rfl) (allS (own_pw nd0 0 2 (by decide) rfl rfl) (allS ne_a1_pg2_5 (allS (own_pw nd0 0 4 (by decide) rfl rfl) all0)))) (ondS (allS (own_pw nd0 1 2 (by decide) rfl rfl) (allS ne_np_pg2_5 (allS (own_pw nd0 1 4 (by decide) rfl rfl) all0))) (ondS (allS ne_wp_pg2_5 (allS (own_pw nd0 2 4 (by decide) rfl rfl) all0)) (ondS (allS (Ne.symm ne_x_pg2_5) all0) (ondS all0 ond0)))))
      exact J1 ⟨pg2_5, kp2_5, (own_max (len + p1) (cap * (2 : Int32))), _, _, _, X5, e5, N5, Z5, Kp5, P5_1, P5_2, P5_3, P5_4, P5_5, P5_6, P5_7, P5_8, P5_9, P5_10, V_x_7, O_8, (Or.inr sz_pg2_5), g_pg2_5, nd9, (by simp [own_cap, hc11]), K⟩
    · replace K : OGo p e below A0 T3 (mkF m 25 #[rv a1, rv x, .val .null, iv 0, iv p1, .unset, .unset, .unset, .unset, .unset, .unset, .unset, .unset] []) := fun t k => K t (XS.aloadN X0.here hx rfl (hb hby d5_0) rfl rfl (st2 t (XS.iload X2.here hx rfl (hb hby d5_4) rfl (XS.iadd X2.here hx rfl (hb hby d5_6) rfl (XS.aloadN X2.here hx rfl (hb hby d5_7) rfl rfl (st3 t (XS.icmpYes X3.here hx rfl (pc0 := 11) (pc' := 25) rfl (hb hby d5_11) rfl (flt hc11).2.2.2 (by decide) (by decide) k)))))))
      exact J1 ⟨pg, kp, cap, _, _, _, (X3.more (by decide) (by decide)), e3, N0, Z0, (Keep.refl h0 [a1, np, wp, pg]), E_a1, F_narrowPages_a1, F_widePages_a1, F_pageCount_a1, F_capacity_a1, F_length_a1, V_np, V_wp, E_pg, G_pg, V_x, O_0, (Or.inl rfl), g_pg, nd0, (by simp [own_cap, hc11]), K⟩
  clear K
  rintro ⟨pg2, kp2, cx, Tj1, hj1, lj1, Xj1, ej1, Nj1, Zj1, Kj1, E_a1_j1, F_narrowPages_a1_j1, F_widePages_a1_j1, F_pageCount_a1_j1, F_capacity_a1_j1, F_length_a1_j1, V_np_j1, V_wp_j1, E_pg2_j1, G_pg2_j1, V_x_j1, O_0_j1, or_pg2, g_pg2, nd1, hcx, K⟩
  have hJ := own_capI hI hcx
  replace K : OGo p e below A0 Tj1 (mkF m 32 #[rv a1, rv x, .val .null, iv 0, iv p1, iv 0, .unset, .unset, .unset, .unset, .unset, .unset, .unset] [(.int ((0 : Int32) + p1))]) := fun t k => K t (XS.iloadN Xj1.here hx rfl (hb hby d5_25) rfl (XS.istore Xj1.here hx rfl (hb hby d5_26) rfl (l' := #[rv a1, rv x, .val .null, iv 0, iv p1, iv 0, .unset, .unset, .unset, .unset, .unset, .unset, .unset]) rfl (XS.iloadN Xj1.here hx rfl (hb hby d5_28) rfl (XS.iload Xj1.here hx rfl (hb hby d5_29) rfl (XS.iadd Xj1.here hx rfl (hb hby d5_31) rfl k)))))
  rw [show ((0 : Int32) + p1) = p1 from Int32.zero_add _] at K
  by_cases hc38 : (0 : Int32) < p1
  · obtain ⟨T10, X10, e10, st10⟩ := getF Xj1 hx hZ hown (host := "") (Or.inl (ow hw 38 rfl)) Via.refl ej1 F_length_a1_j1 (g := (mkF m 42 #[rv a1, rv x, .val .null, iv 0, iv p1, iv 0, iv p1, .unset, .unset, .unset, .unset, .unset, .unset] [(.ref a1)])) rfl rfl (hb hby d5_42)
    obtain ⟨T11, X11, e11, st11⟩ := getS2 X10 hx hZ hown (host := "") (Or.inl (ow hw 62 rfl)) Via.refl e10 (hST.pb.ext O_0_j1.2) (g := (mkF m 45 #[rv a1, rv x, .val .null, iv 0, iv p1, iv 0, iv p1, .unset, .unset, .unset, .unset, .unset, .unset] [(.int len)])) rfl (hb hby d5_45)
    replace K : OGo p e below A0 T11 (mkF m 49 #[rv a1, rv x, .val .null, iv 0, iv p1, iv 0, iv p1, .unset, .unset, .unset, .unset, .unset, .unset] [(.int ((len.toUInt32 >>> ((16 : Int32) &&& 31).toUInt32).toInt32))]) := fun t k => K t (XS.istore Xj1.here hx rfl (hb hby d5_32) rfl (l' := #[rv a1, rv x, .val .null, iv 0, iv p1, iv 0, iv p1, .unset, .unset, .unset, .unset, .unset, .unset]) rfl (XS.iload Xj1.here hx rfl (hb hby d5_34) rfl (XS.iload Xj1.here hx rfl (hb hby d5_36) rfl (XS.icmpNo Xj1.here hx rfl (hb hby d5_38) rfl (tlt hc38).2.1 (XS.aloadN Xj1.here hx rfl (hb hby d5_41) rfl rfl (st10 t (st11 t (XS.iushr X11.here hx rfl (hb hby d5_48) rfl k))))))))
    rw [show ((len.toUInt32 >>> ((16 : Int32) &&& 31).toUInt32).toInt32) = (0 : Int32) from own_s16 hI] at K
    obtain ⟨T12, X12, e12, st12⟩ := getF X11 hx hZ hown (host := "") (Or.inl (ow hw 38 rfl)) Via.refl e11 F_length_a1_j1 (g := (mkF m 52 #[rv a1, rv x, .val .null, iv 0, iv p1, iv 0, iv p1, iv 0, .unset, .unset, .unset, .unset, .unset] [(.ref a1)])) rfl rfl (hb hby d5_52)
    obtain ⟨T13, X13, e13, st13⟩ := getS2 X12 hx hZ hown (host := "") (Or.inl (ow hw 64 rfl)) Via.refl e12 (hST.om.ext O_0_j1.2) (g := (mkF m 55 #[rv a1, rv x, .val .null, iv 0, iv p1, iv 0, iv p1, iv 0, .unset, .unset, .unset, .unset, .unset] [(.int len)])) rfl (hb hby d5_55)
    replace K : OGo p e below A0 T13 (mkF m 59 #[rv a1, rv x, .val .null, iv 0, iv p1, iv 0, iv p1, iv 0, .unset, .unset, .unset, .unset, .unset] [(.int (len &&& (65535 : Int32)))]) := fun t k => K t (XS.istore X11.here hx rfl (hb hby d5_49) rfl (l' := #[rv a1, rv x, .val .null, iv 0, iv p1, iv 0, iv p1, iv 0, .unset, .unset, .unset, .unset, .unset]) rfl (XS.aloadN X11.here hx rfl (hb hby d5_51) rfl rfl (st12 t (st13 t (XS.iand X13.here hx rfl (hb hby d5_58) rfl k)))))
    rw [show (len &&& (65535 : Int32)) = len from own_m16 hI] at K
    replace K : OGo p e below A0 T13 (mkF m 66 #[rv a1, rv x, .val .null, iv 0, iv p1, iv 0, iv p1, iv 0, iv len, .unset, .unset, .unset, .unset] [(.int (p1 - (0 : Int32)))]) := fun t k => K t (XS.istore X13.here hx rfl (hb hby d5_59) rfl (l' := #[rv a1, rv x, .val .null, iv 0, iv p1, iv 0, iv p1, iv 0, iv len, .unset, .unset, .unset, .unset]) rfl (XS.iload X13.here hx rfl (hb hby d5_61) rfl (XS.iload X13.here hx rfl (hb hby d5_63) rfl (XS.isub X13.here hx rfl (hb hby d5_65) rfl k))))
    rw [show (p1 - (0 : Int32)) = p1 from Int32.sub_zero _] at K
    obtain ⟨cq14, qp14, qp14'⟩ := E_a1_j1.cell
    obtain ⟨_, _, ⟨T14, L14, k14, n14⟩, -, X14, ⟨Lc14, hQ14, l14, y14, z14⟩, st14⟩ := X13.privateBack hx (y := mN6) hown (mvT hZ (ow hw 66 rfl)) (mvT hZ (ow hw 67 rfl)) (own_selp hZ (ow hw 2 rfl) (ow hw 68 rfl) (ow hw 67 rfl)) (Cond.privateMethod_at (mvP hZ (ow hw 68 rfl) (args := #[]))) (mvT hZ (ow hw 69 rfl)) (by decide) (backOf (W := 1) (rm_plenW l Z a0 hw [] a1 np wp pg2 kn kw kp2 cx len hj1 n0 Zj1 E_a1_j1 F_narrowPages_a1_j1 F_widePages_a1_j1 F_pageCount_a1_j1 F_capacity_a1_j1 F_length_a1_j1 V_np_j1 V_wp_j1 E_pg2_j1 G_pg2_j1) hZ (ow hw 69 rfl) (ow hw 3 rfl) (by decide) (by decide)) (g := (mkF m 69 #[rv a1, rv x, .val .null, iv 0, iv p1, iv 0, iv p1, iv 0, iv len, .unset, .unset, .unset, .unset] [(.int 0), (.ref a1), (.int p1)])) rfl (by rw [hml]; rfl) (Steps.refl _) (a := a1) (by rw [e13]; exact qp14) qp14' (argsL := [(.int (0 : Int32))]) (rest := [(.int p1)]) (lenOf pd__I_I rfl) rfl (by show 2 * 0 + _ ≤ _; exact Nat.le_of_eq rfl) (hb hby d5_69) (fun _ _ => ⟨rfl, e13, (by decide : 1 + 0 ≤ _), (by decide : 15 + 0 ≤ _)⟩)
    dsimp only [Pt.U, Pt.locs, Pt.cells, Pt.slots] at X14 l14 y14 z14 st14 hQ14
    subst l14 y14 z14
    obtain ⟨rfl, Nq14, e14⟩ := hQ14
    have N14 := Fr.app Nj1 Nq14
    obtain ⟨_, _, ⟨T15, L15, k15, n15⟩, -, X15, ⟨Lc15, hQ15, l15, y15, z15⟩, st15⟩ := Jvm.LawKit.callS X14 hx (y := mN0) hown (mvT hZ (ow hw 50 rfl)) (mvT hZ (ow hw 51 rfl)) (mvT hZ (ow hw 48 rfl)) (mvT hZ (ow hw 52 rfl)) (by decide) (backOf (W := 0) (rm_min l Z a0 hw [] p1 (cx - len) hj1 n0 Zj1 ) hZ (ow hw 52 rfl) (ow hw 48 rfl) (by decide) (by decide)) (g := (mkF m 75 #[rv a1, rv x, .val .null, iv 0, iv p1, iv 0, iv p1, iv 0, iv len, .unset, .unset, .unset, .unset] [(.int (cx - len)), (.int p1)])) rfl (by rw [hml]; rfl) (argsL := [(.int p1), (.int (cx - len))]) (rest := []) (lenOf pd__II_I rfl) rfl (by show 2 * 0 + _ ≤ _; exact Nat.le_of_eq rfl) (hb hby d5_75) (fun _ _ => ⟨rfl, e14, (by decide : 1 + 0 ≤ _), (by decide : 15 + 0 ≤ _)⟩)
    dsimp only [Pt.U, Pt.locs, Pt.cells, Pt.slots] at X15 l15 y15 z15 st15 hQ15
    subst l15 y15 z15
    obtain ⟨rfl, Nq15, e15⟩ := hQ15
    have N15 := Fr.app N14 Nq15
    replace K : OGo p e below A0 T15 (mkF m 78 #[rv a1, rv x, .val .null, iv 0, iv p1, iv 0, iv p1, iv 0, iv len, .unset, .unset, .unset, .unset] [(.int (own_min p1 (cx - len)))]) := fun t k => K t (XS.aloadN X13.here hx rfl (hb hby d5_66) rfl rfl (XS.iload X13.here hx rfl (hb hby d5_67) rfl (st14.trans (XS.iload X14.here hx rfl (hb hby d5_72) rfl (XS.isub X14.here hx rfl (hb hby d5_74) rfl (st15 t k))))))
    rw [show (own_min p1 (cx - len)) = p1 from own_minl (by rw [own_subI (a := cx) (b := len) (by omega)]; omega)] at K
    obtain ⟨T16, X16, e16, st16⟩ := getF X15 hx hZ hown (host := "") (Or.inl (ow hw 14 rfl)) Via.refl e15 F_narrowPages_a1_j1 (g := (mkF m 84 #[rv a1, rv x, .val .null, iv 0, iv p1, iv 0, iv p1, iv 0, iv len, iv p1, iv 0, .unset, .unset] [(.ref a1)])) rfl rfl (hb hby d5_84)
    replace K : OGo p e below A0 T16 (mkF m 175 #[rv a1, rv x, .val .null, iv 0, iv p1, iv 0, iv p1, iv 0, iv len, iv p1, iv 0, .val .null, .unset] [(.int 0)]) := fun t k => K t (XS.istore X15.here hx rfl (hb hby d5_78) rfl (l' := #[rv a1, rv x, .val .null, iv 0, iv p1, iv 0, iv p1, iv 0, iv len, iv p1, .unset, .unset, .unset]) rfl (XS.iconst X15.here hx rfl (hb hby d5_80) (XS.istore X15.here hx rfl (hb hby d5_81) rfl (l' := #[rv a1, rv x, .val .null, iv 0, iv p1, iv 0, iv p1, iv 0, iv len, iv p1, iv 0, .unset, .unset]) rfl (XS.aloadN X15.here hx rfl (hb hby d5_83) rfl rfl (st16 t (XS.iload X16.here hx rfl (hb hby d5_87) rfl (own_ldA X16 hx hZ e16 V_np_j1 rfl (j := (0 : Int32)) (v := .null) (by decide) rfl (g := (mkF m 89 #[rv a1, rv x, .val .null, iv 0, iv p1, iv 0, iv p1, iv 0, iv len, iv p1, iv 0, .unset, .unset] [(.int 0), (.ref np)])) rfl rfl (hb hby d5_89) t (XS.astore X16.here hx rfl (hb hby d5_90) rfl rfl (l' := #[rv a1, rv x, .val .null, iv 0, iv p1, iv 0, iv p1, iv 0, iv len, iv p1, iv 0, .val .null, .unset]) rfl (XS.aload X16.here hx rfl (hb hby d5_92) rfl rfl (XS.ifnullYes X16.here hx rfl (pc0 := 94) (pc' := 163) rfl (hb hby d5_94) rfl (by decide) (by decide) (XS.iload X16.here hx rfl (hb hby d5_163) rfl (XS.iload X16.here hx rfl (hb hby d5_165) rfl (XS.icmpNo X16.here hx rfl (hb hby d5_167) rfl (tlt (hc38 : (0 : Int32) < p1)).2.1 (XS.iload X16.here hx rfl (hb hby d5_170) rfl (XS.iload X16.here hx rfl (hb hby d5_172) rfl (XS.iadd X16.here hx rfl (hb hby d5_174) rfl k))))))))))))))))
    obtain ⟨T17, X17, e17, st17⟩ := getF X16 hx hZ hown (host := "") (Or.inl (ow hw 18 rfl)) Via.refl e16 F_widePages_a1_j1 (g := (mkF m 185 #[rv a1, rv x, .val .null, iv 0, iv p1, iv 0, iv p1, iv 0, iv len, iv p1, iv 0, .val .null, iv 0] [(.ref a1), (.int 0), (.ref x)])) rfl rfl (hb hby d5_185)
    replace K : OGo p e below A0 T17 (mkF m 201 #[rv a1, rv x, .val .null, iv 0, iv p1, iv 0, iv p1, iv 0, iv len, iv p1, iv 0, .val .null, iv 0] [(.int (p1 - (0 : Int32))), (.int (len + (0 : Int32))), (.ref pg2), (.int 0), (.ref x)]) := fun t k => K t (XS.istore X16.here hx rfl (hb hby d5_175) rfl (l' := #[rv a1, rv x, .val .null, iv 0, iv p1, iv 0, iv p1, iv 0, iv len, iv p1, iv 0, .val .null, iv 0]) rfl (XS.aloadN X16.here hx rfl (hb hby d5_177) rfl rfl (XS.ifnullNo X16.here hx rfl (hb hby d5_178) rfl (XS.aloadN X16.here hx rfl (hb hby d5_181) rfl rfl (XS.iload X16.here hx rfl (hb hby d5_182) rfl (XS.aloadN X16.here hx rfl (hb hby d5_184) rfl rfl (st17 t (XS.iload X17.here hx rfl (hb hby d5_188) rfl (own_ldA X17 hx hZ e17 V_wp_j1 rfl (j := (0 : Int32)) (v := (.ref pg2)) (by decide) rfl (g := (mkF m 190 #[rv a1, rv x, .val .null, iv 0, iv p1, iv 0, iv p1, iv 0, iv len, iv p1, iv 0, .val .null, iv 0] [(.int 0), (.ref wp), (.int 0), (.ref x)])) rfl rfl (hb hby d5_190) t (XS.iload X17.here hx rfl (hb hby d5_191) rfl (XS.iload X17.here hx rfl (hb hby d5_193) rfl (XS.iadd X17.here hx rfl (hb hby d5_195) rfl (XS.iload X17.here hx rfl (hb hby d5_196) rfl (XS.iload X17.here hx rfl (hb hby d5_198) rfl (XS.isub X17.here hx rfl (hb hby d5_200) rfl k)))))))))))))))
    have G_x18 := OPg.ofL (n := (3 : Int32)) V_x_j1 rfl (by decide) (own_chfit hu)
    obtain ⟨T19, h19, L19, X19, e19, N19, K19, G19, st19⟩ := own_cpP X17 hx hZ hown (ow hw 143 rfl) (ow hw 61 rfl) (ow hw 59 rfl) (ow hw 60 rfl) e17 G_x18 G_pg2_j1 rfl (sp := (0 : Int32)) (dp := (len + (0 : Int32))) (nn := (p1 - (0 : Int32))) (own_nn (by omega)) (own_nn (by rw [own_addI (a := len) (b := (0 : Int32)) (by omega)]; omega)) (own_nn (by rw [own_subI (a := p1) (b := (0 : Int32)) (by omega)]; omega)) (own_acA (by omega)) (own_acB (by omega)) N15 g_pg2 (g := (mkF m 201 #[rv a1, rv x, .val .null, iv 0, iv p1, iv 0, iv p1, iv 0, iv len, iv p1, iv 0, .val .null, iv 0] [(.int (p1 - (0 : Int32))), (.int (len + (0 : Int32))), (.ref pg2), (.int 0), (.ref x)])) rfl (by rw [hml]; rfl) rfl (hb hby d5_201) (by decide) (W := 0) (by show 2 * 0 + _ ≤ _; exact Nat.le_of_eq rfl) (by decide)
    have Z19 : n0 ≤ h19.size := Nat.le_trans Zj1 K19.1
    have Kp19 : Keep h0 h19 [a1, np, wp, pg] := Kj1.trans K19 (allS (own_orin or_pg2 (List.mem_of_getElem? (i := 3) rfl)) all0)
    replace K : OGo p e below A0 T19 (mkF m 235 #[rv a1, rv x, .val .null, iv 0, iv p1, iv 0, iv p1, iv 0, iv len, iv p1, iv 0, .val .null, iv 0] [(.int ((0 : Int32) + p1))]) := fun t k => K t (st19 t (XS.goto X19.here hx rfl (pc0 := 204) (pc' := 230) rfl (hb hby d5_204) (by decide) (by decide) (XS.iload X19.here hx rfl (hb hby d5_230) rfl (XS.iload X19.here hx rfl (hb hby d5_232) rfl (XS.iadd X19.here hx rfl (hb hby d5_234) rfl k)))))
    rw [show ((0 : Int32) + p1) = p1 from Int32.zero_add _] at K
    have F_length_a1_j1_20 := (F_length_a1_j1.keep K19 (ninS (own_pw nd1 0 3 (by decide) rfl rfl) nin0))
    obtain ⟨T21, X21, e21, st21⟩ := getF X19 hx hZ hown (host := "") (Or.inl (ow hw 38 rfl)) Via.refl e19 F_length_a1_j1_20 (g := (mkF m 239 #[rv a1, rv x, .val .null, iv 0, iv p1, iv p1, iv p1, iv 0, iv len, iv p1, iv 0, .val .null, iv 0] [(.ref a1), (.ref a1)])) rfl rfl (hb hby d5_239)
    have E_a1_j1_22 := (E_a1_j1.keep K19)
    obtain ⟨T23, h23, X23, e23, W23, st23⟩ := putF X21 hx hZ hown (host := "") (Or.inl (ow hw 38 rfl)) Via.refl e21 F_length_a1_j1_20 E_a1_j1_22 (Or.inl (ow hw 39 rfl)) (ow hw 2 rfl) (ty := .int) (by decide) rfl rfl (g := (mkF m 245 #[rv a1, rv x, .val .null, iv 0, iv p1, iv p1, iv p1, iv 0, iv len, iv p1, iv 0, .val .null, iv 0] [(.int (len + p1)), (.ref a1)])) rfl rfl (hb hby d5_245)
    have Z23 : n0 ≤ h23.size := Nat.le_trans Z19 (Keep.of_wr W23).1
    have Kp23 : Keep h0 h23 [a1, np, wp, pg] := Kp19.wr W23 (Or.inl (List.mem_of_getElem? (i := 0) rfl))
    have F_length_a1_23 := F_length_a1_j1_20.same W23
    have N23 := Fr.snoc X23 N19 g_a1
    replace K : OGo p e below A0 T23 (mkF m 251 #[rv a1, rv x, .val .null, iv 0, iv p1, iv p1, iv p1, iv 0, iv len, iv p1, iv 0, .val .null, iv 0] []) := fun t k => K t (XS.istore X19.here hx rfl (hb hby d5_235) rfl (l' := #[rv a1, rv x, .val .null, iv 0, iv p1, iv p1, iv p1, iv 0, iv len, iv p1, iv 0, .val .null, iv 0]) rfl (XS.aloadN X19.here hx rfl (hb hby d5_237) rfl rfl (XS.dup X19.here hx rfl (hb hby d5_238) rfl rfl (st21 t (XS.iload X21.here hx rfl (hb hby d5_242) rfl (XS.iadd X21.here hx rfl (hb hby d5_244) rfl (st23 t (XS.goto X23.here hx rfl (pc0 := 248) (pc' := 34) rfl (hb hby d5_248) (by decide) (by decide) (XS.iload X23.here hx rfl (hb hby d5_34) rfl (XS.iload X23.here hx rfl (hb hby d5_36) rfl (XS.icmpYes X23.here hx rfl (pc0 := 38) (pc' := 251) rfl (hb hby d5_38) rfl (flt ((own_nlt (Int.le_refl _)) : ¬ (p1 < p1))).2.1 (by decide) (by decide) k)))))))))))
    have E_a1_j1_24 := (E_a1_j1_22.wr W23)
    have F_narrowPages_a1_j1_25 := ((F_narrowPages_a1_j1.keep K19 (ninS (own_pw nd1 0 3 (by decide) rfl rfl) nin0)).other W23 (Or.inr (sn_cN0_narrowPages_length hw)))
    have F_widePages_a1_j1_26 := ((F_widePages_a1_j1.keep K19 (ninS (own_pw nd1 0 3 (by decide) rfl rfl) nin0)).other W23 (Or.inr (sn_cN0_widePages_length hw)))
    have F_pageCount_a1_j1_27 := ((F_pageCount_a1_j1.keep K19 (ninS (own_pw nd1 0 3 (by decide) rfl rfl) nin0)).other W23 (Or.inr (sn_cN0_pageCount_length hw)))
    have F_capacity_a1_j1_28 := ((F_capacity_a1_j1.keep K19 (ninS (own_pw nd1 0 3 (by decide) rfl rfl) nin0)).other W23 (Or.inr (sn_cN0_capacity_length hw)))
    have V_np_j1_29 := ((V_np_j1.keep K19 (ninS (own_pw nd1 1 3 (by decide) rfl rfl) nin0)).other W23 (Ne.symm (own_pw nd0 0 1 (by decide) rfl rfl)))
    have V_wp_j1_30 := ((V_wp_j1.keep K19 (ninS (own_pw nd1 2 3 (by decide) rfl rfl) nin0)).other W23 (Ne.symm (own_pw nd0 0 2 (by decide) rfl rfl)))
    have E_pg2_j1_31 := ((E_pg2_j1.keep K19).wr W23)
    have G_pg2_j1_32 := (G19.other W23 (Ne.symm (own_pw nd1 0 3 (by decide) rfl rfl)))
    obtain ⟨fs, hr, hrun, hended, hW, hsame⟩ := X23.leave (v := none) (fun _ => rfl)
    subst hA0
    refine ⟨_, _, K _ (X23.returnOut hx Bd.returns (hb hby d5_251) hr), hrun, hended, _, _, rfl, ?_, ⟨_, rfl⟩, hW, hsame.mono (by decide) (by decide)⟩
    show Q_afcWW Z a1 x p1 np wp pg kn kw kp cap len kx u0 u1 u2 cs fw h0 n0 _ T23.heap _
    rw [e23]
    exact ⟨rfl, N23, pg2, kp2, cx, Kp23, or_pg2, E_a1_j1_24, F_narrowPages_a1_j1_25, F_widePages_a1_j1_26, F_pageCount_a1_j1_27, F_capacity_a1_j1_28, F_length_a1_23, V_np_j1_29, V_wp_j1_30, E_pg2_j1_31, G_pg2_j1_32, hcx⟩
  · replace K : OGo p e below A0 Tj1 (mkF m 251 #[rv a1, rv x, .val .null, iv 0, iv p1, iv 0, iv p1, .unset, .unset, .unset, .unset, .unset, .unset] []) := fun t k => K t (XS.istore Xj1.here hx rfl (hb hby d5_32) rfl (l' := #[rv a1, rv x, .val .null, iv 0, iv p1, iv 0, iv p1, .unset, .unset, .unset, .unset, .unset, .unset]) rfl (XS.iload Xj1.here hx rfl (hb hby d5_34) rfl (XS.iload Xj1.here hx rfl (hb hby d5_36) rfl (XS.icmpYes Xj1.here hx rfl (pc0 := 38) (pc' := 251) rfl (hb hby d5_38) rfl (flt hc38).2.1 (by decide) (by decide) k))))
    have F_length_a1_33 : Fld Z hj1 a1 cN0 "length" "I" (.int (len + p1)) := by rw [own_lz hI hc38]; exact F_length_a1_j1
    obtain ⟨fs, hr, hrun, hended, hW, hsame⟩ := Xj1.leave (v := none) (fun _ => rfl)
    subst hA0
    refine ⟨_, _, K _ (Xj1.returnOut hx Bd.returns (hb hby d5_251) hr), hrun, hended, _, _, rfl, ?_, ⟨_, rfl⟩, hW, hsame.mono (by decide) (by decide)⟩
    show Q_afcWW Z a1 x p1 np wp pg kn kw kp cap len kx u0 u1 u2 cs fw h0 n0 _ Tj1.heap _
    rw [ej1]
    exact ⟨rfl, Nj1, pg2, kp2, cx, Kj1, or_pg2, E_a1_j1, F_narrowPages_a1_j1, F_widePages_a1_j1, F_pageCount_a1_j1, F_capacity_a1_j1, F_length_a1_33, V_np_j1, V_wp_j1, E_pg2_j1, G_pg2_j1, hcx⟩
theorem ef_5_n1 (m : MethodId) (x0 : Addr) (x2 : Addr) (x3 : Int32) (x4 : Int32) : entryFrame m #[(.ref x0), .null, (.ref x2), (.int x3), (.int x4)] 13 = mkF m 0 #[.val (.ref x0), .val .null, .val (.ref x2), .val (.int x3), .val (.int x4), .unset, .unset, .unset, .unset, .unset, .unset, .unset, .unset] [] := by first | (simp [entryFrame, mkF, argsToLocals, Value.category]; done) | rfl
theorem d5_118 : Dc5 118 (.aload_n 2) 1 := by decide +kernel
theorem d5_119 : Dc5 119 (.iload 5) 2 := by decide +kernel
theorem d5_121 : Dc5 121 (.iload 10) 2 := by decide +kernel
theorem d5_123 : Dc5 123 (.iadd) 1 := by decide +kernel
theorem d5_124 : Dc5 124 (.invokevirtual 95) 3 := by decide +kernel
theorem pd__I_C : parseMethodDescriptor "(I)C" = some ⟨[.int], some .char⟩ := by decide +kernel
def Q_afsNN (Z : State) (a1 : Addr) (s1 : Addr) (np : Addr) (wp : Addr) (pg : Addr) (kn : ClassId) (kw : ClassId) (kp : ClassId) (cap : Int32) (len : Int32) (va : Addr) (kv : ClassId) (cs : Int32) (fw : Value) (h0 : Heap) (n0 : Nat) (v : Option Value) (h : Heap) (L : List Loc) : Prop := v = none ∧ Fr n0 L ∧ ∃ (pgr : Addr) (kpr : ClassId) (cxr : Int32), Keep h0 h [a1, np, wp, pg] ∧ (pgr = pg ∨ h0.size ≤ pgr) ∧ Exa Z h a1 cN0 ∧ Fld Z h a1 cN0 "narrowPages" "[[B" (.ref np) ∧ Fld Z h a1 cN0 "widePages" "[[C" (.ref wp) ∧ Fld Z h a1 cN0 "pageCount" "I" (.int (1 : Int32)) ∧ Fld Z h a1 cN0 "capacity" "I" (.int cxr) ∧ Fld Z h a1 cN0 "length" "I" (.int (len + (3 : Int32))) ∧ OAr Z h np kn (.array .byte) [(.ref pgr)] ∧ OAr Z h wp kw (.array .char) [.null] ∧ Exa Z h pgr "[B" ∧ OPg Z h pgr kpr .byte cxr ∧ cxr = own_cap len (3 : Int32) cap
theorem rm_afsNN (l : Launch) (Z : State) (a0 : Array Value) (hw : ∀ d ∈ tables_1, d.before a0 Z = true) (ws : List Jvm.Cond) (a1 : Addr) (s1 : Addr) (np : Addr) (wp : Addr) (pg : Addr) (kn : ClassId) (kw : ClassId) (kp : ClassId) (cap : Int32) (len : Int32) (va : Addr) (kv : ClassId) (cs : Int32) (fw : Value) (h0 : Heap) (n0 : Nat) (Z0 : n0 ≤ h0.size) (hST : own_ST Z cs fw) (O_0 : Old Z n0 h0) (ovn : OvrA Z kn .byte "[B") (ovw : OvrA Z kw .char "[C") (E_a1 : Exa Z h0 a1 cN0) (F_narrowPages_a1 : Fld Z h0 a1 cN0 "narrowPages" "[[B" (.ref np)) (F_widePages_a1 : Fld Z h0 a1 cN0 "widePages" "[[C" (.ref wp)) (F_pageCount_a1 : Fld Z h0 a1 cN0 "pageCount" "I" (.int (1 : Int32))) (F_capacity_a1 : Fld Z h0 a1 cN0 "capacity" "I" (.int cap)) (F_length_a1 : Fld Z h0 a1 cN0 "length" "I" (.int len)) (V_np : OAr Z h0 np kn (.array .byte) [(.ref pg)]) (V_wp : OAr Z h0 wp kw (.array .char) [.null]) (E_pg : Exa Z h0 pg "[B") (G_pg : OPg Z h0 pg kp .byte cap) (F_value_s1 : Fld Z h0 s1 cN1 "value" "[B" (.ref va)) (F_coder_s1 : Fld Z h0 s1 cN1 "coder" "B" (.int (0 : Int32))) (G_va : OPg Z h0 va kv .byte (3 : Int32)) (E_s1 : Exa Z h0 s1 cN1) (g_a1 : n0 ≤ a1) (g_np : n0 ≤ np) (g_wp : n0 ≤ wp) (g_pg : n0 ≤ pg) (nd0 : OND [a1, np, wp, pg, s1, va]) (hI : 0 ≤ cap.toInt ∧ cap.toInt ≤ 15 ∧ 0 ≤ len.toInt ∧ len.toInt ≤ 3 ∧ len.toInt ≤ cap.toInt ∧ 0 ≤ (3 : Int32).toInt ∧ (3 : Int32).toInt ≤ 3) :
    oM l mN39 prog_89_method_9_code 13 none ws ({ frames := 5, cells := 2, slots := 30, locals := 150 } : Room) #[(.ref a1), .null, (.ref s1), (.int (0 : Int32)), (.int (3 : Int32))] Z h0 (Q_afsNN Z a1 s1 np wp pg kn kw kp cap len va kv cs fw h0 n0) := by
  refine MetFree.of_bodySF (plainFor_of_name pn_com_example_imprint_imprint_tree_PagedText) hisR ?_
  intro p e s m args below meth c s₁ Bd hml0 hP hK
  obtain ⟨rfl, hZ, hh⟩ := hP
  have hx := Bd.exec
  have hby := Bd.bytes
  have hml : c.maxLocals = 13 := hml0
  have hown : s.vm.findClass "com/example/imprint/imprint/tree/PagedText" = some m.cls := findClass_of_methodNamed Bd.named
  have hnm := (name_of_methodNamed Bd.named Bd.method).1
  have X0 : Stand p l e ({ frames := 5, cells := 2, slots := 30, locals := 150 } : Room) s m #[(.ref a1), .null, (.ref s1), (.int (0 : Int32)), (.int (3 : Int32))] below meth c s₁ [] 0 0 := Stand.of_body Bd
  have e0 : s₁.heap = h0 := by rw [← hh, Bd.state]; rfl
  have N0 := Fr.nil n0
  obtain ⟨A0, hA0⟩ : ∃ z, z = s₁.setTop (entryFrame m #[(.ref a1), .null, (.ref s1), (.int (0 : Int32)), (.int (3 : Int32))] 13) := ⟨_, rfl⟩
  have K : OGo p e below A0 s₁ (mkF m 0 #[rv a1, .val .null, rv s1, iv 0, iv 3, .unset, .unset, .unset, .unset, .unset, .unset, .unset, .unset] []) := fun t k => hA0 ▸ castTop (ef_5_n1 m a1 s1 (0 : Int32) (3 : Int32)) k
  have oz := own_t0
  refine cps (A := ∃ (pg2 : Addr) (kp2 : ClassId) (cx : Int32) (Tj1 : State) (hj1 : Heap) (lj1 : List Loc), Stand p l e ({ frames := 5, cells := 2, slots := 30, locals := 150 } : Room) s m #[(.ref a1), .null, (.ref s1), (.int (0 : Int32)), (.int (3 : Int32))] below meth c Tj1 lj1 1 15 ∧ Tj1.heap = hj1 ∧ Fr n0 lj1 ∧ n0 ≤ hj1.size ∧ Keep h0 hj1 [a1, np, wp, pg] ∧ Exa Z hj1 a1 cN0 ∧ Fld Z hj1 a1 cN0 "narrowPages" "[[B" (.ref np) ∧ Fld Z hj1 a1 cN0 "widePages" "[[C" (.ref wp) ∧ Fld Z hj1 a1 cN0 "pageCount" "I" (.int (1 : Int32)) ∧ Fld Z hj1 a1 cN0 "capacity" "I" (.int cx) ∧ Fld Z hj1 a1 cN0 "length" "I" (.int len) ∧ OAr Z hj1 np kn (.array .byte) [(.ref pg2)] ∧ OAr Z hj1 wp kw (.array .char) [.null] ∧ Exa Z hj1 pg2 "[B" ∧ OPg Z hj1 pg2 kp2 .byte cx ∧ Fld Z hj1 s1 cN1 "value" "[B" (.ref va) ∧ Fld Z hj1 s1 cN1 "coder" "B" (.int (0 : Int32)) ∧ OPg Z hj1 va kv .byte (3 : Int32) ∧ Exa Z hj1 s1 cN1 ∧ Old Z n0 hj1 ∧ (pg2 = pg ∨ h0.size ≤ pg2) ∧ n0 ≤ pg2 ∧ OND [a1, np, wp, pg2, s1, va] ∧ cx = own_cap len (3 : Int32) cap ∧ OGo p e below A0 Tj1 (mkF m 25 #[rv a1, .val .null, rv s1, iv 0, iv 3, .unset, .unset, .unset, .unset, .unset, .unset, .unset, .unset] [])) (fun J1 => ?_) ?_
  · obtain ⟨T2, X2, e2, st2⟩ := getF X0 hx hZ hown (host := "") (Or.inl (ow hw 38 rfl)) Via.refl e0 F_length_a1 (g := (mkF m 1 #[rv a1, .val .null, rv s1, iv 0, iv 3, .unset, .unset, .unset, .unset, .unset, .unset, .unset, .unset] [(.ref a1)])) rfl rfl (hb hby d5_1)
    obtain ⟨T3, X3, e3, st3⟩ := getF X2 hx hZ hown (host := "") (Or.inl (ow hw 22 rfl)) Via.refl e2 F_capacity_a1 (g := (mkF m 8 #[rv a1, .val .null, rv s1, iv 0, iv 3, .unset, .unset, .unset, .unset, .unset, .unset, .unset, .unset] [(.ref a1), (.int (len + (3 : Int32)))])) rfl rfl (hb hby d5_8)
    by_cases hc11 : cap < (len + (3 : Int32))
    · obtain ⟨T4, X4, e4, st4⟩ := getF X3 hx hZ hown (host := "") (Or.inl (ow hw 38 rfl)) Via.refl e3 F_length_a1 (g := (mkF m 16 #[rv a1, .val .null, rv s1, iv 0, iv 3, .unset, .unset, .unset, .unset, .unset, .unset, .unset, .unset] [(.ref a1), (.ref a1)])) rfl rfl (hb hby d5_16)
      have nd6 : OND [a1, np, wp, pg] := (ondS (allS (own_pw nd0 0 1 (by decide) rfl rfl) (allS (own_pw nd0 0 2 (by decide) rfl rfl) (allS (own_pw nd0 0 3 (by decide) rfl rfl) all0))) (ondS (allS (own_pw nd0 1 2 (by decide) rfl rfl) (allS (own_pw nd0 1 3 (by decide) rfl rfl) all0)) (ondS (allS (own_pw nd0 2 3 (by decide) rfl rfl) all0) (ondS all0 ond0))))
      obtain ⟨cq5, qp5, qp5'⟩ := E_a1.cell
      obtain ⟨_, _, ⟨T5, L5, k5, n5⟩, -, X5, ⟨Lc5, hQ5, l5, y5, z5⟩, st5⟩ := X4.privateBack hx (y := mN7) hown (mvT hZ (ow hw 40 rfl)) (mvT hZ (ow hw 41 rfl)) (own_selp hZ (ow hw 2 rfl) (ow hw 42 rfl) (ow hw 41 rfl)) (Cond.privateMethod_at (mvP hZ (ow hw 42 rfl) (args := #[]))) (mvT hZ (ow hw 43 rfl)) (by decide) (backOf (W := 0) (rm_growN l Z a0 hw [] a1 (len + (3 : Int32)) np wp pg kn kw kp cap len cs fw h0 n0 Z0 hST O_0 ovn ovw E_a1 F_narrowPages_a1 F_widePages_a1 F_pageCount_a1 F_capacity_a1 F_length_a1 V_np V_wp E_pg G_pg g_a1 g_np g_wp g_pg nd6 (own_hg hI hc11)) hZ (ow hw 43 rfl) (ow hw 3 rfl) (by decide) (by decide)) (g := (mkF m 22 #[rv a1, .val .null, rv s1, iv 0, iv 3, .unset, .unset, .unset, .unset, .unset, .unset, .unset, .unset] [(.int (len + (3 : Int32))), (.ref a1)])) rfl (by rw [hml]; rfl) (Steps.refl _) (a := a1) (by rw [e4]; exact qp5) qp5' (argsL := [(.int (len + (3 : Int32)))]) (rest := []) (lenOf pd__I_V rfl) rfl (by show 2 * 0 + _ ≤ _; exact Nat.le_of_eq rfl) (hb hby d5_22) (fun _ _ => ⟨rfl, e4, (by decide : 0 + 1 ≤ _), (by decide : 0 + 15 ≤ _)⟩)
      dsimp only [Pt.U, Pt.locs, Pt.cells, Pt.slots] at X5 l5 y5 z5 st5 hQ5
      subst l5 y5 z5
      obtain ⟨hp5, e5⟩ : ∃ z, T5.heap = z := ⟨_, rfl⟩
      rw [e5] at hQ5
      obtain ⟨rfl, Nq5, pg2_5, kp2_5, K5, P5_0, P5_1, P5_2, P5_3, P5_4, P5_5, P5_6, P5_7, P5_8, P5_9, P5_10⟩ := hQ5
      have ne_a1_pg2_5 : a1 ≠ pg2_5 := Nat.ne_of_lt (Nat.lt_of_lt_of_le E_a1.lt P5_0)
      have ne_s1_pg2_5 : s1 ≠ pg2_5 := Nat.ne_of_lt (Nat.lt_of_lt_of_le F_value_s1.lt P5_0)
      have ne_np_pg2_5 : np ≠ pg2_5 := Nat.ne_of_lt (Nat.lt_of_lt_of_le V_np.lt P5_0)
      have ne_wp_pg2_5 : wp ≠ pg2_5 := Nat.ne_of_lt (Nat.lt_of_lt_of_le V_wp.lt P5_0)
      have ne_pg_pg2_5 : pg ≠ pg2_5 := Nat.ne_of_lt (Nat.lt_of_lt_of_le E_pg.lt P5_0)
      have ne_va_pg2_5 : va ≠ pg2_5 := Nat.ne_of_lt (Nat.lt_of_lt_of_le G_va.lt P5_0)
      have g_pg2_5 : n0 ≤ pg2_5 := Nat.le_trans Z0 P5_0
      have sz_pg2_5 : h0.size ≤ pg2_5 := Nat.le_trans (Keep.refl h0 [a1, np, wp, pg]).1 P5_0
      have Z5 : n0 ≤ hp5.size := Nat.le_trans Z0 K5.1
      have Kp5 : Keep h0 hp5 [a1, np, wp, pg] := (Keep.refl h0 [a1, np, wp, pg]).trans K5 (allS (Or.inl (List.mem_of_getElem? (i := 0) rfl)) (allS (Or.inl (List.mem_of_getElem? (i := 1) rfl)) all0))
      have N5 := Fr.app N0 Nq5
      replace K : OGo p e below A0 T5 (mkF m 25 #[rv a1, .val .null, rv s1, iv 0, iv 3, .unset, .unset, .unset, .unset, .unset, .unset, .unset, .unset] []) := fun t k => K t (XS.aloadN X0.here hx rfl (hb hby d5_0) rfl rfl (st2 t (XS.iload X2.here hx rfl (hb hby d5_4) rfl (XS.iadd X2.here hx rfl (hb hby d5_6) rfl (XS.aloadN X2.here hx rfl (hb hby d5_7) rfl rfl (st3 t (XS.icmpNo X3.here hx rfl (hb hby d5_11) rfl (tlt hc11).2.2.2 (XS.aloadN X3.here hx rfl (hb hby d5_14) rfl rfl (XS.aloadN X3.here hx rfl (hb hby d5_15) rfl rfl (st4 t (XS.iload X4.here hx rfl (hb hby d5_19) rfl (XS.iadd X4.here hx rfl (hb hby d5_21) rfl (st5.trans k)))))))))))))
      have F_value_s1_7 := (F_value_s1.keep K5 (ninS (Ne.symm (own_pw nd0 0 4 (by decide) rfl rfl)) (ninS (Ne.symm (own_pw nd0 1 4 (by decide) rfl rfl)) nin0)))
      have F_coder_s1_8 := (F_coder_s1.keep K5 (ninS (Ne.symm (own_pw nd0 0 4 (by decide) rfl rfl)) (ninS (Ne.symm (own_pw nd0 1 4 (by decide) rfl rfl)) nin0)))
      have G_va_9 := (G_va.keep K5 (ninS (Ne.symm (own_pw nd0 0 5 (by decide) rfl rfl)) (ninS (Ne.symm (own_pw nd0 1 5 (by decide) rfl rfl)) nin0)))
      have E_s1_10 := (E_s1.keep K5)
      have O_11 := (O_0.keep K5 (allS g_a1 (allS g_np all0)))
      have nd12 : OND [a1, np, wp, pg2_5, s1, va] := (ondS (allS (own_pw nd0 0 1 (by decide) rfl rfl) (allS (own_pw nd0 0 2 (by decide) rfl rfl) (allS ne_a1_pg2_5 (allS (own_pw nd0 0 4 (by decide) rfl rfl) (allS (own_pw nd0 0 5 (by decide) rfl rfl) all0))))) (ondS (allS (own_pw nd0 1 2 (by decide) rfl rfl) (allS ne_np_pg2_5 (allS (own_pw nd0 1 4 (by decide) rfl rfl) (allS (own_pw nd0 1 5 (by decide) rfl rfl) all0)))) (ondS (allS ne_wp_pg2_5 (allS (own_pw nd0 2 4 (by decide) rfl rfl) (allS (own_pw nd0 2 5 (by decide) rfl rfl) all0))) (ondS (allS (Ne.symm ne_s1_pg2_5) (allS (Ne.symm ne_va_pg2_5) all0)) (ondS (allS (own_pw nd0 4 5 (by decide) rfl rfl) all0) (ondS all0 ond0))))))
      exact J1 ⟨pg2_5, kp2_5, (own_max (len + (3 : Int32)) (cap * (2 : Int32))), _, _, _, X5, e5, N5, Z5, Kp5, P5_1, P5_2, P5_3, P5_4, P5_5, P5_6, P5_7, P5_8, P5_9, P5_10, F_value_s1_7, F_coder_s1_8, G_va_9, E_s1_10, O_11, (Or.inr sz_pg2_5), g_pg2_5, nd12, (by simp [own_cap, hc11]), K⟩
    · replace K : OGo p e below A0 T3 (mkF m 25 #[rv a1, .val .null, rv s1, iv 0, iv 3, .unset, .unset, .unset, .unset, .unset, .unset, .unset, .unset] []) := fun t k => K t (XS.aloadN X0.here hx rfl (hb hby d5_0) rfl rfl (st2 t (XS.iload X2.here hx rfl (hb hby d5_4) rfl (XS.iadd X2.here hx rfl (hb hby d5_6) rfl (XS.aloadN X2.here hx rfl (hb hby d5_7) rfl rfl (st3 t (XS.icmpYes X3.here hx rfl (pc0 := 11) (pc' := 25) rfl (hb hby d5_11) rfl (flt hc11).2.2.2 (by decide) (by decide) k)))))))
      exact J1 ⟨pg, kp, cap, _, _, _, (X3.more (by decide) (by decide)), e3, N0, Z0, (Keep.refl h0 [a1, np, wp, pg]), E_a1, F_narrowPages_a1, F_widePages_a1, F_pageCount_a1, F_capacity_a1, F_length_a1, V_np, V_wp, E_pg, G_pg, F_value_s1, F_coder_s1, G_va, E_s1, O_0, (Or.inl rfl), g_pg, nd0, (by simp [own_cap, hc11]), K⟩
  clear K
  rintro ⟨pg2, kp2, cx, Tj1, hj1, lj1, Xj1, ej1, Nj1, Zj1, Kj1, E_a1_j1, F_narrowPages_a1_j1, F_widePages_a1_j1, F_pageCount_a1_j1, F_capacity_a1_j1, F_length_a1_j1, V_np_j1, V_wp_j1, E_pg2_j1, G_pg2_j1, F_value_s1_j1, F_coder_s1_j1, G_va_j1, E_s1_j1, O_0_j1, or_pg2, g_pg2, nd1, hcx, K⟩
  have hJ := own_capI hI hcx
  replace K : OGo p e below A0 Tj1 (mkF m 32 #[rv a1, .val .null, rv s1, iv 0, iv 3, iv 0, .unset, .unset, .unset, .unset, .unset, .unset, .unset] [(.int 3)]) := fun t k => K t (XS.iloadN Xj1.here hx rfl (hb hby d5_25) rfl (XS.istore Xj1.here hx rfl (hb hby d5_26) rfl (l' := #[rv a1, .val .null, rv s1, iv 0, iv 3, iv 0, .unset, .unset, .unset, .unset, .unset, .unset, .unset]) rfl (XS.iloadN Xj1.here hx rfl (hb hby d5_28) rfl (XS.iload Xj1.here hx rfl (hb hby d5_29) rfl (XS.iadd Xj1.here hx rfl (hb hby d5_31) rfl k)))))
  obtain ⟨T13, X13, e13, st13⟩ := getF Xj1 hx hZ hown (host := "") (Or.inl (ow hw 38 rfl)) Via.refl ej1 F_length_a1_j1 (g := (mkF m 42 #[rv a1, .val .null, rv s1, iv 0, iv 3, iv 0, iv 3, .unset, .unset, .unset, .unset, .unset, .unset] [(.ref a1)])) rfl rfl (hb hby d5_42)
  obtain ⟨T14, X14, e14, st14⟩ := getS2 X13 hx hZ hown (host := "") (Or.inl (ow hw 62 rfl)) Via.refl e13 (hST.pb.ext O_0_j1.2) (g := (mkF m 45 #[rv a1, .val .null, rv s1, iv 0, iv 3, iv 0, iv 3, .unset, .unset, .unset, .unset, .unset, .unset] [(.int len)])) rfl (hb hby d5_45)
  replace K : OGo p e below A0 T14 (mkF m 49 #[rv a1, .val .null, rv s1, iv 0, iv 3, iv 0, iv 3, .unset, .unset, .unset, .unset, .unset, .unset] [(.int ((len.toUInt32 >>> ((16 : Int32) &&& 31).toUInt32).toInt32))]) := fun t k => K t (XS.istore Xj1.here hx rfl (hb hby d5_32) rfl (l' := #[rv a1, .val .null, rv s1, iv 0, iv 3, iv 0, iv 3, .unset, .unset, .unset, .unset, .unset, .unset]) rfl (XS.iload Xj1.here hx rfl (hb hby d5_34) rfl (XS.iload Xj1.here hx rfl (hb hby d5_36) rfl (XS.icmpNo Xj1.here hx rfl (hb hby d5_38) rfl (tlt ((by decide : (0 : Int32) < (3 : Int32)) : (0 : Int32) < (3 : Int32))).2.1 (XS.aloadN Xj1.here hx rfl (hb hby d5_41) rfl rfl (st13 t (st14 t (XS.iushr X14.here hx rfl (hb hby d5_48) rfl k))))))))
  rw [show ((len.toUInt32 >>> ((16 : Int32) &&& 31).toUInt32).toInt32) = (0 : Int32) from own_s16 hI] at K
  obtain ⟨T15, X15, e15, st15⟩ := getF X14 hx hZ hown (host := "") (Or.inl (ow hw 38 rfl)) Via.refl e14 F_length_a1_j1 (g := (mkF m 52 #[rv a1, .val .null, rv s1, iv 0, iv 3, iv 0, iv 3, iv 0, .unset, .unset, .unset, .unset, .unset] [(.ref a1)])) rfl rfl (hb hby d5_52)
  obtain ⟨T16, X16, e16, st16⟩ := getS2 X15 hx hZ hown (host := "") (Or.inl (ow hw 64 rfl)) Via.refl e15 (hST.om.ext O_0_j1.2) (g := (mkF m 55 #[rv a1, .val .null, rv s1, iv 0, iv 3, iv 0, iv 3, iv 0, .unset, .unset, .unset, .unset, .unset] [(.int len)])) rfl (hb hby d5_55)
  replace K : OGo p e below A0 T16 (mkF m 59 #[rv a1, .val .null, rv s1, iv 0, iv 3, iv 0, iv 3, iv 0, .unset, .unset, .unset, .unset, .unset] [(.int (len &&& (65535 : Int32)))]) := fun t k => K t (XS.istore X14.here hx rfl (hb hby d5_49) rfl (l' := #[rv a1, .val .null, rv s1, iv 0, iv 3, iv 0, iv 3, iv 0, .unset, .unset, .unset, .unset, .unset]) rfl (XS.aloadN X14.here hx rfl (hb hby d5_51) rfl rfl (st15 t (st16 t (XS.iand X16.here hx rfl (hb hby d5_58) rfl k)))))
  rw [show (len &&& (65535 : Int32)) = len from own_m16 hI] at K
  replace K : OGo p e below A0 T16 (mkF m 66 #[rv a1, .val .null, rv s1, iv 0, iv 3, iv 0, iv 3, iv 0, iv len, .unset, .unset, .unset, .unset] [(.int 3)]) := fun t k => K t (XS.istore X16.here hx rfl (hb hby d5_59) rfl (l' := #[rv a1, .val .null, rv s1, iv 0, iv 3, iv 0, iv 3, iv 0, iv len, .unset, .unset, .unset, .unset]) rfl (XS.iload X16.here hx rfl (hb hby d5_61) rfl (XS.iload X16.here hx rfl (hb hby d5_63) rfl (XS.isub X16.here hx rfl (hb hby d5_65) rfl k))))
  obtain ⟨cq17, qp17, qp17'⟩ := E_a1_j1.cell
  obtain ⟨_, _, ⟨T17, L17, k17, n17⟩, -, X17, ⟨Lc17, hQ17, l17, y17, z17⟩, st17⟩ := X16.privateBack hx (y := mN6) hown (mvT hZ (ow hw 66 rfl)) (mvT hZ (ow hw 67 rfl)) (own_selp hZ (ow hw 2 rfl) (ow hw 68 rfl) (ow hw 67 rfl)) (Cond.privateMethod_at (mvP hZ (ow hw 68 rfl) (args := #[]))) (mvT hZ (ow hw 69 rfl)) (by decide) (backOf (W := 1) (rm_plenN l Z a0 hw [] a1 np wp pg2 kn kw kp2 cx len hj1 n0 Zj1 E_a1_j1 F_narrowPages_a1_j1 F_widePages_a1_j1 F_pageCount_a1_j1 F_capacity_a1_j1 F_length_a1_j1 V_np_j1 V_wp_j1 E_pg2_j1 G_pg2_j1) hZ (ow hw 69 rfl) (ow hw 3 rfl) (by decide) (by decide)) (g := (mkF m 69 #[rv a1, .val .null, rv s1, iv 0, iv 3, iv 0, iv 3, iv 0, iv len, .unset, .unset, .unset, .unset] [(.int 0), (.ref a1), (.int 3)])) rfl (by rw [hml]; rfl) (Steps.refl _) (a := a1) (by rw [e16]; exact qp17) qp17' (argsL := [(.int (0 : Int32))]) (rest := [(.int (3 : Int32))]) (lenOf pd__I_I rfl) rfl (by show 2 * 0 + _ ≤ _; exact Nat.le_of_eq rfl) (hb hby d5_69) (fun _ _ => ⟨rfl, e16, (by decide : 1 + 0 ≤ _), (by decide : 15 + 0 ≤ _)⟩)
  dsimp only [Pt.U, Pt.locs, Pt.cells, Pt.slots] at X17 l17 y17 z17 st17 hQ17
  subst l17 y17 z17
  obtain ⟨rfl, Nq17, e17⟩ := hQ17
  have N17 := Fr.app Nj1 Nq17
  obtain ⟨_, _, ⟨T18, L18, k18, n18⟩, -, X18, ⟨Lc18, hQ18, l18, y18, z18⟩, st18⟩ := Jvm.LawKit.callS X17 hx (y := mN0) hown (mvT hZ (ow hw 50 rfl)) (mvT hZ (ow hw 51 rfl)) (mvT hZ (ow hw 48 rfl)) (mvT hZ (ow hw 52 rfl)) (by decide) (backOf (W := 0) (rm_min l Z a0 hw [] (3 : Int32) (cx - len) hj1 n0 Zj1 ) hZ (ow hw 52 rfl) (ow hw 48 rfl) (by decide) (by decide)) (g := (mkF m 75 #[rv a1, .val .null, rv s1, iv 0, iv 3, iv 0, iv 3, iv 0, iv len, .unset, .unset, .unset, .unset] [(.int (cx - len)), (.int 3)])) rfl (by rw [hml]; rfl) (argsL := [(.int (3 : Int32)), (.int (cx - len))]) (rest := []) (lenOf pd__II_I rfl) rfl (by show 2 * 0 + _ ≤ _; exact Nat.le_of_eq rfl) (hb hby d5_75) (fun _ _ => ⟨rfl, e17, (by decide : 1 + 0 ≤ _), (by decide : 15 + 0 ≤ _)⟩)
  dsimp only [Pt.U, Pt.locs, Pt.cells, Pt.slots] at X18 l18 y18 z18 st18 hQ18
  subst l18 y18 z18
  obtain ⟨rfl, Nq18, e18⟩ := hQ18
  have N18 := Fr.app N17 Nq18
  replace K : OGo p e below A0 T18 (mkF m 78 #[rv a1, .val .null, rv s1, iv 0, iv 3, iv 0, iv 3, iv 0, iv len, .unset, .unset, .unset, .unset] [(.int (own_min (3 : Int32) (cx - len)))]) := fun t k => K t (XS.aloadN X16.here hx rfl (hb hby d5_66) rfl rfl (XS.iload X16.here hx rfl (hb hby d5_67) rfl (st17.trans (XS.iload X17.here hx rfl (hb hby d5_72) rfl (XS.isub X17.here hx rfl (hb hby d5_74) rfl (st18 t k))))))
  rw [show (own_min (3 : Int32) (cx - len)) = (3 : Int32) from own_minl (by rw [own_subI (a := cx) (b := len) (by omega)]; omega)] at K
  obtain ⟨T19, X19, e19, st19⟩ := getF X18 hx hZ hown (host := "") (Or.inl (ow hw 14 rfl)) Via.refl e18 F_narrowPages_a1_j1 (g := (mkF m 84 #[rv a1, .val .null, rv s1, iv 0, iv 3, iv 0, iv 3, iv 0, iv len, iv 3, iv 0, .unset, .unset] [(.ref a1)])) rfl rfl (hb hby d5_84)
  replace K : OGo p e below A0 T19 (mkF m 97 #[rv a1, .val .null, rv s1, iv 0, iv 3, iv 0, iv 3, iv 0, iv len, iv 3, iv 0, rv pg2, .unset] []) := fun t k => K t (XS.istore X18.here hx rfl (hb hby d5_78) rfl (l' := #[rv a1, .val .null, rv s1, iv 0, iv 3, iv 0, iv 3, iv 0, iv len, iv 3, .unset, .unset, .unset]) rfl (XS.iconst X18.here hx rfl (hb hby d5_80) (XS.istore X18.here hx rfl (hb hby d5_81) rfl (l' := #[rv a1, .val .null, rv s1, iv 0, iv 3, iv 0, iv 3, iv 0, iv len, iv 3, iv 0, .unset, .unset]) rfl (XS.aloadN X18.here hx rfl (hb hby d5_83) rfl rfl (st19 t (XS.iload X19.here hx rfl (hb hby d5_87) rfl (own_ldA X19 hx hZ e19 V_np_j1 rfl (j := (0 : Int32)) (v := (.ref pg2)) (by decide) rfl (g := (mkF m 89 #[rv a1, .val .null, rv s1, iv 0, iv 3, iv 0, iv 3, iv 0, iv len, iv 3, iv 0, .unset, .unset] [(.int 0), (.ref np)])) rfl rfl (hb hby d5_89) t (XS.astore X19.here hx rfl (hb hby d5_90) rfl rfl (l' := #[rv a1, .val .null, rv s1, iv 0, iv 3, iv 0, iv 3, iv 0, iv len, iv 3, iv 0, rv pg2, .unset]) rfl (XS.aload X19.here hx rfl (hb hby d5_92) rfl rfl (XS.ifnullNo X19.here hx rfl (hb hby d5_94) rfl k))))))))))
  obtain ⟨nF20, ix, sl, Tl20, hl20, ll20, hI20⟩ : ∃ (nF20 : Nat) (ix : Int32) (sl : Slot) (Tl20 : State) (hl20 : Heap) (ll20 : List Loc), Stand p l e ({ frames := 5, cells := 2, slots := 30, locals := 150 } : Room) s m #[(.ref a1), .null, (.ref s1), (.int (0 : Int32)), (.int (3 : Int32))] below meth c Tl20 ll20 1 15 ∧ Tl20.heap = hl20 ∧ Fr n0 ll20 ∧ n0 ≤ hl20.size ∧ Keep h0 hl20 [a1, np, wp, pg] ∧ Exa Z hl20 a1 cN0 ∧ Fld Z hl20 a1 cN0 "narrowPages" "[[B" (.ref np) ∧ Fld Z hl20 a1 cN0 "widePages" "[[C" (.ref wp) ∧ Fld Z hl20 a1 cN0 "pageCount" "I" (.int (1 : Int32)) ∧ Fld Z hl20 a1 cN0 "capacity" "I" (.int cx) ∧ Fld Z hl20 a1 cN0 "length" "I" (.int len) ∧ OAr Z hl20 np kn (.array .byte) [(.ref pg2)] ∧ OAr Z hl20 wp kw (.array .char) [.null] ∧ Exa Z hl20 pg2 "[B" ∧ OPg Z hl20 pg2 kp2 .byte cx ∧ Fld Z hl20 s1 cN1 "value" "[B" (.ref va) ∧ Fld Z hl20 s1 cN1 "coder" "B" (.int (0 : Int32)) ∧ OPg Z hl20 va kv .byte (3 : Int32) ∧ Exa Z hl20 s1 cN1 ∧ Old Z n0 hl20 ∧ ((3 : Int32).toInt = ix.toInt + (nF20 : Int) ∧ 0 ≤ ix.toInt) ∧ (sl = .unset ∨ ∃ z : Int32, sl = iv z) ∧ OGo p e below A0 Tl20 (mkF m 97 #[rv a1, .val .null, rv s1, iv 0, iv 3, iv 0, iv 3, iv 0, iv len, iv 3, iv ix, rv pg2, sl] []) := ⟨(3 : Int32).toNatClampNeg, (0 : Int32), .unset, _, _, _, X19, e19, N18, Zj1, Kj1, E_a1_j1, F_narrowPages_a1_j1, F_widePages_a1_j1, F_pageCount_a1_j1, F_capacity_a1_j1, F_length_a1_j1, V_np_j1, V_wp_j1, E_pg2_j1, G_pg2_j1, F_value_s1_j1, F_coder_s1_j1, G_va_j1, E_s1_j1, O_0_j1, (own_f1 (by omega)), (Or.inl rfl), K⟩
  clear K
  induction nF20 generalizing ix sl Tl20 hl20 ll20 with
  | zero =>
    obtain ⟨Xl20, el20, Nl20, Zl20, Kl20, E_a1_l20, F_narrowPages_a1_l20, F_widePages_a1_l20, F_pageCount_a1_l20, F_capacity_a1_l20, F_length_a1_l20, V_np_l20, V_wp_l20, E_pg2_l20, G_pg2_l20, F_value_s1_l20, F_coder_s1_l20, G_va_l20, E_s1_l20, O_0_l20, hF, hsl, K⟩ := hI20
    replace K : OGo p e below A0 Tl20 (mkF m 235 #[rv a1, .val .null, rv s1, iv 0, iv 3, iv 0, iv 3, iv 0, iv len, iv 3, iv ix, rv pg2, sl] [(.int 3)]) := fun t k => K t (XS.iload Xl20.here hx rfl (hb hby d5_97) rfl (XS.iload Xl20.here hx rfl (hb hby d5_99) rfl (XS.icmpYes Xl20.here hx rfl (pc0 := 101) (pc' := 163) rfl (hb hby d5_101) rfl (flt ((own_nlt (by omega)) : ¬ (ix < (3 : Int32)))).2.1 (by decide) (by decide) (XS.iload Xl20.here hx rfl (hb hby d5_163) rfl (XS.iload Xl20.here hx rfl (hb hby d5_165) rfl (XS.icmpYes Xl20.here hx rfl (pc0 := 167) (pc' := 230) rfl (hb hby d5_167) rfl (flt ((own_nlt (by omega)) : ¬ (ix < (3 : Int32)))).2.1 (by decide) (by decide) (XS.iload Xl20.here hx rfl (hb hby d5_230) rfl (XS.iload Xl20.here hx rfl (hb hby d5_232) rfl (XS.iadd Xl20.here hx rfl (hb hby d5_234) rfl k)))))))))
    obtain ⟨T21, X21, e21, st21⟩ := getF Xl20 hx hZ hown (host := "") (Or.inl (ow hw 38 rfl)) Via.refl el20 F_length_a1_l20 (g := (mkF m 239 #[rv a1, .val .null, rv s1, iv 0, iv 3, iv 3, iv 3, iv 0, iv len, iv 3, iv ix, rv pg2, sl] [(.ref a1), (.ref a1)])) rfl rfl (hb hby d5_239)
    obtain ⟨T22, h22, X22, e22, W22, st22⟩ := putF X21 hx hZ hown (host := "") (Or.inl (ow hw 38 rfl)) Via.refl e21 F_length_a1_l20 E_a1_l20 (Or.inl (ow hw 39 rfl)) (ow hw 2 rfl) (ty := .int) (by decide) rfl rfl (g := (mkF m 245 #[rv a1, .val .null, rv s1, iv 0, iv 3, iv 3, iv 3, iv 0, iv len, iv 3, iv ix, rv pg2, sl] [(.int (len + (3 : Int32))), (.ref a1)])) rfl rfl (hb hby d5_245)
    have Z22 : n0 ≤ h22.size := Nat.le_trans Zl20 (Keep.of_wr W22).1
    have Kp22 : Keep h0 h22 [a1, np, wp, pg] := Kl20.wr W22 (Or.inl (List.mem_of_getElem? (i := 0) rfl))
    have F_length_a1_22 := F_length_a1_l20.same W22
    have N22 := Fr.snoc X22 Nl20 g_a1
    replace K : OGo p e below A0 T22 (mkF m 251 #[rv a1, .val .null, rv s1, iv 0, iv 3, iv 3, iv 3, iv 0, iv len, iv 3, iv ix, rv pg2, sl] []) := fun t k => K t (XS.istore Xl20.here hx rfl (hb hby d5_235) rfl (l' := #[rv a1, .val .null, rv s1, iv 0, iv 3, iv 3, iv 3, iv 0, iv len, iv 3, iv ix, rv pg2, sl]) rfl (XS.aloadN Xl20.here hx rfl (hb hby d5_237) rfl rfl (XS.dup Xl20.here hx rfl (hb hby d5_238) rfl rfl (st21 t (XS.iload X21.here hx rfl (hb hby d5_242) rfl (XS.iadd X21.here hx rfl (hb hby d5_244) rfl (st22 t (XS.goto X22.here hx rfl (pc0 := 248) (pc' := 34) rfl (hb hby d5_248) (by decide) (by decide) (XS.iload X22.here hx rfl (hb hby d5_34) rfl (XS.iload X22.here hx rfl (hb hby d5_36) rfl (XS.icmpYes X22.here hx rfl (pc0 := 38) (pc' := 251) rfl (hb hby d5_38) rfl (flt ((by decide : ¬ ((3 : Int32) < (3 : Int32))) : ¬ ((3 : Int32) < (3 : Int32)))).2.1 (by decide) (by decide) k)))))))))))
    have E_a1_l20_23 := (E_a1_l20.wr W22)
    have F_narrowPages_a1_l20_24 := (F_narrowPages_a1_l20.other W22 (Or.inr (sn_cN0_narrowPages_length hw)))
    have F_widePages_a1_l20_25 := (F_widePages_a1_l20.other W22 (Or.inr (sn_cN0_widePages_length hw)))
    have F_pageCount_a1_l20_26 := (F_pageCount_a1_l20.other W22 (Or.inr (sn_cN0_pageCount_length hw)))
    have F_capacity_a1_l20_27 := (F_capacity_a1_l20.other W22 (Or.inr (sn_cN0_capacity_length hw)))
    have V_np_l20_28 := (V_np_l20.other W22 (Ne.symm (own_pw nd0 0 1 (by decide) rfl rfl)))
    have V_wp_l20_29 := (V_wp_l20.other W22 (Ne.symm (own_pw nd0 0 2 (by decide) rfl rfl)))
    have E_pg2_l20_30 := (E_pg2_l20.wr W22)
    have G_pg2_l20_31 := (G_pg2_l20.other W22 (Ne.symm (own_pw nd1 0 3 (by decide) rfl rfl)))
    obtain ⟨fs, hr, hrun, hended, hW, hsame⟩ := X22.leave (v := none) (fun _ => rfl)
    subst hA0
    refine ⟨_, _, K _ (X22.returnOut hx Bd.returns (hb hby d5_251) hr), hrun, hended, _, _, rfl, ?_, ⟨_, rfl⟩, hW, hsame.mono (by decide) (by decide)⟩
    show Q_afsNN Z a1 s1 np wp pg kn kw kp cap len va kv cs fw h0 n0 _ T22.heap _
    rw [e22]
    exact ⟨rfl, N22, pg2, kp2, cx, Kp22, or_pg2, E_a1_l20_23, F_narrowPages_a1_l20_24, F_widePages_a1_l20_25, F_pageCount_a1_l20_26, F_capacity_a1_l20_27, F_length_a1_22, V_np_l20_28, V_wp_l20_29, E_pg2_l20_30, G_pg2_l20_31, hcx⟩
  | succ nF20 ih20 =>
    obtain ⟨Xl20, el20, Nl20, Zl20, Kl20, E_a1_l20, F_narrowPages_a1_l20, F_widePages_a1_l20, F_pageCount_a1_l20, F_capacity_a1_l20, F_length_a1_l20, V_np_l20, V_wp_l20, E_pg2_l20, G_pg2_l20, F_value_s1_l20, F_coder_s1_l20, G_va_l20, E_s1_l20, O_0_l20, hF, hsl, K⟩ := hI20
    replace K : OGo p e below A0 Tl20 (mkF m 124 #[rv a1, .val .null, rv s1, iv 0, iv 3, iv 0, iv 3, iv 0, iv len, iv 3, iv ix, rv pg2, sl] [(.int ((0 : Int32) + ix)), (.ref s1)]) := fun t k => K t (XS.iload Xl20.here hx rfl (hb hby d5_97) rfl (XS.iload Xl20.here hx rfl (hb hby d5_99) rfl (XS.icmpNo Xl20.here hx rfl (hb hby d5_101) rfl (tlt ((own_lt (by omega)) : ix < (3 : Int32))).2.1 (XS.aloadN Xl20.here hx rfl (hb hby d5_104) rfl rfl (XS.ifnullYes Xl20.here hx rfl (pc0 := 105) (pc' := 118) rfl (hb hby d5_105) rfl (by decide) (by decide) (XS.aloadN Xl20.here hx rfl (hb hby d5_118) rfl rfl (XS.iload Xl20.here hx rfl (hb hby d5_119) rfl (XS.iload Xl20.here hx rfl (hb hby d5_121) rfl (XS.iadd Xl20.here hx rfl (hb hby d5_123) rfl k)))))))))
    rw [show ((0 : Int32) + ix) = ix from Int32.zero_add _] at K
    obtain ⟨cq32, kq32, qv32a, qv32b, qv32c⟩ := isOf hZ el20 E_s1_l20
    obtain ⟨_, _, ⟨T32, L32, k32, n32⟩, -, X32, ⟨Lc32, hQ32, l32, y32, z32⟩, st32⟩ := Xl20.virtualBack hx (y := mN25) (z := mN25) hown (mvT hZ (ow hw 116 rfl)) (mvT hZ (ow hw 117 rfl)) (notFace_of_selects (args := #[]) (mvT hZ (ow hw 119 rfl))) (mvT hZ (ow hw 119 rfl)) (mvT hZ (ow hw 118 rfl)) (by decide) (backOf (W := 0) (rm_catL l Z a0 hw [] s1 ix va kv cs fw hl20 n0 Zl20 hST O_0_l20 F_value_s1_l20 F_coder_s1_l20 G_va_l20 E_s1_l20 (by omega)) hZ (ow hw 120 rfl) (ow hw 77 rfl) (by decide) (by decide)) qv32a qv32c (g := (mkF m 124 #[rv a1, .val .null, rv s1, iv 0, iv 3, iv 0, iv 3, iv 0, iv len, iv 3, iv ix, rv pg2, sl] [(.int ix), (.ref s1)])) rfl (by rw [hml]; rfl) (Steps.refl _) (argsL := [(.int ix)]) (rest := []) (lenOf pd__I_C rfl) rfl (by show 2 * 0 + _ ≤ _; exact Nat.le_of_eq rfl) (hb hby d5_124) (fun _ _ => ⟨rfl, el20, (by decide : 1 + 0 ≤ _), (by decide : 15 + 0 ≤ _)⟩)
    dsimp only [Pt.U, Pt.locs, Pt.cells, Pt.slots] at X32 l32 y32 z32 st32 hQ32
    subst l32 y32 z32
    obtain ⟨hp32, e32⟩ : ∃ z, T32.heap = z := ⟨_, rfl⟩
    rw [e32] at hQ32
    obtain ⟨w_32, rfl, Nq32, K32, P32_0⟩ := hQ32
    have Z32 : n0 ≤ hp32.size := Nat.le_trans Zl20 K32.1
    have Kp32 : Keep h0 hp32 [a1, np, wp, pg] := Kl20.trans K32 all0
    have N32 := Fr.app Nl20 Nq32
    have G_pg2_l20_33 := (G_pg2_l20.keep K32 nin0)
    obtain ⟨T34, h34, X34, e34, W34, G34, st34⟩ := own_stBp X32 hx hZ e32 G_pg2_l20_33 (j := (len + ix)) (own_nn (by rw [own_addI (a := len) (b := ix) (by omega)]; omega)) (own_ltN (by rw [own_addI (a := len) (b := ix) (by omega)]; omega)) (g := (mkF m 156 #[rv a1, .val .null, rv s1, iv 0, iv 3, iv 0, iv 3, iv 0, iv len, iv 3, iv ix, rv pg2, iv w_32] [(.int (w_32.toInt8.toInt32)), (.int (len + ix)), (.ref pg2)])) rfl rfl (hb hby d5_156)
    have Z34 : n0 ≤ h34.size := Nat.le_trans Z32 (Keep.of_wr W34).1
    have Kp34 : Keep h0 h34 [a1, np, wp, pg] := Kp32.wr W34 (own_orin or_pg2 (List.mem_of_getElem? (i := 3) rfl))
    have N34 := Fr.snoc X34 N32 g_pg2
    replace K : OGo p e below A0 T34 (mkF m 97 #[rv a1, .val .null, rv s1, iv 0, iv 3, iv 0, iv 3, iv 0, iv len, iv 3, iv (ix + (1 : Int32)), rv pg2, iv w_32] []) := fun t k => K t (st32.trans (XS.istore X32.here hx rfl (hb hby d5_127) rfl (l' := #[rv a1, .val .null, rv s1, iv 0, iv 3, iv 0, iv 3, iv 0, iv len, iv 3, iv ix, rv pg2, iv w_32]) (by rcases hsl with rfl | ⟨_, rfl⟩ <;> rfl) (XS.iload X32.here hx rfl (hb hby d5_129) rfl (XS.sipush X32.here hx rfl (hb hby d5_131) (XS.icmpYes X32.here hx rfl (pc0 := 134) (pc' := 146) rfl (hb hby d5_134) rfl (flt ((own_le255 P32_0) : ¬ ((255 : Int32) < w_32))).2.2.2 (by decide) (by decide) (XS.aload X32.here hx rfl (hb hby d5_146) rfl rfl (XS.iload X32.here hx rfl (hb hby d5_148) rfl (XS.iload X32.here hx rfl (hb hby d5_150) rfl (XS.iadd X32.here hx rfl (hb hby d5_152) rfl (XS.iload X32.here hx rfl (hb hby d5_153) rfl (XS.i2b X32.here hx rfl (hb hby d5_155) rfl (st34 t (XS.iinc X34.here hx rfl (hb hby d5_157) rfl (l' := #[rv a1, .val .null, rv s1, iv 0, iv 3, iv 0, iv 3, iv 0, iv len, iv 3, iv (ix + (1 : Int32)), rv pg2, iv w_32]) rfl (XS.goto X34.here hx rfl (pc0 := 160) (pc' := 97) rfl (hb hby d5_160) (by decide) (by decide) k))))))))))))))
    have E_a1_l20_35 := ((E_a1_l20.keep K32).wr W34)
    have F_narrowPages_a1_l20_36 := ((F_narrowPages_a1_l20.keep K32 nin0).other W34 (Or.inl (own_pw nd1 0 3 (by decide) rfl rfl)))
    have F_widePages_a1_l20_37 := ((F_widePages_a1_l20.keep K32 nin0).other W34 (Or.inl (own_pw nd1 0 3 (by decide) rfl rfl)))
    have F_pageCount_a1_l20_38 := ((F_pageCount_a1_l20.keep K32 nin0).other W34 (Or.inl (own_pw nd1 0 3 (by decide) rfl rfl)))
    have F_capacity_a1_l20_39 := ((F_capacity_a1_l20.keep K32 nin0).other W34 (Or.inl (own_pw nd1 0 3 (by decide) rfl rfl)))
    have F_length_a1_l20_40 := ((F_length_a1_l20.keep K32 nin0).other W34 (Or.inl (own_pw nd1 0 3 (by decide) rfl rfl)))
    have V_np_l20_41 := ((V_np_l20.keep K32 nin0).other W34 (own_pw nd1 1 3 (by decide) rfl rfl))
    have V_wp_l20_42 := ((V_wp_l20.keep K32 nin0).other W34 (own_pw nd1 2 3 (by decide) rfl rfl))
    have E_pg2_l20_43 := ((E_pg2_l20.keep K32).wr W34)
    have F_value_s1_l20_44 := ((F_value_s1_l20.keep K32 nin0).other W34 (Or.inl (Ne.symm (own_pw nd1 3 4 (by decide) rfl rfl))))
    have F_coder_s1_l20_45 := ((F_coder_s1_l20.keep K32 nin0).other W34 (Or.inl (Ne.symm (own_pw nd1 3 4 (by decide) rfl rfl))))
    have G_va_l20_46 := ((G_va_l20.keep K32 nin0).other W34 (Ne.symm (own_pw nd1 3 5 (by decide) rfl rfl)))
    have E_s1_l20_47 := ((E_s1_l20.keep K32).wr W34)
    have O_0_l20_48 := ((O_0_l20.keep K32 all0).wr W34 g_pg2)
    exact ih20 (ix + (1 : Int32)) (iv w_32) _ _ _ ⟨X34, e34, N34, Z34, Kp34, E_a1_l20_35, F_narrowPages_a1_l20_36, F_widePages_a1_l20_37, F_pageCount_a1_l20_38, F_capacity_a1_l20_39, F_length_a1_l20_40, V_np_l20_41, V_wp_l20_42, E_pg2_l20_43, G34, F_value_s1_l20_44, F_coder_s1_l20_45, G_va_l20_46, E_s1_l20_47, O_0_l20_48, (by have := own_inc (i := ix) (by omega); omega), (Or.inr ⟨_, rfl⟩), K⟩
theorem d5_207 : Dc5 207 (.aload_n 2) 1 := by decide +kernel
theorem d5_208 : Dc5 208 (.iload 12) 2 := by decide +kernel
theorem d5_210 : Dc5 210 (.iload 5) 2 := by decide +kernel
theorem d5_212 : Dc5 212 (.iload 9) 2 := by decide +kernel
theorem d5_214 : Dc5 214 (.iadd) 1 := by decide +kernel
theorem d5_215 : Dc5 215 (.aload_n 0) 1 := by decide +kernel
theorem d5_216 : Dc5 216 (.getfield 17) 3 := by decide +kernel
theorem d5_219 : Dc5 219 (.iload 7) 2 := by decide +kernel
theorem d5_221 : Dc5 221 (.aaload) 1 := by decide +kernel
theorem d5_222 : Dc5 222 (.iload 8) 2 := by decide +kernel
theorem d5_224 : Dc5 224 (.iload 10) 2 := by decide +kernel
theorem d5_226 : Dc5 226 (.iadd) 1 := by decide +kernel
theorem d5_227 : Dc5 227 (.invokevirtual 108) 3 := by decide +kernel
theorem pd__II_CI_V : parseMethodDescriptor "(II[CI)V" = some ⟨[.int, .int, (.array .char), .int], none⟩ := by decide +kernel
def Q_afsNW (Z : State) (a1 : Addr) (s1 : Addr) (np : Addr) (wp : Addr) (pg : Addr) (kn : ClassId) (kw : ClassId) (kp : ClassId) (cap : Int32) (len : Int32) (va : Addr) (kv : ClassId) (u0 : Int32) (u1 : Int32) (u2 : Int32) (cs : Int32) (fw : Value) (h0 : Heap) (n0 : Nat) (v : Option Value) (h : Heap) (L : List Loc) : Prop := v = none ∧ Fr n0 L ∧ ∃ (pgr : Addr) (kpr : ClassId) (cxr : Int32), Keep h0 h [a1, np, wp, pg] ∧ (pgr = pg ∨ h0.size ≤ pgr) ∧ Exa Z h a1 cN0 ∧ Fld Z h a1 cN0 "narrowPages" "[[B" (.ref np) ∧ Fld Z h a1 cN0 "widePages" "[[C" (.ref wp) ∧ Fld Z h a1 cN0 "pageCount" "I" (.int (1 : Int32)) ∧ Fld Z h a1 cN0 "capacity" "I" (.int cxr) ∧ Fld Z h a1 cN0 "length" "I" (.int (len + (3 : Int32))) ∧ OAr Z h np kn (.array .byte) [.null] ∧ OAr Z h wp kw (.array .char) [(.ref pgr)] ∧ Exa Z h pgr "[C" ∧ OPg Z h pgr kpr .char cxr ∧ cxr = own_cap len (3 : Int32) cap
theorem rm_afsNW (l : Launch) (Z : State) (a0 : Array Value) (hw : ∀ d ∈ tables_1, d.before a0 Z = true) (ws : List Jvm.Cond) (a1 : Addr) (s1 : Addr) (np : Addr) (wp : Addr) (pg : Addr) (kn : ClassId) (kw : ClassId) (kp : ClassId) (cap : Int32) (len : Int32) (va : Addr) (kv : ClassId) (u0 : Int32) (u1 : Int32) (u2 : Int32) (cs : Int32) (fw : Value) (h0 : Heap) (n0 : Nat) (Z0 : n0 ≤ h0.size) (hST : own_ST Z cs fw) (O_0 : Old Z n0 h0) (ovn : OvrA Z kn .byte "[B") (ovw : OvrA Z kw .char "[C") (E_a1 : Exa Z h0 a1 cN0) (F_narrowPages_a1 : Fld Z h0 a1 cN0 "narrowPages" "[[B" (.ref np)) (F_widePages_a1 : Fld Z h0 a1 cN0 "widePages" "[[C" (.ref wp)) (F_pageCount_a1 : Fld Z h0 a1 cN0 "pageCount" "I" (.int (1 : Int32))) (F_capacity_a1 : Fld Z h0 a1 cN0 "capacity" "I" (.int cap)) (F_length_a1 : Fld Z h0 a1 cN0 "length" "I" (.int len)) (V_np : OAr Z h0 np kn (.array .byte) [(.ref pg)]) (V_wp : OAr Z h0 wp kw (.array .char) [.null]) (E_pg : Exa Z h0 pg "[B") (G_pg : OPg Z h0 pg kp .byte cap) (F_value_s1 : Fld Z h0 s1 cN1 "value" "[B" (.ref va)) (F_coder_s1 : Fld Z h0 s1 cN1 "coder" "B" (.int (1 : Int32))) (V_va : OAr Z h0 va kv .byte [(.int (own_b0 u0)), (.int (own_b1 u0)), (.int (own_b0 u1)), (.int (own_b1 u1)), (.int (own_b0 u2)), (.int (own_b1 u2))]) (E_s1 : Exa Z h0 s1 cN1) (g_a1 : n0 ≤ a1) (g_np : n0 ≤ np) (g_wp : n0 ≤ wp) (g_pg : n0 ≤ pg) (nd0 : OND [a1, np, wp, pg, s1, va]) (hI : 0 ≤ cap.toInt ∧ cap.toInt ≤ 15 ∧ 0 ≤ len.toInt ∧ len.toInt ≤ 3 ∧ len.toInt ≤ cap.toInt ∧ 0 ≤ (3 : Int32).toInt ∧ (3 : Int32).toInt ≤ 3) (hwd : own_w u0 u1 u2 (3 : Int32)) (hu : own_ch u0 u1 u2) :
    oM l mN39 prog_89_method_9_code 13 none ws ({ frames := 5, cells := 2, slots := 30, locals := 150 } : Room) #[(.ref a1), .null, (.ref s1), (.int (0 : Int32)), (.int (3 : Int32))] Z h0 (Q_afsNW Z a1 s1 np wp pg kn kw kp cap len va kv u0 u1 u2 cs fw h0 n0) := by
  refine MetFree.of_bodySF (plainFor_of_name pn_com_example_imprint_imprint_tree_PagedText) hisR ?_
  intro p e s m args below meth c s₁ Bd hml0 hP hK
  obtain ⟨rfl, hZ, hh⟩ := hP
  have hx := Bd.exec
  have hby := Bd.bytes
  have hml : c.maxLocals = 13 := hml0
  have hown : s.vm.findClass "com/example/imprint/imprint/tree/PagedText" = some m.cls := findClass_of_methodNamed Bd.named
  have hnm := (name_of_methodNamed Bd.named Bd.method).1
  have X0 : Stand p l e ({ frames := 5, cells := 2, slots := 30, locals := 150 } : Room) s m #[(.ref a1), .null, (.ref s1), (.int (0 : Int32)), (.int (3 : Int32))] below meth c s₁ [] 0 0 := Stand.of_body Bd
  have e0 : s₁.heap = h0 := by rw [← hh, Bd.state]; rfl
  have N0 := Fr.nil n0
  obtain ⟨A0, hA0⟩ : ∃ z, z = s₁.setTop (entryFrame m #[(.ref a1), .null, (.ref s1), (.int (0 : Int32)), (.int (3 : Int32))] 13) := ⟨_, rfl⟩
  have K : OGo p e below A0 s₁ (mkF m 0 #[rv a1, .val .null, rv s1, iv 0, iv 3, .unset, .unset, .unset, .unset, .unset, .unset, .unset, .unset] []) := fun t k => hA0 ▸ castTop (ef_5_n1 m a1 s1 (0 : Int32) (3 : Int32)) k
  have oz := own_t0
  refine cps (A := ∃ (pg2 : Addr) (kp2 : ClassId) (cx : Int32) (Tj1 : State) (hj1 : Heap) (lj1 : List Loc), Stand p l e ({ frames := 5, cells := 2, slots := 30, locals := 150 } : Room) s m #[(.ref a1), .null, (.ref s1), (.int (0 : Int32)), (.int (3 : Int32))] below meth c Tj1 lj1 1 15 ∧ Tj1.heap = hj1 ∧ Fr n0 lj1 ∧ n0 ≤ hj1.size ∧ Keep h0 hj1 [a1, np, wp, pg] ∧ Exa Z hj1 a1 cN0 ∧ Fld Z hj1 a1 cN0 "narrowPages" "[[B" (.ref np) ∧ Fld Z hj1 a1 cN0 "widePages" "[[C" (.ref wp) ∧ Fld Z hj1 a1 cN0 "pageCount" "I" (.int (1 : Int32)) ∧ Fld Z hj1 a1 cN0 "capacity" "I" (.int cx) ∧ Fld Z hj1 a1 cN0 "length" "I" (.int len) ∧ OAr Z hj1 np kn (.array .byte) [(.ref pg2)] ∧ OAr Z hj1 wp kw (.array .char) [.null] ∧ Exa Z hj1 pg2 "[B" ∧ OPg Z hj1 pg2 kp2 .byte cx ∧ Fld Z hj1 s1 cN1 "value" "[B" (.ref va) ∧ Fld Z hj1 s1 cN1 "coder" "B" (.int (1 : Int32)) ∧ OAr Z hj1 va kv .byte [(.int (own_b0 u0)), (.int (own_b1 u0)), (.int (own_b0 u1)), (.int (own_b1 u1)), (.int (own_b0 u2)), (.int (own_b1 u2))] ∧ Exa Z hj1 s1 cN1 ∧ Old Z n0 hj1 ∧ (pg2 = pg ∨ h0.size ≤ pg2) ∧ n0 ≤ pg2 ∧ OND [a1, np, wp, pg2, s1, va] ∧ cx = own_cap len (3 : Int32) cap ∧ OGo p e below A0 Tj1 (mkF m 25 #[rv a1, .val .null, rv s1, iv 0, iv 3, .unset, .unset, .unset, .unset, .unset, .unset, .unset, .unset] [])) (fun J1 => ?_) ?_
  · obtain ⟨T2, X2, e2, st2⟩ := getF X0 hx hZ hown (host := "") (Or.inl (ow hw 38 rfl)) Via.refl e0 F_length_a1 (g := (mkF m 1 #[rv a1, .val .null, rv s1, iv 0, iv 3, .unset, .unset, .unset, .unset, .unset, .unset, .unset, .unset] [(.ref a1)])) rfl rfl (hb hby d5_1)
    obtain ⟨T3, X3, e3, st3⟩ := getF X2 hx hZ hown (host := "") (Or.inl (ow hw 22 rfl)) Via.refl e2 F_capacity_a1 (g := (mkF m 8 #[rv a1, .val .null, rv s1, iv 0, iv 3, .unset, .unset, .unset, .unset, .unset, .unset, .unset, .unset] [(.ref a1), (.int (len + (3 : Int32)))])) rfl rfl (hb hby d5_8)
    by_cases hc11 : cap < (len + (3 : Int32))
    · obtain ⟨T4, X4, e4, st4⟩ := getF X3 hx hZ hown (host := "") (Or.inl (ow hw 38 rfl)) Via.refl e3 F_length_a1 (g := (mkF m 16 #[rv a1, .val .null, rv s1, iv 0, iv 3, .unset, .unset, .unset, .unset, .unset, .unset, .unset, .unset] [(.ref a1), (.ref a1)])) rfl rfl (hb hby d5_16)
      have nd6 : OND [a1, np, wp, pg] := (ondS (allS (own_pw nd0 0 1 (by decide) rfl rfl) (allS (own_pw nd0 0 2 (by decide) rfl rfl) (allS (own_pw nd0 0 3 (by decide) rfl rfl) all0))) (ondS (allS (own_pw nd0 1 2 (by decide) rfl rfl) (allS (own_pw nd0 1 3 (by decide) rfl rfl) all0)) (ondS (allS (own_pw nd0 2 3 (by decide) rfl rfl) all0) (ondS all0 ond0))))
      obtain ⟨cq5, qp5, qp5'⟩ := E_a1.cell
      obtain ⟨_, _, ⟨T5, L5, k5, n5⟩, -, X5, ⟨Lc5, hQ5, l5, y5, z5⟩, st5⟩ := X4.privateBack hx (y := mN7) hown (mvT hZ (ow hw 40 rfl)) (mvT hZ (ow hw 41 rfl)) (own_selp hZ (ow hw 2 rfl) (ow hw 42 rfl) (ow hw 41 rfl)) (Cond.privateMethod_at (mvP hZ (ow hw 42 rfl) (args := #[]))) (mvT hZ (ow hw 43 rfl)) (by decide) (backOf (W := 0) (rm_growN l Z a0 hw [] a1 (len + (3 : Int32)) np wp pg kn kw kp cap len cs fw h0 n0 Z0 hST O_0 ovn ovw E_a1 F_narrowPages_a1 F_widePages_a1 F_pageCount_a1 F_capacity_a1 F_length_a1 V_np V_wp E_pg G_pg g_a1 g_np g_wp g_pg nd6 (own_hg hI hc11)) hZ (ow hw 43 rfl) (ow hw 3 rfl) (by decide) (by decide)) (g := (mkF m 22 #[rv a1, .val .null, rv s1, iv 0, iv 3, .unset, .unset, .unset, .unset, .unset, .unset, .unset, .unset] [(.int (len + (3 : Int32))), (.ref a1)])) rfl (by rw [hml]; rfl) (Steps.refl _) (a := a1) (by rw [e4]; exact qp5) qp5' (argsL := [(.int (len + (3 : Int32)))]) (rest := []) (lenOf pd__I_V rfl) rfl (by show 2 * 0 + _ ≤ _; exact Nat.le_of_eq rfl) (hb hby d5_22) (fun _ _ => ⟨rfl, e4, (by decide : 0 + 1 ≤ _), (by decide : 0 + 15 ≤ _)⟩)
      dsimp only [Pt.U, Pt.locs, Pt.cells, Pt.slots] at X5 l5 y5 z5 st5 hQ5
      subst l5 y5 z5
      obtain ⟨hp5, e5⟩ : ∃ z, T5.heap = z := ⟨_, rfl⟩
      rw [e5] at hQ5
      obtain ⟨rfl, Nq5, pg2_5, kp2_5, K5, P5_0, P5_1, P5_2, P5_3, P5_4, P5_5, P5_6, P5_7, P5_8, P5_9, P5_10⟩ := hQ5
      have ne_a1_pg2_5 : a1 ≠ pg2_5 := Nat.ne_of_lt (Nat.lt_of_lt_of_le E_a1.lt P5_0)
      have ne_s1_pg2_5 : s1 ≠ pg2_5 := Nat.ne_of_lt (Nat.lt_of_lt_of_le F_value_s1.lt P5_0)
      have ne_np_pg2_5 : np ≠ pg2_5 := Nat.ne_of_lt (Nat.lt_of_lt_of_le V_np.lt P5_0)
      have ne_wp_pg2_5 : wp ≠ pg2_5 := Nat.ne_of_lt (Nat.lt_of_lt_of_le V_wp.lt P5_0)
      have ne_pg_pg2_5 : pg ≠ pg2_5 := Nat.ne_of_lt (Nat.lt_of_lt_of_le E_pg.lt P5_0)
      have ne_va_pg2_5 : va ≠ pg2_5 := Nat.ne_of_lt (Nat.lt_of_lt_of_le V_va.lt P5_0)
      have g_pg2_5 : n0 ≤ pg2_5 := Nat.le_trans Z0 P5_0
      have sz_pg2_5 : h0.size ≤ pg2_5 := Nat.le_trans (Keep.refl h0 [a1, np, wp, pg]).1 P5_0
      have Z5 : n0 ≤ hp5.size := Nat.le_trans Z0 K5.1
      have Kp5 : Keep h0 hp5 [a1, np, wp, pg] := (Keep.refl h0 [a1, np, wp, pg]).trans K5 (allS (Or.inl (List.mem_of_getElem? (i := 0) rfl)) (allS (Or.inl (List.mem_of_getElem? (i := 1) rfl)) all0))
      have N5 := Fr.app N0 Nq5
      replace K : OGo p e below A0 T5 (mkF m 25 #[rv a1, .val .null, rv s1, iv 0, iv 3, .unset, .unset, .unset, .unset, .unset, .unset, .unset, .unset] []) := fun t k => K t (XS.aloadN X0.here hx rfl (hb hby d5_0) rfl rfl (st2 t (XS.iload X2.here hx rfl (hb hby d5_4) rfl (XS.iadd X2.here hx rfl (hb hby d5_6) rfl (XS.aloadN X2.here hx rfl (hb hby d5_7) rfl rfl (st3 t (XS.icmpNo X3.here hx rfl (hb hby d5_11) rfl (tlt hc11).2.2.2 (XS.aloadN X3.here hx rfl (hb hby d5_14) rfl rfl (XS.aloadN X3.here hx rfl (hb hby d5_15) rfl rfl (st4 t (XS.iload X4.here hx rfl (hb hby d5_19) rfl (XS.iadd X4.here hx rfl (hb hby d5_21) rfl (st5.trans k)))))))))))))
      have F_value_s1_7 := (F_value_s1.keep K5 (ninS (Ne.symm (own_pw nd0 0 4 (by decide) rfl rfl)) (ninS (Ne.symm (own_pw nd0 1 4 (by decide) rfl rfl)) nin0)))
      have F_coder_s1_8 := (F_coder_s1.keep K5 (ninS (Ne.symm (own_pw nd0 0 4 (by decide) rfl rfl)) (ninS (Ne.symm (own_pw nd0 1 4 (by decide) rfl rfl)) nin0)))
      have V_va_9 := (V_va.keep K5 (ninS (Ne.symm (own_pw nd0 0 5 (by decide) rfl rfl)) (ninS (Ne.symm (own_pw nd0 1 5 (by decide) rfl rfl)) nin0)))
      have E_s1_10 := (E_s1.keep K5)
      have O_11 := (O_0.keep K5 (allS g_a1 (allS g_np all0)))
      have nd12 : OND [a1, np, wp, pg2_5, s1, va] := (ondS (allS (own_pw nd0 0 1 (by decide) rfl rfl) (allS (own_pw nd0 0 2 (by decide) rfl rfl) (allS ne_a1_pg2_5 (allS (own_pw nd0 0 4 (by decide) rfl rfl) (allS (own_pw nd0 0 5 (by decide) rfl rfl) all0))))) (ondS (allS (own_pw nd0 1 2 (by decide) rfl rfl) (allS ne_np_pg2_5 (allS (own_pw nd0 1 4 (by decide) rfl rfl) (allS (own_pw nd0 1 5 (by decide) rfl rfl) all0)))) (ondS (allS ne_wp_pg2_5 (allS (own_pw nd0 2 4 (by decide) rfl rfl) (allS (own_pw nd0 2 5 (by decide) rfl rfl) all0))) (ondS (allS (Ne.symm ne_s1_pg2_5) (allS (Ne.symm ne_va_pg2_5) all0)) (ondS (allS (own_pw nd0 4 5 (by decide) rfl rfl) all0) (ondS all0 ond0))))))
      exact J1 ⟨pg2_5, kp2_5, (own_max (len + (3 : Int32)) (cap * (2 : Int32))), _, _, _, X5, e5, N5, Z5, Kp5, P5_1, P5_2, P5_3, P5_4, P5_5, P5_6, P5_7, P5_8, P5_9, P5_10, F_value_s1_7, F_coder_s1_8, V_va_9, E_s1_10, O_11, (Or.inr sz_pg2_5), g_pg2_5, nd12, (by simp [own_cap, hc11]), K⟩
    · replace K : OGo p e below A0 T3 (mkF m 25 #[rv a1, .val .null, rv s1, iv 0, iv 3, .unset, .unset, .unset, .unset, .unset, .unset, .unset, .unset] []) := fun t k => K t (XS.aloadN X0.here hx rfl (hb hby d5_0) rfl rfl (st2 t (XS.iload X2.here hx rfl (hb hby d5_4) rfl (XS.iadd X2.here hx rfl (hb hby d5_6) rfl (XS.aloadN X2.here hx rfl (hb hby d5_7) rfl rfl (st3 t (XS.icmpYes X3.here hx rfl (pc0 := 11) (pc' := 25) rfl (hb hby d5_11) rfl (flt hc11).2.2.2 (by decide) (by decide) k)))))))
      exact J1 ⟨pg, kp, cap, _, _, _, (X3.more (by decide) (by decide)), e3, N0, Z0, (Keep.refl h0 [a1, np, wp, pg]), E_a1, F_narrowPages_a1, F_widePages_a1, F_pageCount_a1, F_capacity_a1, F_length_a1, V_np, V_wp, E_pg, G_pg, F_value_s1, F_coder_s1, V_va, E_s1, O_0, (Or.inl rfl), g_pg, nd0, (by simp [own_cap, hc11]), K⟩
  clear K
  rintro ⟨pg2, kp2, cx, Tj1, hj1, lj1, Xj1, ej1, Nj1, Zj1, Kj1, E_a1_j1, F_narrowPages_a1_j1, F_widePages_a1_j1, F_pageCount_a1_j1, F_capacity_a1_j1, F_length_a1_j1, V_np_j1, V_wp_j1, E_pg2_j1, G_pg2_j1, F_value_s1_j1, F_coder_s1_j1, V_va_j1, E_s1_j1, O_0_j1, or_pg2, g_pg2, nd1, hcx, K⟩
  have hJ := own_capI hI hcx
  replace K : OGo p e below A0 Tj1 (mkF m 32 #[rv a1, .val .null, rv s1, iv 0, iv 3, iv 0, .unset, .unset, .unset, .unset, .unset, .unset, .unset] [(.int 3)]) := fun t k => K t (XS.iloadN Xj1.here hx rfl (hb hby d5_25) rfl (XS.istore Xj1.here hx rfl (hb hby d5_26) rfl (l' := #[rv a1, .val .null, rv s1, iv 0, iv 3, iv 0, .unset, .unset, .unset, .unset, .unset, .unset, .unset]) rfl (XS.iloadN Xj1.here hx rfl (hb hby d5_28) rfl (XS.iload Xj1.here hx rfl (hb hby d5_29) rfl (XS.iadd Xj1.here hx rfl (hb hby d5_31) rfl k)))))
  obtain ⟨T13, X13, e13, st13⟩ := getF Xj1 hx hZ hown (host := "") (Or.inl (ow hw 38 rfl)) Via.refl ej1 F_length_a1_j1 (g := (mkF m 42 #[rv a1, .val .null, rv s1, iv 0, iv 3, iv 0, iv 3, .unset, .unset, .unset, .unset, .unset, .unset] [(.ref a1)])) rfl rfl (hb hby d5_42)
  obtain ⟨T14, X14, e14, st14⟩ := getS2 X13 hx hZ hown (host := "") (Or.inl (ow hw 62 rfl)) Via.refl e13 (hST.pb.ext O_0_j1.2) (g := (mkF m 45 #[rv a1, .val .null, rv s1, iv 0, iv 3, iv 0, iv 3, .unset, .unset, .unset, .unset, .unset, .unset] [(.int len)])) rfl (hb hby d5_45)
  replace K : OGo p e below A0 T14 (mkF m 49 #[rv a1, .val .null, rv s1, iv 0, iv 3, iv 0, iv 3, .unset, .unset, .unset, .unset, .unset, .unset] [(.int ((len.toUInt32 >>> ((16 : Int32) &&& 31).toUInt32).toInt32))]) := fun t k => K t (XS.istore Xj1.here hx rfl (hb hby d5_32) rfl (l' := #[rv a1, .val .null, rv s1, iv 0, iv 3, iv 0, iv 3, .unset, .unset, .unset, .unset, .unset, .unset]) rfl (XS.iload Xj1.here hx rfl (hb hby d5_34) rfl (XS.iload Xj1.here hx rfl (hb hby d5_36) rfl (XS.icmpNo Xj1.here hx rfl (hb hby d5_38) rfl (tlt ((by decide : (0 : Int32) < (3 : Int32)) : (0 : Int32) < (3 : Int32))).2.1 (XS.aloadN Xj1.here hx rfl (hb hby d5_41) rfl rfl (st13 t (st14 t (XS.iushr X14.here hx rfl (hb hby d5_48) rfl k))))))))
  rw [show ((len.toUInt32 >>> ((16 : Int32) &&& 31).toUInt32).toInt32) = (0 : Int32) from own_s16 hI] at K
  obtain ⟨T15, X15, e15, st15⟩ := getF X14 hx hZ hown (host := "") (Or.inl (ow hw 38 rfl)) Via.refl e14 F_length_a1_j1 (g := (mkF m 52 #[rv a1, .val .null, rv s1, iv 0, iv 3, iv 0, iv 3, iv 0, .unset, .unset, .unset, .unset, .unset] [(.ref a1)])) rfl rfl (hb hby d5_52)
  obtain ⟨T16, X16, e16, st16⟩ := getS2 X15 hx hZ hown (host := "") (Or.inl (ow hw 64 rfl)) Via.refl e15 (hST.om.ext O_0_j1.2) (g := (mkF m 55 #[rv a1, .val .null, rv s1, iv 0, iv 3, iv 0, iv 3, iv 0, .unset, .unset, .unset, .unset, .unset] [(.int len)])) rfl (hb hby d5_55)
  replace K : OGo p e below A0 T16 (mkF m 59 #[rv a1, .val .null, rv s1, iv 0, iv 3, iv 0, iv 3, iv 0, .unset, .unset, .unset, .unset, .unset] [(.int (len &&& (65535 : Int32)))]) := fun t k => K t (XS.istore X14.here hx rfl (hb hby d5_49) rfl (l' := #[rv a1, .val .null, rv s1, iv 0, iv 3, iv 0, iv 3, iv 0, .unset, .unset, .unset, .unset, .unset]) rfl (XS.aloadN X14.here hx rfl (hb hby d5_51) rfl rfl (st15 t (st16 t (XS.iand X16.here hx rfl (hb hby d5_58) rfl k)))))
  rw [show (len &&& (65535 : Int32)) = len from own_m16 hI] at K
  replace K : OGo p e below A0 T16 (mkF m 66 #[rv a1, .val .null, rv s1, iv 0, iv 3, iv 0, iv 3, iv 0, iv len, .unset, .unset, .unset, .unset] [(.int 3)]) := fun t k => K t (XS.istore X16.here hx rfl (hb hby d5_59) rfl (l' := #[rv a1, .val .null, rv s1, iv 0, iv 3, iv 0, iv 3, iv 0, iv len, .unset, .unset, .unset, .unset]) rfl (XS.iload X16.here hx rfl (hb hby d5_61) rfl (XS.iload X16.here hx rfl (hb hby d5_63) rfl (XS.isub X16.here hx rfl (hb hby d5_65) rfl k))))
  obtain ⟨cq17, qp17, qp17'⟩ := E_a1_j1.cell
  obtain ⟨_, _, ⟨T17, L17, k17, n17⟩, -, X17, ⟨Lc17, hQ17, l17, y17, z17⟩, st17⟩ := X16.privateBack hx (y := mN6) hown (mvT hZ (ow hw 66 rfl)) (mvT hZ (ow hw 67 rfl)) (own_selp hZ (ow hw 2 rfl) (ow hw 68 rfl) (ow hw 67 rfl)) (Cond.privateMethod_at (mvP hZ (ow hw 68 rfl) (args := #[]))) (mvT hZ (ow hw 69 rfl)) (by decide) (backOf (W := 1) (rm_plenN l Z a0 hw [] a1 np wp pg2 kn kw kp2 cx len hj1 n0 Zj1 E_a1_j1 F_narrowPages_a1_j1 F_widePages_a1_j1 F_pageCount_a1_j1 F_capacity_a1_j1 F_length_a1_j1 V_np_j1 V_wp_j1 E_pg2_j1 G_pg2_j1) hZ (ow hw 69 rfl) (ow hw 3 rfl) (by decide) (by decide)) (g := (mkF m 69 #[rv a1, .val .null, rv s1, iv 0, iv 3, iv 0, iv 3, iv 0, iv len, .unset, .unset, .unset, .unset] [(.int 0), (.ref a1), (.int 3)])) rfl (by rw [hml]; rfl) (Steps.refl _) (a := a1) (by rw [e16]; exact qp17) qp17' (argsL := [(.int (0 : Int32))]) (rest := [(.int (3 : Int32))]) (lenOf pd__I_I rfl) rfl (by show 2 * 0 + _ ≤ _; exact Nat.le_of_eq rfl) (hb hby d5_69) (fun _ _ => ⟨rfl, e16, (by decide : 1 + 0 ≤ _), (by decide : 15 + 0 ≤ _)⟩)
  dsimp only [Pt.U, Pt.locs, Pt.cells, Pt.slots] at X17 l17 y17 z17 st17 hQ17
  subst l17 y17 z17
  obtain ⟨rfl, Nq17, e17⟩ := hQ17
  have N17 := Fr.app Nj1 Nq17
  obtain ⟨_, _, ⟨T18, L18, k18, n18⟩, -, X18, ⟨Lc18, hQ18, l18, y18, z18⟩, st18⟩ := Jvm.LawKit.callS X17 hx (y := mN0) hown (mvT hZ (ow hw 50 rfl)) (mvT hZ (ow hw 51 rfl)) (mvT hZ (ow hw 48 rfl)) (mvT hZ (ow hw 52 rfl)) (by decide) (backOf (W := 0) (rm_min l Z a0 hw [] (3 : Int32) (cx - len) hj1 n0 Zj1 ) hZ (ow hw 52 rfl) (ow hw 48 rfl) (by decide) (by decide)) (g := (mkF m 75 #[rv a1, .val .null, rv s1, iv 0, iv 3, iv 0, iv 3, iv 0, iv len, .unset, .unset, .unset, .unset] [(.int (cx - len)), (.int 3)])) rfl (by rw [hml]; rfl) (argsL := [(.int (3 : Int32)), (.int (cx - len))]) (rest := []) (lenOf pd__II_I rfl) rfl (by show 2 * 0 + _ ≤ _; exact Nat.le_of_eq rfl) (hb hby d5_75) (fun _ _ => ⟨rfl, e17, (by decide : 1 + 0 ≤ _), (by decide : 15 + 0 ≤ _)⟩)
  dsimp only [Pt.U, Pt.locs, Pt.cells, Pt.slots] at X18 l18 y18 z18 st18 hQ18
  subst l18 y18 z18
  obtain ⟨rfl, Nq18, e18⟩ := hQ18
  have N18 := Fr.app N17 Nq18
  replace K : OGo p e below A0 T18 (mkF m 78 #[rv a1, .val .null, rv s1, iv 0, iv 3, iv 0, iv 3, iv 0, iv len, .unset, .unset, .unset, .unset] [(.int (own_min (3 : Int32) (cx - len)))]) := fun t k => K t (XS.aloadN X16.here hx rfl (hb hby d5_66) rfl rfl (XS.iload X16.here hx rfl (hb hby d5_67) rfl (st17.trans (XS.iload X17.here hx rfl (hb hby d5_72) rfl (XS.isub X17.here hx rfl (hb hby d5_74) rfl (st18 t k))))))
  rw [show (own_min (3 : Int32) (cx - len)) = (3 : Int32) from own_minl (by rw [own_subI (a := cx) (b := len) (by omega)]; omega)] at K
  obtain ⟨T19, X19, e19, st19⟩ := getF X18 hx hZ hown (host := "") (Or.inl (ow hw 14 rfl)) Via.refl e18 F_narrowPages_a1_j1 (g := (mkF m 84 #[rv a1, .val .null, rv s1, iv 0, iv 3, iv 0, iv 3, iv 0, iv len, iv 3, iv 0, .unset, .unset] [(.ref a1)])) rfl rfl (hb hby d5_84)
  replace K : OGo p e below A0 T19 (mkF m 97 #[rv a1, .val .null, rv s1, iv 0, iv 3, iv 0, iv 3, iv 0, iv len, iv 3, iv 0, rv pg2, .unset] []) := fun t k => K t (XS.istore X18.here hx rfl (hb hby d5_78) rfl (l' := #[rv a1, .val .null, rv s1, iv 0, iv 3, iv 0, iv 3, iv 0, iv len, iv 3, .unset, .unset, .unset]) rfl (XS.iconst X18.here hx rfl (hb hby d5_80) (XS.istore X18.here hx rfl (hb hby d5_81) rfl (l' := #[rv a1, .val .null, rv s1, iv 0, iv 3, iv 0, iv 3, iv 0, iv len, iv 3, iv 0, .unset, .unset]) rfl (XS.aloadN X18.here hx rfl (hb hby d5_83) rfl rfl (st19 t (XS.iload X19.here hx rfl (hb hby d5_87) rfl (own_ldA X19 hx hZ e19 V_np_j1 rfl (j := (0 : Int32)) (v := (.ref pg2)) (by decide) rfl (g := (mkF m 89 #[rv a1, .val .null, rv s1, iv 0, iv 3, iv 0, iv 3, iv 0, iv len, iv 3, iv 0, .unset, .unset] [(.int 0), (.ref np)])) rfl rfl (hb hby d5_89) t (XS.astore X19.here hx rfl (hb hby d5_90) rfl rfl (l' := #[rv a1, .val .null, rv s1, iv 0, iv 3, iv 0, iv 3, iv 0, iv len, iv 3, iv 0, rv pg2, .unset]) rfl (XS.aload X19.here hx rfl (hb hby d5_92) rfl rfl (XS.ifnullNo X19.here hx rfl (hb hby d5_94) rfl k))))))))))
  obtain ⟨nF20, ix, sl, Tl20, hl20, ll20, hI20⟩ : ∃ (nF20 : Nat) (ix : Int32) (sl : Slot) (Tl20 : State) (hl20 : Heap) (ll20 : List Loc), Stand p l e ({ frames := 5, cells := 2, slots := 30, locals := 150 } : Room) s m #[(.ref a1), .null, (.ref s1), (.int (0 : Int32)), (.int (3 : Int32))] below meth c Tl20 ll20 1 15 ∧ Tl20.heap = hl20 ∧ Fr n0 ll20 ∧ n0 ≤ hl20.size ∧ Keep h0 hl20 [a1, np, wp, pg] ∧ Exa Z hl20 a1 cN0 ∧ Fld Z hl20 a1 cN0 "narrowPages" "[[B" (.ref np) ∧ Fld Z hl20 a1 cN0 "widePages" "[[C" (.ref wp) ∧ Fld Z hl20 a1 cN0 "pageCount" "I" (.int (1 : Int32)) ∧ Fld Z hl20 a1 cN0 "capacity" "I" (.int cx) ∧ Fld Z hl20 a1 cN0 "length" "I" (.int len) ∧ OAr Z hl20 np kn (.array .byte) [(.ref pg2)] ∧ OAr Z hl20 wp kw (.array .char) [.null] ∧ Exa Z hl20 pg2 "[B" ∧ OPg Z hl20 pg2 kp2 .byte cx ∧ Fld Z hl20 s1 cN1 "value" "[B" (.ref va) ∧ Fld Z hl20 s1 cN1 "coder" "B" (.int (1 : Int32)) ∧ OAr Z hl20 va kv .byte [(.int (own_b0 u0)), (.int (own_b1 u0)), (.int (own_b0 u1)), (.int (own_b1 u1)), (.int (own_b0 u2)), (.int (own_b1 u2))] ∧ Exa Z hl20 s1 cN1 ∧ Old Z n0 hl20 ∧ ((3 : Int32).toInt = ix.toInt + (nF20 : Int) ∧ 0 ≤ ix.toInt) ∧ (sl = .unset ∨ ∃ z : Int32, sl = iv z) ∧ (∀ j : Int32, 0 ≤ j.toInt → j.toInt < ix.toInt → ¬ (255 : Int32) < own_at u0 u1 u2 j) ∧ OGo p e below A0 Tl20 (mkF m 97 #[rv a1, .val .null, rv s1, iv 0, iv 3, iv 0, iv 3, iv 0, iv len, iv 3, iv ix, rv pg2, sl] []) := ⟨(3 : Int32).toNatClampNeg, (0 : Int32), .unset, _, _, _, X19, e19, N18, Zj1, Kj1, E_a1_j1, F_narrowPages_a1_j1, F_widePages_a1_j1, F_pageCount_a1_j1, F_capacity_a1_j1, F_length_a1_j1, V_np_j1, V_wp_j1, E_pg2_j1, G_pg2_j1, F_value_s1_j1, F_coder_s1_j1, V_va_j1, E_s1_j1, O_0_j1, (own_f1 (by omega)), (Or.inl rfl), own_hP0, K⟩
  clear K
  induction nF20 generalizing ix sl Tl20 hl20 ll20 with
  | zero =>
    obtain ⟨Xl20, el20, Nl20, Zl20, Kl20, E_a1_l20, F_narrowPages_a1_l20, F_widePages_a1_l20, F_pageCount_a1_l20, F_capacity_a1_l20, F_length_a1_l20, V_np_l20, V_wp_l20, E_pg2_l20, G_pg2_l20, F_value_s1_l20, F_coder_s1_l20, V_va_l20, E_s1_l20, O_0_l20, hF, hsl, hP, K⟩ := hI20
    exact absurd hwd (own_noW hP (by omega))
  | succ nF20 ih20 =>
    obtain ⟨Xl20, el20, Nl20, Zl20, Kl20, E_a1_l20, F_narrowPages_a1_l20, F_widePages_a1_l20, F_pageCount_a1_l20, F_capacity_a1_l20, F_length_a1_l20, V_np_l20, V_wp_l20, E_pg2_l20, G_pg2_l20, F_value_s1_l20, F_coder_s1_l20, V_va_l20, E_s1_l20, O_0_l20, hF, hsl, hP, K⟩ := hI20
    replace K : OGo p e below A0 Tl20 (mkF m 124 #[rv a1, .val .null, rv s1, iv 0, iv 3, iv 0, iv 3, iv 0, iv len, iv 3, iv ix, rv pg2, sl] [(.int ((0 : Int32) + ix)), (.ref s1)]) := fun t k => K t (XS.iload Xl20.here hx rfl (hb hby d5_97) rfl (XS.iload Xl20.here hx rfl (hb hby d5_99) rfl (XS.icmpNo Xl20.here hx rfl (hb hby d5_101) rfl (tlt ((own_lt (by omega)) : ix < (3 : Int32))).2.1 (XS.aloadN Xl20.here hx rfl (hb hby d5_104) rfl rfl (XS.ifnullYes Xl20.here hx rfl (pc0 := 105) (pc' := 118) rfl (hb hby d5_105) rfl (by decide) (by decide) (XS.aloadN Xl20.here hx rfl (hb hby d5_118) rfl rfl (XS.iload Xl20.here hx rfl (hb hby d5_119) rfl (XS.iload Xl20.here hx rfl (hb hby d5_121) rfl (XS.iadd Xl20.here hx rfl (hb hby d5_123) rfl k)))))))))
    rw [show ((0 : Int32) + ix) = ix from Int32.zero_add _] at K
    obtain ⟨cq21, kq21, qv21a, qv21b, qv21c⟩ := isOf hZ el20 E_s1_l20
    obtain ⟨_, _, ⟨T21, L21, k21, n21⟩, -, X21, ⟨Lc21, hQ21, l21, y21, z21⟩, st21⟩ := Xl20.virtualBack hx (y := mN25) (z := mN25) hown (mvT hZ (ow hw 116 rfl)) (mvT hZ (ow hw 117 rfl)) (notFace_of_selects (args := #[]) (mvT hZ (ow hw 119 rfl))) (mvT hZ (ow hw 119 rfl)) (mvT hZ (ow hw 118 rfl)) (by decide) (backOf (W := 0) (rm_catU l Z a0 hw [] s1 ix va kv u0 u1 u2 cs fw hl20 n0 Zl20 hST O_0_l20 F_value_s1_l20 F_coder_s1_l20 V_va_l20 E_s1_l20 (by omega) hu) hZ (ow hw 120 rfl) (ow hw 77 rfl) (by decide) (by decide)) qv21a qv21c (g := (mkF m 124 #[rv a1, .val .null, rv s1, iv 0, iv 3, iv 0, iv 3, iv 0, iv len, iv 3, iv ix, rv pg2, sl] [(.int ix), (.ref s1)])) rfl (by rw [hml]; rfl) (Steps.refl _) (argsL := [(.int ix)]) (rest := []) (lenOf pd__I_C rfl) rfl (by show 2 * 0 + _ ≤ _; exact Nat.le_of_eq rfl) (hb hby d5_124) (fun _ _ => ⟨rfl, el20, (by decide : 1 + 0 ≤ _), (by decide : 15 + 0 ≤ _)⟩)
    dsimp only [Pt.U, Pt.locs, Pt.cells, Pt.slots] at X21 l21 y21 z21 st21 hQ21
    subst l21 y21 z21
    obtain ⟨rfl, Nq21, e21⟩ := hQ21
    have N21 := Fr.app Nl20 Nq21
    by_cases hc134 : (255 : Int32) < (own_at u0 u1 u2 ix)
    · have nd23 : OND [a1, np, wp, pg2] := (ondS (allS (own_pw nd0 0 1 (by decide) rfl rfl) (allS (own_pw nd0 0 2 (by decide) rfl rfl) (allS (own_pw nd1 0 3 (by decide) rfl rfl) all0))) (ondS (allS (own_pw nd0 1 2 (by decide) rfl rfl) (allS (own_pw nd1 1 3 (by decide) rfl rfl) all0)) (ondS (allS (own_pw nd1 2 3 (by decide) rfl rfl) all0) (ondS all0 ond0))))
      obtain ⟨cq22, qp22, qp22'⟩ := E_a1_l20.cell
      obtain ⟨_, _, ⟨T22, L22, k22, n22⟩, -, X22, ⟨Lc22, hQ22, l22, y22, z22⟩, st22⟩ := X21.privateBack hx (y := mN8) hown (mvT hZ (ow hw 138 rfl)) (mvT hZ (ow hw 139 rfl)) (own_selp hZ (ow hw 2 rfl) (ow hw 140 rfl) (ow hw 139 rfl)) (Cond.privateMethod_at (mvP hZ (ow hw 140 rfl) (args := #[]))) (mvT hZ (ow hw 141 rfl)) (by decide) (backOf (W := 0) (rm_widen l Z a0 hw [] a1 np wp pg2 kn kw kp2 cx len hl20 n0 Zl20 ovn ovw E_a1_l20 F_narrowPages_a1_l20 F_widePages_a1_l20 F_pageCount_a1_l20 F_capacity_a1_l20 F_length_a1_l20 V_np_l20 V_wp_l20 E_pg2_l20 G_pg2_l20 g_np g_wp nd23 (by omega)) hZ (ow hw 141 rfl) (ow hw 3 rfl) (by decide) (by decide)) (g := (mkF m 140 #[rv a1, .val .null, rv s1, iv 0, iv 3, iv 0, iv 3, iv 0, iv len, iv 3, iv ix, rv pg2, iv (own_at u0 u1 u2 ix)] [(.int 0), (.ref a1)])) rfl (by rw [hml]; rfl) (Steps.refl _) (a := a1) (by rw [e21]; exact qp22) qp22' (argsL := [(.int (0 : Int32))]) (rest := []) (lenOf pd__I_V rfl) rfl (by show 2 * 0 + _ ≤ _; exact Nat.le_of_eq rfl) (hb hby d5_140) (fun _ _ => ⟨rfl, e21, (by decide : 1 + 1 ≤ _), (by decide : 15 + 15 ≤ _)⟩)
      dsimp only [Pt.U, Pt.locs, Pt.cells, Pt.slots] at X22 l22 y22 z22 st22 hQ22
      subst l22 y22 z22
      obtain ⟨hp22, e22⟩ : ∃ z, T22.heap = z := ⟨_, rfl⟩
      rw [e22] at hQ22
      obtain ⟨rfl, Nq22, pg2_22, kp2_22, K22, P22_0, P22_1, P22_2, P22_3, P22_4⟩ := hQ22
      have ne_a1_pg2_22 : a1 ≠ pg2_22 := Nat.ne_of_lt (Nat.lt_of_lt_of_le E_a1_l20.lt P22_0)
      have ne_s1_pg2_22 : s1 ≠ pg2_22 := Nat.ne_of_lt (Nat.lt_of_lt_of_le F_value_s1_l20.lt P22_0)
      have ne_np_pg2_22 : np ≠ pg2_22 := Nat.ne_of_lt (Nat.lt_of_lt_of_le V_np_l20.lt P22_0)
      have ne_wp_pg2_22 : wp ≠ pg2_22 := Nat.ne_of_lt (Nat.lt_of_lt_of_le V_wp_l20.lt P22_0)
      have ne_va_pg2_22 : va ≠ pg2_22 := Nat.ne_of_lt (Nat.lt_of_lt_of_le V_va_l20.lt P22_0)
      have ne_pg2_pg2_22 : pg2 ≠ pg2_22 := Nat.ne_of_lt (Nat.lt_of_lt_of_le E_pg2_l20.lt P22_0)
      have g_pg2_22 : n0 ≤ pg2_22 := Nat.le_trans Zl20 P22_0
      have sz_pg2_22 : h0.size ≤ pg2_22 := Nat.le_trans Kl20.1 P22_0
      have Z22 : n0 ≤ hp22.size := Nat.le_trans Zl20 K22.1
      have Kp22 : Keep h0 hp22 [a1, np, wp, pg] := Kl20.trans K22 (allS (Or.inl (List.mem_of_getElem? (i := 1) rfl)) (allS (Or.inl (List.mem_of_getElem? (i := 2) rfl)) all0))
      have N22 := Fr.app N21 Nq22
      replace K : OGo p e below A0 T22 (mkF m 175 #[rv a1, .val .null, rv s1, iv 0, iv 3, iv 0, iv 3, iv 0, iv len, iv 3, iv ix, rv pg2, iv (own_at u0 u1 u2 ix)] [(.int ((0 : Int32) + ix))]) := fun t k => K t (st21.trans (XS.istore X21.here hx rfl (hb hby d5_127) rfl (l' := #[rv a1, .val .null, rv s1, iv 0, iv 3, iv 0, iv 3, iv 0, iv len, iv 3, iv ix, rv pg2, iv (own_at u0 u1 u2 ix)]) (by rcases hsl with rfl | ⟨_, rfl⟩ <;> rfl) (XS.iload X21.here hx rfl (hb hby d5_129) rfl (XS.sipush X21.here hx rfl (hb hby d5_131) (XS.icmpNo X21.here hx rfl (hb hby d5_134) rfl (tlt hc134).2.2.2 (XS.aloadN X21.here hx rfl (hb hby d5_137) rfl rfl (XS.iload X21.here hx rfl (hb hby d5_138) rfl (st22.trans (XS.goto X22.here hx rfl (pc0 := 143) (pc' := 163) rfl (hb hby d5_143) (by decide) (by decide) (XS.iload X22.here hx rfl (hb hby d5_163) rfl (XS.iload X22.here hx rfl (hb hby d5_165) rfl (XS.icmpNo X22.here hx rfl (hb hby d5_167) rfl (tlt ((own_lt (by omega)) : ix < (3 : Int32))).2.1 (XS.iload X22.here hx rfl (hb hby d5_170) rfl (XS.iload X22.here hx rfl (hb hby d5_172) rfl (XS.iadd X22.here hx rfl (hb hby d5_174) rfl k)))))))))))))))
      rw [show ((0 : Int32) + ix) = ix from Int32.zero_add _] at K
      have F_widePages_a1_l20_24 := (F_widePages_a1_l20.keep K22 (ninS (own_pw nd0 0 1 (by decide) rfl rfl) (ninS (own_pw nd0 0 2 (by decide) rfl rfl) nin0)))
      obtain ⟨T25, X25, e25, st25⟩ := getF X22 hx hZ hown (host := "") (Or.inl (ow hw 18 rfl)) Via.refl e22 F_widePages_a1_l20_24 (g := (mkF m 216 #[rv a1, .val .null, rv s1, iv 0, iv 3, iv 0, iv 3, iv 0, iv len, iv 3, iv ix, rv pg2, iv ix] [(.ref a1), (.int 3), (.int ix), (.ref s1)])) rfl rfl (hb hby d5_216)
      have O_0_l20_27 := (O_0_l20.keep K22 (allS g_np (allS g_wp all0)))
      have F_value_s1_l20_28 := (F_value_s1_l20.keep K22 (ninS (Ne.symm (own_pw nd0 1 4 (by decide) rfl rfl)) (ninS (Ne.symm (own_pw nd0 2 4 (by decide) rfl rfl)) nin0)))
      have F_coder_s1_l20_29 := (F_coder_s1_l20.keep K22 (ninS (Ne.symm (own_pw nd0 1 4 (by decide) rfl rfl)) (ninS (Ne.symm (own_pw nd0 2 4 (by decide) rfl rfl)) nin0)))
      have V_va_l20_30 := (V_va_l20.keep K22 (ninS (Ne.symm (own_pw nd0 1 5 (by decide) rfl rfl)) (ninS (Ne.symm (own_pw nd0 2 5 (by decide) rfl rfl)) nin0)))
      have E_s1_l20_31 := (E_s1_l20.keep K22)
      have nd32 : OND [s1, va, pg2_22] := (ondS (allS (own_pw nd0 4 5 (by decide) rfl rfl) (allS ne_s1_pg2_22 all0)) (ondS (allS ne_va_pg2_22 all0) (ondS all0 ond0)))
      obtain ⟨cq26, kq26, qv26a, qv26b, qv26c⟩ := isOf hZ e25 E_s1_l20_31
      obtain ⟨_, _, ⟨T26, L26, k26, n26⟩, -, X26, ⟨Lc26, hQ26, l26, y26, z26⟩, st26⟩ := X25.virtualBack hx (y := mN38) (z := mN38) hown (mvT hZ (ow hw 165 rfl)) (mvT hZ (ow hw 166 rfl)) (notFace_of_selects (args := #[]) (mvT hZ (ow hw 168 rfl))) (mvT hZ (ow hw 168 rfl)) (mvT hZ (ow hw 167 rfl)) (by decide) (backOf (W := 0) (rm_sgU l Z a0 hw [] s1 ix pg2_22 (len + ix) va kv u0 u1 u2 kp2_22 cx cs fw hp22 n0 Z22 hST O_0_l20_27 F_value_s1_l20_28 F_coder_s1_l20_29 V_va_l20_30 P22_4 E_s1_l20_31 g_pg2_22 nd32 (by omega) (own_hpU (by omega)) hu) hZ (ow hw 169 rfl) (ow hw 77 rfl) (by decide) (by decide)) qv26a qv26c (g := (mkF m 227 #[rv a1, .val .null, rv s1, iv 0, iv 3, iv 0, iv 3, iv 0, iv len, iv 3, iv ix, rv pg2, iv ix] [(.int (len + ix)), (.ref pg2_22), (.int 3), (.int ix), (.ref s1)])) rfl (by rw [hml]; rfl) (Steps.refl _) (argsL := [(.int ix), (.int (3 : Int32)), (.ref pg2_22), (.int (len + ix))]) (rest := []) (lenOf pd__II_CI_V rfl) rfl (by show 2 * 0 + _ ≤ _; exact Nat.le_of_eq rfl) (hb hby d5_227) (fun _ _ => ⟨rfl, e25, (by decide : 2 + 0 ≤ _), (by decide : 30 + 0 ≤ _)⟩)
      dsimp only [Pt.U, Pt.locs, Pt.cells, Pt.slots] at X26 l26 y26 z26 st26 hQ26
      subst l26 y26 z26
      obtain ⟨hp26, e26⟩ : ∃ z, T26.heap = z := ⟨_, rfl⟩
      rw [e26] at hQ26
      obtain ⟨rfl, Nq26, K26, P26_0⟩ := hQ26
      have Z26 : n0 ≤ hp26.size := Nat.le_trans Z22 K26.1
      have Kp26 : Keep h0 hp26 [a1, np, wp, pg] := Kp22.trans K26 (allS (Or.inr sz_pg2_22) all0)
      have N26 := Fr.app N22 Nq26
      replace K : OGo p e below A0 T26 (mkF m 235 #[rv a1, .val .null, rv s1, iv 0, iv 3, iv 0, iv 3, iv 0, iv len, iv 3, iv ix, rv pg2, iv ix] [(.int 3)]) := fun t k => K t (XS.istore X22.here hx rfl (hb hby d5_175) rfl (l' := #[rv a1, .val .null, rv s1, iv 0, iv 3, iv 0, iv 3, iv 0, iv len, iv 3, iv ix, rv pg2, iv ix]) rfl (XS.aloadN X22.here hx rfl (hb hby d5_177) rfl rfl (XS.ifnullYes X22.here hx rfl (pc0 := 178) (pc' := 207) rfl (hb hby d5_178) rfl (by decide) (by decide) (XS.aloadN X22.here hx rfl (hb hby d5_207) rfl rfl (XS.iload X22.here hx rfl (hb hby d5_208) rfl (XS.iload X22.here hx rfl (hb hby d5_210) rfl (XS.iload X22.here hx rfl (hb hby d5_212) rfl (XS.iadd X22.here hx rfl (hb hby d5_214) rfl (XS.aloadN X22.here hx rfl (hb hby d5_215) rfl rfl (st25 t (XS.iload X25.here hx rfl (hb hby d5_219) rfl (own_ldA X25 hx hZ e25 P22_2 rfl (j := (0 : Int32)) (v := (.ref pg2_22)) (by decide) rfl (g := (mkF m 221 #[rv a1, .val .null, rv s1, iv 0, iv 3, iv 0, iv 3, iv 0, iv len, iv 3, iv ix, rv pg2, iv ix] [(.int 0), (.ref wp), (.int 3), (.int ix), (.ref s1)])) rfl rfl (hb hby d5_221) t (XS.iload X25.here hx rfl (hb hby d5_222) rfl (XS.iload X25.here hx rfl (hb hby d5_224) rfl (XS.iadd X25.here hx rfl (hb hby d5_226) rfl (st26.trans (XS.iload X26.here hx rfl (hb hby d5_230) rfl (XS.iload X26.here hx rfl (hb hby d5_232) rfl (XS.iadd X26.here hx rfl (hb hby d5_234) rfl k)))))))))))))))))))
      have F_length_a1_l20_33 := ((F_length_a1_l20.keep K22 (ninS (own_pw nd0 0 1 (by decide) rfl rfl) (ninS (own_pw nd0 0 2 (by decide) rfl rfl) nin0))).keep K26 (ninS ne_a1_pg2_22 nin0))
      obtain ⟨T34, X34, e34, st34⟩ := getF X26 hx hZ hown (host := "") (Or.inl (ow hw 38 rfl)) Via.refl e26 F_length_a1_l20_33 (g := (mkF m 239 #[rv a1, .val .null, rv s1, iv 0, iv 3, iv 3, iv 3, iv 0, iv len, iv 3, iv ix, rv pg2, iv ix] [(.ref a1), (.ref a1)])) rfl rfl (hb hby d5_239)
      have E_a1_l20_35 := ((E_a1_l20.keep K22).keep K26)
      obtain ⟨T36, h36, X36, e36, W36, st36⟩ := putF X34 hx hZ hown (host := "") (Or.inl (ow hw 38 rfl)) Via.refl e34 F_length_a1_l20_33 E_a1_l20_35 (Or.inl (ow hw 39 rfl)) (ow hw 2 rfl) (ty := .int) (by decide) rfl rfl (g := (mkF m 245 #[rv a1, .val .null, rv s1, iv 0, iv 3, iv 3, iv 3, iv 0, iv len, iv 3, iv ix, rv pg2, iv ix] [(.int (len + (3 : Int32))), (.ref a1)])) rfl rfl (hb hby d5_245)
      have Z36 : n0 ≤ h36.size := Nat.le_trans Z26 (Keep.of_wr W36).1
      have Kp36 : Keep h0 h36 [a1, np, wp, pg] := Kp26.wr W36 (Or.inl (List.mem_of_getElem? (i := 0) rfl))
      have F_length_a1_36 := F_length_a1_l20_33.same W36
      have N36 := Fr.snoc X36 N26 g_a1
      replace K : OGo p e below A0 T36 (mkF m 251 #[rv a1, .val .null, rv s1, iv 0, iv 3, iv 3, iv 3, iv 0, iv len, iv 3, iv ix, rv pg2, iv ix] []) := fun t k => K t (XS.istore X26.here hx rfl (hb hby d5_235) rfl (l' := #[rv a1, .val .null, rv s1, iv 0, iv 3, iv 3, iv 3, iv 0, iv len, iv 3, iv ix, rv pg2, iv ix]) rfl (XS.aloadN X26.here hx rfl (hb hby d5_237) rfl rfl (XS.dup X26.here hx rfl (hb hby d5_238) rfl rfl (st34 t (XS.iload X34.here hx rfl (hb hby d5_242) rfl (XS.iadd X34.here hx rfl (hb hby d5_244) rfl (st36 t (XS.goto X36.here hx rfl (pc0 := 248) (pc' := 34) rfl (hb hby d5_248) (by decide) (by decide) (XS.iload X36.here hx rfl (hb hby d5_34) rfl (XS.iload X36.here hx rfl (hb hby d5_36) rfl (XS.icmpYes X36.here hx rfl (pc0 := 38) (pc' := 251) rfl (hb hby d5_38) rfl (flt ((by decide : ¬ ((3 : Int32) < (3 : Int32))) : ¬ ((3 : Int32) < (3 : Int32)))).2.1 (by decide) (by decide) k)))))))))))
      have E_a1_l20_37 := (E_a1_l20_35.wr W36)
      have F_narrowPages_a1_l20_38 := (((F_narrowPages_a1_l20.keep K22 (ninS (own_pw nd0 0 1 (by decide) rfl rfl) (ninS (own_pw nd0 0 2 (by decide) rfl rfl) nin0))).keep K26 (ninS ne_a1_pg2_22 nin0)).other W36 (Or.inr (sn_cN0_narrowPages_length hw)))
      have F_widePages_a1_l20_39 := ((F_widePages_a1_l20_24.keep K26 (ninS ne_a1_pg2_22 nin0)).other W36 (Or.inr (sn_cN0_widePages_length hw)))
      have F_pageCount_a1_l20_40 := (((F_pageCount_a1_l20.keep K22 (ninS (own_pw nd0 0 1 (by decide) rfl rfl) (ninS (own_pw nd0 0 2 (by decide) rfl rfl) nin0))).keep K26 (ninS ne_a1_pg2_22 nin0)).other W36 (Or.inr (sn_cN0_pageCount_length hw)))
      have F_capacity_a1_l20_41 := (((F_capacity_a1_l20.keep K22 (ninS (own_pw nd0 0 1 (by decide) rfl rfl) (ninS (own_pw nd0 0 2 (by decide) rfl rfl) nin0))).keep K26 (ninS ne_a1_pg2_22 nin0)).other W36 (Or.inr (sn_cN0_capacity_length hw)))
      have V_np_42 := ((P22_1.keep K26 (ninS ne_np_pg2_22 nin0)).other W36 (Ne.symm (own_pw nd0 0 1 (by decide) rfl rfl)))
      have V_wp_43 := ((P22_2.keep K26 (ninS ne_wp_pg2_22 nin0)).other W36 (Ne.symm (own_pw nd0 0 2 (by decide) rfl rfl)))
      have E_pg2_22_44 := ((P22_3.keep K26).wr W36)
      have G_pg2_22_45 := (P26_0.other W36 (Ne.symm ne_a1_pg2_22))
      obtain ⟨fs, hr, hrun, hended, hW, hsame⟩ := X36.leave (v := none) (fun _ => rfl)
      subst hA0
      refine ⟨_, _, K _ (X36.returnOut hx Bd.returns (hb hby d5_251) hr), hrun, hended, _, _, rfl, ?_, ⟨_, rfl⟩, hW, hsame.mono (by decide) (by decide)⟩
      show Q_afsNW Z a1 s1 np wp pg kn kw kp cap len va kv u0 u1 u2 cs fw h0 n0 _ T36.heap _
      rw [e36]
      exact ⟨rfl, N36, pg2_22, kp2_22, cx, Kp36, (Or.inr sz_pg2_22), E_a1_l20_37, F_narrowPages_a1_l20_38, F_widePages_a1_l20_39, F_pageCount_a1_l20_40, F_capacity_a1_l20_41, F_length_a1_36, V_np_42, V_wp_43, E_pg2_22_44, G_pg2_22_45, hcx⟩
    · obtain ⟨T46, h46, X46, e46, W46, G46, st46⟩ := own_stBp X21 hx hZ e21 G_pg2_l20 (j := (len + ix)) (own_nn (by rw [own_addI (a := len) (b := ix) (by omega)]; omega)) (own_ltN (by rw [own_addI (a := len) (b := ix) (by omega)]; omega)) (g := (mkF m 156 #[rv a1, .val .null, rv s1, iv 0, iv 3, iv 0, iv 3, iv 0, iv len, iv 3, iv ix, rv pg2, iv (own_at u0 u1 u2 ix)] [(.int ((own_at u0 u1 u2 ix).toInt8.toInt32)), (.int (len + ix)), (.ref pg2)])) rfl rfl (hb hby d5_156)
      have Z46 : n0 ≤ h46.size := Nat.le_trans Zl20 (Keep.of_wr W46).1
      have Kp46 : Keep h0 h46 [a1, np, wp, pg] := Kl20.wr W46 (own_orin or_pg2 (List.mem_of_getElem? (i := 3) rfl))
      have N46 := Fr.snoc X46 N21 g_pg2
      replace K : OGo p e below A0 T46 (mkF m 97 #[rv a1, .val .null, rv s1, iv 0, iv 3, iv 0, iv 3, iv 0, iv len, iv 3, iv (ix + (1 : Int32)), rv pg2, iv (own_at u0 u1 u2 ix)] []) := fun t k => K t (st21.trans (XS.istore X21.here hx rfl (hb hby d5_127) rfl (l' := #[rv a1, .val .null, rv s1, iv 0, iv 3, iv 0, iv 3, iv 0, iv len, iv 3, iv ix, rv pg2, iv (own_at u0 u1 u2 ix)]) (by rcases hsl with rfl | ⟨_, rfl⟩ <;> rfl) (XS.iload X21.here hx rfl (hb hby d5_129) rfl (XS.sipush X21.here hx rfl (hb hby d5_131) (XS.icmpYes X21.here hx rfl (pc0 := 134) (pc' := 146) rfl (hb hby d5_134) rfl (flt hc134).2.2.2 (by decide) (by decide) (XS.aload X21.here hx rfl (hb hby d5_146) rfl rfl (XS.iload X21.here hx rfl (hb hby d5_148) rfl (XS.iload X21.here hx rfl (hb hby d5_150) rfl (XS.iadd X21.here hx rfl (hb hby d5_152) rfl (XS.iload X21.here hx rfl (hb hby d5_153) rfl (XS.i2b X21.here hx rfl (hb hby d5_155) rfl (st46 t (XS.iinc X46.here hx rfl (hb hby d5_157) rfl (l' := #[rv a1, .val .null, rv s1, iv 0, iv 3, iv 0, iv 3, iv 0, iv len, iv 3, iv (ix + (1 : Int32)), rv pg2, iv (own_at u0 u1 u2 ix)]) rfl (XS.goto X46.here hx rfl (pc0 := 160) (pc' := 97) rfl (hb hby d5_160) (by decide) (by decide) k))))))))))))))
      have E_a1_l20_47 := (E_a1_l20.wr W46)
      have F_narrowPages_a1_l20_48 := (F_narrowPages_a1_l20.other W46 (Or.inl (own_pw nd1 0 3 (by decide) rfl rfl)))
      have F_widePages_a1_l20_49 := (F_widePages_a1_l20.other W46 (Or.inl (own_pw nd1 0 3 (by decide) rfl rfl)))
      have F_pageCount_a1_l20_50 := (F_pageCount_a1_l20.other W46 (Or.inl (own_pw nd1 0 3 (by decide) rfl rfl)))
      have F_capacity_a1_l20_51 := (F_capacity_a1_l20.other W46 (Or.inl (own_pw nd1 0 3 (by decide) rfl rfl)))
      have F_length_a1_l20_52 := (F_length_a1_l20.other W46 (Or.inl (own_pw nd1 0 3 (by decide) rfl rfl)))
      have V_np_l20_53 := (V_np_l20.other W46 (own_pw nd1 1 3 (by decide) rfl rfl))
      have V_wp_l20_54 := (V_wp_l20.other W46 (own_pw nd1 2 3 (by decide) rfl rfl))
      have E_pg2_l20_55 := (E_pg2_l20.wr W46)
      have F_value_s1_l20_56 := (F_value_s1_l20.other W46 (Or.inl (Ne.symm (own_pw nd1 3 4 (by decide) rfl rfl))))
      have F_coder_s1_l20_57 := (F_coder_s1_l20.other W46 (Or.inl (Ne.symm (own_pw nd1 3 4 (by decide) rfl rfl))))
      have V_va_l20_58 := (V_va_l20.other W46 (Ne.symm (own_pw nd1 3 5 (by decide) rfl rfl)))
      have E_s1_l20_59 := (E_s1_l20.wr W46)
      have O_0_l20_60 := (O_0_l20.wr W46 g_pg2)
      exact ih20 (ix + (1 : Int32)) (iv (own_at u0 u1 u2 ix)) _ _ _ ⟨X46, e46, N46, Z46, Kp46, E_a1_l20_47, F_narrowPages_a1_l20_48, F_widePages_a1_l20_49, F_pageCount_a1_l20_50, F_capacity_a1_l20_51, F_length_a1_l20_52, V_np_l20_53, V_wp_l20_54, E_pg2_l20_55, G46, F_value_s1_l20_56, F_coder_s1_l20_57, V_va_l20_58, E_s1_l20_59, O_0_l20_60, (by have := own_inc (i := ix) (by omega); omega), (Or.inr ⟨_, rfl⟩), (own_hP hP hF.2 (by omega) hc134), K⟩
def Q_afsWL (Z : State) (a1 : Addr) (s1 : Addr) (np : Addr) (wp : Addr) (pg : Addr) (kn : ClassId) (kw : ClassId) (kp : ClassId) (cap : Int32) (len : Int32) (va : Addr) (kv : ClassId) (cs : Int32) (fw : Value) (h0 : Heap) (n0 : Nat) (v : Option Value) (h : Heap) (L : List Loc) : Prop := v = none ∧ Fr n0 L ∧ ∃ (pgr : Addr) (kpr : ClassId) (cxr : Int32), Keep h0 h [a1, np, wp, pg] ∧ (pgr = pg ∨ h0.size ≤ pgr) ∧ Exa Z h a1 cN0 ∧ Fld Z h a1 cN0 "narrowPages" "[[B" (.ref np) ∧ Fld Z h a1 cN0 "widePages" "[[C" (.ref wp) ∧ Fld Z h a1 cN0 "pageCount" "I" (.int (1 : Int32)) ∧ Fld Z h a1 cN0 "capacity" "I" (.int cxr) ∧ Fld Z h a1 cN0 "length" "I" (.int (len + (3 : Int32))) ∧ OAr Z h np kn (.array .byte) [.null] ∧ OAr Z h wp kw (.array .char) [(.ref pgr)] ∧ Exa Z h pgr "[C" ∧ OPg Z h pgr kpr .char cxr ∧ cxr = own_cap len (3 : Int32) cap
theorem rm_afsWL (l : Launch) (Z : State) (a0 : Array Value) (hw : ∀ d ∈ tables_1, d.before a0 Z = true) (ws : List Jvm.Cond) (a1 : Addr) (s1 : Addr) (np : Addr) (wp : Addr) (pg : Addr) (kn : ClassId) (kw : ClassId) (kp : ClassId) (cap : Int32) (len : Int32) (va : Addr) (kv : ClassId) (cs : Int32) (fw : Value) (h0 : Heap) (n0 : Nat) (Z0 : n0 ≤ h0.size) (hST : own_ST Z cs fw) (O_0 : Old Z n0 h0) (ovn : OvrA Z kn .byte "[B") (ovw : OvrA Z kw .char "[C") (E_a1 : Exa Z h0 a1 cN0) (F_narrowPages_a1 : Fld Z h0 a1 cN0 "narrowPages" "[[B" (.ref np)) (F_widePages_a1 : Fld Z h0 a1 cN0 "widePages" "[[C" (.ref wp)) (F_pageCount_a1 : Fld Z h0 a1 cN0 "pageCount" "I" (.int (1 : Int32))) (F_capacity_a1 : Fld Z h0 a1 cN0 "capacity" "I" (.int cap)) (F_length_a1 : Fld Z h0 a1 cN0 "length" "I" (.int len)) (V_np : OAr Z h0 np kn (.array .byte) [.null]) (V_wp : OAr Z h0 wp kw (.array .char) [(.ref pg)]) (E_pg : Exa Z h0 pg "[C") (G_pg : OPg Z h0 pg kp .char cap) (F_value_s1 : Fld Z h0 s1 cN1 "value" "[B" (.ref va)) (F_coder_s1 : Fld Z h0 s1 cN1 "coder" "B" (.int (0 : Int32))) (G_va : OPg Z h0 va kv .byte (3 : Int32)) (E_s1 : Exa Z h0 s1 cN1) (g_a1 : n0 ≤ a1) (g_np : n0 ≤ np) (g_wp : n0 ≤ wp) (g_pg : n0 ≤ pg) (nd0 : OND [a1, np, wp, pg, s1, va]) (hI : 0 ≤ cap.toInt ∧ cap.toInt ≤ 15 ∧ 0 ≤ len.toInt ∧ len.toInt ≤ 3 ∧ len.toInt ≤ cap.toInt ∧ 0 ≤ (3 : Int32).toInt ∧ (3 : Int32).toInt ≤ 3) :
    oM l mN39 prog_89_method_9_code 13 none ws ({ frames := 5, cells := 2, slots := 30, locals := 150 } : Room) #[(.ref a1), .null, (.ref s1), (.int (0 : Int32)), (.int (3 : Int32))] Z h0 (Q_afsWL Z a1 s1 np wp pg kn kw kp cap len va kv cs fw h0 n0) := by
  refine MetFree.of_bodySF (plainFor_of_name pn_com_example_imprint_imprint_tree_PagedText) hisR ?_
  intro p e s m args below meth c s₁ Bd hml0 hP hK
  obtain ⟨rfl, hZ, hh⟩ := hP
  have hx := Bd.exec
  have hby := Bd.bytes
  have hml : c.maxLocals = 13 := hml0
  have hown : s.vm.findClass "com/example/imprint/imprint/tree/PagedText" = some m.cls := findClass_of_methodNamed Bd.named
  have hnm := (name_of_methodNamed Bd.named Bd.method).1
  have X0 : Stand p l e ({ frames := 5, cells := 2, slots := 30, locals := 150 } : Room) s m #[(.ref a1), .null, (.ref s1), (.int (0 : Int32)), (.int (3 : Int32))] below meth c s₁ [] 0 0 := Stand.of_body Bd
  have e0 : s₁.heap = h0 := by rw [← hh, Bd.state]; rfl
  have N0 := Fr.nil n0
  obtain ⟨A0, hA0⟩ : ∃ z, z = s₁.setTop (entryFrame m #[(.ref a1), .null, (.ref s1), (.int (0 : Int32)), (.int (3 : Int32))] 13) := ⟨_, rfl⟩
  have K : OGo p e below A0 s₁ (mkF m 0 #[rv a1, .val .null, rv s1, iv 0, iv 3, .unset, .unset, .unset, .unset, .unset, .unset, .unset, .unset] []) := fun t k => hA0 ▸ castTop (ef_5_n1 m a1 s1 (0 : Int32) (3 : Int32)) k
  have oz := own_t0
  refine cps (A := ∃ (pg2 : Addr) (kp2 : ClassId) (cx : Int32) (Tj1 : State) (hj1 : Heap) (lj1 : List Loc), Stand p l e ({ frames := 5, cells := 2, slots := 30, locals := 150 } : Room) s m #[(.ref a1), .null, (.ref s1), (.int (0 : Int32)), (.int (3 : Int32))] below meth c Tj1 lj1 1 15 ∧ Tj1.heap = hj1 ∧ Fr n0 lj1 ∧ n0 ≤ hj1.size ∧ Keep h0 hj1 [a1, np, wp, pg] ∧ Exa Z hj1 a1 cN0 ∧ Fld Z hj1 a1 cN0 "narrowPages" "[[B" (.ref np) ∧ Fld Z hj1 a1 cN0 "widePages" "[[C" (.ref wp) ∧ Fld Z hj1 a1 cN0 "pageCount" "I" (.int (1 : Int32)) ∧ Fld Z hj1 a1 cN0 "capacity" "I" (.int cx) ∧ Fld Z hj1 a1 cN0 "length" "I" (.int len) ∧ OAr Z hj1 np kn (.array .byte) [.null] ∧ OAr Z hj1 wp kw (.array .char) [(.ref pg2)] ∧ Exa Z hj1 pg2 "[C" ∧ OPg Z hj1 pg2 kp2 .char cx ∧ Fld Z hj1 s1 cN1 "value" "[B" (.ref va) ∧ Fld Z hj1 s1 cN1 "coder" "B" (.int (0 : Int32)) ∧ OPg Z hj1 va kv .byte (3 : Int32) ∧ Exa Z hj1 s1 cN1 ∧ Old Z n0 hj1 ∧ (pg2 = pg ∨ h0.size ≤ pg2) ∧ n0 ≤ pg2 ∧ OND [a1, np, wp, pg2, s1, va] ∧ cx = own_cap len (3 : Int32) cap ∧ OGo p e below A0 Tj1 (mkF m 25 #[rv a1, .val .null, rv s1, iv 0, iv 3, .unset, .unset, .unset, .unset, .unset, .unset, .unset, .unset] [])) (fun J1 => ?_) ?_
  · obtain ⟨T2, X2, e2, st2⟩ := getF X0 hx hZ hown (host := "") (Or.inl (ow hw 38 rfl)) Via.refl e0 F_length_a1 (g := (mkF m 1 #[rv a1, .val .null, rv s1, iv 0, iv 3, .unset, .unset, .unset, .unset, .unset, .unset, .unset, .unset] [(.ref a1)])) rfl rfl (hb hby d5_1)
    obtain ⟨T3, X3, e3, st3⟩ := getF X2 hx hZ hown (host := "") (Or.inl (ow hw 22 rfl)) Via.refl e2 F_capacity_a1 (g := (mkF m 8 #[rv a1, .val .null, rv s1, iv 0, iv 3, .unset, .unset, .unset, .unset, .unset, .unset, .unset, .unset] [(.ref a1), (.int (len + (3 : Int32)))])) rfl rfl (hb hby d5_8)
    by_cases hc11 : cap < (len + (3 : Int32))
    · obtain ⟨T4, X4, e4, st4⟩ := getF X3 hx hZ hown (host := "") (Or.inl (ow hw 38 rfl)) Via.refl e3 F_length_a1 (g := (mkF m 16 #[rv a1, .val .null, rv s1, iv 0, iv 3, .unset, .unset, .unset, .unset, .unset, .unset, .unset, .unset] [(.ref a1), (.ref a1)])) rfl rfl (hb hby d5_16)
      have nd6 : OND [a1, np, wp, pg] := (ondS (allS (own_pw nd0 0 1 (by decide) rfl rfl) (allS (own_pw nd0 0 2 (by decide) rfl rfl) (allS (own_pw nd0 0 3 (by decide) rfl rfl) all0))) (ondS (allS (own_pw nd0 1 2 (by decide) rfl rfl) (allS (own_pw nd0 1 3 (by decide) rfl rfl) all0)) (ondS (allS (own_pw nd0 2 3 (by decide) rfl rfl) all0) (ondS all0 ond0))))
      obtain ⟨cq5, qp5, qp5'⟩ := E_a1.cell
      obtain ⟨_, _, ⟨T5, L5, k5, n5⟩, -, X5, ⟨Lc5, hQ5, l5, y5, z5⟩, st5⟩ := X4.privateBack hx (y := mN7) hown (mvT hZ (ow hw 40 rfl)) (mvT hZ (ow hw 41 rfl)) (own_selp hZ (ow hw 2 rfl) (ow hw 42 rfl) (ow hw 41 rfl)) (Cond.privateMethod_at (mvP hZ (ow hw 42 rfl) (args := #[]))) (mvT hZ (ow hw 43 rfl)) (by decide) (backOf (W := 0) (rm_growW l Z a0 hw [] a1 (len + (3 : Int32)) np wp pg kn kw kp cap len cs fw h0 n0 Z0 hST O_0 ovn ovw E_a1 F_narrowPages_a1 F_widePages_a1 F_pageCount_a1 F_capacity_a1 F_length_a1 V_np V_wp E_pg G_pg g_a1 g_np g_wp g_pg nd6 (own_hg hI hc11)) hZ (ow hw 43 rfl) (ow hw 3 rfl) (by decide) (by decide)) (g := (mkF m 22 #[rv a1, .val .null, rv s1, iv 0, iv 3, .unset, .unset, .unset, .unset, .unset, .unset, .unset, .unset] [(.int (len + (3 : Int32))), (.ref a1)])) rfl (by rw [hml]; rfl) (Steps.refl _) (a := a1) (by rw [e4]; exact qp5) qp5' (argsL := [(.int (len + (3 : Int32)))]) (rest := []) (lenOf pd__I_V rfl) rfl (by show 2 * 0 + _ ≤ _; exact Nat.le_of_eq rfl) (hb hby d5_22) (fun _ _ => ⟨rfl, e4, (by decide : 0 + 1 ≤ _), (by decide : 0 + 15 ≤ _)⟩)
      dsimp only [Pt.U, Pt.locs, Pt.cells, Pt.slots] at X5 l5 y5 z5 st5 hQ5
      subst l5 y5 z5
      obtain ⟨hp5, e5⟩ : ∃ z, T5.heap = z := ⟨_, rfl⟩
      rw [e5] at hQ5
      obtain ⟨rfl, Nq5, pg2_5, kp2_5, K5, P5_0, P5_1, P5_2, P5_3, P5_4, P5_5, P5_6, P5_7, P5_8, P5_9, P5_10⟩ := hQ5
      have ne_a1_pg2_5 : a1 ≠ pg2_5 := Nat.ne_of_lt (Nat.lt_of_lt_of_le E_a1.lt P5_0)
      have ne_s1_pg2_5 : s1 ≠ pg2_5 := Nat.ne_of_lt (Nat.lt_of_lt_of_le F_value_s1.lt P5_0)
      have ne_np_pg2_5 : np ≠ pg2_5 := Nat.ne_of_lt (Nat.lt_of_lt_of_le V_np.lt P5_0)
      have ne_wp_pg2_5 : wp ≠ pg2_5 := Nat.ne_of_lt (Nat.lt_of_lt_of_le V_wp.lt P5_0)
      have ne_pg_pg2_5 : pg ≠ pg2_5 := Nat.ne_of_lt (Nat.lt_of_lt_of_le E_pg.lt P5_0)
      have ne_va_pg2_5 : va ≠ pg2_5 := Nat.ne_of_lt (Nat.lt_of_lt_of_le G_va.lt P5_0)
      have g_pg2_5 : n0 ≤ pg2_5 := Nat.le_trans Z0 P5_0
      have sz_pg2_5 : h0.size ≤ pg2_5 := Nat.le_trans (Keep.refl h0 [a1, np, wp, pg]).1 P5_0
      have Z5 : n0 ≤ hp5.size := Nat.le_trans Z0 K5.1
      have Kp5 : Keep h0 hp5 [a1, np, wp, pg] := (Keep.refl h0 [a1, np, wp, pg]).trans K5 (allS (Or.inl (List.mem_of_getElem? (i := 0) rfl)) (allS (Or.inl (List.mem_of_getElem? (i := 2) rfl)) all0))
      have N5 := Fr.app N0 Nq5
      replace K : OGo p e below A0 T5 (mkF m 25 #[rv a1, .val .null, rv s1, iv 0, iv 3, .unset, .unset, .unset, .unset, .unset, .unset, .unset, .unset] []) := fun t k => K t (XS.aloadN X0.here hx rfl (hb hby d5_0) rfl rfl (st2 t (XS.iload X2.here hx rfl (hb hby d5_4) rfl (XS.iadd X2.here hx rfl (hb hby d5_6) rfl (XS.aloadN X2.here hx rfl (hb hby d5_7) rfl rfl (st3 t (XS.icmpNo X3.here hx rfl (hb hby d5_11) rfl (tlt hc11).2.2.2 (XS.aloadN X3.here hx rfl (hb hby d5_14) rfl rfl (XS.aloadN X3.here hx rfl (hb hby d5_15) rfl rfl (st4 t (XS.iload X4.here hx rfl (hb hby d5_19) rfl (XS.iadd X4.here hx rfl (hb hby d5_21) rfl (st5.trans k)))))))))))))
      have F_value_s1_7 := (F_value_s1.keep K5 (ninS (Ne.symm (own_pw nd0 0 4 (by decide) rfl rfl)) (ninS (Ne.symm (own_pw nd0 2 4 (by decide) rfl rfl)) nin0)))
      have F_coder_s1_8 := (F_coder_s1.keep K5 (ninS (Ne.symm (own_pw nd0 0 4 (by decide) rfl rfl)) (ninS (Ne.symm (own_pw nd0 2 4 (by decide) rfl rfl)) nin0)))
      have G_va_9 := (G_va.keep K5 (ninS (Ne.symm (own_pw nd0 0 5 (by decide) rfl rfl)) (ninS (Ne.symm (own_pw nd0 2 5 (by decide) rfl rfl)) nin0)))
      have E_s1_10 := (E_s1.keep K5)
      have O_11 := (O_0.keep K5 (allS g_a1 (allS g_wp all0)))
      have nd12 : OND [a1, np, wp, pg2_5, s1, va] := (ondS (allS (own_pw nd0 0 1 (by decide) rfl rfl) (allS (own_pw nd0 0 2 (by decide) rfl rfl) (allS ne_a1_pg2_5 (allS (own_pw nd0 0 4 (by decide) rfl rfl) (allS (own_pw nd0 0 5 (by decide) rfl rfl) all0))))) (ondS (allS (own_pw nd0 1 2 (by decide) rfl rfl) (allS ne_np_pg2_5 (allS (own_pw nd0 1 4 (by decide) rfl rfl) (allS (own_pw nd0 1 5 (by decide) rfl rfl) all0)))) (ondS (allS ne_wp_pg2_5 (allS (own_pw nd0 2 4 (by decide) rfl rfl) (allS (own_pw nd0 2 5 (by decide) rfl rfl) all0))) (ondS (allS (Ne.symm ne_s1_pg2_5) (allS (Ne.symm ne_va_pg2_5) all0)) (ondS (allS (own_pw nd0 4 5 (by decide) rfl rfl) all0) (ondS all0 ond0))))))
      exact J1 ⟨pg2_5, kp2_5, (own_max (len + (3 : Int32)) (cap * (2 : Int32))), _, _, _, X5, e5, N5, Z5, Kp5, P5_1, P5_2, P5_3, P5_4, P5_5, P5_6, P5_7, P5_8, P5_9, P5_10, F_value_s1_7, F_coder_s1_8, G_va_9, E_s1_10, O_11, (Or.inr sz_pg2_5), g_pg2_5, nd12, (by simp [own_cap, hc11]), K⟩
    · replace K : OGo p e below A0 T3 (mkF m 25 #[rv a1, .val .null, rv s1, iv 0, iv 3, .unset, .unset, .unset, .unset, .unset, .unset, .unset, .unset] []) := fun t k => K t (XS.aloadN X0.here hx rfl (hb hby d5_0) rfl rfl (st2 t (XS.iload X2.here hx rfl (hb hby d5_4) rfl (XS.iadd X2.here hx rfl (hb hby d5_6) rfl (XS.aloadN X2.here hx rfl (hb hby d5_7) rfl rfl (st3 t (XS.icmpYes X3.here hx rfl (pc0 := 11) (pc' := 25) rfl (hb hby d5_11) rfl (flt hc11).2.2.2 (by decide) (by decide) k)))))))
      exact J1 ⟨pg, kp, cap, _, _, _, (X3.more (by decide) (by decide)), e3, N0, Z0, (Keep.refl h0 [a1, np, wp, pg]), E_a1, F_narrowPages_a1, F_widePages_a1, F_pageCount_a1, F_capacity_a1, F_length_a1, V_np, V_wp, E_pg, G_pg, F_value_s1, F_coder_s1, G_va, E_s1, O_0, (Or.inl rfl), g_pg, nd0, (by simp [own_cap, hc11]), K⟩
  clear K
  rintro ⟨pg2, kp2, cx, Tj1, hj1, lj1, Xj1, ej1, Nj1, Zj1, Kj1, E_a1_j1, F_narrowPages_a1_j1, F_widePages_a1_j1, F_pageCount_a1_j1, F_capacity_a1_j1, F_length_a1_j1, V_np_j1, V_wp_j1, E_pg2_j1, G_pg2_j1, F_value_s1_j1, F_coder_s1_j1, G_va_j1, E_s1_j1, O_0_j1, or_pg2, g_pg2, nd1, hcx, K⟩
  have hJ := own_capI hI hcx
  replace K : OGo p e below A0 Tj1 (mkF m 32 #[rv a1, .val .null, rv s1, iv 0, iv 3, iv 0, .unset, .unset, .unset, .unset, .unset, .unset, .unset] [(.int 3)]) := fun t k => K t (XS.iloadN Xj1.here hx rfl (hb hby d5_25) rfl (XS.istore Xj1.here hx rfl (hb hby d5_26) rfl (l' := #[rv a1, .val .null, rv s1, iv 0, iv 3, iv 0, .unset, .unset, .unset, .unset, .unset, .unset, .unset]) rfl (XS.iloadN Xj1.here hx rfl (hb hby d5_28) rfl (XS.iload Xj1.here hx rfl (hb hby d5_29) rfl (XS.iadd Xj1.here hx rfl (hb hby d5_31) rfl k)))))
  obtain ⟨T13, X13, e13, st13⟩ := getF Xj1 hx hZ hown (host := "") (Or.inl (ow hw 38 rfl)) Via.refl ej1 F_length_a1_j1 (g := (mkF m 42 #[rv a1, .val .null, rv s1, iv 0, iv 3, iv 0, iv 3, .unset, .unset, .unset, .unset, .unset, .unset] [(.ref a1)])) rfl rfl (hb hby d5_42)
  obtain ⟨T14, X14, e14, st14⟩ := getS2 X13 hx hZ hown (host := "") (Or.inl (ow hw 62 rfl)) Via.refl e13 (hST.pb.ext O_0_j1.2) (g := (mkF m 45 #[rv a1, .val .null, rv s1, iv 0, iv 3, iv 0, iv 3, .unset, .unset, .unset, .unset, .unset, .unset] [(.int len)])) rfl (hb hby d5_45)
  replace K : OGo p e below A0 T14 (mkF m 49 #[rv a1, .val .null, rv s1, iv 0, iv 3, iv 0, iv 3, .unset, .unset, .unset, .unset, .unset, .unset] [(.int ((len.toUInt32 >>> ((16 : Int32) &&& 31).toUInt32).toInt32))]) := fun t k => K t (XS.istore Xj1.here hx rfl (hb hby d5_32) rfl (l' := #[rv a1, .val .null, rv s1, iv 0, iv 3, iv 0, iv 3, .unset, .unset, .unset, .unset, .unset, .unset]) rfl (XS.iload Xj1.here hx rfl (hb hby d5_34) rfl (XS.iload Xj1.here hx rfl (hb hby d5_36) rfl (XS.icmpNo Xj1.here hx rfl (hb hby d5_38) rfl (tlt ((by decide : (0 : Int32) < (3 : Int32)) : (0 : Int32) < (3 : Int32))).2.1 (XS.aloadN Xj1.here hx rfl (hb hby d5_41) rfl rfl (st13 t (st14 t (XS.iushr X14.here hx rfl (hb hby d5_48) rfl k))))))))
  rw [show ((len.toUInt32 >>> ((16 : Int32) &&& 31).toUInt32).toInt32) = (0 : Int32) from own_s16 hI] at K
  obtain ⟨T15, X15, e15, st15⟩ := getF X14 hx hZ hown (host := "") (Or.inl (ow hw 38 rfl)) Via.refl e14 F_length_a1_j1 (g := (mkF m 52 #[rv a1, .val .null, rv s1, iv 0, iv 3, iv 0, iv 3, iv 0, .unset, .unset, .unset, .unset, .unset] [(.ref a1)])) rfl rfl (hb hby d5_52)
  obtain ⟨T16, X16, e16, st16⟩ := getS2 X15 hx hZ hown (host := "") (Or.inl (ow hw 64 rfl)) Via.refl e15 (hST.om.ext O_0_j1.2) (g := (mkF m 55 #[rv a1, .val .null, rv s1, iv 0, iv 3, iv 0, iv 3, iv 0, .unset, .unset, .unset, .unset, .unset] [(.int len)])) rfl (hb hby d5_55)
  replace K : OGo p e below A0 T16 (mkF m 59 #[rv a1, .val .null, rv s1, iv 0, iv 3, iv 0, iv 3, iv 0, .unset, .unset, .unset, .unset, .unset] [(.int (len &&& (65535 : Int32)))]) := fun t k => K t (XS.istore X14.here hx rfl (hb hby d5_49) rfl (l' := #[rv a1, .val .null, rv s1, iv 0, iv 3, iv 0, iv 3, iv 0, .unset, .unset, .unset, .unset, .unset]) rfl (XS.aloadN X14.here hx rfl (hb hby d5_51) rfl rfl (st15 t (st16 t (XS.iand X16.here hx rfl (hb hby d5_58) rfl k)))))
  rw [show (len &&& (65535 : Int32)) = len from own_m16 hI] at K
  replace K : OGo p e below A0 T16 (mkF m 66 #[rv a1, .val .null, rv s1, iv 0, iv 3, iv 0, iv 3, iv 0, iv len, .unset, .unset, .unset, .unset] [(.int 3)]) := fun t k => K t (XS.istore X16.here hx rfl (hb hby d5_59) rfl (l' := #[rv a1, .val .null, rv s1, iv 0, iv 3, iv 0, iv 3, iv 0, iv len, .unset, .unset, .unset, .unset]) rfl (XS.iload X16.here hx rfl (hb hby d5_61) rfl (XS.iload X16.here hx rfl (hb hby d5_63) rfl (XS.isub X16.here hx rfl (hb hby d5_65) rfl k))))
  obtain ⟨cq17, qp17, qp17'⟩ := E_a1_j1.cell
  obtain ⟨_, _, ⟨T17, L17, k17, n17⟩, -, X17, ⟨Lc17, hQ17, l17, y17, z17⟩, st17⟩ := X16.privateBack hx (y := mN6) hown (mvT hZ (ow hw 66 rfl)) (mvT hZ (ow hw 67 rfl)) (own_selp hZ (ow hw 2 rfl) (ow hw 68 rfl) (ow hw 67 rfl)) (Cond.privateMethod_at (mvP hZ (ow hw 68 rfl) (args := #[]))) (mvT hZ (ow hw 69 rfl)) (by decide) (backOf (W := 1) (rm_plenW l Z a0 hw [] a1 np wp pg2 kn kw kp2 cx len hj1 n0 Zj1 E_a1_j1 F_narrowPages_a1_j1 F_widePages_a1_j1 F_pageCount_a1_j1 F_capacity_a1_j1 F_length_a1_j1 V_np_j1 V_wp_j1 E_pg2_j1 G_pg2_j1) hZ (ow hw 69 rfl) (ow hw 3 rfl) (by decide) (by decide)) (g := (mkF m 69 #[rv a1, .val .null, rv s1, iv 0, iv 3, iv 0, iv 3, iv 0, iv len, .unset, .unset, .unset, .unset] [(.int 0), (.ref a1), (.int 3)])) rfl (by rw [hml]; rfl) (Steps.refl _) (a := a1) (by rw [e16]; exact qp17) qp17' (argsL := [(.int (0 : Int32))]) (rest := [(.int (3 : Int32))]) (lenOf pd__I_I rfl) rfl (by show 2 * 0 + _ ≤ _; exact Nat.le_of_eq rfl) (hb hby d5_69) (fun _ _ => ⟨rfl, e16, (by decide : 1 + 0 ≤ _), (by decide : 15 + 0 ≤ _)⟩)
  dsimp only [Pt.U, Pt.locs, Pt.cells, Pt.slots] at X17 l17 y17 z17 st17 hQ17
  subst l17 y17 z17
  obtain ⟨rfl, Nq17, e17⟩ := hQ17
  have N17 := Fr.app Nj1 Nq17
  obtain ⟨_, _, ⟨T18, L18, k18, n18⟩, -, X18, ⟨Lc18, hQ18, l18, y18, z18⟩, st18⟩ := Jvm.LawKit.callS X17 hx (y := mN0) hown (mvT hZ (ow hw 50 rfl)) (mvT hZ (ow hw 51 rfl)) (mvT hZ (ow hw 48 rfl)) (mvT hZ (ow hw 52 rfl)) (by decide) (backOf (W := 0) (rm_min l Z a0 hw [] (3 : Int32) (cx - len) hj1 n0 Zj1 ) hZ (ow hw 52 rfl) (ow hw 48 rfl) (by decide) (by decide)) (g := (mkF m 75 #[rv a1, .val .null, rv s1, iv 0, iv 3, iv 0, iv 3, iv 0, iv len, .unset, .unset, .unset, .unset] [(.int (cx - len)), (.int 3)])) rfl (by rw [hml]; rfl) (argsL := [(.int (3 : Int32)), (.int (cx - len))]) (rest := []) (lenOf pd__II_I rfl) rfl (by show 2 * 0 + _ ≤ _; exact Nat.le_of_eq rfl) (hb hby d5_75) (fun _ _ => ⟨rfl, e17, (by decide : 1 + 0 ≤ _), (by decide : 15 + 0 ≤ _)⟩)
  dsimp only [Pt.U, Pt.locs, Pt.cells, Pt.slots] at X18 l18 y18 z18 st18 hQ18
  subst l18 y18 z18
  obtain ⟨rfl, Nq18, e18⟩ := hQ18
  have N18 := Fr.app N17 Nq18
  replace K : OGo p e below A0 T18 (mkF m 78 #[rv a1, .val .null, rv s1, iv 0, iv 3, iv 0, iv 3, iv 0, iv len, .unset, .unset, .unset, .unset] [(.int (own_min (3 : Int32) (cx - len)))]) := fun t k => K t (XS.aloadN X16.here hx rfl (hb hby d5_66) rfl rfl (XS.iload X16.here hx rfl (hb hby d5_67) rfl (st17.trans (XS.iload X17.here hx rfl (hb hby d5_72) rfl (XS.isub X17.here hx rfl (hb hby d5_74) rfl (st18 t k))))))
  rw [show (own_min (3 : Int32) (cx - len)) = (3 : Int32) from own_minl (by rw [own_subI (a := cx) (b := len) (by omega)]; omega)] at K
  obtain ⟨T19, X19, e19, st19⟩ := getF X18 hx hZ hown (host := "") (Or.inl (ow hw 14 rfl)) Via.refl e18 F_narrowPages_a1_j1 (g := (mkF m 84 #[rv a1, .val .null, rv s1, iv 0, iv 3, iv 0, iv 3, iv 0, iv len, iv 3, iv 0, .unset, .unset] [(.ref a1)])) rfl rfl (hb hby d5_84)
  replace K : OGo p e below A0 T19 (mkF m 175 #[rv a1, .val .null, rv s1, iv 0, iv 3, iv 0, iv 3, iv 0, iv len, iv 3, iv 0, .val .null, .unset] [(.int 0)]) := fun t k => K t (XS.istore X18.here hx rfl (hb hby d5_78) rfl (l' := #[rv a1, .val .null, rv s1, iv 0, iv 3, iv 0, iv 3, iv 0, iv len, iv 3, .unset, .unset, .unset]) rfl (XS.iconst X18.here hx rfl (hb hby d5_80) (XS.istore X18.here hx rfl (hb hby d5_81) rfl (l' := #[rv a1, .val .null, rv s1, iv 0, iv 3, iv 0, iv 3, iv 0, iv len, iv 3, iv 0, .unset, .unset]) rfl (XS.aloadN X18.here hx rfl (hb hby d5_83) rfl rfl (st19 t (XS.iload X19.here hx rfl (hb hby d5_87) rfl (own_ldA X19 hx hZ e19 V_np_j1 rfl (j := (0 : Int32)) (v := .null) (by decide) rfl (g := (mkF m 89 #[rv a1, .val .null, rv s1, iv 0, iv 3, iv 0, iv 3, iv 0, iv len, iv 3, iv 0, .unset, .unset] [(.int 0), (.ref np)])) rfl rfl (hb hby d5_89) t (XS.astore X19.here hx rfl (hb hby d5_90) rfl rfl (l' := #[rv a1, .val .null, rv s1, iv 0, iv 3, iv 0, iv 3, iv 0, iv len, iv 3, iv 0, .val .null, .unset]) rfl (XS.aload X19.here hx rfl (hb hby d5_92) rfl rfl (XS.ifnullYes X19.here hx rfl (pc0 := 94) (pc' := 163) rfl (hb hby d5_94) rfl (by decide) (by decide) (XS.iload X19.here hx rfl (hb hby d5_163) rfl (XS.iload X19.here hx rfl (hb hby d5_165) rfl (XS.icmpNo X19.here hx rfl (hb hby d5_167) rfl (tlt ((by decide : (0 : Int32) < (3 : Int32)) : (0 : Int32) < (3 : Int32))).2.1 (XS.iload X19.here hx rfl (hb hby d5_170) rfl (XS.iload X19.here hx rfl (hb hby d5_172) rfl (XS.iadd X19.here hx rfl (hb hby d5_174) rfl k))))))))))))))))
  obtain ⟨T20, X20, e20, st20⟩ := getF X19 hx hZ hown (host := "") (Or.inl (ow hw 18 rfl)) Via.refl e19 F_widePages_a1_j1 (g := (mkF m 216 #[rv a1, .val .null, rv s1, iv 0, iv 3, iv 0, iv 3, iv 0, iv len, iv 3, iv 0, .val .null, iv 0] [(.ref a1), (.int 3), (.int 0), (.ref s1)])) rfl rfl (hb hby d5_216)
  have nd22 : OND [s1, va, pg2] := (ondS (allS (own_pw nd0 4 5 (by decide) rfl rfl) (allS (Ne.symm (own_pw nd1 3 4 (by decide) rfl rfl)) all0)) (ondS (allS (Ne.symm (own_pw nd1 3 5 (by decide) rfl rfl)) all0) (ondS all0 ond0)))
  obtain ⟨cq21, kq21, qv21a, qv21b, qv21c⟩ := isOf hZ e20 E_s1_j1
  obtain ⟨_, _, ⟨T21, L21, k21, n21⟩, -, X21, ⟨Lc21, hQ21, l21, y21, z21⟩, st21⟩ := X20.virtualBack hx (y := mN38) (z := mN38) hown (mvT hZ (ow hw 165 rfl)) (mvT hZ (ow hw 166 rfl)) (notFace_of_selects (args := #[]) (mvT hZ (ow hw 168 rfl))) (mvT hZ (ow hw 168 rfl)) (mvT hZ (ow hw 167 rfl)) (by decide) (backOf (W := 0) (rm_sgL l Z a0 hw [] s1 pg2 (len + (0 : Int32)) va kv kp2 cx cs fw hj1 n0 Zj1 hST O_0_j1 F_value_s1_j1 F_coder_s1_j1 G_va_j1 G_pg2_j1 E_s1_j1 g_pg2 nd22 (own_hpL (by omega))) hZ (ow hw 169 rfl) (ow hw 77 rfl) (by decide) (by decide)) qv21a qv21c (g := (mkF m 227 #[rv a1, .val .null, rv s1, iv 0, iv 3, iv 0, iv 3, iv 0, iv len, iv 3, iv 0, .val .null, iv 0] [(.int (len + (0 : Int32))), (.ref pg2), (.int 3), (.int 0), (.ref s1)])) rfl (by rw [hml]; rfl) (Steps.refl _) (argsL := [(.int (0 : Int32)), (.int (3 : Int32)), (.ref pg2), (.int (len + (0 : Int32)))]) (rest := []) (lenOf pd__II_CI_V rfl) rfl (by show 2 * 0 + _ ≤ _; exact Nat.le_of_eq rfl) (hb hby d5_227) (fun _ _ => ⟨rfl, e20, (by decide : 1 + 0 ≤ _), (by decide : 15 + 0 ≤ _)⟩)
  dsimp only [Pt.U, Pt.locs, Pt.cells, Pt.slots] at X21 l21 y21 z21 st21 hQ21
  subst l21 y21 z21
  obtain ⟨hp21, e21⟩ : ∃ z, T21.heap = z := ⟨_, rfl⟩
  rw [e21] at hQ21
  obtain ⟨rfl, Nq21, K21, P21_0⟩ := hQ21
  have Z21 : n0 ≤ hp21.size := Nat.le_trans Zj1 K21.1
  have Kp21 : Keep h0 hp21 [a1, np, wp, pg] := Kj1.trans K21 (allS (own_orin or_pg2 (List.mem_of_getElem? (i := 3) rfl)) all0)
  have N21 := Fr.app N18 Nq21
  replace K : OGo p e below A0 T21 (mkF m 235 #[rv a1, .val .null, rv s1, iv 0, iv 3, iv 0, iv 3, iv 0, iv len, iv 3, iv 0, .val .null, iv 0] [(.int 3)]) := fun t k => K t (XS.istore X19.here hx rfl (hb hby d5_175) rfl (l' := #[rv a1, .val .null, rv s1, iv 0, iv 3, iv 0, iv 3, iv 0, iv len, iv 3, iv 0, .val .null, iv 0]) rfl (XS.aloadN X19.here hx rfl (hb hby d5_177) rfl rfl (XS.ifnullYes X19.here hx rfl (pc0 := 178) (pc' := 207) rfl (hb hby d5_178) rfl (by decide) (by decide) (XS.aloadN X19.here hx rfl (hb hby d5_207) rfl rfl (XS.iload X19.here hx rfl (hb hby d5_208) rfl (XS.iload X19.here hx rfl (hb hby d5_210) rfl (XS.iload X19.here hx rfl (hb hby d5_212) rfl (XS.iadd X19.here hx rfl (hb hby d5_214) rfl (XS.aloadN X19.here hx rfl (hb hby d5_215) rfl rfl (st20 t (XS.iload X20.here hx rfl (hb hby d5_219) rfl (own_ldA X20 hx hZ e20 V_wp_j1 rfl (j := (0 : Int32)) (v := (.ref pg2)) (by decide) rfl (g := (mkF m 221 #[rv a1, .val .null, rv s1, iv 0, iv 3, iv 0, iv 3, iv 0, iv len, iv 3, iv 0, .val .null, iv 0] [(.int 0), (.ref wp), (.int 3), (.int 0), (.ref s1)])) rfl rfl (hb hby d5_221) t (XS.iload X20.here hx rfl (hb hby d5_222) rfl (XS.iload X20.here hx rfl (hb hby d5_224) rfl (XS.iadd X20.here hx rfl (hb hby d5_226) rfl (st21.trans (XS.iload X21.here hx rfl (hb hby d5_230) rfl (XS.iload X21.here hx rfl (hb hby d5_232) rfl (XS.iadd X21.here hx rfl (hb hby d5_234) rfl k)))))))))))))))))))
  have F_length_a1_j1_23 := (F_length_a1_j1.keep K21 (ninS (own_pw nd1 0 3 (by decide) rfl rfl) nin0))
  obtain ⟨T24, X24, e24, st24⟩ := getF X21 hx hZ hown (host := "") (Or.inl (ow hw 38 rfl)) Via.refl e21 F_length_a1_j1_23 (g := (mkF m 239 #[rv a1, .val .null, rv s1, iv 0, iv 3, iv 3, iv 3, iv 0, iv len, iv 3, iv 0, .val .null, iv 0] [(.ref a1), (.ref a1)])) rfl rfl (hb hby d5_239)
  have E_a1_j1_25 := (E_a1_j1.keep K21)
  obtain ⟨T26, h26, X26, e26, W26, st26⟩ := putF X24 hx hZ hown (host := "") (Or.inl (ow hw 38 rfl)) Via.refl e24 F_length_a1_j1_23 E_a1_j1_25 (Or.inl (ow hw 39 rfl)) (ow hw 2 rfl) (ty := .int) (by decide) rfl rfl (g := (mkF m 245 #[rv a1, .val .null, rv s1, iv 0, iv 3, iv 3, iv 3, iv 0, iv len, iv 3, iv 0, .val .null, iv 0] [(.int (len + (3 : Int32))), (.ref a1)])) rfl rfl (hb hby d5_245)
  have Z26 : n0 ≤ h26.size := Nat.le_trans Z21 (Keep.of_wr W26).1
  have Kp26 : Keep h0 h26 [a1, np, wp, pg] := Kp21.wr W26 (Or.inl (List.mem_of_getElem? (i := 0) rfl))
  have F_length_a1_26 := F_length_a1_j1_23.same W26
  have N26 := Fr.snoc X26 N21 g_a1
  replace K : OGo p e below A0 T26 (mkF m 251 #[rv a1, .val .null, rv s1, iv 0, iv 3, iv 3, iv 3, iv 0, iv len, iv 3, iv 0, .val .null, iv 0] []) := fun t k => K t (XS.istore X21.here hx rfl (hb hby d5_235) rfl (l' := #[rv a1, .val .null, rv s1, iv 0, iv 3, iv 3, iv 3, iv 0, iv len, iv 3, iv 0, .val .null, iv 0]) rfl (XS.aloadN X21.here hx rfl (hb hby d5_237) rfl rfl (XS.dup X21.here hx rfl (hb hby d5_238) rfl rfl (st24 t (XS.iload X24.here hx rfl (hb hby d5_242) rfl (XS.iadd X24.here hx rfl (hb hby d5_244) rfl (st26 t (XS.goto X26.here hx rfl (pc0 := 248) (pc' := 34) rfl (hb hby d5_248) (by decide) (by decide) (XS.iload X26.here hx rfl (hb hby d5_34) rfl (XS.iload X26.here hx rfl (hb hby d5_36) rfl (XS.icmpYes X26.here hx rfl (pc0 := 38) (pc' := 251) rfl (hb hby d5_38) rfl (flt ((by decide : ¬ ((3 : Int32) < (3 : Int32))) : ¬ ((3 : Int32) < (3 : Int32)))).2.1 (by decide) (by decide) k)))))))))))
  have E_a1_j1_27 := (E_a1_j1_25.wr W26)
  have F_narrowPages_a1_j1_28 := ((F_narrowPages_a1_j1.keep K21 (ninS (own_pw nd1 0 3 (by decide) rfl rfl) nin0)).other W26 (Or.inr (sn_cN0_narrowPages_length hw)))
  have F_widePages_a1_j1_29 := ((F_widePages_a1_j1.keep K21 (ninS (own_pw nd1 0 3 (by decide) rfl rfl) nin0)).other W26 (Or.inr (sn_cN0_widePages_length hw)))
  have F_pageCount_a1_j1_30 := ((F_pageCount_a1_j1.keep K21 (ninS (own_pw nd1 0 3 (by decide) rfl rfl) nin0)).other W26 (Or.inr (sn_cN0_pageCount_length hw)))
  have F_capacity_a1_j1_31 := ((F_capacity_a1_j1.keep K21 (ninS (own_pw nd1 0 3 (by decide) rfl rfl) nin0)).other W26 (Or.inr (sn_cN0_capacity_length hw)))
  have V_np_j1_32 := ((V_np_j1.keep K21 (ninS (own_pw nd1 1 3 (by decide) rfl rfl) nin0)).other W26 (Ne.symm (own_pw nd0 0 1 (by decide) rfl rfl)))
  have V_wp_j1_33 := ((V_wp_j1.keep K21 (ninS (own_pw nd1 2 3 (by decide) rfl rfl) nin0)).other W26 (Ne.symm (own_pw nd0 0 2 (by decide) rfl rfl)))
  have E_pg2_j1_34 := ((E_pg2_j1.keep K21).wr W26)
  have G_pg2_35 := (P21_0.other W26 (Ne.symm (own_pw nd1 0 3 (by decide) rfl rfl)))
  obtain ⟨fs, hr, hrun, hended, hW, hsame⟩ := X26.leave (v := none) (fun _ => rfl)
  subst hA0
  refine ⟨_, _, K _ (X26.returnOut hx Bd.returns (hb hby d5_251) hr), hrun, hended, _, _, rfl, ?_, ⟨_, rfl⟩, hW, hsame.mono (by decide) (by decide)⟩
  show Q_afsWL Z a1 s1 np wp pg kn kw kp cap len va kv cs fw h0 n0 _ T26.heap _
  rw [e26]
  exact ⟨rfl, N26, pg2, kp2, cx, Kp26, or_pg2, E_a1_j1_27, F_narrowPages_a1_j1_28, F_widePages_a1_j1_29, F_pageCount_a1_j1_30, F_capacity_a1_j1_31, F_length_a1_26, V_np_j1_32, V_wp_j1_33, E_pg2_j1_34, G_pg2_35, hcx⟩
def Q_afsWU (Z : State) (a1 : Addr) (s1 : Addr) (np : Addr) (wp : Addr) (pg : Addr) (kn : ClassId) (kw : ClassId) (kp : ClassId) (cap : Int32) (len : Int32) (va : Addr) (kv : ClassId) (u0 : Int32) (u1 : Int32) (u2 : Int32) (cs : Int32) (fw : Value) (h0 : Heap) (n0 : Nat) (v : Option Value) (h : Heap) (L : List Loc) : Prop := v = none ∧ Fr n0 L ∧ ∃ (pgr : Addr) (kpr : ClassId) (cxr : Int32), Keep h0 h [a1, np, wp, pg] ∧ (pgr = pg ∨ h0.size ≤ pgr) ∧ Exa Z h a1 cN0 ∧ Fld Z h a1 cN0 "narrowPages" "[[B" (.ref np) ∧ Fld Z h a1 cN0 "widePages" "[[C" (.ref wp) ∧ Fld Z h a1 cN0 "pageCount" "I" (.int (1 : Int32)) ∧ Fld Z h a1 cN0 "capacity" "I" (.int cxr) ∧ Fld Z h a1 cN0 "length" "I" (.int (len + (3 : Int32))) ∧ OAr Z h np kn (.array .byte) [.null] ∧ OAr Z h wp kw (.array .char) [(.ref pgr)] ∧ Exa Z h pgr "[C" ∧ OPg Z h pgr kpr .char cxr ∧ cxr = own_cap len (3 : Int32) cap
theorem rm_afsWU (l : Launch) (Z : State) (a0 : Array Value) (hw : ∀ d ∈ tables_1, d.before a0 Z = true) (ws : List Jvm.Cond) (a1 : Addr) (s1 : Addr) (np : Addr) (wp : Addr) (pg : Addr) (kn : ClassId) (kw : ClassId) (kp : ClassId) (cap : Int32) (len : Int32) (va : Addr) (kv : ClassId) (u0 : Int32) (u1 : Int32) (u2 : Int32) (cs : Int32) (fw : Value) (h0 : Heap) (n0 : Nat) (Z0 : n0 ≤ h0.size) (hST : own_ST Z cs fw) (O_0 : Old Z n0 h0) (ovn : OvrA Z kn .byte "[B") (ovw : OvrA Z kw .char "[C") (E_a1 : Exa Z h0 a1 cN0) (F_narrowPages_a1 : Fld Z h0 a1 cN0 "narrowPages" "[[B" (.ref np)) (F_widePages_a1 : Fld Z h0 a1 cN0 "widePages" "[[C" (.ref wp)) (F_pageCount_a1 : Fld Z h0 a1 cN0 "pageCount" "I" (.int (1 : Int32))) (F_capacity_a1 : Fld Z h0 a1 cN0 "capacity" "I" (.int cap)) (F_length_a1 : Fld Z h0 a1 cN0 "length" "I" (.int len)) (V_np : OAr Z h0 np kn (.array .byte) [.null]) (V_wp : OAr Z h0 wp kw (.array .char) [(.ref pg)]) (E_pg : Exa Z h0 pg "[C") (G_pg : OPg Z h0 pg kp .char cap) (F_value_s1 : Fld Z h0 s1 cN1 "value" "[B" (.ref va)) (F_coder_s1 : Fld Z h0 s1 cN1 "coder" "B" (.int (1 : Int32))) (V_va : OAr Z h0 va kv .byte [(.int (own_b0 u0)), (.int (own_b1 u0)), (.int (own_b0 u1)), (.int (own_b1 u1)), (.int (own_b0 u2)), (.int (own_b1 u2))]) (E_s1 : Exa Z h0 s1 cN1) (g_a1 : n0 ≤ a1) (g_np : n0 ≤ np) (g_wp : n0 ≤ wp) (g_pg : n0 ≤ pg) (nd0 : OND [a1, np, wp, pg, s1, va]) (hI : 0 ≤ cap.toInt ∧ cap.toInt ≤ 15 ∧ 0 ≤ len.toInt ∧ len.toInt ≤ 3 ∧ len.toInt ≤ cap.toInt ∧ 0 ≤ (3 : Int32).toInt ∧ (3 : Int32).toInt ≤ 3) (hu : own_ch u0 u1 u2) :
    oM l mN39 prog_89_method_9_code 13 none ws ({ frames := 5, cells := 2, slots := 30, locals := 150 } : Room) #[(.ref a1), .null, (.ref s1), (.int (0 : Int32)), (.int (3 : Int32))] Z h0 (Q_afsWU Z a1 s1 np wp pg kn kw kp cap len va kv u0 u1 u2 cs fw h0 n0) := by
  refine MetFree.of_bodySF (plainFor_of_name pn_com_example_imprint_imprint_tree_PagedText) hisR ?_
  intro p e s m args below meth c s₁ Bd hml0 hP hK
  obtain ⟨rfl, hZ, hh⟩ := hP
  have hx := Bd.exec
  have hby := Bd.bytes
  have hml : c.maxLocals = 13 := hml0
  have hown : s.vm.findClass "com/example/imprint/imprint/tree/PagedText" = some m.cls := findClass_of_methodNamed Bd.named
  have hnm := (name_of_methodNamed Bd.named Bd.method).1
  have X0 : Stand p l e ({ frames := 5, cells := 2, slots := 30, locals := 150 } : Room) s m #[(.ref a1), .null, (.ref s1), (.int (0 : Int32)), (.int (3 : Int32))] below meth c s₁ [] 0 0 := Stand.of_body Bd
  have e0 : s₁.heap = h0 := by rw [← hh, Bd.state]; rfl
  have N0 := Fr.nil n0
  obtain ⟨A0, hA0⟩ : ∃ z, z = s₁.setTop (entryFrame m #[(.ref a1), .null, (.ref s1), (.int (0 : Int32)), (.int (3 : Int32))] 13) := ⟨_, rfl⟩
  have K : OGo p e below A0 s₁ (mkF m 0 #[rv a1, .val .null, rv s1, iv 0, iv 3, .unset, .unset, .unset, .unset, .unset, .unset, .unset, .unset] []) := fun t k => hA0 ▸ castTop (ef_5_n1 m a1 s1 (0 : Int32) (3 : Int32)) k
  have oz := own_t0
  refine cps (A := ∃ (pg2 : Addr) (kp2 : ClassId) (cx : Int32) (Tj1 : State) (hj1 : Heap) (lj1 : List Loc), Stand p l e ({ frames := 5, cells := 2, slots := 30, locals := 150 } : Room) s m #[(.ref a1), .null, (.ref s1), (.int (0 : Int32)), (.int (3 : Int32))] below meth c Tj1 lj1 1 15 ∧ Tj1.heap = hj1 ∧ Fr n0 lj1 ∧ n0 ≤ hj1.size ∧ Keep h0 hj1 [a1, np, wp, pg] ∧ Exa Z hj1 a1 cN0 ∧ Fld Z hj1 a1 cN0 "narrowPages" "[[B" (.ref np) ∧ Fld Z hj1 a1 cN0 "widePages" "[[C" (.ref wp) ∧ Fld Z hj1 a1 cN0 "pageCount" "I" (.int (1 : Int32)) ∧ Fld Z hj1 a1 cN0 "capacity" "I" (.int cx) ∧ Fld Z hj1 a1 cN0 "length" "I" (.int len) ∧ OAr Z hj1 np kn (.array .byte) [.null] ∧ OAr Z hj1 wp kw (.array .char) [(.ref pg2)] ∧ Exa Z hj1 pg2 "[C" ∧ OPg Z hj1 pg2 kp2 .char cx ∧ Fld Z hj1 s1 cN1 "value" "[B" (.ref va) ∧ Fld Z hj1 s1 cN1 "coder" "B" (.int (1 : Int32)) ∧ OAr Z hj1 va kv .byte [(.int (own_b0 u0)), (.int (own_b1 u0)), (.int (own_b0 u1)), (.int (own_b1 u1)), (.int (own_b0 u2)), (.int (own_b1 u2))] ∧ Exa Z hj1 s1 cN1 ∧ Old Z n0 hj1 ∧ (pg2 = pg ∨ h0.size ≤ pg2) ∧ n0 ≤ pg2 ∧ OND [a1, np, wp, pg2, s1, va] ∧ cx = own_cap len (3 : Int32) cap ∧ OGo p e below A0 Tj1 (mkF m 25 #[rv a1, .val .null, rv s1, iv 0, iv 3, .unset, .unset, .unset, .unset, .unset, .unset, .unset, .unset] [])) (fun J1 => ?_) ?_
  · obtain ⟨T2, X2, e2, st2⟩ := getF X0 hx hZ hown (host := "") (Or.inl (ow hw 38 rfl)) Via.refl e0 F_length_a1 (g := (mkF m 1 #[rv a1, .val .null, rv s1, iv 0, iv 3, .unset, .unset, .unset, .unset, .unset, .unset, .unset, .unset] [(.ref a1)])) rfl rfl (hb hby d5_1)
    obtain ⟨T3, X3, e3, st3⟩ := getF X2 hx hZ hown (host := "") (Or.inl (ow hw 22 rfl)) Via.refl e2 F_capacity_a1 (g := (mkF m 8 #[rv a1, .val .null, rv s1, iv 0, iv 3, .unset, .unset, .unset, .unset, .unset, .unset, .unset, .unset] [(.ref a1), (.int (len + (3 : Int32)))])) rfl rfl (hb hby d5_8)
    by_cases hc11 : cap < (len + (3 : Int32))
    · obtain ⟨T4, X4, e4, st4⟩ := getF X3 hx hZ hown (host := "") (Or.inl (ow hw 38 rfl)) Via.refl e3 F_length_a1 (g := (mkF m 16 #[rv a1, .val .null, rv s1, iv 0, iv 3, .unset, .unset, .unset, .unset, .unset, .unset, .unset, .unset] [(.ref a1), (.ref a1)])) rfl rfl (hb hby d5_16)
      have nd6 : OND [a1, np, wp, pg] := (ondS (allS (own_pw nd0 0 1 (by decide) rfl rfl) (allS (own_pw nd0 0 2 (by decide) rfl rfl) (allS (own_pw nd0 0 3 (by decide) rfl rfl) all0))) (ondS (allS (own_pw nd0 1 2 (by decide) rfl rfl) (allS (own_pw nd0 1 3 (by decide) rfl rfl) all0)) (ondS (allS (own_pw nd0 2 3 (by decide) rfl rfl) all0) (ondS all0 ond0))))
      obtain ⟨cq5, qp5, qp5'⟩ := E_a1.cell
      obtain ⟨_, _, ⟨T5, L5, k5, n5⟩, -, X5, ⟨Lc5, hQ5, l5, y5, z5⟩, st5⟩ := X4.privateBack hx (y := mN7) hown (mvT hZ (ow hw 40 rfl)) (mvT hZ (ow hw 41 rfl)) (own_selp hZ (ow hw 2 rfl) (ow hw 42 rfl) (ow hw 41 rfl)) (Cond.privateMethod_at (mvP hZ (ow hw 42 rfl) (args := #[]))) (mvT hZ (ow hw 43 rfl)) (by decide) (backOf (W := 0) (rm_growW l Z a0 hw [] a1 (len + (3 : Int32)) np wp pg kn kw kp cap len cs fw h0 n0 Z0 hST O_0 ovn ovw E_a1 F_narrowPages_a1 F_widePages_a1 F_pageCount_a1 F_capacity_a1 F_length_a1 V_np V_wp E_pg G_pg g_a1 g_np g_wp g_pg nd6 (own_hg hI hc11)) hZ (ow hw 43 rfl) (ow hw 3 rfl) (by decide) (by decide)) (g := (mkF m 22 #[rv a1, .val .null, rv s1, iv 0, iv 3, .unset, .unset, .unset, .unset, .unset, .unset, .unset, .unset] [(.int (len + (3 : Int32))), (.ref a1)])) rfl (by rw [hml]; rfl) (Steps.refl _) (a := a1) (by rw [e4]; exact qp5) qp5' (argsL := [(.int (len + (3 : Int32)))]) (rest := []) (lenOf pd__I_V rfl) rfl (by show 2 * 0 + _ ≤ _; exact Nat.le_of_eq rfl) (hb hby d5_22) (fun _ _ => ⟨rfl, e4, (by decide : 0 + 1 ≤ _), (by decide : 0 + 15 ≤ _)⟩)
      dsimp only [Pt.U, Pt.locs, Pt.cells, Pt.slots] at X5 l5 y5 z5 st5 hQ5
      subst l5 y5 z5
      obtain ⟨hp5, e5⟩ : ∃ z, T5.heap = z := ⟨_, rfl⟩
      rw [e5] at hQ5
      obtain ⟨rfl, Nq5, pg2_5, kp2_5, K5, P5_0, P5_1, P5_2, P5_3, P5_4, P5_5, P5_6, P5_7, P5_8, P5_9, P5_10⟩ := hQ5
      have ne_a1_pg2_5 : a1 ≠ pg2_5 := Nat.ne_of_lt (Nat.lt_of_lt_of_le E_a1.lt P5_0)
      have ne_s1_pg2_5 : s1 ≠ pg2_5 := Nat.ne_of_lt (Nat.lt_of_lt_of_le F_value_s1.lt P5_0)
      have ne_np_pg2_5 : np ≠ pg2_5 := Nat.ne_of_lt (Nat.lt_of_lt_of_le V_np.lt P5_0)
      have ne_wp_pg2_5 : wp ≠ pg2_5 := Nat.ne_of_lt (Nat.lt_of_lt_of_le V_wp.lt P5_0)
      have ne_pg_pg2_5 : pg ≠ pg2_5 := Nat.ne_of_lt (Nat.lt_of_lt_of_le E_pg.lt P5_0)
      have ne_va_pg2_5 : va ≠ pg2_5 := Nat.ne_of_lt (Nat.lt_of_lt_of_le V_va.lt P5_0)
      have g_pg2_5 : n0 ≤ pg2_5 := Nat.le_trans Z0 P5_0
      have sz_pg2_5 : h0.size ≤ pg2_5 := Nat.le_trans (Keep.refl h0 [a1, np, wp, pg]).1 P5_0
      have Z5 : n0 ≤ hp5.size := Nat.le_trans Z0 K5.1
      have Kp5 : Keep h0 hp5 [a1, np, wp, pg] := (Keep.refl h0 [a1, np, wp, pg]).trans K5 (allS (Or.inl (List.mem_of_getElem? (i := 0) rfl)) (allS (Or.inl (List.mem_of_getElem? (i := 2) rfl)) all0))
      have N5 := Fr.app N0 Nq5
      replace K : OGo p e below A0 T5 (mkF m 25 #[rv a1, .val .null, rv s1, iv 0, iv 3, .unset, .unset, .unset, .unset, .unset, .unset, .unset, .unset] []) := fun t k => K t (XS.aloadN X0.here hx rfl (hb hby d5_0) rfl rfl (st2 t (XS.iload X2.here hx rfl (hb hby d5_4) rfl (XS.iadd X2.here hx rfl (hb hby d5_6) rfl (XS.aloadN X2.here hx rfl (hb hby d5_7) rfl rfl (st3 t (XS.icmpNo X3.here hx rfl (hb hby d5_11) rfl (tlt hc11).2.2.2 (XS.aloadN X3.here hx rfl (hb hby d5_14) rfl rfl (XS.aloadN X3.here hx rfl (hb hby d5_15) rfl rfl (st4 t (XS.iload X4.here hx rfl (hb hby d5_19) rfl (XS.iadd X4.here hx rfl (hb hby d5_21) rfl (st5.trans k)))))))))))))
      have F_value_s1_7 := (F_value_s1.keep K5 (ninS (Ne.symm (own_pw nd0 0 4 (by decide) rfl rfl)) (ninS (Ne.symm (own_pw nd0 2 4 (by decide) rfl rfl)) nin0)))
      have F_coder_s1_8 := (F_coder_s1.keep K5 (ninS (Ne.symm (own_pw nd0 0 4 (by decide) rfl rfl)) (ninS (Ne.symm (own_pw nd0 2 4 (by decide) rfl rfl)) nin0)))
      have V_va_9 := (V_va.keep K5 (ninS (Ne.symm (own_pw nd0 0 5 (by decide) rfl rfl)) (ninS (Ne.symm (own_pw nd0 2 5 (by decide) rfl rfl)) nin0)))
      have E_s1_10 := (E_s1.keep K5)
      have O_11 := (O_0.keep K5 (allS g_a1 (allS g_wp all0)))
      have nd12 : OND [a1, np, wp, pg2_5, s1, va] := (ondS (allS (own_pw nd0 0 1 (by decide) rfl rfl) (allS (own_pw nd0 0 2 (by decide) rfl rfl) (allS ne_a1_pg2_5 (allS (own_pw nd0 0 4 (by decide) rfl rfl) (allS (own_pw nd0 0 5 (by decide) rfl rfl) all0))))) (ondS (allS (own_pw nd0 1 2 (by decide) rfl rfl) (allS ne_np_pg2_5 (allS (own_pw nd0 1 4 (by decide) rfl rfl) (allS (own_pw nd0 1 5 (by decide) rfl rfl) all0)))) (ondS (allS ne_wp_pg2_5 (allS (own_pw nd0 2 4 (by decide) rfl rfl) (allS (own_pw nd0 2 5 (by decide) rfl rfl) all0))) (ondS (allS (Ne.symm ne_s1_pg2_5) (allS (Ne.symm ne_va_pg2_5) all0)) (ondS (allS (own_pw nd0 4 5 (by decide) rfl rfl) all0) (ondS all0 ond0))))))
      exact J1 ⟨pg2_5, kp2_5, (own_max (len + (3 : Int32)) (cap * (2 : Int32))), _, _, _, X5, e5, N5, Z5, Kp5, P5_1, P5_2, P5_3, P5_4, P5_5, P5_6, P5_7, P5_8, P5_9, P5_10, F_value_s1_7, F_coder_s1_8, V_va_9, E_s1_10, O_11, (Or.inr sz_pg2_5), g_pg2_5, nd12, (by simp [own_cap, hc11]), K⟩
    · replace K : OGo p e below A0 T3 (mkF m 25 #[rv a1, .val .null, rv s1, iv 0, iv 3, .unset, .unset, .unset, .unset, .unset, .unset, .unset, .unset] []) := fun t k => K t (XS.aloadN X0.here hx rfl (hb hby d5_0) rfl rfl (st2 t (XS.iload X2.here hx rfl (hb hby d5_4) rfl (XS.iadd X2.here hx rfl (hb hby d5_6) rfl (XS.aloadN X2.here hx rfl (hb hby d5_7) rfl rfl (st3 t (XS.icmpYes X3.here hx rfl (pc0 := 11) (pc' := 25) rfl (hb hby d5_11) rfl (flt hc11).2.2.2 (by decide) (by decide) k)))))))
      exact J1 ⟨pg, kp, cap, _, _, _, (X3.more (by decide) (by decide)), e3, N0, Z0, (Keep.refl h0 [a1, np, wp, pg]), E_a1, F_narrowPages_a1, F_widePages_a1, F_pageCount_a1, F_capacity_a1, F_length_a1, V_np, V_wp, E_pg, G_pg, F_value_s1, F_coder_s1, V_va, E_s1, O_0, (Or.inl rfl), g_pg, nd0, (by simp [own_cap, hc11]), K⟩
  clear K
  rintro ⟨pg2, kp2, cx, Tj1, hj1, lj1, Xj1, ej1, Nj1, Zj1, Kj1, E_a1_j1, F_narrowPages_a1_j1, F_widePages_a1_j1, F_pageCount_a1_j1, F_capacity_a1_j1, F_length_a1_j1, V_np_j1, V_wp_j1, E_pg2_j1, G_pg2_j1, F_value_s1_j1, F_coder_s1_j1, V_va_j1, E_s1_j1, O_0_j1, or_pg2, g_pg2, nd1, hcx, K⟩
  have hJ := own_capI hI hcx
  replace K : OGo p e below A0 Tj1 (mkF m 32 #[rv a1, .val .null, rv s1, iv 0, iv 3, iv 0, .unset, .unset, .unset, .unset, .unset, .unset, .unset] [(.int 3)]) := fun t k => K t (XS.iloadN Xj1.here hx rfl (hb hby d5_25) rfl (XS.istore Xj1.here hx rfl (hb hby d5_26) rfl (l' := #[rv a1, .val .null, rv s1, iv 0, iv 3, iv 0, .unset, .unset, .unset, .unset, .unset, .unset, .unset]) rfl (XS.iloadN Xj1.here hx rfl (hb hby d5_28) rfl (XS.iload Xj1.here hx rfl (hb hby d5_29) rfl (XS.iadd Xj1.here hx rfl (hb hby d5_31) rfl k)))))
  obtain ⟨T13, X13, e13, st13⟩ := getF Xj1 hx hZ hown (host := "") (Or.inl (ow hw 38 rfl)) Via.refl ej1 F_length_a1_j1 (g := (mkF m 42 #[rv a1, .val .null, rv s1, iv 0, iv 3, iv 0, iv 3, .unset, .unset, .unset, .unset, .unset, .unset] [(.ref a1)])) rfl rfl (hb hby d5_42)
  obtain ⟨T14, X14, e14, st14⟩ := getS2 X13 hx hZ hown (host := "") (Or.inl (ow hw 62 rfl)) Via.refl e13 (hST.pb.ext O_0_j1.2) (g := (mkF m 45 #[rv a1, .val .null, rv s1, iv 0, iv 3, iv 0, iv 3, .unset, .unset, .unset, .unset, .unset, .unset] [(.int len)])) rfl (hb hby d5_45)
  replace K : OGo p e below A0 T14 (mkF m 49 #[rv a1, .val .null, rv s1, iv 0, iv 3, iv 0, iv 3, .unset, .unset, .unset, .unset, .unset, .unset] [(.int ((len.toUInt32 >>> ((16 : Int32) &&& 31).toUInt32).toInt32))]) := fun t k => K t (XS.istore Xj1.here hx rfl (hb hby d5_32) rfl (l' := #[rv a1, .val .null, rv s1, iv 0, iv 3, iv 0, iv 3, .unset, .unset, .unset, .unset, .unset, .unset]) rfl (XS.iload Xj1.here hx rfl (hb hby d5_34) rfl (XS.iload Xj1.here hx rfl (hb hby d5_36) rfl (XS.icmpNo Xj1.here hx rfl (hb hby d5_38) rfl (tlt ((by decide : (0 : Int32) < (3 : Int32)) : (0 : Int32) < (3 : Int32))).2.1 (XS.aloadN Xj1.here hx rfl (hb hby d5_41) rfl rfl (st13 t (st14 t (XS.iushr X14.here hx rfl (hb hby d5_48) rfl k))))))))
  rw [show ((len.toUInt32 >>> ((16 : Int32) &&& 31).toUInt32).toInt32) = (0 : Int32) from own_s16 hI] at K
  obtain ⟨T15, X15, e15, st15⟩ := getF X14 hx hZ hown (host := "") (Or.inl (ow hw 38 rfl)) Via.refl e14 F_length_a1_j1 (g := (mkF m 52 #[rv a1, .val .null, rv s1, iv 0, iv 3, iv 0, iv 3, iv 0, .unset, .unset, .unset, .unset, .unset] [(.ref a1)])) rfl rfl (hb hby d5_52)
  obtain ⟨T16, X16, e16, st16⟩ := getS2 X15 hx hZ hown (host := "") (Or.inl (ow hw 64 rfl)) Via.refl e15 (hST.om.ext O_0_j1.2) (g := (mkF m 55 #[rv a1, .val .null, rv s1, iv 0, iv 3, iv 0, iv 3, iv 0, .unset, .unset, .unset, .unset, .unset] [(.int len)])) rfl (hb hby d5_55)
  replace K : OGo p e below A0 T16 (mkF m 59 #[rv a1, .val .null, rv s1, iv 0, iv 3, iv 0, iv 3, iv 0, .unset, .unset, .unset, .unset, .unset] [(.int (len &&& (65535 : Int32)))]) := fun t k => K t (XS.istore X14.here hx rfl (hb hby d5_49) rfl (l' := #[rv a1, .val .null, rv s1, iv 0, iv 3, iv 0, iv 3, iv 0, .unset, .unset, .unset, .unset, .unset]) rfl (XS.aloadN X14.here hx rfl (hb hby d5_51) rfl rfl (st15 t (st16 t (XS.iand X16.here hx rfl (hb hby d5_58) rfl k)))))
  rw [show (len &&& (65535 : Int32)) = len from own_m16 hI] at K
  replace K : OGo p e below A0 T16 (mkF m 66 #[rv a1, .val .null, rv s1, iv 0, iv 3, iv 0, iv 3, iv 0, iv len, .unset, .unset, .unset, .unset] [(.int 3)]) := fun t k => K t (XS.istore X16.here hx rfl (hb hby d5_59) rfl (l' := #[rv a1, .val .null, rv s1, iv 0, iv 3, iv 0, iv 3, iv 0, iv len, .unset, .unset, .unset, .unset]) rfl (XS.iload X16.here hx rfl (hb hby d5_61) rfl (XS.iload X16.here hx rfl (hb hby d5_63) rfl (XS.isub X16.here hx rfl (hb hby d5_65) rfl k))))
  obtain ⟨cq17, qp17, qp17'⟩ := E_a1_j1.cell
  obtain ⟨_, _, ⟨T17, L17, k17, n17⟩, -, X17, ⟨Lc17, hQ17, l17, y17, z17⟩, st17⟩ := X16.privateBack hx (y := mN6) hown (mvT hZ (ow hw 66 rfl)) (mvT hZ (ow hw 67 rfl)) (own_selp hZ (ow hw 2 rfl) (ow hw 68 rfl) (ow hw 67 rfl)) (Cond.privateMethod_at (mvP hZ (ow hw 68 rfl) (args := #[]))) (mvT hZ (ow hw 69 rfl)) (by decide) (backOf (W := 1) (rm_plenW l Z a0 hw [] a1 np wp pg2 kn kw kp2 cx len hj1 n0 Zj1 E_a1_j1 F_narrowPages_a1_j1 F_widePages_a1_j1 F_pageCount_a1_j1 F_capacity_a1_j1 F_length_a1_j1 V_np_j1 V_wp_j1 E_pg2_j1 G_pg2_j1) hZ (ow hw 69 rfl) (ow hw 3 rfl) (by decide) (by decide)) (g := (mkF m 69 #[rv a1, .val .null, rv s1, iv 0, iv 3, iv 0, iv 3, iv 0, iv len, .unset, .unset, .unset, .unset] [(.int 0), (.ref a1), (.int 3)])) rfl (by rw [hml]; rfl) (Steps.refl _) (a := a1) (by rw [e16]; exact qp17) qp17' (argsL := [(.int (0 : Int32))]) (rest := [(.int (3 : Int32))]) (lenOf pd__I_I rfl) rfl (by show 2 * 0 + _ ≤ _; exact Nat.le_of_eq rfl) (hb hby d5_69) (fun _ _ => ⟨rfl, e16, (by decide : 1 + 0 ≤ _), (by decide : 15 + 0 ≤ _)⟩)
  dsimp only [Pt.U, Pt.locs, Pt.cells, Pt.slots] at X17 l17 y17 z17 st17 hQ17
  subst l17 y17 z17
  obtain ⟨rfl, Nq17, e17⟩ := hQ17
  have N17 := Fr.app Nj1 Nq17
  obtain ⟨_, _, ⟨T18, L18, k18, n18⟩, -, X18, ⟨Lc18, hQ18, l18, y18, z18⟩, st18⟩ := Jvm.LawKit.callS X17 hx (y := mN0) hown (mvT hZ (ow hw 50 rfl)) (mvT hZ (ow hw 51 rfl)) (mvT hZ (ow hw 48 rfl)) (mvT hZ (ow hw 52 rfl)) (by decide) (backOf (W := 0) (rm_min l Z a0 hw [] (3 : Int32) (cx - len) hj1 n0 Zj1 ) hZ (ow hw 52 rfl) (ow hw 48 rfl) (by decide) (by decide)) (g := (mkF m 75 #[rv a1, .val .null, rv s1, iv 0, iv 3, iv 0, iv 3, iv 0, iv len, .unset, .unset, .unset, .unset] [(.int (cx - len)), (.int 3)])) rfl (by rw [hml]; rfl) (argsL := [(.int (3 : Int32)), (.int (cx - len))]) (rest := []) (lenOf pd__II_I rfl) rfl (by show 2 * 0 + _ ≤ _; exact Nat.le_of_eq rfl) (hb hby d5_75) (fun _ _ => ⟨rfl, e17, (by decide : 1 + 0 ≤ _), (by decide : 15 + 0 ≤ _)⟩)
  dsimp only [Pt.U, Pt.locs, Pt.cells, Pt.slots] at X18 l18 y18 z18 st18 hQ18
  subst l18 y18 z18
  obtain ⟨rfl, Nq18, e18⟩ := hQ18
  have N18 := Fr.app N17 Nq18
  replace K : OGo p e below A0 T18 (mkF m 78 #[rv a1, .val .null, rv s1, iv 0, iv 3, iv 0, iv 3, iv 0, iv len, .unset, .unset, .unset, .unset] [(.int (own_min (3 : Int32) (cx - len)))]) := fun t k => K t (XS.aloadN X16.here hx rfl (hb hby d5_66) rfl rfl (XS.iload X16.here hx rfl (hb hby d5_67) rfl (st17.trans (XS.iload X17.here hx rfl (hb hby d5_72) rfl (XS.isub X17.here hx rfl (hb hby d5_74) rfl (st18 t k))))))
  rw [show (own_min (3 : Int32) (cx - len)) = (3 : Int32) from own_minl (by rw [own_subI (a := cx) (b := len) (by omega)]; omega)] at K
  obtain ⟨T19, X19, e19, st19⟩ := getF X18 hx hZ hown (host := "") (Or.inl (ow hw 14 rfl)) Via.refl e18 F_narrowPages_a1_j1 (g := (mkF m 84 #[rv a1, .val .null, rv s1, iv 0, iv 3, iv 0, iv 3, iv 0, iv len, iv 3, iv 0, .unset, .unset] [(.ref a1)])) rfl rfl (hb hby d5_84)
  replace K : OGo p e below A0 T19 (mkF m 175 #[rv a1, .val .null, rv s1, iv 0, iv 3, iv 0, iv 3, iv 0, iv len, iv 3, iv 0, .val .null, .unset] [(.int 0)]) := fun t k => K t (XS.istore X18.here hx rfl (hb hby d5_78) rfl (l' := #[rv a1, .val .null, rv s1, iv 0, iv 3, iv 0, iv 3, iv 0, iv len, iv 3, .unset, .unset, .unset]) rfl (XS.iconst X18.here hx rfl (hb hby d5_80) (XS.istore X18.here hx rfl (hb hby d5_81) rfl (l' := #[rv a1, .val .null, rv s1, iv 0, iv 3, iv 0, iv 3, iv 0, iv len, iv 3, iv 0, .unset, .unset]) rfl (XS.aloadN X18.here hx rfl (hb hby d5_83) rfl rfl (st19 t (XS.iload X19.here hx rfl (hb hby d5_87) rfl (own_ldA X19 hx hZ e19 V_np_j1 rfl (j := (0 : Int32)) (v := .null) (by decide) rfl (g := (mkF m 89 #[rv a1, .val .null, rv s1, iv 0, iv 3, iv 0, iv 3, iv 0, iv len, iv 3, iv 0, .unset, .unset] [(.int 0), (.ref np)])) rfl rfl (hb hby d5_89) t (XS.astore X19.here hx rfl (hb hby d5_90) rfl rfl (l' := #[rv a1, .val .null, rv s1, iv 0, iv 3, iv 0, iv 3, iv 0, iv len, iv 3, iv 0, .val .null, .unset]) rfl (XS.aload X19.here hx rfl (hb hby d5_92) rfl rfl (XS.ifnullYes X19.here hx rfl (pc0 := 94) (pc' := 163) rfl (hb hby d5_94) rfl (by decide) (by decide) (XS.iload X19.here hx rfl (hb hby d5_163) rfl (XS.iload X19.here hx rfl (hb hby d5_165) rfl (XS.icmpNo X19.here hx rfl (hb hby d5_167) rfl (tlt ((by decide : (0 : Int32) < (3 : Int32)) : (0 : Int32) < (3 : Int32))).2.1 (XS.iload X19.here hx rfl (hb hby d5_170) rfl (XS.iload X19.here hx rfl (hb hby d5_172) rfl (XS.iadd X19.here hx rfl (hb hby d5_174) rfl k))))))))))))))))
  obtain ⟨T20, X20, e20, st20⟩ := getF X19 hx hZ hown (host := "") (Or.inl (ow hw 18 rfl)) Via.refl e19 F_widePages_a1_j1 (g := (mkF m 216 #[rv a1, .val .null, rv s1, iv 0, iv 3, iv 0, iv 3, iv 0, iv len, iv 3, iv 0, .val .null, iv 0] [(.ref a1), (.int 3), (.int 0), (.ref s1)])) rfl rfl (hb hby d5_216)
  have nd22 : OND [s1, va, pg2] := (ondS (allS (own_pw nd0 4 5 (by decide) rfl rfl) (allS (Ne.symm (own_pw nd1 3 4 (by decide) rfl rfl)) all0)) (ondS (allS (Ne.symm (own_pw nd1 3 5 (by decide) rfl rfl)) all0) (ondS all0 ond0)))
  obtain ⟨cq21, kq21, qv21a, qv21b, qv21c⟩ := isOf hZ e20 E_s1_j1
  obtain ⟨_, _, ⟨T21, L21, k21, n21⟩, -, X21, ⟨Lc21, hQ21, l21, y21, z21⟩, st21⟩ := X20.virtualBack hx (y := mN38) (z := mN38) hown (mvT hZ (ow hw 165 rfl)) (mvT hZ (ow hw 166 rfl)) (notFace_of_selects (args := #[]) (mvT hZ (ow hw 168 rfl))) (mvT hZ (ow hw 168 rfl)) (mvT hZ (ow hw 167 rfl)) (by decide) (backOf (W := 0) (rm_sgU l Z a0 hw [] s1 (0 : Int32) pg2 (len + (0 : Int32)) va kv u0 u1 u2 kp2 cx cs fw hj1 n0 Zj1 hST O_0_j1 F_value_s1_j1 F_coder_s1_j1 V_va_j1 G_pg2_j1 E_s1_j1 g_pg2 nd22 (by omega) (own_hpU (by omega)) hu) hZ (ow hw 169 rfl) (ow hw 77 rfl) (by decide) (by decide)) qv21a qv21c (g := (mkF m 227 #[rv a1, .val .null, rv s1, iv 0, iv 3, iv 0, iv 3, iv 0, iv len, iv 3, iv 0, .val .null, iv 0] [(.int (len + (0 : Int32))), (.ref pg2), (.int 3), (.int 0), (.ref s1)])) rfl (by rw [hml]; rfl) (Steps.refl _) (argsL := [(.int (0 : Int32)), (.int (3 : Int32)), (.ref pg2), (.int (len + (0 : Int32)))]) (rest := []) (lenOf pd__II_CI_V rfl) rfl (by show 2 * 0 + _ ≤ _; exact Nat.le_of_eq rfl) (hb hby d5_227) (fun _ _ => ⟨rfl, e20, (by decide : 1 + 0 ≤ _), (by decide : 15 + 0 ≤ _)⟩)
  dsimp only [Pt.U, Pt.locs, Pt.cells, Pt.slots] at X21 l21 y21 z21 st21 hQ21
  subst l21 y21 z21
  obtain ⟨hp21, e21⟩ : ∃ z, T21.heap = z := ⟨_, rfl⟩
  rw [e21] at hQ21
  obtain ⟨rfl, Nq21, K21, P21_0⟩ := hQ21
  have Z21 : n0 ≤ hp21.size := Nat.le_trans Zj1 K21.1
  have Kp21 : Keep h0 hp21 [a1, np, wp, pg] := Kj1.trans K21 (allS (own_orin or_pg2 (List.mem_of_getElem? (i := 3) rfl)) all0)
  have N21 := Fr.app N18 Nq21
  replace K : OGo p e below A0 T21 (mkF m 235 #[rv a1, .val .null, rv s1, iv 0, iv 3, iv 0, iv 3, iv 0, iv len, iv 3, iv 0, .val .null, iv 0] [(.int 3)]) := fun t k => K t (XS.istore X19.here hx rfl (hb hby d5_175) rfl (l' := #[rv a1, .val .null, rv s1, iv 0, iv 3, iv 0, iv 3, iv 0, iv len, iv 3, iv 0, .val .null, iv 0]) rfl (XS.aloadN X19.here hx rfl (hb hby d5_177) rfl rfl (XS.ifnullYes X19.here hx rfl (pc0 := 178) (pc' := 207) rfl (hb hby d5_178) rfl (by decide) (by decide) (XS.aloadN X19.here hx rfl (hb hby d5_207) rfl rfl (XS.iload X19.here hx rfl (hb hby d5_208) rfl (XS.iload X19.here hx rfl (hb hby d5_210) rfl (XS.iload X19.here hx rfl (hb hby d5_212) rfl (XS.iadd X19.here hx rfl (hb hby d5_214) rfl (XS.aloadN X19.here hx rfl (hb hby d5_215) rfl rfl (st20 t (XS.iload X20.here hx rfl (hb hby d5_219) rfl (own_ldA X20 hx hZ e20 V_wp_j1 rfl (j := (0 : Int32)) (v := (.ref pg2)) (by decide) rfl (g := (mkF m 221 #[rv a1, .val .null, rv s1, iv 0, iv 3, iv 0, iv 3, iv 0, iv len, iv 3, iv 0, .val .null, iv 0] [(.int 0), (.ref wp), (.int 3), (.int 0), (.ref s1)])) rfl rfl (hb hby d5_221) t (XS.iload X20.here hx rfl (hb hby d5_222) rfl (XS.iload X20.here hx rfl (hb hby d5_224) rfl (XS.iadd X20.here hx rfl (hb hby d5_226) rfl (st21.trans (XS.iload X21.here hx rfl (hb hby d5_230) rfl (XS.iload X21.here hx rfl (hb hby d5_232) rfl (XS.iadd X21.here hx rfl (hb hby d5_234) rfl k)))))))))))))))))))
  have F_length_a1_j1_23 := (F_length_a1_j1.keep K21 (ninS (own_pw nd1 0 3 (by decide) rfl rfl) nin0))
  obtain ⟨T24, X24, e24, st24⟩ := getF X21 hx hZ hown (host := "") (Or.inl (ow hw 38 rfl)) Via.refl e21 F_length_a1_j1_23 (g := (mkF m 239 #[rv a1, .val .null, rv s1, iv 0, iv 3, iv 3, iv 3, iv 0, iv len, iv 3, iv 0, .val .null, iv 0] [(.ref a1), (.ref a1)])) rfl rfl (hb hby d5_239)
  have E_a1_j1_25 := (E_a1_j1.keep K21)
  obtain ⟨T26, h26, X26, e26, W26, st26⟩ := putF X24 hx hZ hown (host := "") (Or.inl (ow hw 38 rfl)) Via.refl e24 F_length_a1_j1_23 E_a1_j1_25 (Or.inl (ow hw 39 rfl)) (ow hw 2 rfl) (ty := .int) (by decide) rfl rfl (g := (mkF m 245 #[rv a1, .val .null, rv s1, iv 0, iv 3, iv 3, iv 3, iv 0, iv len, iv 3, iv 0, .val .null, iv 0] [(.int (len + (3 : Int32))), (.ref a1)])) rfl rfl (hb hby d5_245)
  have Z26 : n0 ≤ h26.size := Nat.le_trans Z21 (Keep.of_wr W26).1
  have Kp26 : Keep h0 h26 [a1, np, wp, pg] := Kp21.wr W26 (Or.inl (List.mem_of_getElem? (i := 0) rfl))
  have F_length_a1_26 := F_length_a1_j1_23.same W26
  have N26 := Fr.snoc X26 N21 g_a1
  replace K : OGo p e below A0 T26 (mkF m 251 #[rv a1, .val .null, rv s1, iv 0, iv 3, iv 3, iv 3, iv 0, iv len, iv 3, iv 0, .val .null, iv 0] []) := fun t k => K t (XS.istore X21.here hx rfl (hb hby d5_235) rfl (l' := #[rv a1, .val .null, rv s1, iv 0, iv 3, iv 3, iv 3, iv 0, iv len, iv 3, iv 0, .val .null, iv 0]) rfl (XS.aloadN X21.here hx rfl (hb hby d5_237) rfl rfl (XS.dup X21.here hx rfl (hb hby d5_238) rfl rfl (st24 t (XS.iload X24.here hx rfl (hb hby d5_242) rfl (XS.iadd X24.here hx rfl (hb hby d5_244) rfl (st26 t (XS.goto X26.here hx rfl (pc0 := 248) (pc' := 34) rfl (hb hby d5_248) (by decide) (by decide) (XS.iload X26.here hx rfl (hb hby d5_34) rfl (XS.iload X26.here hx rfl (hb hby d5_36) rfl (XS.icmpYes X26.here hx rfl (pc0 := 38) (pc' := 251) rfl (hb hby d5_38) rfl (flt ((by decide : ¬ ((3 : Int32) < (3 : Int32))) : ¬ ((3 : Int32) < (3 : Int32)))).2.1 (by decide) (by decide) k)))))))))))
  have E_a1_j1_27 := (E_a1_j1_25.wr W26)
  have F_narrowPages_a1_j1_28 := ((F_narrowPages_a1_j1.keep K21 (ninS (own_pw nd1 0 3 (by decide) rfl rfl) nin0)).other W26 (Or.inr (sn_cN0_narrowPages_length hw)))
  have F_widePages_a1_j1_29 := ((F_widePages_a1_j1.keep K21 (ninS (own_pw nd1 0 3 (by decide) rfl rfl) nin0)).other W26 (Or.inr (sn_cN0_widePages_length hw)))
  have F_pageCount_a1_j1_30 := ((F_pageCount_a1_j1.keep K21 (ninS (own_pw nd1 0 3 (by decide) rfl rfl) nin0)).other W26 (Or.inr (sn_cN0_pageCount_length hw)))
  have F_capacity_a1_j1_31 := ((F_capacity_a1_j1.keep K21 (ninS (own_pw nd1 0 3 (by decide) rfl rfl) nin0)).other W26 (Or.inr (sn_cN0_capacity_length hw)))
  have V_np_j1_32 := ((V_np_j1.keep K21 (ninS (own_pw nd1 1 3 (by decide) rfl rfl) nin0)).other W26 (Ne.symm (own_pw nd0 0 1 (by decide) rfl rfl)))
  have V_wp_j1_33 := ((V_wp_j1.keep K21 (ninS (own_pw nd1 2 3 (by decide) rfl rfl) nin0)).other W26 (Ne.symm (own_pw nd0 0 2 (by decide) rfl rfl)))
  have E_pg2_j1_34 := ((E_pg2_j1.keep K21).wr W26)
  have G_pg2_35 := (P21_0.other W26 (Ne.symm (own_pw nd1 0 3 (by decide) rfl rfl)))
  obtain ⟨fs, hr, hrun, hended, hW, hsame⟩ := X26.leave (v := none) (fun _ => rfl)
  subst hA0
  refine ⟨_, _, K _ (X26.returnOut hx Bd.returns (hb hby d5_251) hr), hrun, hended, _, _, rfl, ?_, ⟨_, rfl⟩, hW, hsame.mono (by decide) (by decide)⟩
  show Q_afsWU Z a1 s1 np wp pg kn kw kp cap len va kv u0 u1 u2 cs fw h0 n0 _ T26.heap _
  rw [e26]
  exact ⟨rfl, N26, pg2, kp2, cx, Kp26, or_pg2, E_a1_j1_27, F_narrowPages_a1_j1_28, F_widePages_a1_j1_29, F_pageCount_a1_j1_30, F_capacity_a1_j1_31, F_length_a1_26, V_np_j1_32, V_wp_j1_33, E_pg2_j1_34, G_pg2_35, hcx⟩
theorem ef_4 (m : MethodId) (x0 : Addr) (x1 : Addr) (x2 : Int32) (x3 : Int32) : entryFrame m #[(.ref x0), (.ref x1), (.int x2), (.int x3)] 4 = mkF m 0 #[.val (.ref x0), .val (.ref x1), .val (.int x2), .val (.int x3)] [] := by first | (simp [entryFrame, mkF, argsToLocals, Value.category]; done) | rfl
abbrev Dc4 (i : Nat) (c : Instr) (k : Nat) : Prop := decode prog_89_method_4_code i = .ok (c, k)
theorem d4_0 : Dc4 0 (.aload_n 0) 1 := by decide +kernel
theorem d4_1 : Dc4 1 (.aload_n 1) 1 := by decide +kernel
theorem d4_2 : Dc4 2 (.aconst_null) 1 := by decide +kernel
theorem d4_3 : Dc4 3 (.iload_n 2) 1 := by decide +kernel
theorem d4_4 : Dc4 4 (.iload_n 3) 1 := by decide +kernel
theorem d4_5 : Dc4 5 (.invokevirtual 33) 3 := by decide +kernel
theorem pd___CLjava_lang_String_II_V : parseMethodDescriptor "([CLjava/lang/String;II)V" = some ⟨[(.array .char), (.object "java/lang/String"), .int, .int], none⟩ := by decide +kernel
theorem d4_8 : Dc4 8 (.return_) 1 := by decide +kernel
def Q_apcNN (Z : State) (a1 : Addr) (x : Addr) (p1 : Int32) (np : Addr) (wp : Addr) (pg : Addr) (kn : ClassId) (kw : ClassId) (kp : ClassId) (cap : Int32) (len : Int32) (kx : ClassId) (u0 : Int32) (u1 : Int32) (u2 : Int32) (cs : Int32) (fw : Value) (h0 : Heap) (n0 : Nat) (v : Option Value) (h : Heap) (L : List Loc) : Prop := v = none ∧ Fr n0 L ∧ ∃ (pgr : Addr) (kpr : ClassId) (cxr : Int32), Keep h0 h [a1, np, wp, pg] ∧ (pgr = pg ∨ h0.size ≤ pgr) ∧ Exa Z h a1 cN0 ∧ Fld Z h a1 cN0 "narrowPages" "[[B" (.ref np) ∧ Fld Z h a1 cN0 "widePages" "[[C" (.ref wp) ∧ Fld Z h a1 cN0 "pageCount" "I" (.int (1 : Int32)) ∧ Fld Z h a1 cN0 "capacity" "I" (.int cxr) ∧ Fld Z h a1 cN0 "length" "I" (.int (len + p1)) ∧ OAr Z h np kn (.array .byte) [(.ref pgr)] ∧ OAr Z h wp kw (.array .char) [.null] ∧ Exa Z h pgr "[B" ∧ OPg Z h pgr kpr .byte cxr ∧ cxr = own_cap len p1 cap
theorem rm_apcNN (l : Launch) (Z : State) (a0 : Array Value) (hw : ∀ d ∈ tables_1, d.before a0 Z = true) (ws : List Jvm.Cond) (a1 : Addr) (x : Addr) (p1 : Int32) (np : Addr) (wp : Addr) (pg : Addr) (kn : ClassId) (kw : ClassId) (kp : ClassId) (cap : Int32) (len : Int32) (kx : ClassId) (u0 : Int32) (u1 : Int32) (u2 : Int32) (cs : Int32) (fw : Value) (h0 : Heap) (n0 : Nat) (Z0 : n0 ≤ h0.size) (hST : own_ST Z cs fw) (O_0 : Old Z n0 h0) (ovn : OvrA Z kn .byte "[B") (ovw : OvrA Z kw .char "[C") (E_a1 : Exa Z h0 a1 cN0) (F_narrowPages_a1 : Fld Z h0 a1 cN0 "narrowPages" "[[B" (.ref np)) (F_widePages_a1 : Fld Z h0 a1 cN0 "widePages" "[[C" (.ref wp)) (F_pageCount_a1 : Fld Z h0 a1 cN0 "pageCount" "I" (.int (1 : Int32))) (F_capacity_a1 : Fld Z h0 a1 cN0 "capacity" "I" (.int cap)) (F_length_a1 : Fld Z h0 a1 cN0 "length" "I" (.int len)) (V_np : OAr Z h0 np kn (.array .byte) [(.ref pg)]) (V_wp : OAr Z h0 wp kw (.array .char) [.null]) (E_pg : Exa Z h0 pg "[B") (G_pg : OPg Z h0 pg kp .byte cap) (V_x : OAr Z h0 x kx .char [(.int u0), (.int u1), (.int u2)]) (g_a1 : n0 ≤ a1) (g_np : n0 ≤ np) (g_wp : n0 ≤ wp) (g_pg : n0 ≤ pg) (nd0 : OND [a1, np, wp, pg, x]) (hI : 0 ≤ cap.toInt ∧ cap.toInt ≤ 15 ∧ 0 ≤ len.toInt ∧ len.toInt ≤ 3 ∧ len.toInt ≤ cap.toInt ∧ 0 ≤ p1.toInt ∧ p1.toInt ≤ 3) (hwd : ¬ own_w u0 u1 u2 p1) (hu : own_ch u0 u1 u2) :
    oM l mN40 prog_89_method_4_code 4 none ws ({ frames := 6, cells := 2, slots := 30, locals := 190 } : Room) #[(.ref a1), (.ref x), (.int (0 : Int32)), (.int p1)] Z h0 (Q_apcNN Z a1 x p1 np wp pg kn kw kp cap len kx u0 u1 u2 cs fw h0 n0) := by
  refine MetFree.of_bodySF (plainFor_of_name pn_com_example_imprint_imprint_tree_PagedText) hisR ?_
  intro p e s m args below meth c s₁ Bd hml0 hP hK
  obtain ⟨rfl, hZ, hh⟩ := hP
  have hx := Bd.exec
  have hby := Bd.bytes
  have hml : c.maxLocals = 4 := hml0
  have hown : s.vm.findClass "com/example/imprint/imprint/tree/PagedText" = some m.cls := findClass_of_methodNamed Bd.named
  have hnm := (name_of_methodNamed Bd.named Bd.method).1
  have X0 : Stand p l e ({ frames := 6, cells := 2, slots := 30, locals := 190 } : Room) s m #[(.ref a1), (.ref x), (.int (0 : Int32)), (.int p1)] below meth c s₁ [] 0 0 := Stand.of_body Bd
  have e0 : s₁.heap = h0 := by rw [← hh, Bd.state]; rfl
  have N0 := Fr.nil n0
  obtain ⟨A0, hA0⟩ : ∃ z, z = s₁.setTop (entryFrame m #[(.ref a1), (.ref x), (.int (0 : Int32)), (.int p1)] 4) := ⟨_, rfl⟩
  have K : OGo p e below A0 s₁ (mkF m 0 #[rv a1, rv x, iv 0, iv p1] []) := fun t k => hA0 ▸ castTop (ef_4 m a1 x (0 : Int32) p1) k
  obtain ⟨cq1, qp1, qp1'⟩ := E_a1.cell
  obtain ⟨_, _, ⟨T1, L1, k1, n1⟩, -, X1, ⟨Lc1, hQ1, l1, y1, z1⟩, st1⟩ := X0.privateBack hx (y := mN39) hown (mvT hZ (ow hw 34 rfl)) (mvT hZ (ow hw 35 rfl)) (own_selp hZ (ow hw 2 rfl) (ow hw 36 rfl) (ow hw 35 rfl)) (Cond.privateMethod_at (mvP hZ (ow hw 36 rfl) (args := #[]))) (mvT hZ (ow hw 37 rfl)) (by decide) (backOf (W := 0) (rm_afcNN l Z a0 hw [] a1 x p1 np wp pg kn kw kp cap len kx u0 u1 u2 cs fw h0 n0 Z0 hST O_0 ovn ovw E_a1 F_narrowPages_a1 F_widePages_a1 F_pageCount_a1 F_capacity_a1 F_length_a1 V_np V_wp E_pg G_pg V_x g_a1 g_np g_wp g_pg nd0 hI hwd hu) hZ (ow hw 37 rfl) (ow hw 3 rfl) (by decide) (by decide)) (g := (mkF m 5 #[rv a1, rv x, iv 0, iv p1] [(.int p1), (.int 0), .null, (.ref x), (.ref a1)])) rfl (by rw [hml]; rfl) (Steps.refl _) (a := a1) (by rw [e0]; exact qp1) qp1' (argsL := [(.ref x), .null, (.int (0 : Int32)), (.int p1)]) (rest := []) (lenOf pd___CLjava_lang_String_II_V rfl) rfl (by show 2 * 0 + _ ≤ _; exact Nat.le_of_eq rfl) (hb hby d4_5) (fun _ _ => ⟨rfl, e0, (by decide : 0 + 2 ≤ _), (by decide : 0 + 30 ≤ _)⟩)
  dsimp only [Pt.U, Pt.locs, Pt.cells, Pt.slots] at X1 l1 y1 z1 st1 hQ1
  subst l1 y1 z1
  obtain ⟨hp1, e1⟩ : ∃ z, T1.heap = z := ⟨_, rfl⟩
  rw [e1] at hQ1
  obtain ⟨rfl, Nq1, pgr_1, kpr_1, cxr_1, K1, P1_0, P1_1, P1_2, P1_3, P1_4, P1_5, P1_6, P1_7, P1_8, P1_9, P1_10, P1_11⟩ := hQ1
  have ne_a1_pgr_1 : a1 ≠ pgr_1 := own_orne P1_0 (own_pw nd0 0 3 (by decide) rfl rfl) E_a1.lt
  have ne_x_pgr_1 : x ≠ pgr_1 := own_orne P1_0 (Ne.symm (own_pw nd0 3 4 (by decide) rfl rfl)) V_x.lt
  have ne_np_pgr_1 : np ≠ pgr_1 := own_orne P1_0 (own_pw nd0 1 3 (by decide) rfl rfl) V_np.lt
  have ne_wp_pgr_1 : wp ≠ pgr_1 := own_orne P1_0 (own_pw nd0 2 3 (by decide) rfl rfl) V_wp.lt
  have g_pgr_1 : n0 ≤ pgr_1 := own_orge P1_0 g_pg Z0
  have or_pgr_1 : pgr_1 = pg ∨ h0.size ≤ pgr_1 := own_oror P1_0 (Keep.refl h0 [a1, np, wp, pg]).1
  have Z1 : n0 ≤ hp1.size := Nat.le_trans Z0 K1.1
  have Kp1 : Keep h0 hp1 [a1, np, wp, pg] := (Keep.refl h0 [a1, np, wp, pg]).trans K1 (allS (Or.inl (List.mem_of_getElem? (i := 0) rfl)) (allS (Or.inl (List.mem_of_getElem? (i := 1) rfl)) (allS (Or.inl (List.mem_of_getElem? (i := 2) rfl)) (allS (Or.inl (List.mem_of_getElem? (i := 3) rfl)) all0))))
  have N1 := Fr.app N0 Nq1
  replace K : OGo p e below A0 T1 (mkF m 8 #[rv a1, rv x, iv 0, iv p1] []) := fun t k => K t (XS.aloadN X0.here hx rfl (hb hby d4_0) rfl rfl (XS.aloadN X0.here hx rfl (hb hby d4_1) rfl rfl (XS.aconstNull X0.here hx rfl (hb hby d4_2) (XS.iloadN X0.here hx rfl (hb hby d4_3) rfl (XS.iloadN X0.here hx rfl (hb hby d4_4) rfl (st1.trans k))))))
  obtain ⟨fs, hr, hrun, hended, hW, hsame⟩ := X1.leave (v := none) (fun _ => rfl)
  subst hA0
  refine ⟨_, _, K _ (X1.returnOut hx Bd.returns (hb hby d4_8) hr), hrun, hended, _, _, rfl, ?_, ⟨_, rfl⟩, hW, hsame.mono (by decide) (by decide)⟩
  show Q_apcNN Z a1 x p1 np wp pg kn kw kp cap len kx u0 u1 u2 cs fw h0 n0 _ T1.heap _
  rw [e1]
  exact ⟨rfl, N1, pgr_1, kpr_1, cxr_1, Kp1, or_pgr_1, P1_1, P1_2, P1_3, P1_4, P1_5, P1_6, P1_7, P1_8, P1_9, P1_10, P1_11⟩
def Q_apcNW (Z : State) (a1 : Addr) (x : Addr) (p1 : Int32) (np : Addr) (wp : Addr) (pg : Addr) (kn : ClassId) (kw : ClassId) (kp : ClassId) (cap : Int32) (len : Int32) (kx : ClassId) (u0 : Int32) (u1 : Int32) (u2 : Int32) (cs : Int32) (fw : Value) (h0 : Heap) (n0 : Nat) (v : Option Value) (h : Heap) (L : List Loc) : Prop := v = none ∧ Fr n0 L ∧ ∃ (pgr : Addr) (kpr : ClassId) (cxr : Int32), Keep h0 h [a1, np, wp, pg] ∧ (pgr = pg ∨ h0.size ≤ pgr) ∧ Exa Z h a1 cN0 ∧ Fld Z h a1 cN0 "narrowPages" "[[B" (.ref np) ∧ Fld Z h a1 cN0 "widePages" "[[C" (.ref wp) ∧ Fld Z h a1 cN0 "pageCount" "I" (.int (1 : Int32)) ∧ Fld Z h a1 cN0 "capacity" "I" (.int cxr) ∧ Fld Z h a1 cN0 "length" "I" (.int (len + p1)) ∧ OAr Z h np kn (.array .byte) [.null] ∧ OAr Z h wp kw (.array .char) [(.ref pgr)] ∧ Exa Z h pgr "[C" ∧ OPg Z h pgr kpr .char cxr ∧ cxr = own_cap len p1 cap
theorem rm_apcNW (l : Launch) (Z : State) (a0 : Array Value) (hw : ∀ d ∈ tables_1, d.before a0 Z = true) (ws : List Jvm.Cond) (a1 : Addr) (x : Addr) (p1 : Int32) (np : Addr) (wp : Addr) (pg : Addr) (kn : ClassId) (kw : ClassId) (kp : ClassId) (cap : Int32) (len : Int32) (kx : ClassId) (u0 : Int32) (u1 : Int32) (u2 : Int32) (cs : Int32) (fw : Value) (h0 : Heap) (n0 : Nat) (Z0 : n0 ≤ h0.size) (hST : own_ST Z cs fw) (O_0 : Old Z n0 h0) (ovn : OvrA Z kn .byte "[B") (ovw : OvrA Z kw .char "[C") (E_a1 : Exa Z h0 a1 cN0) (F_narrowPages_a1 : Fld Z h0 a1 cN0 "narrowPages" "[[B" (.ref np)) (F_widePages_a1 : Fld Z h0 a1 cN0 "widePages" "[[C" (.ref wp)) (F_pageCount_a1 : Fld Z h0 a1 cN0 "pageCount" "I" (.int (1 : Int32))) (F_capacity_a1 : Fld Z h0 a1 cN0 "capacity" "I" (.int cap)) (F_length_a1 : Fld Z h0 a1 cN0 "length" "I" (.int len)) (V_np : OAr Z h0 np kn (.array .byte) [(.ref pg)]) (V_wp : OAr Z h0 wp kw (.array .char) [.null]) (E_pg : Exa Z h0 pg "[B") (G_pg : OPg Z h0 pg kp .byte cap) (V_x : OAr Z h0 x kx .char [(.int u0), (.int u1), (.int u2)]) (g_a1 : n0 ≤ a1) (g_np : n0 ≤ np) (g_wp : n0 ≤ wp) (g_pg : n0 ≤ pg) (nd0 : OND [a1, np, wp, pg, x]) (hI : 0 ≤ cap.toInt ∧ cap.toInt ≤ 15 ∧ 0 ≤ len.toInt ∧ len.toInt ≤ 3 ∧ len.toInt ≤ cap.toInt ∧ 0 ≤ p1.toInt ∧ p1.toInt ≤ 3) (hwd : own_w u0 u1 u2 p1) (hu : own_ch u0 u1 u2) :
    oM l mN40 prog_89_method_4_code 4 none ws ({ frames := 6, cells := 2, slots := 30, locals := 190 } : Room) #[(.ref a1), (.ref x), (.int (0 : Int32)), (.int p1)] Z h0 (Q_apcNW Z a1 x p1 np wp pg kn kw kp cap len kx u0 u1 u2 cs fw h0 n0) := by
  refine MetFree.of_bodySF (plainFor_of_name pn_com_example_imprint_imprint_tree_PagedText) hisR ?_
  intro p e s m args below meth c s₁ Bd hml0 hP hK
  obtain ⟨rfl, hZ, hh⟩ := hP
  have hx := Bd.exec
  have hby := Bd.bytes
  have hml : c.maxLocals = 4 := hml0
  have hown : s.vm.findClass "com/example/imprint/imprint/tree/PagedText" = some m.cls := findClass_of_methodNamed Bd.named
  have hnm := (name_of_methodNamed Bd.named Bd.method).1
  have X0 : Stand p l e ({ frames := 6, cells := 2, slots := 30, locals := 190 } : Room) s m #[(.ref a1), (.ref x), (.int (0 : Int32)), (.int p1)] below meth c s₁ [] 0 0 := Stand.of_body Bd
  have e0 : s₁.heap = h0 := by rw [← hh, Bd.state]; rfl
  have N0 := Fr.nil n0
  obtain ⟨A0, hA0⟩ : ∃ z, z = s₁.setTop (entryFrame m #[(.ref a1), (.ref x), (.int (0 : Int32)), (.int p1)] 4) := ⟨_, rfl⟩
  have K : OGo p e below A0 s₁ (mkF m 0 #[rv a1, rv x, iv 0, iv p1] []) := fun t k => hA0 ▸ castTop (ef_4 m a1 x (0 : Int32) p1) k
  obtain ⟨cq1, qp1, qp1'⟩ := E_a1.cell
  obtain ⟨_, _, ⟨T1, L1, k1, n1⟩, -, X1, ⟨Lc1, hQ1, l1, y1, z1⟩, st1⟩ := X0.privateBack hx (y := mN39) hown (mvT hZ (ow hw 34 rfl)) (mvT hZ (ow hw 35 rfl)) (own_selp hZ (ow hw 2 rfl) (ow hw 36 rfl) (ow hw 35 rfl)) (Cond.privateMethod_at (mvP hZ (ow hw 36 rfl) (args := #[]))) (mvT hZ (ow hw 37 rfl)) (by decide) (backOf (W := 0) (rm_afcNW l Z a0 hw [] a1 x p1 np wp pg kn kw kp cap len kx u0 u1 u2 cs fw h0 n0 Z0 hST O_0 ovn ovw E_a1 F_narrowPages_a1 F_widePages_a1 F_pageCount_a1 F_capacity_a1 F_length_a1 V_np V_wp E_pg G_pg V_x g_a1 g_np g_wp g_pg nd0 hI hwd hu) hZ (ow hw 37 rfl) (ow hw 3 rfl) (by decide) (by decide)) (g := (mkF m 5 #[rv a1, rv x, iv 0, iv p1] [(.int p1), (.int 0), .null, (.ref x), (.ref a1)])) rfl (by rw [hml]; rfl) (Steps.refl _) (a := a1) (by rw [e0]; exact qp1) qp1' (argsL := [(.ref x), .null, (.int (0 : Int32)), (.int p1)]) (rest := []) (lenOf pd___CLjava_lang_String_II_V rfl) rfl (by show 2 * 0 + _ ≤ _; exact Nat.le_of_eq rfl) (hb hby d4_5) (fun _ _ => ⟨rfl, e0, (by decide : 0 + 2 ≤ _), (by decide : 0 + 30 ≤ _)⟩)
  dsimp only [Pt.U, Pt.locs, Pt.cells, Pt.slots] at X1 l1 y1 z1 st1 hQ1
  subst l1 y1 z1
  obtain ⟨hp1, e1⟩ : ∃ z, T1.heap = z := ⟨_, rfl⟩
  rw [e1] at hQ1
  obtain ⟨rfl, Nq1, pgr_1, kpr_1, cxr_1, K1, P1_0, P1_1, P1_2, P1_3, P1_4, P1_5, P1_6, P1_7, P1_8, P1_9, P1_10, P1_11⟩ := hQ1
  have ne_a1_pgr_1 : a1 ≠ pgr_1 := own_orne P1_0 (own_pw nd0 0 3 (by decide) rfl rfl) E_a1.lt
  have ne_x_pgr_1 : x ≠ pgr_1 := own_orne P1_0 (Ne.symm (own_pw nd0 3 4 (by decide) rfl rfl)) V_x.lt
  have ne_np_pgr_1 : np ≠ pgr_1 := own_orne P1_0 (own_pw nd0 1 3 (by decide) rfl rfl) V_np.lt
  have ne_wp_pgr_1 : wp ≠ pgr_1 := own_orne P1_0 (own_pw nd0 2 3 (by decide) rfl rfl) V_wp.lt
  have g_pgr_1 : n0 ≤ pgr_1 := own_orge P1_0 g_pg Z0
  have or_pgr_1 : pgr_1 = pg ∨ h0.size ≤ pgr_1 := own_oror P1_0 (Keep.refl h0 [a1, np, wp, pg]).1
  have Z1 : n0 ≤ hp1.size := Nat.le_trans Z0 K1.1
  have Kp1 : Keep h0 hp1 [a1, np, wp, pg] := (Keep.refl h0 [a1, np, wp, pg]).trans K1 (allS (Or.inl (List.mem_of_getElem? (i := 0) rfl)) (allS (Or.inl (List.mem_of_getElem? (i := 1) rfl)) (allS (Or.inl (List.mem_of_getElem? (i := 2) rfl)) (allS (Or.inl (List.mem_of_getElem? (i := 3) rfl)) all0))))
  have N1 := Fr.app N0 Nq1
  replace K : OGo p e below A0 T1 (mkF m 8 #[rv a1, rv x, iv 0, iv p1] []) := fun t k => K t (XS.aloadN X0.here hx rfl (hb hby d4_0) rfl rfl (XS.aloadN X0.here hx rfl (hb hby d4_1) rfl rfl (XS.aconstNull X0.here hx rfl (hb hby d4_2) (XS.iloadN X0.here hx rfl (hb hby d4_3) rfl (XS.iloadN X0.here hx rfl (hb hby d4_4) rfl (st1.trans k))))))
  obtain ⟨fs, hr, hrun, hended, hW, hsame⟩ := X1.leave (v := none) (fun _ => rfl)
  subst hA0
  refine ⟨_, _, K _ (X1.returnOut hx Bd.returns (hb hby d4_8) hr), hrun, hended, _, _, rfl, ?_, ⟨_, rfl⟩, hW, hsame.mono (by decide) (by decide)⟩
  show Q_apcNW Z a1 x p1 np wp pg kn kw kp cap len kx u0 u1 u2 cs fw h0 n0 _ T1.heap _
  rw [e1]
  exact ⟨rfl, N1, pgr_1, kpr_1, cxr_1, Kp1, or_pgr_1, P1_1, P1_2, P1_3, P1_4, P1_5, P1_6, P1_7, P1_8, P1_9, P1_10, P1_11⟩
def Q_apcWW (Z : State) (a1 : Addr) (x : Addr) (p1 : Int32) (np : Addr) (wp : Addr) (pg : Addr) (kn : ClassId) (kw : ClassId) (kp : ClassId) (cap : Int32) (len : Int32) (kx : ClassId) (u0 : Int32) (u1 : Int32) (u2 : Int32) (cs : Int32) (fw : Value) (h0 : Heap) (n0 : Nat) (v : Option Value) (h : Heap) (L : List Loc) : Prop := v = none ∧ Fr n0 L ∧ ∃ (pgr : Addr) (kpr : ClassId) (cxr : Int32), Keep h0 h [a1, np, wp, pg] ∧ (pgr = pg ∨ h0.size ≤ pgr) ∧ Exa Z h a1 cN0 ∧ Fld Z h a1 cN0 "narrowPages" "[[B" (.ref np) ∧ Fld Z h a1 cN0 "widePages" "[[C" (.ref wp) ∧ Fld Z h a1 cN0 "pageCount" "I" (.int (1 : Int32)) ∧ Fld Z h a1 cN0 "capacity" "I" (.int cxr) ∧ Fld Z h a1 cN0 "length" "I" (.int (len + p1)) ∧ OAr Z h np kn (.array .byte) [.null] ∧ OAr Z h wp kw (.array .char) [(.ref pgr)] ∧ Exa Z h pgr "[C" ∧ OPg Z h pgr kpr .char cxr ∧ cxr = own_cap len p1 cap
theorem rm_apcWW (l : Launch) (Z : State) (a0 : Array Value) (hw : ∀ d ∈ tables_1, d.before a0 Z = true) (ws : List Jvm.Cond) (a1 : Addr) (x : Addr) (p1 : Int32) (np : Addr) (wp : Addr) (pg : Addr) (kn : ClassId) (kw : ClassId) (kp : ClassId) (cap : Int32) (len : Int32) (kx : ClassId) (u0 : Int32) (u1 : Int32) (u2 : Int32) (cs : Int32) (fw : Value) (h0 : Heap) (n0 : Nat) (Z0 : n0 ≤ h0.size) (hST : own_ST Z cs fw) (O_0 : Old Z n0 h0) (ovn : OvrA Z kn .byte "[B") (ovw : OvrA Z kw .char "[C") (E_a1 : Exa Z h0 a1 cN0) (F_narrowPages_a1 : Fld Z h0 a1 cN0 "narrowPages" "[[B" (.ref np)) (F_widePages_a1 : Fld Z h0 a1 cN0 "widePages" "[[C" (.ref wp)) (F_pageCount_a1 : Fld Z h0 a1 cN0 "pageCount" "I" (.int (1 : Int32))) (F_capacity_a1 : Fld Z h0 a1 cN0 "capacity" "I" (.int cap)) (F_length_a1 : Fld Z h0 a1 cN0 "length" "I" (.int len)) (V_np : OAr Z h0 np kn (.array .byte) [.null]) (V_wp : OAr Z h0 wp kw (.array .char) [(.ref pg)]) (E_pg : Exa Z h0 pg "[C") (G_pg : OPg Z h0 pg kp .char cap) (V_x : OAr Z h0 x kx .char [(.int u0), (.int u1), (.int u2)]) (g_a1 : n0 ≤ a1) (g_np : n0 ≤ np) (g_wp : n0 ≤ wp) (g_pg : n0 ≤ pg) (nd0 : OND [a1, np, wp, pg, x]) (hI : 0 ≤ cap.toInt ∧ cap.toInt ≤ 15 ∧ 0 ≤ len.toInt ∧ len.toInt ≤ 3 ∧ len.toInt ≤ cap.toInt ∧ 0 ≤ p1.toInt ∧ p1.toInt ≤ 3) (hu : own_ch u0 u1 u2) :
    oM l mN40 prog_89_method_4_code 4 none ws ({ frames := 6, cells := 2, slots := 30, locals := 190 } : Room) #[(.ref a1), (.ref x), (.int (0 : Int32)), (.int p1)] Z h0 (Q_apcWW Z a1 x p1 np wp pg kn kw kp cap len kx u0 u1 u2 cs fw h0 n0) := by
  refine MetFree.of_bodySF (plainFor_of_name pn_com_example_imprint_imprint_tree_PagedText) hisR ?_
  intro p e s m args below meth c s₁ Bd hml0 hP hK
  obtain ⟨rfl, hZ, hh⟩ := hP
  have hx := Bd.exec
  have hby := Bd.bytes
  have hml : c.maxLocals = 4 := hml0
  have hown : s.vm.findClass "com/example/imprint/imprint/tree/PagedText" = some m.cls := findClass_of_methodNamed Bd.named
  have hnm := (name_of_methodNamed Bd.named Bd.method).1
  have X0 : Stand p l e ({ frames := 6, cells := 2, slots := 30, locals := 190 } : Room) s m #[(.ref a1), (.ref x), (.int (0 : Int32)), (.int p1)] below meth c s₁ [] 0 0 := Stand.of_body Bd
  have e0 : s₁.heap = h0 := by rw [← hh, Bd.state]; rfl
  have N0 := Fr.nil n0
  obtain ⟨A0, hA0⟩ : ∃ z, z = s₁.setTop (entryFrame m #[(.ref a1), (.ref x), (.int (0 : Int32)), (.int p1)] 4) := ⟨_, rfl⟩
  have K : OGo p e below A0 s₁ (mkF m 0 #[rv a1, rv x, iv 0, iv p1] []) := fun t k => hA0 ▸ castTop (ef_4 m a1 x (0 : Int32) p1) k
  obtain ⟨cq1, qp1, qp1'⟩ := E_a1.cell
  obtain ⟨_, _, ⟨T1, L1, k1, n1⟩, -, X1, ⟨Lc1, hQ1, l1, y1, z1⟩, st1⟩ := X0.privateBack hx (y := mN39) hown (mvT hZ (ow hw 34 rfl)) (mvT hZ (ow hw 35 rfl)) (own_selp hZ (ow hw 2 rfl) (ow hw 36 rfl) (ow hw 35 rfl)) (Cond.privateMethod_at (mvP hZ (ow hw 36 rfl) (args := #[]))) (mvT hZ (ow hw 37 rfl)) (by decide) (backOf (W := 0) (rm_afcWW l Z a0 hw [] a1 x p1 np wp pg kn kw kp cap len kx u0 u1 u2 cs fw h0 n0 Z0 hST O_0 ovn ovw E_a1 F_narrowPages_a1 F_widePages_a1 F_pageCount_a1 F_capacity_a1 F_length_a1 V_np V_wp E_pg G_pg V_x g_a1 g_np g_wp g_pg nd0 hI hu) hZ (ow hw 37 rfl) (ow hw 3 rfl) (by decide) (by decide)) (g := (mkF m 5 #[rv a1, rv x, iv 0, iv p1] [(.int p1), (.int 0), .null, (.ref x), (.ref a1)])) rfl (by rw [hml]; rfl) (Steps.refl _) (a := a1) (by rw [e0]; exact qp1) qp1' (argsL := [(.ref x), .null, (.int (0 : Int32)), (.int p1)]) (rest := []) (lenOf pd___CLjava_lang_String_II_V rfl) rfl (by show 2 * 0 + _ ≤ _; exact Nat.le_of_eq rfl) (hb hby d4_5) (fun _ _ => ⟨rfl, e0, (by decide : 0 + 2 ≤ _), (by decide : 0 + 30 ≤ _)⟩)
  dsimp only [Pt.U, Pt.locs, Pt.cells, Pt.slots] at X1 l1 y1 z1 st1 hQ1
  subst l1 y1 z1
  obtain ⟨hp1, e1⟩ : ∃ z, T1.heap = z := ⟨_, rfl⟩
  rw [e1] at hQ1
  obtain ⟨rfl, Nq1, pgr_1, kpr_1, cxr_1, K1, P1_0, P1_1, P1_2, P1_3, P1_4, P1_5, P1_6, P1_7, P1_8, P1_9, P1_10, P1_11⟩ := hQ1
  have ne_a1_pgr_1 : a1 ≠ pgr_1 := own_orne P1_0 (own_pw nd0 0 3 (by decide) rfl rfl) E_a1.lt
  have ne_x_pgr_1 : x ≠ pgr_1 := own_orne P1_0 (Ne.symm (own_pw nd0 3 4 (by decide) rfl rfl)) V_x.lt
  have ne_np_pgr_1 : np ≠ pgr_1 := own_orne P1_0 (own_pw nd0 1 3 (by decide) rfl rfl) V_np.lt
  have ne_wp_pgr_1 : wp ≠ pgr_1 := own_orne P1_0 (own_pw nd0 2 3 (by decide) rfl rfl) V_wp.lt
  have g_pgr_1 : n0 ≤ pgr_1 := own_orge P1_0 g_pg Z0
  have or_pgr_1 : pgr_1 = pg ∨ h0.size ≤ pgr_1 := own_oror P1_0 (Keep.refl h0 [a1, np, wp, pg]).1
  have Z1 : n0 ≤ hp1.size := Nat.le_trans Z0 K1.1
  have Kp1 : Keep h0 hp1 [a1, np, wp, pg] := (Keep.refl h0 [a1, np, wp, pg]).trans K1 (allS (Or.inl (List.mem_of_getElem? (i := 0) rfl)) (allS (Or.inl (List.mem_of_getElem? (i := 1) rfl)) (allS (Or.inl (List.mem_of_getElem? (i := 2) rfl)) (allS (Or.inl (List.mem_of_getElem? (i := 3) rfl)) all0))))
  have N1 := Fr.app N0 Nq1
  replace K : OGo p e below A0 T1 (mkF m 8 #[rv a1, rv x, iv 0, iv p1] []) := fun t k => K t (XS.aloadN X0.here hx rfl (hb hby d4_0) rfl rfl (XS.aloadN X0.here hx rfl (hb hby d4_1) rfl rfl (XS.aconstNull X0.here hx rfl (hb hby d4_2) (XS.iloadN X0.here hx rfl (hb hby d4_3) rfl (XS.iloadN X0.here hx rfl (hb hby d4_4) rfl (st1.trans k))))))
  obtain ⟨fs, hr, hrun, hended, hW, hsame⟩ := X1.leave (v := none) (fun _ => rfl)
  subst hA0
  refine ⟨_, _, K _ (X1.returnOut hx Bd.returns (hb hby d4_8) hr), hrun, hended, _, _, rfl, ?_, ⟨_, rfl⟩, hW, hsame.mono (by decide) (by decide)⟩
  show Q_apcWW Z a1 x p1 np wp pg kn kw kp cap len kx u0 u1 u2 cs fw h0 n0 _ T1.heap _
  rw [e1]
  exact ⟨rfl, N1, pgr_1, kpr_1, cxr_1, Kp1, or_pgr_1, P1_1, P1_2, P1_3, P1_4, P1_5, P1_6, P1_7, P1_8, P1_9, P1_10, P1_11⟩
theorem ef_17 (m : MethodId) (x0 : Addr) (x1 : Addr) : entryFrame m #[(.ref x0), (.ref x1)] 2 = mkF m 0 #[.val (.ref x0), .val (.ref x1)] [] := by first | (simp [entryFrame, mkF, argsToLocals, Value.category]; done) | rfl
abbrev Dc17 (i : Nat) (c : Instr) (k : Nat) : Prop := decode prog_89_method_5_code i = .ok (c, k)
theorem d17_0 : Dc17 0 (.aload_n 0) 1 := by decide +kernel
theorem d17_1 : Dc17 1 (.aconst_null) 1 := by decide +kernel
theorem d17_2 : Dc17 2 (.aload_n 1) 1 := by decide +kernel
theorem d17_3 : Dc17 3 (.iconst 0) 1 := by decide +kernel
theorem d17_4 : Dc17 4 (.aload_n 1) 1 := by decide +kernel
theorem d17_5 : Dc17 5 (.invokevirtual 37) 3 := by decide +kernel
theorem d17_8 : Dc17 8 (.invokevirtual 33) 3 := by decide +kernel
theorem d17_11 : Dc17 11 (.return_) 1 := by decide +kernel
def Q_apsNN (Z : State) (a1 : Addr) (s1 : Addr) (np : Addr) (wp : Addr) (pg : Addr) (kn : ClassId) (kw : ClassId) (kp : ClassId) (cap : Int32) (len : Int32) (va : Addr) (kv : ClassId) (cs : Int32) (fw : Value) (h0 : Heap) (n0 : Nat) (v : Option Value) (h : Heap) (L : List Loc) : Prop := v = none ∧ Fr n0 L ∧ ∃ (pgr : Addr) (kpr : ClassId) (cxr : Int32), Keep h0 h [a1, np, wp, pg] ∧ (pgr = pg ∨ h0.size ≤ pgr) ∧ Exa Z h a1 cN0 ∧ Fld Z h a1 cN0 "narrowPages" "[[B" (.ref np) ∧ Fld Z h a1 cN0 "widePages" "[[C" (.ref wp) ∧ Fld Z h a1 cN0 "pageCount" "I" (.int (1 : Int32)) ∧ Fld Z h a1 cN0 "capacity" "I" (.int cxr) ∧ Fld Z h a1 cN0 "length" "I" (.int (len + (3 : Int32))) ∧ OAr Z h np kn (.array .byte) [(.ref pgr)] ∧ OAr Z h wp kw (.array .char) [.null] ∧ Exa Z h pgr "[B" ∧ OPg Z h pgr kpr .byte cxr ∧ cxr = own_cap len (3 : Int32) cap
theorem rm_apsNN (l : Launch) (Z : State) (a0 : Array Value) (hw : ∀ d ∈ tables_1, d.before a0 Z = true) (ws : List Jvm.Cond) (a1 : Addr) (s1 : Addr) (np : Addr) (wp : Addr) (pg : Addr) (kn : ClassId) (kw : ClassId) (kp : ClassId) (cap : Int32) (len : Int32) (va : Addr) (kv : ClassId) (cs : Int32) (fw : Value) (h0 : Heap) (n0 : Nat) (Z0 : n0 ≤ h0.size) (hST : own_ST Z cs fw) (O_0 : Old Z n0 h0) (ovn : OvrA Z kn .byte "[B") (ovw : OvrA Z kw .char "[C") (E_a1 : Exa Z h0 a1 cN0) (F_narrowPages_a1 : Fld Z h0 a1 cN0 "narrowPages" "[[B" (.ref np)) (F_widePages_a1 : Fld Z h0 a1 cN0 "widePages" "[[C" (.ref wp)) (F_pageCount_a1 : Fld Z h0 a1 cN0 "pageCount" "I" (.int (1 : Int32))) (F_capacity_a1 : Fld Z h0 a1 cN0 "capacity" "I" (.int cap)) (F_length_a1 : Fld Z h0 a1 cN0 "length" "I" (.int len)) (V_np : OAr Z h0 np kn (.array .byte) [(.ref pg)]) (V_wp : OAr Z h0 wp kw (.array .char) [.null]) (E_pg : Exa Z h0 pg "[B") (G_pg : OPg Z h0 pg kp .byte cap) (F_value_s1 : Fld Z h0 s1 cN1 "value" "[B" (.ref va)) (F_coder_s1 : Fld Z h0 s1 cN1 "coder" "B" (.int (0 : Int32))) (G_va : OPg Z h0 va kv .byte (3 : Int32)) (E_s1 : Exa Z h0 s1 cN1) (g_a1 : n0 ≤ a1) (g_np : n0 ≤ np) (g_wp : n0 ≤ wp) (g_pg : n0 ≤ pg) (nd0 : OND [a1, np, wp, pg, s1, va]) (hI : 0 ≤ cap.toInt ∧ cap.toInt ≤ 15 ∧ 0 ≤ len.toInt ∧ len.toInt ≤ 3 ∧ len.toInt ≤ cap.toInt ∧ 0 ≤ (3 : Int32).toInt ∧ (3 : Int32).toInt ≤ 3) :
    oM l mN41 prog_89_method_5_code 2 none ws ({ frames := 6, cells := 2, slots := 30, locals := 190 } : Room) #[(.ref a1), (.ref s1)] Z h0 (Q_apsNN Z a1 s1 np wp pg kn kw kp cap len va kv cs fw h0 n0) := by
  refine MetFree.of_bodySF (plainFor_of_name pn_com_example_imprint_imprint_tree_PagedText) hisR ?_
  intro p e s m args below meth c s₁ Bd hml0 hP hK
  obtain ⟨rfl, hZ, hh⟩ := hP
  have hx := Bd.exec
  have hby := Bd.bytes
  have hml : c.maxLocals = 2 := hml0
  have hown : s.vm.findClass "com/example/imprint/imprint/tree/PagedText" = some m.cls := findClass_of_methodNamed Bd.named
  have hnm := (name_of_methodNamed Bd.named Bd.method).1
  have X0 : Stand p l e ({ frames := 6, cells := 2, slots := 30, locals := 190 } : Room) s m #[(.ref a1), (.ref s1)] below meth c s₁ [] 0 0 := Stand.of_body Bd
  have e0 : s₁.heap = h0 := by rw [← hh, Bd.state]; rfl
  have N0 := Fr.nil n0
  obtain ⟨A0, hA0⟩ : ∃ z, z = s₁.setTop (entryFrame m #[(.ref a1), (.ref s1)] 2) := ⟨_, rfl⟩
  have K : OGo p e below A0 s₁ (mkF m 0 #[rv a1, rv s1] []) := fun t k => hA0 ▸ castTop (ef_17 m a1 s1) k
  obtain ⟨cq1, kq1, qv1a, qv1b, qv1c⟩ := isOf hZ e0 E_s1
  obtain ⟨_, _, ⟨T1, L1, k1, n1⟩, -, X1, ⟨Lc1, hQ1, l1, y1, z1⟩, st1⟩ := X0.virtualBack hx (y := mN13) (z := mN13) hown (mvT hZ (ow hw 106 rfl)) (mvT hZ (ow hw 107 rfl)) (notFace_of_selects (args := #[]) (mvT hZ (ow hw 109 rfl))) (mvT hZ (ow hw 109 rfl)) (mvT hZ (ow hw 108 rfl)) (by decide) (backOf (W := 4) (rm_slenL l Z a0 hw [] s1 va kv cs fw h0 n0 Z0 hST O_0 F_value_s1 F_coder_s1 G_va E_s1) hZ (ow hw 110 rfl) (ow hw 77 rfl) (by decide) (by decide)) qv1a qv1c (g := (mkF m 5 #[rv a1, rv s1] [(.ref s1), (.int 0), (.ref s1), .null, (.ref a1)])) rfl (by rw [hml]; rfl) (Steps.refl _) (argsL := []) (rest := [(.int (0 : Int32)), (.ref s1), .null, (.ref a1)]) (lenOf pd___I rfl) rfl (by show 2 * 0 + _ ≤ _; exact Nat.le_of_eq rfl) (hb hby d17_5) (fun _ _ => ⟨rfl, e0, (by decide : 0 + 0 ≤ _), (by decide : 0 + 0 ≤ _)⟩)
  dsimp only [Pt.U, Pt.locs, Pt.cells, Pt.slots] at X1 l1 y1 z1 st1 hQ1
  subst l1 y1 z1
  obtain ⟨rfl, Nq1, e1⟩ := hQ1
  have N1 := Fr.app N0 Nq1
  obtain ⟨cq2, qp2, qp2'⟩ := E_a1.cell
  obtain ⟨_, _, ⟨T2, L2, k2, n2⟩, -, X2, ⟨Lc2, hQ2, l2, y2, z2⟩, st2⟩ := X1.privateBack hx (y := mN39) hown (mvT hZ (ow hw 34 rfl)) (mvT hZ (ow hw 35 rfl)) (own_selp hZ (ow hw 2 rfl) (ow hw 36 rfl) (ow hw 35 rfl)) (Cond.privateMethod_at (mvP hZ (ow hw 36 rfl) (args := #[]))) (mvT hZ (ow hw 37 rfl)) (by decide) (backOf (W := 0) (rm_afsNN l Z a0 hw [] a1 s1 np wp pg kn kw kp cap len va kv cs fw h0 n0 Z0 hST O_0 ovn ovw E_a1 F_narrowPages_a1 F_widePages_a1 F_pageCount_a1 F_capacity_a1 F_length_a1 V_np V_wp E_pg G_pg F_value_s1 F_coder_s1 G_va E_s1 g_a1 g_np g_wp g_pg nd0 hI) hZ (ow hw 37 rfl) (ow hw 3 rfl) (by decide) (by decide)) (g := (mkF m 8 #[rv a1, rv s1] [(.int 3), (.int 0), (.ref s1), .null, (.ref a1)])) rfl (by rw [hml]; rfl) (Steps.refl _) (a := a1) (by rw [e1]; exact qp2) qp2' (argsL := [.null, (.ref s1), (.int (0 : Int32)), (.int (3 : Int32))]) (rest := []) (lenOf pd___CLjava_lang_String_II_V rfl) rfl (by show 2 * 0 + _ ≤ _; exact Nat.le_of_eq rfl) (hb hby d17_8) (fun _ _ => ⟨rfl, e1, (by decide : 0 + 2 ≤ _), (by decide : 0 + 30 ≤ _)⟩)
  dsimp only [Pt.U, Pt.locs, Pt.cells, Pt.slots] at X2 l2 y2 z2 st2 hQ2
  subst l2 y2 z2
  obtain ⟨hp2, e2⟩ : ∃ z, T2.heap = z := ⟨_, rfl⟩
  rw [e2] at hQ2
  obtain ⟨rfl, Nq2, pgr_2, kpr_2, cxr_2, K2, P2_0, P2_1, P2_2, P2_3, P2_4, P2_5, P2_6, P2_7, P2_8, P2_9, P2_10, P2_11⟩ := hQ2
  have ne_a1_pgr_2 : a1 ≠ pgr_2 := own_orne P2_0 (own_pw nd0 0 3 (by decide) rfl rfl) E_a1.lt
  have ne_s1_pgr_2 : s1 ≠ pgr_2 := own_orne P2_0 (Ne.symm (own_pw nd0 3 4 (by decide) rfl rfl)) F_value_s1.lt
  have ne_np_pgr_2 : np ≠ pgr_2 := own_orne P2_0 (own_pw nd0 1 3 (by decide) rfl rfl) V_np.lt
  have ne_wp_pgr_2 : wp ≠ pgr_2 := own_orne P2_0 (own_pw nd0 2 3 (by decide) rfl rfl) V_wp.lt
  have ne_va_pgr_2 : va ≠ pgr_2 := own_orne P2_0 (Ne.symm (own_pw nd0 3 5 (by decide) rfl rfl)) G_va.lt
  have g_pgr_2 : n0 ≤ pgr_2 := own_orge P2_0 g_pg Z0
  have or_pgr_2 : pgr_2 = pg ∨ h0.size ≤ pgr_2 := own_oror P2_0 (Keep.refl h0 [a1, np, wp, pg]).1
  have Z2 : n0 ≤ hp2.size := Nat.le_trans Z0 K2.1
  have Kp2 : Keep h0 hp2 [a1, np, wp, pg] := (Keep.refl h0 [a1, np, wp, pg]).trans K2 (allS (Or.inl (List.mem_of_getElem? (i := 0) rfl)) (allS (Or.inl (List.mem_of_getElem? (i := 1) rfl)) (allS (Or.inl (List.mem_of_getElem? (i := 2) rfl)) (allS (Or.inl (List.mem_of_getElem? (i := 3) rfl)) all0))))
  have N2 := Fr.app N1 Nq2
  replace K : OGo p e below A0 T2 (mkF m 11 #[rv a1, rv s1] []) := fun t k => K t (XS.aloadN X0.here hx rfl (hb hby d17_0) rfl rfl (XS.aconstNull X0.here hx rfl (hb hby d17_1) (XS.aloadN X0.here hx rfl (hb hby d17_2) rfl rfl (XS.iconst X0.here hx rfl (hb hby d17_3) (XS.aloadN X0.here hx rfl (hb hby d17_4) rfl rfl (st1.trans (st2.trans k)))))))
  obtain ⟨fs, hr, hrun, hended, hW, hsame⟩ := X2.leave (v := none) (fun _ => rfl)
  subst hA0
  refine ⟨_, _, K _ (X2.returnOut hx Bd.returns (hb hby d17_11) hr), hrun, hended, _, _, rfl, ?_, ⟨_, rfl⟩, hW, hsame.mono (by decide) (by decide)⟩
  show Q_apsNN Z a1 s1 np wp pg kn kw kp cap len va kv cs fw h0 n0 _ T2.heap _
  rw [e2]
  exact ⟨rfl, N2, pgr_2, kpr_2, cxr_2, Kp2, or_pgr_2, P2_1, P2_2, P2_3, P2_4, P2_5, P2_6, P2_7, P2_8, P2_9, P2_10, P2_11⟩
def Q_apsNW (Z : State) (a1 : Addr) (s1 : Addr) (np : Addr) (wp : Addr) (pg : Addr) (kn : ClassId) (kw : ClassId) (kp : ClassId) (cap : Int32) (len : Int32) (va : Addr) (kv : ClassId) (u0 : Int32) (u1 : Int32) (u2 : Int32) (cs : Int32) (fw : Value) (h0 : Heap) (n0 : Nat) (v : Option Value) (h : Heap) (L : List Loc) : Prop := v = none ∧ Fr n0 L ∧ ∃ (pgr : Addr) (kpr : ClassId) (cxr : Int32), Keep h0 h [a1, np, wp, pg] ∧ (pgr = pg ∨ h0.size ≤ pgr) ∧ Exa Z h a1 cN0 ∧ Fld Z h a1 cN0 "narrowPages" "[[B" (.ref np) ∧ Fld Z h a1 cN0 "widePages" "[[C" (.ref wp) ∧ Fld Z h a1 cN0 "pageCount" "I" (.int (1 : Int32)) ∧ Fld Z h a1 cN0 "capacity" "I" (.int cxr) ∧ Fld Z h a1 cN0 "length" "I" (.int (len + (3 : Int32))) ∧ OAr Z h np kn (.array .byte) [.null] ∧ OAr Z h wp kw (.array .char) [(.ref pgr)] ∧ Exa Z h pgr "[C" ∧ OPg Z h pgr kpr .char cxr ∧ cxr = own_cap len (3 : Int32) cap
theorem rm_apsNW (l : Launch) (Z : State) (a0 : Array Value) (hw : ∀ d ∈ tables_1, d.before a0 Z = true) (ws : List Jvm.Cond) (a1 : Addr) (s1 : Addr) (np : Addr) (wp : Addr) (pg : Addr) (kn : ClassId) (kw : ClassId) (kp : ClassId) (cap : Int32) (len : Int32) (va : Addr) (kv : ClassId) (u0 : Int32) (u1 : Int32) (u2 : Int32) (cs : Int32) (fw : Value) (h0 : Heap) (n0 : Nat) (Z0 : n0 ≤ h0.size) (hST : own_ST Z cs fw) (O_0 : Old Z n0 h0) (ovn : OvrA Z kn .byte "[B") (ovw : OvrA Z kw .char "[C") (E_a1 : Exa Z h0 a1 cN0) (F_narrowPages_a1 : Fld Z h0 a1 cN0 "narrowPages" "[[B" (.ref np)) (F_widePages_a1 : Fld Z h0 a1 cN0 "widePages" "[[C" (.ref wp)) (F_pageCount_a1 : Fld Z h0 a1 cN0 "pageCount" "I" (.int (1 : Int32))) (F_capacity_a1 : Fld Z h0 a1 cN0 "capacity" "I" (.int cap)) (F_length_a1 : Fld Z h0 a1 cN0 "length" "I" (.int len)) (V_np : OAr Z h0 np kn (.array .byte) [(.ref pg)]) (V_wp : OAr Z h0 wp kw (.array .char) [.null]) (E_pg : Exa Z h0 pg "[B") (G_pg : OPg Z h0 pg kp .byte cap) (F_value_s1 : Fld Z h0 s1 cN1 "value" "[B" (.ref va)) (F_coder_s1 : Fld Z h0 s1 cN1 "coder" "B" (.int (1 : Int32))) (V_va : OAr Z h0 va kv .byte [(.int (own_b0 u0)), (.int (own_b1 u0)), (.int (own_b0 u1)), (.int (own_b1 u1)), (.int (own_b0 u2)), (.int (own_b1 u2))]) (E_s1 : Exa Z h0 s1 cN1) (g_a1 : n0 ≤ a1) (g_np : n0 ≤ np) (g_wp : n0 ≤ wp) (g_pg : n0 ≤ pg) (nd0 : OND [a1, np, wp, pg, s1, va]) (hI : 0 ≤ cap.toInt ∧ cap.toInt ≤ 15 ∧ 0 ≤ len.toInt ∧ len.toInt ≤ 3 ∧ len.toInt ≤ cap.toInt ∧ 0 ≤ (3 : Int32).toInt ∧ (3 : Int32).toInt ≤ 3) (hwd : own_w u0 u1 u2 (3 : Int32)) (hu : own_ch u0 u1 u2) :
    oM l mN41 prog_89_method_5_code 2 none ws ({ frames := 6, cells := 2, slots := 30, locals := 190 } : Room) #[(.ref a1), (.ref s1)] Z h0 (Q_apsNW Z a1 s1 np wp pg kn kw kp cap len va kv u0 u1 u2 cs fw h0 n0) := by
  refine MetFree.of_bodySF (plainFor_of_name pn_com_example_imprint_imprint_tree_PagedText) hisR ?_
  intro p e s m args below meth c s₁ Bd hml0 hP hK
  obtain ⟨rfl, hZ, hh⟩ := hP
  have hx := Bd.exec
  have hby := Bd.bytes
  have hml : c.maxLocals = 2 := hml0
  have hown : s.vm.findClass "com/example/imprint/imprint/tree/PagedText" = some m.cls := findClass_of_methodNamed Bd.named
  have hnm := (name_of_methodNamed Bd.named Bd.method).1
  have X0 : Stand p l e ({ frames := 6, cells := 2, slots := 30, locals := 190 } : Room) s m #[(.ref a1), (.ref s1)] below meth c s₁ [] 0 0 := Stand.of_body Bd
  have e0 : s₁.heap = h0 := by rw [← hh, Bd.state]; rfl
  have N0 := Fr.nil n0
  obtain ⟨A0, hA0⟩ : ∃ z, z = s₁.setTop (entryFrame m #[(.ref a1), (.ref s1)] 2) := ⟨_, rfl⟩
  have K : OGo p e below A0 s₁ (mkF m 0 #[rv a1, rv s1] []) := fun t k => hA0 ▸ castTop (ef_17 m a1 s1) k
  obtain ⟨cq1, kq1, qv1a, qv1b, qv1c⟩ := isOf hZ e0 E_s1
  obtain ⟨_, _, ⟨T1, L1, k1, n1⟩, -, X1, ⟨Lc1, hQ1, l1, y1, z1⟩, st1⟩ := X0.virtualBack hx (y := mN13) (z := mN13) hown (mvT hZ (ow hw 106 rfl)) (mvT hZ (ow hw 107 rfl)) (notFace_of_selects (args := #[]) (mvT hZ (ow hw 109 rfl))) (mvT hZ (ow hw 109 rfl)) (mvT hZ (ow hw 108 rfl)) (by decide) (backOf (W := 4) (rm_slenU l Z a0 hw [] s1 va kv u0 u1 u2 cs fw h0 n0 Z0 hST O_0 F_value_s1 F_coder_s1 V_va E_s1) hZ (ow hw 110 rfl) (ow hw 77 rfl) (by decide) (by decide)) qv1a qv1c (g := (mkF m 5 #[rv a1, rv s1] [(.ref s1), (.int 0), (.ref s1), .null, (.ref a1)])) rfl (by rw [hml]; rfl) (Steps.refl _) (argsL := []) (rest := [(.int (0 : Int32)), (.ref s1), .null, (.ref a1)]) (lenOf pd___I rfl) rfl (by show 2 * 0 + _ ≤ _; exact Nat.le_of_eq rfl) (hb hby d17_5) (fun _ _ => ⟨rfl, e0, (by decide : 0 + 0 ≤ _), (by decide : 0 + 0 ≤ _)⟩)
  dsimp only [Pt.U, Pt.locs, Pt.cells, Pt.slots] at X1 l1 y1 z1 st1 hQ1
  subst l1 y1 z1
  obtain ⟨rfl, Nq1, e1⟩ := hQ1
  have N1 := Fr.app N0 Nq1
  obtain ⟨cq2, qp2, qp2'⟩ := E_a1.cell
  obtain ⟨_, _, ⟨T2, L2, k2, n2⟩, -, X2, ⟨Lc2, hQ2, l2, y2, z2⟩, st2⟩ := X1.privateBack hx (y := mN39) hown (mvT hZ (ow hw 34 rfl)) (mvT hZ (ow hw 35 rfl)) (own_selp hZ (ow hw 2 rfl) (ow hw 36 rfl) (ow hw 35 rfl)) (Cond.privateMethod_at (mvP hZ (ow hw 36 rfl) (args := #[]))) (mvT hZ (ow hw 37 rfl)) (by decide) (backOf (W := 0) (rm_afsNW l Z a0 hw [] a1 s1 np wp pg kn kw kp cap len va kv u0 u1 u2 cs fw h0 n0 Z0 hST O_0 ovn ovw E_a1 F_narrowPages_a1 F_widePages_a1 F_pageCount_a1 F_capacity_a1 F_length_a1 V_np V_wp E_pg G_pg F_value_s1 F_coder_s1 V_va E_s1 g_a1 g_np g_wp g_pg nd0 hI hwd hu) hZ (ow hw 37 rfl) (ow hw 3 rfl) (by decide) (by decide)) (g := (mkF m 8 #[rv a1, rv s1] [(.int 3), (.int 0), (.ref s1), .null, (.ref a1)])) rfl (by rw [hml]; rfl) (Steps.refl _) (a := a1) (by rw [e1]; exact qp2) qp2' (argsL := [.null, (.ref s1), (.int (0 : Int32)), (.int (3 : Int32))]) (rest := []) (lenOf pd___CLjava_lang_String_II_V rfl) rfl (by show 2 * 0 + _ ≤ _; exact Nat.le_of_eq rfl) (hb hby d17_8) (fun _ _ => ⟨rfl, e1, (by decide : 0 + 2 ≤ _), (by decide : 0 + 30 ≤ _)⟩)
  dsimp only [Pt.U, Pt.locs, Pt.cells, Pt.slots] at X2 l2 y2 z2 st2 hQ2
  subst l2 y2 z2
  obtain ⟨hp2, e2⟩ : ∃ z, T2.heap = z := ⟨_, rfl⟩
  rw [e2] at hQ2
  obtain ⟨rfl, Nq2, pgr_2, kpr_2, cxr_2, K2, P2_0, P2_1, P2_2, P2_3, P2_4, P2_5, P2_6, P2_7, P2_8, P2_9, P2_10, P2_11⟩ := hQ2
  have ne_a1_pgr_2 : a1 ≠ pgr_2 := own_orne P2_0 (own_pw nd0 0 3 (by decide) rfl rfl) E_a1.lt
  have ne_s1_pgr_2 : s1 ≠ pgr_2 := own_orne P2_0 (Ne.symm (own_pw nd0 3 4 (by decide) rfl rfl)) F_value_s1.lt
  have ne_np_pgr_2 : np ≠ pgr_2 := own_orne P2_0 (own_pw nd0 1 3 (by decide) rfl rfl) V_np.lt
  have ne_wp_pgr_2 : wp ≠ pgr_2 := own_orne P2_0 (own_pw nd0 2 3 (by decide) rfl rfl) V_wp.lt
  have ne_va_pgr_2 : va ≠ pgr_2 := own_orne P2_0 (Ne.symm (own_pw nd0 3 5 (by decide) rfl rfl)) V_va.lt
  have g_pgr_2 : n0 ≤ pgr_2 := own_orge P2_0 g_pg Z0
  have or_pgr_2 : pgr_2 = pg ∨ h0.size ≤ pgr_2 := own_oror P2_0 (Keep.refl h0 [a1, np, wp, pg]).1
  have Z2 : n0 ≤ hp2.size := Nat.le_trans Z0 K2.1
  have Kp2 : Keep h0 hp2 [a1, np, wp, pg] := (Keep.refl h0 [a1, np, wp, pg]).trans K2 (allS (Or.inl (List.mem_of_getElem? (i := 0) rfl)) (allS (Or.inl (List.mem_of_getElem? (i := 1) rfl)) (allS (Or.inl (List.mem_of_getElem? (i := 2) rfl)) (allS (Or.inl (List.mem_of_getElem? (i := 3) rfl)) all0))))
  have N2 := Fr.app N1 Nq2
  replace K : OGo p e below A0 T2 (mkF m 11 #[rv a1, rv s1] []) := fun t k => K t (XS.aloadN X0.here hx rfl (hb hby d17_0) rfl rfl (XS.aconstNull X0.here hx rfl (hb hby d17_1) (XS.aloadN X0.here hx rfl (hb hby d17_2) rfl rfl (XS.iconst X0.here hx rfl (hb hby d17_3) (XS.aloadN X0.here hx rfl (hb hby d17_4) rfl rfl (st1.trans (st2.trans k)))))))
  obtain ⟨fs, hr, hrun, hended, hW, hsame⟩ := X2.leave (v := none) (fun _ => rfl)
  subst hA0
  refine ⟨_, _, K _ (X2.returnOut hx Bd.returns (hb hby d17_11) hr), hrun, hended, _, _, rfl, ?_, ⟨_, rfl⟩, hW, hsame.mono (by decide) (by decide)⟩
  show Q_apsNW Z a1 s1 np wp pg kn kw kp cap len va kv u0 u1 u2 cs fw h0 n0 _ T2.heap _
  rw [e2]
  exact ⟨rfl, N2, pgr_2, kpr_2, cxr_2, Kp2, or_pgr_2, P2_1, P2_2, P2_3, P2_4, P2_5, P2_6, P2_7, P2_8, P2_9, P2_10, P2_11⟩
def Q_apsWL (Z : State) (a1 : Addr) (s1 : Addr) (np : Addr) (wp : Addr) (pg : Addr) (kn : ClassId) (kw : ClassId) (kp : ClassId) (cap : Int32) (len : Int32) (va : Addr) (kv : ClassId) (cs : Int32) (fw : Value) (h0 : Heap) (n0 : Nat) (v : Option Value) (h : Heap) (L : List Loc) : Prop := v = none ∧ Fr n0 L ∧ ∃ (pgr : Addr) (kpr : ClassId) (cxr : Int32), Keep h0 h [a1, np, wp, pg] ∧ (pgr = pg ∨ h0.size ≤ pgr) ∧ Exa Z h a1 cN0 ∧ Fld Z h a1 cN0 "narrowPages" "[[B" (.ref np) ∧ Fld Z h a1 cN0 "widePages" "[[C" (.ref wp) ∧ Fld Z h a1 cN0 "pageCount" "I" (.int (1 : Int32)) ∧ Fld Z h a1 cN0 "capacity" "I" (.int cxr) ∧ Fld Z h a1 cN0 "length" "I" (.int (len + (3 : Int32))) ∧ OAr Z h np kn (.array .byte) [.null] ∧ OAr Z h wp kw (.array .char) [(.ref pgr)] ∧ Exa Z h pgr "[C" ∧ OPg Z h pgr kpr .char cxr ∧ cxr = own_cap len (3 : Int32) cap
theorem rm_apsWL (l : Launch) (Z : State) (a0 : Array Value) (hw : ∀ d ∈ tables_1, d.before a0 Z = true) (ws : List Jvm.Cond) (a1 : Addr) (s1 : Addr) (np : Addr) (wp : Addr) (pg : Addr) (kn : ClassId) (kw : ClassId) (kp : ClassId) (cap : Int32) (len : Int32) (va : Addr) (kv : ClassId) (cs : Int32) (fw : Value) (h0 : Heap) (n0 : Nat) (Z0 : n0 ≤ h0.size) (hST : own_ST Z cs fw) (O_0 : Old Z n0 h0) (ovn : OvrA Z kn .byte "[B") (ovw : OvrA Z kw .char "[C") (E_a1 : Exa Z h0 a1 cN0) (F_narrowPages_a1 : Fld Z h0 a1 cN0 "narrowPages" "[[B" (.ref np)) (F_widePages_a1 : Fld Z h0 a1 cN0 "widePages" "[[C" (.ref wp)) (F_pageCount_a1 : Fld Z h0 a1 cN0 "pageCount" "I" (.int (1 : Int32))) (F_capacity_a1 : Fld Z h0 a1 cN0 "capacity" "I" (.int cap)) (F_length_a1 : Fld Z h0 a1 cN0 "length" "I" (.int len)) (V_np : OAr Z h0 np kn (.array .byte) [.null]) (V_wp : OAr Z h0 wp kw (.array .char) [(.ref pg)]) (E_pg : Exa Z h0 pg "[C") (G_pg : OPg Z h0 pg kp .char cap) (F_value_s1 : Fld Z h0 s1 cN1 "value" "[B" (.ref va)) (F_coder_s1 : Fld Z h0 s1 cN1 "coder" "B" (.int (0 : Int32))) (G_va : OPg Z h0 va kv .byte (3 : Int32)) (E_s1 : Exa Z h0 s1 cN1) (g_a1 : n0 ≤ a1) (g_np : n0 ≤ np) (g_wp : n0 ≤ wp) (g_pg : n0 ≤ pg) (nd0 : OND [a1, np, wp, pg, s1, va]) (hI : 0 ≤ cap.toInt ∧ cap.toInt ≤ 15 ∧ 0 ≤ len.toInt ∧ len.toInt ≤ 3 ∧ len.toInt ≤ cap.toInt ∧ 0 ≤ (3 : Int32).toInt ∧ (3 : Int32).toInt ≤ 3) :
    oM l mN41 prog_89_method_5_code 2 none ws ({ frames := 6, cells := 2, slots := 30, locals := 190 } : Room) #[(.ref a1), (.ref s1)] Z h0 (Q_apsWL Z a1 s1 np wp pg kn kw kp cap len va kv cs fw h0 n0) := by
  refine MetFree.of_bodySF (plainFor_of_name pn_com_example_imprint_imprint_tree_PagedText) hisR ?_
  intro p e s m args below meth c s₁ Bd hml0 hP hK
  obtain ⟨rfl, hZ, hh⟩ := hP
  have hx := Bd.exec
  have hby := Bd.bytes
  have hml : c.maxLocals = 2 := hml0
  have hown : s.vm.findClass "com/example/imprint/imprint/tree/PagedText" = some m.cls := findClass_of_methodNamed Bd.named
  have hnm := (name_of_methodNamed Bd.named Bd.method).1
  have X0 : Stand p l e ({ frames := 6, cells := 2, slots := 30, locals := 190 } : Room) s m #[(.ref a1), (.ref s1)] below meth c s₁ [] 0 0 := Stand.of_body Bd
  have e0 : s₁.heap = h0 := by rw [← hh, Bd.state]; rfl
  have N0 := Fr.nil n0
  obtain ⟨A0, hA0⟩ : ∃ z, z = s₁.setTop (entryFrame m #[(.ref a1), (.ref s1)] 2) := ⟨_, rfl⟩
  have K : OGo p e below A0 s₁ (mkF m 0 #[rv a1, rv s1] []) := fun t k => hA0 ▸ castTop (ef_17 m a1 s1) k
  obtain ⟨cq1, kq1, qv1a, qv1b, qv1c⟩ := isOf hZ e0 E_s1
  obtain ⟨_, _, ⟨T1, L1, k1, n1⟩, -, X1, ⟨Lc1, hQ1, l1, y1, z1⟩, st1⟩ := X0.virtualBack hx (y := mN13) (z := mN13) hown (mvT hZ (ow hw 106 rfl)) (mvT hZ (ow hw 107 rfl)) (notFace_of_selects (args := #[]) (mvT hZ (ow hw 109 rfl))) (mvT hZ (ow hw 109 rfl)) (mvT hZ (ow hw 108 rfl)) (by decide) (backOf (W := 4) (rm_slenL l Z a0 hw [] s1 va kv cs fw h0 n0 Z0 hST O_0 F_value_s1 F_coder_s1 G_va E_s1) hZ (ow hw 110 rfl) (ow hw 77 rfl) (by decide) (by decide)) qv1a qv1c (g := (mkF m 5 #[rv a1, rv s1] [(.ref s1), (.int 0), (.ref s1), .null, (.ref a1)])) rfl (by rw [hml]; rfl) (Steps.refl _) (argsL := []) (rest := [(.int (0 : Int32)), (.ref s1), .null, (.ref a1)]) (lenOf pd___I rfl) rfl (by show 2 * 0 + _ ≤ _; exact Nat.le_of_eq rfl) (hb hby d17_5) (fun _ _ => ⟨rfl, e0, (by decide : 0 + 0 ≤ _), (by decide : 0 + 0 ≤ _)⟩)
  dsimp only [Pt.U, Pt.locs, Pt.cells, Pt.slots] at X1 l1 y1 z1 st1 hQ1
  subst l1 y1 z1
  obtain ⟨rfl, Nq1, e1⟩ := hQ1
  have N1 := Fr.app N0 Nq1
  obtain ⟨cq2, qp2, qp2'⟩ := E_a1.cell
  obtain ⟨_, _, ⟨T2, L2, k2, n2⟩, -, X2, ⟨Lc2, hQ2, l2, y2, z2⟩, st2⟩ := X1.privateBack hx (y := mN39) hown (mvT hZ (ow hw 34 rfl)) (mvT hZ (ow hw 35 rfl)) (own_selp hZ (ow hw 2 rfl) (ow hw 36 rfl) (ow hw 35 rfl)) (Cond.privateMethod_at (mvP hZ (ow hw 36 rfl) (args := #[]))) (mvT hZ (ow hw 37 rfl)) (by decide) (backOf (W := 0) (rm_afsWL l Z a0 hw [] a1 s1 np wp pg kn kw kp cap len va kv cs fw h0 n0 Z0 hST O_0 ovn ovw E_a1 F_narrowPages_a1 F_widePages_a1 F_pageCount_a1 F_capacity_a1 F_length_a1 V_np V_wp E_pg G_pg F_value_s1 F_coder_s1 G_va E_s1 g_a1 g_np g_wp g_pg nd0 hI) hZ (ow hw 37 rfl) (ow hw 3 rfl) (by decide) (by decide)) (g := (mkF m 8 #[rv a1, rv s1] [(.int 3), (.int 0), (.ref s1), .null, (.ref a1)])) rfl (by rw [hml]; rfl) (Steps.refl _) (a := a1) (by rw [e1]; exact qp2) qp2' (argsL := [.null, (.ref s1), (.int (0 : Int32)), (.int (3 : Int32))]) (rest := []) (lenOf pd___CLjava_lang_String_II_V rfl) rfl (by show 2 * 0 + _ ≤ _; exact Nat.le_of_eq rfl) (hb hby d17_8) (fun _ _ => ⟨rfl, e1, (by decide : 0 + 2 ≤ _), (by decide : 0 + 30 ≤ _)⟩)
  dsimp only [Pt.U, Pt.locs, Pt.cells, Pt.slots] at X2 l2 y2 z2 st2 hQ2
  subst l2 y2 z2
  obtain ⟨hp2, e2⟩ : ∃ z, T2.heap = z := ⟨_, rfl⟩
  rw [e2] at hQ2
  obtain ⟨rfl, Nq2, pgr_2, kpr_2, cxr_2, K2, P2_0, P2_1, P2_2, P2_3, P2_4, P2_5, P2_6, P2_7, P2_8, P2_9, P2_10, P2_11⟩ := hQ2
  have ne_a1_pgr_2 : a1 ≠ pgr_2 := own_orne P2_0 (own_pw nd0 0 3 (by decide) rfl rfl) E_a1.lt
  have ne_s1_pgr_2 : s1 ≠ pgr_2 := own_orne P2_0 (Ne.symm (own_pw nd0 3 4 (by decide) rfl rfl)) F_value_s1.lt
  have ne_np_pgr_2 : np ≠ pgr_2 := own_orne P2_0 (own_pw nd0 1 3 (by decide) rfl rfl) V_np.lt
  have ne_wp_pgr_2 : wp ≠ pgr_2 := own_orne P2_0 (own_pw nd0 2 3 (by decide) rfl rfl) V_wp.lt
  have ne_va_pgr_2 : va ≠ pgr_2 := own_orne P2_0 (Ne.symm (own_pw nd0 3 5 (by decide) rfl rfl)) G_va.lt
  have g_pgr_2 : n0 ≤ pgr_2 := own_orge P2_0 g_pg Z0
  have or_pgr_2 : pgr_2 = pg ∨ h0.size ≤ pgr_2 := own_oror P2_0 (Keep.refl h0 [a1, np, wp, pg]).1
  have Z2 : n0 ≤ hp2.size := Nat.le_trans Z0 K2.1
  have Kp2 : Keep h0 hp2 [a1, np, wp, pg] := (Keep.refl h0 [a1, np, wp, pg]).trans K2 (allS (Or.inl (List.mem_of_getElem? (i := 0) rfl)) (allS (Or.inl (List.mem_of_getElem? (i := 1) rfl)) (allS (Or.inl (List.mem_of_getElem? (i := 2) rfl)) (allS (Or.inl (List.mem_of_getElem? (i := 3) rfl)) all0))))
  have N2 := Fr.app N1 Nq2
  replace K : OGo p e below A0 T2 (mkF m 11 #[rv a1, rv s1] []) := fun t k => K t (XS.aloadN X0.here hx rfl (hb hby d17_0) rfl rfl (XS.aconstNull X0.here hx rfl (hb hby d17_1) (XS.aloadN X0.here hx rfl (hb hby d17_2) rfl rfl (XS.iconst X0.here hx rfl (hb hby d17_3) (XS.aloadN X0.here hx rfl (hb hby d17_4) rfl rfl (st1.trans (st2.trans k)))))))
  obtain ⟨fs, hr, hrun, hended, hW, hsame⟩ := X2.leave (v := none) (fun _ => rfl)
  subst hA0
  refine ⟨_, _, K _ (X2.returnOut hx Bd.returns (hb hby d17_11) hr), hrun, hended, _, _, rfl, ?_, ⟨_, rfl⟩, hW, hsame.mono (by decide) (by decide)⟩
  show Q_apsWL Z a1 s1 np wp pg kn kw kp cap len va kv cs fw h0 n0 _ T2.heap _
  rw [e2]
  exact ⟨rfl, N2, pgr_2, kpr_2, cxr_2, Kp2, or_pgr_2, P2_1, P2_2, P2_3, P2_4, P2_5, P2_6, P2_7, P2_8, P2_9, P2_10, P2_11⟩
def Q_apsWU (Z : State) (a1 : Addr) (s1 : Addr) (np : Addr) (wp : Addr) (pg : Addr) (kn : ClassId) (kw : ClassId) (kp : ClassId) (cap : Int32) (len : Int32) (va : Addr) (kv : ClassId) (u0 : Int32) (u1 : Int32) (u2 : Int32) (cs : Int32) (fw : Value) (h0 : Heap) (n0 : Nat) (v : Option Value) (h : Heap) (L : List Loc) : Prop := v = none ∧ Fr n0 L ∧ ∃ (pgr : Addr) (kpr : ClassId) (cxr : Int32), Keep h0 h [a1, np, wp, pg] ∧ (pgr = pg ∨ h0.size ≤ pgr) ∧ Exa Z h a1 cN0 ∧ Fld Z h a1 cN0 "narrowPages" "[[B" (.ref np) ∧ Fld Z h a1 cN0 "widePages" "[[C" (.ref wp) ∧ Fld Z h a1 cN0 "pageCount" "I" (.int (1 : Int32)) ∧ Fld Z h a1 cN0 "capacity" "I" (.int cxr) ∧ Fld Z h a1 cN0 "length" "I" (.int (len + (3 : Int32))) ∧ OAr Z h np kn (.array .byte) [.null] ∧ OAr Z h wp kw (.array .char) [(.ref pgr)] ∧ Exa Z h pgr "[C" ∧ OPg Z h pgr kpr .char cxr ∧ cxr = own_cap len (3 : Int32) cap
theorem rm_apsWU (l : Launch) (Z : State) (a0 : Array Value) (hw : ∀ d ∈ tables_1, d.before a0 Z = true) (ws : List Jvm.Cond) (a1 : Addr) (s1 : Addr) (np : Addr) (wp : Addr) (pg : Addr) (kn : ClassId) (kw : ClassId) (kp : ClassId) (cap : Int32) (len : Int32) (va : Addr) (kv : ClassId) (u0 : Int32) (u1 : Int32) (u2 : Int32) (cs : Int32) (fw : Value) (h0 : Heap) (n0 : Nat) (Z0 : n0 ≤ h0.size) (hST : own_ST Z cs fw) (O_0 : Old Z n0 h0) (ovn : OvrA Z kn .byte "[B") (ovw : OvrA Z kw .char "[C") (E_a1 : Exa Z h0 a1 cN0) (F_narrowPages_a1 : Fld Z h0 a1 cN0 "narrowPages" "[[B" (.ref np)) (F_widePages_a1 : Fld Z h0 a1 cN0 "widePages" "[[C" (.ref wp)) (F_pageCount_a1 : Fld Z h0 a1 cN0 "pageCount" "I" (.int (1 : Int32))) (F_capacity_a1 : Fld Z h0 a1 cN0 "capacity" "I" (.int cap)) (F_length_a1 : Fld Z h0 a1 cN0 "length" "I" (.int len)) (V_np : OAr Z h0 np kn (.array .byte) [.null]) (V_wp : OAr Z h0 wp kw (.array .char) [(.ref pg)]) (E_pg : Exa Z h0 pg "[C") (G_pg : OPg Z h0 pg kp .char cap) (F_value_s1 : Fld Z h0 s1 cN1 "value" "[B" (.ref va)) (F_coder_s1 : Fld Z h0 s1 cN1 "coder" "B" (.int (1 : Int32))) (V_va : OAr Z h0 va kv .byte [(.int (own_b0 u0)), (.int (own_b1 u0)), (.int (own_b0 u1)), (.int (own_b1 u1)), (.int (own_b0 u2)), (.int (own_b1 u2))]) (E_s1 : Exa Z h0 s1 cN1) (g_a1 : n0 ≤ a1) (g_np : n0 ≤ np) (g_wp : n0 ≤ wp) (g_pg : n0 ≤ pg) (nd0 : OND [a1, np, wp, pg, s1, va]) (hI : 0 ≤ cap.toInt ∧ cap.toInt ≤ 15 ∧ 0 ≤ len.toInt ∧ len.toInt ≤ 3 ∧ len.toInt ≤ cap.toInt ∧ 0 ≤ (3 : Int32).toInt ∧ (3 : Int32).toInt ≤ 3) (hu : own_ch u0 u1 u2) :
    oM l mN41 prog_89_method_5_code 2 none ws ({ frames := 6, cells := 2, slots := 30, locals := 190 } : Room) #[(.ref a1), (.ref s1)] Z h0 (Q_apsWU Z a1 s1 np wp pg kn kw kp cap len va kv u0 u1 u2 cs fw h0 n0) := by
  refine MetFree.of_bodySF (plainFor_of_name pn_com_example_imprint_imprint_tree_PagedText) hisR ?_
  intro p e s m args below meth c s₁ Bd hml0 hP hK
  obtain ⟨rfl, hZ, hh⟩ := hP
  have hx := Bd.exec
  have hby := Bd.bytes
  have hml : c.maxLocals = 2 := hml0
  have hown : s.vm.findClass "com/example/imprint/imprint/tree/PagedText" = some m.cls := findClass_of_methodNamed Bd.named
  have hnm := (name_of_methodNamed Bd.named Bd.method).1
  have X0 : Stand p l e ({ frames := 6, cells := 2, slots := 30, locals := 190 } : Room) s m #[(.ref a1), (.ref s1)] below meth c s₁ [] 0 0 := Stand.of_body Bd
  have e0 : s₁.heap = h0 := by rw [← hh, Bd.state]; rfl
  have N0 := Fr.nil n0
  obtain ⟨A0, hA0⟩ : ∃ z, z = s₁.setTop (entryFrame m #[(.ref a1), (.ref s1)] 2) := ⟨_, rfl⟩
  have K : OGo p e below A0 s₁ (mkF m 0 #[rv a1, rv s1] []) := fun t k => hA0 ▸ castTop (ef_17 m a1 s1) k
  obtain ⟨cq1, kq1, qv1a, qv1b, qv1c⟩ := isOf hZ e0 E_s1
  obtain ⟨_, _, ⟨T1, L1, k1, n1⟩, -, X1, ⟨Lc1, hQ1, l1, y1, z1⟩, st1⟩ := X0.virtualBack hx (y := mN13) (z := mN13) hown (mvT hZ (ow hw 106 rfl)) (mvT hZ (ow hw 107 rfl)) (notFace_of_selects (args := #[]) (mvT hZ (ow hw 109 rfl))) (mvT hZ (ow hw 109 rfl)) (mvT hZ (ow hw 108 rfl)) (by decide) (backOf (W := 4) (rm_slenU l Z a0 hw [] s1 va kv u0 u1 u2 cs fw h0 n0 Z0 hST O_0 F_value_s1 F_coder_s1 V_va E_s1) hZ (ow hw 110 rfl) (ow hw 77 rfl) (by decide) (by decide)) qv1a qv1c (g := (mkF m 5 #[rv a1, rv s1] [(.ref s1), (.int 0), (.ref s1), .null, (.ref a1)])) rfl (by rw [hml]; rfl) (Steps.refl _) (argsL := []) (rest := [(.int (0 : Int32)), (.ref s1), .null, (.ref a1)]) (lenOf pd___I rfl) rfl (by show 2 * 0 + _ ≤ _; exact Nat.le_of_eq rfl) (hb hby d17_5) (fun _ _ => ⟨rfl, e0, (by decide : 0 + 0 ≤ _), (by decide : 0 + 0 ≤ _)⟩)
  dsimp only [Pt.U, Pt.locs, Pt.cells, Pt.slots] at X1 l1 y1 z1 st1 hQ1
  subst l1 y1 z1
  obtain ⟨rfl, Nq1, e1⟩ := hQ1
  have N1 := Fr.app N0 Nq1
  obtain ⟨cq2, qp2, qp2'⟩ := E_a1.cell
  obtain ⟨_, _, ⟨T2, L2, k2, n2⟩, -, X2, ⟨Lc2, hQ2, l2, y2, z2⟩, st2⟩ := X1.privateBack hx (y := mN39) hown (mvT hZ (ow hw 34 rfl)) (mvT hZ (ow hw 35 rfl)) (own_selp hZ (ow hw 2 rfl) (ow hw 36 rfl) (ow hw 35 rfl)) (Cond.privateMethod_at (mvP hZ (ow hw 36 rfl) (args := #[]))) (mvT hZ (ow hw 37 rfl)) (by decide) (backOf (W := 0) (rm_afsWU l Z a0 hw [] a1 s1 np wp pg kn kw kp cap len va kv u0 u1 u2 cs fw h0 n0 Z0 hST O_0 ovn ovw E_a1 F_narrowPages_a1 F_widePages_a1 F_pageCount_a1 F_capacity_a1 F_length_a1 V_np V_wp E_pg G_pg F_value_s1 F_coder_s1 V_va E_s1 g_a1 g_np g_wp g_pg nd0 hI hu) hZ (ow hw 37 rfl) (ow hw 3 rfl) (by decide) (by decide)) (g := (mkF m 8 #[rv a1, rv s1] [(.int 3), (.int 0), (.ref s1), .null, (.ref a1)])) rfl (by rw [hml]; rfl) (Steps.refl _) (a := a1) (by rw [e1]; exact qp2) qp2' (argsL := [.null, (.ref s1), (.int (0 : Int32)), (.int (3 : Int32))]) (rest := []) (lenOf pd___CLjava_lang_String_II_V rfl) rfl (by show 2 * 0 + _ ≤ _; exact Nat.le_of_eq rfl) (hb hby d17_8) (fun _ _ => ⟨rfl, e1, (by decide : 0 + 2 ≤ _), (by decide : 0 + 30 ≤ _)⟩)
  dsimp only [Pt.U, Pt.locs, Pt.cells, Pt.slots] at X2 l2 y2 z2 st2 hQ2
  subst l2 y2 z2
  obtain ⟨hp2, e2⟩ : ∃ z, T2.heap = z := ⟨_, rfl⟩
  rw [e2] at hQ2
  obtain ⟨rfl, Nq2, pgr_2, kpr_2, cxr_2, K2, P2_0, P2_1, P2_2, P2_3, P2_4, P2_5, P2_6, P2_7, P2_8, P2_9, P2_10, P2_11⟩ := hQ2
  have ne_a1_pgr_2 : a1 ≠ pgr_2 := own_orne P2_0 (own_pw nd0 0 3 (by decide) rfl rfl) E_a1.lt
  have ne_s1_pgr_2 : s1 ≠ pgr_2 := own_orne P2_0 (Ne.symm (own_pw nd0 3 4 (by decide) rfl rfl)) F_value_s1.lt
  have ne_np_pgr_2 : np ≠ pgr_2 := own_orne P2_0 (own_pw nd0 1 3 (by decide) rfl rfl) V_np.lt
  have ne_wp_pgr_2 : wp ≠ pgr_2 := own_orne P2_0 (own_pw nd0 2 3 (by decide) rfl rfl) V_wp.lt
  have ne_va_pgr_2 : va ≠ pgr_2 := own_orne P2_0 (Ne.symm (own_pw nd0 3 5 (by decide) rfl rfl)) V_va.lt
  have g_pgr_2 : n0 ≤ pgr_2 := own_orge P2_0 g_pg Z0
  have or_pgr_2 : pgr_2 = pg ∨ h0.size ≤ pgr_2 := own_oror P2_0 (Keep.refl h0 [a1, np, wp, pg]).1
  have Z2 : n0 ≤ hp2.size := Nat.le_trans Z0 K2.1
  have Kp2 : Keep h0 hp2 [a1, np, wp, pg] := (Keep.refl h0 [a1, np, wp, pg]).trans K2 (allS (Or.inl (List.mem_of_getElem? (i := 0) rfl)) (allS (Or.inl (List.mem_of_getElem? (i := 1) rfl)) (allS (Or.inl (List.mem_of_getElem? (i := 2) rfl)) (allS (Or.inl (List.mem_of_getElem? (i := 3) rfl)) all0))))
  have N2 := Fr.app N1 Nq2
  replace K : OGo p e below A0 T2 (mkF m 11 #[rv a1, rv s1] []) := fun t k => K t (XS.aloadN X0.here hx rfl (hb hby d17_0) rfl rfl (XS.aconstNull X0.here hx rfl (hb hby d17_1) (XS.aloadN X0.here hx rfl (hb hby d17_2) rfl rfl (XS.iconst X0.here hx rfl (hb hby d17_3) (XS.aloadN X0.here hx rfl (hb hby d17_4) rfl rfl (st1.trans (st2.trans k)))))))
  obtain ⟨fs, hr, hrun, hended, hW, hsame⟩ := X2.leave (v := none) (fun _ => rfl)
  subst hA0
  refine ⟨_, _, K _ (X2.returnOut hx Bd.returns (hb hby d17_11) hr), hrun, hended, _, _, rfl, ?_, ⟨_, rfl⟩, hW, hsame.mono (by decide) (by decide)⟩
  show Q_apsWU Z a1 s1 np wp pg kn kw kp cap len va kv u0 u1 u2 cs fw h0 n0 _ T2.heap _
  rw [e2]
  exact ⟨rfl, N2, pgr_2, kpr_2, cxr_2, Kp2, or_pgr_2, P2_1, P2_2, P2_3, P2_4, P2_5, P2_6, P2_7, P2_8, P2_9, P2_10, P2_11⟩
theorem ef_0 (m : MethodId) (x0 : Int32) (x1 : Int32) (x2 : Int32) (x3 : Int32) (x4 : Int32) (x5 : Int32) : entryFrame m #[(.int x0), (.int x1), (.int x2), (.int x3), (.int x4), (.int x5)] maxLocals = mkF m 0 #[.val (.int x0), .val (.int x1), .val (.int x2), .val (.int x3), .val (.int x4), .val (.int x5), .unset, .unset, .unset, .unset, .unset, .unset, .unset, .unset, .unset, .unset, .unset, .unset, .unset, .unset, .unset, .unset, .unset, .unset, .unset, .unset, .unset, .unset] [] := by first | (simp [entryFrame, mkF, argsToLocals, Value.category, maxLocals]; done) | rfl
theorem pd___J : parseMethodDescriptor "()J" = some ⟨[], some .long⟩ := by decide +kernel
theorem pd___CII_V : parseMethodDescriptor "([CII)V" = some ⟨[(.array .char), .int, .int], none⟩ := by decide +kernel
theorem pd___CI_Z : parseMethodDescriptor "([CI)Z" = some ⟨[(.array .char), .int], some .boolean⟩ := by decide +kernel
theorem pd___C_V : parseMethodDescriptor "([C)V" = some ⟨[(.array .char)], none⟩ := by decide +kernel
theorem pd__Ljava_lang_String__V : parseMethodDescriptor "(Ljava/lang/String;)V" = some ⟨[(.object "java/lang/String")], none⟩ := by decide +kernel
def Q_law (Z : State) (p1 : Int32) (p2 : Int32) (p3 : Int32) (p4 : Int32) (p5 : Int32) (p6 : Int32) (cs : Int32) (fw : Value) (h0 : Heap) (n0 : Nat) (v : Option Value) (h : Heap) (L : List Loc) : Prop := v = some (.int (1 : Int32)) ∧ Fr n0 L
theorem rm_law (l : Launch) (Z : State) (a0 : Array Value) (hw : ∀ d ∈ tables_1, d.before a0 Z = true) (ws : List Jvm.Cond) (p1 : Int32) (p2 : Int32) (p3 : Int32) (p4 : Int32) (p5 : Int32) (p6 : Int32) (cs : Int32) (fw : Value) (h0 : Heap) (n0 : Nat) (Z0 : n0 ≤ h0.size) (hST : own_ST Z cs fw) (O_0 : Old Z n0 h0) :
    MetFree l x (head1 (Jvm.Cond.code x code maxLocals ret :: ws) room_1) (fun a U => a = #[(.int p1), (.int p2), (.int p3), (.int p4), (.int p5), (.int p6)] ∧ Z.Warmed39 U.vm ∧ U.heap = h0) (fun _ _ _ _ _ => True) (fun _ U o U' => ∃ v L, o = .returned v ∧ Q_law Z p1 p2 p3 p4 p5 p6 cs fw h0 n0 v U'.heap L ∧ FrameEnd U o U' L room_1.cells room_1.slots) := by
  refine MetFree.of_bodySF (plainFor_of_name pn_com_example_imprint_imprint_tree_PagedTextBytesPinLaw) hisR ?_
  intro p e s m args below meth c s₁ Bd hml0 hP hK
  obtain ⟨rfl, hZ, hh⟩ := hP
  have hx := Bd.exec
  have hby := Bd.bytes
  have hml : c.maxLocals = 28 := hml0
  have hown : s.vm.findClass "com/example/imprint/imprint/tree/PagedTextBytesPinLaw" = some m.cls := findClass_of_methodNamed Bd.named
  have hnm := (name_of_methodNamed Bd.named Bd.method).1
  have X0 : Stand p l e room_1 s m #[(.int p1), (.int p2), (.int p3), (.int p4), (.int p5), (.int p6)] below meth c s₁ [] 0 0 := Stand.of_body Bd
  have e0 : s₁.heap = h0 := by rw [← hh, Bd.state]; rfl
  have N0 := Fr.nil n0
  obtain ⟨A0, hA0⟩ : ∃ z, z = s₁.setTop (entryFrame m #[(.int p1), (.int p2), (.int p3), (.int p4), (.int p5), (.int p6)] maxLocals) := ⟨_, rfl⟩
  have K : OGo p e below A0 s₁ (mkF m 0 #[iv p1, iv p2, iv p3, iv p4, iv p5, iv p6, .unset, .unset, .unset, .unset, .unset, .unset, .unset, .unset, .unset, .unset, .unset, .unset, .unset, .unset, .unset, .unset, .unset, .unset, .unset, .unset, .unset, .unset] []) := fun t k => hA0 ▸ castTop (ef_0 m p1 p2 p3 p4 p5 p6) k
  replace K : OGo p e below A0 s₁ (mkF m 4 #[iv p1, iv p2, iv p3, iv p4, iv p5, iv p6, .unset, .unset, .unset, .unset, .unset, .unset, .unset, .unset, .unset, .unset, .unset, .unset, .unset, .unset, .unset, .unset, .unset, .unset, .unset, .unset, .unset, .unset] [(.int (p1 &&& (15 : Int32)))]) := fun t k => K t (XS.iloadN X0.here hx rfl (hb hby at_0) rfl (XS.bipush X0.here hx rfl (hb hby at_1) (XS.iand X0.here hx rfl (hb hby at_3) rfl k)))
  obtain ⟨kc, hv_kc⟩ : ∃ z : Int32, z = (p1 &&& (15 : Int32)) := ⟨_, rfl⟩
  rw [← hv_kc] at K
  have hkc : 0 ≤ kc.toInt ∧ kc.toInt ≤ 15 := by rw [hv_kc]; exact own_and15 _
  replace K : OGo p e below A0 s₁ (mkF m 10 #[iv p1, iv p2, iv p3, iv p4, iv p5, iv p6, iv kc, .unset, .unset, .unset, .unset, .unset, .unset, .unset, .unset, .unset, .unset, .unset, .unset, .unset, .unset, .unset, .unset, .unset, .unset, .unset, .unset, .unset] [(.int (p6 &&& (3 : Int32)))]) := fun t k => K t (XS.istore X0.here hx rfl (hb hby at_4) rfl (l' := #[iv p1, iv p2, iv p3, iv p4, iv p5, iv p6, iv kc, .unset, .unset, .unset, .unset, .unset, .unset, .unset, .unset, .unset, .unset, .unset, .unset, .unset, .unset, .unset, .unset, .unset, .unset, .unset, .unset, .unset]) rfl (XS.iload X0.here hx rfl (hb hby at_6) rfl (XS.iconst X0.here hx rfl (hb hby at_8) (XS.iand X0.here hx rfl (hb hby at_9) rfl k))))
  obtain ⟨na, hv_na⟩ : ∃ z : Int32, z = (p6 &&& (3 : Int32)) := ⟨_, rfl⟩
  rw [← hv_na] at K
  have hna : 0 ≤ na.toInt ∧ na.toInt ≤ 3 := by rw [hv_na]; exact own_and3 _
  replace K : OGo p e below A0 s₁ (mkF m 18 #[iv p1, iv p2, iv p3, iv p4, iv p5, iv p6, iv kc, iv na, .unset, .unset, .unset, .unset, .unset, .unset, .unset, .unset, .unset, .unset, .unset, .unset, .unset, .unset, .unset, .unset, .unset, .unset, .unset, .unset] [(.int (((p6.toUInt32 >>> ((2 : Int32) &&& 31).toUInt32).toInt32) &&& (3 : Int32)))]) := fun t k => K t (XS.istore X0.here hx rfl (hb hby at_10) rfl (l' := #[iv p1, iv p2, iv p3, iv p4, iv p5, iv p6, iv kc, iv na, .unset, .unset, .unset, .unset, .unset, .unset, .unset, .unset, .unset, .unset, .unset, .unset, .unset, .unset, .unset, .unset, .unset, .unset, .unset, .unset]) rfl (XS.iload X0.here hx rfl (hb hby at_12) rfl (XS.iconst X0.here hx rfl (hb hby at_14) (XS.iushr X0.here hx rfl (hb hby at_15) rfl (XS.iconst X0.here hx rfl (hb hby at_16) (XS.iand X0.here hx rfl (hb hby at_17) rfl k))))))
  obtain ⟨nb, hv_nb⟩ : ∃ z : Int32, z = (((p6.toUInt32 >>> ((2 : Int32) &&& 31).toUInt32).toInt32) &&& (3 : Int32)) := ⟨_, rfl⟩
  rw [← hv_nb] at K
  have hnb : 0 ≤ nb.toInt ∧ nb.toInt ≤ 3 := by rw [hv_nb]; exact own_and3 _
  replace K : OGo p e below A0 s₁ (mkF m 26 #[iv p1, iv p2, iv p3, iv p4, iv p5, iv p6, iv kc, iv na, iv nb, .unset, .unset, .unset, .unset, .unset, .unset, .unset, .unset, .unset, .unset, .unset, .unset, .unset, .unset, .unset, .unset, .unset, .unset, .unset] [(.int (((p6.toUInt32 >>> ((4 : Int32) &&& 31).toUInt32).toInt32) &&& (1 : Int32)))]) := fun t k => K t (XS.istore X0.here hx rfl (hb hby at_18) rfl (l' := #[iv p1, iv p2, iv p3, iv p4, iv p5, iv p6, iv kc, iv na, iv nb, .unset, .unset, .unset, .unset, .unset, .unset, .unset, .unset, .unset, .unset, .unset, .unset, .unset, .unset, .unset, .unset, .unset, .unset, .unset]) rfl (XS.iload X0.here hx rfl (hb hby at_20) rfl (XS.iconst X0.here hx rfl (hb hby at_22) (XS.iushr X0.here hx rfl (hb hby at_23) rfl (XS.iconst X0.here hx rfl (hb hby at_24) (XS.iand X0.here hx rfl (hb hby at_25) rfl k))))))
  refine cps (A := ∃ (sb : Int32) (Tj1 : State) (hj1 : Heap) (lj1 : List Loc), Stand p l e room_1 s m #[(.int p1), (.int p2), (.int p3), (.int p4), (.int p5), (.int p6)] below meth c Tj1 lj1 0 0 ∧ Tj1.heap = hj1 ∧ Fr n0 lj1 ∧ n0 ≤ hj1.size ∧ Old Z n0 hj1 ∧ OGo p e below A0 Tj1 (mkF m 34 #[iv p1, iv p2, iv p3, iv p4, iv p5, iv p6, iv kc, iv na, iv nb, .unset, .unset, .unset, .unset, .unset, .unset, .unset, .unset, .unset, .unset, .unset, .unset, .unset, .unset, .unset, .unset, .unset, .unset, .unset] [(.int sb)])) (fun J1 => ?_) ?_
  · by_cases hc26 : (((p6.toUInt32 >>> ((4 : Int32) &&& 31).toUInt32).toInt32) &&& (1 : Int32)) = (0 : Int32)
    · replace K : OGo p e below A0 s₁ (mkF m 34 #[iv p1, iv p2, iv p3, iv p4, iv p5, iv p6, iv kc, iv na, iv nb, .unset, .unset, .unset, .unset, .unset, .unset, .unset, .unset, .unset, .unset, .unset, .unset, .unset, .unset, .unset, .unset, .unset, .unset, .unset] [(.int 0)]) := fun t k => K t (XS.ifYes X0.here hx rfl (pc0 := 26) (pc' := 33) rfl (hb hby at_26) rfl ((if0 _ _).trans (teq hc26).1) (by decide) (by decide) (XS.iconst X0.here hx rfl (hb hby at_33) k))
      exact J1 ⟨(0 : Int32), _, _, _, X0, e0, N0, Z0, O_0, K⟩
    · replace K : OGo p e below A0 s₁ (mkF m 34 #[iv p1, iv p2, iv p3, iv p4, iv p5, iv p6, iv kc, iv na, iv nb, .unset, .unset, .unset, .unset, .unset, .unset, .unset, .unset, .unset, .unset, .unset, .unset, .unset, .unset, .unset, .unset, .unset, .unset, .unset] [(.int 1)]) := fun t k => K t (XS.ifNo X0.here hx rfl (hb hby at_26) rfl ((if0 _ _).trans (feq hc26).1) (XS.iconst X0.here hx rfl (hb hby at_29) (XS.goto X0.here hx rfl (pc0 := 30) (pc' := 34) rfl (hb hby at_30) (by decide) (by decide) k)))
      exact J1 ⟨(1 : Int32), _, _, _, X0, e0, N0, Z0, O_0, K⟩
  clear K
  rintro ⟨sb, Tj1, hj1, lj1, Xj1, ej1, Nj1, Zj1, O_0_j1, K⟩
  obtain ⟨T2, h2, k2, X2, e2, E2, A2, Q2, st2⟩ := newPE Xj1 hx hZ (ow hw 0 rfl) ej1 (g := (mkF m 37 #[iv p1, iv p2, iv p3, iv p4, iv p5, iv p6, iv kc, iv na, iv nb, iv sb, .unset, .unset, .unset, .unset, .unset, .unset, .unset, .unset, .unset, .unset, .unset, .unset, .unset, .unset, .unset, .unset, .unset, .unset] [(.int 3)])) rfl (hb hby at_37) rfl (by decide) (cap := 3) (by decide) (by decide) (by decide) (by decide) (ad := "[C") (by decide)
  obtain ⟨b2, gz2⟩ : ∃ z, z = hj1.size := ⟨_, rfl⟩
  rw [← gz2] at A2 Q2 st2
  have g_b2 : n0 ≤ b2 := Nat.le_trans Zj1 (Nat.le_of_eq gz2.symm)
  have Z2 : n0 ≤ h2.size := Nat.le_trans Zj1 E2.1
  have V_b2 : OAr Z h2 b2 k2 .char [(.int (0 : Int32)), (.int (0 : Int32)), (.int (0 : Int32))] := OAr.new A2
  replace K : OGo p e below A0 T2 (mkF m 43 #[iv p1, iv p2, iv p3, iv p4, iv p5, iv p6, iv kc, iv na, iv nb, iv sb, .unset, .unset, .unset, .unset, .unset, .unset, .unset, .unset, .unset, .unset, .unset, .unset, .unset, .unset, .unset, .unset, .unset, .unset] [(.int (p2.toUInt32.toUInt16.toUInt32.toInt32)), (.int 0), (.ref b2), (.ref b2)]) := fun t k => K t (XS.istore Xj1.here hx rfl (hb hby at_34) rfl (l' := #[iv p1, iv p2, iv p3, iv p4, iv p5, iv p6, iv kc, iv na, iv nb, iv sb, .unset, .unset, .unset, .unset, .unset, .unset, .unset, .unset, .unset, .unset, .unset, .unset, .unset, .unset, .unset, .unset, .unset, .unset]) rfl (XS.iconst Xj1.here hx rfl (hb hby at_36) (st2 t (XS.dup X2.here hx rfl (hb hby at_39) rfl rfl (XS.iconst X2.here hx rfl (hb hby at_40) (XS.iloadN X2.here hx rfl (hb hby at_41) rfl (XS.i2c X2.here hx rfl (hb hby at_42) rfl k)))))))
  obtain ⟨xa, hv_xa⟩ : ∃ z : Int32, z = (p2.toUInt32.toUInt16.toUInt32.toInt32) := ⟨_, rfl⟩
  rw [← hv_xa] at K
  have rg_xa : 0 ≤ xa.toInt ∧ xa.toInt < 65536 := by rw [hv_xa]; exact (c_i2c _).2
  obtain ⟨T3, h3, X3, e3, W3, V3, st3⟩ := own_stC X2 hx hZ e2 V_b2 (j := (0 : Int32)) (by decide) (Nat.le_of_ble_eq_true rfl) (g := (mkF m 43 #[iv p1, iv p2, iv p3, iv p4, iv p5, iv p6, iv kc, iv na, iv nb, iv sb, .unset, .unset, .unset, .unset, .unset, .unset, .unset, .unset, .unset, .unset, .unset, .unset, .unset, .unset, .unset, .unset, .unset, .unset] [(.int xa), (.int 0), (.ref b2), (.ref b2)])) rfl rfl (hb hby at_43)
  have Z3 : n0 ≤ h3.size := Nat.le_trans Z2 (Keep.of_wr W3).1
  have V_b2_3 : OAr Z h3 b2 k2 .char [(.int xa), (.int (0 : Int32)), (.int (0 : Int32))] := V3.cast (by rw [own_narid rg_xa]; rfl)
  have N3 := Fr.snoc X3 Nj1 g_b2
  replace K : OGo p e below A0 T3 (mkF m 48 #[iv p1, iv p2, iv p3, iv p4, iv p5, iv p6, iv kc, iv na, iv nb, iv sb, .unset, .unset, .unset, .unset, .unset, .unset, .unset, .unset, .unset, .unset, .unset, .unset, .unset, .unset, .unset, .unset, .unset, .unset] [(.int (p3.toUInt32.toUInt16.toUInt32.toInt32)), (.int 1), (.ref b2), (.ref b2)]) := fun t k => K t (st3 t (XS.dup X3.here hx rfl (hb hby at_44) rfl rfl (XS.iconst X3.here hx rfl (hb hby at_45) (XS.iloadN X3.here hx rfl (hb hby at_46) rfl (XS.i2c X3.here hx rfl (hb hby at_47) rfl k)))))
  obtain ⟨xb, hv_xb⟩ : ∃ z : Int32, z = (p3.toUInt32.toUInt16.toUInt32.toInt32) := ⟨_, rfl⟩
  rw [← hv_xb] at K
  have rg_xb : 0 ≤ xb.toInt ∧ xb.toInt < 65536 := by rw [hv_xb]; exact (c_i2c _).2
  obtain ⟨T4, h4, X4, e4, W4, V4, st4⟩ := own_stC X3 hx hZ e3 V_b2_3 (j := (1 : Int32)) (by decide) (Nat.le_of_ble_eq_true rfl) (g := (mkF m 48 #[iv p1, iv p2, iv p3, iv p4, iv p5, iv p6, iv kc, iv na, iv nb, iv sb, .unset, .unset, .unset, .unset, .unset, .unset, .unset, .unset, .unset, .unset, .unset, .unset, .unset, .unset, .unset, .unset, .unset, .unset] [(.int xb), (.int 1), (.ref b2), (.ref b2)])) rfl rfl (hb hby at_48)
  have Z4 : n0 ≤ h4.size := Nat.le_trans Z3 (Keep.of_wr W4).1
  have V_b2_4 : OAr Z h4 b2 k2 .char [(.int xa), (.int xb), (.int (0 : Int32))] := V4.cast (by rw [own_narid rg_xb]; rfl)
  have N4 := Fr.snoc X4 N3 g_b2
  replace K : OGo p e below A0 T4 (mkF m 53 #[iv p1, iv p2, iv p3, iv p4, iv p5, iv p6, iv kc, iv na, iv nb, iv sb, .unset, .unset, .unset, .unset, .unset, .unset, .unset, .unset, .unset, .unset, .unset, .unset, .unset, .unset, .unset, .unset, .unset, .unset] [(.int (p4.toUInt32.toUInt16.toUInt32.toInt32)), (.int 2), (.ref b2), (.ref b2)]) := fun t k => K t (st4 t (XS.dup X4.here hx rfl (hb hby at_49) rfl rfl (XS.iconst X4.here hx rfl (hb hby at_50) (XS.iloadN X4.here hx rfl (hb hby at_51) rfl (XS.i2c X4.here hx rfl (hb hby at_52) rfl k)))))
  obtain ⟨xc, hv_xc⟩ : ∃ z : Int32, z = (p4.toUInt32.toUInt16.toUInt32.toInt32) := ⟨_, rfl⟩
  rw [← hv_xc] at K
  have rg_xc : 0 ≤ xc.toInt ∧ xc.toInt < 65536 := by rw [hv_xc]; exact (c_i2c _).2
  obtain ⟨T5, h5, X5, e5, W5, V5, st5⟩ := own_stC X4 hx hZ e4 V_b2_4 (j := (2 : Int32)) (by decide) (Nat.le_of_ble_eq_true rfl) (g := (mkF m 53 #[iv p1, iv p2, iv p3, iv p4, iv p5, iv p6, iv kc, iv na, iv nb, iv sb, .unset, .unset, .unset, .unset, .unset, .unset, .unset, .unset, .unset, .unset, .unset, .unset, .unset, .unset, .unset, .unset, .unset, .unset] [(.int xc), (.int 2), (.ref b2), (.ref b2)])) rfl rfl (hb hby at_53)
  have Z5 : n0 ≤ h5.size := Nat.le_trans Z4 (Keep.of_wr W5).1
  have V_b2_5 : OAr Z h5 b2 k2 .char [(.int xa), (.int xb), (.int xc)] := V5.cast (by rw [own_narid rg_xc]; rfl)
  have N5 := Fr.snoc X5 N4 g_b2
  obtain ⟨T6, h6, k6, X6, e6, E6, A6, Q6, st6⟩ := newPE X5 hx hZ (ow hw 0 rfl) e5 (g := (mkF m 57 #[iv p1, iv p2, iv p3, iv p4, iv p5, iv p6, iv kc, iv na, iv nb, iv sb, rv b2, .unset, .unset, .unset, .unset, .unset, .unset, .unset, .unset, .unset, .unset, .unset, .unset, .unset, .unset, .unset, .unset, .unset] [(.int 3)])) rfl (hb hby at_57) rfl (by decide) (cap := 3) (by decide) (by decide) (by decide) (by decide) (ad := "[C") (by decide)
  obtain ⟨b6, gz6⟩ : ∃ z, z = h5.size := ⟨_, rfl⟩
  rw [← gz6] at A6 Q6 st6
  have Q2_7 := (((Q2.wr W3).wr W4).wr W5)
  have ne_b2_b6 : b2 ≠ b6 := Nat.ne_of_lt (Nat.lt_of_lt_of_le Q2_7.lt (Nat.le_of_eq gz6.symm))
  have g_b6 : n0 ≤ b6 := Nat.le_trans Z5 (Nat.le_of_eq gz6.symm)
  have Z6 : n0 ≤ h6.size := Nat.le_trans Z5 E6.1
  have V_b6 : OAr Z h6 b6 k6 .char [(.int (0 : Int32)), (.int (0 : Int32)), (.int (0 : Int32))] := OAr.new A6
  replace K : OGo p e below A0 T6 (mkF m 64 #[iv p1, iv p2, iv p3, iv p4, iv p5, iv p6, iv kc, iv na, iv nb, iv sb, rv b2, .unset, .unset, .unset, .unset, .unset, .unset, .unset, .unset, .unset, .unset, .unset, .unset, .unset, .unset, .unset, .unset, .unset] [(.int (p5.toUInt32.toUInt16.toUInt32.toInt32)), (.int 0), (.ref b6), (.ref b6)]) := fun t k => K t (st5 t (XS.astore X5.here hx rfl (hb hby at_54) rfl rfl (l' := #[iv p1, iv p2, iv p3, iv p4, iv p5, iv p6, iv kc, iv na, iv nb, iv sb, rv b2, .unset, .unset, .unset, .unset, .unset, .unset, .unset, .unset, .unset, .unset, .unset, .unset, .unset, .unset, .unset, .unset, .unset]) rfl (XS.iconst X5.here hx rfl (hb hby at_56) (st6 t (XS.dup X6.here hx rfl (hb hby at_59) rfl rfl (XS.iconst X6.here hx rfl (hb hby at_60) (XS.iload X6.here hx rfl (hb hby at_61) rfl (XS.i2c X6.here hx rfl (hb hby at_63) rfl k))))))))
  obtain ⟨ya, hv_ya⟩ : ∃ z : Int32, z = (p5.toUInt32.toUInt16.toUInt32.toInt32) := ⟨_, rfl⟩
  rw [← hv_ya] at K
  have rg_ya : 0 ≤ ya.toInt ∧ ya.toInt < 65536 := by rw [hv_ya]; exact (c_i2c _).2
  obtain ⟨T8, h8, X8, e8, W8, V8, st8⟩ := own_stC X6 hx hZ e6 V_b6 (j := (0 : Int32)) (by decide) (Nat.le_of_ble_eq_true rfl) (g := (mkF m 64 #[iv p1, iv p2, iv p3, iv p4, iv p5, iv p6, iv kc, iv na, iv nb, iv sb, rv b2, .unset, .unset, .unset, .unset, .unset, .unset, .unset, .unset, .unset, .unset, .unset, .unset, .unset, .unset, .unset, .unset, .unset] [(.int ya), (.int 0), (.ref b6), (.ref b6)])) rfl rfl (hb hby at_64)
  have Z8 : n0 ≤ h8.size := Nat.le_trans Z6 (Keep.of_wr W8).1
  have V_b6_8 : OAr Z h8 b6 k6 .char [(.int ya), (.int (0 : Int32)), (.int (0 : Int32))] := V8.cast (by rw [own_narid rg_ya]; rfl)
  have N8 := Fr.snoc X8 N5 g_b6
  replace K : OGo p e below A0 T8 (mkF m 72 #[iv p1, iv p2, iv p3, iv p4, iv p5, iv p6, iv kc, iv na, iv nb, iv sb, rv b2, .unset, .unset, .unset, .unset, .unset, .unset, .unset, .unset, .unset, .unset, .unset, .unset, .unset, .unset, .unset, .unset, .unset] [(.int (((p2.toUInt32 >>> ((16 : Int32) &&& 31).toUInt32).toInt32).toUInt32.toUInt16.toUInt32.toInt32)), (.int 1), (.ref b6), (.ref b6)]) := fun t k => K t (st8 t (XS.dup X8.here hx rfl (hb hby at_65) rfl rfl (XS.iconst X8.here hx rfl (hb hby at_66) (XS.iloadN X8.here hx rfl (hb hby at_67) rfl (XS.bipush X8.here hx rfl (hb hby at_68) (XS.iushr X8.here hx rfl (hb hby at_70) rfl (XS.i2c X8.here hx rfl (hb hby at_71) rfl k)))))))
  obtain ⟨yb, hv_yb⟩ : ∃ z : Int32, z = (((p2.toUInt32 >>> ((16 : Int32) &&& 31).toUInt32).toInt32).toUInt32.toUInt16.toUInt32.toInt32) := ⟨_, rfl⟩
  rw [← hv_yb] at K
  have rg_yb : 0 ≤ yb.toInt ∧ yb.toInt < 65536 := by rw [hv_yb]; exact (c_i2c _).2
  obtain ⟨T9, h9, X9, e9, W9, V9, st9⟩ := own_stC X8 hx hZ e8 V_b6_8 (j := (1 : Int32)) (by decide) (Nat.le_of_ble_eq_true rfl) (g := (mkF m 72 #[iv p1, iv p2, iv p3, iv p4, iv p5, iv p6, iv kc, iv na, iv nb, iv sb, rv b2, .unset, .unset, .unset, .unset, .unset, .unset, .unset, .unset, .unset, .unset, .unset, .unset, .unset, .unset, .unset, .unset, .unset] [(.int yb), (.int 1), (.ref b6), (.ref b6)])) rfl rfl (hb hby at_72)
  have Z9 : n0 ≤ h9.size := Nat.le_trans Z8 (Keep.of_wr W9).1
  have V_b6_9 : OAr Z h9 b6 k6 .char [(.int ya), (.int yb), (.int (0 : Int32))] := V9.cast (by rw [own_narid rg_yb]; rfl)
  have N9 := Fr.snoc X9 N8 g_b6
  replace K : OGo p e below A0 T9 (mkF m 80 #[iv p1, iv p2, iv p3, iv p4, iv p5, iv p6, iv kc, iv na, iv nb, iv sb, rv b2, .unset, .unset, .unset, .unset, .unset, .unset, .unset, .unset, .unset, .unset, .unset, .unset, .unset, .unset, .unset, .unset, .unset] [(.int (((p3.toUInt32 >>> ((16 : Int32) &&& 31).toUInt32).toInt32).toUInt32.toUInt16.toUInt32.toInt32)), (.int 2), (.ref b6), (.ref b6)]) := fun t k => K t (st9 t (XS.dup X9.here hx rfl (hb hby at_73) rfl rfl (XS.iconst X9.here hx rfl (hb hby at_74) (XS.iloadN X9.here hx rfl (hb hby at_75) rfl (XS.bipush X9.here hx rfl (hb hby at_76) (XS.iushr X9.here hx rfl (hb hby at_78) rfl (XS.i2c X9.here hx rfl (hb hby at_79) rfl k)))))))
  obtain ⟨yc, hv_yc⟩ : ∃ z : Int32, z = (((p3.toUInt32 >>> ((16 : Int32) &&& 31).toUInt32).toInt32).toUInt32.toUInt16.toUInt32.toInt32) := ⟨_, rfl⟩
  rw [← hv_yc] at K
  have rg_yc : 0 ≤ yc.toInt ∧ yc.toInt < 65536 := by rw [hv_yc]; exact (c_i2c _).2
  obtain ⟨T10, h10, X10, e10, W10, V10, st10⟩ := own_stC X9 hx hZ e9 V_b6_9 (j := (2 : Int32)) (by decide) (Nat.le_of_ble_eq_true rfl) (g := (mkF m 80 #[iv p1, iv p2, iv p3, iv p4, iv p5, iv p6, iv kc, iv na, iv nb, iv sb, rv b2, .unset, .unset, .unset, .unset, .unset, .unset, .unset, .unset, .unset, .unset, .unset, .unset, .unset, .unset, .unset, .unset, .unset] [(.int yc), (.int 2), (.ref b6), (.ref b6)])) rfl rfl (hb hby at_80)
  have Z10 : n0 ≤ h10.size := Nat.le_trans Z9 (Keep.of_wr W10).1
  have V_b6_10 : OAr Z h10 b6 k6 .char [(.int ya), (.int yb), (.int yc)] := V10.cast (by rw [own_narid rg_yc]; rfl)
  have N10 := Fr.snoc X10 N9 g_b6
  obtain ⟨T11, h11, X11, e11, E11, A11, D11, -, st11⟩ := newO X10 hx hZ hown (ow hw 1 rfl) (ow hw 2 rfl) (ow hw 3 rfl) e10 (g := (mkF m 83 #[iv p1, iv p2, iv p3, iv p4, iv p5, iv p6, iv kc, iv na, iv nb, iv sb, rv b2, rv b6, .unset, .unset, .unset, .unset, .unset, .unset, .unset, .unset, .unset, .unset, .unset, .unset, .unset, .unset, .unset, .unset] [])) rfl (hb hby at_83) (by decide) (by decide)
  obtain ⟨b11, gz11⟩ : ∃ z, z = h10.size := ⟨_, rfl⟩
  rw [← gz11] at A11 D11 st11
  have Q2_12 := ((((Q2_7.ext E6).wr W8).wr W9).wr W10)
  have ne_b2_b11 : b2 ≠ b11 := Nat.ne_of_lt (Nat.lt_of_lt_of_le Q2_12.lt (Nat.le_of_eq gz11.symm))
  have Q6_13 := (((Q6.wr W8).wr W9).wr W10)
  have ne_b6_b11 : b6 ≠ b11 := Nat.ne_of_lt (Nat.lt_of_lt_of_le Q6_13.lt (Nat.le_of_eq gz11.symm))
  have g_b11 : n0 ≤ b11 := Nat.le_trans Z10 (Nat.le_of_eq gz11.symm)
  have Z11 : n0 ≤ h11.size := Nat.le_trans Z10 E11.1
  have F_narrowPages_b11 : Fld Z h11 b11 cN0 "narrowPages" "[[B" .null := D11 (Or.inl (ow hw 15 rfl)) (ty := (.array (.array .byte))) (by decide)
  have F_widePages_b11 : Fld Z h11 b11 cN0 "widePages" "[[C" .null := D11 (Or.inl (ow hw 19 rfl)) (ty := (.array (.array .char))) (by decide)
  have F_pageCount_b11 : Fld Z h11 b11 cN0 "pageCount" "I" (.int (0 : Int32)) := D11 (Or.inl (ow hw 21 rfl)) (ty := .int) (by decide)
  have F_capacity_b11 : Fld Z h11 b11 cN0 "capacity" "I" (.int (0 : Int32)) := D11 (Or.inl (ow hw 23 rfl)) (ty := .int) (by decide)
  have F_length_b11 : Fld Z h11 b11 cN0 "length" "I" (.int (0 : Int32)) := D11 (Or.inl (ow hw 39 rfl)) (ty := .int) (by decide)
  obtain ⟨_, _, ⟨T14, L14, k14, n14⟩, -, X14, ⟨Lc14, hQ14, l14, y14, z14⟩, st14⟩ := X11.specialBack hx (y := mN4) rfl hown (mvT hZ (ow hw 4 rfl)) (mvT hZ (ow hw 5 rfl)) (mvT hZ (ow hw 6 rfl)) (by decide) (backOf (W := 1) (rm_init l Z a0 hw [] b11 kc h11 n0 Z11 A11 F_narrowPages_b11 F_widePages_b11 F_pageCount_b11 F_capacity_b11 F_length_b11 g_b11 hkc) hZ (ow hw 6 rfl) (ow hw 3 rfl) (by decide) (by decide)) (g := (mkF m 89 #[iv p1, iv p2, iv p3, iv p4, iv p5, iv p6, iv kc, iv na, iv nb, iv sb, rv b2, rv b6, .unset, .unset, .unset, .unset, .unset, .unset, .unset, .unset, .unset, .unset, .unset, .unset, .unset, .unset, .unset, .unset] [(.int kc), (.ref b11), (.ref b11)])) rfl (by rw [hml]; rfl) (Steps.refl _) (a := b11) (argsL := [(.int kc)]) (rest := [(.ref b11)]) (lenOf pd__I_V rfl) rfl (by show 2 * 0 + _ ≤ _; exact Nat.le_of_eq rfl) (hb hby at_89) (fun _ _ => ⟨rfl, e11, (by decide : 3 + 3 ≤ _), (by decide : 11 + 17 ≤ _)⟩)
  dsimp only [Pt.U, Pt.locs, Pt.cells, Pt.slots] at X14 l14 y14 z14 st14 hQ14
  subst l14 y14 z14
  obtain ⟨hp14, e14⟩ : ∃ z, T14.heap = z := ⟨_, rfl⟩
  rw [e14] at hQ14
  obtain ⟨rfl, Nq14, np_14, wp_14, pg_14, kn_14, kw_14, kp_14, K14, P14_0, P14_1, P14_2, P14_3, P14_4, P14_5, P14_6, P14_7, P14_8, P14_9, P14_10, P14_11, P14_12, P14_13, P14_14, P14_15⟩ := hQ14
  have Q2_15 := (Q2_12.ext E11)
  have ne_b2_np_14 : b2 ≠ np_14 := Nat.ne_of_lt (Nat.lt_of_lt_of_le Q2_15.lt P14_0)
  have Q6_16 := (Q6_13.ext E11)
  have ne_b6_np_14 : b6 ≠ np_14 := Nat.ne_of_lt (Nat.lt_of_lt_of_le Q6_16.lt P14_0)
  have ne_b11_np_14 : b11 ≠ np_14 := Nat.ne_of_lt (Nat.lt_of_lt_of_le A11.lt P14_0)
  have g_np_14 : n0 ≤ np_14 := Nat.le_trans Z11 P14_0
  have ne_b2_wp_14 : b2 ≠ wp_14 := Nat.ne_of_lt (Nat.lt_of_lt_of_le Q2_15.lt P14_1)
  have ne_b6_wp_14 : b6 ≠ wp_14 := Nat.ne_of_lt (Nat.lt_of_lt_of_le Q6_16.lt P14_1)
  have ne_b11_wp_14 : b11 ≠ wp_14 := Nat.ne_of_lt (Nat.lt_of_lt_of_le A11.lt P14_1)
  have g_wp_14 : n0 ≤ wp_14 := Nat.le_trans Z11 P14_1
  have ne_b2_pg_14 : b2 ≠ pg_14 := Nat.ne_of_lt (Nat.lt_of_lt_of_le Q2_15.lt P14_2)
  have ne_b6_pg_14 : b6 ≠ pg_14 := Nat.ne_of_lt (Nat.lt_of_lt_of_le Q6_16.lt P14_2)
  have ne_b11_pg_14 : b11 ≠ pg_14 := Nat.ne_of_lt (Nat.lt_of_lt_of_le A11.lt P14_2)
  have g_pg_14 : n0 ≤ pg_14 := Nat.le_trans Z11 P14_2
  have Z14 : n0 ≤ hp14.size := Nat.le_trans Z11 K14.1
  have N14 := Fr.app N10 Nq14
  have ovn := P14_4
  have ovw := P14_5
  obtain ⟨cq17, kq17, qv17a, qv17b, qv17c⟩ := isOf hZ e14 P14_6
  obtain ⟨_, _, ⟨T17, L17, k17, n17⟩, -, X17, ⟨Lc17, hQ17, l17, y17, z17⟩, st17⟩ := X14.virtualBack hx (y := mN5) (z := mN5) hown (mvT hZ (ow hw 24 rfl)) (mvT hZ (ow hw 25 rfl)) (notFace_of_selects (args := #[]) (mvT hZ (ow hw 27 rfl))) (mvT hZ (ow hw 27 rfl)) (mvT hZ (ow hw 26 rfl)) (by decide) (backOf (W := 0) (rm_bytesN l Z a0 hw [] b11 np_14 wp_14 pg_14 kn_14 kw_14 kp_14 kc (0 : Int32) hp14 n0 Z14 P14_6 P14_7 P14_8 P14_9 P14_10 P14_11 P14_12 P14_13 P14_14 P14_15) hZ (ow hw 28 rfl) (ow hw 3 rfl) (by decide) (by decide)) qv17a qv17c (g := (mkF m 96 #[iv p1, iv p2, iv p3, iv p4, iv p5, iv p6, iv kc, iv na, iv nb, iv sb, rv b2, rv b6, rv b11, .unset, .unset, .unset, .unset, .unset, .unset, .unset, .unset, .unset, .unset, .unset, .unset, .unset, .unset, .unset] [(.ref b11)])) rfl (by rw [hml]; rfl) (Steps.refl _) (argsL := []) (rest := []) (lenOf pd___J rfl) rfl (by show 2 * 0 + _ ≤ _; exact Nat.le_of_eq rfl) (hb hby at_96) (fun _ _ => ⟨rfl, e14, (by decide : 6 + 0 ≤ _), (by decide : 28 + 0 ≤ _)⟩)
  dsimp only [Pt.U, Pt.locs, Pt.cells, Pt.slots] at X17 l17 y17 z17 st17 hQ17
  subst l17 y17 z17
  obtain ⟨rfl, Nq17, e17⟩ := hQ17
  have N17 := Fr.app N14 Nq17
  replace K : OGo p e below A0 T17 (mkF m 101 #[iv p1, iv p2, iv p3, iv p4, iv p5, iv p6, iv kc, iv na, iv nb, iv sb, rv b2, rv b6, rv b11, .val (.long ((0 : Int64) + (kc.toInt64))), .second, .unset, .unset, .unset, .unset, .unset, .unset, .unset, .unset, .unset, .unset, .unset, .unset, .unset] []) := fun t k => K t (st10 t (XS.astore X10.here hx rfl (hb hby at_81) rfl rfl (l' := #[iv p1, iv p2, iv p3, iv p4, iv p5, iv p6, iv kc, iv na, iv nb, iv sb, rv b2, rv b6, .unset, .unset, .unset, .unset, .unset, .unset, .unset, .unset, .unset, .unset, .unset, .unset, .unset, .unset, .unset, .unset]) rfl (st11 t (XS.dup X11.here hx rfl (hb hby at_86) rfl rfl (XS.iload X11.here hx rfl (hb hby at_87) rfl (st14.trans (XS.astore X14.here hx rfl (hb hby at_92) rfl rfl (l' := #[iv p1, iv p2, iv p3, iv p4, iv p5, iv p6, iv kc, iv na, iv nb, iv sb, rv b2, rv b6, rv b11, .unset, .unset, .unset, .unset, .unset, .unset, .unset, .unset, .unset, .unset, .unset, .unset, .unset, .unset, .unset]) rfl (XS.aload X14.here hx rfl (hb hby at_94) rfl rfl (st17.trans (XS.lstore X17.here hx rfl (hb hby at_99) rfl (l' := #[iv p1, iv p2, iv p3, iv p4, iv p5, iv p6, iv kc, iv na, iv nb, iv sb, rv b2, rv b6, rv b11, .val (.long ((0 : Int64) + (kc.toInt64))), .second, .unset, .unset, .unset, .unset, .unset, .unset, .unset, .unset, .unset, .unset, .unset, .unset, .unset]) rfl k))))))))))
  refine cps (A := ∃ (nx : Int32) (mid : Int64) (aft : Int64) (wa : Int32) (wb : Int32) (Tj18 : State) (hj18 : Heap) (lj18 : List Loc), Stand p l e room_1 s m #[(.int p1), (.int p2), (.int p3), (.int p4), (.int p5), (.int p6)] below meth c Tj18 lj18 13 101 ∧ Tj18.heap = hj18 ∧ Fr n0 lj18 ∧ n0 ≤ hj18.size ∧ (mid = own_sz wa (own_cap (0 : Int32) na kc)) ∧ (aft = own_sz wb (own_cap ((0 : Int32) + na) nx (own_cap (0 : Int32) na kc))) ∧ OGo p e below A0 Tj18 (mkF m 191 #[iv p1, iv p2, iv p3, iv p4, iv p5, iv p6, iv kc, iv na, iv nx, iv sb, rv b2, rv b6, rv b11, .val (.long ((0 : Int64) + (kc.toInt64))), .second, .val (.long mid), .second, .val (.long aft), .second, iv wa, iv wb, .unset, .unset, .unset, .unset, .unset, .unset, .unset] [])) (fun J18 => ?_) ?_
  · by_cases hw1 : own_w xa xb xc na
    · have O_0_j1_20 := ((((((((((O_0_j1.ext E2).wr W3 g_b2).wr W4 g_b2).wr W5 g_b2).ext E6).wr W8 g_b6).wr W9 g_b6).wr W10 g_b6).ext E11).keep K14 (allS g_b11 all0))
      have V_b2_21 := ((((((V_b2_5.ext E6).other W8 ne_b2_b6).other W9 ne_b2_b6).other W10 ne_b2_b6).ext E11).keep K14 (ninS ne_b2_b11 nin0))
      have nd22 : OND [b11, np_14, wp_14, pg_14, b2] := (ondS (allS ne_b11_np_14 (allS ne_b11_wp_14 (allS ne_b11_pg_14 (allS (Ne.symm ne_b2_b11) all0)))) (ondS (allS (own_pw P14_3 0 1 (by decide) rfl rfl) (allS (own_pw P14_3 0 2 (by decide) rfl rfl) (allS (Ne.symm ne_b2_np_14) all0))) (ondS (allS (own_pw P14_3 1 2 (by decide) rfl rfl) (allS (Ne.symm ne_b2_wp_14) all0)) (ondS (allS (Ne.symm ne_b2_pg_14) all0) (ondS all0 ond0)))))
      obtain ⟨cq19, kq19, qv19a, qv19b, qv19c⟩ := isOf hZ e17 P14_6
      obtain ⟨_, _, ⟨T19, L19, k19, n19⟩, -, X19, ⟨Lc19, hQ19, l19, y19, z19⟩, st19⟩ := X17.virtualBack hx (y := mN40) (z := mN40) hown (mvT hZ (ow hw 29 rfl)) (mvT hZ (ow hw 30 rfl)) (notFace_of_selects (args := #[]) (mvT hZ (ow hw 32 rfl))) (mvT hZ (ow hw 32 rfl)) (mvT hZ (ow hw 31 rfl)) (by decide) (backOf (W := 0) (rm_apcNW l Z a0 hw [] b11 b2 na np_14 wp_14 pg_14 kn_14 kw_14 kp_14 kc (0 : Int32) k2 xa xb xc cs fw hp14 n0 Z14 hST O_0_j1_20 ovn ovw P14_6 P14_7 P14_8 P14_9 P14_10 P14_11 P14_12 P14_13 P14_14 P14_15 V_b2_21 g_b11 g_np_14 g_wp_14 g_pg_14 nd22 (by have := own_t0; omega) hw1 (own_chI rg_xa rg_xb rg_xc)) hZ (ow hw 33 rfl) (ow hw 3 rfl) (by decide) (by decide)) qv19a qv19c (g := (mkF m 108 #[iv p1, iv p2, iv p3, iv p4, iv p5, iv p6, iv kc, iv na, iv nb, iv sb, rv b2, rv b6, rv b11, .val (.long ((0 : Int64) + (kc.toInt64))), .second, .unset, .unset, .unset, .unset, .unset, .unset, .unset, .unset, .unset, .unset, .unset, .unset, .unset] [(.int na), (.int 0), (.ref b2), (.ref b11)])) rfl (by rw [hml]; rfl) (Steps.refl _) (argsL := [(.ref b2), (.int (0 : Int32)), (.int na)]) (rest := []) (lenOf pd___CII_V rfl) rfl (by show 2 * 0 + _ ≤ _; exact Nat.le_of_eq rfl) (hb hby at_108) (fun _ _ => ⟨rfl, e17, (by decide : 6 + 2 ≤ _), (by decide : 28 + 30 ≤ _)⟩)
      dsimp only [Pt.U, Pt.locs, Pt.cells, Pt.slots] at X19 l19 y19 z19 st19 hQ19
      subst l19 y19 z19
      obtain ⟨hp19, e19⟩ : ∃ z, T19.heap = z := ⟨_, rfl⟩
      rw [e19] at hQ19
      obtain ⟨rfl, Nq19, pgr_19, kpr_19, cxr_19, K19, P19_0, P19_1, P19_2, P19_3, P19_4, P19_5, P19_6, P19_7, P19_8, P19_9, P19_10, P19_11⟩ := hQ19
      have Q2_23 := (Q2_15.keep K14)
      have ne_b2_pgr_19 : b2 ≠ pgr_19 := own_orne P19_0 ne_b2_pg_14 Q2_23.lt
      have Q6_24 := (Q6_16.keep K14)
      have ne_b6_pgr_19 : b6 ≠ pgr_19 := own_orne P19_0 ne_b6_pg_14 Q6_24.lt
      have ne_b11_pgr_19 : b11 ≠ pgr_19 := own_orne P19_0 ne_b11_pg_14 P14_6.lt
      have ne_np_14_pgr_19 : np_14 ≠ pgr_19 := own_orne P19_0 (own_pw P14_3 0 2 (by decide) rfl rfl) P14_12.lt
      have ne_wp_14_pgr_19 : wp_14 ≠ pgr_19 := own_orne P19_0 (own_pw P14_3 1 2 (by decide) rfl rfl) P14_13.lt
      have g_pgr_19 : n0 ≤ pgr_19 := own_orge P19_0 g_pg_14 Z14
      have Z19 : n0 ≤ hp19.size := Nat.le_trans Z14 K19.1
      have N19 := Fr.app N17 Nq19
      have hcx1 := P19_11
      have hJ1 := own_capI (cap := kc) (len := (0 : Int32)) (n := na) (by have := own_t0; omega) hcx1
      have hz1 : ((0 : Int32) + na).toInt = na.toInt := by rw [Int32.zero_add]
      obtain ⟨cq25, kq25, qv25a, qv25b, qv25c⟩ := isOf hZ e19 P19_1
      obtain ⟨_, _, ⟨T25, L25, k25, n25⟩, -, X25, ⟨Lc25, hQ25, l25, y25, z25⟩, st25⟩ := X19.virtualBack hx (y := mN5) (z := mN5) hown (mvT hZ (ow hw 24 rfl)) (mvT hZ (ow hw 25 rfl)) (notFace_of_selects (args := #[]) (mvT hZ (ow hw 27 rfl))) (mvT hZ (ow hw 27 rfl)) (mvT hZ (ow hw 26 rfl)) (by decide) (backOf (W := 0) (rm_bytesW l Z a0 hw [] b11 np_14 wp_14 pgr_19 kn_14 kw_14 kpr_19 cxr_19 ((0 : Int32) + na) hp19 n0 Z19 P19_1 P19_2 P19_3 P19_4 P19_5 P19_6 P19_7 P19_8 P19_9 P19_10) hZ (ow hw 28 rfl) (ow hw 3 rfl) (by decide) (by decide)) qv25a qv25c (g := (mkF m 113 #[iv p1, iv p2, iv p3, iv p4, iv p5, iv p6, iv kc, iv na, iv nb, iv sb, rv b2, rv b6, rv b11, .val (.long ((0 : Int64) + (kc.toInt64))), .second, .unset, .unset, .unset, .unset, .unset, .unset, .unset, .unset, .unset, .unset, .unset, .unset, .unset] [(.ref b11)])) rfl (by rw [hml]; rfl) (Steps.refl _) (argsL := []) (rest := []) (lenOf pd___J rfl) rfl (by show 2 * 0 + _ ≤ _; exact Nat.le_of_eq rfl) (hb hby at_113) (fun _ _ => ⟨rfl, e19, (by decide : 8 + 0 ≤ _), (by decide : 58 + 0 ≤ _)⟩)
      dsimp only [Pt.U, Pt.locs, Pt.cells, Pt.slots] at X25 l25 y25 z25 st25 hQ25
      subst l25 y25 z25
      obtain ⟨rfl, Nq25, e25⟩ := hQ25
      have N25 := Fr.app N19 Nq25
      replace K : OGo p e below A0 T25 (mkF m 120 #[iv p1, iv p2, iv p3, iv p4, iv p5, iv p6, iv kc, iv na, iv nb, iv sb, rv b2, rv b6, rv b11, .val (.long ((0 : Int64) + (kc.toInt64))), .second, .val (.long ((0 : Int64) + ((2 : Int64) * (cxr_19.toInt64)))), .second, .unset, .unset, .unset, .unset, .unset, .unset, .unset, .unset, .unset, .unset, .unset] [(.int sb)]) := fun t k => K t (XS.aload X17.here hx rfl (hb hby at_101) rfl rfl (XS.aload X17.here hx rfl (hb hby at_103) rfl rfl (XS.iconst X17.here hx rfl (hb hby at_105) (XS.iload X17.here hx rfl (hb hby at_106) rfl (st19.trans (XS.aload X19.here hx rfl (hb hby at_111) rfl rfl (st25.trans (XS.lstore X25.here hx rfl (hb hby at_116) rfl (l' := #[iv p1, iv p2, iv p3, iv p4, iv p5, iv p6, iv kc, iv na, iv nb, iv sb, rv b2, rv b6, rv b11, .val (.long ((0 : Int64) + (kc.toInt64))), .second, .val (.long ((0 : Int64) + ((2 : Int64) * (cxr_19.toInt64)))), .second, .unset, .unset, .unset, .unset, .unset, .unset, .unset, .unset, .unset, .unset, .unset]) rfl (XS.iload X25.here hx rfl (hb hby at_118) rfl k)))))))))
      by_cases hc120 : sb = (0 : Int32)
      · replace K : OGo p e below A0 T25 (mkF m 143 #[iv p1, iv p2, iv p3, iv p4, iv p5, iv p6, iv kc, iv na, iv nb, iv sb, rv b2, rv b6, rv b11, .val (.long ((0 : Int64) + (kc.toInt64))), .second, .val (.long ((0 : Int64) + ((2 : Int64) * (cxr_19.toInt64)))), .second, .unset, .unset, .unset, .unset, .unset, .unset, .unset, .unset, .unset, .unset, .unset] []) := fun t k => K t (XS.ifYes X25.here hx rfl (pc0 := 120) (pc' := 143) rfl (hb hby at_120) rfl ((if0 _ _).trans (teq hc120).1) (by decide) (by decide) k)
        have O_0_j1_27 := (O_0_j1_20.keep K19 (allS g_b11 (allS g_np_14 (allS g_wp_14 (allS g_pg_14 all0)))))
        have V_b6_28 := (((V_b6_10.ext E11).keep K14 (ninS ne_b6_b11 nin0)).keep K19 (ninS ne_b6_b11 (ninS ne_b6_np_14 (ninS ne_b6_wp_14 (ninS ne_b6_pg_14 nin0)))))
        have nd29 : OND [b11, np_14, wp_14, pgr_19, b6] := (ondS (allS ne_b11_np_14 (allS ne_b11_wp_14 (allS ne_b11_pgr_19 (allS (Ne.symm ne_b6_b11) all0)))) (ondS (allS (own_pw P14_3 0 1 (by decide) rfl rfl) (allS ne_np_14_pgr_19 (allS (Ne.symm ne_b6_np_14) all0))) (ondS (allS ne_wp_14_pgr_19 (allS (Ne.symm ne_b6_wp_14) all0)) (ondS (allS (Ne.symm ne_b6_pgr_19) all0) (ondS all0 ond0)))))
        obtain ⟨cq26, kq26, qv26a, qv26b, qv26c⟩ := isOf hZ e25 P19_1
        obtain ⟨_, _, ⟨T26, L26, k26, n26⟩, -, X26, ⟨Lc26, hQ26, l26, y26, z26⟩, st26⟩ := X25.virtualBack hx (y := mN40) (z := mN40) hown (mvT hZ (ow hw 29 rfl)) (mvT hZ (ow hw 30 rfl)) (notFace_of_selects (args := #[]) (mvT hZ (ow hw 32 rfl))) (mvT hZ (ow hw 32 rfl)) (mvT hZ (ow hw 31 rfl)) (by decide) (backOf (W := 0) (rm_apcWW l Z a0 hw [] b11 b6 nb np_14 wp_14 pgr_19 kn_14 kw_14 kpr_19 cxr_19 ((0 : Int32) + na) k6 ya yb yc cs fw hp19 n0 Z19 hST O_0_j1_27 ovn ovw P19_1 P19_2 P19_3 P19_4 P19_5 P19_6 P19_7 P19_8 P19_9 P19_10 V_b6_28 g_b11 g_np_14 g_wp_14 g_pgr_19 nd29 (by have := own_t0; omega) (own_chI rg_ya rg_yb rg_yc)) hZ (ow hw 33 rfl) (ow hw 3 rfl) (by decide) (by decide)) qv26a qv26c (g := (mkF m 150 #[iv p1, iv p2, iv p3, iv p4, iv p5, iv p6, iv kc, iv na, iv nb, iv sb, rv b2, rv b6, rv b11, .val (.long ((0 : Int64) + (kc.toInt64))), .second, .val (.long ((0 : Int64) + ((2 : Int64) * (cxr_19.toInt64)))), .second, .unset, .unset, .unset, .unset, .unset, .unset, .unset, .unset, .unset, .unset, .unset] [(.int nb), (.int 0), (.ref b6), (.ref b11)])) rfl (by rw [hml]; rfl) (Steps.refl _) (argsL := [(.ref b6), (.int (0 : Int32)), (.int nb)]) (rest := []) (lenOf pd___CII_V rfl) rfl (by show 2 * 0 + _ ≤ _; exact Nat.le_of_eq rfl) (hb hby at_150) (fun _ _ => ⟨rfl, e25, (by decide : 8 + 2 ≤ _), (by decide : 58 + 30 ≤ _)⟩)
        dsimp only [Pt.U, Pt.locs, Pt.cells, Pt.slots] at X26 l26 y26 z26 st26 hQ26
        subst l26 y26 z26
        obtain ⟨hp26, e26⟩ : ∃ z, T26.heap = z := ⟨_, rfl⟩
        rw [e26] at hQ26
        obtain ⟨rfl, Nq26, pgr_26, kpr_26, cxr_26, K26, P26_0, P26_1, P26_2, P26_3, P26_4, P26_5, P26_6, P26_7, P26_8, P26_9, P26_10, P26_11⟩ := hQ26
        have Q2_30 := (Q2_23.keep K19)
        have ne_b2_pgr_26 : b2 ≠ pgr_26 := own_orne P26_0 ne_b2_pgr_19 Q2_30.lt
        have Q6_31 := (Q6_24.keep K19)
        have ne_b6_pgr_26 : b6 ≠ pgr_26 := own_orne P26_0 ne_b6_pgr_19 Q6_31.lt
        have ne_b11_pgr_26 : b11 ≠ pgr_26 := own_orne P26_0 ne_b11_pgr_19 P19_1.lt
        have ne_np_14_pgr_26 : np_14 ≠ pgr_26 := own_orne P26_0 ne_np_14_pgr_19 P19_7.lt
        have ne_wp_14_pgr_26 : wp_14 ≠ pgr_26 := own_orne P26_0 ne_wp_14_pgr_19 P19_8.lt
        have E_pg_14_32 := (P14_14.keep K19)
        have g_pgr_26 : n0 ≤ pgr_26 := own_orge P26_0 g_pgr_19 Z19
        have Z26 : n0 ≤ hp26.size := Nat.le_trans Z19 K26.1
        have N26 := Fr.app N25 Nq26
        have hcx2 := P26_11
        obtain ⟨cq33, kq33, qv33a, qv33b, qv33c⟩ := isOf hZ e26 P26_1
        obtain ⟨_, _, ⟨T33, L33, k33, n33⟩, -, X33, ⟨Lc33, hQ33, l33, y33, z33⟩, st33⟩ := X26.virtualBack hx (y := mN5) (z := mN5) hown (mvT hZ (ow hw 24 rfl)) (mvT hZ (ow hw 25 rfl)) (notFace_of_selects (args := #[]) (mvT hZ (ow hw 27 rfl))) (mvT hZ (ow hw 27 rfl)) (mvT hZ (ow hw 26 rfl)) (by decide) (backOf (W := 0) (rm_bytesW l Z a0 hw [] b11 np_14 wp_14 pgr_26 kn_14 kw_14 kpr_26 cxr_26 (((0 : Int32) + na) + nb) hp26 n0 Z26 P26_1 P26_2 P26_3 P26_4 P26_5 P26_6 P26_7 P26_8 P26_9 P26_10) hZ (ow hw 28 rfl) (ow hw 3 rfl) (by decide) (by decide)) qv33a qv33c (g := (mkF m 155 #[iv p1, iv p2, iv p3, iv p4, iv p5, iv p6, iv kc, iv na, iv nb, iv sb, rv b2, rv b6, rv b11, .val (.long ((0 : Int64) + (kc.toInt64))), .second, .val (.long ((0 : Int64) + ((2 : Int64) * (cxr_19.toInt64)))), .second, .unset, .unset, .unset, .unset, .unset, .unset, .unset, .unset, .unset, .unset, .unset] [(.ref b11)])) rfl (by rw [hml]; rfl) (Steps.refl _) (argsL := []) (rest := []) (lenOf pd___J rfl) rfl (by show 2 * 0 + _ ≤ _; exact Nat.le_of_eq rfl) (hb hby at_155) (fun _ _ => ⟨rfl, e26, (by decide : 10 + 0 ≤ _), (by decide : 88 + 0 ≤ _)⟩)
        dsimp only [Pt.U, Pt.locs, Pt.cells, Pt.slots] at X33 l33 y33 z33 st33 hQ33
        subst l33 y33 z33
        obtain ⟨rfl, Nq33, e33⟩ := hQ33
        have N33 := Fr.app N26 Nq33
        have V_b2_35 := ((V_b2_21.keep K19 (ninS ne_b2_b11 (ninS ne_b2_np_14 (ninS ne_b2_wp_14 (ninS ne_b2_pg_14 nin0))))).keep K26 (ninS ne_b2_b11 (ninS ne_b2_np_14 (ninS ne_b2_wp_14 (ninS ne_b2_pgr_19 nin0)))))
        obtain ⟨_, _, ⟨T34, L34, k34, n34⟩, -, X34, ⟨Lc34, hQ34, l34, y34, z34⟩, st34⟩ := Jvm.LawKit.callS X33 hx (y := mN9) hown (mvT hZ (ow hw 70 rfl)) (mvT hZ (ow hw 71 rfl)) (mvT hZ (ow hw 72 rfl)) (mvT hZ (ow hw 73 rfl)) (by decide) (backOf (W := 0) (rm_any l Z a0 hw [] b2 na k2 xa xb xc hp26 n0 Z26 V_b2_35) hZ (ow hw 73 rfl) (ow hw 72 rfl) (by decide) (by decide)) (g := (mkF m 164 #[iv p1, iv p2, iv p3, iv p4, iv p5, iv p6, iv kc, iv na, iv nb, iv sb, rv b2, rv b6, rv b11, .val (.long ((0 : Int64) + (kc.toInt64))), .second, .val (.long ((0 : Int64) + ((2 : Int64) * (cxr_19.toInt64)))), .second, .val (.long ((0 : Int64) + ((2 : Int64) * (cxr_26.toInt64)))), .second, .unset, .unset, .unset, .unset, .unset, .unset, .unset, .unset, .unset] [(.int na), (.ref b2)])) rfl (by rw [hml]; rfl) (argsL := [(.ref b2), (.int na)]) (rest := []) (lenOf pd___CI_Z rfl) rfl (by show 2 * 0 + _ ≤ _; exact Nat.le_of_eq rfl) (hb hby at_164) (fun _ _ => ⟨rfl, e33, (by decide : 10 + 0 ≤ _), (by decide : 88 + 0 ≤ _)⟩)
        dsimp only [Pt.U, Pt.locs, Pt.cells, Pt.slots] at X34 l34 y34 z34 st34 hQ34
        subst l34 y34 z34
        obtain ⟨hp34, e34⟩ : ∃ z, T34.heap = z := ⟨_, rfl⟩
        rw [e34] at hQ34
        obtain ⟨rfl, Nq34, K34⟩ := hQ34
        have Z34 : n0 ≤ hp34.size := Nat.le_trans Z26 K34.1
        have N34 := Fr.app N33 Nq34
        replace K : OGo p e below A0 T34 (mkF m 191 #[iv p1, iv p2, iv p3, iv p4, iv p5, iv p6, iv kc, iv na, iv nb, iv sb, rv b2, rv b6, rv b11, .val (.long ((0 : Int64) + (kc.toInt64))), .second, .val (.long ((0 : Int64) + ((2 : Int64) * (cxr_19.toInt64)))), .second, .val (.long ((0 : Int64) + ((2 : Int64) * (cxr_26.toInt64)))), .second, iv (own_any xa xb xc na), iv 1, .unset, .unset, .unset, .unset, .unset, .unset, .unset] []) := fun t k => K t (XS.aload X25.here hx rfl (hb hby at_143) rfl rfl (XS.aload X25.here hx rfl (hb hby at_145) rfl rfl (XS.iconst X25.here hx rfl (hb hby at_147) (XS.iload X25.here hx rfl (hb hby at_148) rfl (st26.trans (XS.aload X26.here hx rfl (hb hby at_153) rfl rfl (st33.trans (XS.lstore X33.here hx rfl (hb hby at_158) rfl (l' := #[iv p1, iv p2, iv p3, iv p4, iv p5, iv p6, iv kc, iv na, iv nb, iv sb, rv b2, rv b6, rv b11, .val (.long ((0 : Int64) + (kc.toInt64))), .second, .val (.long ((0 : Int64) + ((2 : Int64) * (cxr_19.toInt64)))), .second, .val (.long ((0 : Int64) + ((2 : Int64) * (cxr_26.toInt64)))), .second, .unset, .unset, .unset, .unset, .unset, .unset, .unset, .unset, .unset]) rfl (XS.aload X33.here hx rfl (hb hby at_160) rfl rfl (XS.iload X33.here hx rfl (hb hby at_162) rfl (st34 t (XS.istore X34.here hx rfl (hb hby at_167) rfl (l' := #[iv p1, iv p2, iv p3, iv p4, iv p5, iv p6, iv kc, iv na, iv nb, iv sb, rv b2, rv b6, rv b11, .val (.long ((0 : Int64) + (kc.toInt64))), .second, .val (.long ((0 : Int64) + ((2 : Int64) * (cxr_19.toInt64)))), .second, .val (.long ((0 : Int64) + ((2 : Int64) * (cxr_26.toInt64)))), .second, iv (own_any xa xb xc na), .unset, .unset, .unset, .unset, .unset, .unset, .unset, .unset]) rfl (XS.iload X34.here hx rfl (hb hby at_169) rfl (XS.ifYes X34.here hx rfl (pc0 := 171) (pc' := 184) rfl (hb hby at_171) rfl ((if0 _ _).trans (feq ((own_any1 hw1) : ¬ ((own_any xa xb xc na) = (0 : Int32)))).2) (by decide) (by decide) (XS.iconst X34.here hx rfl (hb hby at_184) (XS.goto X34.here hx rfl (pc0 := 185) (pc' := 189) rfl (hb hby at_185) (by decide) (by decide) (XS.istore X34.here hx rfl (hb hby at_189) rfl (l' := #[iv p1, iv p2, iv p3, iv p4, iv p5, iv p6, iv kc, iv na, iv nb, iv sb, rv b2, rv b6, rv b11, .val (.long ((0 : Int64) + (kc.toInt64))), .second, .val (.long ((0 : Int64) + ((2 : Int64) * (cxr_19.toInt64)))), .second, .val (.long ((0 : Int64) + ((2 : Int64) * (cxr_26.toInt64)))), .second, iv (own_any xa xb xc na), iv 1, .unset, .unset, .unset, .unset, .unset, .unset, .unset]) rfl k)))))))))))))))))
        exact J18 ⟨nb, ((0 : Int64) + ((2 : Int64) * (cxr_19.toInt64))), ((0 : Int64) + ((2 : Int64) * (cxr_26.toInt64))), (own_any xa xb xc na), (1 : Int32), _, _, _, (X34.more (by decide) (by decide)), e34, N34, Z34, (by rw [own_anyE1 hw1, ← hcx1]; simp [own_sz]), (by rw [← hcx1, ← hcx2]; simp [own_sz]), K⟩
      · replace K : OGo p e below A0 T25 (mkF m 123 #[iv p1, iv p2, iv p3, iv p4, iv p5, iv p6, iv kc, iv na, iv nb, iv sb, rv b2, rv b6, rv b11, .val (.long ((0 : Int64) + (kc.toInt64))), .second, .val (.long ((0 : Int64) + ((2 : Int64) * (cxr_19.toInt64)))), .second, .unset, .unset, .unset, .unset, .unset, .unset, .unset, .unset, .unset, .unset, .unset] []) := fun t k => K t (XS.ifNo X25.here hx rfl (hb hby at_120) rfl ((if0 _ _).trans (feq hc120).1) k)
        by_cases hw2 : own_w ya yb yc (3 : Int32)
        · obtain ⟨T36, h36, X36, e36, E36, A36, D36, -, st36⟩ := newO X25 hx hZ hown (ow hw 75 rfl) (ow hw 76 rfl) (ow hw 77 rfl) e25 (g := (mkF m 128 #[iv p1, iv p2, iv p3, iv p4, iv p5, iv p6, iv kc, iv na, iv 3, iv sb, rv b2, rv b6, rv b11, .val (.long ((0 : Int64) + (kc.toInt64))), .second, .val (.long ((0 : Int64) + ((2 : Int64) * (cxr_19.toInt64)))), .second, .unset, .unset, .unset, .unset, .unset, .unset, .unset, .unset, .unset, .unset, .unset] [(.ref b11)])) rfl (hb hby at_128) (by decide) (by decide)
          obtain ⟨b36, gz36⟩ : ∃ z, z = hp19.size := ⟨_, rfl⟩
          rw [← gz36] at A36 D36 st36
          have Q2_37 := (Q2_23.keep K19)
          have ne_b2_b36 : b2 ≠ b36 := Nat.ne_of_lt (Nat.lt_of_lt_of_le Q2_37.lt (Nat.le_of_eq gz36.symm))
          have Q6_38 := (Q6_24.keep K19)
          have ne_b6_b36 : b6 ≠ b36 := Nat.ne_of_lt (Nat.lt_of_lt_of_le Q6_38.lt (Nat.le_of_eq gz36.symm))
          have ne_b11_b36 : b11 ≠ b36 := Nat.ne_of_lt (Nat.lt_of_lt_of_le P19_1.lt (Nat.le_of_eq gz36.symm))
          have ne_np_14_b36 : np_14 ≠ b36 := Nat.ne_of_lt (Nat.lt_of_lt_of_le P19_7.lt (Nat.le_of_eq gz36.symm))
          have ne_wp_14_b36 : wp_14 ≠ b36 := Nat.ne_of_lt (Nat.lt_of_lt_of_le P19_8.lt (Nat.le_of_eq gz36.symm))
          have E_pg_14_39 := (P14_14.keep K19)
          have ne_pg_14_b36 : pg_14 ≠ b36 := Nat.ne_of_lt (Nat.lt_of_lt_of_le E_pg_14_39.lt (Nat.le_of_eq gz36.symm))
          have ne_pgr_19_b36 : pgr_19 ≠ b36 := Nat.ne_of_lt (Nat.lt_of_lt_of_le P19_9.lt (Nat.le_of_eq gz36.symm))
          have g_b36 : n0 ≤ b36 := Nat.le_trans Z19 (Nat.le_of_eq gz36.symm)
          have Z36 : n0 ≤ h36.size := Nat.le_trans Z19 E36.1
          have F_coder_b36 : Fld Z h36 b36 cN1 "coder" "B" (.int (0 : Int32)) := D36 (Or.inr (ow hw 98 rfl)) (ty := .byte) (by decide)
          have F_value_b36 : Fld Z h36 b36 cN1 "value" "[B" .null := D36 (Or.inr (ow hw 100 rfl)) (ty := (.array .byte)) (by decide)
          have O_0_j1_41 := ((O_0_j1_20.keep K19 (allS g_b11 (allS g_np_14 (allS g_wp_14 (allS g_pg_14 all0))))).ext E36)
          have V_b6_42 := ((((V_b6_10.ext E11).keep K14 (ninS ne_b6_b11 nin0)).keep K19 (ninS ne_b6_b11 (ninS ne_b6_np_14 (ninS ne_b6_wp_14 (ninS ne_b6_pg_14 nin0))))).ext E36)
          obtain ⟨_, _, ⟨T40, L40, k40, n40⟩, -, X40, ⟨Lc40, hQ40, l40, y40, z40⟩, st40⟩ := X36.specialBack hx (y := mN34) rfl hown (mvT hZ (ow hw 78 rfl)) (mvT hZ (ow hw 79 rfl)) (mvT hZ (ow hw 80 rfl)) (by decide) (backOf (W := 2) (rm_si1U l Z a0 hw [] b36 b6 k6 ya yb yc cs fw h36 n0 Z36 hST O_0_j1_41 A36 F_value_b36 F_coder_b36 g_b36 (Ne.symm ne_b6_b36) V_b6_42 hw2 (own_chI rg_ya rg_yb rg_yc)) hZ (ow hw 80 rfl) (ow hw 77 rfl) (by decide) (by decide)) (g := (mkF m 134 #[iv p1, iv p2, iv p3, iv p4, iv p5, iv p6, iv kc, iv na, iv 3, iv sb, rv b2, rv b6, rv b11, .val (.long ((0 : Int64) + (kc.toInt64))), .second, .val (.long ((0 : Int64) + ((2 : Int64) * (cxr_19.toInt64)))), .second, .unset, .unset, .unset, .unset, .unset, .unset, .unset, .unset, .unset, .unset, .unset] [(.ref b6), (.ref b36), (.ref b36), (.ref b11)])) rfl (by rw [hml]; rfl) (Steps.refl _) (a := b36) (argsL := [(.ref b6)]) (rest := [(.ref b36), (.ref b11)]) (lenOf pd___C_V rfl) rfl (by show 2 * 0 + _ ≤ _; exact Nat.le_of_eq rfl) (hb hby at_134) (fun _ _ => ⟨rfl, e36, (by decide : 9 + 2 ≤ _), (by decide : 62 + 9 ≤ _)⟩)
          dsimp only [Pt.U, Pt.locs, Pt.cells, Pt.slots] at X40 l40 y40 z40 st40 hQ40
          subst l40 y40 z40
          obtain ⟨hp40, e40⟩ : ∃ z, T40.heap = z := ⟨_, rfl⟩
          rw [e40] at hQ40
          obtain ⟨rfl, Nq40, va_40, kv_40, K40, P40_0, P40_1, P40_2, P40_3⟩ := hQ40
          have Q2_43 := (Q2_37.ext E36)
          have ne_b2_va_40 : b2 ≠ va_40 := Nat.ne_of_lt (Nat.lt_of_lt_of_le Q2_43.lt P40_0)
          have Q6_44 := (Q6_38.ext E36)
          have ne_b6_va_40 : b6 ≠ va_40 := Nat.ne_of_lt (Nat.lt_of_lt_of_le Q6_44.lt P40_0)
          have E_b11_45 := (P19_1.ext E36)
          have ne_b11_va_40 : b11 ≠ va_40 := Nat.ne_of_lt (Nat.lt_of_lt_of_le E_b11_45.lt P40_0)
          have V_np_14_46 := (P19_7.ext E36)
          have ne_np_14_va_40 : np_14 ≠ va_40 := Nat.ne_of_lt (Nat.lt_of_lt_of_le V_np_14_46.lt P40_0)
          have V_wp_14_47 := (P19_8.ext E36)
          have ne_wp_14_va_40 : wp_14 ≠ va_40 := Nat.ne_of_lt (Nat.lt_of_lt_of_le V_wp_14_47.lt P40_0)
          have E_pg_14_48 := (E_pg_14_39.ext E36)
          have ne_pg_14_va_40 : pg_14 ≠ va_40 := Nat.ne_of_lt (Nat.lt_of_lt_of_le E_pg_14_48.lt P40_0)
          have E_pgr_19_49 := (P19_9.ext E36)
          have ne_pgr_19_va_40 : pgr_19 ≠ va_40 := Nat.ne_of_lt (Nat.lt_of_lt_of_le E_pgr_19_49.lt P40_0)
          have ne_b36_va_40 : b36 ≠ va_40 := Nat.ne_of_lt (Nat.lt_of_lt_of_le A36.lt P40_0)
          have g_va_40 : n0 ≤ va_40 := Nat.le_trans Z36 P40_0
          have Z40 : n0 ≤ hp40.size := Nat.le_trans Z36 K40.1
          have N40 := Fr.app N25 Nq40
          have O_0_j1_51 := (O_0_j1_41.keep K40 (allS g_b36 all0))
          have E_b11_52 := (E_b11_45.keep K40)
          have F_narrowPages_b11_53 := ((P19_2.ext E36).keep K40 (ninS ne_b11_b36 nin0))
          have F_widePages_b11_54 := ((P19_3.ext E36).keep K40 (ninS ne_b11_b36 nin0))
          have F_pageCount_b11_55 := ((P19_4.ext E36).keep K40 (ninS ne_b11_b36 nin0))
          have F_capacity_b11_56 := ((P19_5.ext E36).keep K40 (ninS ne_b11_b36 nin0))
          have F_length_b11_57 := ((P19_6.ext E36).keep K40 (ninS ne_b11_b36 nin0))
          have V_np_14_58 := (V_np_14_46.keep K40 (ninS ne_np_14_b36 nin0))
          have V_wp_14_59 := (V_wp_14_47.keep K40 (ninS ne_wp_14_b36 nin0))
          have E_pgr_19_60 := (E_pgr_19_49.keep K40)
          have G_pgr_19_61 := ((P19_10.ext E36).keep K40 (ninS ne_pgr_19_b36 nin0))
          have A36_62 := (A36.keep K40)
          have nd63 : OND [b11, np_14, wp_14, pgr_19, b36, va_40] := (ondS (allS ne_b11_np_14 (allS ne_b11_wp_14 (allS ne_b11_pgr_19 (allS ne_b11_b36 (allS ne_b11_va_40 all0))))) (ondS (allS (own_pw P14_3 0 1 (by decide) rfl rfl) (allS ne_np_14_pgr_19 (allS ne_np_14_b36 (allS ne_np_14_va_40 all0)))) (ondS (allS ne_wp_14_pgr_19 (allS ne_wp_14_b36 (allS ne_wp_14_va_40 all0))) (ondS (allS ne_pgr_19_b36 (allS ne_pgr_19_va_40 all0)) (ondS (allS ne_b36_va_40 all0) (ondS all0 ond0))))))
          obtain ⟨cq50, kq50, qv50a, qv50b, qv50c⟩ := isOf hZ e40 E_b11_52
          obtain ⟨_, _, ⟨T50, L50, k50, n50⟩, -, X50, ⟨Lc50, hQ50, l50, y50, z50⟩, st50⟩ := X40.virtualBack hx (y := mN41) (z := mN41) hown (mvT hZ (ow hw 101 rfl)) (mvT hZ (ow hw 102 rfl)) (notFace_of_selects (args := #[]) (mvT hZ (ow hw 104 rfl))) (mvT hZ (ow hw 104 rfl)) (mvT hZ (ow hw 103 rfl)) (by decide) (backOf (W := 0) (rm_apsWU l Z a0 hw [] b11 b36 np_14 wp_14 pgr_19 kn_14 kw_14 kpr_19 cxr_19 ((0 : Int32) + na) va_40 kv_40 ya yb yc cs fw hp40 n0 Z40 hST O_0_j1_51 ovn ovw E_b11_52 F_narrowPages_b11_53 F_widePages_b11_54 F_pageCount_b11_55 F_capacity_b11_56 F_length_b11_57 V_np_14_58 V_wp_14_59 E_pgr_19_60 G_pgr_19_61 P40_1 P40_2 P40_3 A36_62 g_b11 g_np_14 g_wp_14 g_pgr_19 nd63 (by have := own_t0; have := own_3; omega) (own_chI rg_ya rg_yb rg_yc)) hZ (ow hw 105 rfl) (ow hw 3 rfl) (by decide) (by decide)) qv50a qv50c (g := (mkF m 137 #[iv p1, iv p2, iv p3, iv p4, iv p5, iv p6, iv kc, iv na, iv 3, iv sb, rv b2, rv b6, rv b11, .val (.long ((0 : Int64) + (kc.toInt64))), .second, .val (.long ((0 : Int64) + ((2 : Int64) * (cxr_19.toInt64)))), .second, .unset, .unset, .unset, .unset, .unset, .unset, .unset, .unset, .unset, .unset, .unset] [(.ref b36), (.ref b11)])) rfl (by rw [hml]; rfl) (Steps.refl _) (argsL := [(.ref b36)]) (rest := []) (lenOf pd__Ljava_lang_String__V rfl) rfl (by show 2 * 0 + _ ≤ _; exact Nat.le_of_eq rfl) (hb hby at_137) (fun _ _ => ⟨rfl, e40, (by decide : 11 + 2 ≤ _), (by decide : 71 + 30 ≤ _)⟩)
          dsimp only [Pt.U, Pt.locs, Pt.cells, Pt.slots] at X50 l50 y50 z50 st50 hQ50
          subst l50 y50 z50
          obtain ⟨hp50, e50⟩ : ∃ z, T50.heap = z := ⟨_, rfl⟩
          rw [e50] at hQ50
          obtain ⟨rfl, Nq50, pgr_50, kpr_50, cxr_50, K50, P50_0, P50_1, P50_2, P50_3, P50_4, P50_5, P50_6, P50_7, P50_8, P50_9, P50_10, P50_11⟩ := hQ50
          have Q2_64 := (Q2_43.keep K40)
          have ne_b2_pgr_50 : b2 ≠ pgr_50 := own_orne P50_0 ne_b2_pgr_19 Q2_64.lt
          have Q6_65 := (Q6_44.keep K40)
          have ne_b6_pgr_50 : b6 ≠ pgr_50 := own_orne P50_0 ne_b6_pgr_19 Q6_65.lt
          have ne_b11_pgr_50 : b11 ≠ pgr_50 := own_orne P50_0 ne_b11_pgr_19 E_b11_52.lt
          have ne_np_14_pgr_50 : np_14 ≠ pgr_50 := own_orne P50_0 ne_np_14_pgr_19 V_np_14_58.lt
          have ne_wp_14_pgr_50 : wp_14 ≠ pgr_50 := own_orne P50_0 ne_wp_14_pgr_19 V_wp_14_59.lt
          have E_pg_14_66 := (E_pg_14_48.keep K40)
          have ne_b36_pgr_50 : b36 ≠ pgr_50 := own_orne P50_0 (Ne.symm ne_pgr_19_b36) A36_62.lt
          have ne_va_40_pgr_50 : va_40 ≠ pgr_50 := own_orne P50_0 (Ne.symm ne_pgr_19_va_40) P40_3.lt
          have g_pgr_50 : n0 ≤ pgr_50 := own_orge P50_0 g_pgr_19 Z40
          have Z50 : n0 ≤ hp50.size := Nat.le_trans Z40 K50.1
          have N50 := Fr.app N40 Nq50
          have hcx2 := P50_11
          obtain ⟨cq67, kq67, qv67a, qv67b, qv67c⟩ := isOf hZ e50 P50_1
          obtain ⟨_, _, ⟨T67, L67, k67, n67⟩, -, X67, ⟨Lc67, hQ67, l67, y67, z67⟩, st67⟩ := X50.virtualBack hx (y := mN5) (z := mN5) hown (mvT hZ (ow hw 24 rfl)) (mvT hZ (ow hw 25 rfl)) (notFace_of_selects (args := #[]) (mvT hZ (ow hw 27 rfl))) (mvT hZ (ow hw 27 rfl)) (mvT hZ (ow hw 26 rfl)) (by decide) (backOf (W := 0) (rm_bytesW l Z a0 hw [] b11 np_14 wp_14 pgr_50 kn_14 kw_14 kpr_50 cxr_50 (((0 : Int32) + na) + (3 : Int32)) hp50 n0 Z50 P50_1 P50_2 P50_3 P50_4 P50_5 P50_6 P50_7 P50_8 P50_9 P50_10) hZ (ow hw 28 rfl) (ow hw 3 rfl) (by decide) (by decide)) qv67a qv67c (g := (mkF m 155 #[iv p1, iv p2, iv p3, iv p4, iv p5, iv p6, iv kc, iv na, iv 3, iv sb, rv b2, rv b6, rv b11, .val (.long ((0 : Int64) + (kc.toInt64))), .second, .val (.long ((0 : Int64) + ((2 : Int64) * (cxr_19.toInt64)))), .second, .unset, .unset, .unset, .unset, .unset, .unset, .unset, .unset, .unset, .unset, .unset] [(.ref b11)])) rfl (by rw [hml]; rfl) (Steps.refl _) (argsL := []) (rest := []) (lenOf pd___J rfl) rfl (by show 2 * 0 + _ ≤ _; exact Nat.le_of_eq rfl) (hb hby at_155) (fun _ _ => ⟨rfl, e50, (by decide : 13 + 0 ≤ _), (by decide : 101 + 0 ≤ _)⟩)
          dsimp only [Pt.U, Pt.locs, Pt.cells, Pt.slots] at X67 l67 y67 z67 st67 hQ67
          subst l67 y67 z67
          obtain ⟨rfl, Nq67, e67⟩ := hQ67
          have N67 := Fr.app N50 Nq67
          have V_b2_69 := ((((V_b2_21.keep K19 (ninS ne_b2_b11 (ninS ne_b2_np_14 (ninS ne_b2_wp_14 (ninS ne_b2_pg_14 nin0))))).ext E36).keep K40 (ninS ne_b2_b36 nin0)).keep K50 (ninS ne_b2_b11 (ninS ne_b2_np_14 (ninS ne_b2_wp_14 (ninS ne_b2_pgr_19 nin0)))))
          obtain ⟨_, _, ⟨T68, L68, k68, n68⟩, -, X68, ⟨Lc68, hQ68, l68, y68, z68⟩, st68⟩ := Jvm.LawKit.callS X67 hx (y := mN9) hown (mvT hZ (ow hw 70 rfl)) (mvT hZ (ow hw 71 rfl)) (mvT hZ (ow hw 72 rfl)) (mvT hZ (ow hw 73 rfl)) (by decide) (backOf (W := 0) (rm_any l Z a0 hw [] b2 na k2 xa xb xc hp50 n0 Z50 V_b2_69) hZ (ow hw 73 rfl) (ow hw 72 rfl) (by decide) (by decide)) (g := (mkF m 164 #[iv p1, iv p2, iv p3, iv p4, iv p5, iv p6, iv kc, iv na, iv 3, iv sb, rv b2, rv b6, rv b11, .val (.long ((0 : Int64) + (kc.toInt64))), .second, .val (.long ((0 : Int64) + ((2 : Int64) * (cxr_19.toInt64)))), .second, .val (.long ((0 : Int64) + ((2 : Int64) * (cxr_50.toInt64)))), .second, .unset, .unset, .unset, .unset, .unset, .unset, .unset, .unset, .unset] [(.int na), (.ref b2)])) rfl (by rw [hml]; rfl) (argsL := [(.ref b2), (.int na)]) (rest := []) (lenOf pd___CI_Z rfl) rfl (by show 2 * 0 + _ ≤ _; exact Nat.le_of_eq rfl) (hb hby at_164) (fun _ _ => ⟨rfl, e67, (by decide : 13 + 0 ≤ _), (by decide : 101 + 0 ≤ _)⟩)
          dsimp only [Pt.U, Pt.locs, Pt.cells, Pt.slots] at X68 l68 y68 z68 st68 hQ68
          subst l68 y68 z68
          obtain ⟨hp68, e68⟩ : ∃ z, T68.heap = z := ⟨_, rfl⟩
          rw [e68] at hQ68
          obtain ⟨rfl, Nq68, K68⟩ := hQ68
          have Z68 : n0 ≤ hp68.size := Nat.le_trans Z50 K68.1
          have N68 := Fr.app N67 Nq68
          replace K : OGo p e below A0 T68 (mkF m 189 #[iv p1, iv p2, iv p3, iv p4, iv p5, iv p6, iv kc, iv na, iv 3, iv sb, rv b2, rv b6, rv b11, .val (.long ((0 : Int64) + (kc.toInt64))), .second, .val (.long ((0 : Int64) + ((2 : Int64) * (cxr_19.toInt64)))), .second, .val (.long ((0 : Int64) + ((2 : Int64) * (cxr_50.toInt64)))), .second, iv (own_any xa xb xc na), .unset, .unset, .unset, .unset, .unset, .unset, .unset, .unset] [(.int 1)]) := fun t k => K t (XS.iconst X25.here hx rfl (hb hby at_123) (XS.istore X25.here hx rfl (hb hby at_124) rfl (l' := #[iv p1, iv p2, iv p3, iv p4, iv p5, iv p6, iv kc, iv na, iv 3, iv sb, rv b2, rv b6, rv b11, .val (.long ((0 : Int64) + (kc.toInt64))), .second, .val (.long ((0 : Int64) + ((2 : Int64) * (cxr_19.toInt64)))), .second, .unset, .unset, .unset, .unset, .unset, .unset, .unset, .unset, .unset, .unset, .unset]) rfl (XS.aload X25.here hx rfl (hb hby at_126) rfl rfl (st36 t (XS.dup X36.here hx rfl (hb hby at_131) rfl rfl (XS.aload X36.here hx rfl (hb hby at_132) rfl rfl (st40.trans (st50.trans (XS.goto X50.here hx rfl (pc0 := 140) (pc' := 153) rfl (hb hby at_140) (by decide) (by decide) (XS.aload X50.here hx rfl (hb hby at_153) rfl rfl (st67.trans (XS.lstore X67.here hx rfl (hb hby at_158) rfl (l' := #[iv p1, iv p2, iv p3, iv p4, iv p5, iv p6, iv kc, iv na, iv 3, iv sb, rv b2, rv b6, rv b11, .val (.long ((0 : Int64) + (kc.toInt64))), .second, .val (.long ((0 : Int64) + ((2 : Int64) * (cxr_19.toInt64)))), .second, .val (.long ((0 : Int64) + ((2 : Int64) * (cxr_50.toInt64)))), .second, .unset, .unset, .unset, .unset, .unset, .unset, .unset, .unset, .unset]) rfl (XS.aload X67.here hx rfl (hb hby at_160) rfl rfl (XS.iload X67.here hx rfl (hb hby at_162) rfl (st68 t (XS.istore X68.here hx rfl (hb hby at_167) rfl (l' := #[iv p1, iv p2, iv p3, iv p4, iv p5, iv p6, iv kc, iv na, iv 3, iv sb, rv b2, rv b6, rv b11, .val (.long ((0 : Int64) + (kc.toInt64))), .second, .val (.long ((0 : Int64) + ((2 : Int64) * (cxr_19.toInt64)))), .second, .val (.long ((0 : Int64) + ((2 : Int64) * (cxr_50.toInt64)))), .second, iv (own_any xa xb xc na), .unset, .unset, .unset, .unset, .unset, .unset, .unset, .unset]) rfl (XS.iload X68.here hx rfl (hb hby at_169) rfl (XS.ifYes X68.here hx rfl (pc0 := 171) (pc' := 184) rfl (hb hby at_171) rfl ((if0 _ _).trans (feq ((own_any1 hw1) : ¬ ((own_any xa xb xc na) = (0 : Int32)))).2) (by decide) (by decide) (XS.iconst X68.here hx rfl (hb hby at_184) (XS.goto X68.here hx rfl (pc0 := 185) (pc' := 189) rfl (hb hby at_185) (by decide) (by decide) k))))))))))))))))))))
          replace K : OGo p e below A0 T68 (mkF m 191 #[iv p1, iv p2, iv p3, iv p4, iv p5, iv p6, iv kc, iv na, iv 3, iv sb, rv b2, rv b6, rv b11, .val (.long ((0 : Int64) + (kc.toInt64))), .second, .val (.long ((0 : Int64) + ((2 : Int64) * (cxr_19.toInt64)))), .second, .val (.long ((0 : Int64) + ((2 : Int64) * (cxr_50.toInt64)))), .second, iv (own_any xa xb xc na), iv 1, .unset, .unset, .unset, .unset, .unset, .unset, .unset] []) := fun t k => K t (XS.istore X68.here hx rfl (hb hby at_189) rfl (l' := #[iv p1, iv p2, iv p3, iv p4, iv p5, iv p6, iv kc, iv na, iv 3, iv sb, rv b2, rv b6, rv b11, .val (.long ((0 : Int64) + (kc.toInt64))), .second, .val (.long ((0 : Int64) + ((2 : Int64) * (cxr_19.toInt64)))), .second, .val (.long ((0 : Int64) + ((2 : Int64) * (cxr_50.toInt64)))), .second, iv (own_any xa xb xc na), iv 1, .unset, .unset, .unset, .unset, .unset, .unset, .unset]) rfl k)
          exact J18 ⟨(3 : Int32), ((0 : Int64) + ((2 : Int64) * (cxr_19.toInt64))), ((0 : Int64) + ((2 : Int64) * (cxr_50.toInt64))), (own_any xa xb xc na), (1 : Int32), _, _, _, X68, e68, N68, Z68, (by rw [own_anyE1 hw1, ← hcx1]; simp [own_sz]), (by rw [← hcx1, ← hcx2]; simp [own_sz]), K⟩
        · obtain ⟨T70, h70, X70, e70, E70, A70, D70, -, st70⟩ := newO X25 hx hZ hown (ow hw 75 rfl) (ow hw 76 rfl) (ow hw 77 rfl) e25 (g := (mkF m 128 #[iv p1, iv p2, iv p3, iv p4, iv p5, iv p6, iv kc, iv na, iv 3, iv sb, rv b2, rv b6, rv b11, .val (.long ((0 : Int64) + (kc.toInt64))), .second, .val (.long ((0 : Int64) + ((2 : Int64) * (cxr_19.toInt64)))), .second, .unset, .unset, .unset, .unset, .unset, .unset, .unset, .unset, .unset, .unset, .unset] [(.ref b11)])) rfl (hb hby at_128) (by decide) (by decide)
          obtain ⟨b70, gz70⟩ : ∃ z, z = hp19.size := ⟨_, rfl⟩
          rw [← gz70] at A70 D70 st70
          have Q2_71 := (Q2_23.keep K19)
          have ne_b2_b70 : b2 ≠ b70 := Nat.ne_of_lt (Nat.lt_of_lt_of_le Q2_71.lt (Nat.le_of_eq gz70.symm))
          have Q6_72 := (Q6_24.keep K19)
          have ne_b6_b70 : b6 ≠ b70 := Nat.ne_of_lt (Nat.lt_of_lt_of_le Q6_72.lt (Nat.le_of_eq gz70.symm))
          have ne_b11_b70 : b11 ≠ b70 := Nat.ne_of_lt (Nat.lt_of_lt_of_le P19_1.lt (Nat.le_of_eq gz70.symm))
          have ne_np_14_b70 : np_14 ≠ b70 := Nat.ne_of_lt (Nat.lt_of_lt_of_le P19_7.lt (Nat.le_of_eq gz70.symm))
          have ne_wp_14_b70 : wp_14 ≠ b70 := Nat.ne_of_lt (Nat.lt_of_lt_of_le P19_8.lt (Nat.le_of_eq gz70.symm))
          have E_pg_14_73 := (P14_14.keep K19)
          have ne_pg_14_b70 : pg_14 ≠ b70 := Nat.ne_of_lt (Nat.lt_of_lt_of_le E_pg_14_73.lt (Nat.le_of_eq gz70.symm))
          have ne_pgr_19_b70 : pgr_19 ≠ b70 := Nat.ne_of_lt (Nat.lt_of_lt_of_le P19_9.lt (Nat.le_of_eq gz70.symm))
          have g_b70 : n0 ≤ b70 := Nat.le_trans Z19 (Nat.le_of_eq gz70.symm)
          have Z70 : n0 ≤ h70.size := Nat.le_trans Z19 E70.1
          have F_coder_b70 : Fld Z h70 b70 cN1 "coder" "B" (.int (0 : Int32)) := D70 (Or.inr (ow hw 98 rfl)) (ty := .byte) (by decide)
          have F_value_b70 : Fld Z h70 b70 cN1 "value" "[B" .null := D70 (Or.inr (ow hw 100 rfl)) (ty := (.array .byte)) (by decide)
          have O_0_j1_75 := ((O_0_j1_20.keep K19 (allS g_b11 (allS g_np_14 (allS g_wp_14 (allS g_pg_14 all0))))).ext E70)
          have V_b6_76 := ((((V_b6_10.ext E11).keep K14 (ninS ne_b6_b11 nin0)).keep K19 (ninS ne_b6_b11 (ninS ne_b6_np_14 (ninS ne_b6_wp_14 (ninS ne_b6_pg_14 nin0))))).ext E70)
          obtain ⟨_, _, ⟨T74, L74, k74, n74⟩, -, X74, ⟨Lc74, hQ74, l74, y74, z74⟩, st74⟩ := X70.specialBack hx (y := mN34) rfl hown (mvT hZ (ow hw 78 rfl)) (mvT hZ (ow hw 79 rfl)) (mvT hZ (ow hw 80 rfl)) (by decide) (backOf (W := 2) (rm_si1L l Z a0 hw [] b70 b6 k6 ya yb yc cs fw h70 n0 Z70 hST O_0_j1_75 A70 F_value_b70 F_coder_b70 g_b70 (Ne.symm ne_b6_b70) V_b6_76 hw2) hZ (ow hw 80 rfl) (ow hw 77 rfl) (by decide) (by decide)) (g := (mkF m 134 #[iv p1, iv p2, iv p3, iv p4, iv p5, iv p6, iv kc, iv na, iv 3, iv sb, rv b2, rv b6, rv b11, .val (.long ((0 : Int64) + (kc.toInt64))), .second, .val (.long ((0 : Int64) + ((2 : Int64) * (cxr_19.toInt64)))), .second, .unset, .unset, .unset, .unset, .unset, .unset, .unset, .unset, .unset, .unset, .unset] [(.ref b6), (.ref b70), (.ref b70), (.ref b11)])) rfl (by rw [hml]; rfl) (Steps.refl _) (a := b70) (argsL := [(.ref b6)]) (rest := [(.ref b70), (.ref b11)]) (lenOf pd___C_V rfl) rfl (by show 2 * 0 + _ ≤ _; exact Nat.le_of_eq rfl) (hb hby at_134) (fun _ _ => ⟨rfl, e70, (by decide : 9 + 2 ≤ _), (by decide : 62 + 9 ≤ _)⟩)
          dsimp only [Pt.U, Pt.locs, Pt.cells, Pt.slots] at X74 l74 y74 z74 st74 hQ74
          subst l74 y74 z74
          obtain ⟨hp74, e74⟩ : ∃ z, T74.heap = z := ⟨_, rfl⟩
          rw [e74] at hQ74
          obtain ⟨rfl, Nq74, va_74, kv_74, K74, P74_0, P74_1, P74_2, P74_3⟩ := hQ74
          have Q2_77 := (Q2_71.ext E70)
          have ne_b2_va_74 : b2 ≠ va_74 := Nat.ne_of_lt (Nat.lt_of_lt_of_le Q2_77.lt P74_0)
          have Q6_78 := (Q6_72.ext E70)
          have ne_b6_va_74 : b6 ≠ va_74 := Nat.ne_of_lt (Nat.lt_of_lt_of_le Q6_78.lt P74_0)
          have E_b11_79 := (P19_1.ext E70)
          have ne_b11_va_74 : b11 ≠ va_74 := Nat.ne_of_lt (Nat.lt_of_lt_of_le E_b11_79.lt P74_0)
          have V_np_14_80 := (P19_7.ext E70)
          have ne_np_14_va_74 : np_14 ≠ va_74 := Nat.ne_of_lt (Nat.lt_of_lt_of_le V_np_14_80.lt P74_0)
          have V_wp_14_81 := (P19_8.ext E70)
          have ne_wp_14_va_74 : wp_14 ≠ va_74 := Nat.ne_of_lt (Nat.lt_of_lt_of_le V_wp_14_81.lt P74_0)
          have E_pg_14_82 := (E_pg_14_73.ext E70)
          have ne_pg_14_va_74 : pg_14 ≠ va_74 := Nat.ne_of_lt (Nat.lt_of_lt_of_le E_pg_14_82.lt P74_0)
          have E_pgr_19_83 := (P19_9.ext E70)
          have ne_pgr_19_va_74 : pgr_19 ≠ va_74 := Nat.ne_of_lt (Nat.lt_of_lt_of_le E_pgr_19_83.lt P74_0)
          have ne_b70_va_74 : b70 ≠ va_74 := Nat.ne_of_lt (Nat.lt_of_lt_of_le A70.lt P74_0)
          have g_va_74 : n0 ≤ va_74 := Nat.le_trans Z70 P74_0
          have Z74 : n0 ≤ hp74.size := Nat.le_trans Z70 K74.1
          have N74 := Fr.app N25 Nq74
          have O_0_j1_85 := (O_0_j1_75.keep K74 (allS g_b70 all0))
          have E_b11_86 := (E_b11_79.keep K74)
          have F_narrowPages_b11_87 := ((P19_2.ext E70).keep K74 (ninS ne_b11_b70 nin0))
          have F_widePages_b11_88 := ((P19_3.ext E70).keep K74 (ninS ne_b11_b70 nin0))
          have F_pageCount_b11_89 := ((P19_4.ext E70).keep K74 (ninS ne_b11_b70 nin0))
          have F_capacity_b11_90 := ((P19_5.ext E70).keep K74 (ninS ne_b11_b70 nin0))
          have F_length_b11_91 := ((P19_6.ext E70).keep K74 (ninS ne_b11_b70 nin0))
          have V_np_14_92 := (V_np_14_80.keep K74 (ninS ne_np_14_b70 nin0))
          have V_wp_14_93 := (V_wp_14_81.keep K74 (ninS ne_wp_14_b70 nin0))
          have E_pgr_19_94 := (E_pgr_19_83.keep K74)
          have G_pgr_19_95 := ((P19_10.ext E70).keep K74 (ninS ne_pgr_19_b70 nin0))
          have A70_96 := (A70.keep K74)
          have nd97 : OND [b11, np_14, wp_14, pgr_19, b70, va_74] := (ondS (allS ne_b11_np_14 (allS ne_b11_wp_14 (allS ne_b11_pgr_19 (allS ne_b11_b70 (allS ne_b11_va_74 all0))))) (ondS (allS (own_pw P14_3 0 1 (by decide) rfl rfl) (allS ne_np_14_pgr_19 (allS ne_np_14_b70 (allS ne_np_14_va_74 all0)))) (ondS (allS ne_wp_14_pgr_19 (allS ne_wp_14_b70 (allS ne_wp_14_va_74 all0))) (ondS (allS ne_pgr_19_b70 (allS ne_pgr_19_va_74 all0)) (ondS (allS ne_b70_va_74 all0) (ondS all0 ond0))))))
          obtain ⟨cq84, kq84, qv84a, qv84b, qv84c⟩ := isOf hZ e74 E_b11_86
          obtain ⟨_, _, ⟨T84, L84, k84, n84⟩, -, X84, ⟨Lc84, hQ84, l84, y84, z84⟩, st84⟩ := X74.virtualBack hx (y := mN41) (z := mN41) hown (mvT hZ (ow hw 101 rfl)) (mvT hZ (ow hw 102 rfl)) (notFace_of_selects (args := #[]) (mvT hZ (ow hw 104 rfl))) (mvT hZ (ow hw 104 rfl)) (mvT hZ (ow hw 103 rfl)) (by decide) (backOf (W := 0) (rm_apsWL l Z a0 hw [] b11 b70 np_14 wp_14 pgr_19 kn_14 kw_14 kpr_19 cxr_19 ((0 : Int32) + na) va_74 kv_74 cs fw hp74 n0 Z74 hST O_0_j1_85 ovn ovw E_b11_86 F_narrowPages_b11_87 F_widePages_b11_88 F_pageCount_b11_89 F_capacity_b11_90 F_length_b11_91 V_np_14_92 V_wp_14_93 E_pgr_19_94 G_pgr_19_95 P74_1 P74_2 P74_3 A70_96 g_b11 g_np_14 g_wp_14 g_pgr_19 nd97 (by have := own_t0; have := own_3; omega)) hZ (ow hw 105 rfl) (ow hw 3 rfl) (by decide) (by decide)) qv84a qv84c (g := (mkF m 137 #[iv p1, iv p2, iv p3, iv p4, iv p5, iv p6, iv kc, iv na, iv 3, iv sb, rv b2, rv b6, rv b11, .val (.long ((0 : Int64) + (kc.toInt64))), .second, .val (.long ((0 : Int64) + ((2 : Int64) * (cxr_19.toInt64)))), .second, .unset, .unset, .unset, .unset, .unset, .unset, .unset, .unset, .unset, .unset, .unset] [(.ref b70), (.ref b11)])) rfl (by rw [hml]; rfl) (Steps.refl _) (argsL := [(.ref b70)]) (rest := []) (lenOf pd__Ljava_lang_String__V rfl) rfl (by show 2 * 0 + _ ≤ _; exact Nat.le_of_eq rfl) (hb hby at_137) (fun _ _ => ⟨rfl, e74, (by decide : 11 + 2 ≤ _), (by decide : 71 + 30 ≤ _)⟩)
          dsimp only [Pt.U, Pt.locs, Pt.cells, Pt.slots] at X84 l84 y84 z84 st84 hQ84
          subst l84 y84 z84
          obtain ⟨hp84, e84⟩ : ∃ z, T84.heap = z := ⟨_, rfl⟩
          rw [e84] at hQ84
          obtain ⟨rfl, Nq84, pgr_84, kpr_84, cxr_84, K84, P84_0, P84_1, P84_2, P84_3, P84_4, P84_5, P84_6, P84_7, P84_8, P84_9, P84_10, P84_11⟩ := hQ84
          have Q2_98 := (Q2_77.keep K74)
          have ne_b2_pgr_84 : b2 ≠ pgr_84 := own_orne P84_0 ne_b2_pgr_19 Q2_98.lt
          have Q6_99 := (Q6_78.keep K74)
          have ne_b6_pgr_84 : b6 ≠ pgr_84 := own_orne P84_0 ne_b6_pgr_19 Q6_99.lt
          have ne_b11_pgr_84 : b11 ≠ pgr_84 := own_orne P84_0 ne_b11_pgr_19 E_b11_86.lt
          have ne_np_14_pgr_84 : np_14 ≠ pgr_84 := own_orne P84_0 ne_np_14_pgr_19 V_np_14_92.lt
          have ne_wp_14_pgr_84 : wp_14 ≠ pgr_84 := own_orne P84_0 ne_wp_14_pgr_19 V_wp_14_93.lt
          have E_pg_14_100 := (E_pg_14_82.keep K74)
          have ne_b70_pgr_84 : b70 ≠ pgr_84 := own_orne P84_0 (Ne.symm ne_pgr_19_b70) A70_96.lt
          have ne_va_74_pgr_84 : va_74 ≠ pgr_84 := own_orne P84_0 (Ne.symm ne_pgr_19_va_74) P74_3.lt
          have g_pgr_84 : n0 ≤ pgr_84 := own_orge P84_0 g_pgr_19 Z74
          have Z84 : n0 ≤ hp84.size := Nat.le_trans Z74 K84.1
          have N84 := Fr.app N74 Nq84
          have hcx2 := P84_11
          obtain ⟨cq101, kq101, qv101a, qv101b, qv101c⟩ := isOf hZ e84 P84_1
          obtain ⟨_, _, ⟨T101, L101, k101, n101⟩, -, X101, ⟨Lc101, hQ101, l101, y101, z101⟩, st101⟩ := X84.virtualBack hx (y := mN5) (z := mN5) hown (mvT hZ (ow hw 24 rfl)) (mvT hZ (ow hw 25 rfl)) (notFace_of_selects (args := #[]) (mvT hZ (ow hw 27 rfl))) (mvT hZ (ow hw 27 rfl)) (mvT hZ (ow hw 26 rfl)) (by decide) (backOf (W := 0) (rm_bytesW l Z a0 hw [] b11 np_14 wp_14 pgr_84 kn_14 kw_14 kpr_84 cxr_84 (((0 : Int32) + na) + (3 : Int32)) hp84 n0 Z84 P84_1 P84_2 P84_3 P84_4 P84_5 P84_6 P84_7 P84_8 P84_9 P84_10) hZ (ow hw 28 rfl) (ow hw 3 rfl) (by decide) (by decide)) qv101a qv101c (g := (mkF m 155 #[iv p1, iv p2, iv p3, iv p4, iv p5, iv p6, iv kc, iv na, iv 3, iv sb, rv b2, rv b6, rv b11, .val (.long ((0 : Int64) + (kc.toInt64))), .second, .val (.long ((0 : Int64) + ((2 : Int64) * (cxr_19.toInt64)))), .second, .unset, .unset, .unset, .unset, .unset, .unset, .unset, .unset, .unset, .unset, .unset] [(.ref b11)])) rfl (by rw [hml]; rfl) (Steps.refl _) (argsL := []) (rest := []) (lenOf pd___J rfl) rfl (by show 2 * 0 + _ ≤ _; exact Nat.le_of_eq rfl) (hb hby at_155) (fun _ _ => ⟨rfl, e84, (by decide : 13 + 0 ≤ _), (by decide : 101 + 0 ≤ _)⟩)
          dsimp only [Pt.U, Pt.locs, Pt.cells, Pt.slots] at X101 l101 y101 z101 st101 hQ101
          subst l101 y101 z101
          obtain ⟨rfl, Nq101, e101⟩ := hQ101
          have N101 := Fr.app N84 Nq101
          have V_b2_103 := ((((V_b2_21.keep K19 (ninS ne_b2_b11 (ninS ne_b2_np_14 (ninS ne_b2_wp_14 (ninS ne_b2_pg_14 nin0))))).ext E70).keep K74 (ninS ne_b2_b70 nin0)).keep K84 (ninS ne_b2_b11 (ninS ne_b2_np_14 (ninS ne_b2_wp_14 (ninS ne_b2_pgr_19 nin0)))))
          obtain ⟨_, _, ⟨T102, L102, k102, n102⟩, -, X102, ⟨Lc102, hQ102, l102, y102, z102⟩, st102⟩ := Jvm.LawKit.callS X101 hx (y := mN9) hown (mvT hZ (ow hw 70 rfl)) (mvT hZ (ow hw 71 rfl)) (mvT hZ (ow hw 72 rfl)) (mvT hZ (ow hw 73 rfl)) (by decide) (backOf (W := 0) (rm_any l Z a0 hw [] b2 na k2 xa xb xc hp84 n0 Z84 V_b2_103) hZ (ow hw 73 rfl) (ow hw 72 rfl) (by decide) (by decide)) (g := (mkF m 164 #[iv p1, iv p2, iv p3, iv p4, iv p5, iv p6, iv kc, iv na, iv 3, iv sb, rv b2, rv b6, rv b11, .val (.long ((0 : Int64) + (kc.toInt64))), .second, .val (.long ((0 : Int64) + ((2 : Int64) * (cxr_19.toInt64)))), .second, .val (.long ((0 : Int64) + ((2 : Int64) * (cxr_84.toInt64)))), .second, .unset, .unset, .unset, .unset, .unset, .unset, .unset, .unset, .unset] [(.int na), (.ref b2)])) rfl (by rw [hml]; rfl) (argsL := [(.ref b2), (.int na)]) (rest := []) (lenOf pd___CI_Z rfl) rfl (by show 2 * 0 + _ ≤ _; exact Nat.le_of_eq rfl) (hb hby at_164) (fun _ _ => ⟨rfl, e101, (by decide : 13 + 0 ≤ _), (by decide : 101 + 0 ≤ _)⟩)
          dsimp only [Pt.U, Pt.locs, Pt.cells, Pt.slots] at X102 l102 y102 z102 st102 hQ102
          subst l102 y102 z102
          obtain ⟨hp102, e102⟩ : ∃ z, T102.heap = z := ⟨_, rfl⟩
          rw [e102] at hQ102
          obtain ⟨rfl, Nq102, K102⟩ := hQ102
          have Z102 : n0 ≤ hp102.size := Nat.le_trans Z84 K102.1
          have N102 := Fr.app N101 Nq102
          replace K : OGo p e below A0 T102 (mkF m 189 #[iv p1, iv p2, iv p3, iv p4, iv p5, iv p6, iv kc, iv na, iv 3, iv sb, rv b2, rv b6, rv b11, .val (.long ((0 : Int64) + (kc.toInt64))), .second, .val (.long ((0 : Int64) + ((2 : Int64) * (cxr_19.toInt64)))), .second, .val (.long ((0 : Int64) + ((2 : Int64) * (cxr_84.toInt64)))), .second, iv (own_any xa xb xc na), .unset, .unset, .unset, .unset, .unset, .unset, .unset, .unset] [(.int 1)]) := fun t k => K t (XS.iconst X25.here hx rfl (hb hby at_123) (XS.istore X25.here hx rfl (hb hby at_124) rfl (l' := #[iv p1, iv p2, iv p3, iv p4, iv p5, iv p6, iv kc, iv na, iv 3, iv sb, rv b2, rv b6, rv b11, .val (.long ((0 : Int64) + (kc.toInt64))), .second, .val (.long ((0 : Int64) + ((2 : Int64) * (cxr_19.toInt64)))), .second, .unset, .unset, .unset, .unset, .unset, .unset, .unset, .unset, .unset, .unset, .unset]) rfl (XS.aload X25.here hx rfl (hb hby at_126) rfl rfl (st70 t (XS.dup X70.here hx rfl (hb hby at_131) rfl rfl (XS.aload X70.here hx rfl (hb hby at_132) rfl rfl (st74.trans (st84.trans (XS.goto X84.here hx rfl (pc0 := 140) (pc' := 153) rfl (hb hby at_140) (by decide) (by decide) (XS.aload X84.here hx rfl (hb hby at_153) rfl rfl (st101.trans (XS.lstore X101.here hx rfl (hb hby at_158) rfl (l' := #[iv p1, iv p2, iv p3, iv p4, iv p5, iv p6, iv kc, iv na, iv 3, iv sb, rv b2, rv b6, rv b11, .val (.long ((0 : Int64) + (kc.toInt64))), .second, .val (.long ((0 : Int64) + ((2 : Int64) * (cxr_19.toInt64)))), .second, .val (.long ((0 : Int64) + ((2 : Int64) * (cxr_84.toInt64)))), .second, .unset, .unset, .unset, .unset, .unset, .unset, .unset, .unset, .unset]) rfl (XS.aload X101.here hx rfl (hb hby at_160) rfl rfl (XS.iload X101.here hx rfl (hb hby at_162) rfl (st102 t (XS.istore X102.here hx rfl (hb hby at_167) rfl (l' := #[iv p1, iv p2, iv p3, iv p4, iv p5, iv p6, iv kc, iv na, iv 3, iv sb, rv b2, rv b6, rv b11, .val (.long ((0 : Int64) + (kc.toInt64))), .second, .val (.long ((0 : Int64) + ((2 : Int64) * (cxr_19.toInt64)))), .second, .val (.long ((0 : Int64) + ((2 : Int64) * (cxr_84.toInt64)))), .second, iv (own_any xa xb xc na), .unset, .unset, .unset, .unset, .unset, .unset, .unset, .unset]) rfl (XS.iload X102.here hx rfl (hb hby at_169) rfl (XS.ifYes X102.here hx rfl (pc0 := 171) (pc' := 184) rfl (hb hby at_171) rfl ((if0 _ _).trans (feq ((own_any1 hw1) : ¬ ((own_any xa xb xc na) = (0 : Int32)))).2) (by decide) (by decide) (XS.iconst X102.here hx rfl (hb hby at_184) (XS.goto X102.here hx rfl (pc0 := 185) (pc' := 189) rfl (hb hby at_185) (by decide) (by decide) k))))))))))))))))))))
          replace K : OGo p e below A0 T102 (mkF m 191 #[iv p1, iv p2, iv p3, iv p4, iv p5, iv p6, iv kc, iv na, iv 3, iv sb, rv b2, rv b6, rv b11, .val (.long ((0 : Int64) + (kc.toInt64))), .second, .val (.long ((0 : Int64) + ((2 : Int64) * (cxr_19.toInt64)))), .second, .val (.long ((0 : Int64) + ((2 : Int64) * (cxr_84.toInt64)))), .second, iv (own_any xa xb xc na), iv 1, .unset, .unset, .unset, .unset, .unset, .unset, .unset] []) := fun t k => K t (XS.istore X102.here hx rfl (hb hby at_189) rfl (l' := #[iv p1, iv p2, iv p3, iv p4, iv p5, iv p6, iv kc, iv na, iv 3, iv sb, rv b2, rv b6, rv b11, .val (.long ((0 : Int64) + (kc.toInt64))), .second, .val (.long ((0 : Int64) + ((2 : Int64) * (cxr_19.toInt64)))), .second, .val (.long ((0 : Int64) + ((2 : Int64) * (cxr_84.toInt64)))), .second, iv (own_any xa xb xc na), iv 1, .unset, .unset, .unset, .unset, .unset, .unset, .unset]) rfl k)
          exact J18 ⟨(3 : Int32), ((0 : Int64) + ((2 : Int64) * (cxr_19.toInt64))), ((0 : Int64) + ((2 : Int64) * (cxr_84.toInt64))), (own_any xa xb xc na), (1 : Int32), _, _, _, X102, e102, N102, Z102, (by rw [own_anyE1 hw1, ← hcx1]; simp [own_sz]), (by rw [← hcx1, ← hcx2]; simp [own_sz]), K⟩
    · have O_0_j1_105 := ((((((((((O_0_j1.ext E2).wr W3 g_b2).wr W4 g_b2).wr W5 g_b2).ext E6).wr W8 g_b6).wr W9 g_b6).wr W10 g_b6).ext E11).keep K14 (allS g_b11 all0))
      have V_b2_106 := ((((((V_b2_5.ext E6).other W8 ne_b2_b6).other W9 ne_b2_b6).other W10 ne_b2_b6).ext E11).keep K14 (ninS ne_b2_b11 nin0))
      have nd107 : OND [b11, np_14, wp_14, pg_14, b2] := (ondS (allS ne_b11_np_14 (allS ne_b11_wp_14 (allS ne_b11_pg_14 (allS (Ne.symm ne_b2_b11) all0)))) (ondS (allS (own_pw P14_3 0 1 (by decide) rfl rfl) (allS (own_pw P14_3 0 2 (by decide) rfl rfl) (allS (Ne.symm ne_b2_np_14) all0))) (ondS (allS (own_pw P14_3 1 2 (by decide) rfl rfl) (allS (Ne.symm ne_b2_wp_14) all0)) (ondS (allS (Ne.symm ne_b2_pg_14) all0) (ondS all0 ond0)))))
      obtain ⟨cq104, kq104, qv104a, qv104b, qv104c⟩ := isOf hZ e17 P14_6
      obtain ⟨_, _, ⟨T104, L104, k104, n104⟩, -, X104, ⟨Lc104, hQ104, l104, y104, z104⟩, st104⟩ := X17.virtualBack hx (y := mN40) (z := mN40) hown (mvT hZ (ow hw 29 rfl)) (mvT hZ (ow hw 30 rfl)) (notFace_of_selects (args := #[]) (mvT hZ (ow hw 32 rfl))) (mvT hZ (ow hw 32 rfl)) (mvT hZ (ow hw 31 rfl)) (by decide) (backOf (W := 0) (rm_apcNN l Z a0 hw [] b11 b2 na np_14 wp_14 pg_14 kn_14 kw_14 kp_14 kc (0 : Int32) k2 xa xb xc cs fw hp14 n0 Z14 hST O_0_j1_105 ovn ovw P14_6 P14_7 P14_8 P14_9 P14_10 P14_11 P14_12 P14_13 P14_14 P14_15 V_b2_106 g_b11 g_np_14 g_wp_14 g_pg_14 nd107 (by have := own_t0; omega) hw1 (own_chI rg_xa rg_xb rg_xc)) hZ (ow hw 33 rfl) (ow hw 3 rfl) (by decide) (by decide)) qv104a qv104c (g := (mkF m 108 #[iv p1, iv p2, iv p3, iv p4, iv p5, iv p6, iv kc, iv na, iv nb, iv sb, rv b2, rv b6, rv b11, .val (.long ((0 : Int64) + (kc.toInt64))), .second, .unset, .unset, .unset, .unset, .unset, .unset, .unset, .unset, .unset, .unset, .unset, .unset, .unset] [(.int na), (.int 0), (.ref b2), (.ref b11)])) rfl (by rw [hml]; rfl) (Steps.refl _) (argsL := [(.ref b2), (.int (0 : Int32)), (.int na)]) (rest := []) (lenOf pd___CII_V rfl) rfl (by show 2 * 0 + _ ≤ _; exact Nat.le_of_eq rfl) (hb hby at_108) (fun _ _ => ⟨rfl, e17, (by decide : 6 + 2 ≤ _), (by decide : 28 + 30 ≤ _)⟩)
      dsimp only [Pt.U, Pt.locs, Pt.cells, Pt.slots] at X104 l104 y104 z104 st104 hQ104
      subst l104 y104 z104
      obtain ⟨hp104, e104⟩ : ∃ z, T104.heap = z := ⟨_, rfl⟩
      rw [e104] at hQ104
      obtain ⟨rfl, Nq104, pgr_104, kpr_104, cxr_104, K104, P104_0, P104_1, P104_2, P104_3, P104_4, P104_5, P104_6, P104_7, P104_8, P104_9, P104_10, P104_11⟩ := hQ104
      have Q2_108 := (Q2_15.keep K14)
      have ne_b2_pgr_104 : b2 ≠ pgr_104 := own_orne P104_0 ne_b2_pg_14 Q2_108.lt
      have Q6_109 := (Q6_16.keep K14)
      have ne_b6_pgr_104 : b6 ≠ pgr_104 := own_orne P104_0 ne_b6_pg_14 Q6_109.lt
      have ne_b11_pgr_104 : b11 ≠ pgr_104 := own_orne P104_0 ne_b11_pg_14 P14_6.lt
      have ne_np_14_pgr_104 : np_14 ≠ pgr_104 := own_orne P104_0 (own_pw P14_3 0 2 (by decide) rfl rfl) P14_12.lt
      have ne_wp_14_pgr_104 : wp_14 ≠ pgr_104 := own_orne P104_0 (own_pw P14_3 1 2 (by decide) rfl rfl) P14_13.lt
      have g_pgr_104 : n0 ≤ pgr_104 := own_orge P104_0 g_pg_14 Z14
      have Z104 : n0 ≤ hp104.size := Nat.le_trans Z14 K104.1
      have N104 := Fr.app N17 Nq104
      have hcx1 := P104_11
      have hJ1 := own_capI (cap := kc) (len := (0 : Int32)) (n := na) (by have := own_t0; omega) hcx1
      have hz1 : ((0 : Int32) + na).toInt = na.toInt := by rw [Int32.zero_add]
      obtain ⟨cq110, kq110, qv110a, qv110b, qv110c⟩ := isOf hZ e104 P104_1
      obtain ⟨_, _, ⟨T110, L110, k110, n110⟩, -, X110, ⟨Lc110, hQ110, l110, y110, z110⟩, st110⟩ := X104.virtualBack hx (y := mN5) (z := mN5) hown (mvT hZ (ow hw 24 rfl)) (mvT hZ (ow hw 25 rfl)) (notFace_of_selects (args := #[]) (mvT hZ (ow hw 27 rfl))) (mvT hZ (ow hw 27 rfl)) (mvT hZ (ow hw 26 rfl)) (by decide) (backOf (W := 0) (rm_bytesN l Z a0 hw [] b11 np_14 wp_14 pgr_104 kn_14 kw_14 kpr_104 cxr_104 ((0 : Int32) + na) hp104 n0 Z104 P104_1 P104_2 P104_3 P104_4 P104_5 P104_6 P104_7 P104_8 P104_9 P104_10) hZ (ow hw 28 rfl) (ow hw 3 rfl) (by decide) (by decide)) qv110a qv110c (g := (mkF m 113 #[iv p1, iv p2, iv p3, iv p4, iv p5, iv p6, iv kc, iv na, iv nb, iv sb, rv b2, rv b6, rv b11, .val (.long ((0 : Int64) + (kc.toInt64))), .second, .unset, .unset, .unset, .unset, .unset, .unset, .unset, .unset, .unset, .unset, .unset, .unset, .unset] [(.ref b11)])) rfl (by rw [hml]; rfl) (Steps.refl _) (argsL := []) (rest := []) (lenOf pd___J rfl) rfl (by show 2 * 0 + _ ≤ _; exact Nat.le_of_eq rfl) (hb hby at_113) (fun _ _ => ⟨rfl, e104, (by decide : 8 + 0 ≤ _), (by decide : 58 + 0 ≤ _)⟩)
      dsimp only [Pt.U, Pt.locs, Pt.cells, Pt.slots] at X110 l110 y110 z110 st110 hQ110
      subst l110 y110 z110
      obtain ⟨rfl, Nq110, e110⟩ := hQ110
      have N110 := Fr.app N104 Nq110
      replace K : OGo p e below A0 T110 (mkF m 120 #[iv p1, iv p2, iv p3, iv p4, iv p5, iv p6, iv kc, iv na, iv nb, iv sb, rv b2, rv b6, rv b11, .val (.long ((0 : Int64) + (kc.toInt64))), .second, .val (.long ((0 : Int64) + (cxr_104.toInt64))), .second, .unset, .unset, .unset, .unset, .unset, .unset, .unset, .unset, .unset, .unset, .unset] [(.int sb)]) := fun t k => K t (XS.aload X17.here hx rfl (hb hby at_101) rfl rfl (XS.aload X17.here hx rfl (hb hby at_103) rfl rfl (XS.iconst X17.here hx rfl (hb hby at_105) (XS.iload X17.here hx rfl (hb hby at_106) rfl (st104.trans (XS.aload X104.here hx rfl (hb hby at_111) rfl rfl (st110.trans (XS.lstore X110.here hx rfl (hb hby at_116) rfl (l' := #[iv p1, iv p2, iv p3, iv p4, iv p5, iv p6, iv kc, iv na, iv nb, iv sb, rv b2, rv b6, rv b11, .val (.long ((0 : Int64) + (kc.toInt64))), .second, .val (.long ((0 : Int64) + (cxr_104.toInt64))), .second, .unset, .unset, .unset, .unset, .unset, .unset, .unset, .unset, .unset, .unset, .unset]) rfl (XS.iload X110.here hx rfl (hb hby at_118) rfl k)))))))))
      by_cases hc120 : sb = (0 : Int32)
      · replace K : OGo p e below A0 T110 (mkF m 143 #[iv p1, iv p2, iv p3, iv p4, iv p5, iv p6, iv kc, iv na, iv nb, iv sb, rv b2, rv b6, rv b11, .val (.long ((0 : Int64) + (kc.toInt64))), .second, .val (.long ((0 : Int64) + (cxr_104.toInt64))), .second, .unset, .unset, .unset, .unset, .unset, .unset, .unset, .unset, .unset, .unset, .unset] []) := fun t k => K t (XS.ifYes X110.here hx rfl (pc0 := 120) (pc' := 143) rfl (hb hby at_120) rfl ((if0 _ _).trans (teq hc120).1) (by decide) (by decide) k)
        by_cases hw2 : own_w ya yb yc nb
        · have O_0_j1_112 := (O_0_j1_105.keep K104 (allS g_b11 (allS g_np_14 (allS g_wp_14 (allS g_pg_14 all0)))))
          have V_b6_113 := (((V_b6_10.ext E11).keep K14 (ninS ne_b6_b11 nin0)).keep K104 (ninS ne_b6_b11 (ninS ne_b6_np_14 (ninS ne_b6_wp_14 (ninS ne_b6_pg_14 nin0)))))
          have nd114 : OND [b11, np_14, wp_14, pgr_104, b6] := (ondS (allS ne_b11_np_14 (allS ne_b11_wp_14 (allS ne_b11_pgr_104 (allS (Ne.symm ne_b6_b11) all0)))) (ondS (allS (own_pw P14_3 0 1 (by decide) rfl rfl) (allS ne_np_14_pgr_104 (allS (Ne.symm ne_b6_np_14) all0))) (ondS (allS ne_wp_14_pgr_104 (allS (Ne.symm ne_b6_wp_14) all0)) (ondS (allS (Ne.symm ne_b6_pgr_104) all0) (ondS all0 ond0)))))
          obtain ⟨cq111, kq111, qv111a, qv111b, qv111c⟩ := isOf hZ e110 P104_1
          obtain ⟨_, _, ⟨T111, L111, k111, n111⟩, -, X111, ⟨Lc111, hQ111, l111, y111, z111⟩, st111⟩ := X110.virtualBack hx (y := mN40) (z := mN40) hown (mvT hZ (ow hw 29 rfl)) (mvT hZ (ow hw 30 rfl)) (notFace_of_selects (args := #[]) (mvT hZ (ow hw 32 rfl))) (mvT hZ (ow hw 32 rfl)) (mvT hZ (ow hw 31 rfl)) (by decide) (backOf (W := 0) (rm_apcNW l Z a0 hw [] b11 b6 nb np_14 wp_14 pgr_104 kn_14 kw_14 kpr_104 cxr_104 ((0 : Int32) + na) k6 ya yb yc cs fw hp104 n0 Z104 hST O_0_j1_112 ovn ovw P104_1 P104_2 P104_3 P104_4 P104_5 P104_6 P104_7 P104_8 P104_9 P104_10 V_b6_113 g_b11 g_np_14 g_wp_14 g_pgr_104 nd114 (by have := own_t0; omega) hw2 (own_chI rg_ya rg_yb rg_yc)) hZ (ow hw 33 rfl) (ow hw 3 rfl) (by decide) (by decide)) qv111a qv111c (g := (mkF m 150 #[iv p1, iv p2, iv p3, iv p4, iv p5, iv p6, iv kc, iv na, iv nb, iv sb, rv b2, rv b6, rv b11, .val (.long ((0 : Int64) + (kc.toInt64))), .second, .val (.long ((0 : Int64) + (cxr_104.toInt64))), .second, .unset, .unset, .unset, .unset, .unset, .unset, .unset, .unset, .unset, .unset, .unset] [(.int nb), (.int 0), (.ref b6), (.ref b11)])) rfl (by rw [hml]; rfl) (Steps.refl _) (argsL := [(.ref b6), (.int (0 : Int32)), (.int nb)]) (rest := []) (lenOf pd___CII_V rfl) rfl (by show 2 * 0 + _ ≤ _; exact Nat.le_of_eq rfl) (hb hby at_150) (fun _ _ => ⟨rfl, e110, (by decide : 8 + 2 ≤ _), (by decide : 58 + 30 ≤ _)⟩)
          dsimp only [Pt.U, Pt.locs, Pt.cells, Pt.slots] at X111 l111 y111 z111 st111 hQ111
          subst l111 y111 z111
          obtain ⟨hp111, e111⟩ : ∃ z, T111.heap = z := ⟨_, rfl⟩
          rw [e111] at hQ111
          obtain ⟨rfl, Nq111, pgr_111, kpr_111, cxr_111, K111, P111_0, P111_1, P111_2, P111_3, P111_4, P111_5, P111_6, P111_7, P111_8, P111_9, P111_10, P111_11⟩ := hQ111
          have Q2_115 := (Q2_108.keep K104)
          have ne_b2_pgr_111 : b2 ≠ pgr_111 := own_orne P111_0 ne_b2_pgr_104 Q2_115.lt
          have Q6_116 := (Q6_109.keep K104)
          have ne_b6_pgr_111 : b6 ≠ pgr_111 := own_orne P111_0 ne_b6_pgr_104 Q6_116.lt
          have ne_b11_pgr_111 : b11 ≠ pgr_111 := own_orne P111_0 ne_b11_pgr_104 P104_1.lt
          have ne_np_14_pgr_111 : np_14 ≠ pgr_111 := own_orne P111_0 ne_np_14_pgr_104 P104_7.lt
          have ne_wp_14_pgr_111 : wp_14 ≠ pgr_111 := own_orne P111_0 ne_wp_14_pgr_104 P104_8.lt
          have E_pg_14_117 := (P14_14.keep K104)
          have g_pgr_111 : n0 ≤ pgr_111 := own_orge P111_0 g_pgr_104 Z104
          have Z111 : n0 ≤ hp111.size := Nat.le_trans Z104 K111.1
          have N111 := Fr.app N110 Nq111
          have hcx2 := P111_11
          obtain ⟨cq118, kq118, qv118a, qv118b, qv118c⟩ := isOf hZ e111 P111_1
          obtain ⟨_, _, ⟨T118, L118, k118, n118⟩, -, X118, ⟨Lc118, hQ118, l118, y118, z118⟩, st118⟩ := X111.virtualBack hx (y := mN5) (z := mN5) hown (mvT hZ (ow hw 24 rfl)) (mvT hZ (ow hw 25 rfl)) (notFace_of_selects (args := #[]) (mvT hZ (ow hw 27 rfl))) (mvT hZ (ow hw 27 rfl)) (mvT hZ (ow hw 26 rfl)) (by decide) (backOf (W := 0) (rm_bytesW l Z a0 hw [] b11 np_14 wp_14 pgr_111 kn_14 kw_14 kpr_111 cxr_111 (((0 : Int32) + na) + nb) hp111 n0 Z111 P111_1 P111_2 P111_3 P111_4 P111_5 P111_6 P111_7 P111_8 P111_9 P111_10) hZ (ow hw 28 rfl) (ow hw 3 rfl) (by decide) (by decide)) qv118a qv118c (g := (mkF m 155 #[iv p1, iv p2, iv p3, iv p4, iv p5, iv p6, iv kc, iv na, iv nb, iv sb, rv b2, rv b6, rv b11, .val (.long ((0 : Int64) + (kc.toInt64))), .second, .val (.long ((0 : Int64) + (cxr_104.toInt64))), .second, .unset, .unset, .unset, .unset, .unset, .unset, .unset, .unset, .unset, .unset, .unset] [(.ref b11)])) rfl (by rw [hml]; rfl) (Steps.refl _) (argsL := []) (rest := []) (lenOf pd___J rfl) rfl (by show 2 * 0 + _ ≤ _; exact Nat.le_of_eq rfl) (hb hby at_155) (fun _ _ => ⟨rfl, e111, (by decide : 10 + 0 ≤ _), (by decide : 88 + 0 ≤ _)⟩)
          dsimp only [Pt.U, Pt.locs, Pt.cells, Pt.slots] at X118 l118 y118 z118 st118 hQ118
          subst l118 y118 z118
          obtain ⟨rfl, Nq118, e118⟩ := hQ118
          have N118 := Fr.app N111 Nq118
          have V_b2_120 := ((V_b2_106.keep K104 (ninS ne_b2_b11 (ninS ne_b2_np_14 (ninS ne_b2_wp_14 (ninS ne_b2_pg_14 nin0))))).keep K111 (ninS ne_b2_b11 (ninS ne_b2_np_14 (ninS ne_b2_wp_14 (ninS ne_b2_pgr_104 nin0)))))
          obtain ⟨_, _, ⟨T119, L119, k119, n119⟩, -, X119, ⟨Lc119, hQ119, l119, y119, z119⟩, st119⟩ := Jvm.LawKit.callS X118 hx (y := mN9) hown (mvT hZ (ow hw 70 rfl)) (mvT hZ (ow hw 71 rfl)) (mvT hZ (ow hw 72 rfl)) (mvT hZ (ow hw 73 rfl)) (by decide) (backOf (W := 0) (rm_any l Z a0 hw [] b2 na k2 xa xb xc hp111 n0 Z111 V_b2_120) hZ (ow hw 73 rfl) (ow hw 72 rfl) (by decide) (by decide)) (g := (mkF m 164 #[iv p1, iv p2, iv p3, iv p4, iv p5, iv p6, iv kc, iv na, iv nb, iv sb, rv b2, rv b6, rv b11, .val (.long ((0 : Int64) + (kc.toInt64))), .second, .val (.long ((0 : Int64) + (cxr_104.toInt64))), .second, .val (.long ((0 : Int64) + ((2 : Int64) * (cxr_111.toInt64)))), .second, .unset, .unset, .unset, .unset, .unset, .unset, .unset, .unset, .unset] [(.int na), (.ref b2)])) rfl (by rw [hml]; rfl) (argsL := [(.ref b2), (.int na)]) (rest := []) (lenOf pd___CI_Z rfl) rfl (by show 2 * 0 + _ ≤ _; exact Nat.le_of_eq rfl) (hb hby at_164) (fun _ _ => ⟨rfl, e118, (by decide : 10 + 0 ≤ _), (by decide : 88 + 0 ≤ _)⟩)
          dsimp only [Pt.U, Pt.locs, Pt.cells, Pt.slots] at X119 l119 y119 z119 st119 hQ119
          subst l119 y119 z119
          obtain ⟨hp119, e119⟩ : ∃ z, T119.heap = z := ⟨_, rfl⟩
          rw [e119] at hQ119
          obtain ⟨rfl, Nq119, K119⟩ := hQ119
          have Z119 : n0 ≤ hp119.size := Nat.le_trans Z111 K119.1
          have N119 := Fr.app N118 Nq119
          have V_b6_122 := ((V_b6_113.keep K111 (ninS ne_b6_b11 (ninS ne_b6_np_14 (ninS ne_b6_wp_14 (ninS ne_b6_pgr_104 nin0))))).keep K119 nin0)
          obtain ⟨_, _, ⟨T121, L121, k121, n121⟩, -, X121, ⟨Lc121, hQ121, l121, y121, z121⟩, st121⟩ := Jvm.LawKit.callS X119 hx (y := mN9) hown (mvT hZ (ow hw 70 rfl)) (mvT hZ (ow hw 71 rfl)) (mvT hZ (ow hw 72 rfl)) (mvT hZ (ow hw 73 rfl)) (by decide) (backOf (W := 0) (rm_any l Z a0 hw [] b6 nb k6 ya yb yc hp119 n0 Z119 V_b6_122) hZ (ow hw 73 rfl) (ow hw 72 rfl) (by decide) (by decide)) (g := (mkF m 178 #[iv p1, iv p2, iv p3, iv p4, iv p5, iv p6, iv kc, iv na, iv nb, iv sb, rv b2, rv b6, rv b11, .val (.long ((0 : Int64) + (kc.toInt64))), .second, .val (.long ((0 : Int64) + (cxr_104.toInt64))), .second, .val (.long ((0 : Int64) + ((2 : Int64) * (cxr_111.toInt64)))), .second, iv (own_any xa xb xc na), .unset, .unset, .unset, .unset, .unset, .unset, .unset, .unset] [(.int nb), (.ref b6)])) rfl (by rw [hml]; rfl) (argsL := [(.ref b6), (.int nb)]) (rest := []) (lenOf pd___CI_Z rfl) rfl (by show 2 * 0 + _ ≤ _; exact Nat.le_of_eq rfl) (hb hby at_178) (fun _ _ => ⟨rfl, e119, (by decide : 10 + 0 ≤ _), (by decide : 88 + 0 ≤ _)⟩)
          dsimp only [Pt.U, Pt.locs, Pt.cells, Pt.slots] at X121 l121 y121 z121 st121 hQ121
          subst l121 y121 z121
          obtain ⟨hp121, e121⟩ : ∃ z, T121.heap = z := ⟨_, rfl⟩
          rw [e121] at hQ121
          obtain ⟨rfl, Nq121, K121⟩ := hQ121
          have Z121 : n0 ≤ hp121.size := Nat.le_trans Z119 K121.1
          have N121 := Fr.app N119 Nq121
          replace K : OGo p e below A0 T121 (mkF m 189 #[iv p1, iv p2, iv p3, iv p4, iv p5, iv p6, iv kc, iv na, iv nb, iv sb, rv b2, rv b6, rv b11, .val (.long ((0 : Int64) + (kc.toInt64))), .second, .val (.long ((0 : Int64) + (cxr_104.toInt64))), .second, .val (.long ((0 : Int64) + ((2 : Int64) * (cxr_111.toInt64)))), .second, iv (own_any xa xb xc na), .unset, .unset, .unset, .unset, .unset, .unset, .unset, .unset] [(.int 1)]) := fun t k => K t (XS.aload X110.here hx rfl (hb hby at_143) rfl rfl (XS.aload X110.here hx rfl (hb hby at_145) rfl rfl (XS.iconst X110.here hx rfl (hb hby at_147) (XS.iload X110.here hx rfl (hb hby at_148) rfl (st111.trans (XS.aload X111.here hx rfl (hb hby at_153) rfl rfl (st118.trans (XS.lstore X118.here hx rfl (hb hby at_158) rfl (l' := #[iv p1, iv p2, iv p3, iv p4, iv p5, iv p6, iv kc, iv na, iv nb, iv sb, rv b2, rv b6, rv b11, .val (.long ((0 : Int64) + (kc.toInt64))), .second, .val (.long ((0 : Int64) + (cxr_104.toInt64))), .second, .val (.long ((0 : Int64) + ((2 : Int64) * (cxr_111.toInt64)))), .second, .unset, .unset, .unset, .unset, .unset, .unset, .unset, .unset, .unset]) rfl (XS.aload X118.here hx rfl (hb hby at_160) rfl rfl (XS.iload X118.here hx rfl (hb hby at_162) rfl (st119 t (XS.istore X119.here hx rfl (hb hby at_167) rfl (l' := #[iv p1, iv p2, iv p3, iv p4, iv p5, iv p6, iv kc, iv na, iv nb, iv sb, rv b2, rv b6, rv b11, .val (.long ((0 : Int64) + (kc.toInt64))), .second, .val (.long ((0 : Int64) + (cxr_104.toInt64))), .second, .val (.long ((0 : Int64) + ((2 : Int64) * (cxr_111.toInt64)))), .second, iv (own_any xa xb xc na), .unset, .unset, .unset, .unset, .unset, .unset, .unset, .unset]) rfl (XS.iload X119.here hx rfl (hb hby at_169) rfl (XS.ifNo X119.here hx rfl (hb hby at_171) rfl ((if0 _ _).trans (teq ((own_anyE0 hw1) : (own_any xa xb xc na) = (0 : Int32))).2) (XS.aload X119.here hx rfl (hb hby at_174) rfl rfl (XS.iload X119.here hx rfl (hb hby at_176) rfl (st121 t (XS.ifNo X121.here hx rfl (hb hby at_181) rfl ((if0 _ _).trans (feq ((own_any1 hw2) : ¬ ((own_any ya yb yc nb) = (0 : Int32)))).1) (XS.iconst X121.here hx rfl (hb hby at_184) (XS.goto X121.here hx rfl (pc0 := 185) (pc' := 189) rfl (hb hby at_185) (by decide) (by decide) k))))))))))))))))))))
          replace K : OGo p e below A0 T121 (mkF m 191 #[iv p1, iv p2, iv p3, iv p4, iv p5, iv p6, iv kc, iv na, iv nb, iv sb, rv b2, rv b6, rv b11, .val (.long ((0 : Int64) + (kc.toInt64))), .second, .val (.long ((0 : Int64) + (cxr_104.toInt64))), .second, .val (.long ((0 : Int64) + ((2 : Int64) * (cxr_111.toInt64)))), .second, iv (own_any xa xb xc na), iv 1, .unset, .unset, .unset, .unset, .unset, .unset, .unset] []) := fun t k => K t (XS.istore X121.here hx rfl (hb hby at_189) rfl (l' := #[iv p1, iv p2, iv p3, iv p4, iv p5, iv p6, iv kc, iv na, iv nb, iv sb, rv b2, rv b6, rv b11, .val (.long ((0 : Int64) + (kc.toInt64))), .second, .val (.long ((0 : Int64) + (cxr_104.toInt64))), .second, .val (.long ((0 : Int64) + ((2 : Int64) * (cxr_111.toInt64)))), .second, iv (own_any xa xb xc na), iv 1, .unset, .unset, .unset, .unset, .unset, .unset, .unset]) rfl k)
          exact J18 ⟨nb, ((0 : Int64) + (cxr_104.toInt64)), ((0 : Int64) + ((2 : Int64) * (cxr_111.toInt64))), (own_any xa xb xc na), (1 : Int32), _, _, _, (X121.more (by decide) (by decide)), e121, N121, Z121, (by rw [own_anyE0 hw1, ← hcx1]; simp [own_sz]), (by rw [← hcx1, ← hcx2]; simp [own_sz]), K⟩
        · have O_0_j1_124 := (O_0_j1_105.keep K104 (allS g_b11 (allS g_np_14 (allS g_wp_14 (allS g_pg_14 all0)))))
          have V_b6_125 := (((V_b6_10.ext E11).keep K14 (ninS ne_b6_b11 nin0)).keep K104 (ninS ne_b6_b11 (ninS ne_b6_np_14 (ninS ne_b6_wp_14 (ninS ne_b6_pg_14 nin0)))))
          have nd126 : OND [b11, np_14, wp_14, pgr_104, b6] := (ondS (allS ne_b11_np_14 (allS ne_b11_wp_14 (allS ne_b11_pgr_104 (allS (Ne.symm ne_b6_b11) all0)))) (ondS (allS (own_pw P14_3 0 1 (by decide) rfl rfl) (allS ne_np_14_pgr_104 (allS (Ne.symm ne_b6_np_14) all0))) (ondS (allS ne_wp_14_pgr_104 (allS (Ne.symm ne_b6_wp_14) all0)) (ondS (allS (Ne.symm ne_b6_pgr_104) all0) (ondS all0 ond0)))))
          obtain ⟨cq123, kq123, qv123a, qv123b, qv123c⟩ := isOf hZ e110 P104_1
          obtain ⟨_, _, ⟨T123, L123, k123, n123⟩, -, X123, ⟨Lc123, hQ123, l123, y123, z123⟩, st123⟩ := X110.virtualBack hx (y := mN40) (z := mN40) hown (mvT hZ (ow hw 29 rfl)) (mvT hZ (ow hw 30 rfl)) (notFace_of_selects (args := #[]) (mvT hZ (ow hw 32 rfl))) (mvT hZ (ow hw 32 rfl)) (mvT hZ (ow hw 31 rfl)) (by decide) (backOf (W := 0) (rm_apcNN l Z a0 hw [] b11 b6 nb np_14 wp_14 pgr_104 kn_14 kw_14 kpr_104 cxr_104 ((0 : Int32) + na) k6 ya yb yc cs fw hp104 n0 Z104 hST O_0_j1_124 ovn ovw P104_1 P104_2 P104_3 P104_4 P104_5 P104_6 P104_7 P104_8 P104_9 P104_10 V_b6_125 g_b11 g_np_14 g_wp_14 g_pgr_104 nd126 (by have := own_t0; omega) hw2 (own_chI rg_ya rg_yb rg_yc)) hZ (ow hw 33 rfl) (ow hw 3 rfl) (by decide) (by decide)) qv123a qv123c (g := (mkF m 150 #[iv p1, iv p2, iv p3, iv p4, iv p5, iv p6, iv kc, iv na, iv nb, iv sb, rv b2, rv b6, rv b11, .val (.long ((0 : Int64) + (kc.toInt64))), .second, .val (.long ((0 : Int64) + (cxr_104.toInt64))), .second, .unset, .unset, .unset, .unset, .unset, .unset, .unset, .unset, .unset, .unset, .unset] [(.int nb), (.int 0), (.ref b6), (.ref b11)])) rfl (by rw [hml]; rfl) (Steps.refl _) (argsL := [(.ref b6), (.int (0 : Int32)), (.int nb)]) (rest := []) (lenOf pd___CII_V rfl) rfl (by show 2 * 0 + _ ≤ _; exact Nat.le_of_eq rfl) (hb hby at_150) (fun _ _ => ⟨rfl, e110, (by decide : 8 + 2 ≤ _), (by decide : 58 + 30 ≤ _)⟩)
          dsimp only [Pt.U, Pt.locs, Pt.cells, Pt.slots] at X123 l123 y123 z123 st123 hQ123
          subst l123 y123 z123
          obtain ⟨hp123, e123⟩ : ∃ z, T123.heap = z := ⟨_, rfl⟩
          rw [e123] at hQ123
          obtain ⟨rfl, Nq123, pgr_123, kpr_123, cxr_123, K123, P123_0, P123_1, P123_2, P123_3, P123_4, P123_5, P123_6, P123_7, P123_8, P123_9, P123_10, P123_11⟩ := hQ123
          have Q2_127 := (Q2_108.keep K104)
          have ne_b2_pgr_123 : b2 ≠ pgr_123 := own_orne P123_0 ne_b2_pgr_104 Q2_127.lt
          have Q6_128 := (Q6_109.keep K104)
          have ne_b6_pgr_123 : b6 ≠ pgr_123 := own_orne P123_0 ne_b6_pgr_104 Q6_128.lt
          have ne_b11_pgr_123 : b11 ≠ pgr_123 := own_orne P123_0 ne_b11_pgr_104 P104_1.lt
          have ne_np_14_pgr_123 : np_14 ≠ pgr_123 := own_orne P123_0 ne_np_14_pgr_104 P104_7.lt
          have ne_wp_14_pgr_123 : wp_14 ≠ pgr_123 := own_orne P123_0 ne_wp_14_pgr_104 P104_8.lt
          have E_pg_14_129 := (P14_14.keep K104)
          have g_pgr_123 : n0 ≤ pgr_123 := own_orge P123_0 g_pgr_104 Z104
          have Z123 : n0 ≤ hp123.size := Nat.le_trans Z104 K123.1
          have N123 := Fr.app N110 Nq123
          have hcx2 := P123_11
          obtain ⟨cq130, kq130, qv130a, qv130b, qv130c⟩ := isOf hZ e123 P123_1
          obtain ⟨_, _, ⟨T130, L130, k130, n130⟩, -, X130, ⟨Lc130, hQ130, l130, y130, z130⟩, st130⟩ := X123.virtualBack hx (y := mN5) (z := mN5) hown (mvT hZ (ow hw 24 rfl)) (mvT hZ (ow hw 25 rfl)) (notFace_of_selects (args := #[]) (mvT hZ (ow hw 27 rfl))) (mvT hZ (ow hw 27 rfl)) (mvT hZ (ow hw 26 rfl)) (by decide) (backOf (W := 0) (rm_bytesN l Z a0 hw [] b11 np_14 wp_14 pgr_123 kn_14 kw_14 kpr_123 cxr_123 (((0 : Int32) + na) + nb) hp123 n0 Z123 P123_1 P123_2 P123_3 P123_4 P123_5 P123_6 P123_7 P123_8 P123_9 P123_10) hZ (ow hw 28 rfl) (ow hw 3 rfl) (by decide) (by decide)) qv130a qv130c (g := (mkF m 155 #[iv p1, iv p2, iv p3, iv p4, iv p5, iv p6, iv kc, iv na, iv nb, iv sb, rv b2, rv b6, rv b11, .val (.long ((0 : Int64) + (kc.toInt64))), .second, .val (.long ((0 : Int64) + (cxr_104.toInt64))), .second, .unset, .unset, .unset, .unset, .unset, .unset, .unset, .unset, .unset, .unset, .unset] [(.ref b11)])) rfl (by rw [hml]; rfl) (Steps.refl _) (argsL := []) (rest := []) (lenOf pd___J rfl) rfl (by show 2 * 0 + _ ≤ _; exact Nat.le_of_eq rfl) (hb hby at_155) (fun _ _ => ⟨rfl, e123, (by decide : 10 + 0 ≤ _), (by decide : 88 + 0 ≤ _)⟩)
          dsimp only [Pt.U, Pt.locs, Pt.cells, Pt.slots] at X130 l130 y130 z130 st130 hQ130
          subst l130 y130 z130
          obtain ⟨rfl, Nq130, e130⟩ := hQ130
          have N130 := Fr.app N123 Nq130
          have V_b2_132 := ((V_b2_106.keep K104 (ninS ne_b2_b11 (ninS ne_b2_np_14 (ninS ne_b2_wp_14 (ninS ne_b2_pg_14 nin0))))).keep K123 (ninS ne_b2_b11 (ninS ne_b2_np_14 (ninS ne_b2_wp_14 (ninS ne_b2_pgr_104 nin0)))))
          obtain ⟨_, _, ⟨T131, L131, k131, n131⟩, -, X131, ⟨Lc131, hQ131, l131, y131, z131⟩, st131⟩ := Jvm.LawKit.callS X130 hx (y := mN9) hown (mvT hZ (ow hw 70 rfl)) (mvT hZ (ow hw 71 rfl)) (mvT hZ (ow hw 72 rfl)) (mvT hZ (ow hw 73 rfl)) (by decide) (backOf (W := 0) (rm_any l Z a0 hw [] b2 na k2 xa xb xc hp123 n0 Z123 V_b2_132) hZ (ow hw 73 rfl) (ow hw 72 rfl) (by decide) (by decide)) (g := (mkF m 164 #[iv p1, iv p2, iv p3, iv p4, iv p5, iv p6, iv kc, iv na, iv nb, iv sb, rv b2, rv b6, rv b11, .val (.long ((0 : Int64) + (kc.toInt64))), .second, .val (.long ((0 : Int64) + (cxr_104.toInt64))), .second, .val (.long ((0 : Int64) + (cxr_123.toInt64))), .second, .unset, .unset, .unset, .unset, .unset, .unset, .unset, .unset, .unset] [(.int na), (.ref b2)])) rfl (by rw [hml]; rfl) (argsL := [(.ref b2), (.int na)]) (rest := []) (lenOf pd___CI_Z rfl) rfl (by show 2 * 0 + _ ≤ _; exact Nat.le_of_eq rfl) (hb hby at_164) (fun _ _ => ⟨rfl, e130, (by decide : 10 + 0 ≤ _), (by decide : 88 + 0 ≤ _)⟩)
          dsimp only [Pt.U, Pt.locs, Pt.cells, Pt.slots] at X131 l131 y131 z131 st131 hQ131
          subst l131 y131 z131
          obtain ⟨hp131, e131⟩ : ∃ z, T131.heap = z := ⟨_, rfl⟩
          rw [e131] at hQ131
          obtain ⟨rfl, Nq131, K131⟩ := hQ131
          have Z131 : n0 ≤ hp131.size := Nat.le_trans Z123 K131.1
          have N131 := Fr.app N130 Nq131
          have V_b6_134 := ((V_b6_125.keep K123 (ninS ne_b6_b11 (ninS ne_b6_np_14 (ninS ne_b6_wp_14 (ninS ne_b6_pgr_104 nin0))))).keep K131 nin0)
          obtain ⟨_, _, ⟨T133, L133, k133, n133⟩, -, X133, ⟨Lc133, hQ133, l133, y133, z133⟩, st133⟩ := Jvm.LawKit.callS X131 hx (y := mN9) hown (mvT hZ (ow hw 70 rfl)) (mvT hZ (ow hw 71 rfl)) (mvT hZ (ow hw 72 rfl)) (mvT hZ (ow hw 73 rfl)) (by decide) (backOf (W := 0) (rm_any l Z a0 hw [] b6 nb k6 ya yb yc hp131 n0 Z131 V_b6_134) hZ (ow hw 73 rfl) (ow hw 72 rfl) (by decide) (by decide)) (g := (mkF m 178 #[iv p1, iv p2, iv p3, iv p4, iv p5, iv p6, iv kc, iv na, iv nb, iv sb, rv b2, rv b6, rv b11, .val (.long ((0 : Int64) + (kc.toInt64))), .second, .val (.long ((0 : Int64) + (cxr_104.toInt64))), .second, .val (.long ((0 : Int64) + (cxr_123.toInt64))), .second, iv (own_any xa xb xc na), .unset, .unset, .unset, .unset, .unset, .unset, .unset, .unset] [(.int nb), (.ref b6)])) rfl (by rw [hml]; rfl) (argsL := [(.ref b6), (.int nb)]) (rest := []) (lenOf pd___CI_Z rfl) rfl (by show 2 * 0 + _ ≤ _; exact Nat.le_of_eq rfl) (hb hby at_178) (fun _ _ => ⟨rfl, e131, (by decide : 10 + 0 ≤ _), (by decide : 88 + 0 ≤ _)⟩)
          dsimp only [Pt.U, Pt.locs, Pt.cells, Pt.slots] at X133 l133 y133 z133 st133 hQ133
          subst l133 y133 z133
          obtain ⟨hp133, e133⟩ : ∃ z, T133.heap = z := ⟨_, rfl⟩
          rw [e133] at hQ133
          obtain ⟨rfl, Nq133, K133⟩ := hQ133
          have Z133 : n0 ≤ hp133.size := Nat.le_trans Z131 K133.1
          have N133 := Fr.app N131 Nq133
          replace K : OGo p e below A0 T133 (mkF m 191 #[iv p1, iv p2, iv p3, iv p4, iv p5, iv p6, iv kc, iv na, iv nb, iv sb, rv b2, rv b6, rv b11, .val (.long ((0 : Int64) + (kc.toInt64))), .second, .val (.long ((0 : Int64) + (cxr_104.toInt64))), .second, .val (.long ((0 : Int64) + (cxr_123.toInt64))), .second, iv (own_any xa xb xc na), iv 0, .unset, .unset, .unset, .unset, .unset, .unset, .unset] []) := fun t k => K t (XS.aload X110.here hx rfl (hb hby at_143) rfl rfl (XS.aload X110.here hx rfl (hb hby at_145) rfl rfl (XS.iconst X110.here hx rfl (hb hby at_147) (XS.iload X110.here hx rfl (hb hby at_148) rfl (st123.trans (XS.aload X123.here hx rfl (hb hby at_153) rfl rfl (st130.trans (XS.lstore X130.here hx rfl (hb hby at_158) rfl (l' := #[iv p1, iv p2, iv p3, iv p4, iv p5, iv p6, iv kc, iv na, iv nb, iv sb, rv b2, rv b6, rv b11, .val (.long ((0 : Int64) + (kc.toInt64))), .second, .val (.long ((0 : Int64) + (cxr_104.toInt64))), .second, .val (.long ((0 : Int64) + (cxr_123.toInt64))), .second, .unset, .unset, .unset, .unset, .unset, .unset, .unset, .unset, .unset]) rfl (XS.aload X130.here hx rfl (hb hby at_160) rfl rfl (XS.iload X130.here hx rfl (hb hby at_162) rfl (st131 t (XS.istore X131.here hx rfl (hb hby at_167) rfl (l' := #[iv p1, iv p2, iv p3, iv p4, iv p5, iv p6, iv kc, iv na, iv nb, iv sb, rv b2, rv b6, rv b11, .val (.long ((0 : Int64) + (kc.toInt64))), .second, .val (.long ((0 : Int64) + (cxr_104.toInt64))), .second, .val (.long ((0 : Int64) + (cxr_123.toInt64))), .second, iv (own_any xa xb xc na), .unset, .unset, .unset, .unset, .unset, .unset, .unset, .unset]) rfl (XS.iload X131.here hx rfl (hb hby at_169) rfl (XS.ifNo X131.here hx rfl (hb hby at_171) rfl ((if0 _ _).trans (teq ((own_anyE0 hw1) : (own_any xa xb xc na) = (0 : Int32))).2) (XS.aload X131.here hx rfl (hb hby at_174) rfl rfl (XS.iload X131.here hx rfl (hb hby at_176) rfl (st133 t (XS.ifYes X133.here hx rfl (pc0 := 181) (pc' := 188) rfl (hb hby at_181) rfl ((if0 _ _).trans (teq ((own_anyE0 hw2) : (own_any ya yb yc nb) = (0 : Int32))).1) (by decide) (by decide) (XS.iconst X133.here hx rfl (hb hby at_188) (XS.istore X133.here hx rfl (hb hby at_189) rfl (l' := #[iv p1, iv p2, iv p3, iv p4, iv p5, iv p6, iv kc, iv na, iv nb, iv sb, rv b2, rv b6, rv b11, .val (.long ((0 : Int64) + (kc.toInt64))), .second, .val (.long ((0 : Int64) + (cxr_104.toInt64))), .second, .val (.long ((0 : Int64) + (cxr_123.toInt64))), .second, iv (own_any xa xb xc na), iv 0, .unset, .unset, .unset, .unset, .unset, .unset, .unset]) rfl k))))))))))))))))))))
          exact J18 ⟨nb, ((0 : Int64) + (cxr_104.toInt64)), ((0 : Int64) + (cxr_123.toInt64)), (own_any xa xb xc na), (0 : Int32), _, _, _, (X133.more (by decide) (by decide)), e133, N133, Z133, (by rw [own_anyE0 hw1, ← hcx1]; simp [own_sz]), (by rw [← hcx1, ← hcx2]; simp [own_sz]), K⟩
      · replace K : OGo p e below A0 T110 (mkF m 123 #[iv p1, iv p2, iv p3, iv p4, iv p5, iv p6, iv kc, iv na, iv nb, iv sb, rv b2, rv b6, rv b11, .val (.long ((0 : Int64) + (kc.toInt64))), .second, .val (.long ((0 : Int64) + (cxr_104.toInt64))), .second, .unset, .unset, .unset, .unset, .unset, .unset, .unset, .unset, .unset, .unset, .unset] []) := fun t k => K t (XS.ifNo X110.here hx rfl (hb hby at_120) rfl ((if0 _ _).trans (feq hc120).1) k)
        by_cases hw2 : own_w ya yb yc (3 : Int32)
        · obtain ⟨T135, h135, X135, e135, E135, A135, D135, -, st135⟩ := newO X110 hx hZ hown (ow hw 75 rfl) (ow hw 76 rfl) (ow hw 77 rfl) e110 (g := (mkF m 128 #[iv p1, iv p2, iv p3, iv p4, iv p5, iv p6, iv kc, iv na, iv 3, iv sb, rv b2, rv b6, rv b11, .val (.long ((0 : Int64) + (kc.toInt64))), .second, .val (.long ((0 : Int64) + (cxr_104.toInt64))), .second, .unset, .unset, .unset, .unset, .unset, .unset, .unset, .unset, .unset, .unset, .unset] [(.ref b11)])) rfl (hb hby at_128) (by decide) (by decide)
          obtain ⟨b135, gz135⟩ : ∃ z, z = hp104.size := ⟨_, rfl⟩
          rw [← gz135] at A135 D135 st135
          have Q2_136 := (Q2_108.keep K104)
          have ne_b2_b135 : b2 ≠ b135 := Nat.ne_of_lt (Nat.lt_of_lt_of_le Q2_136.lt (Nat.le_of_eq gz135.symm))
          have Q6_137 := (Q6_109.keep K104)
          have ne_b6_b135 : b6 ≠ b135 := Nat.ne_of_lt (Nat.lt_of_lt_of_le Q6_137.lt (Nat.le_of_eq gz135.symm))
          have ne_b11_b135 : b11 ≠ b135 := Nat.ne_of_lt (Nat.lt_of_lt_of_le P104_1.lt (Nat.le_of_eq gz135.symm))
          have ne_np_14_b135 : np_14 ≠ b135 := Nat.ne_of_lt (Nat.lt_of_lt_of_le P104_7.lt (Nat.le_of_eq gz135.symm))
          have ne_wp_14_b135 : wp_14 ≠ b135 := Nat.ne_of_lt (Nat.lt_of_lt_of_le P104_8.lt (Nat.le_of_eq gz135.symm))
          have E_pg_14_138 := (P14_14.keep K104)
          have ne_pg_14_b135 : pg_14 ≠ b135 := Nat.ne_of_lt (Nat.lt_of_lt_of_le E_pg_14_138.lt (Nat.le_of_eq gz135.symm))
          have ne_pgr_104_b135 : pgr_104 ≠ b135 := Nat.ne_of_lt (Nat.lt_of_lt_of_le P104_9.lt (Nat.le_of_eq gz135.symm))
          have g_b135 : n0 ≤ b135 := Nat.le_trans Z104 (Nat.le_of_eq gz135.symm)
          have Z135 : n0 ≤ h135.size := Nat.le_trans Z104 E135.1
          have F_coder_b135 : Fld Z h135 b135 cN1 "coder" "B" (.int (0 : Int32)) := D135 (Or.inr (ow hw 98 rfl)) (ty := .byte) (by decide)
          have F_value_b135 : Fld Z h135 b135 cN1 "value" "[B" .null := D135 (Or.inr (ow hw 100 rfl)) (ty := (.array .byte)) (by decide)
          have O_0_j1_140 := ((O_0_j1_105.keep K104 (allS g_b11 (allS g_np_14 (allS g_wp_14 (allS g_pg_14 all0))))).ext E135)
          have V_b6_141 := ((((V_b6_10.ext E11).keep K14 (ninS ne_b6_b11 nin0)).keep K104 (ninS ne_b6_b11 (ninS ne_b6_np_14 (ninS ne_b6_wp_14 (ninS ne_b6_pg_14 nin0))))).ext E135)
          obtain ⟨_, _, ⟨T139, L139, k139, n139⟩, -, X139, ⟨Lc139, hQ139, l139, y139, z139⟩, st139⟩ := X135.specialBack hx (y := mN34) rfl hown (mvT hZ (ow hw 78 rfl)) (mvT hZ (ow hw 79 rfl)) (mvT hZ (ow hw 80 rfl)) (by decide) (backOf (W := 2) (rm_si1U l Z a0 hw [] b135 b6 k6 ya yb yc cs fw h135 n0 Z135 hST O_0_j1_140 A135 F_value_b135 F_coder_b135 g_b135 (Ne.symm ne_b6_b135) V_b6_141 hw2 (own_chI rg_ya rg_yb rg_yc)) hZ (ow hw 80 rfl) (ow hw 77 rfl) (by decide) (by decide)) (g := (mkF m 134 #[iv p1, iv p2, iv p3, iv p4, iv p5, iv p6, iv kc, iv na, iv 3, iv sb, rv b2, rv b6, rv b11, .val (.long ((0 : Int64) + (kc.toInt64))), .second, .val (.long ((0 : Int64) + (cxr_104.toInt64))), .second, .unset, .unset, .unset, .unset, .unset, .unset, .unset, .unset, .unset, .unset, .unset] [(.ref b6), (.ref b135), (.ref b135), (.ref b11)])) rfl (by rw [hml]; rfl) (Steps.refl _) (a := b135) (argsL := [(.ref b6)]) (rest := [(.ref b135), (.ref b11)]) (lenOf pd___C_V rfl) rfl (by show 2 * 0 + _ ≤ _; exact Nat.le_of_eq rfl) (hb hby at_134) (fun _ _ => ⟨rfl, e135, (by decide : 9 + 2 ≤ _), (by decide : 62 + 9 ≤ _)⟩)
          dsimp only [Pt.U, Pt.locs, Pt.cells, Pt.slots] at X139 l139 y139 z139 st139 hQ139
          subst l139 y139 z139
          obtain ⟨hp139, e139⟩ : ∃ z, T139.heap = z := ⟨_, rfl⟩
          rw [e139] at hQ139
          obtain ⟨rfl, Nq139, va_139, kv_139, K139, P139_0, P139_1, P139_2, P139_3⟩ := hQ139
          have Q2_142 := (Q2_136.ext E135)
          have ne_b2_va_139 : b2 ≠ va_139 := Nat.ne_of_lt (Nat.lt_of_lt_of_le Q2_142.lt P139_0)
          have Q6_143 := (Q6_137.ext E135)
          have ne_b6_va_139 : b6 ≠ va_139 := Nat.ne_of_lt (Nat.lt_of_lt_of_le Q6_143.lt P139_0)
          have E_b11_144 := (P104_1.ext E135)
          have ne_b11_va_139 : b11 ≠ va_139 := Nat.ne_of_lt (Nat.lt_of_lt_of_le E_b11_144.lt P139_0)
          have V_np_14_145 := (P104_7.ext E135)
          have ne_np_14_va_139 : np_14 ≠ va_139 := Nat.ne_of_lt (Nat.lt_of_lt_of_le V_np_14_145.lt P139_0)
          have V_wp_14_146 := (P104_8.ext E135)
          have ne_wp_14_va_139 : wp_14 ≠ va_139 := Nat.ne_of_lt (Nat.lt_of_lt_of_le V_wp_14_146.lt P139_0)
          have E_pg_14_147 := (E_pg_14_138.ext E135)
          have ne_pg_14_va_139 : pg_14 ≠ va_139 := Nat.ne_of_lt (Nat.lt_of_lt_of_le E_pg_14_147.lt P139_0)
          have E_pgr_104_148 := (P104_9.ext E135)
          have ne_pgr_104_va_139 : pgr_104 ≠ va_139 := Nat.ne_of_lt (Nat.lt_of_lt_of_le E_pgr_104_148.lt P139_0)
          have ne_b135_va_139 : b135 ≠ va_139 := Nat.ne_of_lt (Nat.lt_of_lt_of_le A135.lt P139_0)
          have g_va_139 : n0 ≤ va_139 := Nat.le_trans Z135 P139_0
          have Z139 : n0 ≤ hp139.size := Nat.le_trans Z135 K139.1
          have N139 := Fr.app N110 Nq139
          have O_0_j1_150 := (O_0_j1_140.keep K139 (allS g_b135 all0))
          have E_b11_151 := (E_b11_144.keep K139)
          have F_narrowPages_b11_152 := ((P104_2.ext E135).keep K139 (ninS ne_b11_b135 nin0))
          have F_widePages_b11_153 := ((P104_3.ext E135).keep K139 (ninS ne_b11_b135 nin0))
          have F_pageCount_b11_154 := ((P104_4.ext E135).keep K139 (ninS ne_b11_b135 nin0))
          have F_capacity_b11_155 := ((P104_5.ext E135).keep K139 (ninS ne_b11_b135 nin0))
          have F_length_b11_156 := ((P104_6.ext E135).keep K139 (ninS ne_b11_b135 nin0))
          have V_np_14_157 := (V_np_14_145.keep K139 (ninS ne_np_14_b135 nin0))
          have V_wp_14_158 := (V_wp_14_146.keep K139 (ninS ne_wp_14_b135 nin0))
          have E_pgr_104_159 := (E_pgr_104_148.keep K139)
          have G_pgr_104_160 := ((P104_10.ext E135).keep K139 (ninS ne_pgr_104_b135 nin0))
          have A135_161 := (A135.keep K139)
          have nd162 : OND [b11, np_14, wp_14, pgr_104, b135, va_139] := (ondS (allS ne_b11_np_14 (allS ne_b11_wp_14 (allS ne_b11_pgr_104 (allS ne_b11_b135 (allS ne_b11_va_139 all0))))) (ondS (allS (own_pw P14_3 0 1 (by decide) rfl rfl) (allS ne_np_14_pgr_104 (allS ne_np_14_b135 (allS ne_np_14_va_139 all0)))) (ondS (allS ne_wp_14_pgr_104 (allS ne_wp_14_b135 (allS ne_wp_14_va_139 all0))) (ondS (allS ne_pgr_104_b135 (allS ne_pgr_104_va_139 all0)) (ondS (allS ne_b135_va_139 all0) (ondS all0 ond0))))))
          obtain ⟨cq149, kq149, qv149a, qv149b, qv149c⟩ := isOf hZ e139 E_b11_151
          obtain ⟨_, _, ⟨T149, L149, k149, n149⟩, -, X149, ⟨Lc149, hQ149, l149, y149, z149⟩, st149⟩ := X139.virtualBack hx (y := mN41) (z := mN41) hown (mvT hZ (ow hw 101 rfl)) (mvT hZ (ow hw 102 rfl)) (notFace_of_selects (args := #[]) (mvT hZ (ow hw 104 rfl))) (mvT hZ (ow hw 104 rfl)) (mvT hZ (ow hw 103 rfl)) (by decide) (backOf (W := 0) (rm_apsNW l Z a0 hw [] b11 b135 np_14 wp_14 pgr_104 kn_14 kw_14 kpr_104 cxr_104 ((0 : Int32) + na) va_139 kv_139 ya yb yc cs fw hp139 n0 Z139 hST O_0_j1_150 ovn ovw E_b11_151 F_narrowPages_b11_152 F_widePages_b11_153 F_pageCount_b11_154 F_capacity_b11_155 F_length_b11_156 V_np_14_157 V_wp_14_158 E_pgr_104_159 G_pgr_104_160 P139_1 P139_2 P139_3 A135_161 g_b11 g_np_14 g_wp_14 g_pgr_104 nd162 (by have := own_t0; have := own_3; omega) hw2 (own_chI rg_ya rg_yb rg_yc)) hZ (ow hw 105 rfl) (ow hw 3 rfl) (by decide) (by decide)) qv149a qv149c (g := (mkF m 137 #[iv p1, iv p2, iv p3, iv p4, iv p5, iv p6, iv kc, iv na, iv 3, iv sb, rv b2, rv b6, rv b11, .val (.long ((0 : Int64) + (kc.toInt64))), .second, .val (.long ((0 : Int64) + (cxr_104.toInt64))), .second, .unset, .unset, .unset, .unset, .unset, .unset, .unset, .unset, .unset, .unset, .unset] [(.ref b135), (.ref b11)])) rfl (by rw [hml]; rfl) (Steps.refl _) (argsL := [(.ref b135)]) (rest := []) (lenOf pd__Ljava_lang_String__V rfl) rfl (by show 2 * 0 + _ ≤ _; exact Nat.le_of_eq rfl) (hb hby at_137) (fun _ _ => ⟨rfl, e139, (by decide : 11 + 2 ≤ _), (by decide : 71 + 30 ≤ _)⟩)
          dsimp only [Pt.U, Pt.locs, Pt.cells, Pt.slots] at X149 l149 y149 z149 st149 hQ149
          subst l149 y149 z149
          obtain ⟨hp149, e149⟩ : ∃ z, T149.heap = z := ⟨_, rfl⟩
          rw [e149] at hQ149
          obtain ⟨rfl, Nq149, pgr_149, kpr_149, cxr_149, K149, P149_0, P149_1, P149_2, P149_3, P149_4, P149_5, P149_6, P149_7, P149_8, P149_9, P149_10, P149_11⟩ := hQ149
          have Q2_163 := (Q2_142.keep K139)
          have ne_b2_pgr_149 : b2 ≠ pgr_149 := own_orne P149_0 ne_b2_pgr_104 Q2_163.lt
          have Q6_164 := (Q6_143.keep K139)
          have ne_b6_pgr_149 : b6 ≠ pgr_149 := own_orne P149_0 ne_b6_pgr_104 Q6_164.lt
          have ne_b11_pgr_149 : b11 ≠ pgr_149 := own_orne P149_0 ne_b11_pgr_104 E_b11_151.lt
          have ne_np_14_pgr_149 : np_14 ≠ pgr_149 := own_orne P149_0 ne_np_14_pgr_104 V_np_14_157.lt
          have ne_wp_14_pgr_149 : wp_14 ≠ pgr_149 := own_orne P149_0 ne_wp_14_pgr_104 V_wp_14_158.lt
          have E_pg_14_165 := (E_pg_14_147.keep K139)
          have ne_b135_pgr_149 : b135 ≠ pgr_149 := own_orne P149_0 (Ne.symm ne_pgr_104_b135) A135_161.lt
          have ne_va_139_pgr_149 : va_139 ≠ pgr_149 := own_orne P149_0 (Ne.symm ne_pgr_104_va_139) P139_3.lt
          have g_pgr_149 : n0 ≤ pgr_149 := own_orge P149_0 g_pgr_104 Z139
          have Z149 : n0 ≤ hp149.size := Nat.le_trans Z139 K149.1
          have N149 := Fr.app N139 Nq149
          have hcx2 := P149_11
          obtain ⟨cq166, kq166, qv166a, qv166b, qv166c⟩ := isOf hZ e149 P149_1
          obtain ⟨_, _, ⟨T166, L166, k166, n166⟩, -, X166, ⟨Lc166, hQ166, l166, y166, z166⟩, st166⟩ := X149.virtualBack hx (y := mN5) (z := mN5) hown (mvT hZ (ow hw 24 rfl)) (mvT hZ (ow hw 25 rfl)) (notFace_of_selects (args := #[]) (mvT hZ (ow hw 27 rfl))) (mvT hZ (ow hw 27 rfl)) (mvT hZ (ow hw 26 rfl)) (by decide) (backOf (W := 0) (rm_bytesW l Z a0 hw [] b11 np_14 wp_14 pgr_149 kn_14 kw_14 kpr_149 cxr_149 (((0 : Int32) + na) + (3 : Int32)) hp149 n0 Z149 P149_1 P149_2 P149_3 P149_4 P149_5 P149_6 P149_7 P149_8 P149_9 P149_10) hZ (ow hw 28 rfl) (ow hw 3 rfl) (by decide) (by decide)) qv166a qv166c (g := (mkF m 155 #[iv p1, iv p2, iv p3, iv p4, iv p5, iv p6, iv kc, iv na, iv 3, iv sb, rv b2, rv b6, rv b11, .val (.long ((0 : Int64) + (kc.toInt64))), .second, .val (.long ((0 : Int64) + (cxr_104.toInt64))), .second, .unset, .unset, .unset, .unset, .unset, .unset, .unset, .unset, .unset, .unset, .unset] [(.ref b11)])) rfl (by rw [hml]; rfl) (Steps.refl _) (argsL := []) (rest := []) (lenOf pd___J rfl) rfl (by show 2 * 0 + _ ≤ _; exact Nat.le_of_eq rfl) (hb hby at_155) (fun _ _ => ⟨rfl, e149, (by decide : 13 + 0 ≤ _), (by decide : 101 + 0 ≤ _)⟩)
          dsimp only [Pt.U, Pt.locs, Pt.cells, Pt.slots] at X166 l166 y166 z166 st166 hQ166
          subst l166 y166 z166
          obtain ⟨rfl, Nq166, e166⟩ := hQ166
          have N166 := Fr.app N149 Nq166
          have V_b2_168 := ((((V_b2_106.keep K104 (ninS ne_b2_b11 (ninS ne_b2_np_14 (ninS ne_b2_wp_14 (ninS ne_b2_pg_14 nin0))))).ext E135).keep K139 (ninS ne_b2_b135 nin0)).keep K149 (ninS ne_b2_b11 (ninS ne_b2_np_14 (ninS ne_b2_wp_14 (ninS ne_b2_pgr_104 nin0)))))
          obtain ⟨_, _, ⟨T167, L167, k167, n167⟩, -, X167, ⟨Lc167, hQ167, l167, y167, z167⟩, st167⟩ := Jvm.LawKit.callS X166 hx (y := mN9) hown (mvT hZ (ow hw 70 rfl)) (mvT hZ (ow hw 71 rfl)) (mvT hZ (ow hw 72 rfl)) (mvT hZ (ow hw 73 rfl)) (by decide) (backOf (W := 0) (rm_any l Z a0 hw [] b2 na k2 xa xb xc hp149 n0 Z149 V_b2_168) hZ (ow hw 73 rfl) (ow hw 72 rfl) (by decide) (by decide)) (g := (mkF m 164 #[iv p1, iv p2, iv p3, iv p4, iv p5, iv p6, iv kc, iv na, iv 3, iv sb, rv b2, rv b6, rv b11, .val (.long ((0 : Int64) + (kc.toInt64))), .second, .val (.long ((0 : Int64) + (cxr_104.toInt64))), .second, .val (.long ((0 : Int64) + ((2 : Int64) * (cxr_149.toInt64)))), .second, .unset, .unset, .unset, .unset, .unset, .unset, .unset, .unset, .unset] [(.int na), (.ref b2)])) rfl (by rw [hml]; rfl) (argsL := [(.ref b2), (.int na)]) (rest := []) (lenOf pd___CI_Z rfl) rfl (by show 2 * 0 + _ ≤ _; exact Nat.le_of_eq rfl) (hb hby at_164) (fun _ _ => ⟨rfl, e166, (by decide : 13 + 0 ≤ _), (by decide : 101 + 0 ≤ _)⟩)
          dsimp only [Pt.U, Pt.locs, Pt.cells, Pt.slots] at X167 l167 y167 z167 st167 hQ167
          subst l167 y167 z167
          obtain ⟨hp167, e167⟩ : ∃ z, T167.heap = z := ⟨_, rfl⟩
          rw [e167] at hQ167
          obtain ⟨rfl, Nq167, K167⟩ := hQ167
          have Z167 : n0 ≤ hp167.size := Nat.le_trans Z149 K167.1
          have N167 := Fr.app N166 Nq167
          replace K : OGo p e below A0 T167 (mkF m 178 #[iv p1, iv p2, iv p3, iv p4, iv p5, iv p6, iv kc, iv na, iv 3, iv sb, rv b2, rv b6, rv b11, .val (.long ((0 : Int64) + (kc.toInt64))), .second, .val (.long ((0 : Int64) + (cxr_104.toInt64))), .second, .val (.long ((0 : Int64) + ((2 : Int64) * (cxr_149.toInt64)))), .second, iv (own_any xa xb xc na), .unset, .unset, .unset, .unset, .unset, .unset, .unset, .unset] [(.int 3), (.ref b6)]) := fun t k => K t (XS.iconst X110.here hx rfl (hb hby at_123) (XS.istore X110.here hx rfl (hb hby at_124) rfl (l' := #[iv p1, iv p2, iv p3, iv p4, iv p5, iv p6, iv kc, iv na, iv 3, iv sb, rv b2, rv b6, rv b11, .val (.long ((0 : Int64) + (kc.toInt64))), .second, .val (.long ((0 : Int64) + (cxr_104.toInt64))), .second, .unset, .unset, .unset, .unset, .unset, .unset, .unset, .unset, .unset, .unset, .unset]) rfl (XS.aload X110.here hx rfl (hb hby at_126) rfl rfl (st135 t (XS.dup X135.here hx rfl (hb hby at_131) rfl rfl (XS.aload X135.here hx rfl (hb hby at_132) rfl rfl (st139.trans (st149.trans (XS.goto X149.here hx rfl (pc0 := 140) (pc' := 153) rfl (hb hby at_140) (by decide) (by decide) (XS.aload X149.here hx rfl (hb hby at_153) rfl rfl (st166.trans (XS.lstore X166.here hx rfl (hb hby at_158) rfl (l' := #[iv p1, iv p2, iv p3, iv p4, iv p5, iv p6, iv kc, iv na, iv 3, iv sb, rv b2, rv b6, rv b11, .val (.long ((0 : Int64) + (kc.toInt64))), .second, .val (.long ((0 : Int64) + (cxr_104.toInt64))), .second, .val (.long ((0 : Int64) + ((2 : Int64) * (cxr_149.toInt64)))), .second, .unset, .unset, .unset, .unset, .unset, .unset, .unset, .unset, .unset]) rfl (XS.aload X166.here hx rfl (hb hby at_160) rfl rfl (XS.iload X166.here hx rfl (hb hby at_162) rfl (st167 t (XS.istore X167.here hx rfl (hb hby at_167) rfl (l' := #[iv p1, iv p2, iv p3, iv p4, iv p5, iv p6, iv kc, iv na, iv 3, iv sb, rv b2, rv b6, rv b11, .val (.long ((0 : Int64) + (kc.toInt64))), .second, .val (.long ((0 : Int64) + (cxr_104.toInt64))), .second, .val (.long ((0 : Int64) + ((2 : Int64) * (cxr_149.toInt64)))), .second, iv (own_any xa xb xc na), .unset, .unset, .unset, .unset, .unset, .unset, .unset, .unset]) rfl (XS.iload X167.here hx rfl (hb hby at_169) rfl (XS.ifNo X167.here hx rfl (hb hby at_171) rfl ((if0 _ _).trans (teq ((own_anyE0 hw1) : (own_any xa xb xc na) = (0 : Int32))).2) (XS.aload X167.here hx rfl (hb hby at_174) rfl rfl (XS.iload X167.here hx rfl (hb hby at_176) rfl k))))))))))))))))))))
          have V_b6_170 := (((V_b6_141.keep K139 (ninS ne_b6_b135 nin0)).keep K149 (ninS ne_b6_b11 (ninS ne_b6_np_14 (ninS ne_b6_wp_14 (ninS ne_b6_pgr_104 nin0))))).keep K167 nin0)
          obtain ⟨_, _, ⟨T169, L169, k169, n169⟩, -, X169, ⟨Lc169, hQ169, l169, y169, z169⟩, st169⟩ := Jvm.LawKit.callS X167 hx (y := mN9) hown (mvT hZ (ow hw 70 rfl)) (mvT hZ (ow hw 71 rfl)) (mvT hZ (ow hw 72 rfl)) (mvT hZ (ow hw 73 rfl)) (by decide) (backOf (W := 0) (rm_any l Z a0 hw [] b6 (3 : Int32) k6 ya yb yc hp167 n0 Z167 V_b6_170) hZ (ow hw 73 rfl) (ow hw 72 rfl) (by decide) (by decide)) (g := (mkF m 178 #[iv p1, iv p2, iv p3, iv p4, iv p5, iv p6, iv kc, iv na, iv 3, iv sb, rv b2, rv b6, rv b11, .val (.long ((0 : Int64) + (kc.toInt64))), .second, .val (.long ((0 : Int64) + (cxr_104.toInt64))), .second, .val (.long ((0 : Int64) + ((2 : Int64) * (cxr_149.toInt64)))), .second, iv (own_any xa xb xc na), .unset, .unset, .unset, .unset, .unset, .unset, .unset, .unset] [(.int 3), (.ref b6)])) rfl (by rw [hml]; rfl) (argsL := [(.ref b6), (.int (3 : Int32))]) (rest := []) (lenOf pd___CI_Z rfl) rfl (by show 2 * 0 + _ ≤ _; exact Nat.le_of_eq rfl) (hb hby at_178) (fun _ _ => ⟨rfl, e167, (by decide : 13 + 0 ≤ _), (by decide : 101 + 0 ≤ _)⟩)
          dsimp only [Pt.U, Pt.locs, Pt.cells, Pt.slots] at X169 l169 y169 z169 st169 hQ169
          subst l169 y169 z169
          obtain ⟨hp169, e169⟩ : ∃ z, T169.heap = z := ⟨_, rfl⟩
          rw [e169] at hQ169
          obtain ⟨rfl, Nq169, K169⟩ := hQ169
          have Z169 : n0 ≤ hp169.size := Nat.le_trans Z167 K169.1
          have N169 := Fr.app N167 Nq169
          replace K : OGo p e below A0 T169 (mkF m 191 #[iv p1, iv p2, iv p3, iv p4, iv p5, iv p6, iv kc, iv na, iv 3, iv sb, rv b2, rv b6, rv b11, .val (.long ((0 : Int64) + (kc.toInt64))), .second, .val (.long ((0 : Int64) + (cxr_104.toInt64))), .second, .val (.long ((0 : Int64) + ((2 : Int64) * (cxr_149.toInt64)))), .second, iv (own_any xa xb xc na), iv 1, .unset, .unset, .unset, .unset, .unset, .unset, .unset] []) := fun t k => K t (st169 t (XS.ifNo X169.here hx rfl (hb hby at_181) rfl ((if0 _ _).trans (feq ((own_any1 hw2) : ¬ ((own_any ya yb yc (3 : Int32)) = (0 : Int32)))).1) (XS.iconst X169.here hx rfl (hb hby at_184) (XS.goto X169.here hx rfl (pc0 := 185) (pc' := 189) rfl (hb hby at_185) (by decide) (by decide) (XS.istore X169.here hx rfl (hb hby at_189) rfl (l' := #[iv p1, iv p2, iv p3, iv p4, iv p5, iv p6, iv kc, iv na, iv 3, iv sb, rv b2, rv b6, rv b11, .val (.long ((0 : Int64) + (kc.toInt64))), .second, .val (.long ((0 : Int64) + (cxr_104.toInt64))), .second, .val (.long ((0 : Int64) + ((2 : Int64) * (cxr_149.toInt64)))), .second, iv (own_any xa xb xc na), iv 1, .unset, .unset, .unset, .unset, .unset, .unset, .unset]) rfl k)))))
          exact J18 ⟨(3 : Int32), ((0 : Int64) + (cxr_104.toInt64)), ((0 : Int64) + ((2 : Int64) * (cxr_149.toInt64))), (own_any xa xb xc na), (1 : Int32), _, _, _, X169, e169, N169, Z169, (by rw [own_anyE0 hw1, ← hcx1]; simp [own_sz]), (by rw [← hcx1, ← hcx2]; simp [own_sz]), K⟩
        · obtain ⟨T171, h171, X171, e171, E171, A171, D171, -, st171⟩ := newO X110 hx hZ hown (ow hw 75 rfl) (ow hw 76 rfl) (ow hw 77 rfl) e110 (g := (mkF m 128 #[iv p1, iv p2, iv p3, iv p4, iv p5, iv p6, iv kc, iv na, iv 3, iv sb, rv b2, rv b6, rv b11, .val (.long ((0 : Int64) + (kc.toInt64))), .second, .val (.long ((0 : Int64) + (cxr_104.toInt64))), .second, .unset, .unset, .unset, .unset, .unset, .unset, .unset, .unset, .unset, .unset, .unset] [(.ref b11)])) rfl (hb hby at_128) (by decide) (by decide)
          obtain ⟨b171, gz171⟩ : ∃ z, z = hp104.size := ⟨_, rfl⟩
          rw [← gz171] at A171 D171 st171
          have Q2_172 := (Q2_108.keep K104)
          have ne_b2_b171 : b2 ≠ b171 := Nat.ne_of_lt (Nat.lt_of_lt_of_le Q2_172.lt (Nat.le_of_eq gz171.symm))
          have Q6_173 := (Q6_109.keep K104)
          have ne_b6_b171 : b6 ≠ b171 := Nat.ne_of_lt (Nat.lt_of_lt_of_le Q6_173.lt (Nat.le_of_eq gz171.symm))
          have ne_b11_b171 : b11 ≠ b171 := Nat.ne_of_lt (Nat.lt_of_lt_of_le P104_1.lt (Nat.le_of_eq gz171.symm))
          have ne_np_14_b171 : np_14 ≠ b171 := Nat.ne_of_lt (Nat.lt_of_lt_of_le P104_7.lt (Nat.le_of_eq gz171.symm))
          have ne_wp_14_b171 : wp_14 ≠ b171 := Nat.ne_of_lt (Nat.lt_of_lt_of_le P104_8.lt (Nat.le_of_eq gz171.symm))
          have E_pg_14_174 := (P14_14.keep K104)
          have ne_pg_14_b171 : pg_14 ≠ b171 := Nat.ne_of_lt (Nat.lt_of_lt_of_le E_pg_14_174.lt (Nat.le_of_eq gz171.symm))
          have ne_pgr_104_b171 : pgr_104 ≠ b171 := Nat.ne_of_lt (Nat.lt_of_lt_of_le P104_9.lt (Nat.le_of_eq gz171.symm))
          have g_b171 : n0 ≤ b171 := Nat.le_trans Z104 (Nat.le_of_eq gz171.symm)
          have Z171 : n0 ≤ h171.size := Nat.le_trans Z104 E171.1
          have F_coder_b171 : Fld Z h171 b171 cN1 "coder" "B" (.int (0 : Int32)) := D171 (Or.inr (ow hw 98 rfl)) (ty := .byte) (by decide)
          have F_value_b171 : Fld Z h171 b171 cN1 "value" "[B" .null := D171 (Or.inr (ow hw 100 rfl)) (ty := (.array .byte)) (by decide)
          have O_0_j1_176 := ((O_0_j1_105.keep K104 (allS g_b11 (allS g_np_14 (allS g_wp_14 (allS g_pg_14 all0))))).ext E171)
          have V_b6_177 := ((((V_b6_10.ext E11).keep K14 (ninS ne_b6_b11 nin0)).keep K104 (ninS ne_b6_b11 (ninS ne_b6_np_14 (ninS ne_b6_wp_14 (ninS ne_b6_pg_14 nin0))))).ext E171)
          obtain ⟨_, _, ⟨T175, L175, k175, n175⟩, -, X175, ⟨Lc175, hQ175, l175, y175, z175⟩, st175⟩ := X171.specialBack hx (y := mN34) rfl hown (mvT hZ (ow hw 78 rfl)) (mvT hZ (ow hw 79 rfl)) (mvT hZ (ow hw 80 rfl)) (by decide) (backOf (W := 2) (rm_si1L l Z a0 hw [] b171 b6 k6 ya yb yc cs fw h171 n0 Z171 hST O_0_j1_176 A171 F_value_b171 F_coder_b171 g_b171 (Ne.symm ne_b6_b171) V_b6_177 hw2) hZ (ow hw 80 rfl) (ow hw 77 rfl) (by decide) (by decide)) (g := (mkF m 134 #[iv p1, iv p2, iv p3, iv p4, iv p5, iv p6, iv kc, iv na, iv 3, iv sb, rv b2, rv b6, rv b11, .val (.long ((0 : Int64) + (kc.toInt64))), .second, .val (.long ((0 : Int64) + (cxr_104.toInt64))), .second, .unset, .unset, .unset, .unset, .unset, .unset, .unset, .unset, .unset, .unset, .unset] [(.ref b6), (.ref b171), (.ref b171), (.ref b11)])) rfl (by rw [hml]; rfl) (Steps.refl _) (a := b171) (argsL := [(.ref b6)]) (rest := [(.ref b171), (.ref b11)]) (lenOf pd___C_V rfl) rfl (by show 2 * 0 + _ ≤ _; exact Nat.le_of_eq rfl) (hb hby at_134) (fun _ _ => ⟨rfl, e171, (by decide : 9 + 2 ≤ _), (by decide : 62 + 9 ≤ _)⟩)
          dsimp only [Pt.U, Pt.locs, Pt.cells, Pt.slots] at X175 l175 y175 z175 st175 hQ175
          subst l175 y175 z175
          obtain ⟨hp175, e175⟩ : ∃ z, T175.heap = z := ⟨_, rfl⟩
          rw [e175] at hQ175
          obtain ⟨rfl, Nq175, va_175, kv_175, K175, P175_0, P175_1, P175_2, P175_3⟩ := hQ175
          have Q2_178 := (Q2_172.ext E171)
          have ne_b2_va_175 : b2 ≠ va_175 := Nat.ne_of_lt (Nat.lt_of_lt_of_le Q2_178.lt P175_0)
          have Q6_179 := (Q6_173.ext E171)
          have ne_b6_va_175 : b6 ≠ va_175 := Nat.ne_of_lt (Nat.lt_of_lt_of_le Q6_179.lt P175_0)
          have E_b11_180 := (P104_1.ext E171)
          have ne_b11_va_175 : b11 ≠ va_175 := Nat.ne_of_lt (Nat.lt_of_lt_of_le E_b11_180.lt P175_0)
          have V_np_14_181 := (P104_7.ext E171)
          have ne_np_14_va_175 : np_14 ≠ va_175 := Nat.ne_of_lt (Nat.lt_of_lt_of_le V_np_14_181.lt P175_0)
          have V_wp_14_182 := (P104_8.ext E171)
          have ne_wp_14_va_175 : wp_14 ≠ va_175 := Nat.ne_of_lt (Nat.lt_of_lt_of_le V_wp_14_182.lt P175_0)
          have E_pg_14_183 := (E_pg_14_174.ext E171)
          have ne_pg_14_va_175 : pg_14 ≠ va_175 := Nat.ne_of_lt (Nat.lt_of_lt_of_le E_pg_14_183.lt P175_0)
          have E_pgr_104_184 := (P104_9.ext E171)
          have ne_pgr_104_va_175 : pgr_104 ≠ va_175 := Nat.ne_of_lt (Nat.lt_of_lt_of_le E_pgr_104_184.lt P175_0)
          have ne_b171_va_175 : b171 ≠ va_175 := Nat.ne_of_lt (Nat.lt_of_lt_of_le A171.lt P175_0)
          have g_va_175 : n0 ≤ va_175 := Nat.le_trans Z171 P175_0
          have Z175 : n0 ≤ hp175.size := Nat.le_trans Z171 K175.1
          have N175 := Fr.app N110 Nq175
          have O_0_j1_186 := (O_0_j1_176.keep K175 (allS g_b171 all0))
          have E_b11_187 := (E_b11_180.keep K175)
          have F_narrowPages_b11_188 := ((P104_2.ext E171).keep K175 (ninS ne_b11_b171 nin0))
          have F_widePages_b11_189 := ((P104_3.ext E171).keep K175 (ninS ne_b11_b171 nin0))
          have F_pageCount_b11_190 := ((P104_4.ext E171).keep K175 (ninS ne_b11_b171 nin0))
          have F_capacity_b11_191 := ((P104_5.ext E171).keep K175 (ninS ne_b11_b171 nin0))
          have F_length_b11_192 := ((P104_6.ext E171).keep K175 (ninS ne_b11_b171 nin0))
          have V_np_14_193 := (V_np_14_181.keep K175 (ninS ne_np_14_b171 nin0))
          have V_wp_14_194 := (V_wp_14_182.keep K175 (ninS ne_wp_14_b171 nin0))
          have E_pgr_104_195 := (E_pgr_104_184.keep K175)
          have G_pgr_104_196 := ((P104_10.ext E171).keep K175 (ninS ne_pgr_104_b171 nin0))
          have A171_197 := (A171.keep K175)
          have nd198 : OND [b11, np_14, wp_14, pgr_104, b171, va_175] := (ondS (allS ne_b11_np_14 (allS ne_b11_wp_14 (allS ne_b11_pgr_104 (allS ne_b11_b171 (allS ne_b11_va_175 all0))))) (ondS (allS (own_pw P14_3 0 1 (by decide) rfl rfl) (allS ne_np_14_pgr_104 (allS ne_np_14_b171 (allS ne_np_14_va_175 all0)))) (ondS (allS ne_wp_14_pgr_104 (allS ne_wp_14_b171 (allS ne_wp_14_va_175 all0))) (ondS (allS ne_pgr_104_b171 (allS ne_pgr_104_va_175 all0)) (ondS (allS ne_b171_va_175 all0) (ondS all0 ond0))))))
          obtain ⟨cq185, kq185, qv185a, qv185b, qv185c⟩ := isOf hZ e175 E_b11_187
          obtain ⟨_, _, ⟨T185, L185, k185, n185⟩, -, X185, ⟨Lc185, hQ185, l185, y185, z185⟩, st185⟩ := X175.virtualBack hx (y := mN41) (z := mN41) hown (mvT hZ (ow hw 101 rfl)) (mvT hZ (ow hw 102 rfl)) (notFace_of_selects (args := #[]) (mvT hZ (ow hw 104 rfl))) (mvT hZ (ow hw 104 rfl)) (mvT hZ (ow hw 103 rfl)) (by decide) (backOf (W := 0) (rm_apsNN l Z a0 hw [] b11 b171 np_14 wp_14 pgr_104 kn_14 kw_14 kpr_104 cxr_104 ((0 : Int32) + na) va_175 kv_175 cs fw hp175 n0 Z175 hST O_0_j1_186 ovn ovw E_b11_187 F_narrowPages_b11_188 F_widePages_b11_189 F_pageCount_b11_190 F_capacity_b11_191 F_length_b11_192 V_np_14_193 V_wp_14_194 E_pgr_104_195 G_pgr_104_196 P175_1 P175_2 P175_3 A171_197 g_b11 g_np_14 g_wp_14 g_pgr_104 nd198 (by have := own_t0; have := own_3; omega)) hZ (ow hw 105 rfl) (ow hw 3 rfl) (by decide) (by decide)) qv185a qv185c (g := (mkF m 137 #[iv p1, iv p2, iv p3, iv p4, iv p5, iv p6, iv kc, iv na, iv 3, iv sb, rv b2, rv b6, rv b11, .val (.long ((0 : Int64) + (kc.toInt64))), .second, .val (.long ((0 : Int64) + (cxr_104.toInt64))), .second, .unset, .unset, .unset, .unset, .unset, .unset, .unset, .unset, .unset, .unset, .unset] [(.ref b171), (.ref b11)])) rfl (by rw [hml]; rfl) (Steps.refl _) (argsL := [(.ref b171)]) (rest := []) (lenOf pd__Ljava_lang_String__V rfl) rfl (by show 2 * 0 + _ ≤ _; exact Nat.le_of_eq rfl) (hb hby at_137) (fun _ _ => ⟨rfl, e175, (by decide : 11 + 2 ≤ _), (by decide : 71 + 30 ≤ _)⟩)
          dsimp only [Pt.U, Pt.locs, Pt.cells, Pt.slots] at X185 l185 y185 z185 st185 hQ185
          subst l185 y185 z185
          obtain ⟨hp185, e185⟩ : ∃ z, T185.heap = z := ⟨_, rfl⟩
          rw [e185] at hQ185
          obtain ⟨rfl, Nq185, pgr_185, kpr_185, cxr_185, K185, P185_0, P185_1, P185_2, P185_3, P185_4, P185_5, P185_6, P185_7, P185_8, P185_9, P185_10, P185_11⟩ := hQ185
          have Q2_199 := (Q2_178.keep K175)
          have ne_b2_pgr_185 : b2 ≠ pgr_185 := own_orne P185_0 ne_b2_pgr_104 Q2_199.lt
          have Q6_200 := (Q6_179.keep K175)
          have ne_b6_pgr_185 : b6 ≠ pgr_185 := own_orne P185_0 ne_b6_pgr_104 Q6_200.lt
          have ne_b11_pgr_185 : b11 ≠ pgr_185 := own_orne P185_0 ne_b11_pgr_104 E_b11_187.lt
          have ne_np_14_pgr_185 : np_14 ≠ pgr_185 := own_orne P185_0 ne_np_14_pgr_104 V_np_14_193.lt
          have ne_wp_14_pgr_185 : wp_14 ≠ pgr_185 := own_orne P185_0 ne_wp_14_pgr_104 V_wp_14_194.lt
          have E_pg_14_201 := (E_pg_14_183.keep K175)
          have ne_b171_pgr_185 : b171 ≠ pgr_185 := own_orne P185_0 (Ne.symm ne_pgr_104_b171) A171_197.lt
          have ne_va_175_pgr_185 : va_175 ≠ pgr_185 := own_orne P185_0 (Ne.symm ne_pgr_104_va_175) P175_3.lt
          have g_pgr_185 : n0 ≤ pgr_185 := own_orge P185_0 g_pgr_104 Z175
          have Z185 : n0 ≤ hp185.size := Nat.le_trans Z175 K185.1
          have N185 := Fr.app N175 Nq185
          have hcx2 := P185_11
          obtain ⟨cq202, kq202, qv202a, qv202b, qv202c⟩ := isOf hZ e185 P185_1
          obtain ⟨_, _, ⟨T202, L202, k202, n202⟩, -, X202, ⟨Lc202, hQ202, l202, y202, z202⟩, st202⟩ := X185.virtualBack hx (y := mN5) (z := mN5) hown (mvT hZ (ow hw 24 rfl)) (mvT hZ (ow hw 25 rfl)) (notFace_of_selects (args := #[]) (mvT hZ (ow hw 27 rfl))) (mvT hZ (ow hw 27 rfl)) (mvT hZ (ow hw 26 rfl)) (by decide) (backOf (W := 0) (rm_bytesN l Z a0 hw [] b11 np_14 wp_14 pgr_185 kn_14 kw_14 kpr_185 cxr_185 (((0 : Int32) + na) + (3 : Int32)) hp185 n0 Z185 P185_1 P185_2 P185_3 P185_4 P185_5 P185_6 P185_7 P185_8 P185_9 P185_10) hZ (ow hw 28 rfl) (ow hw 3 rfl) (by decide) (by decide)) qv202a qv202c (g := (mkF m 155 #[iv p1, iv p2, iv p3, iv p4, iv p5, iv p6, iv kc, iv na, iv 3, iv sb, rv b2, rv b6, rv b11, .val (.long ((0 : Int64) + (kc.toInt64))), .second, .val (.long ((0 : Int64) + (cxr_104.toInt64))), .second, .unset, .unset, .unset, .unset, .unset, .unset, .unset, .unset, .unset, .unset, .unset] [(.ref b11)])) rfl (by rw [hml]; rfl) (Steps.refl _) (argsL := []) (rest := []) (lenOf pd___J rfl) rfl (by show 2 * 0 + _ ≤ _; exact Nat.le_of_eq rfl) (hb hby at_155) (fun _ _ => ⟨rfl, e185, (by decide : 13 + 0 ≤ _), (by decide : 101 + 0 ≤ _)⟩)
          dsimp only [Pt.U, Pt.locs, Pt.cells, Pt.slots] at X202 l202 y202 z202 st202 hQ202
          subst l202 y202 z202
          obtain ⟨rfl, Nq202, e202⟩ := hQ202
          have N202 := Fr.app N185 Nq202
          have V_b2_204 := ((((V_b2_106.keep K104 (ninS ne_b2_b11 (ninS ne_b2_np_14 (ninS ne_b2_wp_14 (ninS ne_b2_pg_14 nin0))))).ext E171).keep K175 (ninS ne_b2_b171 nin0)).keep K185 (ninS ne_b2_b11 (ninS ne_b2_np_14 (ninS ne_b2_wp_14 (ninS ne_b2_pgr_104 nin0)))))
          obtain ⟨_, _, ⟨T203, L203, k203, n203⟩, -, X203, ⟨Lc203, hQ203, l203, y203, z203⟩, st203⟩ := Jvm.LawKit.callS X202 hx (y := mN9) hown (mvT hZ (ow hw 70 rfl)) (mvT hZ (ow hw 71 rfl)) (mvT hZ (ow hw 72 rfl)) (mvT hZ (ow hw 73 rfl)) (by decide) (backOf (W := 0) (rm_any l Z a0 hw [] b2 na k2 xa xb xc hp185 n0 Z185 V_b2_204) hZ (ow hw 73 rfl) (ow hw 72 rfl) (by decide) (by decide)) (g := (mkF m 164 #[iv p1, iv p2, iv p3, iv p4, iv p5, iv p6, iv kc, iv na, iv 3, iv sb, rv b2, rv b6, rv b11, .val (.long ((0 : Int64) + (kc.toInt64))), .second, .val (.long ((0 : Int64) + (cxr_104.toInt64))), .second, .val (.long ((0 : Int64) + (cxr_185.toInt64))), .second, .unset, .unset, .unset, .unset, .unset, .unset, .unset, .unset, .unset] [(.int na), (.ref b2)])) rfl (by rw [hml]; rfl) (argsL := [(.ref b2), (.int na)]) (rest := []) (lenOf pd___CI_Z rfl) rfl (by show 2 * 0 + _ ≤ _; exact Nat.le_of_eq rfl) (hb hby at_164) (fun _ _ => ⟨rfl, e202, (by decide : 13 + 0 ≤ _), (by decide : 101 + 0 ≤ _)⟩)
          dsimp only [Pt.U, Pt.locs, Pt.cells, Pt.slots] at X203 l203 y203 z203 st203 hQ203
          subst l203 y203 z203
          obtain ⟨hp203, e203⟩ : ∃ z, T203.heap = z := ⟨_, rfl⟩
          rw [e203] at hQ203
          obtain ⟨rfl, Nq203, K203⟩ := hQ203
          have Z203 : n0 ≤ hp203.size := Nat.le_trans Z185 K203.1
          have N203 := Fr.app N202 Nq203
          replace K : OGo p e below A0 T203 (mkF m 178 #[iv p1, iv p2, iv p3, iv p4, iv p5, iv p6, iv kc, iv na, iv 3, iv sb, rv b2, rv b6, rv b11, .val (.long ((0 : Int64) + (kc.toInt64))), .second, .val (.long ((0 : Int64) + (cxr_104.toInt64))), .second, .val (.long ((0 : Int64) + (cxr_185.toInt64))), .second, iv (own_any xa xb xc na), .unset, .unset, .unset, .unset, .unset, .unset, .unset, .unset] [(.int 3), (.ref b6)]) := fun t k => K t (XS.iconst X110.here hx rfl (hb hby at_123) (XS.istore X110.here hx rfl (hb hby at_124) rfl (l' := #[iv p1, iv p2, iv p3, iv p4, iv p5, iv p6, iv kc, iv na, iv 3, iv sb, rv b2, rv b6, rv b11, .val (.long ((0 : Int64) + (kc.toInt64))), .second, .val (.long ((0 : Int64) + (cxr_104.toInt64))), .second, .unset, .unset, .unset, .unset, .unset, .unset, .unset, .unset, .unset, .unset, .unset]) rfl (XS.aload X110.here hx rfl (hb hby at_126) rfl rfl (st171 t (XS.dup X171.here hx rfl (hb hby at_131) rfl rfl (XS.aload X171.here hx rfl (hb hby at_132) rfl rfl (st175.trans (st185.trans (XS.goto X185.here hx rfl (pc0 := 140) (pc' := 153) rfl (hb hby at_140) (by decide) (by decide) (XS.aload X185.here hx rfl (hb hby at_153) rfl rfl (st202.trans (XS.lstore X202.here hx rfl (hb hby at_158) rfl (l' := #[iv p1, iv p2, iv p3, iv p4, iv p5, iv p6, iv kc, iv na, iv 3, iv sb, rv b2, rv b6, rv b11, .val (.long ((0 : Int64) + (kc.toInt64))), .second, .val (.long ((0 : Int64) + (cxr_104.toInt64))), .second, .val (.long ((0 : Int64) + (cxr_185.toInt64))), .second, .unset, .unset, .unset, .unset, .unset, .unset, .unset, .unset, .unset]) rfl (XS.aload X202.here hx rfl (hb hby at_160) rfl rfl (XS.iload X202.here hx rfl (hb hby at_162) rfl (st203 t (XS.istore X203.here hx rfl (hb hby at_167) rfl (l' := #[iv p1, iv p2, iv p3, iv p4, iv p5, iv p6, iv kc, iv na, iv 3, iv sb, rv b2, rv b6, rv b11, .val (.long ((0 : Int64) + (kc.toInt64))), .second, .val (.long ((0 : Int64) + (cxr_104.toInt64))), .second, .val (.long ((0 : Int64) + (cxr_185.toInt64))), .second, iv (own_any xa xb xc na), .unset, .unset, .unset, .unset, .unset, .unset, .unset, .unset]) rfl (XS.iload X203.here hx rfl (hb hby at_169) rfl (XS.ifNo X203.here hx rfl (hb hby at_171) rfl ((if0 _ _).trans (teq ((own_anyE0 hw1) : (own_any xa xb xc na) = (0 : Int32))).2) (XS.aload X203.here hx rfl (hb hby at_174) rfl rfl (XS.iload X203.here hx rfl (hb hby at_176) rfl k))))))))))))))))))))
          have V_b6_206 := (((V_b6_177.keep K175 (ninS ne_b6_b171 nin0)).keep K185 (ninS ne_b6_b11 (ninS ne_b6_np_14 (ninS ne_b6_wp_14 (ninS ne_b6_pgr_104 nin0))))).keep K203 nin0)
          obtain ⟨_, _, ⟨T205, L205, k205, n205⟩, -, X205, ⟨Lc205, hQ205, l205, y205, z205⟩, st205⟩ := Jvm.LawKit.callS X203 hx (y := mN9) hown (mvT hZ (ow hw 70 rfl)) (mvT hZ (ow hw 71 rfl)) (mvT hZ (ow hw 72 rfl)) (mvT hZ (ow hw 73 rfl)) (by decide) (backOf (W := 0) (rm_any l Z a0 hw [] b6 (3 : Int32) k6 ya yb yc hp203 n0 Z203 V_b6_206) hZ (ow hw 73 rfl) (ow hw 72 rfl) (by decide) (by decide)) (g := (mkF m 178 #[iv p1, iv p2, iv p3, iv p4, iv p5, iv p6, iv kc, iv na, iv 3, iv sb, rv b2, rv b6, rv b11, .val (.long ((0 : Int64) + (kc.toInt64))), .second, .val (.long ((0 : Int64) + (cxr_104.toInt64))), .second, .val (.long ((0 : Int64) + (cxr_185.toInt64))), .second, iv (own_any xa xb xc na), .unset, .unset, .unset, .unset, .unset, .unset, .unset, .unset] [(.int 3), (.ref b6)])) rfl (by rw [hml]; rfl) (argsL := [(.ref b6), (.int (3 : Int32))]) (rest := []) (lenOf pd___CI_Z rfl) rfl (by show 2 * 0 + _ ≤ _; exact Nat.le_of_eq rfl) (hb hby at_178) (fun _ _ => ⟨rfl, e203, (by decide : 13 + 0 ≤ _), (by decide : 101 + 0 ≤ _)⟩)
          dsimp only [Pt.U, Pt.locs, Pt.cells, Pt.slots] at X205 l205 y205 z205 st205 hQ205
          subst l205 y205 z205
          obtain ⟨hp205, e205⟩ : ∃ z, T205.heap = z := ⟨_, rfl⟩
          rw [e205] at hQ205
          obtain ⟨rfl, Nq205, K205⟩ := hQ205
          have Z205 : n0 ≤ hp205.size := Nat.le_trans Z203 K205.1
          have N205 := Fr.app N203 Nq205
          replace K : OGo p e below A0 T205 (mkF m 191 #[iv p1, iv p2, iv p3, iv p4, iv p5, iv p6, iv kc, iv na, iv 3, iv sb, rv b2, rv b6, rv b11, .val (.long ((0 : Int64) + (kc.toInt64))), .second, .val (.long ((0 : Int64) + (cxr_104.toInt64))), .second, .val (.long ((0 : Int64) + (cxr_185.toInt64))), .second, iv (own_any xa xb xc na), iv 0, .unset, .unset, .unset, .unset, .unset, .unset, .unset] []) := fun t k => K t (st205 t (XS.ifYes X205.here hx rfl (pc0 := 181) (pc' := 188) rfl (hb hby at_181) rfl ((if0 _ _).trans (teq ((own_anyE0 hw2) : (own_any ya yb yc (3 : Int32)) = (0 : Int32))).1) (by decide) (by decide) (XS.iconst X205.here hx rfl (hb hby at_188) (XS.istore X205.here hx rfl (hb hby at_189) rfl (l' := #[iv p1, iv p2, iv p3, iv p4, iv p5, iv p6, iv kc, iv na, iv 3, iv sb, rv b2, rv b6, rv b11, .val (.long ((0 : Int64) + (kc.toInt64))), .second, .val (.long ((0 : Int64) + (cxr_104.toInt64))), .second, .val (.long ((0 : Int64) + (cxr_185.toInt64))), .second, iv (own_any xa xb xc na), iv 0, .unset, .unset, .unset, .unset, .unset, .unset, .unset]) rfl k))))
          exact J18 ⟨(3 : Int32), ((0 : Int64) + (cxr_104.toInt64)), ((0 : Int64) + (cxr_185.toInt64)), (own_any xa xb xc na), (0 : Int32), _, _, _, X205, e205, N205, Z205, (by rw [own_anyE0 hw1, ← hcx1]; simp [own_sz]), (by rw [← hcx1, ← hcx2]; simp [own_sz]), K⟩
  clear K
  rintro ⟨nx, mid, aft, wa, wb, Tj18, hj18, lj18, Xj18, ej18, Nj18, Zj18, hM, hA, K⟩
  refine cps (A := ∃ (ca : Int32) (Tj207 : State) (hj207 : Heap) (lj207 : List Loc), Stand p l e room_1 s m #[(.int p1), (.int p2), (.int p3), (.int p4), (.int p5), (.int p6)] below meth c Tj207 lj207 13 101 ∧ Tj207.heap = hj207 ∧ Fr n0 lj207 ∧ n0 ≤ hj207.size ∧ ca = own_cap (0 : Int32) na kc ∧ OGo p e below A0 Tj207 (mkF m 212 #[iv p1, iv p2, iv p3, iv p4, iv p5, iv p6, iv kc, iv na, iv nx, iv sb, rv b2, rv b6, rv b11, .val (.long ((0 : Int64) + (kc.toInt64))), .second, .val (.long mid), .second, .val (.long aft), .second, iv wa, iv wb, .unset, .unset, .unset, .unset, .unset, .unset, .unset] [(.int ca)])) (fun J207 => ?_) ?_
  · by_cases hc195 : kc < na
    · obtain ⟨_, _, ⟨T208, L208, k208, n208⟩, -, X208, ⟨Lc208, hQ208, l208, y208, z208⟩, st208⟩ := Jvm.LawKit.callS Xj18 hx (y := mN1) hown (mvT hZ (ow hw 74 rfl)) (mvT hZ (ow hw 47 rfl)) (mvT hZ (ow hw 48 rfl)) (mvT hZ (ow hw 49 rfl)) (by decide) (backOf (W := 0) (rm_max l Z a0 hw [] na ((2 : Int32) * kc) hj18 n0 Zj18 ) hZ (ow hw 49 rfl) (ow hw 48 rfl) (by decide) (by decide)) (g := (mkF m 204 #[iv p1, iv p2, iv p3, iv p4, iv p5, iv p6, iv kc, iv na, iv nx, iv sb, rv b2, rv b6, rv b11, .val (.long ((0 : Int64) + (kc.toInt64))), .second, .val (.long mid), .second, .val (.long aft), .second, iv wa, iv wb, .unset, .unset, .unset, .unset, .unset, .unset, .unset] [(.int ((2 : Int32) * kc)), (.int na)])) rfl (by rw [hml]; rfl) (argsL := [(.int na), (.int ((2 : Int32) * kc))]) (rest := []) (lenOf pd__II_I rfl) rfl (by show 2 * 0 + _ ≤ _; exact Nat.le_of_eq rfl) (hb hby at_204) (fun _ _ => ⟨rfl, ej18, (by decide : 13 + 0 ≤ _), (by decide : 101 + 0 ≤ _)⟩)
      dsimp only [Pt.U, Pt.locs, Pt.cells, Pt.slots] at X208 l208 y208 z208 st208 hQ208
      subst l208 y208 z208
      obtain ⟨rfl, Nq208, e208⟩ := hQ208
      have N208 := Fr.app Nj18 Nq208
      replace K : OGo p e below A0 T208 (mkF m 212 #[iv p1, iv p2, iv p3, iv p4, iv p5, iv p6, iv kc, iv na, iv nx, iv sb, rv b2, rv b6, rv b11, .val (.long ((0 : Int64) + (kc.toInt64))), .second, .val (.long mid), .second, .val (.long aft), .second, iv wa, iv wb, .unset, .unset, .unset, .unset, .unset, .unset, .unset] [(.int (own_max na ((2 : Int32) * kc)))]) := fun t k => K t (XS.iload Xj18.here hx rfl (hb hby at_191) rfl (XS.iload Xj18.here hx rfl (hb hby at_193) rfl (XS.icmpNo Xj18.here hx rfl (hb hby at_195) rfl (tlt hc195).2.2.2 (XS.iload Xj18.here hx rfl (hb hby at_198) rfl (XS.iconst Xj18.here hx rfl (hb hby at_200) (XS.iload Xj18.here hx rfl (hb hby at_201) rfl (XS.imul Xj18.here hx rfl (hb hby at_203) rfl (st208 t (XS.goto X208.here hx rfl (pc0 := 207) (pc' := 212) rfl (hb hby at_207) (by decide) (by decide) k)))))))))
      exact J207 ⟨(own_max na ((2 : Int32) * kc)), _, _, _, X208, e208, N208, Zj18, (by simp [own_cap, Int32.zero_add, Int32.mul_comm kc 2, hc195]), K⟩
    · replace K : OGo p e below A0 Tj18 (mkF m 212 #[iv p1, iv p2, iv p3, iv p4, iv p5, iv p6, iv kc, iv na, iv nx, iv sb, rv b2, rv b6, rv b11, .val (.long ((0 : Int64) + (kc.toInt64))), .second, .val (.long mid), .second, .val (.long aft), .second, iv wa, iv wb, .unset, .unset, .unset, .unset, .unset, .unset, .unset] [(.int kc)]) := fun t k => K t (XS.iload Xj18.here hx rfl (hb hby at_191) rfl (XS.iload Xj18.here hx rfl (hb hby at_193) rfl (XS.icmpYes Xj18.here hx rfl (pc0 := 195) (pc' := 210) rfl (hb hby at_195) rfl (flt hc195).2.2.2 (by decide) (by decide) (XS.iload Xj18.here hx rfl (hb hby at_210) rfl k))))
      exact J207 ⟨kc, _, _, _, Xj18, ej18, Nj18, Zj18, (by simp [own_cap, Int32.zero_add, Int32.mul_comm kc 2, hc195]), K⟩
  clear K
  rintro ⟨ca, Tj207, hj207, lj207, Xj207, ej207, Nj207, Zj207, hca, K⟩
  refine cps (A := ∃ (cb : Int32) (Tj209 : State) (hj209 : Heap) (lj209 : List Loc), Stand p l e room_1 s m #[(.int p1), (.int p2), (.int p3), (.int p4), (.int p5), (.int p6)] below meth c Tj209 lj209 13 101 ∧ Tj209.heap = hj209 ∧ Fr n0 lj209 ∧ n0 ≤ hj209.size ∧ cb = own_cap ((0 : Int32) + na) nx ca ∧ OGo p e below A0 Tj209 (mkF m 242 #[iv p1, iv p2, iv p3, iv p4, iv p5, iv p6, iv kc, iv na, iv nx, iv sb, rv b2, rv b6, rv b11, .val (.long ((0 : Int64) + (kc.toInt64))), .second, .val (.long mid), .second, .val (.long aft), .second, iv wa, iv wb, iv ca, iv (na + nx), .unset, .unset, .unset, .unset, .unset] [(.int cb)])) (fun J209 => ?_) ?_
  · replace K : OGo p e below A0 Tj207 (mkF m 225 #[iv p1, iv p2, iv p3, iv p4, iv p5, iv p6, iv kc, iv na, iv nx, iv sb, rv b2, rv b6, rv b11, .val (.long ((0 : Int64) + (kc.toInt64))), .second, .val (.long mid), .second, .val (.long aft), .second, iv wa, iv wb, iv ca, iv (na + nx), .unset, .unset, .unset, .unset, .unset] [(.int ca), (.int (na + nx))]) := fun t k => K t (XS.istore Xj207.here hx rfl (hb hby at_212) rfl (l' := #[iv p1, iv p2, iv p3, iv p4, iv p5, iv p6, iv kc, iv na, iv nx, iv sb, rv b2, rv b6, rv b11, .val (.long ((0 : Int64) + (kc.toInt64))), .second, .val (.long mid), .second, .val (.long aft), .second, iv wa, iv wb, iv ca, .unset, .unset, .unset, .unset, .unset, .unset]) rfl (XS.iload Xj207.here hx rfl (hb hby at_214) rfl (XS.iload Xj207.here hx rfl (hb hby at_216) rfl (XS.iadd Xj207.here hx rfl (hb hby at_218) rfl (XS.istore Xj207.here hx rfl (hb hby at_219) rfl (l' := #[iv p1, iv p2, iv p3, iv p4, iv p5, iv p6, iv kc, iv na, iv nx, iv sb, rv b2, rv b6, rv b11, .val (.long ((0 : Int64) + (kc.toInt64))), .second, .val (.long mid), .second, .val (.long aft), .second, iv wa, iv wb, iv ca, iv (na + nx), .unset, .unset, .unset, .unset, .unset]) rfl (XS.iload Xj207.here hx rfl (hb hby at_221) rfl (XS.iload Xj207.here hx rfl (hb hby at_223) rfl k)))))))
    by_cases hc225 : ca < (na + nx)
    · obtain ⟨_, _, ⟨T210, L210, k210, n210⟩, -, X210, ⟨Lc210, hQ210, l210, y210, z210⟩, st210⟩ := Jvm.LawKit.callS Xj207 hx (y := mN1) hown (mvT hZ (ow hw 74 rfl)) (mvT hZ (ow hw 47 rfl)) (mvT hZ (ow hw 48 rfl)) (mvT hZ (ow hw 49 rfl)) (by decide) (backOf (W := 0) (rm_max l Z a0 hw [] (na + nx) ((2 : Int32) * ca) hj207 n0 Zj207 ) hZ (ow hw 49 rfl) (ow hw 48 rfl) (by decide) (by decide)) (g := (mkF m 234 #[iv p1, iv p2, iv p3, iv p4, iv p5, iv p6, iv kc, iv na, iv nx, iv sb, rv b2, rv b6, rv b11, .val (.long ((0 : Int64) + (kc.toInt64))), .second, .val (.long mid), .second, .val (.long aft), .second, iv wa, iv wb, iv ca, iv (na + nx), .unset, .unset, .unset, .unset, .unset] [(.int ((2 : Int32) * ca)), (.int (na + nx))])) rfl (by rw [hml]; rfl) (argsL := [(.int (na + nx)), (.int ((2 : Int32) * ca))]) (rest := []) (lenOf pd__II_I rfl) rfl (by show 2 * 0 + _ ≤ _; exact Nat.le_of_eq rfl) (hb hby at_234) (fun _ _ => ⟨rfl, ej207, (by decide : 13 + 0 ≤ _), (by decide : 101 + 0 ≤ _)⟩)
      dsimp only [Pt.U, Pt.locs, Pt.cells, Pt.slots] at X210 l210 y210 z210 st210 hQ210
      subst l210 y210 z210
      obtain ⟨rfl, Nq210, e210⟩ := hQ210
      have N210 := Fr.app Nj207 Nq210
      replace K : OGo p e below A0 T210 (mkF m 242 #[iv p1, iv p2, iv p3, iv p4, iv p5, iv p6, iv kc, iv na, iv nx, iv sb, rv b2, rv b6, rv b11, .val (.long ((0 : Int64) + (kc.toInt64))), .second, .val (.long mid), .second, .val (.long aft), .second, iv wa, iv wb, iv ca, iv (na + nx), .unset, .unset, .unset, .unset, .unset] [(.int (own_max (na + nx) ((2 : Int32) * ca)))]) := fun t k => K t (XS.icmpNo Xj207.here hx rfl (hb hby at_225) rfl (tlt hc225).2.2.2 (XS.iload Xj207.here hx rfl (hb hby at_228) rfl (XS.iconst Xj207.here hx rfl (hb hby at_230) (XS.iload Xj207.here hx rfl (hb hby at_231) rfl (XS.imul Xj207.here hx rfl (hb hby at_233) rfl (st210 t (XS.goto X210.here hx rfl (pc0 := 237) (pc' := 242) rfl (hb hby at_237) (by decide) (by decide) k)))))))
      exact J209 ⟨(own_max (na + nx) ((2 : Int32) * ca)), _, _, _, X210, e210, N210, Zj207, (by simp [own_cap, Int32.zero_add, Int32.mul_comm ca 2, hc225]), K⟩
    · replace K : OGo p e below A0 Tj207 (mkF m 242 #[iv p1, iv p2, iv p3, iv p4, iv p5, iv p6, iv kc, iv na, iv nx, iv sb, rv b2, rv b6, rv b11, .val (.long ((0 : Int64) + (kc.toInt64))), .second, .val (.long mid), .second, .val (.long aft), .second, iv wa, iv wb, iv ca, iv (na + nx), .unset, .unset, .unset, .unset, .unset] [(.int ca)]) := fun t k => K t (XS.icmpYes Xj207.here hx rfl (pc0 := 225) (pc' := 240) rfl (hb hby at_225) rfl (flt hc225).2.2.2 (by decide) (by decide) (XS.iload Xj207.here hx rfl (hb hby at_240) rfl k))
      exact J209 ⟨ca, _, _, _, Xj207, ej207, Nj207, Zj207, (by simp [own_cap, Int32.zero_add, Int32.mul_comm ca 2, hc225]), K⟩
  clear K
  rintro ⟨cb, Tj209, hj209, lj209, Xj209, ej209, Nj209, Zj209, hcb, K⟩
  refine cps (A := ∃ (em : Int64) (Tj211 : State) (hj211 : Heap) (lj211 : List Loc), Stand p l e room_1 s m #[(.int p1), (.int p2), (.int p3), (.int p4), (.int p5), (.int p6)] below meth c Tj211 lj211 13 101 ∧ Tj211.heap = hj211 ∧ Fr n0 lj211 ∧ n0 ≤ hj211.size ∧ em = own_sz wa ca ∧ OGo p e below A0 Tj211 (mkF m 262 #[iv p1, iv p2, iv p3, iv p4, iv p5, iv p6, iv kc, iv na, iv nx, iv sb, rv b2, rv b6, rv b11, .val (.long ((0 : Int64) + (kc.toInt64))), .second, .val (.long mid), .second, .val (.long aft), .second, iv wa, iv wb, iv ca, iv (na + nx), iv cb, .unset, .unset, .unset, .unset] [(.long em)])) (fun J211 => ?_) ?_
  · by_cases hc246 : wa = (0 : Int32)
    · replace K : OGo p e below A0 Tj209 (mkF m 262 #[iv p1, iv p2, iv p3, iv p4, iv p5, iv p6, iv kc, iv na, iv nx, iv sb, rv b2, rv b6, rv b11, .val (.long ((0 : Int64) + (kc.toInt64))), .second, .val (.long mid), .second, .val (.long aft), .second, iv wa, iv wb, iv ca, iv (na + nx), iv cb, .unset, .unset, .unset, .unset] [(.long (ca.toInt64))]) := fun t k => K t (XS.istore Xj209.here hx rfl (hb hby at_242) rfl (l' := #[iv p1, iv p2, iv p3, iv p4, iv p5, iv p6, iv kc, iv na, iv nx, iv sb, rv b2, rv b6, rv b11, .val (.long ((0 : Int64) + (kc.toInt64))), .second, .val (.long mid), .second, .val (.long aft), .second, iv wa, iv wb, iv ca, iv (na + nx), iv cb, .unset, .unset, .unset, .unset]) rfl (XS.iload Xj209.here hx rfl (hb hby at_244) rfl (XS.ifYes Xj209.here hx rfl (pc0 := 246) (pc' := 259) rfl (hb hby at_246) rfl ((if0 _ _).trans (teq hc246).1) (by decide) (by decide) (XS.iload Xj209.here hx rfl (hb hby at_259) rfl (XS.i2l Xj209.here hx rfl (hb hby at_261) rfl k)))))
      exact J211 ⟨(ca.toInt64), _, _, _, Xj209, ej209, Nj209, Zj209, (by simp [own_sz, hc246]), K⟩
    · replace K : OGo p e below A0 Tj209 (mkF m 262 #[iv p1, iv p2, iv p3, iv p4, iv p5, iv p6, iv kc, iv na, iv nx, iv sb, rv b2, rv b6, rv b11, .val (.long ((0 : Int64) + (kc.toInt64))), .second, .val (.long mid), .second, .val (.long aft), .second, iv wa, iv wb, iv ca, iv (na + nx), iv cb, .unset, .unset, .unset, .unset] [(.long ((2 : Int64) * (ca.toInt64)))]) := fun t k => K t (XS.istore Xj209.here hx rfl (hb hby at_242) rfl (l' := #[iv p1, iv p2, iv p3, iv p4, iv p5, iv p6, iv kc, iv na, iv nx, iv sb, rv b2, rv b6, rv b11, .val (.long ((0 : Int64) + (kc.toInt64))), .second, .val (.long mid), .second, .val (.long aft), .second, iv wa, iv wb, iv ca, iv (na + nx), iv cb, .unset, .unset, .unset, .unset]) rfl (XS.iload Xj209.here hx rfl (hb hby at_244) rfl (XS.ifNo Xj209.here hx rfl (hb hby at_246) rfl ((if0 _ _).trans (feq hc246).1) (Xj209.ldc2Long hx hown (mvT hZ (ow hw 145 rfl)) (g := (mkF m 249 #[iv p1, iv p2, iv p3, iv p4, iv p5, iv p6, iv kc, iv na, iv nx, iv sb, rv b2, rv b6, rv b11, .val (.long ((0 : Int64) + (kc.toInt64))), .second, .val (.long mid), .second, .val (.long aft), .second, iv wa, iv wb, iv ca, iv (na + nx), iv cb, .unset, .unset, .unset, .unset] [])) rfl (hb hby at_249) t (XS.iload Xj209.here hx rfl (hb hby at_252) rfl (XS.i2l Xj209.here hx rfl (hb hby at_254) rfl (XS.lmul Xj209.here hx rfl (hb hby at_255) rfl (XS.goto Xj209.here hx rfl (pc0 := 256) (pc' := 262) rfl (hb hby at_256) (by decide) (by decide) k))))))))
      exact J211 ⟨((2 : Int64) * (ca.toInt64)), _, _, _, Xj209, ej209, Nj209, Zj209, (by simp [own_sz, hc246]), K⟩
  clear K
  rintro ⟨em, Tj211, hj211, lj211, Xj211, ej211, Nj211, Zj211, hem, K⟩
  refine cps (A := ∃ (ea : Int64) (Tj212 : State) (hj212 : Heap) (lj212 : List Loc), Stand p l e room_1 s m #[(.int p1), (.int p2), (.int p3), (.int p4), (.int p5), (.int p6)] below meth c Tj212 lj212 13 101 ∧ Tj212.heap = hj212 ∧ Fr n0 lj212 ∧ n0 ≤ hj212.size ∧ ea = own_sz wb cb ∧ OGo p e below A0 Tj212 (mkF m 282 #[iv p1, iv p2, iv p3, iv p4, iv p5, iv p6, iv kc, iv na, iv nx, iv sb, rv b2, rv b6, rv b11, .val (.long ((0 : Int64) + (kc.toInt64))), .second, .val (.long mid), .second, .val (.long aft), .second, iv wa, iv wb, iv ca, iv (na + nx), iv cb, .val (.long em), .second, .unset, .unset] [(.long ea)])) (fun J212 => ?_) ?_
  · by_cases hc266 : wb = (0 : Int32)
    · replace K : OGo p e below A0 Tj211 (mkF m 282 #[iv p1, iv p2, iv p3, iv p4, iv p5, iv p6, iv kc, iv na, iv nx, iv sb, rv b2, rv b6, rv b11, .val (.long ((0 : Int64) + (kc.toInt64))), .second, .val (.long mid), .second, .val (.long aft), .second, iv wa, iv wb, iv ca, iv (na + nx), iv cb, .val (.long em), .second, .unset, .unset] [(.long (cb.toInt64))]) := fun t k => K t (XS.lstore Xj211.here hx rfl (hb hby at_262) rfl (l' := #[iv p1, iv p2, iv p3, iv p4, iv p5, iv p6, iv kc, iv na, iv nx, iv sb, rv b2, rv b6, rv b11, .val (.long ((0 : Int64) + (kc.toInt64))), .second, .val (.long mid), .second, .val (.long aft), .second, iv wa, iv wb, iv ca, iv (na + nx), iv cb, .val (.long em), .second, .unset, .unset]) rfl (XS.iload Xj211.here hx rfl (hb hby at_264) rfl (XS.ifYes Xj211.here hx rfl (pc0 := 266) (pc' := 279) rfl (hb hby at_266) rfl ((if0 _ _).trans (teq hc266).1) (by decide) (by decide) (XS.iload Xj211.here hx rfl (hb hby at_279) rfl (XS.i2l Xj211.here hx rfl (hb hby at_281) rfl k)))))
      exact J212 ⟨(cb.toInt64), _, _, _, Xj211, ej211, Nj211, Zj211, (by simp [own_sz, hc266]), K⟩
    · replace K : OGo p e below A0 Tj211 (mkF m 282 #[iv p1, iv p2, iv p3, iv p4, iv p5, iv p6, iv kc, iv na, iv nx, iv sb, rv b2, rv b6, rv b11, .val (.long ((0 : Int64) + (kc.toInt64))), .second, .val (.long mid), .second, .val (.long aft), .second, iv wa, iv wb, iv ca, iv (na + nx), iv cb, .val (.long em), .second, .unset, .unset] [(.long ((2 : Int64) * (cb.toInt64)))]) := fun t k => K t (XS.lstore Xj211.here hx rfl (hb hby at_262) rfl (l' := #[iv p1, iv p2, iv p3, iv p4, iv p5, iv p6, iv kc, iv na, iv nx, iv sb, rv b2, rv b6, rv b11, .val (.long ((0 : Int64) + (kc.toInt64))), .second, .val (.long mid), .second, .val (.long aft), .second, iv wa, iv wb, iv ca, iv (na + nx), iv cb, .val (.long em), .second, .unset, .unset]) rfl (XS.iload Xj211.here hx rfl (hb hby at_264) rfl (XS.ifNo Xj211.here hx rfl (hb hby at_266) rfl ((if0 _ _).trans (feq hc266).1) (Xj211.ldc2Long hx hown (mvT hZ (ow hw 145 rfl)) (g := (mkF m 269 #[iv p1, iv p2, iv p3, iv p4, iv p5, iv p6, iv kc, iv na, iv nx, iv sb, rv b2, rv b6, rv b11, .val (.long ((0 : Int64) + (kc.toInt64))), .second, .val (.long mid), .second, .val (.long aft), .second, iv wa, iv wb, iv ca, iv (na + nx), iv cb, .val (.long em), .second, .unset, .unset] [])) rfl (hb hby at_269) t (XS.iload Xj211.here hx rfl (hb hby at_272) rfl (XS.i2l Xj211.here hx rfl (hb hby at_274) rfl (XS.lmul Xj211.here hx rfl (hb hby at_275) rfl (XS.goto Xj211.here hx rfl (pc0 := 276) (pc' := 282) rfl (hb hby at_276) (by decide) (by decide) k))))))))
      exact J212 ⟨((2 : Int64) * (cb.toInt64)), _, _, _, Xj211, ej211, Nj211, Zj211, (by simp [own_sz, hc266]), K⟩
  clear K
  rintro ⟨ea, Tj212, hj212, lj212, Xj212, ej212, Nj212, Zj212, hea, K⟩
  replace K : OGo p e below A0 Tj212 (mkF m 314 #[iv p1, iv p2, iv p3, iv p4, iv p5, iv p6, iv kc, iv na, iv nx, iv sb, rv b2, rv b6, rv b11, .val (.long ((0 : Int64) + (kc.toInt64))), .second, .val (.long mid), .second, .val (.long aft), .second, iv wa, iv wb, iv ca, iv (na + nx), iv cb, .val (.long em), .second, .val (.long ea), .second] [(.int 1)]) := fun t k => K t (XS.lstore Xj212.here hx rfl (hb hby at_282) rfl (l' := #[iv p1, iv p2, iv p3, iv p4, iv p5, iv p6, iv kc, iv na, iv nx, iv sb, rv b2, rv b6, rv b11, .val (.long ((0 : Int64) + (kc.toInt64))), .second, .val (.long mid), .second, .val (.long aft), .second, iv wa, iv wb, iv ca, iv (na + nx), iv cb, .val (.long em), .second, .val (.long ea), .second]) rfl (XS.lload Xj212.here hx rfl (hb hby at_284) rfl (XS.iload Xj212.here hx rfl (hb hby at_286) rfl (XS.i2l Xj212.here hx rfl (hb hby at_288) rfl (XS.lcmp Xj212.here hx rfl (hb hby at_289) rfl (XS.ifNo Xj212.here hx rfl (hb hby at_290) rfl ((if0 _ _).trans (teq ((lw_eq ((0 : Int64) + (kc.toInt64)) (kc.toInt64)).mpr ((Int64.zero_add _) : ((0 : Int64) + (kc.toInt64)) = (kc.toInt64)))).2) (XS.lload Xj212.here hx rfl (hb hby at_293) rfl (XS.lload Xj212.here hx rfl (hb hby at_295) rfl (XS.lcmp Xj212.here hx rfl (hb hby at_297) rfl (XS.ifNo Xj212.here hx rfl (hb hby at_298) rfl ((if0 _ _).trans (teq ((lw_eq mid em).mpr ((by rw [hM, hem, hca]) : mid = em))).2) (XS.lload Xj212.here hx rfl (hb hby at_301) rfl (XS.lload Xj212.here hx rfl (hb hby at_303) rfl (XS.lcmp Xj212.here hx rfl (hb hby at_305) rfl (XS.ifNo Xj212.here hx rfl (hb hby at_306) rfl ((if0 _ _).trans (teq ((lw_eq aft ea).mpr ((by rw [hA, hea, hcb, hca]) : aft = ea))).2) (XS.iconst Xj212.here hx rfl (hb hby at_309) (XS.goto Xj212.here hx rfl (pc0 := 310) (pc' := 314) rfl (hb hby at_310) (by decide) (by decide) k))))))))))))))))
  obtain ⟨fs, hr, hrun, hended, hW, hsame⟩ := Xj212.leave (v := some (.int (1 : Int32))) (fun h => by rw [Bd.returns] at h; cases h)
  subst hA0
  refine ⟨_, _, K _ (retN Xj212 hx (t := .boolean) Bd.returns (by simp) (hb hby at_314) hr), hrun, hended, _, _, rfl, ?_, ⟨_, rfl⟩, hW, hsame.mono (by decide) (by decide)⟩
  show Q_law Z p1 p2 p3 p4 p5 p6 cs fw h0 n0 _ Tj212.heap _
  rw [ej212]
  exact ⟨rfl, Nj212⟩
set_option maxRecDepth 65536 in
set_option maxHeartbeats 40000000 in
theorem comes_1 {Post : Tables → Env → Array Value → State → Outcome → State → Prop} (hpost : ∀ tb e args s v u, (limb_1_1.after args s (.returned v) u = true ∧ limb_1_2.after args s (.returned v) u = true ∧ True) → FrameEnd s (.returned v) u (Jvm.fieldLocs frame_1_writes args s ++ Jvm.arrayLocs frame_1_arrays args s ++ Jvm.staticLocs frame_1_statics s) 32 192 → Post tb e args s (.returned v) u) :
    ArmFor flags0 classFile x code maxLocals ret World_1 tables_1 room_1 Calls_1 rest_1 Pre_1 Post := by
  intro l hfl _ _ p e ha hc hk s m args below hf hA hF happ hP
  obtain ⟨hcalls, hrest, hpre⟩ := hP
  obtain ⟨-, -, -, hnamed, -, -, -, hat⟩ := (Spec.applies_iff hf).mp happ
  obtain ⟨hg, hn⟩ := and_e (Cond.before_iff.mp (show (Jvm.Cond.and given_1 narrow_1).before args s = true from hpre))
  obtain ⟨gv1, gv2⟩ := and_e hg
  obtain ⟨gv3, gv4⟩ := and_e gv2
  obtain ⟨gv5, gv6⟩ := and_e gv4
  obtain ⟨gv7, gv8⟩ := and_e gv6
  obtain ⟨gv9, gv10⟩ := and_e gv8
  obtain ⟨gv11, gv12⟩ := and_e gv10
  obtain ⟨w0, w1, w2, w3, w4, w5, rfl⟩ : ∃ w0 w1 w2 w3 w4 w5 : Value, args = #[w0, w1, w2, w3, w4, w5] := by
    have hs : args.size = 6 := by simpa [Cond.value, given_1] using gv1
    obtain ⟨L⟩ := args
    match L, hs with
    | [w0, w1, w2, w3, w4, w5], _ => exact ⟨w0, w1, w2, w3, w4, w5, rfl⟩
  have hw := fun d (hd : d ∈ tables_1) => atoms_spec (ws := Jvm.Cond.code x code maxLocals ret :: tables_1) hat d (List.mem_cons_of_mem _ hd)
  have hfit : Fit s := fun {y c} hc i hi => by
    obtain ⟨ha, rfl⟩ := Array.getElem?_eq_some_iff.mp hc
    have q := List.all_eq_true.mp ((Array.all_eq_true_iff_forall_mem.mp hF) _ (Array.getElem_mem ha)) i (List.mem_range.mpr hi)
    simpa [Array.getElem?_eq_getElem hi] using q
  obtain ⟨hsets, hown0⟩ := atoms_of _ (rest_1_c_eq ▸ (show rest_1_c.before _ s = true from hrest))
  have hr0 := Cond.before_iff.mp hown0
  obtain ⟨i0, ei0⟩ := is_v gv3
  obtain rfl : w0 = (.int i0) := Option.some.inj ei0
  obtain ⟨i1, ei1⟩ := is_v gv5
  obtain rfl : w1 = (.int i1) := Option.some.inj ei1
  obtain ⟨i2, ei2⟩ := is_v gv7
  obtain rfl : w2 = (.int i2) := Option.some.inj ei2
  obtain ⟨i3, ei3⟩ := is_v gv9
  obtain rfl : w3 = (.int i3) := Option.some.inj ei3
  obtain ⟨i4, ei4⟩ := is_v gv11
  obtain rfl : w4 = (.int i4) := Option.some.inj ei4
  obtain ⟨i5, ei5⟩ := is_v gv12
  obtain rfl : w5 = (.int i5) := Option.some.inj ei5
  obtain ⟨nw1, nw2⟩ := and_e hn
  obtain ⟨nw3, nw4⟩ := and_e nw2
  obtain ⟨cs, ecs⟩ := is_v (Cond.before_iff.mp (hsets _ (List.mem_of_getElem? (i := 1) rfl)))
  obtain ⟨fw, efw, rfw⟩ := isR_v (Cond.before_iff.mp (hsets _ (List.mem_of_getElem? (i := 8) rfl)))
  have ncs : ¬ (cs = (0 : Int32)) := gotF (Cond.eq_ints ecs (Term.int_eval (0))) (not_v (Cond.before_iff.mp (hsets _ (List.mem_of_getElem? (i := 2) rfl))))
  have hST : own_ST s cs fw := by unfold own_ST; exact ⟨Sta.start (eqv_i (Term.int_eval (65536)) nw1) (Or.inr ⟨(ow hw 3 rfl), (ow hw 45 rfl)⟩), Sta.start (eqv_i (Term.int_eval (16)) nw3) (Or.inr ⟨(ow hw 3 rfl), (ow hw 63 rfl)⟩), Sta.start (eqv_i (Term.int_eval (65535)) nw4) (Or.inr ⟨(ow hw 3 rfl), (ow hw 65 rfl)⟩), Sta.start ecs (Or.inl (hsets _ (List.mem_of_getElem? (i := 0) rfl))), ncs, Sta.start efw (Or.inl (hsets _ (List.mem_of_getElem? (i := 7) rfl))), rfw, Sta.start (eqv_i (Term.int_eval (1)) (Cond.before_iff.mp (hsets _ (List.mem_of_getElem? (i := 12) rfl)))) (Or.inl (hsets _ (List.mem_of_getElem? (i := 11) rfl))), Sta.start (eqv_i (Term.int_eval (0)) (Cond.before_iff.mp (hsets _ (List.mem_of_getElem? (i := 15) rfl)))) (Or.inl (hsets _ (List.mem_of_getElem? (i := 14) rfl))), Sta.start (eqv_i (Term.int_eval (8)) (Cond.before_iff.mp (hsets _ (List.mem_of_getElem? (i := 18) rfl)))) (Or.inl (hsets _ (List.mem_of_getElem? (i := 17) rfl)))⟩
  obtain ⟨n, o, h1, h2, h3, _, L, rfl, ⟨rfl, N⟩, hq⟩ := rm_law l s _ hw tables_1 i0 i1 i2 i3 i4 i5 cs fw s.heap s.heap.size (Nat.le_refl _) hST (Old.start s) p e ha hc hk s m _ below hf ((Spec.applies_iff_loose hf).mp happ).1 ⟨rfl, State.Warmed39.refl s, rfl⟩ trivial
  refine ⟨n, _, h1, h2, h3, hpost _ _ _ _ _ _ ⟨Cond.after_iff.mpr rfl, Cond.after_iff.mpr (eq_i res_at (Term.int_eval (1)) rfl), trivial⟩ ⟨hq.1, hq.2.1, (hq.2.2.sift fun y hy => Or.inr (N y hy)).mono (by decide) (by decide)⟩⟩
theorem main_1_1 : Claimed_1_1 := comes_1 fun _ _ _ _ _ _ h hF => ⟨h.1, hF⟩
theorem main_1_2 : Claimed_1_2 := comes_1 fun _ _ _ _ _ _ h hF => ⟨h.2.1, hF⟩
end Jvm.Pilot.@@N@@
namespace Jvm.Pilot.@@N@@
open Jvm Jvm.ClassFile Sem Op Lib Jvm.Free Jvm.Stand Jvm.Pilot.@@N@@.Jvm.D
/-! MADE BY PROGRAM (witnessworld.py) out of the Statement's table words and the real class files: 23 classes; the members and pool entries that the words name. The judged class is class 1, her method 2. -/
namespace start1
open Jvm.ClassFile
def u (s : String) : CpInfo := .utf8 (stringToUtf16 s)
/-- a pool by its gaps: so many unusable entries, then the entry; so many at the end -/
def gap : Nat → List CpInfo → List CpInfo
  | 0, r => r
  | n + 1, r => .unusable :: gap n r
def poolList (es : List (Nat × CpInfo)) (last : Nat) : List CpInfo := es.foldr (fun e r => gap e.1 (e.2 :: r)) (gap last [])
def pool (es : List (Nat × CpInfo)) (last : Nat) : Array CpInfo := ⟨poolList es last⟩
def fileOf (pool : Array CpInfo) (this : Nat) (attrs : Array Attribute := #[]) (ms : Array MethodInfo := #[]) (fl : Nat := 33) (sup : Nat := 0) (ifs : Array Nat := #[]) (fds : Array FieldInfo := #[]) : ClassFile where
  minorVersion := 0
  majorVersion := 65
  constantPool := pool
  accessFlags := fl
  thisClass := this
  superClass := sup
  interfaces := ifs
  fields := fds
  methods := ms
  attributes := attrs
def plain (name : String) (sup : Option ClassId) : Class where
  name := name
  kind := .ordinary
  loader := none
  accessFlags := 33
  super := sup
  interfaces := #[]
  cf := none
  fields := #[]
  methods := #[]
  instanceTypes := #[]
  staticTypes := #[]
  resolved := #[]
  callSites := []
  init := .initialized
  statics := none
  mirror := none

def pool0 : Array CpInfo := pool [(5, u "<init>"), (0, u "()V"), (1, .class_ 10), (1, u "java/lang/Object")] 113

def k0c0 : Code := { maxStack := 0, maxLocals := 1, code := object_method_1_code, exceptionTable := #[], attributes := #[] }
def k0m0 : Method := { name := "<init>", desc := "()V", sig := { parameters := [], returnType := none }, accessFlags := 1, code := some k0c0 }
/-- java/lang/Object -/
def k0 : Class := { plain "java/lang/Object" none with
  accessFlags := 33
  interfaces := #[]
  cf := some (fileOf pool0 8 #[] #[{ accessFlags := 1, nameIndex := 5, descriptorIndex := 6, attributes := #[] }] 33 0 #[] #[])
  fields := #[]
  methods := #[k0m0]
  instanceTypes := #[]
  staticTypes := #[]
  resolved := Array.replicate 124 none
  statics := none }

def pool1 : Array CpInfo := pool [(2, .class_ 4), (1, u "java/lang/Object"), (0, u "<init>"), (0, u "()V"), (0, .class_ 8), (0, u "com/example/imprint/imprint/tree/PagedText"), (0, .methodref 7 10), (0, .nameAndType 5 11), (0, u "(I)V"), (0, .methodref 7 13), (0, .nameAndType 14 15), (0, u "bytes"), (0, u "()J"), (0, .methodref 7 17), (0, .nameAndType 18 19), (0, u "append"), (0, u "([CII)V"), (0, .class_ 21), (0, u "java/lang/String"), (0, .methodref 20 23), (0, .nameAndType 5 24), (0, u "([C)V"), (0, .methodref 7 26), (0, .nameAndType 18 27), (0, u "(Ljava/lang/String;)V"), (0, .methodref 29 30), (0, .class_ 31), (0, .nameAndType 32 33), (0, u "com/example/imprint/imprint/tree/PagedTextBytesPinLaw"), (0, u "anyWide"), (0, u "([CI)Z"), (0, .methodref 35 36), (0, .class_ 37), (0, .nameAndType 38 39), (0, u "java/lang/Math"), (0, u "max"), (0, u "(II)I"), (0, .long 2), (4, u "law"), (0, u "(IIIIII)Z")] 4

def k1m0 : Method := { name := "<init>", desc := "()V", sig := { parameters := [], returnType := none }, accessFlags := 1, code := none }
def k1c1 : Code := { maxStack := 2, maxLocals := 2, code := method_2_code, exceptionTable := #[], attributes := #[] }
def k1m1 : Method := { name := "anyWide", desc := "([CI)Z", sig := { parameters := [(.array .char), .int], returnType := some .boolean }, accessFlags := 10, code := some k1c1 }
def k1c2 : Code := { maxStack := 5, maxLocals := 28, code := code, exceptionTable := #[], attributes := #[] }
def k1m2 : Method := { name := "law", desc := "(IIIIII)Z", sig := { parameters := [.int, .int, .int, .int, .int, .int], returnType := some .boolean }, accessFlags := 9, code := some k1c2 }
/-- com/example/imprint/imprint/tree/PagedTextBytesPinLaw -/
def k1 : Class := { plain "com/example/imprint/imprint/tree/PagedTextBytesPinLaw" (some 0) with
  accessFlags := 49
  interfaces := #[]
  cf := some (fileOf pool1 29 #[] #[{ accessFlags := 1, nameIndex := 5, descriptorIndex := 6, attributes := #[] }, { accessFlags := 10, nameIndex := 32, descriptorIndex := 33, attributes := #[] }, { accessFlags := 9, nameIndex := 45, descriptorIndex := 46, attributes := #[] }] 49 2 #[] #[])
  fields := #[]
  methods := #[k1m0, k1m1, k1m2]
  instanceTypes := #[]
  staticTypes := #[]
  resolved := Array.replicate 51 none
  statics := none }

def pool2 : Array CpInfo := pool [(1, .methodref 2 3), (0, .class_ 4), (0, .nameAndType 5 6), (0, u "java/lang/Object"), (0, u "<init>"), (0, u "()V"), (0, .class_ 8), (0, u "[B"), (0, .fieldref 10 11), (0, .class_ 12), (0, .nameAndType 13 14), (0, u "com/example/imprint/imprint/tree/PagedText"), (0, u "narrowPages"), (0, u "[[B"), (0, .class_ 16), (0, u "[C"), (0, .fieldref 10 18), (0, .nameAndType 19 20), (0, u "widePages"), (0, u "[[C"), (0, .fieldref 10 22), (0, .nameAndType 23 24), (0, u "pageCount"), (0, u "I"), (0, .fieldref 10 26), (0, .nameAndType 27 24), (0, u "capacity"), (0, .fieldref 10 29), (0, .nameAndType 30 24), (0, u "length"), (0, .long 2), (1, .methodref 10 34), (0, .nameAndType 35 36), (0, u "appendFrom"), (0, u "([CLjava/lang/String;II)V"), (0, .methodref 38 39), (0, .class_ 40), (0, .nameAndType 30 41), (0, u "java/lang/String"), (0, u "()I"), (2, .fieldref 10 45), (0, .nameAndType 46 24), (0, u "PAGE_BITS"), (0, .fieldref 10 48), (0, .nameAndType 49 24), (0, u "OFFSET_MASK"), (0, .methodref 10 51), (0, .nameAndType 52 53), (0, u "pageLength"), (0, u "(I)I"), (11, u "([CII)V"), (4, u "(I)V"), (8, .methodref 80 81), (0, .class_ 82), (0, .nameAndType 83 84), (0, u "java/lang/Math"), (0, u "min"), (0, u "(II)I"), (2, u "append"), (4, .methodref 10 93), (0, .nameAndType 94 70), (0, u "grow"), (0, .methodref 38 96), (0, .nameAndType 97 98), (0, u "charAt"), (0, u "(I)C"), (0, .methodref 10 100), (0, .nameAndType 101 70), (0, u "widen"), (0, .methodref 103 104), (0, .class_ 105), (0, .nameAndType 106 107), (0, u "java/lang/System"), (0, u "arraycopy"), (0, u "(Ljava/lang/Object;ILjava/lang/Object;II)V"), (0, .methodref 38 109), (0, .nameAndType 110 111), (0, u "getChars"), (0, u "(II[CI)V"), (0, .fieldref 10 113), (0, .nameAndType 114 24), (0, u "PAGE_SIZE"), (0, .methodref 80 116), (0, .nameAndType 117 84), (0, u "max"), (0, .methodref 119 120), (0, .class_ 121), (0, .nameAndType 122 123), (0, u "java/util/Arrays"), (0, u "copyOf"), (0, u "([BI)[B"), (0, .methodref 119 125), (0, .nameAndType 122 126), (0, u "([CI)[C"), (13, u "bytes"), (0, u "()J"), (1, u "(Ljava/lang/String;)V")] 6

def k2c0 : Code := { maxStack := 5, maxLocals := 2, code := prog_89_method_1_code, exceptionTable := #[], attributes := #[] }
def k2m0 : Method := { name := "<init>", desc := "(I)V", sig := { parameters := [.int], returnType := none }, accessFlags := 0, code := some k2c0 }
def k2c1 : Code := { maxStack := 6, maxLocals := 5, code := prog_89_method_3_code, exceptionTable := #[], attributes := #[] }
def k2m1 : Method := { name := "bytes", desc := "()J", sig := { parameters := [], returnType := some .long }, accessFlags := 0, code := some k2c1 }
def k2c2 : Code := { maxStack := 5, maxLocals := 4, code := prog_89_method_4_code, exceptionTable := #[], attributes := #[] }
def k2m2 : Method := { name := "append", desc := "([CII)V", sig := { parameters := [(.array .char), .int, .int], returnType := none }, accessFlags := 0, code := some k2c2 }
def k2c3 : Code := { maxStack := 5, maxLocals := 2, code := prog_89_method_5_code, exceptionTable := #[], attributes := #[] }
def k2m3 : Method := { name := "append", desc := "(Ljava/lang/String;)V", sig := { parameters := [(.object "java/lang/String")], returnType := none }, accessFlags := 0, code := some k2c3 }
def k2c4 : Code := { maxStack := 6, maxLocals := 13, code := prog_89_method_9_code, exceptionTable := #[], attributes := #[] }
def k2m4 : Method := { name := "appendFrom", desc := "([CLjava/lang/String;II)V", sig := { parameters := [(.array .char), (.object "java/lang/String"), .int, .int], returnType := none }, accessFlags := 2, code := some k2c4 }
def k2c5 : Code := { maxStack := 2, maxLocals := 3, code := prog_89_method_10_code, exceptionTable := #[], attributes := #[] }
def k2m5 : Method := { name := "pageLength", desc := "(I)I", sig := { parameters := [.int], returnType := some .int }, accessFlags := 2, code := some k2c5 }
def k2c6 : Code := { maxStack := 4, maxLocals := 5, code := prog_89_method_11_code, exceptionTable := #[], attributes := #[] }
def k2m6 : Method := { name := "widen", desc := "(I)V", sig := { parameters := [.int], returnType := none }, accessFlags := 2, code := some k2c6 }
def k2c7 : Code := { maxStack := 5, maxLocals := 2, code := prog_89_method_12_code, exceptionTable := #[], attributes := #[] }
def k2m7 : Method := { name := "grow", desc := "(I)V", sig := { parameters := [.int], returnType := none }, accessFlags := 2, code := some k2c7 }
/-- com/example/imprint/imprint/tree/PagedText -/
def k2 : Class := { plain "com/example/imprint/imprint/tree/PagedText" (some 0) with
  accessFlags := 48
  interfaces := #[]
  cf := some (fileOf pool2 10 #[] #[{ accessFlags := 0, nameIndex := 5, descriptorIndex := 70, attributes := #[] }, { accessFlags := 0, nameIndex := 140, descriptorIndex := 141, attributes := #[] }, { accessFlags := 0, nameIndex := 87, descriptorIndex := 65, attributes := #[] }, { accessFlags := 0, nameIndex := 87, descriptorIndex := 143, attributes := #[] }, { accessFlags := 2, nameIndex := 35, descriptorIndex := 36, attributes := #[] }, { accessFlags := 2, nameIndex := 52, descriptorIndex := 53, attributes := #[] }, { accessFlags := 2, nameIndex := 101, descriptorIndex := 70, attributes := #[] }, { accessFlags := 2, nameIndex := 94, descriptorIndex := 70, attributes := #[] }] 48 2 #[] #[{ accessFlags := 26, nameIndex := 46, descriptorIndex := 24, attributes := #[] }, { accessFlags := 24, nameIndex := 114, descriptorIndex := 24, attributes := #[] }, { accessFlags := 26, nameIndex := 49, descriptorIndex := 24, attributes := #[] }, { accessFlags := 2, nameIndex := 13, descriptorIndex := 14, attributes := #[] }, { accessFlags := 2, nameIndex := 19, descriptorIndex := 20, attributes := #[] }, { accessFlags := 2, nameIndex := 23, descriptorIndex := 24, attributes := #[] }, { accessFlags := 2, nameIndex := 27, descriptorIndex := 24, attributes := #[] }, { accessFlags := 2, nameIndex := 30, descriptorIndex := 24, attributes := #[] }])
  fields := #[{ name := "PAGE_BITS", type := .int, accessFlags := 26, slot := 0, constantValue := 0 }, { name := "PAGE_SIZE", type := .int, accessFlags := 24, slot := 1, constantValue := 0 }, { name := "OFFSET_MASK", type := .int, accessFlags := 26, slot := 2, constantValue := 0 }, { name := "narrowPages", type := (.array (.array .byte)), accessFlags := 2, slot := 0, constantValue := 0 }, { name := "widePages", type := (.array (.array .char)), accessFlags := 2, slot := 1, constantValue := 0 }, { name := "pageCount", type := .int, accessFlags := 2, slot := 2, constantValue := 0 }, { name := "capacity", type := .int, accessFlags := 2, slot := 3, constantValue := 0 }, { name := "length", type := .int, accessFlags := 2, slot := 4, constantValue := 0 }]
  methods := #[k2m0, k2m1, k2m2, k2m3, k2m4, k2m5, k2m6, k2m7]
  instanceTypes := #[(.array (.array .byte)), (.array (.array .char)), .int, .int, .int]
  staticTypes := #[.int, .int, .int]
  resolved := Array.replicate 150 none
  statics := some 0 }

def pool3 : Array CpInfo := pool [(1, .class_ 2), (0, u "java/lang/Math"), (1, .class_ 6), (1, u "java/lang/Object"), (0, u "<init>"), (0, u "()V"), (89, .class_ 100), (1, u "java/lang/Math$RandomNumberGeneratorHolder"), (71, u "negativeZeroFloatBits"), (0, u "J"), (2, u "negativeZeroDoubleBits"), (21, u "max"), (2, u "min"), (43, u "$assertionsDisabled"), (0, u "Z"), (88, u "(II)I"), (2, u "twoToTheDoubleScaleDown"), (0, u "D"), (4, u "twoToTheDoubleScaleUp"), (9, u "E"), (3, u "PI"), (2, u "TAU"), (2, u "DEGREES_TO_RADIANS"), (0, u "RADIANS_TO_DEGREES")] 94

def k3m0 : Method := { name := "<init>", desc := "()V", sig := { parameters := [], returnType := none }, accessFlags := 2, code := none }
def k3c1 : Code := { maxStack := 2, maxLocals := 2, code := jdk_29_method_65_code, exceptionTable := #[], attributes := #[] }
def k3m1 : Method := { name := "max", desc := "(II)I", sig := { parameters := [.int, .int], returnType := some .int }, accessFlags := 9, code := some k3c1 }
def k3c2 : Code := { maxStack := 2, maxLocals := 2, code := jdk_29_method_69_code, exceptionTable := #[], attributes := #[] }
def k3m2 : Method := { name := "min", desc := "(II)I", sig := { parameters := [.int, .int], returnType := some .int }, accessFlags := 9, code := some k3c2 }
/-- java/lang/Math -/
def k3 : Class := { plain "java/lang/Math" (some 0) with
  accessFlags := 49
  interfaces := #[]
  cf := some (fileOf pool3 1 #[.nestMembers #[98]] #[{ accessFlags := 2, nameIndex := 7, descriptorIndex := 8, attributes := #[] }, { accessFlags := 9, nameIndex := 198, descriptorIndex := 335, attributes := #[] }, { accessFlags := 9, nameIndex := 201, descriptorIndex := 335, attributes := #[] }] 49 4 #[] #[{ accessFlags := 25, nameIndex := 354, descriptorIndex := 339, attributes := #[] }, { accessFlags := 25, nameIndex := 358, descriptorIndex := 339, attributes := #[] }, { accessFlags := 25, nameIndex := 361, descriptorIndex := 339, attributes := #[] }, { accessFlags := 26, nameIndex := 364, descriptorIndex := 339, attributes := #[] }, { accessFlags := 26, nameIndex := 365, descriptorIndex := 339, attributes := #[] }, { accessFlags := 26, nameIndex := 172, descriptorIndex := 173, attributes := #[] }, { accessFlags := 26, nameIndex := 176, descriptorIndex := 173, attributes := #[] }, { accessFlags := 8, nameIndex := 344, descriptorIndex := 339, attributes := #[] }, { accessFlags := 8, nameIndex := 338, descriptorIndex := 339, attributes := #[] }, { accessFlags := 4120, nameIndex := 245, descriptorIndex := 246, attributes := #[] }])
  fields := #[{ name := "E", type := .double, accessFlags := 25, slot := 0, constantValue := 0 }, { name := "PI", type := .double, accessFlags := 25, slot := 1, constantValue := 0 }, { name := "TAU", type := .double, accessFlags := 25, slot := 2, constantValue := 0 }, { name := "DEGREES_TO_RADIANS", type := .double, accessFlags := 26, slot := 3, constantValue := 0 }, { name := "RADIANS_TO_DEGREES", type := .double, accessFlags := 26, slot := 4, constantValue := 0 }, { name := "negativeZeroFloatBits", type := .long, accessFlags := 26, slot := 5, constantValue := 0 }, { name := "negativeZeroDoubleBits", type := .long, accessFlags := 26, slot := 6, constantValue := 0 }, { name := "twoToTheDoubleScaleUp", type := .double, accessFlags := 8, slot := 7, constantValue := 0 }, { name := "twoToTheDoubleScaleDown", type := .double, accessFlags := 8, slot := 8, constantValue := 0 }, { name := "$assertionsDisabled", type := .boolean, accessFlags := 4120, slot := 9, constantValue := 0 }]
  methods := #[k3m0, k3m1, k3m2]
  instanceTypes := #[]
  staticTypes := #[.double, .double, .double, .double, .double, .long, .long, .double, .double, .boolean]
  resolved := Array.replicate 460 none
  statics := none }

def pool4 : Array CpInfo := pool [(2, .class_ 4), (1, u "java/lang/Object"), (0, u "<init>"), (0, u "()V"), (7, .class_ 16), (1, u "java/util/Arrays"), (57, .class_ 76), (1, u "java/util/Arrays$NaturalOrder"), (36, .class_ 115), (1, u "java/util/Arrays$LegacyMergeSort"), (1, u "Z"), (32, .methodref 151 152), (0, .class_ 153), (0, .nameAndType 154 155), (0, u "java/lang/System"), (0, u "arraycopy"), (0, u "(Ljava/lang/Object;ILjava/lang/Object;II)V"), (146, u "copyOf"), (1, .methodref 305 306), (0, .class_ 307), (0, .nameAndType 308 309), (0, u "java/lang/Math"), (0, u "min"), (0, u "(II)I"), (65, .class_ 376), (0, u "java/util/Arrays$ArrayList"), (68, u "$assertionsDisabled"), (269, u "MIN_ARRAY_SORT_GRAN"), (0, u "I"), (2, u "INSERTIONSORT_THRESHOLD"), (149, u "([BI)[B"), (3, u "([CI)[C"), (101, .class_ 976), (0, u "java/util/Arrays$ArrayItr")] 52

def k4m0 : Method := { name := "<init>", desc := "()V", sig := { parameters := [], returnType := none }, accessFlags := 2, code := none }
def k4c1 : Code := { maxStack := 6, maxLocals := 3, code := jdk_65_method_121_code, exceptionTable := #[], attributes := #[] }
def k4m1 : Method := { name := "copyOf", desc := "([BI)[B", sig := { parameters := [(.array .byte), .int], returnType := some (.array .byte) }, accessFlags := 9, code := some k4c1 }
def k4c2 : Code := { maxStack := 6, maxLocals := 3, code := jdk_65_method_125_code, exceptionTable := #[], attributes := #[] }
def k4m2 : Method := { name := "copyOf", desc := "([CI)[C", sig := { parameters := [(.array .char), .int], returnType := some (.array .char) }, accessFlags := 9, code := some k4c2 }
/-- java/util/Arrays -/
def k4 : Class := { plain "java/util/Arrays" (some 0) with
  accessFlags := 49
  interfaces := #[]
  cf := some (fileOf pool4 14 #[.nestMembers #[975, 375, 113, 74]] #[{ accessFlags := 2, nameIndex := 5, descriptorIndex := 6, attributes := #[] }, { accessFlags := 9, nameIndex := 302, descriptorIndex := 869, attributes := #[] }, { accessFlags := 9, nameIndex := 302, descriptorIndex := 873, attributes := #[] }] 49 2 #[] #[{ accessFlags := 26, nameIndex := 715, descriptorIndex := 716, attributes := #[] }, { accessFlags := 26, nameIndex := 719, descriptorIndex := 716, attributes := #[] }, { accessFlags := 4120, nameIndex := 445, descriptorIndex := 117, attributes := #[] }])
  fields := #[{ name := "MIN_ARRAY_SORT_GRAN", type := .int, accessFlags := 26, slot := 0, constantValue := 0 }, { name := "INSERTIONSORT_THRESHOLD", type := .int, accessFlags := 26, slot := 1, constantValue := 0 }, { name := "$assertionsDisabled", type := .boolean, accessFlags := 4120, slot := 2, constantValue := 0 }]
  methods := #[k4m0, k4m1, k4m2]
  instanceTypes := #[]
  staticTypes := #[.int, .int, .boolean]
  resolved := Array.replicate 1029 none
  statics := none }

def pool5 : Array CpInfo := pool [(2, .class_ 4), (1, u "java/lang/Object"), (0, u "<init>"), (0, u "()V"), (1, .class_ 10), (1, u "java/lang/System"), (0, u "allowSecurityManager"), (0, u "I"), (16, u "cons"), (0, u "Ljava/io/Console;"), (77, .class_ 110), (1, u "java/lang/System$CallersHolder"), (43, u "initialErrStream"), (0, u "Ljava/io/PrintStream;"), (19, u "security"), (0, u "Ljava/lang/SecurityManager;"), (31, .class_ 209), (0, u "java/lang/System$1"), (7, u "props"), (0, u "Ljava/util/Properties;"), (2, u "lineSeparator"), (0, u "Ljava/lang/String;"), (96, .class_ 321), (1, u "java/lang/System$LoggerFinder"), (5, .class_ 328), (0, u "java/lang/System$Logger"), (67, u "err"), (2, u "out"), (91, u "notSupportedJnuEncoding"), (15, u "in"), (17, u "initialIn"), (0, u "Ljava/io/InputStream;"), (35, u "bootLayer"), (0, u "Ljava/lang/ModuleLayer;"), (99, .class_ 664), (0, u "java/lang/System$2"), (9, u "NEVER"), (2, u "MAYBE"), (49, u "arraycopy"), (0, u "(Ljava/lang/Object;ILjava/lang/Object;II)V"), (72, .class_ 802), (0, u "java/lang/System$Logger$Level")] 31

def k5m0 : Method := { name := "<init>", desc := "()V", sig := { parameters := [], returnType := none }, accessFlags := 2, code := none }
def k5m1 : Method := { name := "arraycopy", desc := "(Ljava/lang/Object;ILjava/lang/Object;II)V", sig := { parameters := [(.object "java/lang/Object"), .int, (.object "java/lang/Object"), .int, .int], returnType := none }, accessFlags := 265, code := none }
/-- java/lang/System -/
def k5 : Class := { plain "java/lang/System" (some 0) with
  accessFlags := 49
  interfaces := #[]
  cf := some (fileOf pool5 8 #[.nestMembers #[319, 327, 801, 108, 663, 208]] #[{ accessFlags := 2, nameIndex := 5, descriptorIndex := 6, attributes := #[] }, { accessFlags := 265, nameIndex := 727, descriptorIndex := 728, attributes := #[] }] 49 2 #[] #[{ accessFlags := 25, nameIndex := 507, descriptorIndex := 526, attributes := #[] }, { accessFlags := 25, nameIndex := 399, descriptorIndex := 155, attributes := #[] }, { accessFlags := 25, nameIndex := 396, descriptorIndex := 155, attributes := #[] }, { accessFlags := 10, nameIndex := 525, descriptorIndex := 526, attributes := #[] }, { accessFlags := 26, nameIndex := 674, descriptorIndex := 12, attributes := #[] }, { accessFlags := 26, nameIndex := 677, descriptorIndex := 12, attributes := #[] }, { accessFlags := 10, nameIndex := 11, descriptorIndex := 12, attributes := #[] }, { accessFlags := 74, nameIndex := 175, descriptorIndex := 176, attributes := #[] }, { accessFlags := 10, nameIndex := 491, descriptorIndex := 222, attributes := #[] }, { accessFlags := 74, nameIndex := 29, descriptorIndex := 30, attributes := #[] }, { accessFlags := 74, nameIndex := 154, descriptorIndex := 155, attributes := #[] }, { accessFlags := 10, nameIndex := 217, descriptorIndex := 218, attributes := #[] }, { accessFlags := 10, nameIndex := 221, descriptorIndex := 222, attributes := #[] }, { accessFlags := 8, nameIndex := 562, descriptorIndex := 563, attributes := #[] }])
  fields := #[{ name := "in", type := (.object "java/io/InputStream"), accessFlags := 25, slot := 0, constantValue := 0 }, { name := "out", type := (.object "java/io/PrintStream"), accessFlags := 25, slot := 1, constantValue := 0 }, { name := "err", type := (.object "java/io/PrintStream"), accessFlags := 25, slot := 2, constantValue := 0 }, { name := "initialIn", type := (.object "java/io/InputStream"), accessFlags := 10, slot := 3, constantValue := 0 }, { name := "NEVER", type := .int, accessFlags := 26, slot := 4, constantValue := 0 }, { name := "MAYBE", type := .int, accessFlags := 26, slot := 5, constantValue := 0 }, { name := "allowSecurityManager", type := .int, accessFlags := 10, slot := 6, constantValue := 0 }, { name := "security", type := (.object "java/lang/SecurityManager"), accessFlags := 74, slot := 7, constantValue := 0 }, { name := "notSupportedJnuEncoding", type := (.object "java/lang/String"), accessFlags := 10, slot := 8, constantValue := 0 }, { name := "cons", type := (.object "java/io/Console"), accessFlags := 74, slot := 9, constantValue := 0 }, { name := "initialErrStream", type := (.object "java/io/PrintStream"), accessFlags := 74, slot := 10, constantValue := 0 }, { name := "props", type := (.object "java/util/Properties"), accessFlags := 10, slot := 11, constantValue := 0 }, { name := "lineSeparator", type := (.object "java/lang/String"), accessFlags := 10, slot := 12, constantValue := 0 }, { name := "bootLayer", type := (.object "java/lang/ModuleLayer"), accessFlags := 8, slot := 13, constantValue := 0 }]
  methods := #[k5m0, k5m1]
  instanceTypes := #[]
  staticTypes := #[(.object "java/io/InputStream"), (.object "java/io/PrintStream"), (.object "java/io/PrintStream"), (.object "java/io/InputStream"), .int, .int, .int, (.object "java/lang/SecurityManager"), (.object "java/lang/String"), (.object "java/io/Console"), (.object "java/io/PrintStream"), (.object "java/util/Properties"), (.object "java/lang/String"), (.object "java/lang/ModuleLayer")]
  resolved := Array.replicate 834 none
  statics := none }

def pool6 : Array CpInfo := pool [(1, .class_ 2), (0, u "java/io/Serializable"), (0, .class_ 4), (0, u "java/lang/Object")] 2

/-- java/io/Serializable -/
def k6 : Class := { plain "java/io/Serializable" (some 0) with
  accessFlags := 1537
  interfaces := #[]
  cf := some (fileOf pool6 1 #[] #[] 1537 3 #[] #[])
  fields := #[]
  methods := #[]
  instanceTypes := #[]
  staticTypes := #[]
  resolved := Array.replicate 7 none
  statics := none }

def pool7 : Array CpInfo := pool [(1, .class_ 2), (0, u "java/lang/Comparable"), (0, .class_ 4), (0, u "java/lang/Object")] 7

/-- java/lang/Comparable -/
def k7 : Class := { plain "java/lang/Comparable" (some 0) with
  accessFlags := 1537
  interfaces := #[]
  cf := some (fileOf pool7 1 #[] #[] 1537 3 #[] #[])
  fields := #[]
  methods := #[]
  instanceTypes := #[]
  staticTypes := #[]
  resolved := Array.replicate 12 none
  statics := none }

def pool8 : Array CpInfo := pool [(2, .class_ 4), (1, u "java/lang/CharSequence"), (42, .class_ 48), (0, u "java/lang/CharSequence$1CodePointIterator"), (10, .class_ 60), (0, u "java/lang/CharSequence$1CharIterator"), (5, .class_ 67), (0, u "java/lang/Object")] 63

/-- java/lang/CharSequence -/
def k8 : Class := { plain "java/lang/CharSequence" (some 0) with
  accessFlags := 1537
  interfaces := #[]
  cf := some (fileOf pool8 2 #[.nestMembers #[47, 59]] #[] 1537 66 #[] #[])
  fields := #[]
  methods := #[]
  instanceTypes := #[]
  staticTypes := #[]
  resolved := Array.replicate 131 none
  statics := none }

def pool9 : Array CpInfo := pool [(1, .class_ 2), (0, u "java/lang/constant/Constable"), (0, .class_ 4), (0, u "java/lang/Object")] 6

/-- java/lang/constant/Constable -/
def k9 : Class := { plain "java/lang/constant/Constable" (some 0) with
  accessFlags := 1537
  interfaces := #[]
  cf := some (fileOf pool9 1 #[] #[] 1537 3 #[] #[])
  fields := #[]
  methods := #[]
  instanceTypes := #[]
  staticTypes := #[]
  resolved := Array.replicate 11 none
  statics := none }

def pool10 : Array CpInfo := pool [(1, .class_ 2), (0, u "java/lang/constant/ConstantDesc"), (0, .class_ 4), (0, u "java/lang/Object")] 32

/-- java/lang/constant/ConstantDesc -/
def k10 : Class := { plain "java/lang/constant/ConstantDesc" (some 0) with
  accessFlags := 1537
  interfaces := #[]
  cf := some (fileOf pool10 1 #[] #[] 1537 3 #[] #[])
  fields := #[]
  methods := #[]
  instanceTypes := #[]
  staticTypes := #[]
  resolved := Array.replicate 37 none
  statics := none }

def pool11 : Array CpInfo := pool [(1, .methodref 2 3), (0, .class_ 4), (0, .nameAndType 5 6), (0, u "java/lang/Object"), (0, u "<init>"), (0, u "()V"), (2, .fieldref 10 11), (0, .class_ 12), (0, .nameAndType 13 14), (0, u "java/lang/String"), (0, u "value"), (0, u "[B"), (0, .fieldref 10 16), (0, .nameAndType 17 18), (0, u "coder"), (0, u "B"), (2, u "hash"), (0, u "I"), (2, u "hashIsZero"), (0, u "Z"), (0, .methodref 10 28), (0, .nameAndType 5 29), (0, u "([CIILjava/lang/Void;)V"), (4, .methodref 10 35), (0, .nameAndType 36 37), (0, u "checkBoundsOffCount"), (0, u "(III)I"), (0, .fieldref 10 39), (0, .nameAndType 40 26), (0, u "COMPACT_STRINGS"), (1, .class_ 44), (1, u "java/lang/StringUTF16"), (0, u "compress"), (1, .methodref 42 48), (0, .nameAndType 49 50), (0, u "coderFromArrayLen"), (0, u "([BI)B"), (56, .class_ 109), (1, u "java/lang/StringLatin1"), (32, u "()Z"), (34, .methodref 42 178), (0, .nameAndType 45 179), (0, u "([CII)[B"), (154, u "()I"), (0, .methodref 10 336), (0, .nameAndType 17 337), (0, u "()B"), (25, u "([BI)C"), (27, u "(II)V"), (35, u "(I)C"), (64, .methodref 10 493), (0, .nameAndType 494 142), (0, u "isLatin1"), (0, .methodref 107 496), (0, .nameAndType 497 363), (0, u "charAt"), (0, .methodref 42 496), (2, u "checkIndex"), (3, .methodref 10 506), (0, .nameAndType 507 334), (0, u "length"), (5, u "checkFromToIndex"), (7, .methodref 10 522), (0, .nameAndType 523 524), (0, u "checkBoundsBeginEnd"), (0, u "(III)V"), (0, .methodref 107 526), (0, .nameAndType 527 528), (0, u "getChars"), (0, u "([BII[CI)V"), (0, .methodref 42 526), (45, .class_ 576), (0, u "java/lang/CharSequence"), (22, u "CASE_INSENSITIVE_ORDER"), (0, u "Ljava/util/Comparator;"), (409, u "([C)V"), (42, .fieldref 1054 1055), (0, .class_ 1056), (0, .nameAndType 1057 1058), (0, u "jdk/internal/util/Preconditions"), (0, u "SIOOBE_FORMATTER"), (0, u "Ljava/util/function/BiFunction;"), (0, .methodref 1054 1060), (0, .nameAndType 501 1061), (0, u "(IILjava/util/function/BiFunction;)I"), (0, .methodref 1054 1063), (0, .nameAndType 513 1064), (0, u "(IIILjava/util/function/BiFunction;)I"), (0, .methodref 1054 1066), (0, .nameAndType 1067 1064), (0, u "checkFromIndexSize"), (33, u "serialPersistentFields"), (0, u "[Ljava/io/ObjectStreamField;"), (0, .class_ 1104), (0, u "java/lang/String$CaseInsensitiveComparator"), (1, .class_ 1107), (0, u "java/io/Serializable"), (0, .class_ 1109), (0, u "java/lang/Comparable"), (0, .class_ 1111), (0, u "java/lang/constant/Constable"), (0, .class_ 1113), (0, u "java/lang/constant/ConstantDesc"), (2, u "serialVersionUID"), (0, u "J"), (3, u "REPL"), (0, u "C"), (2, u "LATIN1"), (1, u "UTF16"), (112, u "(II[CI)V")] 210

def k11m0 : Method := { name := "<init>", desc := "()V", sig := { parameters := [], returnType := none }, accessFlags := 1, code := none }
def k11c1 : Code := { maxStack := 5, maxLocals := 2, code := jdk_42_method_3_code, exceptionTable := #[], attributes := #[] }
def k11m1 : Method := { name := "<init>", desc := "([C)V", sig := { parameters := [(.array .char)], returnType := none }, accessFlags := 1, code := some k11c1 }
def k11c2 : Code := { maxStack := 2, maxLocals := 1, code := jdk_42_method_54_code, exceptionTable := #[], attributes := #[] }
def k11m2 : Method := { name := "length", desc := "()I", sig := { parameters := [], returnType := some .int }, accessFlags := 1, code := some k11c2 }
def k11c3 : Code := { maxStack := 2, maxLocals := 2, code := jdk_42_method_56_code, exceptionTable := #[], attributes := #[] }
def k11m3 : Method := { name := "charAt", desc := "(I)C", sig := { parameters := [.int], returnType := some .char }, accessFlags := 1, code := some k11c3 }
def k11c4 : Code := { maxStack := 5, maxLocals := 5, code := jdk_42_method_61_code, exceptionTable := #[], attributes := #[] }
def k11m4 : Method := { name := "getChars", desc := "(II[CI)V", sig := { parameters := [.int, .int, (.array .char), .int], returnType := none }, accessFlags := 1, code := some k11c4 }
def k11c5 : Code := { maxStack := 4, maxLocals := 6, code := jdk_42_method_149_code, exceptionTable := #[], attributes := #[] }
def k11m5 : Method := { name := "<init>", desc := "([CIILjava/lang/Void;)V", sig := { parameters := [(.array .char), .int, .int, (.object "java/lang/Void")], returnType := none }, accessFlags := 2, code := some k11c5 }
def k11c6 : Code := { maxStack := 1, maxLocals := 1, code := jdk_42_method_152_code, exceptionTable := #[], attributes := #[] }
def k11m6 : Method := { name := "coder", desc := "()B", sig := { parameters := [], returnType := some .byte }, accessFlags := 0, code := some k11c6 }
def k11c7 : Code := { maxStack := 1, maxLocals := 1, code := jdk_42_method_154_code, exceptionTable := #[], attributes := #[] }
def k11m7 : Method := { name := "isLatin1", desc := "()Z", sig := { parameters := [], returnType := some .boolean }, accessFlags := 0, code := some k11c7 }
def k11c8 : Code := { maxStack := 3, maxLocals := 2, code := jdk_42_method_155_code, exceptionTable := #[], attributes := #[] }
def k11m8 : Method := { name := "checkIndex", desc := "(II)V", sig := { parameters := [.int, .int], returnType := none }, accessFlags := 8, code := some k11c8 }
def k11c9 : Code := { maxStack := 4, maxLocals := 3, code := jdk_42_method_157_code, exceptionTable := #[], attributes := #[] }
def k11m9 : Method := { name := "checkBoundsOffCount", desc := "(III)I", sig := { parameters := [.int, .int, .int], returnType := some .int }, accessFlags := 8, code := some k11c9 }
def k11c10 : Code := { maxStack := 4, maxLocals := 3, code := jdk_42_method_158_code, exceptionTable := #[], attributes := #[] }
def k11m10 : Method := { name := "checkBoundsBeginEnd", desc := "(III)V", sig := { parameters := [.int, .int, .int], returnType := none }, accessFlags := 8, code := some k11c10 }
/-- java/lang/String -/
def k11 : Class := { plain "java/lang/String" (some 0) with
  accessFlags := 49
  interfaces := #[6, 7, 8, 9, 10]
  cf := some (fileOf pool11 10 #[.nestMembers #[1103]] #[{ accessFlags := 1, nameIndex := 5, descriptorIndex := 6, attributes := #[] }, { accessFlags := 1, nameIndex := 5, descriptorIndex := 1010, attributes := #[] }, { accessFlags := 1, nameIndex := 507, descriptorIndex := 334, attributes := #[] }, { accessFlags := 1, nameIndex := 497, descriptorIndex := 427, attributes := #[] }, { accessFlags := 1, nameIndex := 527, descriptorIndex := 1240, attributes := #[] }, { accessFlags := 2, nameIndex := 5, descriptorIndex := 29, attributes := #[] }, { accessFlags := 0, nameIndex := 17, descriptorIndex := 337, attributes := #[] }, { accessFlags := 0, nameIndex := 494, descriptorIndex := 142, attributes := #[] }, { accessFlags := 8, nameIndex := 501, descriptorIndex := 391, attributes := #[] }, { accessFlags := 8, nameIndex := 36, descriptorIndex := 37, attributes := #[] }, { accessFlags := 8, nameIndex := 523, descriptorIndex := 524, attributes := #[] }] 49 2 #[1106, 1108, 575, 1110, 1112] #[{ accessFlags := 18, nameIndex := 13, descriptorIndex := 14, attributes := #[] }, { accessFlags := 18, nameIndex := 17, descriptorIndex := 18, attributes := #[] }, { accessFlags := 2, nameIndex := 21, descriptorIndex := 22, attributes := #[] }, { accessFlags := 2, nameIndex := 25, descriptorIndex := 26, attributes := #[] }, { accessFlags := 26, nameIndex := 1116, descriptorIndex := 1117, attributes := #[] }, { accessFlags := 24, nameIndex := 40, descriptorIndex := 26, attributes := #[] }, { accessFlags := 26, nameIndex := 1101, descriptorIndex := 1102, attributes := #[] }, { accessFlags := 26, nameIndex := 1121, descriptorIndex := 1122, attributes := #[] }, { accessFlags := 25, nameIndex := 599, descriptorIndex := 600, attributes := #[] }, { accessFlags := 24, nameIndex := 1125, descriptorIndex := 18, attributes := #[] }, { accessFlags := 24, nameIndex := 1127, descriptorIndex := 18, attributes := #[] }])
  fields := #[{ name := "value", type := (.array .byte), accessFlags := 18, slot := 0, constantValue := 0 }, { name := "coder", type := .byte, accessFlags := 18, slot := 1, constantValue := 0 }, { name := "hash", type := .int, accessFlags := 2, slot := 2, constantValue := 0 }, { name := "hashIsZero", type := .boolean, accessFlags := 2, slot := 3, constantValue := 0 }, { name := "serialVersionUID", type := .long, accessFlags := 26, slot := 0, constantValue := 0 }, { name := "COMPACT_STRINGS", type := .boolean, accessFlags := 24, slot := 1, constantValue := 0 }, { name := "serialPersistentFields", type := (.array (.object "java/io/ObjectStreamField")), accessFlags := 26, slot := 2, constantValue := 0 }, { name := "REPL", type := .char, accessFlags := 26, slot := 3, constantValue := 0 }, { name := "CASE_INSENSITIVE_ORDER", type := (.object "java/util/Comparator"), accessFlags := 25, slot := 4, constantValue := 0 }, { name := "LATIN1", type := .byte, accessFlags := 24, slot := 5, constantValue := 0 }, { name := "UTF16", type := .byte, accessFlags := 24, slot := 6, constantValue := 0 }]
  methods := #[k11m0, k11m1, k11m2, k11m3, k11m4, k11m5, k11m6, k11m7, k11m8, k11m9, k11m10]
  instanceTypes := #[(.array .byte), .byte, .int, .boolean]
  staticTypes := #[.long, .boolean, (.array (.object "java/io/ObjectStreamField")), .char, (.object "java/util/Comparator"), .byte, .byte]
  resolved := Array.replicate 1451 none
  statics := some 1 }

def pool12 : Array CpInfo := pool [(3, .class_ 4), (0, u "java/lang/String"), (1, .class_ 8), (1, u "java/lang/Object"), (0, u "<init>"), (0, u "()V"), (0, .methodref 12 13), (0, .class_ 14), (0, .nameAndType 15 16), (0, u "java/lang/StringUTF16"), (0, u "newBytesLength"), (0, u "(I)I"), (3, .integer 1073741823), (23, .fieldref 12 45), (0, .nameAndType 46 47), (0, u "$assertionsDisabled"), (0, u "Z"), (0, .methodref 12 49), (0, .nameAndType 50 51), (0, u "length"), (0, u "([B)I"), (7, .fieldref 12 60), (0, .nameAndType 61 62), (0, u "HI_BYTE_SHIFT"), (0, u "I"), (0, .fieldref 12 64), (0, .nameAndType 65 62), (0, u "LO_BYTE_SHIFT"), (1, .methodref 12 68), (0, .nameAndType 69 70), (0, u "checkIndex"), (0, u "(I[B)V"), (0, .methodref 12 72), (0, .nameAndType 73 74), (0, u "getChar"), (0, u "([BI)C"), (24, u "(II[B)V"), (5, u "getChars"), (0, u "([BII[CI)V"), (0, .methodref 12 108), (0, .nameAndType 109 110), (0, u "newBytesFor"), (0, u "(I)[B"), (0, .methodref 12 112), (0, .nameAndType 113 114), (0, u "putChar"), (0, u "([BII)V"), (0, .methodref 12 116), (0, .nameAndType 117 118), (0, u "compress"), (0, u "([CI[BII)I"), (0, .methodref 12 120), (0, .nameAndType 121 122), (0, u "toBytes"), (0, u "([CII)[B"), (50, .methodref 12 174), (0, .nameAndType 175 99), (0, u "checkBoundsOffCount"), (85, u "coderFromArrayLen"), (0, u "([BI)B"), (18, u "(III)I"), (87, .class_ 371), (1, u "java/lang/StringUTF16$LinesSpliterator"), (20, u "charAt"), (21, .methodref 3 415), (0, .nameAndType 69 416), (0, u "(II)V"), (2, .methodref 3 420), (0, .nameAndType 175 281), (9, u "MAX_LENGTH"), (196, .class_ 628), (0, u "java/lang/StringUTF16$CodePointsSpliterator"), (0, .class_ 630), (0, u "java/lang/StringUTF16$CharsSpliterator")] 4

def k12m0 : Method := { name := "<init>", desc := "()V", sig := { parameters := [], returnType := none }, accessFlags := 0, code := none }
def k12c1 : Code := { maxStack := 1, maxLocals := 1, code := jdk_52_method_2_code, exceptionTable := #[], attributes := #[] }
def k12m1 : Method := { name := "newBytesFor", desc := "(I)[B", sig := { parameters := [.int], returnType := some (.array .byte) }, accessFlags := 9, code := some k12c1 }
def k12c2 : Code := { maxStack := 4, maxLocals := 1, code := jdk_52_method_3_code, exceptionTable := #[], attributes := #[] }
def k12m2 : Method := { name := "newBytesLength", desc := "(I)I", sig := { parameters := [.int], returnType := some .int }, accessFlags := 9, code := some k12c2 }
def k12c3 : Code := { maxStack := 4, maxLocals := 3, code := jdk_52_method_4_code, exceptionTable := #[], attributes := #[] }
def k12m3 : Method := { name := "putChar", desc := "([BII)V", sig := { parameters := [(.array .byte), .int, .int], returnType := none }, accessFlags := 8, code := some k12c3 }
def k12c4 : Code := { maxStack := 3, maxLocals := 2, code := jdk_52_method_5_code, exceptionTable := #[], attributes := #[] }
def k12m4 : Method := { name := "getChar", desc := "([BI)C", sig := { parameters := [(.array .byte), .int], returnType := some .char }, accessFlags := 8, code := some k12c4 }
def k12c5 : Code := { maxStack := 2, maxLocals := 1, code := jdk_52_method_6_code, exceptionTable := #[], attributes := #[] }
def k12m5 : Method := { name := "length", desc := "([B)I", sig := { parameters := [(.array .byte)], returnType := some .int }, accessFlags := 9, code := some k12c5 }
def k12c6 : Code := { maxStack := 4, maxLocals := 5, code := jdk_52_method_14_code, exceptionTable := #[], attributes := #[] }
def k12m6 : Method := { name := "toBytes", desc := "([CII)[B", sig := { parameters := [(.array .char), .int, .int], returnType := some (.array .byte) }, accessFlags := 9, code := some k12c6 }
def k12c7 : Code := { maxStack := 2, maxLocals := 2, code := jdk_52_method_15_code, exceptionTable := #[], attributes := #[] }
def k12m7 : Method := { name := "coderFromArrayLen", desc := "([BI)B", sig := { parameters := [(.array .byte), .int], returnType := some .byte }, accessFlags := 8, code := some k12c7 }
def k12c8 : Code := { maxStack := 5, maxLocals := 6, code := jdk_52_method_16_code, exceptionTable := #[], attributes := #[] }
def k12m8 : Method := { name := "compress", desc := "([CII)[B", sig := { parameters := [(.array .char), .int, .int], returnType := some (.array .byte) }, accessFlags := 9, code := some k12c8 }
def k12c9 : Code := { maxStack := 3, maxLocals := 7, code := jdk_52_method_21_code, exceptionTable := #[], attributes := #[] }
def k12m9 : Method := { name := "compress", desc := "([CI[BII)I", sig := { parameters := [(.array .char), .int, (.array .byte), .int, .int], returnType := some .int }, accessFlags := 9, code := some k12c9 }
def k12c10 : Code := { maxStack := 4, maxLocals := 6, code := jdk_52_method_26_code, exceptionTable := #[], attributes := #[] }
def k12m10 : Method := { name := "getChars", desc := "([BII[CI)V", sig := { parameters := [(.array .byte), .int, .int, (.array .char), .int], returnType := none }, accessFlags := 9, code := some k12c10 }
def k12c11 : Code := { maxStack := 2, maxLocals := 2, code := jdk_52_method_83_code, exceptionTable := #[], attributes := #[] }
def k12m11 : Method := { name := "charAt", desc := "([BI)C", sig := { parameters := [(.array .byte), .int], returnType := some .char }, accessFlags := 9, code := some k12c11 }
def k12c12 : Code := { maxStack := 2, maxLocals := 2, code := jdk_52_method_91_code, exceptionTable := #[], attributes := #[] }
def k12m12 : Method := { name := "checkIndex", desc := "(I[B)V", sig := { parameters := [.int, (.array .byte)], returnType := none }, accessFlags := 9, code := some k12c12 }
def k12c13 : Code := { maxStack := 3, maxLocals := 3, code := jdk_52_method_94_code, exceptionTable := #[], attributes := #[] }
def k12m13 : Method := { name := "checkBoundsOffCount", desc := "(II[B)V", sig := { parameters := [.int, .int, (.array .byte)], returnType := none }, accessFlags := 9, code := some k12c13 }
/-- java/lang/StringUTF16 -/
def k12 : Class := { plain "java/lang/StringUTF16" (some 0) with
  accessFlags := 48
  interfaces := #[]
  cf := some (fileOf pool12 12 #[.nestMembers #[627, 629, 369]] #[{ accessFlags := 0, nameIndex := 9, descriptorIndex := 10, attributes := #[] }, { accessFlags := 9, nameIndex := 109, descriptorIndex := 110, attributes := #[] }, { accessFlags := 9, nameIndex := 15, descriptorIndex := 16, attributes := #[] }, { accessFlags := 8, nameIndex := 113, descriptorIndex := 114, attributes := #[] }, { accessFlags := 8, nameIndex := 73, descriptorIndex := 74, attributes := #[] }, { accessFlags := 9, nameIndex := 50, descriptorIndex := 51, attributes := #[] }, { accessFlags := 9, nameIndex := 121, descriptorIndex := 122, attributes := #[] }, { accessFlags := 8, nameIndex := 261, descriptorIndex := 262, attributes := #[] }, { accessFlags := 9, nameIndex := 117, descriptorIndex := 122, attributes := #[] }, { accessFlags := 9, nameIndex := 117, descriptorIndex := 118, attributes := #[] }, { accessFlags := 9, nameIndex := 105, descriptorIndex := 106, attributes := #[] }, { accessFlags := 9, nameIndex := 392, descriptorIndex := 74, attributes := #[] }, { accessFlags := 9, nameIndex := 69, descriptorIndex := 70, attributes := #[] }, { accessFlags := 9, nameIndex := 175, descriptorIndex := 99, attributes := #[] }] 48 6 #[] #[{ accessFlags := 26, nameIndex := 61, descriptorIndex := 62, attributes := #[] }, { accessFlags := 26, nameIndex := 65, descriptorIndex := 62, attributes := #[] }, { accessFlags := 24, nameIndex := 430, descriptorIndex := 62, attributes := #[] }, { accessFlags := 4120, nameIndex := 46, descriptorIndex := 47, attributes := #[] }])
  fields := #[{ name := "HI_BYTE_SHIFT", type := .int, accessFlags := 26, slot := 0, constantValue := 0 }, { name := "LO_BYTE_SHIFT", type := .int, accessFlags := 26, slot := 1, constantValue := 0 }, { name := "MAX_LENGTH", type := .int, accessFlags := 24, slot := 2, constantValue := 0 }, { name := "$assertionsDisabled", type := .boolean, accessFlags := 4120, slot := 3, constantValue := 0 }]
  methods := #[k12m0, k12m1, k12m2, k12m3, k12m4, k12m5, k12m6, k12m7, k12m8, k12m9, k12m10, k12m11, k12m12, k12m13]
  instanceTypes := #[]
  staticTypes := #[.int, .int, .int, .boolean]
  resolved := Array.replicate 635 none
  statics := some 2 }

def pool13 : Array CpInfo := pool [(1, .class_ 2), (0, u "java/lang/String"), (1, .class_ 6), (1, u "java/lang/Object"), (0, u "<init>"), (0, u "()V"), (0, .methodref 1 10), (0, .nameAndType 11 12), (0, u "checkIndex"), (0, u "(II)V"), (0, .methodref 14 15), (0, .class_ 16), (0, .nameAndType 17 18), (0, u "java/lang/StringLatin1"), (0, u "inflate"), (0, u "([BI[CII)V"), (34, u "([BI)C"), (67, u "$assertionsDisabled"), (0, u "Z"), (98, .class_ 223), (1, u "java/lang/StringLatin1$LinesSpliterator"), (28, u "charAt"), (21, u "getChars"), (0, u "([BII[CI)V"), (114, .class_ 391), (0, u "java/lang/StringLatin1$CharsSpliterator")] 3

def k13m0 : Method := { name := "<init>", desc := "()V", sig := { parameters := [], returnType := none }, accessFlags := 0, code := none }
def k13c1 : Code := { maxStack := 2, maxLocals := 2, code := jdk_43_method_2_code, exceptionTable := #[], attributes := #[] }
def k13m1 : Method := { name := "charAt", desc := "([BI)C", sig := { parameters := [(.array .byte), .int], returnType := some .char }, accessFlags := 9, code := some k13c1 }
def k13c2 : Code := { maxStack := 6, maxLocals := 5, code := jdk_43_method_11_code, exceptionTable := #[], attributes := #[] }
def k13m2 : Method := { name := "getChars", desc := "([BII[CI)V", sig := { parameters := [(.array .byte), .int, .int, (.array .char), .int], returnType := none }, accessFlags := 9, code := some k13c2 }
def k13c3 : Code := { maxStack := 4, maxLocals := 6, code := jdk_43_method_49_code, exceptionTable := #[], attributes := #[] }
def k13m3 : Method := { name := "inflate", desc := "([BI[CII)V", sig := { parameters := [(.array .byte), .int, (.array .char), .int, .int], returnType := none }, accessFlags := 9, code := some k13c3 }
/-- java/lang/StringLatin1 -/
def k13 : Class := { plain "java/lang/StringLatin1" (some 0) with
  accessFlags := 48
  interfaces := #[]
  cf := some (fileOf pool13 14 #[.nestMembers #[390, 221]] #[{ accessFlags := 0, nameIndex := 7, descriptorIndex := 8, attributes := #[] }, { accessFlags := 9, nameIndex := 252, descriptorIndex := 53, attributes := #[] }, { accessFlags := 9, nameIndex := 274, descriptorIndex := 275, attributes := #[] }, { accessFlags := 9, nameIndex := 17, descriptorIndex := 18, attributes := #[] }] 48 4 #[] #[{ accessFlags := 4120, nameIndex := 121, descriptorIndex := 122, attributes := #[] }])
  fields := #[{ name := "$assertionsDisabled", type := .boolean, accessFlags := 4120, slot := 0, constantValue := 0 }]
  methods := #[k13m0, k13m1, k13m2, k13m3]
  instanceTypes := #[]
  staticTypes := #[.boolean]
  resolved := Array.replicate 395 none
  statics := none }

def pool14 : Array CpInfo := pool [(2, .class_ 4), (1, u "java/lang/Object"), (0, u "<init>"), (0, u "()V"), (17, .class_ 26), (1, u "jdk/internal/util/Preconditions"), (6, u "checkIndex"), (13, u "checkFromToIndex"), (1, u "checkFromIndexSize"), (5, .class_ 56), (0, u "jdk/internal/util/Preconditions$4"), (57, .class_ 115), (0, u "jdk/internal/util/Preconditions$1"), (7, u "SIOOBE_FORMATTER"), (0, u "Ljava/util/function/BiFunction;"), (0, .class_ 126), (0, u "jdk/internal/util/Preconditions$2"), (3, u "AIOOBE_FORMATTER"), (0, .class_ 132), (0, u "jdk/internal/util/Preconditions$3"), (3, u "IOOBE_FORMATTER"), (41, u "(IILjava/util/function/BiFunction;)I"), (4, u "(IIILjava/util/function/BiFunction;)I")] 10

def k14m0 : Method := { name := "<init>", desc := "()V", sig := { parameters := [], returnType := none }, accessFlags := 1, code := none }
def k14c1 : Code := { maxStack := 3, maxLocals := 3, code := jdk_41_method_11_code, exceptionTable := #[], attributes := #[] }
def k14m1 : Method := { name := "checkIndex", desc := "(IILjava/util/function/BiFunction;)I", sig := { parameters := [.int, .int, (.object "java/util/function/BiFunction")], returnType := some .int }, accessFlags := 9, code := some k14c1 }
def k14c2 : Code := { maxStack := 4, maxLocals := 4, code := jdk_41_method_12_code, exceptionTable := #[], attributes := #[] }
def k14m2 : Method := { name := "checkFromToIndex", desc := "(IIILjava/util/function/BiFunction;)I", sig := { parameters := [.int, .int, .int, (.object "java/util/function/BiFunction")], returnType := some .int }, accessFlags := 9, code := some k14c2 }
def k14c3 : Code := { maxStack := 4, maxLocals := 4, code := jdk_41_method_13_code, exceptionTable := #[], attributes := #[] }
def k14m3 : Method := { name := "checkFromIndexSize", desc := "(IIILjava/util/function/BiFunction;)I", sig := { parameters := [.int, .int, .int, (.object "java/util/function/BiFunction")], returnType := some .int }, accessFlags := 9, code := some k14c3 }
/-- jdk/internal/util/Preconditions -/
def k14 : Class := { plain "jdk/internal/util/Preconditions" (some 0) with
  accessFlags := 33
  interfaces := #[]
  cf := some (fileOf pool14 24 #[.nestMembers #[55, 131, 125, 114]] #[{ accessFlags := 1, nameIndex := 5, descriptorIndex := 6, attributes := #[] }, { accessFlags := 9, nameIndex := 33, descriptorIndex := 178, attributes := #[] }, { accessFlags := 9, nameIndex := 47, descriptorIndex := 183, attributes := #[] }, { accessFlags := 9, nameIndex := 49, descriptorIndex := 183, attributes := #[] }] 33 2 #[] #[{ accessFlags := 25, nameIndex := 123, descriptorIndex := 124, attributes := #[] }, { accessFlags := 25, nameIndex := 130, descriptorIndex := 124, attributes := #[] }, { accessFlags := 25, nameIndex := 136, descriptorIndex := 124, attributes := #[] }])
  fields := #[{ name := "SIOOBE_FORMATTER", type := (.object "java/util/function/BiFunction"), accessFlags := 25, slot := 0, constantValue := 0 }, { name := "AIOOBE_FORMATTER", type := (.object "java/util/function/BiFunction"), accessFlags := 25, slot := 1, constantValue := 0 }, { name := "IOOBE_FORMATTER", type := (.object "java/util/function/BiFunction"), accessFlags := 25, slot := 2, constantValue := 0 }]
  methods := #[k14m0, k14m1, k14m2, k14m3]
  instanceTypes := #[]
  staticTypes := #[(.object "java/util/function/BiFunction"), (.object "java/util/function/BiFunction"), (.object "java/util/function/BiFunction")]
  resolved := Array.replicate 194 none
  statics := some 3 }

def pool15 : Array CpInfo := pool [(9, u "<init>"), (6, .class_ 18), (1, u "java/lang/Object"), (0, u "()V"), (1, .class_ 23), (1, u "jdk/internal/util/ArraysSupport"), (0, u "LOG2_ARRAY_LONG_INDEX_SCALE"), (0, u "I"), (2, u "U"), (0, u "Ljdk/internal/misc/Unsafe;"), (8, u "BIG_ENDIAN"), (0, u "Z"), (8, u "LOG2_BYTE_BIT_SIZE"), (4, u "LOG2_ARRAY_INT_INDEX_SCALE"), (54, u "JLA"), (0, u "Ljdk/internal/access/JavaLangAccess;"), (11, u "LOG2_ARRAY_BOOLEAN_INDEX_SCALE"), (9, u "LOG2_ARRAY_BYTE_INDEX_SCALE"), (5, u "LOG2_ARRAY_CHAR_INDEX_SCALE"), (5, u "LOG2_ARRAY_SHORT_INDEX_SCALE"), (18, u "LOG2_ARRAY_FLOAT_INDEX_SCALE"), (24, u "LOG2_ARRAY_DOUBLE_INDEX_SCALE"), (89, u "T_BOOLEAN"), (2, u "T_CHAR"), (1, u "T_FLOAT"), (1, u "T_DOUBLE"), (1, u "T_BYTE"), (1, u "T_SHORT"), (1, u "T_INT"), (1, u "T_LONG"), (1, u "SOFT_MAX_ARRAY_LENGTH")] 83

def k15m0 : Method := { name := "<init>", desc := "()V", sig := { parameters := [], returnType := none }, accessFlags := 2, code := none }
/-- jdk/internal/util/ArraysSupport -/
def k15 : Class := { plain "jdk/internal/util/ArraysSupport" (some 0) with
  accessFlags := 33
  interfaces := #[]
  cf := some (fileOf pool15 21 #[] #[{ accessFlags := 2, nameIndex := 9, descriptorIndex := 19, attributes := #[] }] 33 16 #[] #[{ accessFlags := 24, nameIndex := 28, descriptorIndex := 29, attributes := #[] }, { accessFlags := 26, nameIndex := 38, descriptorIndex := 39, attributes := #[] }, { accessFlags := 25, nameIndex := 121, descriptorIndex := 25, attributes := #[] }, { accessFlags := 25, nameIndex := 131, descriptorIndex := 25, attributes := #[] }, { accessFlags := 25, nameIndex := 137, descriptorIndex := 25, attributes := #[] }, { accessFlags := 25, nameIndex := 143, descriptorIndex := 25, attributes := #[] }, { accessFlags := 25, nameIndex := 53, descriptorIndex := 25, attributes := #[] }, { accessFlags := 25, nameIndex := 24, descriptorIndex := 25, attributes := #[] }, { accessFlags := 25, nameIndex := 162, descriptorIndex := 25, attributes := #[] }, { accessFlags := 25, nameIndex := 187, descriptorIndex := 25, attributes := #[] }, { accessFlags := 26, nameIndex := 48, descriptorIndex := 25, attributes := #[] }, { accessFlags := 25, nameIndex := 277, descriptorIndex := 25, attributes := #[] }, { accessFlags := 25, nameIndex := 280, descriptorIndex := 25, attributes := #[] }, { accessFlags := 25, nameIndex := 282, descriptorIndex := 25, attributes := #[] }, { accessFlags := 25, nameIndex := 284, descriptorIndex := 25, attributes := #[] }, { accessFlags := 25, nameIndex := 286, descriptorIndex := 25, attributes := #[] }, { accessFlags := 25, nameIndex := 288, descriptorIndex := 25, attributes := #[] }, { accessFlags := 25, nameIndex := 290, descriptorIndex := 25, attributes := #[] }, { accessFlags := 25, nameIndex := 292, descriptorIndex := 25, attributes := #[] }, { accessFlags := 26, nameIndex := 108, descriptorIndex := 109, attributes := #[] }, { accessFlags := 25, nameIndex := 294, descriptorIndex := 25, attributes := #[] }])
  fields := #[{ name := "U", type := (.object "jdk/internal/misc/Unsafe"), accessFlags := 24, slot := 0, constantValue := 0 }, { name := "BIG_ENDIAN", type := .boolean, accessFlags := 26, slot := 1, constantValue := 0 }, { name := "LOG2_ARRAY_BOOLEAN_INDEX_SCALE", type := .int, accessFlags := 25, slot := 2, constantValue := 0 }, { name := "LOG2_ARRAY_BYTE_INDEX_SCALE", type := .int, accessFlags := 25, slot := 3, constantValue := 0 }, { name := "LOG2_ARRAY_CHAR_INDEX_SCALE", type := .int, accessFlags := 25, slot := 4, constantValue := 0 }, { name := "LOG2_ARRAY_SHORT_INDEX_SCALE", type := .int, accessFlags := 25, slot := 5, constantValue := 0 }, { name := "LOG2_ARRAY_INT_INDEX_SCALE", type := .int, accessFlags := 25, slot := 6, constantValue := 0 }, { name := "LOG2_ARRAY_LONG_INDEX_SCALE", type := .int, accessFlags := 25, slot := 7, constantValue := 0 }, { name := "LOG2_ARRAY_FLOAT_INDEX_SCALE", type := .int, accessFlags := 25, slot := 8, constantValue := 0 }, { name := "LOG2_ARRAY_DOUBLE_INDEX_SCALE", type := .int, accessFlags := 25, slot := 9, constantValue := 0 }, { name := "LOG2_BYTE_BIT_SIZE", type := .int, accessFlags := 26, slot := 10, constantValue := 0 }, { name := "T_BOOLEAN", type := .int, accessFlags := 25, slot := 11, constantValue := 0 }, { name := "T_CHAR", type := .int, accessFlags := 25, slot := 12, constantValue := 0 }, { name := "T_FLOAT", type := .int, accessFlags := 25, slot := 13, constantValue := 0 }, { name := "T_DOUBLE", type := .int, accessFlags := 25, slot := 14, constantValue := 0 }, { name := "T_BYTE", type := .int, accessFlags := 25, slot := 15, constantValue := 0 }, { name := "T_SHORT", type := .int, accessFlags := 25, slot := 16, constantValue := 0 }, { name := "T_INT", type := .int, accessFlags := 25, slot := 17, constantValue := 0 }, { name := "T_LONG", type := .int, accessFlags := 25, slot := 18, constantValue := 0 }, { name := "JLA", type := (.object "jdk/internal/access/JavaLangAccess"), accessFlags := 26, slot := 19, constantValue := 0 }, { name := "SOFT_MAX_ARRAY_LENGTH", type := .int, accessFlags := 25, slot := 20, constantValue := 0 }]
  methods := #[k15m0]
  instanceTypes := #[]
  staticTypes := #[(.object "jdk/internal/misc/Unsafe"), .boolean, .int, .int, .int, .int, .int, .int, .int, .int, .int, .int, .int, .int, .int, .int, .int, .int, .int, (.object "jdk/internal/access/JavaLangAccess"), .int]
  resolved := Array.replicate 378 none
  statics := none }

def pool16 : Array CpInfo := pool [(1, u "java/lang/Cloneable"), (0, .class_ 1), (0, u "java/lang/Object"), (0, .class_ 3)] 3

/-- java/lang/Cloneable -/
def k16 : Class := { plain "java/lang/Cloneable" (some 0) with
  accessFlags := 1537
  interfaces := #[]
  cf := some (fileOf pool16 2 #[] #[] 1537 4 #[] #[])
  fields := #[]
  methods := #[]
  instanceTypes := #[]
  staticTypes := #[]
  resolved := Array.replicate 8 none
  statics := none }

/-- the primitive byte -/
def k17 : Class := { plain "byte" none with kind := .primitive 'B', accessFlags := 0x411 }
/-- [B -/
def k18 : Class := { plain "[B" (some 0) with kind := .array 17 .byte, interfaces := #[16, 6], accessFlags := 1041 }

/-- the primitive char -/
def k19 : Class := { plain "char" none with kind := .primitive 'C', accessFlags := 0x411 }
/-- [C -/
def k20 : Class := { plain "[C" (some 0) with kind := .array 19 .char, interfaces := #[16, 6], accessFlags := 1041 }

/-- the primitive int -/
def k21 : Class := { plain "int" none with kind := .primitive 'I', accessFlags := 0x411 }
/-- [I -/
def k22 : Class := { plain "[I" (some 0) with kind := .array 21 .int, interfaces := #[16, 6], accessFlags := 1041 }

/-- [[B -/
def k23 : Class := { plain "[[B" (some 0) with kind := .array 18 (.array .byte), interfaces := #[16, 6], accessFlags := 1041 }

/-- [[C -/
def k24 : Class := { plain "[[C" (some 0) with kind := .array 20 (.array .char), interfaces := #[16, 6], accessFlags := 1041 }

def heap : Heap := #[{ cls := 2, slots := #[.int 16, .int 65536, .int 65535], vm := .statics 2 },
  { cls := 11, slots := #[.long 0, .int 1, .null, .int 0, .null, .int 0, .int 0], vm := .statics 11 },
  { cls := 12, slots := #[.int 0, .int 8, .int 0, .int 1], vm := .statics 12 },
  { cls := 14, slots := #[.null, .null, .null], vm := .statics 14 }]
def classes : Array Class := #[k0, k1, k2, k3, k4, k5, k6, k7, k8, k9, k10, k11, k12, k13, k14, k15, k16, k17, k18, k19, k20, k21, k22, k23, k24]
def interned : List (Array UInt16 × Addr) := []
def slotsUsed : Nat := 17
def theMethod : MethodId := ⟨1, 2⟩
def args0 : Array Value := #[.int 5, .int 7, .int 300, .int 35, .int 3, .int 7]
def aboutOver (below : List Frame) : State where
  vm := { classes := classes, interned := interned.toArray }
  heap := heap
  slotsUsed := slotsUsed
  threads := #[{ frames := .invoking theMethod args0 :: below }]
def below0 : List Frame := [.native { method := ⟨0, 0⟩, args := #[] }]
def about1 : State := aboutOver below0
def p0 : Program := .bare "" "" ""
def e0 : Env := launch0.env 0 0 0
theorem w_frames : about1.frames = Frame.invoking theMethod args0 :: below0 := rfl
set_option maxRecDepth 65536 in
theorem w_args : argsFit about1.vm theMethod args0 = true := by decide +kernel
set_option maxRecDepth 65536 in
theorem w_heap : heapFits about1 = true := by decide +kernel
set_option maxRecDepth 65536 in
theorem w_runnable : about1.curStatus? = some .runnable := by decide +kernel
set_option maxRecDepth 65536 in
theorem w_alone : about1.alone = true := by decide +kernel
set_option maxRecDepth 65536 in
theorem w_named : about1.methodNamed? x = some theMethod := by decide +kernel
set_option maxRecDepth 65536 in
theorem w_hears : about1.hears theMethod below0 = true := by decide +kernel
set_option maxRecDepth 65536 in
theorem w_ripe : about1.ripe theMethod args0 below0 = true := by decide +kernel
theorem w_running : about1.status = .running := rfl
set_option maxRecDepth 65536 in
theorem w_room : about1.hasRoom e0.platform room_1 = true :=
  launch0.hasRoom_least _ room_1 (by decide +kernel) (by decide +kernel) (by decide +kernel) (by decide +kernel) (by decide +kernel) (by decide +kernel)
theorem allAtoms_all (ts : List Jvm.Cond) (a : Array Jvm.Value) (st : Jvm.State) : (allAtoms ts).before a st = ts.all (fun c => c.before a st) := by
  induction ts with
  | nil => rfl
  | cons c t ih =>
    show (Jvm.Cond.and c (allAtoms t)).before a st = _
    rw [Jvm.Cond.before_and, ih, List.all_cons]
def words1 : List Jvm.Cond := Jvm.Cond.code x code maxLocals ret :: tables_1
/-- a 'code' word, met by the world's own term for the bytes: nothing is compared byte by byte -/
theorem code_word {y : MethodName} {bytes : ByteArray} {mx : Nat} {rt : Option FieldType} {a : Array Value} {s : State} {m : MethodId} {meth : Method} {c : Code} (h1 : s.methodNamed? y = some m) (h2 : s.vm.method? m = some meth) (h3 : meth.code = some c) (h4 : c.code = bytes)
    (h5 : (c.maxLocals == mx && c.exceptionTable.isEmpty && decide (c.maxStack ≤ mostOperands) && decide (meth.sig.returnType = rt) && !meth.locks && decide (parseMethodDescriptor y.desc = some meth.sig)) = true) : (Jvm.Cond.code y bytes mx rt).before a s = true := by
  simp only [Bool.and_eq_true, beq_iff_eq, Bool.not_eq_true', decide_eq_true_eq] at h5
  obtain ⟨⟨⟨⟨⟨g1, g2⟩, g3⟩, g4⟩, g5⟩, g6⟩ := h5
  simp [Cond.before, Cond.holds, Cond.value, h1, h2, h3, h4, g1, g2, g3, g4, g5, g6]
def isCode : Jvm.Cond → Bool
  | .code _ _ _ _ => true
  | _ => false
theorem all_split {L : List Jvm.Cond} {P : Jvm.Cond → Bool} (h1 : L.all (fun c => isCode c || P c) = true) (h2 : ∀ c ∈ L.filter isCode, P c = true) : L.all P = true := by
  refine List.all_eq_true.mpr fun c hc => ?_
  have h := List.all_eq_true.mp h1 c hc
  rcases Bool.eq_false_or_eq_true (isCode c) with hi | hi
  · exact h2 c (List.mem_filter.mpr ⟨hc, hi⟩)
  · simpa [hi] using h
set_option maxRecDepth 65536 in
theorem w_c0 : (Jvm.Cond.code x code maxLocals ret).before args0 about1 = true := code_word (m := ⟨1, 2⟩) (meth := k1m2) (c := k1c2) (by decide +kernel) rfl rfl rfl (by decide +kernel)
set_option maxRecDepth 65536 in
theorem w_c1 : (Jvm.Cond.code ({ cls := "com/example/imprint/imprint/tree/PagedText", name := "<init>", desc := "(I)V" } : Jvm.MethodName) prog_89_method_1_code (2 : Nat) (Option.none : Option Jvm.ClassFile.FieldType)).before args0 about1 = true := code_word (m := ⟨2, 0⟩) (meth := k2m0) (c := k2c0) (by decide +kernel) rfl rfl rfl (by decide +kernel)
set_option maxRecDepth 65536 in
theorem w_c2 : (Jvm.Cond.code ({ cls := "java/lang/Object", name := "<init>", desc := "()V" } : Jvm.MethodName) object_method_1_code (1 : Nat) (Option.none : Option Jvm.ClassFile.FieldType)).before args0 about1 = true := code_word (m := ⟨0, 0⟩) (meth := k0m0) (c := k0c0) (by decide +kernel) rfl rfl rfl (by decide +kernel)
set_option maxRecDepth 65536 in
theorem w_c3 : (Jvm.Cond.code ({ cls := "com/example/imprint/imprint/tree/PagedText", name := "bytes", desc := "()J" } : Jvm.MethodName) prog_89_method_3_code (5 : Nat) (Option.some Jvm.ClassFile.FieldType.long)).before args0 about1 = true := code_word (m := ⟨2, 1⟩) (meth := k2m1) (c := k2c1) (by decide +kernel) rfl rfl rfl (by decide +kernel)
set_option maxRecDepth 65536 in
theorem w_c4 : (Jvm.Cond.code ({ cls := "com/example/imprint/imprint/tree/PagedText", name := "append", desc := "([CII)V" } : Jvm.MethodName) prog_89_method_4_code (4 : Nat) (Option.none : Option Jvm.ClassFile.FieldType)).before args0 about1 = true := code_word (m := ⟨2, 2⟩) (meth := k2m2) (c := k2c2) (by decide +kernel) rfl rfl rfl (by decide +kernel)
set_option maxRecDepth 65536 in
theorem w_c5 : (Jvm.Cond.code ({ cls := "com/example/imprint/imprint/tree/PagedText", name := "appendFrom", desc := "([CLjava/lang/String;II)V" } : Jvm.MethodName) prog_89_method_9_code (13 : Nat) (Option.none : Option Jvm.ClassFile.FieldType)).before args0 about1 = true := code_word (m := ⟨2, 4⟩) (meth := k2m4) (c := k2c4) (by decide +kernel) rfl rfl rfl (by decide +kernel)
set_option maxRecDepth 65536 in
theorem w_c6 : (Jvm.Cond.code ({ cls := "com/example/imprint/imprint/tree/PagedText", name := "grow", desc := "(I)V" } : Jvm.MethodName) prog_89_method_12_code (2 : Nat) (Option.none : Option Jvm.ClassFile.FieldType)).before args0 about1 = true := code_word (m := ⟨2, 7⟩) (meth := k2m7) (c := k2c7) (by decide +kernel) rfl rfl rfl (by decide +kernel)
set_option maxRecDepth 65536 in
theorem w_c7 : (Jvm.Cond.code ({ cls := "java/lang/Math", name := "max", desc := "(II)I" } : Jvm.MethodName) jdk_29_method_65_code (2 : Nat) (Option.some Jvm.ClassFile.FieldType.int)).before args0 about1 = true := code_word (m := ⟨3, 1⟩) (meth := k3m1) (c := k3c1) (by decide +kernel) rfl rfl rfl (by decide +kernel)
set_option maxRecDepth 65536 in
theorem w_c8 : (Jvm.Cond.code ({ cls := "java/lang/Math", name := "min", desc := "(II)I" } : Jvm.MethodName) jdk_29_method_69_code (2 : Nat) (Option.some Jvm.ClassFile.FieldType.int)).before args0 about1 = true := code_word (m := ⟨3, 2⟩) (meth := k3m2) (c := k3c2) (by decide +kernel) rfl rfl rfl (by decide +kernel)
set_option maxRecDepth 65536 in
theorem w_c9 : (Jvm.Cond.code ({ cls := "java/util/Arrays", name := "copyOf", desc := "([BI)[B" } : Jvm.MethodName) jdk_65_method_121_code (3 : Nat) (Option.some (Jvm.ClassFile.FieldType.array Jvm.ClassFile.FieldType.byte))).before args0 about1 = true := code_word (m := ⟨4, 1⟩) (meth := k4m1) (c := k4c1) (by decide +kernel) rfl rfl rfl (by decide +kernel)
set_option maxRecDepth 65536 in
theorem w_c10 : (Jvm.Cond.code ({ cls := "com/example/imprint/imprint/tree/PagedText", name := "pageLength", desc := "(I)I" } : Jvm.MethodName) prog_89_method_10_code (3 : Nat) (Option.some Jvm.ClassFile.FieldType.int)).before args0 about1 = true := code_word (m := ⟨2, 5⟩) (meth := k2m5) (c := k2c5) (by decide +kernel) rfl rfl rfl (by decide +kernel)
set_option maxRecDepth 65536 in
theorem w_c11 : (Jvm.Cond.code ({ cls := "com/example/imprint/imprint/tree/PagedTextBytesPinLaw", name := "anyWide", desc := "([CI)Z" } : Jvm.MethodName) method_2_code (2 : Nat) (Option.some Jvm.ClassFile.FieldType.boolean)).before args0 about1 = true := code_word (m := ⟨1, 1⟩) (meth := k1m1) (c := k1c1) (by decide +kernel) rfl rfl rfl (by decide +kernel)
set_option maxRecDepth 65536 in
theorem w_c12 : (Jvm.Cond.code ({ cls := "java/lang/String", name := "<init>", desc := "([C)V" } : Jvm.MethodName) jdk_42_method_3_code (2 : Nat) (Option.none : Option Jvm.ClassFile.FieldType)).before args0 about1 = true := code_word (m := ⟨11, 1⟩) (meth := k11m1) (c := k11c1) (by decide +kernel) rfl rfl rfl (by decide +kernel)
set_option maxRecDepth 65536 in
theorem w_c13 : (Jvm.Cond.code ({ cls := "java/lang/String", name := "<init>", desc := "([CIILjava/lang/Void;)V" } : Jvm.MethodName) jdk_42_method_149_code (6 : Nat) (Option.none : Option Jvm.ClassFile.FieldType)).before args0 about1 = true := code_word (m := ⟨11, 5⟩) (meth := k11m5) (c := k11c5) (by decide +kernel) rfl rfl rfl (by decide +kernel)
set_option maxRecDepth 65536 in
theorem w_c14 : (Jvm.Cond.code ({ cls := "java/lang/StringUTF16", name := "compress", desc := "([CII)[B" } : Jvm.MethodName) jdk_52_method_16_code (6 : Nat) (Option.some (Jvm.ClassFile.FieldType.array Jvm.ClassFile.FieldType.byte))).before args0 about1 = true := code_word (m := ⟨12, 8⟩) (meth := k12m8) (c := k12c8) (by decide +kernel) rfl rfl rfl (by decide +kernel)
set_option maxRecDepth 65536 in
theorem w_c15 : (Jvm.Cond.code ({ cls := "java/lang/StringUTF16", name := "compress", desc := "([CI[BII)I" } : Jvm.MethodName) jdk_52_method_21_code (7 : Nat) (Option.some Jvm.ClassFile.FieldType.int)).before args0 about1 = true := code_word (m := ⟨12, 9⟩) (meth := k12m9) (c := k12c9) (by decide +kernel) rfl rfl rfl (by decide +kernel)
set_option maxRecDepth 65536 in
theorem w_c16 : (Jvm.Cond.code ({ cls := "java/lang/StringUTF16", name := "coderFromArrayLen", desc := "([BI)B" } : Jvm.MethodName) jdk_52_method_15_code (2 : Nat) (Option.some Jvm.ClassFile.FieldType.byte)).before args0 about1 = true := code_word (m := ⟨12, 7⟩) (meth := k12m7) (c := k12c7) (by decide +kernel) rfl rfl rfl (by decide +kernel)
set_option maxRecDepth 65536 in
theorem w_c17 : (Jvm.Cond.code ({ cls := "com/example/imprint/imprint/tree/PagedText", name := "append", desc := "(Ljava/lang/String;)V" } : Jvm.MethodName) prog_89_method_5_code (2 : Nat) (Option.none : Option Jvm.ClassFile.FieldType)).before args0 about1 = true := code_word (m := ⟨2, 3⟩) (meth := k2m3) (c := k2c3) (by decide +kernel) rfl rfl rfl (by decide +kernel)
set_option maxRecDepth 65536 in
theorem w_c18 : (Jvm.Cond.code ({ cls := "java/lang/String", name := "length", desc := "()I" } : Jvm.MethodName) jdk_42_method_54_code (1 : Nat) (Option.some Jvm.ClassFile.FieldType.int)).before args0 about1 = true := code_word (m := ⟨11, 2⟩) (meth := k11m2) (c := k11c2) (by decide +kernel) rfl rfl rfl (by decide +kernel)
set_option maxRecDepth 65536 in
theorem w_c19 : (Jvm.Cond.code ({ cls := "java/lang/String", name := "coder", desc := "()B" } : Jvm.MethodName) jdk_42_method_152_code (1 : Nat) (Option.some Jvm.ClassFile.FieldType.byte)).before args0 about1 = true := code_word (m := ⟨11, 6⟩) (meth := k11m6) (c := k11c6) (by decide +kernel) rfl rfl rfl (by decide +kernel)
set_option maxRecDepth 65536 in
theorem w_c20 : (Jvm.Cond.code ({ cls := "java/lang/String", name := "charAt", desc := "(I)C" } : Jvm.MethodName) jdk_42_method_56_code (2 : Nat) (Option.some Jvm.ClassFile.FieldType.char)).before args0 about1 = true := code_word (m := ⟨11, 3⟩) (meth := k11m3) (c := k11c3) (by decide +kernel) rfl rfl rfl (by decide +kernel)
set_option maxRecDepth 65536 in
theorem w_c21 : (Jvm.Cond.code ({ cls := "java/lang/String", name := "isLatin1", desc := "()Z" } : Jvm.MethodName) jdk_42_method_154_code (1 : Nat) (Option.some Jvm.ClassFile.FieldType.boolean)).before args0 about1 = true := code_word (m := ⟨11, 7⟩) (meth := k11m7) (c := k11c7) (by decide +kernel) rfl rfl rfl (by decide +kernel)
set_option maxRecDepth 65536 in
theorem w_c22 : (Jvm.Cond.code ({ cls := "java/lang/StringLatin1", name := "charAt", desc := "([BI)C" } : Jvm.MethodName) jdk_43_method_2_code (2 : Nat) (Option.some Jvm.ClassFile.FieldType.char)).before args0 about1 = true := code_word (m := ⟨13, 1⟩) (meth := k13m1) (c := k13c1) (by decide +kernel) rfl rfl rfl (by decide +kernel)
set_option maxRecDepth 65536 in
theorem w_c23 : (Jvm.Cond.code ({ cls := "java/lang/String", name := "checkIndex", desc := "(II)V" } : Jvm.MethodName) jdk_42_method_155_code (2 : Nat) (Option.none : Option Jvm.ClassFile.FieldType)).before args0 about1 = true := code_word (m := ⟨11, 8⟩) (meth := k11m8) (c := k11c8) (by decide +kernel) rfl rfl rfl (by decide +kernel)
set_option maxRecDepth 65536 in
theorem w_c24 : (Jvm.Cond.code ({ cls := "jdk/internal/util/Preconditions", name := "checkIndex", desc := "(IILjava/util/function/BiFunction;)I" } : Jvm.MethodName) jdk_41_method_11_code (3 : Nat) (Option.some Jvm.ClassFile.FieldType.int)).before args0 about1 = true := code_word (m := ⟨14, 1⟩) (meth := k14m1) (c := k14c1) (by decide +kernel) rfl rfl rfl (by decide +kernel)
set_option maxRecDepth 65536 in
theorem w_c25 : (Jvm.Cond.code ({ cls := "com/example/imprint/imprint/tree/PagedText", name := "widen", desc := "(I)V" } : Jvm.MethodName) prog_89_method_11_code (5 : Nat) (Option.none : Option Jvm.ClassFile.FieldType)).before args0 about1 = true := code_word (m := ⟨2, 6⟩) (meth := k2m6) (c := k2c6) (by decide +kernel) rfl rfl rfl (by decide +kernel)
set_option maxRecDepth 65536 in
theorem w_c26 : (Jvm.Cond.code ({ cls := "java/lang/StringUTF16", name := "toBytes", desc := "([CII)[B" } : Jvm.MethodName) jdk_52_method_14_code (5 : Nat) (Option.some (Jvm.ClassFile.FieldType.array Jvm.ClassFile.FieldType.byte))).before args0 about1 = true := code_word (m := ⟨12, 6⟩) (meth := k12m6) (c := k12c6) (by decide +kernel) rfl rfl rfl (by decide +kernel)
set_option maxRecDepth 65536 in
theorem w_c27 : (Jvm.Cond.code ({ cls := "java/lang/StringUTF16", name := "newBytesFor", desc := "(I)[B" } : Jvm.MethodName) jdk_52_method_2_code (1 : Nat) (Option.some (Jvm.ClassFile.FieldType.array Jvm.ClassFile.FieldType.byte))).before args0 about1 = true := code_word (m := ⟨12, 1⟩) (meth := k12m1) (c := k12c1) (by decide +kernel) rfl rfl rfl (by decide +kernel)
set_option maxRecDepth 65536 in
theorem w_c28 : (Jvm.Cond.code ({ cls := "java/lang/StringUTF16", name := "newBytesLength", desc := "(I)I" } : Jvm.MethodName) jdk_52_method_3_code (1 : Nat) (Option.some Jvm.ClassFile.FieldType.int)).before args0 about1 = true := code_word (m := ⟨12, 2⟩) (meth := k12m2) (c := k12c2) (by decide +kernel) rfl rfl rfl (by decide +kernel)
set_option maxRecDepth 65536 in
theorem w_c29 : (Jvm.Cond.code ({ cls := "java/lang/StringUTF16", name := "putChar", desc := "([BII)V" } : Jvm.MethodName) jdk_52_method_4_code (3 : Nat) (Option.none : Option Jvm.ClassFile.FieldType)).before args0 about1 = true := code_word (m := ⟨12, 3⟩) (meth := k12m3) (c := k12c3) (by decide +kernel) rfl rfl rfl (by decide +kernel)
set_option maxRecDepth 65536 in
theorem w_c30 : (Jvm.Cond.code ({ cls := "java/lang/StringUTF16", name := "getChar", desc := "([BI)C" } : Jvm.MethodName) jdk_52_method_5_code (2 : Nat) (Option.some Jvm.ClassFile.FieldType.char)).before args0 about1 = true := code_word (m := ⟨12, 4⟩) (meth := k12m4) (c := k12c4) (by decide +kernel) rfl rfl rfl (by decide +kernel)
set_option maxRecDepth 65536 in
theorem w_c31 : (Jvm.Cond.code ({ cls := "java/lang/String", name := "getChars", desc := "(II[CI)V" } : Jvm.MethodName) jdk_42_method_61_code (5 : Nat) (Option.none : Option Jvm.ClassFile.FieldType)).before args0 about1 = true := code_word (m := ⟨11, 4⟩) (meth := k11m4) (c := k11c4) (by decide +kernel) rfl rfl rfl (by decide +kernel)
set_option maxRecDepth 65536 in
theorem w_c32 : (Jvm.Cond.code ({ cls := "java/lang/String", name := "checkBoundsBeginEnd", desc := "(III)V" } : Jvm.MethodName) jdk_42_method_158_code (3 : Nat) (Option.none : Option Jvm.ClassFile.FieldType)).before args0 about1 = true := code_word (m := ⟨11, 10⟩) (meth := k11m10) (c := k11c10) (by decide +kernel) rfl rfl rfl (by decide +kernel)
set_option maxRecDepth 65536 in
theorem w_c33 : (Jvm.Cond.code ({ cls := "jdk/internal/util/Preconditions", name := "checkFromToIndex", desc := "(IIILjava/util/function/BiFunction;)I" } : Jvm.MethodName) jdk_41_method_12_code (4 : Nat) (Option.some Jvm.ClassFile.FieldType.int)).before args0 about1 = true := code_word (m := ⟨14, 2⟩) (meth := k14m2) (c := k14c2) (by decide +kernel) rfl rfl rfl (by decide +kernel)
set_option maxRecDepth 65536 in
theorem w_c34 : (Jvm.Cond.code ({ cls := "java/lang/String", name := "checkBoundsOffCount", desc := "(III)I" } : Jvm.MethodName) jdk_42_method_157_code (3 : Nat) (Option.some Jvm.ClassFile.FieldType.int)).before args0 about1 = true := code_word (m := ⟨11, 9⟩) (meth := k11m9) (c := k11c9) (by decide +kernel) rfl rfl rfl (by decide +kernel)
set_option maxRecDepth 65536 in
theorem w_c35 : (Jvm.Cond.code ({ cls := "jdk/internal/util/Preconditions", name := "checkFromIndexSize", desc := "(IIILjava/util/function/BiFunction;)I" } : Jvm.MethodName) jdk_41_method_13_code (4 : Nat) (Option.some Jvm.ClassFile.FieldType.int)).before args0 about1 = true := code_word (m := ⟨14, 3⟩) (meth := k14m3) (c := k14c3) (by decide +kernel) rfl rfl rfl (by decide +kernel)
set_option maxRecDepth 65536 in
theorem w_c36 : (Jvm.Cond.code ({ cls := "java/lang/StringUTF16", name := "getChars", desc := "([BII[CI)V" } : Jvm.MethodName) jdk_52_method_26_code (6 : Nat) (Option.none : Option Jvm.ClassFile.FieldType)).before args0 about1 = true := code_word (m := ⟨12, 10⟩) (meth := k12m10) (c := k12c10) (by decide +kernel) rfl rfl rfl (by decide +kernel)
set_option maxRecDepth 65536 in
theorem w_c37 : (Jvm.Cond.code ({ cls := "java/lang/StringUTF16", name := "checkBoundsOffCount", desc := "(II[B)V" } : Jvm.MethodName) jdk_52_method_94_code (3 : Nat) (Option.none : Option Jvm.ClassFile.FieldType)).before args0 about1 = true := code_word (m := ⟨12, 13⟩) (meth := k12m13) (c := k12c13) (by decide +kernel) rfl rfl rfl (by decide +kernel)
set_option maxRecDepth 65536 in
theorem w_c38 : (Jvm.Cond.code ({ cls := "java/lang/StringUTF16", name := "length", desc := "([B)I" } : Jvm.MethodName) jdk_52_method_6_code (1 : Nat) (Option.some Jvm.ClassFile.FieldType.int)).before args0 about1 = true := code_word (m := ⟨12, 5⟩) (meth := k12m5) (c := k12c5) (by decide +kernel) rfl rfl rfl (by decide +kernel)
set_option maxRecDepth 65536 in
theorem w_c39 : (Jvm.Cond.code ({ cls := "java/util/Arrays", name := "copyOf", desc := "([CI)[C" } : Jvm.MethodName) jdk_65_method_125_code (3 : Nat) (Option.some (Jvm.ClassFile.FieldType.array Jvm.ClassFile.FieldType.char))).before args0 about1 = true := code_word (m := ⟨4, 2⟩) (meth := k4m2) (c := k4c2) (by decide +kernel) rfl rfl rfl (by decide +kernel)
set_option maxRecDepth 65536 in
theorem w_c40 : (Jvm.Cond.code ({ cls := "java/lang/StringUTF16", name := "charAt", desc := "([BI)C" } : Jvm.MethodName) jdk_52_method_83_code (2 : Nat) (Option.some Jvm.ClassFile.FieldType.char)).before args0 about1 = true := code_word (m := ⟨12, 11⟩) (meth := k12m11) (c := k12c11) (by decide +kernel) rfl rfl rfl (by decide +kernel)
set_option maxRecDepth 65536 in
theorem w_c41 : (Jvm.Cond.code ({ cls := "java/lang/StringUTF16", name := "checkIndex", desc := "(I[B)V" } : Jvm.MethodName) jdk_52_method_91_code (2 : Nat) (Option.none : Option Jvm.ClassFile.FieldType)).before args0 about1 = true := code_word (m := ⟨12, 12⟩) (meth := k12m12) (c := k12c12) (by decide +kernel) rfl rfl rfl (by decide +kernel)
set_option maxRecDepth 65536 in
theorem w_c42 : (Jvm.Cond.code ({ cls := "java/lang/StringLatin1", name := "getChars", desc := "([BII[CI)V" } : Jvm.MethodName) jdk_43_method_11_code (5 : Nat) (Option.none : Option Jvm.ClassFile.FieldType)).before args0 about1 = true := code_word (m := ⟨13, 2⟩) (meth := k13m2) (c := k13c2) (by decide +kernel) rfl rfl rfl (by decide +kernel)
set_option maxRecDepth 65536 in
theorem w_c43 : (Jvm.Cond.code ({ cls := "java/lang/StringLatin1", name := "inflate", desc := "([BI[CII)V" } : Jvm.MethodName) jdk_43_method_49_code (6 : Nat) (Option.none : Option Jvm.ClassFile.FieldType)).before args0 about1 = true := code_word (m := ⟨13, 3⟩) (meth := k13m3) (c := k13c3) (by decide +kernel) rfl rfl rfl (by decide +kernel)
def codes1 : List Jvm.Cond := [Jvm.Cond.code x code maxLocals ret, Jvm.Cond.code ({ cls := "com/example/imprint/imprint/tree/PagedText", name := "<init>", desc := "(I)V" } : Jvm.MethodName) prog_89_method_1_code (2 : Nat) (Option.none : Option Jvm.ClassFile.FieldType), Jvm.Cond.code ({ cls := "java/lang/Object", name := "<init>", desc := "()V" } : Jvm.MethodName) object_method_1_code (1 : Nat) (Option.none : Option Jvm.ClassFile.FieldType), Jvm.Cond.code ({ cls := "com/example/imprint/imprint/tree/PagedText", name := "bytes", desc := "()J" } : Jvm.MethodName) prog_89_method_3_code (5 : Nat) (Option.some Jvm.ClassFile.FieldType.long), Jvm.Cond.code ({ cls := "com/example/imprint/imprint/tree/PagedText", name := "append", desc := "([CII)V" } : Jvm.MethodName) prog_89_method_4_code (4 : Nat) (Option.none : Option Jvm.ClassFile.FieldType), Jvm.Cond.code ({ cls := "com/example/imprint/imprint/tree/PagedText", name := "appendFrom", desc := "([CLjava/lang/String;II)V" } : Jvm.MethodName) prog_89_method_9_code (13 : Nat) (Option.none : Option Jvm.ClassFile.FieldType), Jvm.Cond.code ({ cls := "com/example/imprint/imprint/tree/PagedText", name := "grow", desc := "(I)V" } : Jvm.MethodName) prog_89_method_12_code (2 : Nat) (Option.none : Option Jvm.ClassFile.FieldType), Jvm.Cond.code ({ cls := "java/lang/Math", name := "max", desc := "(II)I" } : Jvm.MethodName) jdk_29_method_65_code (2 : Nat) (Option.some Jvm.ClassFile.FieldType.int), Jvm.Cond.code ({ cls := "java/lang/Math", name := "min", desc := "(II)I" } : Jvm.MethodName) jdk_29_method_69_code (2 : Nat) (Option.some Jvm.ClassFile.FieldType.int), Jvm.Cond.code ({ cls := "java/util/Arrays", name := "copyOf", desc := "([BI)[B" } : Jvm.MethodName) jdk_65_method_121_code (3 : Nat) (Option.some (Jvm.ClassFile.FieldType.array Jvm.ClassFile.FieldType.byte)), Jvm.Cond.code ({ cls := "com/example/imprint/imprint/tree/PagedText", name := "pageLength", desc := "(I)I" } : Jvm.MethodName) prog_89_method_10_code (3 : Nat) (Option.some Jvm.ClassFile.FieldType.int), Jvm.Cond.code ({ cls := "com/example/imprint/imprint/tree/PagedTextBytesPinLaw", name := "anyWide", desc := "([CI)Z" } : Jvm.MethodName) method_2_code (2 : Nat) (Option.some Jvm.ClassFile.FieldType.boolean), Jvm.Cond.code ({ cls := "java/lang/String", name := "<init>", desc := "([C)V" } : Jvm.MethodName) jdk_42_method_3_code (2 : Nat) (Option.none : Option Jvm.ClassFile.FieldType), Jvm.Cond.code ({ cls := "java/lang/String", name := "<init>", desc := "([CIILjava/lang/Void;)V" } : Jvm.MethodName) jdk_42_method_149_code (6 : Nat) (Option.none : Option Jvm.ClassFile.FieldType), Jvm.Cond.code ({ cls := "java/lang/StringUTF16", name := "compress", desc := "([CII)[B" } : Jvm.MethodName) jdk_52_method_16_code (6 : Nat) (Option.some (Jvm.ClassFile.FieldType.array Jvm.ClassFile.FieldType.byte)), Jvm.Cond.code ({ cls := "java/lang/StringUTF16", name := "compress", desc := "([CI[BII)I" } : Jvm.MethodName) jdk_52_method_21_code (7 : Nat) (Option.some Jvm.ClassFile.FieldType.int), Jvm.Cond.code ({ cls := "java/lang/StringUTF16", name := "coderFromArrayLen", desc := "([BI)B" } : Jvm.MethodName) jdk_52_method_15_code (2 : Nat) (Option.some Jvm.ClassFile.FieldType.byte), Jvm.Cond.code ({ cls := "com/example/imprint/imprint/tree/PagedText", name := "append", desc := "(Ljava/lang/String;)V" } : Jvm.MethodName) prog_89_method_5_code (2 : Nat) (Option.none : Option Jvm.ClassFile.FieldType), Jvm.Cond.code ({ cls := "java/lang/String", name := "length", desc := "()I" } : Jvm.MethodName) jdk_42_method_54_code (1 : Nat) (Option.some Jvm.ClassFile.FieldType.int), Jvm.Cond.code ({ cls := "java/lang/String", name := "coder", desc := "()B" } : Jvm.MethodName) jdk_42_method_152_code (1 : Nat) (Option.some Jvm.ClassFile.FieldType.byte), Jvm.Cond.code ({ cls := "java/lang/String", name := "charAt", desc := "(I)C" } : Jvm.MethodName) jdk_42_method_56_code (2 : Nat) (Option.some Jvm.ClassFile.FieldType.char), Jvm.Cond.code ({ cls := "java/lang/String", name := "isLatin1", desc := "()Z" } : Jvm.MethodName) jdk_42_method_154_code (1 : Nat) (Option.some Jvm.ClassFile.FieldType.boolean), Jvm.Cond.code ({ cls := "java/lang/StringLatin1", name := "charAt", desc := "([BI)C" } : Jvm.MethodName) jdk_43_method_2_code (2 : Nat) (Option.some Jvm.ClassFile.FieldType.char), Jvm.Cond.code ({ cls := "java/lang/String", name := "checkIndex", desc := "(II)V" } : Jvm.MethodName) jdk_42_method_155_code (2 : Nat) (Option.none : Option Jvm.ClassFile.FieldType), Jvm.Cond.code ({ cls := "jdk/internal/util/Preconditions", name := "checkIndex", desc := "(IILjava/util/function/BiFunction;)I" } : Jvm.MethodName) jdk_41_method_11_code (3 : Nat) (Option.some Jvm.ClassFile.FieldType.int), Jvm.Cond.code ({ cls := "com/example/imprint/imprint/tree/PagedText", name := "widen", desc := "(I)V" } : Jvm.MethodName) prog_89_method_11_code (5 : Nat) (Option.none : Option Jvm.ClassFile.FieldType), Jvm.Cond.code ({ cls := "java/lang/StringUTF16", name := "toBytes", desc := "([CII)[B" } : Jvm.MethodName) jdk_52_method_14_code (5 : Nat) (Option.some (Jvm.ClassFile.FieldType.array Jvm.ClassFile.FieldType.byte)), Jvm.Cond.code ({ cls := "java/lang/StringUTF16", name := "newBytesFor", desc := "(I)[B" } : Jvm.MethodName) jdk_52_method_2_code (1 : Nat) (Option.some (Jvm.ClassFile.FieldType.array Jvm.ClassFile.FieldType.byte)), Jvm.Cond.code ({ cls := "java/lang/StringUTF16", name := "newBytesLength", desc := "(I)I" } : Jvm.MethodName) jdk_52_method_3_code (1 : Nat) (Option.some Jvm.ClassFile.FieldType.int), Jvm.Cond.code ({ cls := "java/lang/StringUTF16", name := "putChar", desc := "([BII)V" } : Jvm.MethodName) jdk_52_method_4_code (3 : Nat) (Option.none : Option Jvm.ClassFile.FieldType), Jvm.Cond.code ({ cls := "java/lang/StringUTF16", name := "getChar", desc := "([BI)C" } : Jvm.MethodName) jdk_52_method_5_code (2 : Nat) (Option.some Jvm.ClassFile.FieldType.char), Jvm.Cond.code ({ cls := "java/lang/String", name := "getChars", desc := "(II[CI)V" } : Jvm.MethodName) jdk_42_method_61_code (5 : Nat) (Option.none : Option Jvm.ClassFile.FieldType), Jvm.Cond.code ({ cls := "java/lang/String", name := "checkBoundsBeginEnd", desc := "(III)V" } : Jvm.MethodName) jdk_42_method_158_code (3 : Nat) (Option.none : Option Jvm.ClassFile.FieldType), Jvm.Cond.code ({ cls := "jdk/internal/util/Preconditions", name := "checkFromToIndex", desc := "(IIILjava/util/function/BiFunction;)I" } : Jvm.MethodName) jdk_41_method_12_code (4 : Nat) (Option.some Jvm.ClassFile.FieldType.int), Jvm.Cond.code ({ cls := "java/lang/String", name := "checkBoundsOffCount", desc := "(III)I" } : Jvm.MethodName) jdk_42_method_157_code (3 : Nat) (Option.some Jvm.ClassFile.FieldType.int), Jvm.Cond.code ({ cls := "jdk/internal/util/Preconditions", name := "checkFromIndexSize", desc := "(IIILjava/util/function/BiFunction;)I" } : Jvm.MethodName) jdk_41_method_13_code (4 : Nat) (Option.some Jvm.ClassFile.FieldType.int), Jvm.Cond.code ({ cls := "java/lang/StringUTF16", name := "getChars", desc := "([BII[CI)V" } : Jvm.MethodName) jdk_52_method_26_code (6 : Nat) (Option.none : Option Jvm.ClassFile.FieldType), Jvm.Cond.code ({ cls := "java/lang/StringUTF16", name := "checkBoundsOffCount", desc := "(II[B)V" } : Jvm.MethodName) jdk_52_method_94_code (3 : Nat) (Option.none : Option Jvm.ClassFile.FieldType), Jvm.Cond.code ({ cls := "java/lang/StringUTF16", name := "length", desc := "([B)I" } : Jvm.MethodName) jdk_52_method_6_code (1 : Nat) (Option.some Jvm.ClassFile.FieldType.int), Jvm.Cond.code ({ cls := "java/util/Arrays", name := "copyOf", desc := "([CI)[C" } : Jvm.MethodName) jdk_65_method_125_code (3 : Nat) (Option.some (Jvm.ClassFile.FieldType.array Jvm.ClassFile.FieldType.char)), Jvm.Cond.code ({ cls := "java/lang/StringUTF16", name := "charAt", desc := "([BI)C" } : Jvm.MethodName) jdk_52_method_83_code (2 : Nat) (Option.some Jvm.ClassFile.FieldType.char), Jvm.Cond.code ({ cls := "java/lang/StringUTF16", name := "checkIndex", desc := "(I[B)V" } : Jvm.MethodName) jdk_52_method_91_code (2 : Nat) (Option.none : Option Jvm.ClassFile.FieldType), Jvm.Cond.code ({ cls := "java/lang/StringLatin1", name := "getChars", desc := "([BII[CI)V" } : Jvm.MethodName) jdk_43_method_11_code (5 : Nat) (Option.none : Option Jvm.ClassFile.FieldType), Jvm.Cond.code ({ cls := "java/lang/StringLatin1", name := "inflate", desc := "([BI[CII)V" } : Jvm.MethodName) jdk_43_method_49_code (6 : Nat) (Option.none : Option Jvm.ClassFile.FieldType)]
set_option maxRecDepth 65536 in
theorem codes_eq : words1.filter isCode = codes1 := rfl
theorem w_codes : ∀ c ∈ words1.filter isCode, c.before args0 about1 = true := by
  rw [codes_eq]
  intro c hc
  simp only [codes1, List.mem_cons, List.not_mem_nil, or_false] at hc
  rcases hc with rfl | rfl | rfl | rfl | rfl | rfl | rfl | rfl | rfl | rfl | rfl | rfl | rfl | rfl | rfl | rfl | rfl | rfl | rfl | rfl | rfl | rfl | rfl | rfl | rfl | rfl | rfl | rfl | rfl | rfl | rfl | rfl | rfl | rfl | rfl | rfl | rfl | rfl | rfl | rfl | rfl | rfl | rfl | rfl
  · exact w_c0
  · exact w_c1
  · exact w_c2
  · exact w_c3
  · exact w_c4
  · exact w_c5
  · exact w_c6
  · exact w_c7
  · exact w_c8
  · exact w_c9
  · exact w_c10
  · exact w_c11
  · exact w_c12
  · exact w_c13
  · exact w_c14
  · exact w_c15
  · exact w_c16
  · exact w_c17
  · exact w_c18
  · exact w_c19
  · exact w_c20
  · exact w_c21
  · exact w_c22
  · exact w_c23
  · exact w_c24
  · exact w_c25
  · exact w_c26
  · exact w_c27
  · exact w_c28
  · exact w_c29
  · exact w_c30
  · exact w_c31
  · exact w_c32
  · exact w_c33
  · exact w_c34
  · exact w_c35
  · exact w_c36
  · exact w_c37
  · exact w_c38
  · exact w_c39
  · exact w_c40
  · exact w_c41
  · exact w_c42
  · exact w_c43
set_option maxRecDepth 65536 in
theorem w_t1 : (words1.take 24).all (fun c => isCode c || c.before args0 about1) = true := by decide +kernel
set_option maxRecDepth 65536 in
theorem w_t2 : ((words1.drop 24).take 24).all (fun c => isCode c || c.before args0 about1) = true := by decide +kernel
set_option maxRecDepth 65536 in
theorem w_t3 : (((words1.drop 24).drop 24).take 24).all (fun c => isCode c || c.before args0 about1) = true := by decide +kernel
set_option maxRecDepth 65536 in
theorem w_t4 : ((((words1.drop 24).drop 24).drop 24).take 24).all (fun c => isCode c || c.before args0 about1) = true := by decide +kernel
set_option maxRecDepth 65536 in
theorem w_t5 : (((((words1.drop 24).drop 24).drop 24).drop 24).take 24).all (fun c => isCode c || c.before args0 about1) = true := by decide +kernel
set_option maxRecDepth 65536 in
theorem w_t6 : ((((((words1.drop 24).drop 24).drop 24).drop 24).drop 24).take 24).all (fun c => isCode c || c.before args0 about1) = true := by decide +kernel
set_option maxRecDepth 65536 in
theorem w_t7 : (((((((words1.drop 24).drop 24).drop 24).drop 24).drop 24).drop 24).take 24).all (fun c => isCode c || c.before args0 about1) = true := by decide +kernel
set_option maxRecDepth 65536 in
theorem w_t8 : ((((((((words1.drop 24).drop 24).drop 24).drop 24).drop 24).drop 24).drop 24).take 24).all (fun c => isCode c || c.before args0 about1) = true := by decide +kernel
set_option maxRecDepth 65536 in
theorem w_t9 : ((((((((words1.drop 24).drop 24).drop 24).drop 24).drop 24).drop 24).drop 24).drop 24).all (fun c => isCode c || c.before args0 about1) = true := by decide +kernel
theorem w_tables : (allAtoms (Jvm.Cond.code x code maxLocals ret :: tables_1)).before args0 about1 = true := by
  rw [allAtoms_all]
  show words1.all (fun c => c.before args0 about1) = true
  refine all_split ?_ w_codes
  rw [← List.take_append_drop 24 words1, List.all_append, w_t1, ← List.take_append_drop 24 (words1.drop 24), List.all_append, w_t2, ← List.take_append_drop 24 ((words1.drop 24).drop 24), List.all_append, w_t3, ← List.take_append_drop 24 (((words1.drop 24).drop 24).drop 24), List.all_append, w_t4, ← List.take_append_drop 24 ((((words1.drop 24).drop 24).drop 24).drop 24), List.all_append, w_t5, ← List.take_append_drop 24 (((((words1.drop 24).drop 24).drop 24).drop 24).drop 24), List.all_append, w_t6, ← List.take_append_drop 24 ((((((words1.drop 24).drop 24).drop 24).drop 24).drop 24).drop 24), List.all_append, w_t7, ← List.take_append_drop 24 (((((((words1.drop 24).drop 24).drop 24).drop 24).drop 24).drop 24).drop 24), List.all_append, w_t8, w_t9]
  rfl
set_option maxRecDepth 65536 in
theorem w_rest : rest_1_c.before args0 about1 = true := by decide +kernel
set_option maxRecDepth 65536 in
theorem w_case : (Jvm.Cond.and given_1 narrow_1).before args0 about1 = true := by decide +kernel
theorem w_applies : (headSpec (Jvm.Cond.code x code maxLocals ret :: tables_1) room_1).applies x e0.platform about1 = true :=
  (Spec.applies_iff w_frames).mpr ⟨w_running, w_runnable, w_alone, w_named, w_hears, w_ripe, w_room, w_tables⟩
theorem atStart : AtStart classFile x code maxLocals ret World_1 tables_1 room_1 Calls_1 rest_1 Pre_1 launch0 p0 e0 about1 theMethod args0 below0 :=
  ⟨lists_1, trivial, launch0.admits_env _ _ _, launch0.least_env, fairChoices_fair.cas, fairChoices_fair.clock, w_frames, w_args, w_heap, w_applies, trivial, w_rest, w_case⟩
end start1
theorem witness_1 : WitnessClaimed_1 := ⟨start1.p0, start1.e0, start1.about1, start1.theMethod, start1.args0, start1.below0, start1.atStart⟩
end Jvm.Pilot.@@N@@
