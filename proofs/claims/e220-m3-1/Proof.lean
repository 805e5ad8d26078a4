import JvmDerived
import JvmDerived.Pilot.@@N@@Statement
import JvmDerived.Pilot.@@N@@Code
set_option linter.unusedVariables false
set_option linter.unusedSimpArgs false
namespace Jvm.RoadKit
open Sem ClassFile Op Lib Jvm.Stand Jvm.Free Jvm.LawKit
section OwnKit
variable {p : Program} {l : Launch} {e : Env} {R : Room} {s : State} {m : MethodId} {args : Array Value} {below : List Frame} {meth : Method} {c : Code} {T : State} {locs : List Loc} {cells slots : Nat} {Z : State} {a0 : Array Value} {h h' : Heap}
/-- the run has come from A to T with the frame g on top -/
def OGo (p : Program) (e : Env) (below : List Frame) (A T : State) (g : JFrame) : Prop := ∀ t, Steps p.tables e below (T.setTop g) t → Steps p.tables e below A t
/-- the array at a holds just these values -/
def OAr (Z : State) (h : Heap) (a : Addr) (k : ClassId) (ty : FieldType) (vs : List Value) : Prop := ∃ c : Cell, Arr Z h a c ty ∧ c.cls = k ∧ c.slots = vs.toArray
variable {a b : Addr} {k : ClassId} {ty : FieldType} {vs ws : List Value} {v w : Value} {sl : Nat} {wl : List Addr}
theorem OAr.lt (F : OAr Z h a k ty vs) : a < h.size := by obtain ⟨c, A, -⟩ := F; exact A.lt
theorem OAr.ext (F : OAr Z h a k ty vs) (E : Ext h h') : OAr Z h' a k ty vs := by obtain ⟨c, A, r⟩ := F; exact ⟨c, A.ext E, r⟩
theorem OAr.other (F : OAr Z h b k ty vs) (W : Wr h h' a sl v) (q : b ≠ a) : OAr Z h' b k ty vs := by obtain ⟨c, A, r⟩ := F; exact ⟨c, A.other W q, r⟩
theorem OAr.keep (F : OAr Z h a k ty vs) (K : Keep h h' wl) (q : a ∉ wl) : OAr Z h' a k ty vs := by obtain ⟨c, A, r⟩ := F; exact ⟨c, ⟨K.2.1 a c A.1 q, A.2⟩, r⟩
theorem OAr.new {n : Int32} (A : Arr Z h a (newA k ty n) ty) : OAr Z h a k ty (List.replicate n.toNatClampNeg (defaultValue ty)) := ⟨_, A, rfl, by simp [newA]⟩
theorem OAr.same (F : OAr Z h a k ty vs) (W : Wr h h' a sl v) : OAr Z h' a k ty (vs.set sl v) := by
  obtain ⟨c, A, r1, r2⟩ := F
  exact ⟨_, A.same W, r1, by simp only [Cell.setSlot]; rw [r2]; simp⟩
theorem OAr.cast (F : OAr Z h a k ty vs) (q : vs = ws) : OAr Z h a k ty ws := q ▸ F
theorem OAr.plain (F : OAr Z h a k ty vs) : ∀ cell : Cell, h[a]? = some cell → cell.vm.isStatics = false := fun cell hc => by
  obtain ⟨c, A, -⟩ := F
  cases A.1.symm.trans hc
  exact A.plain
theorem own_in {j : Int32} (h0 : ¬ j < 0) (hv : vs[j.toNatClampNeg]? = some v) {c : Cell} (q : c.slots = vs.toArray) : ¬ (j < 0 ∨ c.slots.size ≤ j.toNatClampNeg) ∧ c.slots[j.toNatClampNeg]? = some v := by
  have h1 := (List.getElem?_eq_some_iff.mp hv).1
  rw [q]
  refine ⟨fun r => r.elim h0 fun r => ?_, by simpa using hv⟩
  simp at r
  omega
theorem own_ldI (X : Stand p l e R s m args below meth c T locs cells slots) (hx : p.tables.exec = Jvm.exec) (hZ : Z.Warmed39 s.vm) (eT : T.heap = h) (F : OAr Z h a k .int vs) {j : Int32} (h0 : ¬ j < 0) (hv : vs[j.toNatClampNeg]? = some v) {g : JFrame} (hg : g.method = m) {rest : List Value} (hs : g.stack = .int j :: .ref a :: rest) (hd : decode c.code g.pc = .ok (.iaload, 1)) (t : State)
    (hr : Steps p.tables e below (T.setTop { g with pc := g.pc + 1, stack := v :: rest }) t) : Steps p.tables e below (T.setTop g) t := by
  obtain ⟨cl, A, -, r⟩ := F
  obtain ⟨q1, q2⟩ := own_in h0 hv r
  exact X.iaload hx (by rw [eT]; exact A.1) (State.isArrayOf_alike hZ.alike A.2.1) A.2.2 q1 q2 hg hs hd t hr
theorem own_ldJ (X : Stand p l e R s m args below meth c T locs cells slots) (hx : p.tables.exec = Jvm.exec) (hZ : Z.Warmed39 s.vm) (eT : T.heap = h) (F : OAr Z h a k .long vs) {j : Int32} (h0 : ¬ j < 0) (hv : vs[j.toNatClampNeg]? = some v) {g : JFrame} (hg : g.method = m) {rest : List Value} (hs : g.stack = .int j :: .ref a :: rest) (hd : decode c.code g.pc = .ok (.laload, 1)) (t : State)
    (hr : Steps p.tables e below (T.setTop { g with pc := g.pc + 1, stack := v :: rest }) t) : Steps p.tables e below (T.setTop g) t := by
  obtain ⟨cl, A, -, r⟩ := F
  obtain ⟨q1, q2⟩ := own_in h0 hv r
  exact X.laload hx (by rw [eT]; exact A.1) (State.isArrayOf_alike hZ.alike A.2.1) A.2.2 q1 q2 hg hs hd t hr
theorem own_ldC (X : Stand p l e R s m args below meth c T locs cells slots) (hx : p.tables.exec = Jvm.exec) (hZ : Z.Warmed39 s.vm) (eT : T.heap = h) (F : OAr Z h a k .char vs) {j : Int32} (h0 : ¬ j < 0) (hv : vs[j.toNatClampNeg]? = some v) {g : JFrame} (hg : g.method = m) {rest : List Value} (hs : g.stack = .int j :: .ref a :: rest) (hd : decode c.code g.pc = .ok (.caload, 1)) (t : State)
    (hr : Steps p.tables e below (T.setTop { g with pc := g.pc + 1, stack := v :: rest }) t) : Steps p.tables e below (T.setTop g) t := by
  obtain ⟨cl, A, -, r⟩ := F
  obtain ⟨q1, q2⟩ := own_in h0 hv r
  exact X.caload hx (by rw [eT]; exact A.1) (State.isArrayOf_alike hZ.alike A.2.1) A.2.2 q1 q2 hg hs hd t hr
theorem own_ldB (X : Stand p l e R s m args below meth c T locs cells slots) (hx : p.tables.exec = Jvm.exec) (hZ : Z.Warmed39 s.vm) (eT : T.heap = h) (F : OAr Z h a k .byte vs) {j : Int32} (h0 : ¬ j < 0) (hv : vs[j.toNatClampNeg]? = some v) {g : JFrame} (hg : g.method = m) {rest : List Value} (hs : g.stack = .int j :: .ref a :: rest) (hd : decode c.code g.pc = .ok (.baload, 1)) (t : State)
    (hr : Steps p.tables e below (T.setTop { g with pc := g.pc + 1, stack := v :: rest }) t) : Steps p.tables e below (T.setTop g) t := by
  obtain ⟨cl, A, -, r⟩ := F
  obtain ⟨q1, q2⟩ := own_in h0 hv r
  exact X.baloadBytes hx (by rw [eT]; exact A.1) (State.isArrayOf_alike hZ.alike A.2.1) A.2.2 q1 q2 hg hs hd t hr
theorem own_ldZ (X : Stand p l e R s m args below meth c T locs cells slots) (hx : p.tables.exec = Jvm.exec) (hZ : Z.Warmed39 s.vm) (eT : T.heap = h) (F : OAr Z h a k .boolean vs) {j : Int32} (h0 : ¬ j < 0) (hv : vs[j.toNatClampNeg]? = some v) {g : JFrame} (hg : g.method = m) {rest : List Value} (hs : g.stack = .int j :: .ref a :: rest) (hd : decode c.code g.pc = .ok (.baload, 1)) (t : State)
    (hr : Steps p.tables e below (T.setTop { g with pc := g.pc + 1, stack := v :: rest }) t) : Steps p.tables e below (T.setTop g) t := by
  obtain ⟨cl, A, -, r⟩ := F
  obtain ⟨q1, q2⟩ := own_in h0 hv r
  exact X.baloadBooleans hx (by rw [eT]; exact A.1) (State.isArrayOf_alike hZ.alike A.2.1) A.2.2 q1 q2 hg hs hd t hr
theorem own_ldA (X : Stand p l e R s m args below meth c T locs cells slots) (hx : p.tables.exec = Jvm.exec) (hZ : Z.Warmed39 s.vm) (eT : T.heap = h) (F : OAr Z h a k ty vs) (ht : ty.isReference = true) {j : Int32} (h0 : ¬ j < 0) (hv : vs[j.toNatClampNeg]? = some v) {g : JFrame} (hg : g.method = m) {rest : List Value} (hs : g.stack = .int j :: .ref a :: rest) (hd : decode c.code g.pc = .ok (.aaload, 1)) (t : State)
    (hr : Steps p.tables e below (T.setTop { g with pc := g.pc + 1, stack := v :: rest }) t) : Steps p.tables e below (T.setTop g) t := by
  obtain ⟨cl, A, -, r⟩ := F
  obtain ⟨q1, q2⟩ := own_in h0 hv r
  exact X.aaload hx (by rw [eT]; exact A.1) (State.isArrayOf_alike hZ.alike A.2.1) ht A.2.2 q1 q2 hg hs hd t hr
theorem own_len (X : Stand p l e R s m args below meth c T locs cells slots) (hx : p.tables.exec = Jvm.exec) (hZ : Z.Warmed39 s.vm) (eT : T.heap = h) (F : OAr Z h a k ty vs) {n : Int32} (hn : vs.length.toInt32 = n) {g : JFrame} (hg : g.method = m) {rest : List Value} (hs : g.stack = .ref a :: rest) (hd : decode c.code g.pc = .ok (.arraylength, 1)) (t : State)
    (hr : Steps p.tables e below (T.setTop { g with pc := g.pc + 1, stack := .int n :: rest }) t) : Steps p.tables e below (T.setTop g) t := by
  obtain ⟨cl, A, -, r⟩ := F
  refine X.arraylength hx (by rw [eT]; exact A.1) (State.isArrayOf_alike hZ.alike A.2.1) hg hs hd t ?_
  rw [show cl.slots.size = vs.length by rw [r]; simp, hn]
  exact hr
theorem own_in2 {j : Int32} (h0 : ¬ j < 0) (h1 : j.toNatClampNeg < vs.length) {c : Cell} (q : c.slots = vs.toArray) : ¬ (j < 0 ∨ c.slots.size ≤ j.toNatClampNeg) := by
  rw [q]
  refine fun r => r.elim h0 fun r => ?_
  simp at r
  omega
theorem own_stI (X : Stand p l e R s m args below meth c T locs cells slots) (hx : p.tables.exec = Jvm.exec) (hZ : Z.Warmed39 s.vm) (eT : T.heap = h) (F : OAr Z h a k .int vs) {j : Int32} {x : Int32} (h0 : ¬ j < 0) (h1 : j.toNatClampNeg < vs.length) {g : JFrame} (hg : g.method = m) {rest : List Value} (hs : g.stack = .int x :: .int j :: .ref a :: rest) (hd : decode c.code g.pc = .ok (.iastore, 1)) :
    ∃ T' h', Stand p l e R s m args below meth c T' (locs ++ [⟨a, j.toNatClampNeg⟩]) cells slots ∧ T'.heap = h' ∧ Wr h h' a j.toNatClampNeg (.int x) ∧ OAr Z h' a k .int (vs.set j.toNatClampNeg (.int x)) ∧ ∀ target, Steps p.tables e below (T'.setTop { g with pc := g.pc + 1, stack := rest }) target → Steps p.tables e below (T.setTop g) target := by
  have F' := F
  obtain ⟨cl, A, -, r⟩ := F'
  obtain ⟨T', h', X', e', W', st⟩ := stI X hx hZ eT A (own_in2 h0 h1 r) hg hs hd
  exact ⟨T', h', X', e', W', F.same W', st⟩
theorem own_stJ (X : Stand p l e R s m args below meth c T locs cells slots) (hx : p.tables.exec = Jvm.exec) (hZ : Z.Warmed39 s.vm) (eT : T.heap = h) (F : OAr Z h a k .long vs) {j : Int32} {x : Int64} (h0 : ¬ j < 0) (h1 : j.toNatClampNeg < vs.length) {g : JFrame} (hg : g.method = m) {rest : List Value} (hs : g.stack = .long x :: .int j :: .ref a :: rest) (hd : decode c.code g.pc = .ok (.lastore, 1)) :
    ∃ T' h', Stand p l e R s m args below meth c T' (locs ++ [⟨a, j.toNatClampNeg⟩]) cells slots ∧ T'.heap = h' ∧ Wr h h' a j.toNatClampNeg (.long x) ∧ OAr Z h' a k .long (vs.set j.toNatClampNeg (.long x)) ∧ ∀ target, Steps p.tables e below (T'.setTop { g with pc := g.pc + 1, stack := rest }) target → Steps p.tables e below (T.setTop g) target := by
  have F' := F
  obtain ⟨cl, A, -, r⟩ := F'
  obtain ⟨T', h', X', e', W', st⟩ := stJ X hx hZ eT A (own_in2 h0 h1 r) hg hs hd
  exact ⟨T', h', X', e', W', F.same W', st⟩
theorem own_stC (X : Stand p l e R s m args below meth c T locs cells slots) (hx : p.tables.exec = Jvm.exec) (hZ : Z.Warmed39 s.vm) (eT : T.heap = h) (F : OAr Z h a k .char vs) {j : Int32} {x : Int32} (h0 : ¬ j < 0) (h1 : j.toNatClampNeg < vs.length) {g : JFrame} (hg : g.method = m) {rest : List Value} (hs : g.stack = .int x :: .int j :: .ref a :: rest) (hd : decode c.code g.pc = .ok (.castore, 1)) :
    ∃ T' h', Stand p l e R s m args below meth c T' (locs ++ [⟨a, j.toNatClampNeg⟩]) cells slots ∧ T'.heap = h' ∧ Wr h h' a j.toNatClampNeg (.int (nar .char x)) ∧ OAr Z h' a k .char (vs.set j.toNatClampNeg (.int (nar .char x))) ∧ ∀ target, Steps p.tables e below (T'.setTop { g with pc := g.pc + 1, stack := rest }) target → Steps p.tables e below (T.setTop g) target := by
  have F' := F
  obtain ⟨cl, A, -, r⟩ := F'
  obtain ⟨T', h', X', e', W', st⟩ := stC X hx hZ eT A (own_in2 h0 h1 r) hg hs hd
  exact ⟨T', h', X', e', W', F.same W', st⟩
theorem own_stB (X : Stand p l e R s m args below meth c T locs cells slots) (hx : p.tables.exec = Jvm.exec) (hZ : Z.Warmed39 s.vm) (eT : T.heap = h) (F : OAr Z h a k .byte vs) {j : Int32} {x : Int32} (h0 : ¬ j < 0) (h1 : j.toNatClampNeg < vs.length) {g : JFrame} (hg : g.method = m) {rest : List Value} (hs : g.stack = .int x :: .int j :: .ref a :: rest) (hd : decode c.code g.pc = .ok (.bastore, 1)) :
    ∃ T' h', Stand p l e R s m args below meth c T' (locs ++ [⟨a, j.toNatClampNeg⟩]) cells slots ∧ T'.heap = h' ∧ Wr h h' a j.toNatClampNeg (.int (nar .byte x)) ∧ OAr Z h' a k .byte (vs.set j.toNatClampNeg (.int (nar .byte x))) ∧ ∀ target, Steps p.tables e below (T'.setTop { g with pc := g.pc + 1, stack := rest }) target → Steps p.tables e below (T.setTop g) target := by
  have F' := F
  obtain ⟨cl, A, -, r⟩ := F'
  obtain ⟨T', h', X', e', W', st⟩ := stB X hx hZ eT A (own_in2 h0 h1 r) hg hs hd
  exact ⟨T', h', X', e', W', F.same W', st⟩
theorem own_stZ (X : Stand p l e R s m args below meth c T locs cells slots) (hx : p.tables.exec = Jvm.exec) (hZ : Z.Warmed39 s.vm) (eT : T.heap = h) (F : OAr Z h a k .boolean vs) {j : Int32} {x : Int32} (h0 : ¬ j < 0) (h1 : j.toNatClampNeg < vs.length) {g : JFrame} (hg : g.method = m) {rest : List Value} (hs : g.stack = .int x :: .int j :: .ref a :: rest) (hd : decode c.code g.pc = .ok (.bastore, 1)) :
    ∃ T' h', Stand p l e R s m args below meth c T' (locs ++ [⟨a, j.toNatClampNeg⟩]) cells slots ∧ T'.heap = h' ∧ Wr h h' a j.toNatClampNeg (.int (nar .boolean x)) ∧ OAr Z h' a k .boolean (vs.set j.toNatClampNeg (.int (nar .boolean x))) ∧ ∀ target, Steps p.tables e below (T'.setTop { g with pc := g.pc + 1, stack := rest }) target → Steps p.tables e below (T.setTop g) target := by
  have F' := F
  obtain ⟨cl, A, -, r⟩ := F'
  obtain ⟨T', h', X', e', W', st⟩ := stZ X hx hZ eT A (own_in2 h0 h1 r) hg hs hd
  exact ⟨T', h', X', e', W', F.same W', st⟩
theorem own_stR (X : Stand p l e R s m args below meth c T locs cells slots) (hx : p.tables.exec = Jvm.exec) (hZ : Z.Warmed39 s.vm) (eT : T.heap = h) (F : OAr Z h a k ty vs) (ht : ty.isReference = true) {j : Int32} {x : Value} (h0 : ¬ j < 0) (h1 : j.toNatClampNeg < vs.length) (S : Sto Z h a x) {g : JFrame} (hg : g.method = m) {rest : List Value} (hs : g.stack = x :: .int j :: .ref a :: rest) (hd : decode c.code g.pc = .ok (.aastore, 1)) :
    ∃ T' h', Stand p l e R s m args below meth c T' (locs ++ [⟨a, j.toNatClampNeg⟩]) cells slots ∧ T'.heap = h' ∧ Wr h h' a j.toNatClampNeg x ∧ OAr Z h' a k ty (vs.set j.toNatClampNeg x) ∧ ∀ target, Steps p.tables e below (T'.setTop { g with pc := g.pc + 1, stack := rest }) target → Steps p.tables e below (T.setTop g) target := by
  have F' := F
  obtain ⟨cl, A, -, r⟩ := F'
  obtain ⟨T', h', X', e', W', st⟩ := stR X hx hZ eT A (own_in2 h0 h1 r) ht S hg hs hd
  exact ⟨T', h', X', e', W', F.same W', st⟩
theorem own_sto {y : Addr} {t0 : FieldType} {C : String} (F : OAr Z h a k ty vs) (O : OvrA Z k t0 C) (I : Ins Z h y C true) : Sto Z h a (.ref y) := by
  obtain ⟨cl, A, q, -⟩ := F
  exact Sto.ofVA A q O I
/-- the addresses are unlike each other -/
def OND (L : List Addr) : Prop := L.Pairwise (· ≠ ·)
theorem ond0 : OND [] := List.Pairwise.nil
theorem ondS {x : Addr} {L : List Addr} (q : ∀ y ∈ L, x ≠ y) (r : OND L) : OND (x :: L) := List.Pairwise.cons q r
theorem own_pw {L : List Addr} (q : OND L) (i j : Nat) (hij : i < j) {x y : Addr} (hi : L[i]? = some x) (hj : L[j]? = some y) : x ≠ y := by
  obtain ⟨i1, rfl⟩ := List.getElem?_eq_some_iff.mp hi
  obtain ⟨j1, rfl⟩ := List.getElem?_eq_some_iff.mp hj
  exact List.pairwise_iff_getElem.mp q i j i1 j1 hij
theorem own_selp (hZ : Z.Warmed39 s.vm) {y : MethodName} {k : Nat} (wi : (Cond.instantiable y.cls k).before a0 Z = true) (wp : (Cond.privateMethod y).before a0 Z = true) (wm : (Cond.instanceMethod y).before a0 Z = true) (hy : y.cls ≠ "java/lang/invoke/MethodHandle" ∧ y.cls ≠ "java/lang/invoke/VarHandle" := by decide) : (Cond.selects y.cls y y).before args s = true := by
  obtain ⟨c2, k2, i1, i2, i3, i4, -⟩ := Cond.instantiable_spec (mv (args := args) hZ wi)
  exact selects_self_of_private i1 i2 (Bool.or_eq_false_iff.mp i4).1 (Cond.privateMethod_at (mvP hZ wp (args := args))) (mv hZ wm) hy
theorem own_arv {z : Int32} {d : Value} (F : OAr Z h a k ty vs) (hf : ∀ v ∈ vs, fits ty v = true) (hz : ¬ z < 0) (hl : vs.length = z.toNatClampNeg) : Arv Z h a k ty z vs d := by
  obtain ⟨c, A, q1, q2⟩ := F
  have hs : c.slots.size = vs.length := by rw [q2]; simp
  refine ⟨c, A, q1, by rw [hs, hl], hz, fun i hi => ?_, fun i hi => ?_⟩
  · rw [hs] at hi
    rw [q2]
    simp [List.getD_eq_getElem?_getD, hi]
  · rw [hs] at hi
    rw [List.getD_eq_getElem?_getD, List.getElem?_eq_getElem hi]
    exact hf _ (List.getElem_mem hi)
theorem own_unarv {z : Int32} {d : Value} (F : Arv Z h a k ty z vs d) (hl : vs.length = z.toNatClampNeg) : OAr Z h a k ty vs := by
  obtain ⟨c, A, q1, q2, q3, H, -⟩ := F
  refine ⟨c, A, q1, ?_⟩
  apply Array.ext (by rw [q2, ← hl]; simp)
  intro i h1 h2
  have e := H i h1
  have h3 : i < vs.length := by simpa using h2
  rw [Array.getElem?_eq_getElem h1, List.getD_eq_getElem?_getD, List.getElem?_eq_getElem h3] at e
  simpa using Option.some.inj e
end OwnKit
end Jvm.RoadKit

namespace Jvm.Pilot.@@N@@
open Jvm Jvm.ClassFile Sem Op Lib Jvm.Free Jvm.Stand Jvm.LawKit Jvm.RoadKit Bundle Jvm.Pilot.@@N@@.Jvm.D
theorem ow {a0 : Array Value} {Z : State} (hw : ∀ d ∈ tables_1, d.before a0 Z = true) (i : Nat) {d : Jvm.Cond} (h : tables_1[i]? = some d) : d.before a0 Z = true := hw _ (List.mem_of_getElem? h)
abbrev mN0 : MethodName := ⟨"java/lang/Math", "min", "(II)I"⟩
abbrev mN1 : MethodName := ⟨"com/example/imprint/imprint/xslt/ImportPrecedence", "<init>", "(II)V"⟩
abbrev cN0 : String := "com/example/imprint/imprint/xslt/ImportPrecedence"
abbrev mN2 : MethodName := ⟨"com/example/imprint/imprint/xslt/ImportPrecedence", "imports", "(Lcom/example/imprint/imprint/xslt/ImportPrecedence;)Z"⟩
def own_min (p q : Int32) : Int32 := if q < p then q else p
def own_low (i : Int32) : Int32 := if i = 1 then 1 else if i = 3 ∨ i = 4 then 3 else 0
def own_par (j : Int32) : Int32 := if j = 0 ∨ j = 1 then 2 else if j = 2 ∨ j = 4 then 5 else if j = 3 then 4 else -1
def own_imp (r lo me : Int32) : Int32 := if r < lo then 0 else if r < me then 1 else 0
def own_six (i : Int32) : Prop := ∃ n : Fin 6, i = n.val.toInt32
theorem own_is6 (p : Int32) : own_six ((p &&& (2147483647 : Int32)) % (6 : Int32)) := by
  have a := c_and p (2147483647 : Int32) (by decide)
  have b := (c_irem (p &&& (2147483647 : Int32)) (6 : Int32) 6 (by decide)).1 a.1
  have r : (0 : Int32).toInt = 0 := by decide
  have h0 : ¬ ((p &&& (2147483647 : Int32)) % (6 : Int32)) < 0 := by rw [Int32.lt_iff_toInt_lt]; omega
  have q := nat_of h0
  exact ⟨⟨((p &&& (2147483647 : Int32)) % (6 : Int32)).toNatClampNeg, by omega⟩, (back32 h0).1.symm⟩
theorem own_six.nn {i : Int32} (h : own_six i) : ¬ i < 0 := by obtain ⟨n, rfl⟩ := h; revert n; decide
theorem own_six.b {i : Int32} (h : own_six i) : 0 ≤ i.toInt ∧ i.toInt ≤ 5 ∧ 0 ≤ (own_low i).toInt ∧ (own_low i).toInt ≤ 5 := by obtain ⟨n, rfl⟩ := h; revert n; decide
theorem own_rank_at {i : Int32} (h : own_six i) : ([(.int (0 : Int32)), (.int (1 : Int32)), (.int (2 : Int32)), (.int (3 : Int32)), (.int (4 : Int32)), (.int (5 : Int32))] : List Value)[i.toNatClampNeg]? = some (.int i) := by obtain ⟨n, rfl⟩ := h; revert n; decide
theorem own_low_at {i : Int32} (h : own_six i) : ([(.int (0 : Int32)), (.int (1 : Int32)), (.int (0 : Int32)), (.int (3 : Int32)), (.int (3 : Int32)), (.int (0 : Int32))] : List Value)[i.toNatClampNeg]? = some (.int (own_low i)) := by obtain ⟨n, rfl⟩ := h; revert n; decide
theorem own_par_at {i : Int32} (h : own_six i) : ([(.int (2 : Int32)), (.int (2 : Int32)), (.int (5 : Int32)), (.int (4 : Int32)), (.int (5 : Int32)), (.int (-1 : Int32))] : List Value)[i.toNatClampNeg]? = some (.int (own_par i)) := by obtain ⟨n, rfl⟩ := h; revert n; decide
theorem own_par_six {j : Int32} (h : own_six j) (q : ¬ own_par j < 0) : own_six (own_par j) := by
  obtain ⟨n, rfl⟩ := h
  have r : ∀ n : Fin 6, ¬ own_par n.val.toInt32 < 0 → ∃ k : Fin 6, own_par n.val.toInt32 = k.val.toInt32 := by decide
  exact r n q
theorem own_minb (p : Int32) : 0 ≤ (own_min (p &&& (2147483647 : Int32)) (2147483642 : Int32)).toInt ∧ (own_min (p &&& (2147483647 : Int32)) (2147483642 : Int32)).toInt ≤ 2147483642 := by
  have a := c_and p (2147483647 : Int32) (by decide)
  have r : (2147483642 : Int32).toInt = 2147483642 := by decide
  unfold own_min
  split
  · rw [r]; omega
  · rename_i h; rw [Int32.lt_iff_toInt_lt, r] at h; omega
theorem own_sh {b x y : Int32} (hb : 0 ≤ b.toInt ∧ b.toInt ≤ 2147483642) (hx : 0 ≤ x.toInt ∧ x.toInt ≤ 5) (hy : 0 ≤ y.toInt ∧ y.toInt ≤ 5) : (b + x < b + y) ↔ x < y := by
  rw [Int32.lt_iff_toInt_lt, Int32.lt_iff_toInt_lt]
  have a1 := c_iadd b x
  have a2 := c_iadd b y
  have a3 := rng32 (b + x)
  have a4 := rng32 (b + y)
  omega
theorem own_impS {b i j : Int32} (hb : 0 ≤ b.toInt ∧ b.toInt ≤ 2147483642) (hi : own_six i) (hj : own_six j) : own_imp (b + j) (b + own_low i) (b + i) = own_imp j (own_low i) i := by
  have q := hi.b
  have r := hj.b
  unfold own_imp
  simp only [own_sh hb ⟨r.1, r.2.1⟩ q.2.2, own_sh hb ⟨r.1, r.2.1⟩ ⟨q.1, q.2.1⟩]
theorem own_end {b i j : Int32} (hb : 0 ≤ b.toInt ∧ b.toInt ≤ 2147483642) (hi : own_six i) (hj : own_six j) :
    (own_par j = i → own_imp (b + j) (b + own_low i) (b + i) = 1) ∧ (¬ own_par j < 0 → own_par (own_par j) = i → own_imp (b + j) (b + own_low i) (b + i) = 1) ∧ (¬ own_par j < 0 → ¬ own_par j = i → ¬ own_par (own_par j) = i → own_imp (b + j) (b + own_low i) (b + i) = 0) ∧ (own_par j < 0 → own_imp (b + j) (b + own_low i) (b + i) = 0) ∧ (own_par j < 0 → ¬ own_par j = i) ∧ ¬ (-1 : Int32) = i := by
  rw [own_impS hb hi hj]
  obtain ⟨n, rfl⟩ := hi
  obtain ⟨k, rfl⟩ := hj
  revert n k
  decide
theorem ef_1 (m : MethodId) (x0 : Int32) (x1 : Int32) : entryFrame m #[(.int x0), (.int x1)] 2 = mkF m 0 #[.val (.int x0), .val (.int x1)] [] := by first | (simp [entryFrame, mkF, argsToLocals, Value.category]; done) | rfl
theorem d1_0 : decode jdk_29_method_69_code 0 = .ok (.iload_n 0, 1) := by decide +kernel
theorem d1_1 : decode jdk_29_method_69_code 1 = .ok (.iload_n 1, 1) := by decide +kernel
theorem d1_2 : decode jdk_29_method_69_code 2 = .ok (.if_icmp .gt 7, 3) := by decide +kernel
theorem d1_9 : decode jdk_29_method_69_code 9 = .ok (.iload_n 1, 1) := by decide +kernel
theorem d1_10 : decode jdk_29_method_69_code 10 = .ok (.ireturn, 1) := by decide +kernel
theorem d1_5 : decode jdk_29_method_69_code 5 = .ok (.iload_n 0, 1) := by decide +kernel
theorem d1_6 : decode jdk_29_method_69_code 6 = .ok (.goto 4, 3) := by decide +kernel
def Q_min (Z : State) (p1 : Int32) (p2 : Int32) (h0 : Heap) (n0 : Nat) (v : Option Value) (h : Heap) (L : List Loc) : Prop := v = some (.int (own_min p1 p2)) ∧ Fr n0 L ∧ h = h0
set_option maxRecDepth 65536 in
set_option maxHeartbeats 40000000 in
theorem rm_min (l : Launch) (Z : State) (a0 : Array Value) (hw : ∀ d ∈ tables_1, d.before a0 Z = true) (ws : List Jvm.Cond) (p1 : Int32) (p2 : Int32) (h0 : Heap) (n0 : Nat) (Z0 : n0 ≤ h0.size) :
    MetFree l mN0 (head1 (Jvm.Cond.code mN0 jdk_29_method_69_code 2 (some .int) :: ws) ({ frames := 0, cells := 0, slots := 0, locals := 0 } : Room)) (fun a U => a = #[(.int p1), (.int p2)] ∧ Z.Warmed39 U.vm ∧ U.heap = h0) (fun _ _ _ _ _ => True) (fun _ U o U' => ∃ v L, o = .returned v ∧ Q_min Z p1 p2 h0 n0 v U'.heap L ∧ FrameEnd U o U' L ({ frames := 0, cells := 0, slots := 0, locals := 0 } : Room).cells ({ frames := 0, cells := 0, slots := 0, locals := 0 } : Room).slots) := by
  refine MetFree.of_bodySF (Jvm.Free.JP.mathPlain rfl (by decide +kernel)) hisR ?_
  intro p e s m args below meth c s₁ Bd hml0 hP hK
  obtain ⟨rfl, hZ, hh⟩ := hP
  have hx := Bd.exec
  have hby := Bd.bytes
  have hml : c.maxLocals = 2 := hml0
  have hown : s.vm.findClass "java/lang/Math" = some m.cls := findClass_of_methodNamed Bd.named
  have hnm := (name_of_methodNamed Bd.named Bd.method).1
  have X0 : Stand p l e ({ frames := 0, cells := 0, slots := 0, locals := 0 } : Room) s m #[(.int p1), (.int p2)] below meth c s₁ [] 0 0 := Stand.of_body Bd
  have e0 : s₁.heap = h0 := by rw [← hh, Bd.state]; rfl
  have N0 := Fr.nil n0
  obtain ⟨A0, hA0⟩ : ∃ z, z = s₁.setTop (entryFrame m #[(.int p1), (.int p2)] 2) := ⟨_, rfl⟩
  have K : OGo p e below A0 s₁ (mkF m 0 #[iv p1, iv p2] []) := fun t k => hA0 ▸ castTop (ef_1 m p1 p2) k
  replace K : OGo p e below A0 s₁ (mkF m 1 #[iv p1, iv p2] [(.int p1)]) := fun t k => K t (XS.iloadN X0.here hx rfl (hb hby d1_0) rfl k)
  replace K : OGo p e below A0 s₁ (mkF m 2 #[iv p1, iv p2] [(.int p2), (.int p1)]) := fun t k => K t (XS.iloadN X0.here hx rfl (hb hby d1_1) rfl k)
  by_cases hc2 : p2 < p1
  · replace K : OGo p e below A0 s₁ (mkF m 9 #[iv p1, iv p2] []) := fun t k => K t (XS.icmpYes X0.here hx rfl (pc0 := 2) (pc' := 9) rfl (hb hby d1_2) rfl (tlt hc2).2.2.1 (by decide) (by decide) k)
    replace K : OGo p e below A0 s₁ (mkF m 10 #[iv p1, iv p2] [(.int p2)]) := fun t k => K t (XS.iloadN X0.here hx rfl (hb hby d1_9) rfl k)
    obtain ⟨fs, hr, hrun, hended, hW, hsame⟩ := X0.leave (v := some (.int p2)) (fun h => by rw [Bd.returns] at h; cases h)
    subst hA0
    refine ⟨_, _, K _ (retOut X0 hx Bd.returns rfl (Or.inl ⟨rfl, Or.inl rfl, _, rfl⟩) (hb hby d1_10) hr), hrun, hended, _, _, rfl, ?_, ⟨_, rfl⟩, hW, hsame.mono (by decide) (by decide)⟩
    show Q_min Z p1 p2 h0 n0 _ s₁.heap _
    rw [e0]
    exact ⟨(by simp [own_min, hc2]), N0, rfl⟩
  · replace K : OGo p e below A0 s₁ (mkF m 5 #[iv p1, iv p2] []) := fun t k => K t (XS.icmpNo X0.here hx rfl (hb hby d1_2) rfl (flt hc2).2.2.1 k)
    replace K : OGo p e below A0 s₁ (mkF m 6 #[iv p1, iv p2] [(.int p1)]) := fun t k => K t (XS.iloadN X0.here hx rfl (hb hby d1_5) rfl k)
    replace K : OGo p e below A0 s₁ (mkF m 10 #[iv p1, iv p2] [(.int p1)]) := fun t k => K t (XS.goto X0.here hx rfl (pc0 := 6) (pc' := 10) rfl (hb hby d1_6) (by decide) (by decide) k)
    obtain ⟨fs, hr, hrun, hended, hW, hsame⟩ := X0.leave (v := some (.int p1)) (fun h => by rw [Bd.returns] at h; cases h)
    subst hA0
    refine ⟨_, _, K _ (retOut X0 hx Bd.returns rfl (Or.inl ⟨rfl, Or.inl rfl, _, rfl⟩) (hb hby d1_10) hr), hrun, hended, _, _, rfl, ?_, ⟨_, rfl⟩, hW, hsame.mono (by decide) (by decide)⟩
    show Q_min Z p1 p2 h0 n0 _ s₁.heap _
    rw [e0]
    exact ⟨(by simp [own_min, hc2]), N0, rfl⟩
theorem pn_com_example_imprint_imprint_xslt_ImportPrecedence : plainName "com/example/imprint/imprint/xslt/ImportPrecedence" = true := by first | (simp [plainName, overriddenIn]; done) | decide +kernel
theorem ef_2 (m : MethodId) (x0 : Addr) (x1 : Int32) (x2 : Int32) : entryFrame m #[(.ref x0), (.int x1), (.int x2)] 3 = mkF m 0 #[.val (.ref x0), .val (.int x1), .val (.int x2)] [] := by first | (simp [entryFrame, mkF, argsToLocals, Value.category]; done) | rfl
theorem d2_0 : decode prog_189_method_1_code 0 = .ok (.aload_n 0, 1) := by decide +kernel
theorem d2_1 : decode prog_189_method_1_code 1 = .ok (.invokespecial 1, 3) := by decide +kernel
theorem d2_4 : decode prog_189_method_1_code 4 = .ok (.aload_n 0, 1) := by decide +kernel
theorem d2_5 : decode prog_189_method_1_code 5 = .ok (.iload_n 1, 1) := by decide +kernel
theorem d2_6 : decode prog_189_method_1_code 6 = .ok (.putfield 7, 3) := by decide +kernel
theorem d2_9 : decode prog_189_method_1_code 9 = .ok (.aload_n 0, 1) := by decide +kernel
theorem d2_10 : decode prog_189_method_1_code 10 = .ok (.iload_n 2, 1) := by decide +kernel
theorem d2_11 : decode prog_189_method_1_code 11 = .ok (.putfield 13, 3) := by decide +kernel
theorem sn_cN0_lowestImported_rank {a0 : Array Value} {Z : State} (hw : ∀ d ∈ tables_1, d.before a0 Z = true) : Jvm.RoadKit.slotOf Z cN0 "lowestImported" "I" ≠ Jvm.RoadKit.slotOf Z cN0 "rank" "I" := slot_ne (Or.inr (ow hw 19 rfl)) (Or.inr (ow hw 17 rfl)) (by decide) (t := .int) (t' := .int) (by decide) (by decide)
theorem d2_14 : decode prog_189_method_1_code 14 = .ok (.return_, 1) := by decide +kernel
theorem sn_cN0_rank_lowestImported {a0 : Array Value} {Z : State} (hw : ∀ d ∈ tables_1, d.before a0 Z = true) : Jvm.RoadKit.slotOf Z cN0 "rank" "I" ≠ Jvm.RoadKit.slotOf Z cN0 "lowestImported" "I" := slot_ne (Or.inr (ow hw 17 rfl)) (Or.inr (ow hw 19 rfl)) (by decide) (t := .int) (t' := .int) (by decide) (by decide)
def Q_init (Z : State) (a1 : Addr) (p1 : Int32) (p2 : Int32) (h0 : Heap) (n0 : Nat) (v : Option Value) (h : Heap) (L : List Loc) : Prop := v = none ∧ Fr n0 L ∧ Keep h0 h [a1] ∧ Fld Z h a1 cN0 "rank" "I" (.int p1) ∧ Fld Z h a1 cN0 "lowestImported" "I" (.int p2)
set_option maxRecDepth 65536 in
set_option maxHeartbeats 40000000 in
theorem rm_init (l : Launch) (Z : State) (a0 : Array Value) (hw : ∀ d ∈ tables_1, d.before a0 Z = true) (ws : List Jvm.Cond) (a1 : Addr) (p1 : Int32) (p2 : Int32) (h0 : Heap) (n0 : Nat) (Z0 : n0 ≤ h0.size) (E_a1 : Exa Z h0 a1 cN0) (F_rank_a1 : Fld Z h0 a1 cN0 "rank" "I" (.int (0 : Int32))) (F_lowestImported_a1 : Fld Z h0 a1 cN0 "lowestImported" "I" (.int (0 : Int32))) (g_a1 : n0 ≤ a1) :
    MetFree l mN1 (head1 (Jvm.Cond.code mN1 prog_189_method_1_code 3 none :: ws) ({ frames := 1, cells := 0, slots := 0, locals := 12 } : Room)) (fun a U => a = #[(.ref a1), (.int p1), (.int p2)] ∧ Z.Warmed39 U.vm ∧ U.heap = h0) (fun _ _ _ _ _ => True) (fun _ U o U' => ∃ v L, o = .returned v ∧ Q_init Z a1 p1 p2 h0 n0 v U'.heap L ∧ FrameEnd U o U' L ({ frames := 1, cells := 0, slots := 0, locals := 12 } : Room).cells ({ frames := 1, cells := 0, slots := 0, locals := 12 } : Room).slots) := by
  refine MetFree.of_bodySF (plainFor_of_name pn_com_example_imprint_imprint_xslt_ImportPrecedence) hisR ?_
  intro p e s m args below meth c s₁ Bd hml0 hP hK
  obtain ⟨rfl, hZ, hh⟩ := hP
  have hx := Bd.exec
  have hby := Bd.bytes
  have hml : c.maxLocals = 3 := hml0
  have hown : s.vm.findClass "com/example/imprint/imprint/xslt/ImportPrecedence" = some m.cls := findClass_of_methodNamed Bd.named
  have hnm := (name_of_methodNamed Bd.named Bd.method).1
  have X0 : Stand p l e ({ frames := 1, cells := 0, slots := 0, locals := 12 } : Room) s m #[(.ref a1), (.int p1), (.int p2)] below meth c s₁ [] 0 0 := Stand.of_body Bd
  have e0 : s₁.heap = h0 := by rw [← hh, Bd.state]; rfl
  have N0 := Fr.nil n0
  obtain ⟨A0, hA0⟩ : ∃ z, z = s₁.setTop (entryFrame m #[(.ref a1), (.int p1), (.int p2)] 3) := ⟨_, rfl⟩
  have K : OGo p e below A0 s₁ (mkF m 0 #[rv a1, iv p1, iv p2] []) := fun t k => hA0 ▸ castTop (ef_2 m a1 p1 p2) k
  replace K : OGo p e below A0 s₁ (mkF m 1 #[rv a1, iv p1, iv p2] [(.ref a1)]) := fun t k => K t (XS.aloadN X0.here hx rfl (hb hby d2_0) rfl rfl k)
  obtain ⟨T1, X1, e1, st1⟩ := initO X0 hx hZ hown (ow hw 13 rfl) (ow hw 14 rfl) (ow hw 15 rfl) e0 (g := (mkF m 1 #[rv a1, iv p1, iv p2] [(.ref a1)])) rfl (by rw [hml]; rfl) rfl (hb hby d2_1) (by decide) (W := 0) (by show 2 * 0 + _ ≤ _; exact Nat.le_of_eq rfl) (by decide)
  replace K : OGo p e below A0 T1 (mkF m 4 #[rv a1, iv p1, iv p2] []) := fun t k => K t (st1 t k)
  replace K : OGo p e below A0 T1 (mkF m 5 #[rv a1, iv p1, iv p2] [(.ref a1)]) := fun t k => K t (XS.aloadN X1.here hx rfl (hb hby d2_4) rfl rfl k)
  replace K : OGo p e below A0 T1 (mkF m 6 #[rv a1, iv p1, iv p2] [(.int p1), (.ref a1)]) := fun t k => K t (XS.iloadN X1.here hx rfl (hb hby d2_5) rfl k)
  obtain ⟨T2, h2, X2, e2, W2, st2⟩ := putF X1 hx hZ hown (host := "") (Or.inl (ow hw 16 rfl)) Via.refl e1 F_rank_a1 E_a1 (Or.inr ⟨(ow hw 17 rfl), rfl, hnm⟩) (ow hw 8 rfl) (ty := .int) (by decide) rfl rfl (g := (mkF m 6 #[rv a1, iv p1, iv p2] [(.int p1), (.ref a1)])) rfl rfl (hb hby d2_6)
  have Z2 : n0 ≤ h2.size := Nat.le_trans Z0 (Keep.of_wr W2).1
  have Kp2 : Keep h0 h2 [a1] := (Keep.refl h0 [a1]).wr W2 (Or.inl (List.mem_of_getElem? (i := 0) rfl))
  have F_rank_a1_2 := F_rank_a1.same W2
  have N2 := Fr.snoc X2 N0 g_a1
  replace K : OGo p e below A0 T2 (mkF m 9 #[rv a1, iv p1, iv p2] []) := fun t k => K t (st2 t k)
  replace K : OGo p e below A0 T2 (mkF m 10 #[rv a1, iv p1, iv p2] [(.ref a1)]) := fun t k => K t (XS.aloadN X2.here hx rfl (hb hby d2_9) rfl rfl k)
  replace K : OGo p e below A0 T2 (mkF m 11 #[rv a1, iv p1, iv p2] [(.int p2), (.ref a1)]) := fun t k => K t (XS.iloadN X2.here hx rfl (hb hby d2_10) rfl k)
  have F_lowestImported_a1_3 := (F_lowestImported_a1.other W2 (Or.inr (sn_cN0_lowestImported_rank hw)))
  have E_a1_4 := (E_a1.wr W2)
  obtain ⟨T5, h5, X5, e5, W5, st5⟩ := putF X2 hx hZ hown (host := "") (Or.inl (ow hw 18 rfl)) Via.refl e2 F_lowestImported_a1_3 E_a1_4 (Or.inr ⟨(ow hw 19 rfl), rfl, hnm⟩) (ow hw 8 rfl) (ty := .int) (by decide) rfl rfl (g := (mkF m 11 #[rv a1, iv p1, iv p2] [(.int p2), (.ref a1)])) rfl rfl (hb hby d2_11)
  have Z5 : n0 ≤ h5.size := Nat.le_trans Z2 (Keep.of_wr W5).1
  have Kp5 : Keep h0 h5 [a1] := Kp2.wr W5 (Or.inl (List.mem_of_getElem? (i := 0) rfl))
  have F_lowestImported_a1_5 := F_lowestImported_a1_3.same W5
  have N5 := Fr.snoc X5 N2 g_a1
  replace K : OGo p e below A0 T5 (mkF m 14 #[rv a1, iv p1, iv p2] []) := fun t k => K t (st5 t k)
  have F_rank_a1_6 := (F_rank_a1_2.other W5 (Or.inr (sn_cN0_rank_lowestImported hw)))
  obtain ⟨fs, hr, hrun, hended, hW, hsame⟩ := X5.leave (v := none) (fun _ => rfl)
  subst hA0
  refine ⟨_, _, K _ (X5.returnOut hx Bd.returns (hb hby d2_14) hr), hrun, hended, _, _, rfl, ?_, ⟨_, rfl⟩, hW, hsame.mono (by decide) (by decide)⟩
  show Q_init Z a1 p1 p2 h0 n0 _ T5.heap _
  rw [e5]
  exact ⟨rfl, N5, Kp5, F_rank_a1_6, F_lowestImported_a1_5⟩
theorem ef_4 (m : MethodId) (x0 : Addr) (x1 : Addr) : entryFrame m #[(.ref x0), (.ref x1)] 2 = mkF m 0 #[.val (.ref x0), .val (.ref x1)] [] := by first | (simp [entryFrame, mkF, argsToLocals, Value.category]; done) | rfl
theorem d4_0 : decode prog_189_method_3_code 0 = .ok (.aload_n 1, 1) := by decide +kernel
theorem d4_1 : decode prog_189_method_3_code 1 = .ok (.getfield 7, 3) := by decide +kernel
theorem d4_4 : decode prog_189_method_3_code 4 = .ok (.aload_n 0, 1) := by decide +kernel
theorem d4_5 : decode prog_189_method_3_code 5 = .ok (.getfield 13, 3) := by decide +kernel
theorem d4_8 : decode prog_189_method_3_code 8 = .ok (.if_icmp .lt 18, 3) := by decide +kernel
theorem d4_26 : decode prog_189_method_3_code 26 = .ok (.iconst 0, 1) := by decide +kernel
theorem d4_27 : decode prog_189_method_3_code 27 = .ok (.ireturn, 1) := by decide +kernel
theorem d4_11 : decode prog_189_method_3_code 11 = .ok (.aload_n 1, 1) := by decide +kernel
theorem d4_12 : decode prog_189_method_3_code 12 = .ok (.getfield 7, 3) := by decide +kernel
theorem d4_15 : decode prog_189_method_3_code 15 = .ok (.aload_n 0, 1) := by decide +kernel
theorem d4_16 : decode prog_189_method_3_code 16 = .ok (.getfield 7, 3) := by decide +kernel
theorem d4_19 : decode prog_189_method_3_code 19 = .ok (.if_icmp .ge 7, 3) := by decide +kernel
theorem d4_22 : decode prog_189_method_3_code 22 = .ok (.iconst 1, 1) := by decide +kernel
theorem d4_23 : decode prog_189_method_3_code 23 = .ok (.goto 4, 3) := by decide +kernel
def Q_imps (Z : State) (a1 : Addr) (a2 : Addr) (r1 : Int32) (l1 : Int32) (r2 : Int32) (h0 : Heap) (n0 : Nat) (v : Option Value) (h : Heap) (L : List Loc) : Prop := v = some (.int (own_imp r2 l1 r1)) ∧ Fr n0 L ∧ h = h0
set_option maxRecDepth 65536 in
set_option maxHeartbeats 40000000 in
theorem rm_imps (l : Launch) (Z : State) (a0 : Array Value) (hw : ∀ d ∈ tables_1, d.before a0 Z = true) (ws : List Jvm.Cond) (a1 : Addr) (a2 : Addr) (r1 : Int32) (l1 : Int32) (r2 : Int32) (h0 : Heap) (n0 : Nat) (Z0 : n0 ≤ h0.size) (F_rank_a1 : Fld Z h0 a1 cN0 "rank" "I" (.int r1)) (F_lowestImported_a1 : Fld Z h0 a1 cN0 "lowestImported" "I" (.int l1)) (F_rank_a2 : Fld Z h0 a2 cN0 "rank" "I" (.int r2)) :
    MetFree l mN2 (head1 (Jvm.Cond.code mN2 prog_189_method_3_code 2 (some .boolean) :: ws) ({ frames := 0, cells := 0, slots := 0, locals := 0 } : Room)) (fun a U => a = #[(.ref a1), (.ref a2)] ∧ Z.Warmed39 U.vm ∧ U.heap = h0) (fun _ _ _ _ _ => True) (fun _ U o U' => ∃ v L, o = .returned v ∧ Q_imps Z a1 a2 r1 l1 r2 h0 n0 v U'.heap L ∧ FrameEnd U o U' L ({ frames := 0, cells := 0, slots := 0, locals := 0 } : Room).cells ({ frames := 0, cells := 0, slots := 0, locals := 0 } : Room).slots) := by
  refine MetFree.of_bodySF (plainFor_of_name pn_com_example_imprint_imprint_xslt_ImportPrecedence) hisR ?_
  intro p e s m args below meth c s₁ Bd hml0 hP hK
  obtain ⟨rfl, hZ, hh⟩ := hP
  have hx := Bd.exec
  have hby := Bd.bytes
  have hml : c.maxLocals = 2 := hml0
  have hown : s.vm.findClass "com/example/imprint/imprint/xslt/ImportPrecedence" = some m.cls := findClass_of_methodNamed Bd.named
  have hnm := (name_of_methodNamed Bd.named Bd.method).1
  have X0 : Stand p l e ({ frames := 0, cells := 0, slots := 0, locals := 0 } : Room) s m #[(.ref a1), (.ref a2)] below meth c s₁ [] 0 0 := Stand.of_body Bd
  have e0 : s₁.heap = h0 := by rw [← hh, Bd.state]; rfl
  have N0 := Fr.nil n0
  obtain ⟨A0, hA0⟩ : ∃ z, z = s₁.setTop (entryFrame m #[(.ref a1), (.ref a2)] 2) := ⟨_, rfl⟩
  have K : OGo p e below A0 s₁ (mkF m 0 #[rv a1, rv a2] []) := fun t k => hA0 ▸ castTop (ef_4 m a1 a2) k
  replace K : OGo p e below A0 s₁ (mkF m 1 #[rv a1, rv a2] [(.ref a2)]) := fun t k => K t (XS.aloadN X0.here hx rfl (hb hby d4_0) rfl rfl k)
  obtain ⟨T1, X1, e1, st1⟩ := getF X0 hx hZ hown (host := "") (Or.inl (ow hw 16 rfl)) Via.refl e0 F_rank_a2 (g := (mkF m 1 #[rv a1, rv a2] [(.ref a2)])) rfl rfl (hb hby d4_1)
  replace K : OGo p e below A0 T1 (mkF m 4 #[rv a1, rv a2] [(.int r2)]) := fun t k => K t (st1 t k)
  replace K : OGo p e below A0 T1 (mkF m 5 #[rv a1, rv a2] [(.ref a1), (.int r2)]) := fun t k => K t (XS.aloadN X1.here hx rfl (hb hby d4_4) rfl rfl k)
  obtain ⟨T2, X2, e2, st2⟩ := getF X1 hx hZ hown (host := "") (Or.inl (ow hw 18 rfl)) Via.refl e1 F_lowestImported_a1 (g := (mkF m 5 #[rv a1, rv a2] [(.ref a1), (.int r2)])) rfl rfl (hb hby d4_5)
  replace K : OGo p e below A0 T2 (mkF m 8 #[rv a1, rv a2] [(.int l1), (.int r2)]) := fun t k => K t (st2 t k)
  by_cases hc8 : r2 < l1
  · replace K : OGo p e below A0 T2 (mkF m 26 #[rv a1, rv a2] []) := fun t k => K t (XS.icmpYes X2.here hx rfl (pc0 := 8) (pc' := 26) rfl (hb hby d4_8) rfl (tlt hc8).1 (by decide) (by decide) k)
    replace K : OGo p e below A0 T2 (mkF m 27 #[rv a1, rv a2] [(.int 0)]) := fun t k => K t (XS.iconst X2.here hx rfl (hb hby d4_26) k)
    obtain ⟨fs, hr, hrun, hended, hW, hsame⟩ := X2.leave (v := some (.int (0 : Int32))) (fun h => by rw [Bd.returns] at h; cases h)
    subst hA0
    refine ⟨_, _, K _ (retN X2 hx (t := .boolean) Bd.returns (by simp) (hb hby d4_27) hr), hrun, hended, _, _, rfl, ?_, ⟨_, rfl⟩, hW, hsame.mono (by decide) (by decide)⟩
    show Q_imps Z a1 a2 r1 l1 r2 h0 n0 _ T2.heap _
    rw [e2]
    exact ⟨(by simp [own_imp, hc8]), N0, rfl⟩
  · replace K : OGo p e below A0 T2 (mkF m 11 #[rv a1, rv a2] []) := fun t k => K t (XS.icmpNo X2.here hx rfl (hb hby d4_8) rfl (flt hc8).1 k)
    replace K : OGo p e below A0 T2 (mkF m 12 #[rv a1, rv a2] [(.ref a2)]) := fun t k => K t (XS.aloadN X2.here hx rfl (hb hby d4_11) rfl rfl k)
    obtain ⟨T3, X3, e3, st3⟩ := getF X2 hx hZ hown (host := "") (Or.inl (ow hw 16 rfl)) Via.refl e2 F_rank_a2 (g := (mkF m 12 #[rv a1, rv a2] [(.ref a2)])) rfl rfl (hb hby d4_12)
    replace K : OGo p e below A0 T3 (mkF m 15 #[rv a1, rv a2] [(.int r2)]) := fun t k => K t (st3 t k)
    replace K : OGo p e below A0 T3 (mkF m 16 #[rv a1, rv a2] [(.ref a1), (.int r2)]) := fun t k => K t (XS.aloadN X3.here hx rfl (hb hby d4_15) rfl rfl k)
    obtain ⟨T4, X4, e4, st4⟩ := getF X3 hx hZ hown (host := "") (Or.inl (ow hw 16 rfl)) Via.refl e3 F_rank_a1 (g := (mkF m 16 #[rv a1, rv a2] [(.ref a1), (.int r2)])) rfl rfl (hb hby d4_16)
    replace K : OGo p e below A0 T4 (mkF m 19 #[rv a1, rv a2] [(.int r1), (.int r2)]) := fun t k => K t (st4 t k)
    by_cases hc19 : r2 < r1
    · replace K : OGo p e below A0 T4 (mkF m 22 #[rv a1, rv a2] []) := fun t k => K t (XS.icmpNo X4.here hx rfl (hb hby d4_19) rfl (tlt hc19).2.1 k)
      replace K : OGo p e below A0 T4 (mkF m 23 #[rv a1, rv a2] [(.int 1)]) := fun t k => K t (XS.iconst X4.here hx rfl (hb hby d4_22) k)
      replace K : OGo p e below A0 T4 (mkF m 27 #[rv a1, rv a2] [(.int 1)]) := fun t k => K t (XS.goto X4.here hx rfl (pc0 := 23) (pc' := 27) rfl (hb hby d4_23) (by decide) (by decide) k)
      obtain ⟨fs, hr, hrun, hended, hW, hsame⟩ := X4.leave (v := some (.int (1 : Int32))) (fun h => by rw [Bd.returns] at h; cases h)
      subst hA0
      refine ⟨_, _, K _ (retN X4 hx (t := .boolean) Bd.returns (by simp) (hb hby d4_27) hr), hrun, hended, _, _, rfl, ?_, ⟨_, rfl⟩, hW, hsame.mono (by decide) (by decide)⟩
      show Q_imps Z a1 a2 r1 l1 r2 h0 n0 _ T4.heap _
      rw [e4]
      exact ⟨(by simp [own_imp, hc8, hc19]), N0, rfl⟩
    · replace K : OGo p e below A0 T4 (mkF m 26 #[rv a1, rv a2] []) := fun t k => K t (XS.icmpYes X4.here hx rfl (pc0 := 19) (pc' := 26) rfl (hb hby d4_19) rfl (flt hc19).2.1 (by decide) (by decide) k)
      replace K : OGo p e below A0 T4 (mkF m 27 #[rv a1, rv a2] [(.int 0)]) := fun t k => K t (XS.iconst X4.here hx rfl (hb hby d4_26) k)
      obtain ⟨fs, hr, hrun, hended, hW, hsame⟩ := X4.leave (v := some (.int (0 : Int32))) (fun h => by rw [Bd.returns] at h; cases h)
      subst hA0
      refine ⟨_, _, K _ (retN X4 hx (t := .boolean) Bd.returns (by simp) (hb hby d4_27) hr), hrun, hended, _, _, rfl, ?_, ⟨_, rfl⟩, hW, hsame.mono (by decide) (by decide)⟩
      show Q_imps Z a1 a2 r1 l1 r2 h0 n0 _ T4.heap _
      rw [e4]
      exact ⟨(by simp [own_imp, hc8, hc19]), N0, rfl⟩
theorem pn_com_example_imprint_imprint_xslt_ImportPrecedenceImportsPinLaw : plainName "com/example/imprint/imprint/xslt/ImportPrecedenceImportsPinLaw" = true := by first | (simp [plainName, overriddenIn]; done) | decide +kernel
theorem ef_0 (m : MethodId) (x0 : Int32) (x1 : Int32) (x2 : Int32) : entryFrame m #[(.int x0), (.int x1), (.int x2)] maxLocals = mkF m 0 #[.val (.int x0), .val (.int x1), .val (.int x2), .unset, .unset, .unset, .unset, .unset, .unset, .unset, .unset, .unset, .unset, .unset] [] := by first | (simp [entryFrame, mkF, argsToLocals, Value.category, maxLocals]; done) | rfl
theorem pd__II_I : parseMethodDescriptor "(II)I" = some ⟨[.int, .int], some .int⟩ := by decide +kernel
theorem pd__II_V : parseMethodDescriptor "(II)V" = some ⟨[.int, .int], none⟩ := by decide +kernel
theorem pd__Lcom_example_imprint_imprint_xslt_ImportPrecedence__Z : parseMethodDescriptor "(Lcom/example/imprint/imprint/xslt/ImportPrecedence;)Z" = some ⟨[(.object "com/example/imprint/imprint/xslt/ImportPrecedence")], some .boolean⟩ := by decide +kernel
def Q_law (Z : State) (p1 : Int32) (p2 : Int32) (p3 : Int32) (h0 : Heap) (n0 : Nat) (v : Option Value) (h : Heap) (L : List Loc) : Prop := v = some (.int (1 : Int32)) ∧ Fr n0 L
set_option maxRecDepth 65536 in
set_option maxHeartbeats 40000000 in
theorem rm_law (l : Launch) (Z : State) (a0 : Array Value) (hw : ∀ d ∈ tables_1, d.before a0 Z = true) (ws : List Jvm.Cond) (p1 : Int32) (p2 : Int32) (p3 : Int32) (h0 : Heap) (n0 : Nat) (Z0 : n0 ≤ h0.size) :
    MetFree l x (head1 (Jvm.Cond.code x code maxLocals ret :: ws) room_1) (fun a U => a = #[(.int p1), (.int p2), (.int p3)] ∧ Z.Warmed39 U.vm ∧ U.heap = h0) (fun _ _ _ _ _ => True) (fun _ U o U' => ∃ v L, o = .returned v ∧ Q_law Z p1 p2 p3 h0 n0 v U'.heap L ∧ FrameEnd U o U' L room_1.cells room_1.slots) := by
  refine MetFree.of_bodySF (plainFor_of_name pn_com_example_imprint_imprint_xslt_ImportPrecedenceImportsPinLaw) hisR ?_
  intro p e s m args below meth c s₁ Bd hml0 hP hK
  obtain ⟨rfl, hZ, hh⟩ := hP
  have hx := Bd.exec
  have hby := Bd.bytes
  have hml : c.maxLocals = 14 := hml0
  have hown : s.vm.findClass "com/example/imprint/imprint/xslt/ImportPrecedenceImportsPinLaw" = some m.cls := findClass_of_methodNamed Bd.named
  have hnm := (name_of_methodNamed Bd.named Bd.method).1
  have X0 : Stand p l e room_1 s m #[(.int p1), (.int p2), (.int p3)] below meth c s₁ [] 0 0 := Stand.of_body Bd
  have e0 : s₁.heap = h0 := by rw [← hh, Bd.state]; rfl
  have N0 := Fr.nil n0
  obtain ⟨A0, hA0⟩ : ∃ z, z = s₁.setTop (entryFrame m #[(.int p1), (.int p2), (.int p3)] maxLocals) := ⟨_, rfl⟩
  have K : OGo p e below A0 s₁ (mkF m 0 #[iv p1, iv p2, iv p3, .unset, .unset, .unset, .unset, .unset, .unset, .unset, .unset, .unset, .unset, .unset] []) := fun t k => hA0 ▸ castTop (ef_0 m p1 p2 p3) k
  replace K : OGo p e below A0 s₁ (mkF m 1 #[iv p1, iv p2, iv p3, .unset, .unset, .unset, .unset, .unset, .unset, .unset, .unset, .unset, .unset, .unset] [(.int p1)]) := fun t k => K t (XS.iloadN X0.here hx rfl (hb hby at_0) rfl k)
  replace K : OGo p e below A0 s₁ (mkF m 3 #[iv p1, iv p2, iv p3, .unset, .unset, .unset, .unset, .unset, .unset, .unset, .unset, .unset, .unset, .unset] [(.int 2147483647), (.int p1)]) := fun t k => K t (X0.ldcInt hx hown (mvT hZ (ow hw 0 rfl)) (g := (mkF m 1 #[iv p1, iv p2, iv p3, .unset, .unset, .unset, .unset, .unset, .unset, .unset, .unset, .unset, .unset, .unset] [(.int p1)])) rfl (hb hby at_1) t k)
  replace K : OGo p e below A0 s₁ (mkF m 4 #[iv p1, iv p2, iv p3, .unset, .unset, .unset, .unset, .unset, .unset, .unset, .unset, .unset, .unset, .unset] [(.int (p1 &&& (2147483647 : Int32)))]) := fun t k => K t (XS.iand X0.here hx rfl (hb hby at_3) rfl k)
  replace K : OGo p e below A0 s₁ (mkF m 6 #[iv p1, iv p2, iv p3, .unset, .unset, .unset, .unset, .unset, .unset, .unset, .unset, .unset, .unset, .unset] [(.int 6), (.int (p1 &&& (2147483647 : Int32)))]) := fun t k => K t (XS.bipush X0.here hx rfl (hb hby at_4) k)
  replace K : OGo p e below A0 s₁ (mkF m 7 #[iv p1, iv p2, iv p3, .unset, .unset, .unset, .unset, .unset, .unset, .unset, .unset, .unset, .unset, .unset] [(.int ((p1 &&& (2147483647 : Int32)) % (6 : Int32)))]) := fun t k => K t (iremM X0 hx rfl (hb hby at_6) rfl (by decide) k)
  obtain ⟨i, hv_i⟩ : ∃ z : Int32, z = ((p1 &&& (2147483647 : Int32)) % (6 : Int32)) := ⟨_, rfl⟩
  rw [← hv_i] at K
  have h6i : own_six i := hv_i ▸ own_is6 p1
  replace K : OGo p e below A0 s₁ (mkF m 8 #[iv p1, iv p2, iv p3, iv i, .unset, .unset, .unset, .unset, .unset, .unset, .unset, .unset, .unset, .unset] []) := fun t k => K t (XS.istoreN X0.here hx rfl (hb hby at_7) rfl (l' := #[iv p1, iv p2, iv p3, iv i, .unset, .unset, .unset, .unset, .unset, .unset, .unset, .unset, .unset, .unset]) rfl k)
  replace K : OGo p e below A0 s₁ (mkF m 9 #[iv p1, iv p2, iv p3, iv i, .unset, .unset, .unset, .unset, .unset, .unset, .unset, .unset, .unset, .unset] [(.int p2)]) := fun t k => K t (XS.iloadN X0.here hx rfl (hb hby at_8) rfl k)
  replace K : OGo p e below A0 s₁ (mkF m 11 #[iv p1, iv p2, iv p3, iv i, .unset, .unset, .unset, .unset, .unset, .unset, .unset, .unset, .unset, .unset] [(.int 2147483647), (.int p2)]) := fun t k => K t (X0.ldcInt hx hown (mvT hZ (ow hw 0 rfl)) (g := (mkF m 9 #[iv p1, iv p2, iv p3, iv i, .unset, .unset, .unset, .unset, .unset, .unset, .unset, .unset, .unset, .unset] [(.int p2)])) rfl (hb hby at_9) t k)
  replace K : OGo p e below A0 s₁ (mkF m 12 #[iv p1, iv p2, iv p3, iv i, .unset, .unset, .unset, .unset, .unset, .unset, .unset, .unset, .unset, .unset] [(.int (p2 &&& (2147483647 : Int32)))]) := fun t k => K t (XS.iand X0.here hx rfl (hb hby at_11) rfl k)
  replace K : OGo p e below A0 s₁ (mkF m 14 #[iv p1, iv p2, iv p3, iv i, .unset, .unset, .unset, .unset, .unset, .unset, .unset, .unset, .unset, .unset] [(.int 6), (.int (p2 &&& (2147483647 : Int32)))]) := fun t k => K t (XS.bipush X0.here hx rfl (hb hby at_12) k)
  replace K : OGo p e below A0 s₁ (mkF m 15 #[iv p1, iv p2, iv p3, iv i, .unset, .unset, .unset, .unset, .unset, .unset, .unset, .unset, .unset, .unset] [(.int ((p2 &&& (2147483647 : Int32)) % (6 : Int32)))]) := fun t k => K t (iremM X0 hx rfl (hb hby at_14) rfl (by decide) k)
  obtain ⟨j, hv_j⟩ : ∃ z : Int32, z = ((p2 &&& (2147483647 : Int32)) % (6 : Int32)) := ⟨_, rfl⟩
  rw [← hv_j] at K
  have h6j : own_six j := hv_j ▸ own_is6 p2
  replace K : OGo p e below A0 s₁ (mkF m 17 #[iv p1, iv p2, iv p3, iv i, iv j, .unset, .unset, .unset, .unset, .unset, .unset, .unset, .unset, .unset] []) := fun t k => K t (XS.istore X0.here hx rfl (hb hby at_15) rfl (l' := #[iv p1, iv p2, iv p3, iv i, iv j, .unset, .unset, .unset, .unset, .unset, .unset, .unset, .unset, .unset]) rfl k)
  replace K : OGo p e below A0 s₁ (mkF m 18 #[iv p1, iv p2, iv p3, iv i, iv j, .unset, .unset, .unset, .unset, .unset, .unset, .unset, .unset, .unset] [(.int p3)]) := fun t k => K t (XS.iloadN X0.here hx rfl (hb hby at_17) rfl k)
  replace K : OGo p e below A0 s₁ (mkF m 20 #[iv p1, iv p2, iv p3, iv i, iv j, .unset, .unset, .unset, .unset, .unset, .unset, .unset, .unset, .unset] [(.int 2147483647), (.int p3)]) := fun t k => K t (X0.ldcInt hx hown (mvT hZ (ow hw 0 rfl)) (g := (mkF m 18 #[iv p1, iv p2, iv p3, iv i, iv j, .unset, .unset, .unset, .unset, .unset, .unset, .unset, .unset, .unset] [(.int p3)])) rfl (hb hby at_18) t k)
  replace K : OGo p e below A0 s₁ (mkF m 21 #[iv p1, iv p2, iv p3, iv i, iv j, .unset, .unset, .unset, .unset, .unset, .unset, .unset, .unset, .unset] [(.int (p3 &&& (2147483647 : Int32)))]) := fun t k => K t (XS.iand X0.here hx rfl (hb hby at_20) rfl k)
  replace K : OGo p e below A0 s₁ (mkF m 23 #[iv p1, iv p2, iv p3, iv i, iv j, .unset, .unset, .unset, .unset, .unset, .unset, .unset, .unset, .unset] [(.int 2147483642), (.int (p3 &&& (2147483647 : Int32)))]) := fun t k => K t (X0.ldcInt hx hown (mvT hZ (ow hw 1 rfl)) (g := (mkF m 21 #[iv p1, iv p2, iv p3, iv i, iv j, .unset, .unset, .unset, .unset, .unset, .unset, .unset, .unset, .unset] [(.int (p3 &&& (2147483647 : Int32)))])) rfl (hb hby at_21) t k)
  obtain ⟨_, _, ⟨T1, L1, k1, n1⟩, -, X1, ⟨Lc1, hQ1, l1, y1, z1⟩, st1⟩ := Jvm.LawKit.callS X0 hx (y := mN0) hown (mvT hZ (ow hw 2 rfl)) (mvT hZ (ow hw 3 rfl)) (mvT hZ (ow hw 4 rfl)) (mvT hZ (ow hw 5 rfl)) (by decide) (backOf (W := 0) (rm_min l Z a0 hw [] (p3 &&& (2147483647 : Int32)) (2147483642 : Int32) h0 n0 Z0 ) hZ (ow hw 5 rfl) (ow hw 4 rfl) (by decide) (by decide)) (g := (mkF m 23 #[iv p1, iv p2, iv p3, iv i, iv j, .unset, .unset, .unset, .unset, .unset, .unset, .unset, .unset, .unset] [(.int 2147483642), (.int (p3 &&& (2147483647 : Int32)))])) rfl (by rw [hml]; rfl) (argsL := [(.int (p3 &&& (2147483647 : Int32))), (.int (2147483642 : Int32))]) (rest := []) (lenOf pd__II_I rfl) rfl (by show 2 * 0 + _ ≤ _; exact Nat.le_of_eq rfl) (hb hby at_23) (fun _ _ => ⟨rfl, e0, (by decide : 0 + 0 ≤ _), (by decide : 0 + 0 ≤ _)⟩)
  dsimp only [Pt.U, Pt.locs, Pt.cells, Pt.slots] at X1 l1 y1 z1 st1 hQ1
  subst l1 y1 z1
  obtain ⟨rfl, Nq1, e1⟩ := hQ1
  have N1 := Fr.app N0 Nq1
  replace K : OGo p e below A0 T1 (mkF m 26 #[iv p1, iv p2, iv p3, iv i, iv j, .unset, .unset, .unset, .unset, .unset, .unset, .unset, .unset, .unset] [(.int (own_min (p3 &&& (2147483647 : Int32)) (2147483642 : Int32)))]) := fun t k => K t (st1 t k)
  obtain ⟨bs, hv_bs⟩ : ∃ z : Int32, z = (own_min (p3 &&& (2147483647 : Int32)) (2147483642 : Int32)) := ⟨_, rfl⟩
  rw [← hv_bs] at K
  have hbs : 0 ≤ bs.toInt ∧ bs.toInt ≤ 2147483642 := hv_bs ▸ own_minb p3
  replace K : OGo p e below A0 T1 (mkF m 28 #[iv p1, iv p2, iv p3, iv i, iv j, iv bs, .unset, .unset, .unset, .unset, .unset, .unset, .unset, .unset] []) := fun t k => K t (XS.istore X1.here hx rfl (hb hby at_26) rfl (l' := #[iv p1, iv p2, iv p3, iv i, iv j, iv bs, .unset, .unset, .unset, .unset, .unset, .unset, .unset, .unset]) rfl k)
  replace K : OGo p e below A0 T1 (mkF m 30 #[iv p1, iv p2, iv p3, iv i, iv j, iv bs, .unset, .unset, .unset, .unset, .unset, .unset, .unset, .unset] [(.int 6)]) := fun t k => K t (XS.bipush X1.here hx rfl (hb hby at_28) k)
  obtain ⟨T2, h2, k2, X2, e2, E2, A2, Q2, st2⟩ := newPE X1 hx hZ (ow hw 6 rfl) e1 (g := (mkF m 30 #[iv p1, iv p2, iv p3, iv i, iv j, iv bs, .unset, .unset, .unset, .unset, .unset, .unset, .unset, .unset] [(.int 6)])) rfl (hb hby at_30) rfl (by decide) (cap := 6) (by decide) (by decide) (by decide) (by decide) (ad := "[I") (by decide)
  obtain ⟨b2, gz2⟩ : ∃ z, z = h0.size := ⟨_, rfl⟩
  rw [← gz2] at A2 Q2 st2
  have g_b2 : n0 ≤ b2 := Nat.le_trans Z0 (Nat.le_of_eq gz2.symm)
  have Z2 : n0 ≤ h2.size := Nat.le_trans Z0 E2.1
  have V_b2 : OAr Z h2 b2 k2 .int [(.int (0 : Int32)), (.int (0 : Int32)), (.int (0 : Int32)), (.int (0 : Int32)), (.int (0 : Int32)), (.int (0 : Int32))] := OAr.new A2
  replace K : OGo p e below A0 T2 (mkF m 32 #[iv p1, iv p2, iv p3, iv i, iv j, iv bs, .unset, .unset, .unset, .unset, .unset, .unset, .unset, .unset] [(.ref b2)]) := fun t k => K t (st2 t k)
  replace K : OGo p e below A0 T2 (mkF m 33 #[iv p1, iv p2, iv p3, iv i, iv j, iv bs, .unset, .unset, .unset, .unset, .unset, .unset, .unset, .unset] [(.ref b2), (.ref b2)]) := fun t k => K t (XS.dup X2.here hx rfl (hb hby at_32) rfl rfl k)
  replace K : OGo p e below A0 T2 (mkF m 34 #[iv p1, iv p2, iv p3, iv i, iv j, iv bs, .unset, .unset, .unset, .unset, .unset, .unset, .unset, .unset] [(.int 0), (.ref b2), (.ref b2)]) := fun t k => K t (XS.iconst X2.here hx rfl (hb hby at_33) k)
  replace K : OGo p e below A0 T2 (mkF m 35 #[iv p1, iv p2, iv p3, iv i, iv j, iv bs, .unset, .unset, .unset, .unset, .unset, .unset, .unset, .unset] [(.int 0), (.int 0), (.ref b2), (.ref b2)]) := fun t k => K t (XS.iconst X2.here hx rfl (hb hby at_34) k)
  obtain ⟨T3, h3, X3, e3, W3, V3, st3⟩ := own_stI X2 hx hZ e2 V_b2 (j := (0 : Int32)) (by decide) (by decide) (g := (mkF m 35 #[iv p1, iv p2, iv p3, iv i, iv j, iv bs, .unset, .unset, .unset, .unset, .unset, .unset, .unset, .unset] [(.int 0), (.int 0), (.ref b2), (.ref b2)])) rfl rfl (hb hby at_35)
  have Z3 : n0 ≤ h3.size := Nat.le_trans Z2 (Keep.of_wr W3).1
  have V_b2_3 : OAr Z h3 b2 k2 .int [(.int (0 : Int32)), (.int (0 : Int32)), (.int (0 : Int32)), (.int (0 : Int32)), (.int (0 : Int32)), (.int (0 : Int32))] := V3
  have N3 := Fr.snoc X3 N1 g_b2
  replace K : OGo p e below A0 T3 (mkF m 36 #[iv p1, iv p2, iv p3, iv i, iv j, iv bs, .unset, .unset, .unset, .unset, .unset, .unset, .unset, .unset] [(.ref b2)]) := fun t k => K t (st3 t k)
  replace K : OGo p e below A0 T3 (mkF m 37 #[iv p1, iv p2, iv p3, iv i, iv j, iv bs, .unset, .unset, .unset, .unset, .unset, .unset, .unset, .unset] [(.ref b2), (.ref b2)]) := fun t k => K t (XS.dup X3.here hx rfl (hb hby at_36) rfl rfl k)
  replace K : OGo p e below A0 T3 (mkF m 38 #[iv p1, iv p2, iv p3, iv i, iv j, iv bs, .unset, .unset, .unset, .unset, .unset, .unset, .unset, .unset] [(.int 1), (.ref b2), (.ref b2)]) := fun t k => K t (XS.iconst X3.here hx rfl (hb hby at_37) k)
  replace K : OGo p e below A0 T3 (mkF m 39 #[iv p1, iv p2, iv p3, iv i, iv j, iv bs, .unset, .unset, .unset, .unset, .unset, .unset, .unset, .unset] [(.int 1), (.int 1), (.ref b2), (.ref b2)]) := fun t k => K t (XS.iconst X3.here hx rfl (hb hby at_38) k)
  obtain ⟨T4, h4, X4, e4, W4, V4, st4⟩ := own_stI X3 hx hZ e3 V_b2_3 (j := (1 : Int32)) (by decide) (by decide) (g := (mkF m 39 #[iv p1, iv p2, iv p3, iv i, iv j, iv bs, .unset, .unset, .unset, .unset, .unset, .unset, .unset, .unset] [(.int 1), (.int 1), (.ref b2), (.ref b2)])) rfl rfl (hb hby at_39)
  have Z4 : n0 ≤ h4.size := Nat.le_trans Z3 (Keep.of_wr W4).1
  have V_b2_4 : OAr Z h4 b2 k2 .int [(.int (0 : Int32)), (.int (1 : Int32)), (.int (0 : Int32)), (.int (0 : Int32)), (.int (0 : Int32)), (.int (0 : Int32))] := V4
  have N4 := Fr.snoc X4 N3 g_b2
  replace K : OGo p e below A0 T4 (mkF m 40 #[iv p1, iv p2, iv p3, iv i, iv j, iv bs, .unset, .unset, .unset, .unset, .unset, .unset, .unset, .unset] [(.ref b2)]) := fun t k => K t (st4 t k)
  replace K : OGo p e below A0 T4 (mkF m 41 #[iv p1, iv p2, iv p3, iv i, iv j, iv bs, .unset, .unset, .unset, .unset, .unset, .unset, .unset, .unset] [(.ref b2), (.ref b2)]) := fun t k => K t (XS.dup X4.here hx rfl (hb hby at_40) rfl rfl k)
  replace K : OGo p e below A0 T4 (mkF m 42 #[iv p1, iv p2, iv p3, iv i, iv j, iv bs, .unset, .unset, .unset, .unset, .unset, .unset, .unset, .unset] [(.int 2), (.ref b2), (.ref b2)]) := fun t k => K t (XS.iconst X4.here hx rfl (hb hby at_41) k)
  replace K : OGo p e below A0 T4 (mkF m 43 #[iv p1, iv p2, iv p3, iv i, iv j, iv bs, .unset, .unset, .unset, .unset, .unset, .unset, .unset, .unset] [(.int 2), (.int 2), (.ref b2), (.ref b2)]) := fun t k => K t (XS.iconst X4.here hx rfl (hb hby at_42) k)
  obtain ⟨T5, h5, X5, e5, W5, V5, st5⟩ := own_stI X4 hx hZ e4 V_b2_4 (j := (2 : Int32)) (by decide) (by decide) (g := (mkF m 43 #[iv p1, iv p2, iv p3, iv i, iv j, iv bs, .unset, .unset, .unset, .unset, .unset, .unset, .unset, .unset] [(.int 2), (.int 2), (.ref b2), (.ref b2)])) rfl rfl (hb hby at_43)
  have Z5 : n0 ≤ h5.size := Nat.le_trans Z4 (Keep.of_wr W5).1
  have V_b2_5 : OAr Z h5 b2 k2 .int [(.int (0 : Int32)), (.int (1 : Int32)), (.int (2 : Int32)), (.int (0 : Int32)), (.int (0 : Int32)), (.int (0 : Int32))] := V5
  have N5 := Fr.snoc X5 N4 g_b2
  replace K : OGo p e below A0 T5 (mkF m 44 #[iv p1, iv p2, iv p3, iv i, iv j, iv bs, .unset, .unset, .unset, .unset, .unset, .unset, .unset, .unset] [(.ref b2)]) := fun t k => K t (st5 t k)
  replace K : OGo p e below A0 T5 (mkF m 45 #[iv p1, iv p2, iv p3, iv i, iv j, iv bs, .unset, .unset, .unset, .unset, .unset, .unset, .unset, .unset] [(.ref b2), (.ref b2)]) := fun t k => K t (XS.dup X5.here hx rfl (hb hby at_44) rfl rfl k)
  replace K : OGo p e below A0 T5 (mkF m 46 #[iv p1, iv p2, iv p3, iv i, iv j, iv bs, .unset, .unset, .unset, .unset, .unset, .unset, .unset, .unset] [(.int 3), (.ref b2), (.ref b2)]) := fun t k => K t (XS.iconst X5.here hx rfl (hb hby at_45) k)
  replace K : OGo p e below A0 T5 (mkF m 47 #[iv p1, iv p2, iv p3, iv i, iv j, iv bs, .unset, .unset, .unset, .unset, .unset, .unset, .unset, .unset] [(.int 3), (.int 3), (.ref b2), (.ref b2)]) := fun t k => K t (XS.iconst X5.here hx rfl (hb hby at_46) k)
  obtain ⟨T6, h6, X6, e6, W6, V6, st6⟩ := own_stI X5 hx hZ e5 V_b2_5 (j := (3 : Int32)) (by decide) (by decide) (g := (mkF m 47 #[iv p1, iv p2, iv p3, iv i, iv j, iv bs, .unset, .unset, .unset, .unset, .unset, .unset, .unset, .unset] [(.int 3), (.int 3), (.ref b2), (.ref b2)])) rfl rfl (hb hby at_47)
  have Z6 : n0 ≤ h6.size := Nat.le_trans Z5 (Keep.of_wr W6).1
  have V_b2_6 : OAr Z h6 b2 k2 .int [(.int (0 : Int32)), (.int (1 : Int32)), (.int (2 : Int32)), (.int (3 : Int32)), (.int (0 : Int32)), (.int (0 : Int32))] := V6
  have N6 := Fr.snoc X6 N5 g_b2
  replace K : OGo p e below A0 T6 (mkF m 48 #[iv p1, iv p2, iv p3, iv i, iv j, iv bs, .unset, .unset, .unset, .unset, .unset, .unset, .unset, .unset] [(.ref b2)]) := fun t k => K t (st6 t k)
  replace K : OGo p e below A0 T6 (mkF m 49 #[iv p1, iv p2, iv p3, iv i, iv j, iv bs, .unset, .unset, .unset, .unset, .unset, .unset, .unset, .unset] [(.ref b2), (.ref b2)]) := fun t k => K t (XS.dup X6.here hx rfl (hb hby at_48) rfl rfl k)
  replace K : OGo p e below A0 T6 (mkF m 50 #[iv p1, iv p2, iv p3, iv i, iv j, iv bs, .unset, .unset, .unset, .unset, .unset, .unset, .unset, .unset] [(.int 4), (.ref b2), (.ref b2)]) := fun t k => K t (XS.iconst X6.here hx rfl (hb hby at_49) k)
  replace K : OGo p e below A0 T6 (mkF m 51 #[iv p1, iv p2, iv p3, iv i, iv j, iv bs, .unset, .unset, .unset, .unset, .unset, .unset, .unset, .unset] [(.int 4), (.int 4), (.ref b2), (.ref b2)]) := fun t k => K t (XS.iconst X6.here hx rfl (hb hby at_50) k)
  obtain ⟨T7, h7, X7, e7, W7, V7, st7⟩ := own_stI X6 hx hZ e6 V_b2_6 (j := (4 : Int32)) (by decide) (by decide) (g := (mkF m 51 #[iv p1, iv p2, iv p3, iv i, iv j, iv bs, .unset, .unset, .unset, .unset, .unset, .unset, .unset, .unset] [(.int 4), (.int 4), (.ref b2), (.ref b2)])) rfl rfl (hb hby at_51)
  have Z7 : n0 ≤ h7.size := Nat.le_trans Z6 (Keep.of_wr W7).1
  have V_b2_7 : OAr Z h7 b2 k2 .int [(.int (0 : Int32)), (.int (1 : Int32)), (.int (2 : Int32)), (.int (3 : Int32)), (.int (4 : Int32)), (.int (0 : Int32))] := V7
  have N7 := Fr.snoc X7 N6 g_b2
  replace K : OGo p e below A0 T7 (mkF m 52 #[iv p1, iv p2, iv p3, iv i, iv j, iv bs, .unset, .unset, .unset, .unset, .unset, .unset, .unset, .unset] [(.ref b2)]) := fun t k => K t (st7 t k)
  replace K : OGo p e below A0 T7 (mkF m 53 #[iv p1, iv p2, iv p3, iv i, iv j, iv bs, .unset, .unset, .unset, .unset, .unset, .unset, .unset, .unset] [(.ref b2), (.ref b2)]) := fun t k => K t (XS.dup X7.here hx rfl (hb hby at_52) rfl rfl k)
  replace K : OGo p e below A0 T7 (mkF m 54 #[iv p1, iv p2, iv p3, iv i, iv j, iv bs, .unset, .unset, .unset, .unset, .unset, .unset, .unset, .unset] [(.int 5), (.ref b2), (.ref b2)]) := fun t k => K t (XS.iconst X7.here hx rfl (hb hby at_53) k)
  replace K : OGo p e below A0 T7 (mkF m 55 #[iv p1, iv p2, iv p3, iv i, iv j, iv bs, .unset, .unset, .unset, .unset, .unset, .unset, .unset, .unset] [(.int 5), (.int 5), (.ref b2), (.ref b2)]) := fun t k => K t (XS.iconst X7.here hx rfl (hb hby at_54) k)
  obtain ⟨T8, h8, X8, e8, W8, V8, st8⟩ := own_stI X7 hx hZ e7 V_b2_7 (j := (5 : Int32)) (by decide) (by decide) (g := (mkF m 55 #[iv p1, iv p2, iv p3, iv i, iv j, iv bs, .unset, .unset, .unset, .unset, .unset, .unset, .unset, .unset] [(.int 5), (.int 5), (.ref b2), (.ref b2)])) rfl rfl (hb hby at_55)
  have Z8 : n0 ≤ h8.size := Nat.le_trans Z7 (Keep.of_wr W8).1
  have V_b2_8 : OAr Z h8 b2 k2 .int [(.int (0 : Int32)), (.int (1 : Int32)), (.int (2 : Int32)), (.int (3 : Int32)), (.int (4 : Int32)), (.int (5 : Int32))] := V8
  have N8 := Fr.snoc X8 N7 g_b2
  replace K : OGo p e below A0 T8 (mkF m 56 #[iv p1, iv p2, iv p3, iv i, iv j, iv bs, .unset, .unset, .unset, .unset, .unset, .unset, .unset, .unset] [(.ref b2)]) := fun t k => K t (st8 t k)
  replace K : OGo p e below A0 T8 (mkF m 58 #[iv p1, iv p2, iv p3, iv i, iv j, iv bs, rv b2, .unset, .unset, .unset, .unset, .unset, .unset, .unset] []) := fun t k => K t (XS.astore X8.here hx rfl (hb hby at_56) rfl rfl (l' := #[iv p1, iv p2, iv p3, iv i, iv j, iv bs, rv b2, .unset, .unset, .unset, .unset, .unset, .unset, .unset]) rfl k)
  replace K : OGo p e below A0 T8 (mkF m 60 #[iv p1, iv p2, iv p3, iv i, iv j, iv bs, rv b2, .unset, .unset, .unset, .unset, .unset, .unset, .unset] [(.int 6)]) := fun t k => K t (XS.bipush X8.here hx rfl (hb hby at_58) k)
  obtain ⟨T9, h9, k9, X9, e9, E9, A9, Q9, st9⟩ := newPE X8 hx hZ (ow hw 6 rfl) e8 (g := (mkF m 60 #[iv p1, iv p2, iv p3, iv i, iv j, iv bs, rv b2, .unset, .unset, .unset, .unset, .unset, .unset, .unset] [(.int 6)])) rfl (hb hby at_60) rfl (by decide) (cap := 6) (by decide) (by decide) (by decide) (by decide) (ad := "[I") (by decide)
  obtain ⟨b9, gz9⟩ : ∃ z, z = h8.size := ⟨_, rfl⟩
  rw [← gz9] at A9 Q9 st9
  have Q2_10 := ((((((Q2.wr W3).wr W4).wr W5).wr W6).wr W7).wr W8)
  have ne_b2_b9 : b2 ≠ b9 := Nat.ne_of_lt (Nat.lt_of_lt_of_le Q2_10.lt (Nat.le_of_eq gz9.symm))
  have g_b9 : n0 ≤ b9 := Nat.le_trans Z8 (Nat.le_of_eq gz9.symm)
  have Z9 : n0 ≤ h9.size := Nat.le_trans Z8 E9.1
  have V_b9 : OAr Z h9 b9 k9 .int [(.int (0 : Int32)), (.int (0 : Int32)), (.int (0 : Int32)), (.int (0 : Int32)), (.int (0 : Int32)), (.int (0 : Int32))] := OAr.new A9
  replace K : OGo p e below A0 T9 (mkF m 62 #[iv p1, iv p2, iv p3, iv i, iv j, iv bs, rv b2, .unset, .unset, .unset, .unset, .unset, .unset, .unset] [(.ref b9)]) := fun t k => K t (st9 t k)
  replace K : OGo p e below A0 T9 (mkF m 63 #[iv p1, iv p2, iv p3, iv i, iv j, iv bs, rv b2, .unset, .unset, .unset, .unset, .unset, .unset, .unset] [(.ref b9), (.ref b9)]) := fun t k => K t (XS.dup X9.here hx rfl (hb hby at_62) rfl rfl k)
  replace K : OGo p e below A0 T9 (mkF m 64 #[iv p1, iv p2, iv p3, iv i, iv j, iv bs, rv b2, .unset, .unset, .unset, .unset, .unset, .unset, .unset] [(.int 0), (.ref b9), (.ref b9)]) := fun t k => K t (XS.iconst X9.here hx rfl (hb hby at_63) k)
  replace K : OGo p e below A0 T9 (mkF m 65 #[iv p1, iv p2, iv p3, iv i, iv j, iv bs, rv b2, .unset, .unset, .unset, .unset, .unset, .unset, .unset] [(.int 0), (.int 0), (.ref b9), (.ref b9)]) := fun t k => K t (XS.iconst X9.here hx rfl (hb hby at_64) k)
  obtain ⟨T11, h11, X11, e11, W11, V11, st11⟩ := own_stI X9 hx hZ e9 V_b9 (j := (0 : Int32)) (by decide) (by decide) (g := (mkF m 65 #[iv p1, iv p2, iv p3, iv i, iv j, iv bs, rv b2, .unset, .unset, .unset, .unset, .unset, .unset, .unset] [(.int 0), (.int 0), (.ref b9), (.ref b9)])) rfl rfl (hb hby at_65)
  have Z11 : n0 ≤ h11.size := Nat.le_trans Z9 (Keep.of_wr W11).1
  have V_b9_11 : OAr Z h11 b9 k9 .int [(.int (0 : Int32)), (.int (0 : Int32)), (.int (0 : Int32)), (.int (0 : Int32)), (.int (0 : Int32)), (.int (0 : Int32))] := V11
  have N11 := Fr.snoc X11 N8 g_b9
  replace K : OGo p e below A0 T11 (mkF m 66 #[iv p1, iv p2, iv p3, iv i, iv j, iv bs, rv b2, .unset, .unset, .unset, .unset, .unset, .unset, .unset] [(.ref b9)]) := fun t k => K t (st11 t k)
  replace K : OGo p e below A0 T11 (mkF m 67 #[iv p1, iv p2, iv p3, iv i, iv j, iv bs, rv b2, .unset, .unset, .unset, .unset, .unset, .unset, .unset] [(.ref b9), (.ref b9)]) := fun t k => K t (XS.dup X11.here hx rfl (hb hby at_66) rfl rfl k)
  replace K : OGo p e below A0 T11 (mkF m 68 #[iv p1, iv p2, iv p3, iv i, iv j, iv bs, rv b2, .unset, .unset, .unset, .unset, .unset, .unset, .unset] [(.int 1), (.ref b9), (.ref b9)]) := fun t k => K t (XS.iconst X11.here hx rfl (hb hby at_67) k)
  replace K : OGo p e below A0 T11 (mkF m 69 #[iv p1, iv p2, iv p3, iv i, iv j, iv bs, rv b2, .unset, .unset, .unset, .unset, .unset, .unset, .unset] [(.int 1), (.int 1), (.ref b9), (.ref b9)]) := fun t k => K t (XS.iconst X11.here hx rfl (hb hby at_68) k)
  obtain ⟨T12, h12, X12, e12, W12, V12, st12⟩ := own_stI X11 hx hZ e11 V_b9_11 (j := (1 : Int32)) (by decide) (by decide) (g := (mkF m 69 #[iv p1, iv p2, iv p3, iv i, iv j, iv bs, rv b2, .unset, .unset, .unset, .unset, .unset, .unset, .unset] [(.int 1), (.int 1), (.ref b9), (.ref b9)])) rfl rfl (hb hby at_69)
  have Z12 : n0 ≤ h12.size := Nat.le_trans Z11 (Keep.of_wr W12).1
  have V_b9_12 : OAr Z h12 b9 k9 .int [(.int (0 : Int32)), (.int (1 : Int32)), (.int (0 : Int32)), (.int (0 : Int32)), (.int (0 : Int32)), (.int (0 : Int32))] := V12
  have N12 := Fr.snoc X12 N11 g_b9
  replace K : OGo p e below A0 T12 (mkF m 70 #[iv p1, iv p2, iv p3, iv i, iv j, iv bs, rv b2, .unset, .unset, .unset, .unset, .unset, .unset, .unset] [(.ref b9)]) := fun t k => K t (st12 t k)
  replace K : OGo p e below A0 T12 (mkF m 71 #[iv p1, iv p2, iv p3, iv i, iv j, iv bs, rv b2, .unset, .unset, .unset, .unset, .unset, .unset, .unset] [(.ref b9), (.ref b9)]) := fun t k => K t (XS.dup X12.here hx rfl (hb hby at_70) rfl rfl k)
  replace K : OGo p e below A0 T12 (mkF m 72 #[iv p1, iv p2, iv p3, iv i, iv j, iv bs, rv b2, .unset, .unset, .unset, .unset, .unset, .unset, .unset] [(.int 2), (.ref b9), (.ref b9)]) := fun t k => K t (XS.iconst X12.here hx rfl (hb hby at_71) k)
  replace K : OGo p e below A0 T12 (mkF m 73 #[iv p1, iv p2, iv p3, iv i, iv j, iv bs, rv b2, .unset, .unset, .unset, .unset, .unset, .unset, .unset] [(.int 0), (.int 2), (.ref b9), (.ref b9)]) := fun t k => K t (XS.iconst X12.here hx rfl (hb hby at_72) k)
  obtain ⟨T13, h13, X13, e13, W13, V13, st13⟩ := own_stI X12 hx hZ e12 V_b9_12 (j := (2 : Int32)) (by decide) (by decide) (g := (mkF m 73 #[iv p1, iv p2, iv p3, iv i, iv j, iv bs, rv b2, .unset, .unset, .unset, .unset, .unset, .unset, .unset] [(.int 0), (.int 2), (.ref b9), (.ref b9)])) rfl rfl (hb hby at_73)
  have Z13 : n0 ≤ h13.size := Nat.le_trans Z12 (Keep.of_wr W13).1
  have V_b9_13 : OAr Z h13 b9 k9 .int [(.int (0 : Int32)), (.int (1 : Int32)), (.int (0 : Int32)), (.int (0 : Int32)), (.int (0 : Int32)), (.int (0 : Int32))] := V13
  have N13 := Fr.snoc X13 N12 g_b9
  replace K : OGo p e below A0 T13 (mkF m 74 #[iv p1, iv p2, iv p3, iv i, iv j, iv bs, rv b2, .unset, .unset, .unset, .unset, .unset, .unset, .unset] [(.ref b9)]) := fun t k => K t (st13 t k)
  replace K : OGo p e below A0 T13 (mkF m 75 #[iv p1, iv p2, iv p3, iv i, iv j, iv bs, rv b2, .unset, .unset, .unset, .unset, .unset, .unset, .unset] [(.ref b9), (.ref b9)]) := fun t k => K t (XS.dup X13.here hx rfl (hb hby at_74) rfl rfl k)
  replace K : OGo p e below A0 T13 (mkF m 76 #[iv p1, iv p2, iv p3, iv i, iv j, iv bs, rv b2, .unset, .unset, .unset, .unset, .unset, .unset, .unset] [(.int 3), (.ref b9), (.ref b9)]) := fun t k => K t (XS.iconst X13.here hx rfl (hb hby at_75) k)
  replace K : OGo p e below A0 T13 (mkF m 77 #[iv p1, iv p2, iv p3, iv i, iv j, iv bs, rv b2, .unset, .unset, .unset, .unset, .unset, .unset, .unset] [(.int 3), (.int 3), (.ref b9), (.ref b9)]) := fun t k => K t (XS.iconst X13.here hx rfl (hb hby at_76) k)
  obtain ⟨T14, h14, X14, e14, W14, V14, st14⟩ := own_stI X13 hx hZ e13 V_b9_13 (j := (3 : Int32)) (by decide) (by decide) (g := (mkF m 77 #[iv p1, iv p2, iv p3, iv i, iv j, iv bs, rv b2, .unset, .unset, .unset, .unset, .unset, .unset, .unset] [(.int 3), (.int 3), (.ref b9), (.ref b9)])) rfl rfl (hb hby at_77)
  have Z14 : n0 ≤ h14.size := Nat.le_trans Z13 (Keep.of_wr W14).1
  have V_b9_14 : OAr Z h14 b9 k9 .int [(.int (0 : Int32)), (.int (1 : Int32)), (.int (0 : Int32)), (.int (3 : Int32)), (.int (0 : Int32)), (.int (0 : Int32))] := V14
  have N14 := Fr.snoc X14 N13 g_b9
  replace K : OGo p e below A0 T14 (mkF m 78 #[iv p1, iv p2, iv p3, iv i, iv j, iv bs, rv b2, .unset, .unset, .unset, .unset, .unset, .unset, .unset] [(.ref b9)]) := fun t k => K t (st14 t k)
  replace K : OGo p e below A0 T14 (mkF m 79 #[iv p1, iv p2, iv p3, iv i, iv j, iv bs, rv b2, .unset, .unset, .unset, .unset, .unset, .unset, .unset] [(.ref b9), (.ref b9)]) := fun t k => K t (XS.dup X14.here hx rfl (hb hby at_78) rfl rfl k)
  replace K : OGo p e below A0 T14 (mkF m 80 #[iv p1, iv p2, iv p3, iv i, iv j, iv bs, rv b2, .unset, .unset, .unset, .unset, .unset, .unset, .unset] [(.int 4), (.ref b9), (.ref b9)]) := fun t k => K t (XS.iconst X14.here hx rfl (hb hby at_79) k)
  replace K : OGo p e below A0 T14 (mkF m 81 #[iv p1, iv p2, iv p3, iv i, iv j, iv bs, rv b2, .unset, .unset, .unset, .unset, .unset, .unset, .unset] [(.int 3), (.int 4), (.ref b9), (.ref b9)]) := fun t k => K t (XS.iconst X14.here hx rfl (hb hby at_80) k)
  obtain ⟨T15, h15, X15, e15, W15, V15, st15⟩ := own_stI X14 hx hZ e14 V_b9_14 (j := (4 : Int32)) (by decide) (by decide) (g := (mkF m 81 #[iv p1, iv p2, iv p3, iv i, iv j, iv bs, rv b2, .unset, .unset, .unset, .unset, .unset, .unset, .unset] [(.int 3), (.int 4), (.ref b9), (.ref b9)])) rfl rfl (hb hby at_81)
  have Z15 : n0 ≤ h15.size := Nat.le_trans Z14 (Keep.of_wr W15).1
  have V_b9_15 : OAr Z h15 b9 k9 .int [(.int (0 : Int32)), (.int (1 : Int32)), (.int (0 : Int32)), (.int (3 : Int32)), (.int (3 : Int32)), (.int (0 : Int32))] := V15
  have N15 := Fr.snoc X15 N14 g_b9
  replace K : OGo p e below A0 T15 (mkF m 82 #[iv p1, iv p2, iv p3, iv i, iv j, iv bs, rv b2, .unset, .unset, .unset, .unset, .unset, .unset, .unset] [(.ref b9)]) := fun t k => K t (st15 t k)
  replace K : OGo p e below A0 T15 (mkF m 83 #[iv p1, iv p2, iv p3, iv i, iv j, iv bs, rv b2, .unset, .unset, .unset, .unset, .unset, .unset, .unset] [(.ref b9), (.ref b9)]) := fun t k => K t (XS.dup X15.here hx rfl (hb hby at_82) rfl rfl k)
  replace K : OGo p e below A0 T15 (mkF m 84 #[iv p1, iv p2, iv p3, iv i, iv j, iv bs, rv b2, .unset, .unset, .unset, .unset, .unset, .unset, .unset] [(.int 5), (.ref b9), (.ref b9)]) := fun t k => K t (XS.iconst X15.here hx rfl (hb hby at_83) k)
  replace K : OGo p e below A0 T15 (mkF m 85 #[iv p1, iv p2, iv p3, iv i, iv j, iv bs, rv b2, .unset, .unset, .unset, .unset, .unset, .unset, .unset] [(.int 0), (.int 5), (.ref b9), (.ref b9)]) := fun t k => K t (XS.iconst X15.here hx rfl (hb hby at_84) k)
  obtain ⟨T16, h16, X16, e16, W16, V16, st16⟩ := own_stI X15 hx hZ e15 V_b9_15 (j := (5 : Int32)) (by decide) (by decide) (g := (mkF m 85 #[iv p1, iv p2, iv p3, iv i, iv j, iv bs, rv b2, .unset, .unset, .unset, .unset, .unset, .unset, .unset] [(.int 0), (.int 5), (.ref b9), (.ref b9)])) rfl rfl (hb hby at_85)
  have Z16 : n0 ≤ h16.size := Nat.le_trans Z15 (Keep.of_wr W16).1
  have V_b9_16 : OAr Z h16 b9 k9 .int [(.int (0 : Int32)), (.int (1 : Int32)), (.int (0 : Int32)), (.int (3 : Int32)), (.int (3 : Int32)), (.int (0 : Int32))] := V16
  have N16 := Fr.snoc X16 N15 g_b9
  replace K : OGo p e below A0 T16 (mkF m 86 #[iv p1, iv p2, iv p3, iv i, iv j, iv bs, rv b2, .unset, .unset, .unset, .unset, .unset, .unset, .unset] [(.ref b9)]) := fun t k => K t (st16 t k)
  replace K : OGo p e below A0 T16 (mkF m 88 #[iv p1, iv p2, iv p3, iv i, iv j, iv bs, rv b2, rv b9, .unset, .unset, .unset, .unset, .unset, .unset] []) := fun t k => K t (XS.astore X16.here hx rfl (hb hby at_86) rfl rfl (l' := #[iv p1, iv p2, iv p3, iv i, iv j, iv bs, rv b2, rv b9, .unset, .unset, .unset, .unset, .unset, .unset]) rfl k)
  replace K : OGo p e below A0 T16 (mkF m 90 #[iv p1, iv p2, iv p3, iv i, iv j, iv bs, rv b2, rv b9, .unset, .unset, .unset, .unset, .unset, .unset] [(.int 6)]) := fun t k => K t (XS.bipush X16.here hx rfl (hb hby at_88) k)
  obtain ⟨T17, h17, k17, X17, e17, E17, A17, Q17, st17⟩ := newPE X16 hx hZ (ow hw 6 rfl) e16 (g := (mkF m 90 #[iv p1, iv p2, iv p3, iv i, iv j, iv bs, rv b2, rv b9, .unset, .unset, .unset, .unset, .unset, .unset] [(.int 6)])) rfl (hb hby at_90) rfl (by decide) (cap := 6) (by decide) (by decide) (by decide) (by decide) (ad := "[I") (by decide)
  obtain ⟨b17, gz17⟩ : ∃ z, z = h16.size := ⟨_, rfl⟩
  rw [← gz17] at A17 Q17 st17
  have Q2_18 := (((((((Q2_10.ext E9).wr W11).wr W12).wr W13).wr W14).wr W15).wr W16)
  have ne_b2_b17 : b2 ≠ b17 := Nat.ne_of_lt (Nat.lt_of_lt_of_le Q2_18.lt (Nat.le_of_eq gz17.symm))
  have Q9_19 := ((((((Q9.wr W11).wr W12).wr W13).wr W14).wr W15).wr W16)
  have ne_b9_b17 : b9 ≠ b17 := Nat.ne_of_lt (Nat.lt_of_lt_of_le Q9_19.lt (Nat.le_of_eq gz17.symm))
  have g_b17 : n0 ≤ b17 := Nat.le_trans Z16 (Nat.le_of_eq gz17.symm)
  have Z17 : n0 ≤ h17.size := Nat.le_trans Z16 E17.1
  have V_b17 : OAr Z h17 b17 k17 .int [(.int (0 : Int32)), (.int (0 : Int32)), (.int (0 : Int32)), (.int (0 : Int32)), (.int (0 : Int32)), (.int (0 : Int32))] := OAr.new A17
  replace K : OGo p e below A0 T17 (mkF m 92 #[iv p1, iv p2, iv p3, iv i, iv j, iv bs, rv b2, rv b9, .unset, .unset, .unset, .unset, .unset, .unset] [(.ref b17)]) := fun t k => K t (st17 t k)
  replace K : OGo p e below A0 T17 (mkF m 93 #[iv p1, iv p2, iv p3, iv i, iv j, iv bs, rv b2, rv b9, .unset, .unset, .unset, .unset, .unset, .unset] [(.ref b17), (.ref b17)]) := fun t k => K t (XS.dup X17.here hx rfl (hb hby at_92) rfl rfl k)
  replace K : OGo p e below A0 T17 (mkF m 94 #[iv p1, iv p2, iv p3, iv i, iv j, iv bs, rv b2, rv b9, .unset, .unset, .unset, .unset, .unset, .unset] [(.int 0), (.ref b17), (.ref b17)]) := fun t k => K t (XS.iconst X17.here hx rfl (hb hby at_93) k)
  replace K : OGo p e below A0 T17 (mkF m 95 #[iv p1, iv p2, iv p3, iv i, iv j, iv bs, rv b2, rv b9, .unset, .unset, .unset, .unset, .unset, .unset] [(.int 2), (.int 0), (.ref b17), (.ref b17)]) := fun t k => K t (XS.iconst X17.here hx rfl (hb hby at_94) k)
  obtain ⟨T20, h20, X20, e20, W20, V20, st20⟩ := own_stI X17 hx hZ e17 V_b17 (j := (0 : Int32)) (by decide) (by decide) (g := (mkF m 95 #[iv p1, iv p2, iv p3, iv i, iv j, iv bs, rv b2, rv b9, .unset, .unset, .unset, .unset, .unset, .unset] [(.int 2), (.int 0), (.ref b17), (.ref b17)])) rfl rfl (hb hby at_95)
  have Z20 : n0 ≤ h20.size := Nat.le_trans Z17 (Keep.of_wr W20).1
  have V_b17_20 : OAr Z h20 b17 k17 .int [(.int (2 : Int32)), (.int (0 : Int32)), (.int (0 : Int32)), (.int (0 : Int32)), (.int (0 : Int32)), (.int (0 : Int32))] := V20
  have N20 := Fr.snoc X20 N16 g_b17
  replace K : OGo p e below A0 T20 (mkF m 96 #[iv p1, iv p2, iv p3, iv i, iv j, iv bs, rv b2, rv b9, .unset, .unset, .unset, .unset, .unset, .unset] [(.ref b17)]) := fun t k => K t (st20 t k)
  replace K : OGo p e below A0 T20 (mkF m 97 #[iv p1, iv p2, iv p3, iv i, iv j, iv bs, rv b2, rv b9, .unset, .unset, .unset, .unset, .unset, .unset] [(.ref b17), (.ref b17)]) := fun t k => K t (XS.dup X20.here hx rfl (hb hby at_96) rfl rfl k)
  replace K : OGo p e below A0 T20 (mkF m 98 #[iv p1, iv p2, iv p3, iv i, iv j, iv bs, rv b2, rv b9, .unset, .unset, .unset, .unset, .unset, .unset] [(.int 1), (.ref b17), (.ref b17)]) := fun t k => K t (XS.iconst X20.here hx rfl (hb hby at_97) k)
  replace K : OGo p e below A0 T20 (mkF m 99 #[iv p1, iv p2, iv p3, iv i, iv j, iv bs, rv b2, rv b9, .unset, .unset, .unset, .unset, .unset, .unset] [(.int 2), (.int 1), (.ref b17), (.ref b17)]) := fun t k => K t (XS.iconst X20.here hx rfl (hb hby at_98) k)
  obtain ⟨T21, h21, X21, e21, W21, V21, st21⟩ := own_stI X20 hx hZ e20 V_b17_20 (j := (1 : Int32)) (by decide) (by decide) (g := (mkF m 99 #[iv p1, iv p2, iv p3, iv i, iv j, iv bs, rv b2, rv b9, .unset, .unset, .unset, .unset, .unset, .unset] [(.int 2), (.int 1), (.ref b17), (.ref b17)])) rfl rfl (hb hby at_99)
  have Z21 : n0 ≤ h21.size := Nat.le_trans Z20 (Keep.of_wr W21).1
  have V_b17_21 : OAr Z h21 b17 k17 .int [(.int (2 : Int32)), (.int (2 : Int32)), (.int (0 : Int32)), (.int (0 : Int32)), (.int (0 : Int32)), (.int (0 : Int32))] := V21
  have N21 := Fr.snoc X21 N20 g_b17
  replace K : OGo p e below A0 T21 (mkF m 100 #[iv p1, iv p2, iv p3, iv i, iv j, iv bs, rv b2, rv b9, .unset, .unset, .unset, .unset, .unset, .unset] [(.ref b17)]) := fun t k => K t (st21 t k)
  replace K : OGo p e below A0 T21 (mkF m 101 #[iv p1, iv p2, iv p3, iv i, iv j, iv bs, rv b2, rv b9, .unset, .unset, .unset, .unset, .unset, .unset] [(.ref b17), (.ref b17)]) := fun t k => K t (XS.dup X21.here hx rfl (hb hby at_100) rfl rfl k)
  replace K : OGo p e below A0 T21 (mkF m 102 #[iv p1, iv p2, iv p3, iv i, iv j, iv bs, rv b2, rv b9, .unset, .unset, .unset, .unset, .unset, .unset] [(.int 2), (.ref b17), (.ref b17)]) := fun t k => K t (XS.iconst X21.here hx rfl (hb hby at_101) k)
  replace K : OGo p e below A0 T21 (mkF m 103 #[iv p1, iv p2, iv p3, iv i, iv j, iv bs, rv b2, rv b9, .unset, .unset, .unset, .unset, .unset, .unset] [(.int 5), (.int 2), (.ref b17), (.ref b17)]) := fun t k => K t (XS.iconst X21.here hx rfl (hb hby at_102) k)
  obtain ⟨T22, h22, X22, e22, W22, V22, st22⟩ := own_stI X21 hx hZ e21 V_b17_21 (j := (2 : Int32)) (by decide) (by decide) (g := (mkF m 103 #[iv p1, iv p2, iv p3, iv i, iv j, iv bs, rv b2, rv b9, .unset, .unset, .unset, .unset, .unset, .unset] [(.int 5), (.int 2), (.ref b17), (.ref b17)])) rfl rfl (hb hby at_103)
  have Z22 : n0 ≤ h22.size := Nat.le_trans Z21 (Keep.of_wr W22).1
  have V_b17_22 : OAr Z h22 b17 k17 .int [(.int (2 : Int32)), (.int (2 : Int32)), (.int (5 : Int32)), (.int (0 : Int32)), (.int (0 : Int32)), (.int (0 : Int32))] := V22
  have N22 := Fr.snoc X22 N21 g_b17
  replace K : OGo p e below A0 T22 (mkF m 104 #[iv p1, iv p2, iv p3, iv i, iv j, iv bs, rv b2, rv b9, .unset, .unset, .unset, .unset, .unset, .unset] [(.ref b17)]) := fun t k => K t (st22 t k)
  replace K : OGo p e below A0 T22 (mkF m 105 #[iv p1, iv p2, iv p3, iv i, iv j, iv bs, rv b2, rv b9, .unset, .unset, .unset, .unset, .unset, .unset] [(.ref b17), (.ref b17)]) := fun t k => K t (XS.dup X22.here hx rfl (hb hby at_104) rfl rfl k)
  replace K : OGo p e below A0 T22 (mkF m 106 #[iv p1, iv p2, iv p3, iv i, iv j, iv bs, rv b2, rv b9, .unset, .unset, .unset, .unset, .unset, .unset] [(.int 3), (.ref b17), (.ref b17)]) := fun t k => K t (XS.iconst X22.here hx rfl (hb hby at_105) k)
  replace K : OGo p e below A0 T22 (mkF m 107 #[iv p1, iv p2, iv p3, iv i, iv j, iv bs, rv b2, rv b9, .unset, .unset, .unset, .unset, .unset, .unset] [(.int 4), (.int 3), (.ref b17), (.ref b17)]) := fun t k => K t (XS.iconst X22.here hx rfl (hb hby at_106) k)
  obtain ⟨T23, h23, X23, e23, W23, V23, st23⟩ := own_stI X22 hx hZ e22 V_b17_22 (j := (3 : Int32)) (by decide) (by decide) (g := (mkF m 107 #[iv p1, iv p2, iv p3, iv i, iv j, iv bs, rv b2, rv b9, .unset, .unset, .unset, .unset, .unset, .unset] [(.int 4), (.int 3), (.ref b17), (.ref b17)])) rfl rfl (hb hby at_107)
  have Z23 : n0 ≤ h23.size := Nat.le_trans Z22 (Keep.of_wr W23).1
  have V_b17_23 : OAr Z h23 b17 k17 .int [(.int (2 : Int32)), (.int (2 : Int32)), (.int (5 : Int32)), (.int (4 : Int32)), (.int (0 : Int32)), (.int (0 : Int32))] := V23
  have N23 := Fr.snoc X23 N22 g_b17
  replace K : OGo p e below A0 T23 (mkF m 108 #[iv p1, iv p2, iv p3, iv i, iv j, iv bs, rv b2, rv b9, .unset, .unset, .unset, .unset, .unset, .unset] [(.ref b17)]) := fun t k => K t (st23 t k)
  replace K : OGo p e below A0 T23 (mkF m 109 #[iv p1, iv p2, iv p3, iv i, iv j, iv bs, rv b2, rv b9, .unset, .unset, .unset, .unset, .unset, .unset] [(.ref b17), (.ref b17)]) := fun t k => K t (XS.dup X23.here hx rfl (hb hby at_108) rfl rfl k)
  replace K : OGo p e below A0 T23 (mkF m 110 #[iv p1, iv p2, iv p3, iv i, iv j, iv bs, rv b2, rv b9, .unset, .unset, .unset, .unset, .unset, .unset] [(.int 4), (.ref b17), (.ref b17)]) := fun t k => K t (XS.iconst X23.here hx rfl (hb hby at_109) k)
  replace K : OGo p e below A0 T23 (mkF m 111 #[iv p1, iv p2, iv p3, iv i, iv j, iv bs, rv b2, rv b9, .unset, .unset, .unset, .unset, .unset, .unset] [(.int 5), (.int 4), (.ref b17), (.ref b17)]) := fun t k => K t (XS.iconst X23.here hx rfl (hb hby at_110) k)
  obtain ⟨T24, h24, X24, e24, W24, V24, st24⟩ := own_stI X23 hx hZ e23 V_b17_23 (j := (4 : Int32)) (by decide) (by decide) (g := (mkF m 111 #[iv p1, iv p2, iv p3, iv i, iv j, iv bs, rv b2, rv b9, .unset, .unset, .unset, .unset, .unset, .unset] [(.int 5), (.int 4), (.ref b17), (.ref b17)])) rfl rfl (hb hby at_111)
  have Z24 : n0 ≤ h24.size := Nat.le_trans Z23 (Keep.of_wr W24).1
  have V_b17_24 : OAr Z h24 b17 k17 .int [(.int (2 : Int32)), (.int (2 : Int32)), (.int (5 : Int32)), (.int (4 : Int32)), (.int (5 : Int32)), (.int (0 : Int32))] := V24
  have N24 := Fr.snoc X24 N23 g_b17
  replace K : OGo p e below A0 T24 (mkF m 112 #[iv p1, iv p2, iv p3, iv i, iv j, iv bs, rv b2, rv b9, .unset, .unset, .unset, .unset, .unset, .unset] [(.ref b17)]) := fun t k => K t (st24 t k)
  replace K : OGo p e below A0 T24 (mkF m 113 #[iv p1, iv p2, iv p3, iv i, iv j, iv bs, rv b2, rv b9, .unset, .unset, .unset, .unset, .unset, .unset] [(.ref b17), (.ref b17)]) := fun t k => K t (XS.dup X24.here hx rfl (hb hby at_112) rfl rfl k)
  replace K : OGo p e below A0 T24 (mkF m 114 #[iv p1, iv p2, iv p3, iv i, iv j, iv bs, rv b2, rv b9, .unset, .unset, .unset, .unset, .unset, .unset] [(.int 5), (.ref b17), (.ref b17)]) := fun t k => K t (XS.iconst X24.here hx rfl (hb hby at_113) k)
  replace K : OGo p e below A0 T24 (mkF m 115 #[iv p1, iv p2, iv p3, iv i, iv j, iv bs, rv b2, rv b9, .unset, .unset, .unset, .unset, .unset, .unset] [(.int (-1)), (.int 5), (.ref b17), (.ref b17)]) := fun t k => K t (XS.iconst X24.here hx rfl (hb hby at_114) k)
  obtain ⟨T25, h25, X25, e25, W25, V25, st25⟩ := own_stI X24 hx hZ e24 V_b17_24 (j := (5 : Int32)) (by decide) (by decide) (g := (mkF m 115 #[iv p1, iv p2, iv p3, iv i, iv j, iv bs, rv b2, rv b9, .unset, .unset, .unset, .unset, .unset, .unset] [(.int (-1)), (.int 5), (.ref b17), (.ref b17)])) rfl rfl (hb hby at_115)
  have Z25 : n0 ≤ h25.size := Nat.le_trans Z24 (Keep.of_wr W25).1
  have V_b17_25 : OAr Z h25 b17 k17 .int [(.int (2 : Int32)), (.int (2 : Int32)), (.int (5 : Int32)), (.int (4 : Int32)), (.int (5 : Int32)), (.int (-1 : Int32))] := V25
  have N25 := Fr.snoc X25 N24 g_b17
  replace K : OGo p e below A0 T25 (mkF m 116 #[iv p1, iv p2, iv p3, iv i, iv j, iv bs, rv b2, rv b9, .unset, .unset, .unset, .unset, .unset, .unset] [(.ref b17)]) := fun t k => K t (st25 t k)
  replace K : OGo p e below A0 T25 (mkF m 118 #[iv p1, iv p2, iv p3, iv i, iv j, iv bs, rv b2, rv b9, rv b17, .unset, .unset, .unset, .unset, .unset] []) := fun t k => K t (XS.astore X25.here hx rfl (hb hby at_116) rfl rfl (l' := #[iv p1, iv p2, iv p3, iv i, iv j, iv bs, rv b2, rv b9, rv b17, .unset, .unset, .unset, .unset, .unset]) rfl k)
  obtain ⟨T26, h26, X26, e26, E26, A26, D26, -, st26⟩ := newO X25 hx hZ hown (ow hw 7 rfl) (ow hw 8 rfl) (ow hw 9 rfl) e25 (g := (mkF m 118 #[iv p1, iv p2, iv p3, iv i, iv j, iv bs, rv b2, rv b9, rv b17, .unset, .unset, .unset, .unset, .unset] [])) rfl (hb hby at_118) (by decide) (by decide)
  obtain ⟨b26, gz26⟩ : ∃ z, z = h25.size := ⟨_, rfl⟩
  rw [← gz26] at A26 D26 st26
  have Q2_27 := (((((((Q2_18.ext E17).wr W20).wr W21).wr W22).wr W23).wr W24).wr W25)
  have ne_b2_b26 : b2 ≠ b26 := Nat.ne_of_lt (Nat.lt_of_lt_of_le Q2_27.lt (Nat.le_of_eq gz26.symm))
  have Q9_28 := (((((((Q9_19.ext E17).wr W20).wr W21).wr W22).wr W23).wr W24).wr W25)
  have ne_b9_b26 : b9 ≠ b26 := Nat.ne_of_lt (Nat.lt_of_lt_of_le Q9_28.lt (Nat.le_of_eq gz26.symm))
  have Q17_29 := ((((((Q17.wr W20).wr W21).wr W22).wr W23).wr W24).wr W25)
  have ne_b17_b26 : b17 ≠ b26 := Nat.ne_of_lt (Nat.lt_of_lt_of_le Q17_29.lt (Nat.le_of_eq gz26.symm))
  have g_b26 : n0 ≤ b26 := Nat.le_trans Z25 (Nat.le_of_eq gz26.symm)
  have Z26 : n0 ≤ h26.size := Nat.le_trans Z25 E26.1
  have F_rank_b26 : Fld Z h26 b26 cN0 "rank" "I" (.int (0 : Int32)) := D26 (Or.inr (ow hw 17 rfl)) (ty := .int) (by decide)
  have F_lowestImported_b26 : Fld Z h26 b26 cN0 "lowestImported" "I" (.int (0 : Int32)) := D26 (Or.inr (ow hw 19 rfl)) (ty := .int) (by decide)
  replace K : OGo p e below A0 T26 (mkF m 121 #[iv p1, iv p2, iv p3, iv i, iv j, iv bs, rv b2, rv b9, rv b17, .unset, .unset, .unset, .unset, .unset] [(.ref b26)]) := fun t k => K t (st26 t k)
  replace K : OGo p e below A0 T26 (mkF m 122 #[iv p1, iv p2, iv p3, iv i, iv j, iv bs, rv b2, rv b9, rv b17, .unset, .unset, .unset, .unset, .unset] [(.ref b26), (.ref b26)]) := fun t k => K t (XS.dup X26.here hx rfl (hb hby at_121) rfl rfl k)
  replace K : OGo p e below A0 T26 (mkF m 124 #[iv p1, iv p2, iv p3, iv i, iv j, iv bs, rv b2, rv b9, rv b17, .unset, .unset, .unset, .unset, .unset] [(.int bs), (.ref b26), (.ref b26)]) := fun t k => K t (XS.iload X26.here hx rfl (hb hby at_122) rfl k)
  replace K : OGo p e below A0 T26 (mkF m 126 #[iv p1, iv p2, iv p3, iv i, iv j, iv bs, rv b2, rv b9, rv b17, .unset, .unset, .unset, .unset, .unset] [(.ref b2), (.int bs), (.ref b26), (.ref b26)]) := fun t k => K t (XS.aload X26.here hx rfl (hb hby at_124) rfl rfl k)
  replace K : OGo p e below A0 T26 (mkF m 127 #[iv p1, iv p2, iv p3, iv i, iv j, iv bs, rv b2, rv b9, rv b17, .unset, .unset, .unset, .unset, .unset] [(.int i), (.ref b2), (.int bs), (.ref b26), (.ref b26)]) := fun t k => K t (XS.iloadN X26.here hx rfl (hb hby at_126) rfl k)
  have V_b2_30 := (((((((((((((((V_b2_8.ext E9).other W11 ne_b2_b9).other W12 ne_b2_b9).other W13 ne_b2_b9).other W14 ne_b2_b9).other W15 ne_b2_b9).other W16 ne_b2_b9).ext E17).other W20 ne_b2_b17).other W21 ne_b2_b17).other W22 ne_b2_b17).other W23 ne_b2_b17).other W24 ne_b2_b17).other W25 ne_b2_b17).ext E26)
  replace K : OGo p e below A0 T26 (mkF m 128 #[iv p1, iv p2, iv p3, iv i, iv j, iv bs, rv b2, rv b9, rv b17, .unset, .unset, .unset, .unset, .unset] [(.int i), (.int bs), (.ref b26), (.ref b26)]) := fun t k => K t (own_ldI X26 hx hZ e26 V_b2_30 (j := i) (v := (.int i)) (own_six.nn h6i) (own_rank_at h6i) (g := (mkF m 127 #[iv p1, iv p2, iv p3, iv i, iv j, iv bs, rv b2, rv b9, rv b17, .unset, .unset, .unset, .unset, .unset] [(.int i), (.ref b2), (.int bs), (.ref b26), (.ref b26)])) rfl rfl (hb hby at_127) t k)
  replace K : OGo p e below A0 T26 (mkF m 129 #[iv p1, iv p2, iv p3, iv i, iv j, iv bs, rv b2, rv b9, rv b17, .unset, .unset, .unset, .unset, .unset] [(.int (bs + i)), (.ref b26), (.ref b26)]) := fun t k => K t (XS.iadd X26.here hx rfl (hb hby at_128) rfl k)
  replace K : OGo p e below A0 T26 (mkF m 131 #[iv p1, iv p2, iv p3, iv i, iv j, iv bs, rv b2, rv b9, rv b17, .unset, .unset, .unset, .unset, .unset] [(.int bs), (.int (bs + i)), (.ref b26), (.ref b26)]) := fun t k => K t (XS.iload X26.here hx rfl (hb hby at_129) rfl k)
  replace K : OGo p e below A0 T26 (mkF m 133 #[iv p1, iv p2, iv p3, iv i, iv j, iv bs, rv b2, rv b9, rv b17, .unset, .unset, .unset, .unset, .unset] [(.ref b9), (.int bs), (.int (bs + i)), (.ref b26), (.ref b26)]) := fun t k => K t (XS.aload X26.here hx rfl (hb hby at_131) rfl rfl k)
  replace K : OGo p e below A0 T26 (mkF m 134 #[iv p1, iv p2, iv p3, iv i, iv j, iv bs, rv b2, rv b9, rv b17, .unset, .unset, .unset, .unset, .unset] [(.int i), (.ref b9), (.int bs), (.int (bs + i)), (.ref b26), (.ref b26)]) := fun t k => K t (XS.iloadN X26.here hx rfl (hb hby at_133) rfl k)
  have V_b9_31 := ((((((((V_b9_16.ext E17).other W20 ne_b9_b17).other W21 ne_b9_b17).other W22 ne_b9_b17).other W23 ne_b9_b17).other W24 ne_b9_b17).other W25 ne_b9_b17).ext E26)
  replace K : OGo p e below A0 T26 (mkF m 135 #[iv p1, iv p2, iv p3, iv i, iv j, iv bs, rv b2, rv b9, rv b17, .unset, .unset, .unset, .unset, .unset] [(.int (own_low i)), (.int bs), (.int (bs + i)), (.ref b26), (.ref b26)]) := fun t k => K t (own_ldI X26 hx hZ e26 V_b9_31 (j := i) (v := (.int (own_low i))) (own_six.nn h6i) (own_low_at h6i) (g := (mkF m 134 #[iv p1, iv p2, iv p3, iv i, iv j, iv bs, rv b2, rv b9, rv b17, .unset, .unset, .unset, .unset, .unset] [(.int i), (.ref b9), (.int bs), (.int (bs + i)), (.ref b26), (.ref b26)])) rfl rfl (hb hby at_134) t k)
  replace K : OGo p e below A0 T26 (mkF m 136 #[iv p1, iv p2, iv p3, iv i, iv j, iv bs, rv b2, rv b9, rv b17, .unset, .unset, .unset, .unset, .unset] [(.int (bs + (own_low i))), (.int (bs + i)), (.ref b26), (.ref b26)]) := fun t k => K t (XS.iadd X26.here hx rfl (hb hby at_135) rfl k)
  obtain ⟨_, _, ⟨T32, L32, k32, n32⟩, -, X32, ⟨Lc32, hQ32, l32, y32, z32⟩, st32⟩ := X26.specialBack hx (y := mN1) rfl hown (mvT hZ (ow hw 10 rfl)) (mvT hZ (ow hw 11 rfl)) (mvT hZ (ow hw 12 rfl)) (by decide) (backOf (W := 1) (rm_init l Z a0 hw [] b26 (bs + i) (bs + (own_low i)) h26 n0 Z26 A26 F_rank_b26 F_lowestImported_b26 g_b26) hZ (ow hw 12 rfl) (ow hw 9 rfl) (by decide) (by decide)) (g := (mkF m 136 #[iv p1, iv p2, iv p3, iv i, iv j, iv bs, rv b2, rv b9, rv b17, .unset, .unset, .unset, .unset, .unset] [(.int (bs + (own_low i))), (.int (bs + i)), (.ref b26), (.ref b26)])) rfl (by rw [hml]; rfl) (Steps.refl _) (a := b26) (argsL := [(.int (bs + i)), (.int (bs + (own_low i)))]) (rest := [(.ref b26)]) (lenOf pd__II_V rfl) rfl (by show 2 * 0 + _ ≤ _; exact Nat.le_of_eq rfl) (hb hby at_136) (fun _ _ => ⟨rfl, e26, (by decide : 4 + 0 ≤ _), (by decide : 20 + 0 ≤ _)⟩)
  dsimp only [Pt.U, Pt.locs, Pt.cells, Pt.slots] at X32 l32 y32 z32 st32 hQ32
  subst l32 y32 z32
  obtain ⟨hp32, e32⟩ : ∃ z, T32.heap = z := ⟨_, rfl⟩
  rw [e32] at hQ32
  obtain ⟨rfl, Nq32, K32, P32_0, P32_1⟩ := hQ32
  have Z32 : n0 ≤ hp32.size := Nat.le_trans Z26 K32.1
  have N32 := Fr.app N25 Nq32
  replace K : OGo p e below A0 T32 (mkF m 139 #[iv p1, iv p2, iv p3, iv i, iv j, iv bs, rv b2, rv b9, rv b17, .unset, .unset, .unset, .unset, .unset] [(.ref b26)]) := fun t k => K t (st32.trans k)
  replace K : OGo p e below A0 T32 (mkF m 141 #[iv p1, iv p2, iv p3, iv i, iv j, iv bs, rv b2, rv b9, rv b17, rv b26, .unset, .unset, .unset, .unset] []) := fun t k => K t (XS.astore X32.here hx rfl (hb hby at_139) rfl rfl (l' := #[iv p1, iv p2, iv p3, iv i, iv j, iv bs, rv b2, rv b9, rv b17, rv b26, .unset, .unset, .unset, .unset]) rfl k)
  obtain ⟨T33, h33, X33, e33, E33, A33, D33, -, st33⟩ := newO X32 hx hZ hown (ow hw 7 rfl) (ow hw 8 rfl) (ow hw 9 rfl) e32 (g := (mkF m 141 #[iv p1, iv p2, iv p3, iv i, iv j, iv bs, rv b2, rv b9, rv b17, rv b26, .unset, .unset, .unset, .unset] [])) rfl (hb hby at_141) (by decide) (by decide)
  obtain ⟨b33, gz33⟩ : ∃ z, z = hp32.size := ⟨_, rfl⟩
  rw [← gz33] at A33 D33 st33
  have Q2_34 := ((Q2_27.ext E26).keep K32)
  have ne_b2_b33 : b2 ≠ b33 := Nat.ne_of_lt (Nat.lt_of_lt_of_le Q2_34.lt (Nat.le_of_eq gz33.symm))
  have Q9_35 := ((Q9_28.ext E26).keep K32)
  have ne_b9_b33 : b9 ≠ b33 := Nat.ne_of_lt (Nat.lt_of_lt_of_le Q9_35.lt (Nat.le_of_eq gz33.symm))
  have Q17_36 := ((Q17_29.ext E26).keep K32)
  have ne_b17_b33 : b17 ≠ b33 := Nat.ne_of_lt (Nat.lt_of_lt_of_le Q17_36.lt (Nat.le_of_eq gz33.symm))
  have A26_37 := (A26.keep K32)
  have ne_b26_b33 : b26 ≠ b33 := Nat.ne_of_lt (Nat.lt_of_lt_of_le A26_37.lt (Nat.le_of_eq gz33.symm))
  have g_b33 : n0 ≤ b33 := Nat.le_trans Z32 (Nat.le_of_eq gz33.symm)
  have Z33 : n0 ≤ h33.size := Nat.le_trans Z32 E33.1
  have F_rank_b33 : Fld Z h33 b33 cN0 "rank" "I" (.int (0 : Int32)) := D33 (Or.inr (ow hw 17 rfl)) (ty := .int) (by decide)
  have F_lowestImported_b33 : Fld Z h33 b33 cN0 "lowestImported" "I" (.int (0 : Int32)) := D33 (Or.inr (ow hw 19 rfl)) (ty := .int) (by decide)
  replace K : OGo p e below A0 T33 (mkF m 144 #[iv p1, iv p2, iv p3, iv i, iv j, iv bs, rv b2, rv b9, rv b17, rv b26, .unset, .unset, .unset, .unset] [(.ref b33)]) := fun t k => K t (st33 t k)
  replace K : OGo p e below A0 T33 (mkF m 145 #[iv p1, iv p2, iv p3, iv i, iv j, iv bs, rv b2, rv b9, rv b17, rv b26, .unset, .unset, .unset, .unset] [(.ref b33), (.ref b33)]) := fun t k => K t (XS.dup X33.here hx rfl (hb hby at_144) rfl rfl k)
  replace K : OGo p e below A0 T33 (mkF m 147 #[iv p1, iv p2, iv p3, iv i, iv j, iv bs, rv b2, rv b9, rv b17, rv b26, .unset, .unset, .unset, .unset] [(.int bs), (.ref b33), (.ref b33)]) := fun t k => K t (XS.iload X33.here hx rfl (hb hby at_145) rfl k)
  replace K : OGo p e below A0 T33 (mkF m 149 #[iv p1, iv p2, iv p3, iv i, iv j, iv bs, rv b2, rv b9, rv b17, rv b26, .unset, .unset, .unset, .unset] [(.ref b2), (.int bs), (.ref b33), (.ref b33)]) := fun t k => K t (XS.aload X33.here hx rfl (hb hby at_147) rfl rfl k)
  replace K : OGo p e below A0 T33 (mkF m 151 #[iv p1, iv p2, iv p3, iv i, iv j, iv bs, rv b2, rv b9, rv b17, rv b26, .unset, .unset, .unset, .unset] [(.int j), (.ref b2), (.int bs), (.ref b33), (.ref b33)]) := fun t k => K t (XS.iload X33.here hx rfl (hb hby at_149) rfl k)
  have V_b2_38 := ((V_b2_30.keep K32 (ninS ne_b2_b26 nin0)).ext E33)
  replace K : OGo p e below A0 T33 (mkF m 152 #[iv p1, iv p2, iv p3, iv i, iv j, iv bs, rv b2, rv b9, rv b17, rv b26, .unset, .unset, .unset, .unset] [(.int j), (.int bs), (.ref b33), (.ref b33)]) := fun t k => K t (own_ldI X33 hx hZ e33 V_b2_38 (j := j) (v := (.int j)) (own_six.nn h6j) (own_rank_at h6j) (g := (mkF m 151 #[iv p1, iv p2, iv p3, iv i, iv j, iv bs, rv b2, rv b9, rv b17, rv b26, .unset, .unset, .unset, .unset] [(.int j), (.ref b2), (.int bs), (.ref b33), (.ref b33)])) rfl rfl (hb hby at_151) t k)
  replace K : OGo p e below A0 T33 (mkF m 153 #[iv p1, iv p2, iv p3, iv i, iv j, iv bs, rv b2, rv b9, rv b17, rv b26, .unset, .unset, .unset, .unset] [(.int (bs + j)), (.ref b33), (.ref b33)]) := fun t k => K t (XS.iadd X33.here hx rfl (hb hby at_152) rfl k)
  replace K : OGo p e below A0 T33 (mkF m 155 #[iv p1, iv p2, iv p3, iv i, iv j, iv bs, rv b2, rv b9, rv b17, rv b26, .unset, .unset, .unset, .unset] [(.int bs), (.int (bs + j)), (.ref b33), (.ref b33)]) := fun t k => K t (XS.iload X33.here hx rfl (hb hby at_153) rfl k)
  replace K : OGo p e below A0 T33 (mkF m 157 #[iv p1, iv p2, iv p3, iv i, iv j, iv bs, rv b2, rv b9, rv b17, rv b26, .unset, .unset, .unset, .unset] [(.ref b9), (.int bs), (.int (bs + j)), (.ref b33), (.ref b33)]) := fun t k => K t (XS.aload X33.here hx rfl (hb hby at_155) rfl rfl k)
  replace K : OGo p e below A0 T33 (mkF m 159 #[iv p1, iv p2, iv p3, iv i, iv j, iv bs, rv b2, rv b9, rv b17, rv b26, .unset, .unset, .unset, .unset] [(.int j), (.ref b9), (.int bs), (.int (bs + j)), (.ref b33), (.ref b33)]) := fun t k => K t (XS.iload X33.here hx rfl (hb hby at_157) rfl k)
  have V_b9_39 := ((V_b9_31.keep K32 (ninS ne_b9_b26 nin0)).ext E33)
  replace K : OGo p e below A0 T33 (mkF m 160 #[iv p1, iv p2, iv p3, iv i, iv j, iv bs, rv b2, rv b9, rv b17, rv b26, .unset, .unset, .unset, .unset] [(.int (own_low j)), (.int bs), (.int (bs + j)), (.ref b33), (.ref b33)]) := fun t k => K t (own_ldI X33 hx hZ e33 V_b9_39 (j := j) (v := (.int (own_low j))) (own_six.nn h6j) (own_low_at h6j) (g := (mkF m 159 #[iv p1, iv p2, iv p3, iv i, iv j, iv bs, rv b2, rv b9, rv b17, rv b26, .unset, .unset, .unset, .unset] [(.int j), (.ref b9), (.int bs), (.int (bs + j)), (.ref b33), (.ref b33)])) rfl rfl (hb hby at_159) t k)
  replace K : OGo p e below A0 T33 (mkF m 161 #[iv p1, iv p2, iv p3, iv i, iv j, iv bs, rv b2, rv b9, rv b17, rv b26, .unset, .unset, .unset, .unset] [(.int (bs + (own_low j))), (.int (bs + j)), (.ref b33), (.ref b33)]) := fun t k => K t (XS.iadd X33.here hx rfl (hb hby at_160) rfl k)
  obtain ⟨_, _, ⟨T40, L40, k40, n40⟩, -, X40, ⟨Lc40, hQ40, l40, y40, z40⟩, st40⟩ := X33.specialBack hx (y := mN1) rfl hown (mvT hZ (ow hw 10 rfl)) (mvT hZ (ow hw 11 rfl)) (mvT hZ (ow hw 12 rfl)) (by decide) (backOf (W := 1) (rm_init l Z a0 hw [] b33 (bs + j) (bs + (own_low j)) h33 n0 Z33 A33 F_rank_b33 F_lowestImported_b33 g_b33) hZ (ow hw 12 rfl) (ow hw 9 rfl) (by decide) (by decide)) (g := (mkF m 161 #[iv p1, iv p2, iv p3, iv i, iv j, iv bs, rv b2, rv b9, rv b17, rv b26, .unset, .unset, .unset, .unset] [(.int (bs + (own_low j))), (.int (bs + j)), (.ref b33), (.ref b33)])) rfl (by rw [hml]; rfl) (Steps.refl _) (a := b33) (argsL := [(.int (bs + j)), (.int (bs + (own_low j)))]) (rest := [(.ref b33)]) (lenOf pd__II_V rfl) rfl (by show 2 * 0 + _ ≤ _; exact Nat.le_of_eq rfl) (hb hby at_161) (fun _ _ => ⟨rfl, e33, (by decide : 5 + 0 ≤ _), (by decide : 22 + 0 ≤ _)⟩)
  dsimp only [Pt.U, Pt.locs, Pt.cells, Pt.slots] at X40 l40 y40 z40 st40 hQ40
  subst l40 y40 z40
  obtain ⟨hp40, e40⟩ : ∃ z, T40.heap = z := ⟨_, rfl⟩
  rw [e40] at hQ40
  obtain ⟨rfl, Nq40, K40, P40_0, P40_1⟩ := hQ40
  have Z40 : n0 ≤ hp40.size := Nat.le_trans Z33 K40.1
  have N40 := Fr.app N32 Nq40
  replace K : OGo p e below A0 T40 (mkF m 164 #[iv p1, iv p2, iv p3, iv i, iv j, iv bs, rv b2, rv b9, rv b17, rv b26, .unset, .unset, .unset, .unset] [(.ref b33)]) := fun t k => K t (st40.trans k)
  replace K : OGo p e below A0 T40 (mkF m 166 #[iv p1, iv p2, iv p3, iv i, iv j, iv bs, rv b2, rv b9, rv b17, rv b26, rv b33, .unset, .unset, .unset] []) := fun t k => K t (XS.astore X40.here hx rfl (hb hby at_164) rfl rfl (l' := #[iv p1, iv p2, iv p3, iv i, iv j, iv bs, rv b2, rv b9, rv b17, rv b26, rv b33, .unset, .unset, .unset]) rfl k)
  replace K : OGo p e below A0 T40 (mkF m 168 #[iv p1, iv p2, iv p3, iv i, iv j, iv bs, rv b2, rv b9, rv b17, rv b26, rv b33, .unset, .unset, .unset] [(.ref b17)]) := fun t k => K t (XS.aload X40.here hx rfl (hb hby at_166) rfl rfl k)
  replace K : OGo p e below A0 T40 (mkF m 170 #[iv p1, iv p2, iv p3, iv i, iv j, iv bs, rv b2, rv b9, rv b17, rv b26, rv b33, .unset, .unset, .unset] [(.int j), (.ref b17)]) := fun t k => K t (XS.iload X40.here hx rfl (hb hby at_168) rfl k)
  have V_b17_41 := ((((V_b17_25.ext E26).keep K32 (ninS ne_b17_b26 nin0)).ext E33).keep K40 (ninS ne_b17_b33 nin0))
  replace K : OGo p e below A0 T40 (mkF m 171 #[iv p1, iv p2, iv p3, iv i, iv j, iv bs, rv b2, rv b9, rv b17, rv b26, rv b33, .unset, .unset, .unset] [(.int (own_par j))]) := fun t k => K t (own_ldI X40 hx hZ e40 V_b17_41 (j := j) (v := (.int (own_par j))) (own_six.nn h6j) (own_par_at h6j) (g := (mkF m 170 #[iv p1, iv p2, iv p3, iv i, iv j, iv bs, rv b2, rv b9, rv b17, rv b26, rv b33, .unset, .unset, .unset] [(.int j), (.ref b17)])) rfl rfl (hb hby at_170) t k)
  replace K : OGo p e below A0 T40 (mkF m 173 #[iv p1, iv p2, iv p3, iv i, iv j, iv bs, rv b2, rv b9, rv b17, rv b26, rv b33, iv (own_par j), .unset, .unset] []) := fun t k => K t (XS.istore X40.here hx rfl (hb hby at_171) rfl (l' := #[iv p1, iv p2, iv p3, iv i, iv j, iv bs, rv b2, rv b9, rv b17, rv b26, rv b33, iv (own_par j), .unset, .unset]) rfl k)
  replace K : OGo p e below A0 T40 (mkF m 175 #[iv p1, iv p2, iv p3, iv i, iv j, iv bs, rv b2, rv b9, rv b17, rv b26, rv b33, iv (own_par j), .unset, .unset] [(.int (own_par j))]) := fun t k => K t (XS.iload X40.here hx rfl (hb hby at_173) rfl k)
  by_cases hc175 : (own_par j) < (0 : Int32)
  · replace K : OGo p e below A0 T40 (mkF m 186 #[iv p1, iv p2, iv p3, iv i, iv j, iv bs, rv b2, rv b9, rv b17, rv b26, rv b33, iv (own_par j), .unset, .unset] []) := fun t k => K t (XS.ifYes X40.here hx rfl (pc0 := 175) (pc' := 186) rfl (hb hby at_175) rfl ((if0 _ _).trans (tlt hc175).1) (by decide) (by decide) k)
    replace K : OGo p e below A0 T40 (mkF m 187 #[iv p1, iv p2, iv p3, iv i, iv j, iv bs, rv b2, rv b9, rv b17, rv b26, rv b33, iv (own_par j), .unset, .unset] [(.int (-1))]) := fun t k => K t (XS.iconst X40.here hx rfl (hb hby at_186) k)
    replace K : OGo p e below A0 T40 (mkF m 189 #[iv p1, iv p2, iv p3, iv i, iv j, iv bs, rv b2, rv b9, rv b17, rv b26, rv b33, iv (own_par j), iv (-1), .unset] []) := fun t k => K t (XS.istore X40.here hx rfl (hb hby at_187) rfl (l' := #[iv p1, iv p2, iv p3, iv i, iv j, iv bs, rv b2, rv b9, rv b17, rv b26, rv b33, iv (own_par j), iv (-1), .unset]) rfl k)
    replace K : OGo p e below A0 T40 (mkF m 191 #[iv p1, iv p2, iv p3, iv i, iv j, iv bs, rv b2, rv b9, rv b17, rv b26, rv b33, iv (own_par j), iv (-1), .unset] [(.int (own_par j))]) := fun t k => K t (XS.iload X40.here hx rfl (hb hby at_189) rfl k)
    replace K : OGo p e below A0 T40 (mkF m 192 #[iv p1, iv p2, iv p3, iv i, iv j, iv bs, rv b2, rv b9, rv b17, rv b26, rv b33, iv (own_par j), iv (-1), .unset] [(.int i), (.int (own_par j))]) := fun t k => K t (XS.iloadN X40.here hx rfl (hb hby at_191) rfl k)
    replace K : OGo p e below A0 T40 (mkF m 195 #[iv p1, iv p2, iv p3, iv i, iv j, iv bs, rv b2, rv b9, rv b17, rv b26, rv b33, iv (own_par j), iv (-1), .unset] []) := fun t k => K t (XS.icmpNo X40.here hx rfl (hb hby at_192) rfl (feq (((own_end hbs h6i h6j).2.2.2.2.1 hc175))).1 k)
    replace K : OGo p e below A0 T40 (mkF m 197 #[iv p1, iv p2, iv p3, iv i, iv j, iv bs, rv b2, rv b9, rv b17, rv b26, rv b33, iv (own_par j), iv (-1), .unset] [(.int (-1))]) := fun t k => K t (XS.iload X40.here hx rfl (hb hby at_195) rfl k)
    replace K : OGo p e below A0 T40 (mkF m 198 #[iv p1, iv p2, iv p3, iv i, iv j, iv bs, rv b2, rv b9, rv b17, rv b26, rv b33, iv (own_par j), iv (-1), .unset] [(.int i), (.int (-1))]) := fun t k => K t (XS.iloadN X40.here hx rfl (hb hby at_197) rfl k)
    replace K : OGo p e below A0 T40 (mkF m 205 #[iv p1, iv p2, iv p3, iv i, iv j, iv bs, rv b2, rv b9, rv b17, rv b26, rv b33, iv (own_par j), iv (-1), .unset] []) := fun t k => K t (XS.icmpYes X40.here hx rfl (pc0 := 198) (pc' := 205) rfl (hb hby at_198) rfl (feq ((own_end hbs h6i h6j).2.2.2.2.2)).2 (by decide) (by decide) k)
    replace K : OGo p e below A0 T40 (mkF m 206 #[iv p1, iv p2, iv p3, iv i, iv j, iv bs, rv b2, rv b9, rv b17, rv b26, rv b33, iv (own_par j), iv (-1), .unset] [(.int 0)]) := fun t k => K t (XS.iconst X40.here hx rfl (hb hby at_205) k)
    replace K : OGo p e below A0 T40 (mkF m 208 #[iv p1, iv p2, iv p3, iv i, iv j, iv bs, rv b2, rv b9, rv b17, rv b26, rv b33, iv (own_par j), iv (-1), iv 0] []) := fun t k => K t (XS.istore X40.here hx rfl (hb hby at_206) rfl (l' := #[iv p1, iv p2, iv p3, iv i, iv j, iv bs, rv b2, rv b9, rv b17, rv b26, rv b33, iv (own_par j), iv (-1), iv 0]) rfl k)
    replace K : OGo p e below A0 T40 (mkF m 210 #[iv p1, iv p2, iv p3, iv i, iv j, iv bs, rv b2, rv b9, rv b17, rv b26, rv b33, iv (own_par j), iv (-1), iv 0] [(.ref b26)]) := fun t k => K t (XS.aload X40.here hx rfl (hb hby at_208) rfl rfl k)
    replace K : OGo p e below A0 T40 (mkF m 212 #[iv p1, iv p2, iv p3, iv i, iv j, iv bs, rv b2, rv b9, rv b17, rv b26, rv b33, iv (own_par j), iv (-1), iv 0] [(.ref b33), (.ref b26)]) := fun t k => K t (XS.aload X40.here hx rfl (hb hby at_210) rfl rfl k)
    have F_rank_b26_43 := ((P32_0.ext E33).keep K40 (ninS ne_b26_b33 nin0))
    have F_lowestImported_b26_44 := ((P32_1.ext E33).keep K40 (ninS ne_b26_b33 nin0))
    have A26_45 := ((A26_37.ext E33).keep K40)
    obtain ⟨cq42, kq42, q42a, q42b, q42c⟩ := isOf hZ e40 A26_45
    obtain ⟨_, _, ⟨T42, L42, k42, n42⟩, -, X42, ⟨Lc42, hQ42, l42, y42, z42⟩, st42⟩ := X40.virtualBack hx (y := mN2) (z := mN2) hown (mvT hZ (ow hw 20 rfl)) (mvT hZ (ow hw 21 rfl)) (notFace_of_selects (args := #[]) (mvT hZ (ow hw 23 rfl))) (mvT hZ (ow hw 23 rfl)) (mvT hZ (ow hw 22 rfl)) (by decide) (backOf (W := 0) (rm_imps l Z a0 hw [] b26 b33 (bs + i) (bs + (own_low i)) (bs + j) hp40 n0 Z40 F_rank_b26_43 F_lowestImported_b26_44 P40_0) hZ (ow hw 24 rfl) (ow hw 9 rfl) (by decide) (by decide)) q42a q42c (g := (mkF m 212 #[iv p1, iv p2, iv p3, iv i, iv j, iv bs, rv b2, rv b9, rv b17, rv b26, rv b33, iv (own_par j), iv (-1), iv 0] [(.ref b33), (.ref b26)])) rfl (by rw [hml]; rfl) (Steps.refl _) (argsL := [(.ref b33)]) (rest := []) (lenOf pd__Lcom_example_imprint_imprint_xslt_ImportPrecedence__Z rfl) rfl (by show 2 * 0 + _ ≤ _; exact Nat.le_of_eq rfl) (hb hby at_212) (fun _ _ => ⟨rfl, e40, (by decide : 5 + 0 ≤ _), (by decide : 22 + 0 ≤ _)⟩)
    dsimp only [Pt.U, Pt.locs, Pt.cells, Pt.slots] at X42 l42 y42 z42 st42 hQ42
    subst l42 y42 z42
    obtain ⟨rfl, Nq42, e42⟩ := hQ42
    have N42 := Fr.app N40 Nq42
    replace K : OGo p e below A0 T42 (mkF m 215 #[iv p1, iv p2, iv p3, iv i, iv j, iv bs, rv b2, rv b9, rv b17, rv b26, rv b33, iv (own_par j), iv (-1), iv 0] [(.int (own_imp (bs + j) (bs + (own_low i)) (bs + i)))]) := fun t k => K t (st42.trans k)
    replace K : OGo p e below A0 T42 (mkF m 217 #[iv p1, iv p2, iv p3, iv i, iv j, iv bs, rv b2, rv b9, rv b17, rv b26, rv b33, iv (own_par j), iv (-1), iv 0] [(.int 0), (.int (own_imp (bs + j) (bs + (own_low i)) (bs + i)))]) := fun t k => K t (XS.iload X42.here hx rfl (hb hby at_215) rfl k)
    replace K : OGo p e below A0 T42 (mkF m 220 #[iv p1, iv p2, iv p3, iv i, iv j, iv bs, rv b2, rv b9, rv b17, rv b26, rv b33, iv (own_par j), iv (-1), iv 0] []) := fun t k => K t (XS.icmpNo X42.here hx rfl (hb hby at_217) rfl (teq ((own_end hbs h6i h6j).2.2.2.1 hc175)).2 k)
    replace K : OGo p e below A0 T42 (mkF m 221 #[iv p1, iv p2, iv p3, iv i, iv j, iv bs, rv b2, rv b9, rv b17, rv b26, rv b33, iv (own_par j), iv (-1), iv 0] [(.int 1)]) := fun t k => K t (XS.iconst X42.here hx rfl (hb hby at_220) k)
    replace K : OGo p e below A0 T42 (mkF m 225 #[iv p1, iv p2, iv p3, iv i, iv j, iv bs, rv b2, rv b9, rv b17, rv b26, rv b33, iv (own_par j), iv (-1), iv 0] [(.int 1)]) := fun t k => K t (XS.goto X42.here hx rfl (pc0 := 221) (pc' := 225) rfl (hb hby at_221) (by decide) (by decide) k)
    obtain ⟨fs, hr, hrun, hended, hW, hsame⟩ := X42.leave (v := some (.int (1 : Int32))) (fun h => by rw [Bd.returns] at h; cases h)
    subst hA0
    refine ⟨_, _, K _ (retN X42 hx (t := .boolean) Bd.returns (by simp) (hb hby at_225) hr), hrun, hended, _, _, rfl, ?_, ⟨_, rfl⟩, hW, hsame.mono (by decide) (by decide)⟩
    show Q_law Z p1 p2 p3 h0 n0 _ T42.heap _
    rw [e42]
    exact ⟨rfl, N42⟩
  · replace K : OGo p e below A0 T40 (mkF m 178 #[iv p1, iv p2, iv p3, iv i, iv j, iv bs, rv b2, rv b9, rv b17, rv b26, rv b33, iv (own_par j), .unset, .unset] []) := fun t k => K t (XS.ifNo X40.here hx rfl (hb hby at_175) rfl ((if0 _ _).trans (flt hc175).1) k)
    replace K : OGo p e below A0 T40 (mkF m 180 #[iv p1, iv p2, iv p3, iv i, iv j, iv bs, rv b2, rv b9, rv b17, rv b26, rv b33, iv (own_par j), .unset, .unset] [(.ref b17)]) := fun t k => K t (XS.aload X40.here hx rfl (hb hby at_178) rfl rfl k)
    replace K : OGo p e below A0 T40 (mkF m 182 #[iv p1, iv p2, iv p3, iv i, iv j, iv bs, rv b2, rv b9, rv b17, rv b26, rv b33, iv (own_par j), .unset, .unset] [(.int (own_par j)), (.ref b17)]) := fun t k => K t (XS.iload X40.here hx rfl (hb hby at_180) rfl k)
    replace K : OGo p e below A0 T40 (mkF m 183 #[iv p1, iv p2, iv p3, iv i, iv j, iv bs, rv b2, rv b9, rv b17, rv b26, rv b33, iv (own_par j), .unset, .unset] [(.int (own_par (own_par j)))]) := fun t k => K t (own_ldI X40 hx hZ e40 V_b17_41 (j := (own_par j)) (v := (.int (own_par (own_par j)))) (own_six.nn (own_par_six h6j hc175)) (own_par_at (own_par_six h6j hc175)) (g := (mkF m 182 #[iv p1, iv p2, iv p3, iv i, iv j, iv bs, rv b2, rv b9, rv b17, rv b26, rv b33, iv (own_par j), .unset, .unset] [(.int (own_par j)), (.ref b17)])) rfl rfl (hb hby at_182) t k)
    replace K : OGo p e below A0 T40 (mkF m 187 #[iv p1, iv p2, iv p3, iv i, iv j, iv bs, rv b2, rv b9, rv b17, rv b26, rv b33, iv (own_par j), .unset, .unset] [(.int (own_par (own_par j)))]) := fun t k => K t (XS.goto X40.here hx rfl (pc0 := 183) (pc' := 187) rfl (hb hby at_183) (by decide) (by decide) k)
    replace K : OGo p e below A0 T40 (mkF m 189 #[iv p1, iv p2, iv p3, iv i, iv j, iv bs, rv b2, rv b9, rv b17, rv b26, rv b33, iv (own_par j), iv (own_par (own_par j)), .unset] []) := fun t k => K t (XS.istore X40.here hx rfl (hb hby at_187) rfl (l' := #[iv p1, iv p2, iv p3, iv i, iv j, iv bs, rv b2, rv b9, rv b17, rv b26, rv b33, iv (own_par j), iv (own_par (own_par j)), .unset]) rfl k)
    replace K : OGo p e below A0 T40 (mkF m 191 #[iv p1, iv p2, iv p3, iv i, iv j, iv bs, rv b2, rv b9, rv b17, rv b26, rv b33, iv (own_par j), iv (own_par (own_par j)), .unset] [(.int (own_par j))]) := fun t k => K t (XS.iload X40.here hx rfl (hb hby at_189) rfl k)
    replace K : OGo p e below A0 T40 (mkF m 192 #[iv p1, iv p2, iv p3, iv i, iv j, iv bs, rv b2, rv b9, rv b17, rv b26, rv b33, iv (own_par j), iv (own_par (own_par j)), .unset] [(.int i), (.int (own_par j))]) := fun t k => K t (XS.iloadN X40.here hx rfl (hb hby at_191) rfl k)
    by_cases hc192 : (own_par j) = i
    · replace K : OGo p e below A0 T40 (mkF m 201 #[iv p1, iv p2, iv p3, iv i, iv j, iv bs, rv b2, rv b9, rv b17, rv b26, rv b33, iv (own_par j), iv (own_par (own_par j)), .unset] []) := fun t k => K t (XS.icmpYes X40.here hx rfl (pc0 := 192) (pc' := 201) rfl (hb hby at_192) rfl (teq hc192).1 (by decide) (by decide) k)
      replace K : OGo p e below A0 T40 (mkF m 202 #[iv p1, iv p2, iv p3, iv i, iv j, iv bs, rv b2, rv b9, rv b17, rv b26, rv b33, iv (own_par j), iv (own_par (own_par j)), .unset] [(.int 1)]) := fun t k => K t (XS.iconst X40.here hx rfl (hb hby at_201) k)
      replace K : OGo p e below A0 T40 (mkF m 206 #[iv p1, iv p2, iv p3, iv i, iv j, iv bs, rv b2, rv b9, rv b17, rv b26, rv b33, iv (own_par j), iv (own_par (own_par j)), .unset] [(.int 1)]) := fun t k => K t (XS.goto X40.here hx rfl (pc0 := 202) (pc' := 206) rfl (hb hby at_202) (by decide) (by decide) k)
      replace K : OGo p e below A0 T40 (mkF m 208 #[iv p1, iv p2, iv p3, iv i, iv j, iv bs, rv b2, rv b9, rv b17, rv b26, rv b33, iv (own_par j), iv (own_par (own_par j)), iv 1] []) := fun t k => K t (XS.istore X40.here hx rfl (hb hby at_206) rfl (l' := #[iv p1, iv p2, iv p3, iv i, iv j, iv bs, rv b2, rv b9, rv b17, rv b26, rv b33, iv (own_par j), iv (own_par (own_par j)), iv 1]) rfl k)
      replace K : OGo p e below A0 T40 (mkF m 210 #[iv p1, iv p2, iv p3, iv i, iv j, iv bs, rv b2, rv b9, rv b17, rv b26, rv b33, iv (own_par j), iv (own_par (own_par j)), iv 1] [(.ref b26)]) := fun t k => K t (XS.aload X40.here hx rfl (hb hby at_208) rfl rfl k)
      replace K : OGo p e below A0 T40 (mkF m 212 #[iv p1, iv p2, iv p3, iv i, iv j, iv bs, rv b2, rv b9, rv b17, rv b26, rv b33, iv (own_par j), iv (own_par (own_par j)), iv 1] [(.ref b33), (.ref b26)]) := fun t k => K t (XS.aload X40.here hx rfl (hb hby at_210) rfl rfl k)
      have F_rank_b26_47 := ((P32_0.ext E33).keep K40 (ninS ne_b26_b33 nin0))
      have F_lowestImported_b26_48 := ((P32_1.ext E33).keep K40 (ninS ne_b26_b33 nin0))
      have A26_49 := ((A26_37.ext E33).keep K40)
      obtain ⟨cq46, kq46, q46a, q46b, q46c⟩ := isOf hZ e40 A26_49
      obtain ⟨_, _, ⟨T46, L46, k46, n46⟩, -, X46, ⟨Lc46, hQ46, l46, y46, z46⟩, st46⟩ := X40.virtualBack hx (y := mN2) (z := mN2) hown (mvT hZ (ow hw 20 rfl)) (mvT hZ (ow hw 21 rfl)) (notFace_of_selects (args := #[]) (mvT hZ (ow hw 23 rfl))) (mvT hZ (ow hw 23 rfl)) (mvT hZ (ow hw 22 rfl)) (by decide) (backOf (W := 0) (rm_imps l Z a0 hw [] b26 b33 (bs + i) (bs + (own_low i)) (bs + j) hp40 n0 Z40 F_rank_b26_47 F_lowestImported_b26_48 P40_0) hZ (ow hw 24 rfl) (ow hw 9 rfl) (by decide) (by decide)) q46a q46c (g := (mkF m 212 #[iv p1, iv p2, iv p3, iv i, iv j, iv bs, rv b2, rv b9, rv b17, rv b26, rv b33, iv (own_par j), iv (own_par (own_par j)), iv 1] [(.ref b33), (.ref b26)])) rfl (by rw [hml]; rfl) (Steps.refl _) (argsL := [(.ref b33)]) (rest := []) (lenOf pd__Lcom_example_imprint_imprint_xslt_ImportPrecedence__Z rfl) rfl (by show 2 * 0 + _ ≤ _; exact Nat.le_of_eq rfl) (hb hby at_212) (fun _ _ => ⟨rfl, e40, (by decide : 5 + 0 ≤ _), (by decide : 22 + 0 ≤ _)⟩)
      dsimp only [Pt.U, Pt.locs, Pt.cells, Pt.slots] at X46 l46 y46 z46 st46 hQ46
      subst l46 y46 z46
      obtain ⟨rfl, Nq46, e46⟩ := hQ46
      have N46 := Fr.app N40 Nq46
      replace K : OGo p e below A0 T46 (mkF m 215 #[iv p1, iv p2, iv p3, iv i, iv j, iv bs, rv b2, rv b9, rv b17, rv b26, rv b33, iv (own_par j), iv (own_par (own_par j)), iv 1] [(.int (own_imp (bs + j) (bs + (own_low i)) (bs + i)))]) := fun t k => K t (st46.trans k)
      replace K : OGo p e below A0 T46 (mkF m 217 #[iv p1, iv p2, iv p3, iv i, iv j, iv bs, rv b2, rv b9, rv b17, rv b26, rv b33, iv (own_par j), iv (own_par (own_par j)), iv 1] [(.int 1), (.int (own_imp (bs + j) (bs + (own_low i)) (bs + i)))]) := fun t k => K t (XS.iload X46.here hx rfl (hb hby at_215) rfl k)
      replace K : OGo p e below A0 T46 (mkF m 220 #[iv p1, iv p2, iv p3, iv i, iv j, iv bs, rv b2, rv b9, rv b17, rv b26, rv b33, iv (own_par j), iv (own_par (own_par j)), iv 1] []) := fun t k => K t (XS.icmpNo X46.here hx rfl (hb hby at_217) rfl (teq ((own_end hbs h6i h6j).1 hc192)).2 k)
      replace K : OGo p e below A0 T46 (mkF m 221 #[iv p1, iv p2, iv p3, iv i, iv j, iv bs, rv b2, rv b9, rv b17, rv b26, rv b33, iv (own_par j), iv (own_par (own_par j)), iv 1] [(.int 1)]) := fun t k => K t (XS.iconst X46.here hx rfl (hb hby at_220) k)
      replace K : OGo p e below A0 T46 (mkF m 225 #[iv p1, iv p2, iv p3, iv i, iv j, iv bs, rv b2, rv b9, rv b17, rv b26, rv b33, iv (own_par j), iv (own_par (own_par j)), iv 1] [(.int 1)]) := fun t k => K t (XS.goto X46.here hx rfl (pc0 := 221) (pc' := 225) rfl (hb hby at_221) (by decide) (by decide) k)
      obtain ⟨fs, hr, hrun, hended, hW, hsame⟩ := X46.leave (v := some (.int (1 : Int32))) (fun h => by rw [Bd.returns] at h; cases h)
      subst hA0
      refine ⟨_, _, K _ (retN X46 hx (t := .boolean) Bd.returns (by simp) (hb hby at_225) hr), hrun, hended, _, _, rfl, ?_, ⟨_, rfl⟩, hW, hsame.mono (by decide) (by decide)⟩
      show Q_law Z p1 p2 p3 h0 n0 _ T46.heap _
      rw [e46]
      exact ⟨rfl, N46⟩
    · replace K : OGo p e below A0 T40 (mkF m 195 #[iv p1, iv p2, iv p3, iv i, iv j, iv bs, rv b2, rv b9, rv b17, rv b26, rv b33, iv (own_par j), iv (own_par (own_par j)), .unset] []) := fun t k => K t (XS.icmpNo X40.here hx rfl (hb hby at_192) rfl (feq hc192).1 k)
      replace K : OGo p e below A0 T40 (mkF m 197 #[iv p1, iv p2, iv p3, iv i, iv j, iv bs, rv b2, rv b9, rv b17, rv b26, rv b33, iv (own_par j), iv (own_par (own_par j)), .unset] [(.int (own_par (own_par j)))]) := fun t k => K t (XS.iload X40.here hx rfl (hb hby at_195) rfl k)
      replace K : OGo p e below A0 T40 (mkF m 198 #[iv p1, iv p2, iv p3, iv i, iv j, iv bs, rv b2, rv b9, rv b17, rv b26, rv b33, iv (own_par j), iv (own_par (own_par j)), .unset] [(.int i), (.int (own_par (own_par j)))]) := fun t k => K t (XS.iloadN X40.here hx rfl (hb hby at_197) rfl k)
      by_cases hc198 : (own_par (own_par j)) = i
      · replace K : OGo p e below A0 T40 (mkF m 201 #[iv p1, iv p2, iv p3, iv i, iv j, iv bs, rv b2, rv b9, rv b17, rv b26, rv b33, iv (own_par j), iv (own_par (own_par j)), .unset] []) := fun t k => K t (XS.icmpNo X40.here hx rfl (hb hby at_198) rfl (teq hc198).2 k)
        replace K : OGo p e below A0 T40 (mkF m 202 #[iv p1, iv p2, iv p3, iv i, iv j, iv bs, rv b2, rv b9, rv b17, rv b26, rv b33, iv (own_par j), iv (own_par (own_par j)), .unset] [(.int 1)]) := fun t k => K t (XS.iconst X40.here hx rfl (hb hby at_201) k)
        replace K : OGo p e below A0 T40 (mkF m 206 #[iv p1, iv p2, iv p3, iv i, iv j, iv bs, rv b2, rv b9, rv b17, rv b26, rv b33, iv (own_par j), iv (own_par (own_par j)), .unset] [(.int 1)]) := fun t k => K t (XS.goto X40.here hx rfl (pc0 := 202) (pc' := 206) rfl (hb hby at_202) (by decide) (by decide) k)
        replace K : OGo p e below A0 T40 (mkF m 208 #[iv p1, iv p2, iv p3, iv i, iv j, iv bs, rv b2, rv b9, rv b17, rv b26, rv b33, iv (own_par j), iv (own_par (own_par j)), iv 1] []) := fun t k => K t (XS.istore X40.here hx rfl (hb hby at_206) rfl (l' := #[iv p1, iv p2, iv p3, iv i, iv j, iv bs, rv b2, rv b9, rv b17, rv b26, rv b33, iv (own_par j), iv (own_par (own_par j)), iv 1]) rfl k)
        replace K : OGo p e below A0 T40 (mkF m 210 #[iv p1, iv p2, iv p3, iv i, iv j, iv bs, rv b2, rv b9, rv b17, rv b26, rv b33, iv (own_par j), iv (own_par (own_par j)), iv 1] [(.ref b26)]) := fun t k => K t (XS.aload X40.here hx rfl (hb hby at_208) rfl rfl k)
        replace K : OGo p e below A0 T40 (mkF m 212 #[iv p1, iv p2, iv p3, iv i, iv j, iv bs, rv b2, rv b9, rv b17, rv b26, rv b33, iv (own_par j), iv (own_par (own_par j)), iv 1] [(.ref b33), (.ref b26)]) := fun t k => K t (XS.aload X40.here hx rfl (hb hby at_210) rfl rfl k)
        have F_rank_b26_51 := ((P32_0.ext E33).keep K40 (ninS ne_b26_b33 nin0))
        have F_lowestImported_b26_52 := ((P32_1.ext E33).keep K40 (ninS ne_b26_b33 nin0))
        have A26_53 := ((A26_37.ext E33).keep K40)
        obtain ⟨cq50, kq50, q50a, q50b, q50c⟩ := isOf hZ e40 A26_53
        obtain ⟨_, _, ⟨T50, L50, k50, n50⟩, -, X50, ⟨Lc50, hQ50, l50, y50, z50⟩, st50⟩ := X40.virtualBack hx (y := mN2) (z := mN2) hown (mvT hZ (ow hw 20 rfl)) (mvT hZ (ow hw 21 rfl)) (notFace_of_selects (args := #[]) (mvT hZ (ow hw 23 rfl))) (mvT hZ (ow hw 23 rfl)) (mvT hZ (ow hw 22 rfl)) (by decide) (backOf (W := 0) (rm_imps l Z a0 hw [] b26 b33 (bs + i) (bs + (own_low i)) (bs + j) hp40 n0 Z40 F_rank_b26_51 F_lowestImported_b26_52 P40_0) hZ (ow hw 24 rfl) (ow hw 9 rfl) (by decide) (by decide)) q50a q50c (g := (mkF m 212 #[iv p1, iv p2, iv p3, iv i, iv j, iv bs, rv b2, rv b9, rv b17, rv b26, rv b33, iv (own_par j), iv (own_par (own_par j)), iv 1] [(.ref b33), (.ref b26)])) rfl (by rw [hml]; rfl) (Steps.refl _) (argsL := [(.ref b33)]) (rest := []) (lenOf pd__Lcom_example_imprint_imprint_xslt_ImportPrecedence__Z rfl) rfl (by show 2 * 0 + _ ≤ _; exact Nat.le_of_eq rfl) (hb hby at_212) (fun _ _ => ⟨rfl, e40, (by decide : 5 + 0 ≤ _), (by decide : 22 + 0 ≤ _)⟩)
        dsimp only [Pt.U, Pt.locs, Pt.cells, Pt.slots] at X50 l50 y50 z50 st50 hQ50
        subst l50 y50 z50
        obtain ⟨rfl, Nq50, e50⟩ := hQ50
        have N50 := Fr.app N40 Nq50
        replace K : OGo p e below A0 T50 (mkF m 215 #[iv p1, iv p2, iv p3, iv i, iv j, iv bs, rv b2, rv b9, rv b17, rv b26, rv b33, iv (own_par j), iv (own_par (own_par j)), iv 1] [(.int (own_imp (bs + j) (bs + (own_low i)) (bs + i)))]) := fun t k => K t (st50.trans k)
        replace K : OGo p e below A0 T50 (mkF m 217 #[iv p1, iv p2, iv p3, iv i, iv j, iv bs, rv b2, rv b9, rv b17, rv b26, rv b33, iv (own_par j), iv (own_par (own_par j)), iv 1] [(.int 1), (.int (own_imp (bs + j) (bs + (own_low i)) (bs + i)))]) := fun t k => K t (XS.iload X50.here hx rfl (hb hby at_215) rfl k)
        replace K : OGo p e below A0 T50 (mkF m 220 #[iv p1, iv p2, iv p3, iv i, iv j, iv bs, rv b2, rv b9, rv b17, rv b26, rv b33, iv (own_par j), iv (own_par (own_par j)), iv 1] []) := fun t k => K t (XS.icmpNo X50.here hx rfl (hb hby at_217) rfl (teq ((own_end hbs h6i h6j).2.1 hc175 hc198)).2 k)
        replace K : OGo p e below A0 T50 (mkF m 221 #[iv p1, iv p2, iv p3, iv i, iv j, iv bs, rv b2, rv b9, rv b17, rv b26, rv b33, iv (own_par j), iv (own_par (own_par j)), iv 1] [(.int 1)]) := fun t k => K t (XS.iconst X50.here hx rfl (hb hby at_220) k)
        replace K : OGo p e below A0 T50 (mkF m 225 #[iv p1, iv p2, iv p3, iv i, iv j, iv bs, rv b2, rv b9, rv b17, rv b26, rv b33, iv (own_par j), iv (own_par (own_par j)), iv 1] [(.int 1)]) := fun t k => K t (XS.goto X50.here hx rfl (pc0 := 221) (pc' := 225) rfl (hb hby at_221) (by decide) (by decide) k)
        obtain ⟨fs, hr, hrun, hended, hW, hsame⟩ := X50.leave (v := some (.int (1 : Int32))) (fun h => by rw [Bd.returns] at h; cases h)
        subst hA0
        refine ⟨_, _, K _ (retN X50 hx (t := .boolean) Bd.returns (by simp) (hb hby at_225) hr), hrun, hended, _, _, rfl, ?_, ⟨_, rfl⟩, hW, hsame.mono (by decide) (by decide)⟩
        show Q_law Z p1 p2 p3 h0 n0 _ T50.heap _
        rw [e50]
        exact ⟨rfl, N50⟩
      · replace K : OGo p e below A0 T40 (mkF m 205 #[iv p1, iv p2, iv p3, iv i, iv j, iv bs, rv b2, rv b9, rv b17, rv b26, rv b33, iv (own_par j), iv (own_par (own_par j)), .unset] []) := fun t k => K t (XS.icmpYes X40.here hx rfl (pc0 := 198) (pc' := 205) rfl (hb hby at_198) rfl (feq hc198).2 (by decide) (by decide) k)
        replace K : OGo p e below A0 T40 (mkF m 206 #[iv p1, iv p2, iv p3, iv i, iv j, iv bs, rv b2, rv b9, rv b17, rv b26, rv b33, iv (own_par j), iv (own_par (own_par j)), .unset] [(.int 0)]) := fun t k => K t (XS.iconst X40.here hx rfl (hb hby at_205) k)
        replace K : OGo p e below A0 T40 (mkF m 208 #[iv p1, iv p2, iv p3, iv i, iv j, iv bs, rv b2, rv b9, rv b17, rv b26, rv b33, iv (own_par j), iv (own_par (own_par j)), iv 0] []) := fun t k => K t (XS.istore X40.here hx rfl (hb hby at_206) rfl (l' := #[iv p1, iv p2, iv p3, iv i, iv j, iv bs, rv b2, rv b9, rv b17, rv b26, rv b33, iv (own_par j), iv (own_par (own_par j)), iv 0]) rfl k)
        replace K : OGo p e below A0 T40 (mkF m 210 #[iv p1, iv p2, iv p3, iv i, iv j, iv bs, rv b2, rv b9, rv b17, rv b26, rv b33, iv (own_par j), iv (own_par (own_par j)), iv 0] [(.ref b26)]) := fun t k => K t (XS.aload X40.here hx rfl (hb hby at_208) rfl rfl k)
        replace K : OGo p e below A0 T40 (mkF m 212 #[iv p1, iv p2, iv p3, iv i, iv j, iv bs, rv b2, rv b9, rv b17, rv b26, rv b33, iv (own_par j), iv (own_par (own_par j)), iv 0] [(.ref b33), (.ref b26)]) := fun t k => K t (XS.aload X40.here hx rfl (hb hby at_210) rfl rfl k)
        have F_rank_b26_55 := ((P32_0.ext E33).keep K40 (ninS ne_b26_b33 nin0))
        have F_lowestImported_b26_56 := ((P32_1.ext E33).keep K40 (ninS ne_b26_b33 nin0))
        have A26_57 := ((A26_37.ext E33).keep K40)
        obtain ⟨cq54, kq54, q54a, q54b, q54c⟩ := isOf hZ e40 A26_57
        obtain ⟨_, _, ⟨T54, L54, k54, n54⟩, -, X54, ⟨Lc54, hQ54, l54, y54, z54⟩, st54⟩ := X40.virtualBack hx (y := mN2) (z := mN2) hown (mvT hZ (ow hw 20 rfl)) (mvT hZ (ow hw 21 rfl)) (notFace_of_selects (args := #[]) (mvT hZ (ow hw 23 rfl))) (mvT hZ (ow hw 23 rfl)) (mvT hZ (ow hw 22 rfl)) (by decide) (backOf (W := 0) (rm_imps l Z a0 hw [] b26 b33 (bs + i) (bs + (own_low i)) (bs + j) hp40 n0 Z40 F_rank_b26_55 F_lowestImported_b26_56 P40_0) hZ (ow hw 24 rfl) (ow hw 9 rfl) (by decide) (by decide)) q54a q54c (g := (mkF m 212 #[iv p1, iv p2, iv p3, iv i, iv j, iv bs, rv b2, rv b9, rv b17, rv b26, rv b33, iv (own_par j), iv (own_par (own_par j)), iv 0] [(.ref b33), (.ref b26)])) rfl (by rw [hml]; rfl) (Steps.refl _) (argsL := [(.ref b33)]) (rest := []) (lenOf pd__Lcom_example_imprint_imprint_xslt_ImportPrecedence__Z rfl) rfl (by show 2 * 0 + _ ≤ _; exact Nat.le_of_eq rfl) (hb hby at_212) (fun _ _ => ⟨rfl, e40, (by decide : 5 + 0 ≤ _), (by decide : 22 + 0 ≤ _)⟩)
        dsimp only [Pt.U, Pt.locs, Pt.cells, Pt.slots] at X54 l54 y54 z54 st54 hQ54
        subst l54 y54 z54
        obtain ⟨rfl, Nq54, e54⟩ := hQ54
        have N54 := Fr.app N40 Nq54
        replace K : OGo p e below A0 T54 (mkF m 215 #[iv p1, iv p2, iv p3, iv i, iv j, iv bs, rv b2, rv b9, rv b17, rv b26, rv b33, iv (own_par j), iv (own_par (own_par j)), iv 0] [(.int (own_imp (bs + j) (bs + (own_low i)) (bs + i)))]) := fun t k => K t (st54.trans k)
        replace K : OGo p e below A0 T54 (mkF m 217 #[iv p1, iv p2, iv p3, iv i, iv j, iv bs, rv b2, rv b9, rv b17, rv b26, rv b33, iv (own_par j), iv (own_par (own_par j)), iv 0] [(.int 0), (.int (own_imp (bs + j) (bs + (own_low i)) (bs + i)))]) := fun t k => K t (XS.iload X54.here hx rfl (hb hby at_215) rfl k)
        replace K : OGo p e below A0 T54 (mkF m 220 #[iv p1, iv p2, iv p3, iv i, iv j, iv bs, rv b2, rv b9, rv b17, rv b26, rv b33, iv (own_par j), iv (own_par (own_par j)), iv 0] []) := fun t k => K t (XS.icmpNo X54.here hx rfl (hb hby at_217) rfl (teq ((own_end hbs h6i h6j).2.2.1 hc175 hc192 hc198)).2 k)
        replace K : OGo p e below A0 T54 (mkF m 221 #[iv p1, iv p2, iv p3, iv i, iv j, iv bs, rv b2, rv b9, rv b17, rv b26, rv b33, iv (own_par j), iv (own_par (own_par j)), iv 0] [(.int 1)]) := fun t k => K t (XS.iconst X54.here hx rfl (hb hby at_220) k)
        replace K : OGo p e below A0 T54 (mkF m 225 #[iv p1, iv p2, iv p3, iv i, iv j, iv bs, rv b2, rv b9, rv b17, rv b26, rv b33, iv (own_par j), iv (own_par (own_par j)), iv 0] [(.int 1)]) := fun t k => K t (XS.goto X54.here hx rfl (pc0 := 221) (pc' := 225) rfl (hb hby at_221) (by decide) (by decide) k)
        obtain ⟨fs, hr, hrun, hended, hW, hsame⟩ := X54.leave (v := some (.int (1 : Int32))) (fun h => by rw [Bd.returns] at h; cases h)
        subst hA0
        refine ⟨_, _, K _ (retN X54 hx (t := .boolean) Bd.returns (by simp) (hb hby at_225) hr), hrun, hended, _, _, rfl, ?_, ⟨_, rfl⟩, hW, hsame.mono (by decide) (by decide)⟩
        show Q_law Z p1 p2 p3 h0 n0 _ T54.heap _
        rw [e54]
        exact ⟨rfl, N54⟩
set_option maxRecDepth 65536 in
set_option maxHeartbeats 40000000 in
theorem comes_1 {Post : Tables → Env → Array Value → State → Outcome → State → Prop} (hpost : ∀ tb e args s v u, (limb_1_1.after args s (.returned v) u = true ∧ limb_1_2.after args s (.returned v) u = true ∧ True) → FrameEnd s (.returned v) u (Jvm.fieldLocs frame_1_writes args s ++ Jvm.arrayLocs frame_1_arrays args s ++ Jvm.staticLocs frame_1_statics s) 24 128 → Post tb e args s (.returned v) u) :
    ArmFor flags0 classFile x code maxLocals ret World_1 tables_1 room_1 Calls_1 rest_1 Pre_1 Post := by
  intro l hfl _ _ p e ha hc hk s m args below hf hA hF happ hP
  obtain ⟨hcalls, hrest, hpre⟩ := hP
  obtain ⟨-, -, -, hnamed, -, -, -, hat⟩ := (Spec.applies_iff hf).mp happ
  obtain ⟨hg, hn⟩ := and_e (Cond.before_iff.mp (show (Jvm.Cond.and given_1 narrow_1).before args s = true from hpre))
  obtain ⟨gv1, gv2⟩ := and_e hg
  obtain ⟨gv3, gv4⟩ := and_e gv2
  obtain ⟨gv5, gv6⟩ := and_e gv4
  obtain ⟨w0, w1, w2, rfl⟩ : ∃ w0 w1 w2 : Value, args = #[w0, w1, w2] := by
    have hs : args.size = 3 := by simpa [Cond.value, given_1] using gv1
    obtain ⟨L⟩ := args
    match L, hs with
    | [w0, w1, w2], _ => exact ⟨w0, w1, w2, rfl⟩
  have hw := fun d (hd : d ∈ tables_1) => atoms_spec (ws := Jvm.Cond.code x code maxLocals ret :: tables_1) hat d (List.mem_cons_of_mem _ hd)
  have hfit : Fit s := fun {y c} hc i hi => by
    obtain ⟨ha, rfl⟩ := Array.getElem?_eq_some_iff.mp hc
    have q := List.all_eq_true.mp ((Array.all_eq_true_iff_forall_mem.mp hF) _ (Array.getElem_mem ha)) i (List.mem_range.mpr hi)
    simpa [Array.getElem?_eq_getElem hi] using q
  obtain ⟨i0, ei0⟩ := is_v gv3
  obtain rfl : w0 = (.int i0) := Option.some.inj ei0
  obtain ⟨i1, ei1⟩ := is_v gv5
  obtain rfl : w1 = (.int i1) := Option.some.inj ei1
  obtain ⟨i2, ei2⟩ := is_v gv6
  obtain rfl : w2 = (.int i2) := Option.some.inj ei2
  obtain ⟨n, o, h1, h2, h3, _, L, rfl, ⟨rfl, N⟩, hq⟩ := rm_law l s _ hw tables_1 i0 i1 i2 s.heap s.heap.size (Nat.le_refl _)  p e ha hc hk s m _ below hf ((Spec.applies_iff_loose hf).mp happ).1 ⟨rfl, State.Warmed39.refl s, rfl⟩ trivial
  refine ⟨n, _, h1, h2, h3, hpost _ _ _ _ _ _ ⟨Cond.after_iff.mpr rfl, Cond.after_iff.mpr (eq_i res_at (Term.int_eval (1)) rfl), trivial⟩ ⟨hq.1, hq.2.1, (hq.2.2.sift fun y hy => Or.inr (N y hy)).mono (by decide) (by decide)⟩⟩
theorem main_1_1 : Claimed_1_1 := comes_1 fun _ _ _ _ _ _ h hF => ⟨h.1, hF⟩
theorem main_1_2 : Claimed_1_2 := comes_1 fun _ _ _ _ _ _ h hF => ⟨h.2.1, hF⟩
end Jvm.Pilot.@@N@@
namespace Jvm.Pilot.@@N@@
open Jvm Jvm.ClassFile Sem Op Lib Jvm.Free Jvm.Stand Jvm.Pilot.@@N@@.Jvm.D
/-! MADE BY PROGRAM (witnessworld.py) out of the Statement's table words and the real class files: 10 classes; the members and pool entries that the words name. The judged class is class 1, her method 1. -/
namespace start1
open Jvm.ClassFile
def u (s : String) : CpInfo := .utf8 (stringToUtf16 s)
/-- a pool by its gaps: so many unusable entries, then the entry; so many at the end -/
def gap : Nat → List CpInfo → List CpInfo
  | 0, r => r
  | n + 1, r => .unusable :: gap n r
def poolList (es : List (Nat × CpInfo)) (last : Nat) : List CpInfo := es.foldr (fun e r => gap e.1 (e.2 :: r)) (gap last [])
def pool (es : List (Nat × CpInfo)) (last : Nat) : Array CpInfo := ⟨poolList es last⟩
def fileOf (pool : Array CpInfo) (this : Nat) (attrs : Array Attribute := #[]) (ms : Array MethodInfo := #[]) (fl : Nat := 33) (sup : Nat := 0) (ifs : Array Nat := #[]) (fds : Array FieldInfo := #[]) : ClassFile where
  minorVersion := 0
  majorVersion := 65
  constantPool := pool
  accessFlags := fl
  thisClass := this
  superClass := sup
  interfaces := ifs
  fields := fds
  methods := ms
  attributes := attrs
def plain (name : String) (sup : Option ClassId) : Class where
  name := name
  kind := .ordinary
  loader := none
  accessFlags := 33
  super := sup
  interfaces := #[]
  cf := none
  fields := #[]
  methods := #[]
  instanceTypes := #[]
  staticTypes := #[]
  resolved := #[]
  callSites := []
  init := .initialized
  statics := none
  mirror := none

def pool0 : Array CpInfo := pool [(5, u "<init>"), (0, u "()V"), (1, .class_ 10), (1, u "java/lang/Object")] 113

def k0c0 : Code := { maxStack := 0, maxLocals := 1, code := object_method_1_code, exceptionTable := #[], attributes := #[] }
def k0m0 : Method := { name := "<init>", desc := "()V", sig := { parameters := [], returnType := none }, accessFlags := 1, code := some k0c0 }
/-- java/lang/Object -/
def k0 : Class := { plain "java/lang/Object" none with
  accessFlags := 33
  interfaces := #[]
  cf := some (fileOf pool0 8 #[] #[{ accessFlags := 1, nameIndex := 5, descriptorIndex := 6, attributes := #[] }] 33 0 #[] #[])
  fields := #[]
  methods := #[k0m0]
  instanceTypes := #[]
  staticTypes := #[]
  resolved := Array.replicate 124 none
  statics := none }

def pool1 : Array CpInfo := pool [(2, .class_ 4), (1, u "java/lang/Object"), (0, u "<init>"), (0, u "()V"), (0, .integer 2147483647), (2, .integer 2147483642), (0, .methodref 12 13), (0, .class_ 14), (0, .nameAndType 15 16), (0, u "java/lang/Math"), (0, u "min"), (0, u "(II)I"), (0, .class_ 18), (0, u "com/example/imprint/imprint/xslt/ImportPrecedence"), (0, .methodref 17 20), (0, .nameAndType 5 21), (0, u "(II)V"), (0, .methodref 17 23), (0, .nameAndType 24 25), (0, u "imports"), (0, u "(Lcom/example/imprint/imprint/xslt/ImportPrecedence;)Z"), (0, .class_ 27), (0, u "com/example/imprint/imprint/xslt/ImportPrecedenceImportsPinLaw"), (2, u "law"), (0, u "(III)Z")] 5

def k1m0 : Method := { name := "<init>", desc := "()V", sig := { parameters := [], returnType := none }, accessFlags := 1, code := none }
def k1c1 : Code := { maxStack := 6, maxLocals := 14, code := code, exceptionTable := #[], attributes := #[] }
def k1m1 : Method := { name := "law", desc := "(III)Z", sig := { parameters := [.int, .int, .int], returnType := some .boolean }, accessFlags := 9, code := some k1c1 }
/-- com/example/imprint/imprint/xslt/ImportPrecedenceImportsPinLaw -/
def k1 : Class := { plain "com/example/imprint/imprint/xslt/ImportPrecedenceImportsPinLaw" (some 0) with
  accessFlags := 49
  interfaces := #[]
  cf := some (fileOf pool1 26 #[] #[{ accessFlags := 1, nameIndex := 5, descriptorIndex := 6, attributes := #[] }, { accessFlags := 9, nameIndex := 30, descriptorIndex := 31, attributes := #[] }] 49 2 #[] #[])
  fields := #[]
  methods := #[k1m0, k1m1]
  instanceTypes := #[]
  staticTypes := #[]
  resolved := Array.replicate 37 none
  statics := none }

def pool2 : Array CpInfo := pool [(1, .class_ 2), (0, u "java/lang/Math"), (1, .class_ 6), (1, u "java/lang/Object"), (0, u "<init>"), (0, u "()V"), (89, .class_ 100), (1, u "java/lang/Math$RandomNumberGeneratorHolder"), (71, u "negativeZeroFloatBits"), (0, u "J"), (2, u "negativeZeroDoubleBits"), (24, u "min"), (43, u "$assertionsDisabled"), (0, u "Z"), (88, u "(II)I"), (2, u "twoToTheDoubleScaleDown"), (0, u "D"), (4, u "twoToTheDoubleScaleUp"), (9, u "E"), (3, u "PI"), (2, u "TAU"), (2, u "DEGREES_TO_RADIANS"), (0, u "RADIANS_TO_DEGREES")] 94

def k2m0 : Method := { name := "<init>", desc := "()V", sig := { parameters := [], returnType := none }, accessFlags := 2, code := none }
def k2c1 : Code := { maxStack := 2, maxLocals := 2, code := jdk_29_method_69_code, exceptionTable := #[], attributes := #[] }
def k2m1 : Method := { name := "min", desc := "(II)I", sig := { parameters := [.int, .int], returnType := some .int }, accessFlags := 9, code := some k2c1 }
/-- java/lang/Math -/
def k2 : Class := { plain "java/lang/Math" (some 0) with
  accessFlags := 49
  interfaces := #[]
  cf := some (fileOf pool2 1 #[.nestMembers #[98]] #[{ accessFlags := 2, nameIndex := 7, descriptorIndex := 8, attributes := #[] }, { accessFlags := 9, nameIndex := 201, descriptorIndex := 335, attributes := #[] }] 49 4 #[] #[{ accessFlags := 25, nameIndex := 354, descriptorIndex := 339, attributes := #[] }, { accessFlags := 25, nameIndex := 358, descriptorIndex := 339, attributes := #[] }, { accessFlags := 25, nameIndex := 361, descriptorIndex := 339, attributes := #[] }, { accessFlags := 26, nameIndex := 364, descriptorIndex := 339, attributes := #[] }, { accessFlags := 26, nameIndex := 365, descriptorIndex := 339, attributes := #[] }, { accessFlags := 26, nameIndex := 172, descriptorIndex := 173, attributes := #[] }, { accessFlags := 26, nameIndex := 176, descriptorIndex := 173, attributes := #[] }, { accessFlags := 8, nameIndex := 344, descriptorIndex := 339, attributes := #[] }, { accessFlags := 8, nameIndex := 338, descriptorIndex := 339, attributes := #[] }, { accessFlags := 4120, nameIndex := 245, descriptorIndex := 246, attributes := #[] }])
  fields := #[{ name := "E", type := .double, accessFlags := 25, slot := 0, constantValue := 0 }, { name := "PI", type := .double, accessFlags := 25, slot := 1, constantValue := 0 }, { name := "TAU", type := .double, accessFlags := 25, slot := 2, constantValue := 0 }, { name := "DEGREES_TO_RADIANS", type := .double, accessFlags := 26, slot := 3, constantValue := 0 }, { name := "RADIANS_TO_DEGREES", type := .double, accessFlags := 26, slot := 4, constantValue := 0 }, { name := "negativeZeroFloatBits", type := .long, accessFlags := 26, slot := 5, constantValue := 0 }, { name := "negativeZeroDoubleBits", type := .long, accessFlags := 26, slot := 6, constantValue := 0 }, { name := "twoToTheDoubleScaleUp", type := .double, accessFlags := 8, slot := 7, constantValue := 0 }, { name := "twoToTheDoubleScaleDown", type := .double, accessFlags := 8, slot := 8, constantValue := 0 }, { name := "$assertionsDisabled", type := .boolean, accessFlags := 4120, slot := 9, constantValue := 0 }]
  methods := #[k2m0, k2m1]
  instanceTypes := #[]
  staticTypes := #[.double, .double, .double, .double, .double, .long, .long, .double, .double, .boolean]
  resolved := Array.replicate 460 none
  statics := none }

def pool3 : Array CpInfo := pool [(1, .methodref 2 3), (0, .class_ 4), (0, .nameAndType 5 6), (0, u "java/lang/Object"), (0, u "<init>"), (0, u "()V"), (0, .fieldref 8 9), (0, .class_ 10), (0, .nameAndType 11 12), (0, u "com/example/imprint/imprint/xslt/ImportPrecedence"), (0, u "rank"), (0, u "I"), (0, .fieldref 8 14), (0, .nameAndType 15 12), (0, u "lowestImported"), (0, u "(II)V"), (3, u "imports"), (0, u "(Lcom/example/imprint/imprint/xslt/ImportPrecedence;)Z")] 4

def k3c0 : Code := { maxStack := 2, maxLocals := 3, code := prog_189_method_1_code, exceptionTable := #[], attributes := #[] }
def k3m0 : Method := { name := "<init>", desc := "(II)V", sig := { parameters := [.int, .int], returnType := none }, accessFlags := 0, code := some k3c0 }
def k3c1 : Code := { maxStack := 2, maxLocals := 2, code := prog_189_method_3_code, exceptionTable := #[], attributes := #[] }
def k3m1 : Method := { name := "imports", desc := "(Lcom/example/imprint/imprint/xslt/ImportPrecedence;)Z", sig := { parameters := [(.object "com/example/imprint/imprint/xslt/ImportPrecedence")], returnType := some .boolean }, accessFlags := 0, code := some k3c1 }
/-- com/example/imprint/imprint/xslt/ImportPrecedence -/
def k3 : Class := { plain "com/example/imprint/imprint/xslt/ImportPrecedence" (some 0) with
  accessFlags := 48
  interfaces := #[]
  cf := some (fileOf pool3 8 #[] #[{ accessFlags := 0, nameIndex := 5, descriptorIndex := 16, attributes := #[] }, { accessFlags := 0, nameIndex := 20, descriptorIndex := 21, attributes := #[] }] 48 2 #[] #[{ accessFlags := 18, nameIndex := 11, descriptorIndex := 12, attributes := #[] }, { accessFlags := 18, nameIndex := 15, descriptorIndex := 12, attributes := #[] }])
  fields := #[{ name := "rank", type := .int, accessFlags := 18, slot := 0, constantValue := 0 }, { name := "lowestImported", type := .int, accessFlags := 18, slot := 1, constantValue := 0 }]
  methods := #[k3m0, k3m1]
  instanceTypes := #[.int, .int]
  staticTypes := #[]
  resolved := Array.replicate 26 none
  statics := none }

def pool4 : Array CpInfo := pool [(1, u "java/lang/Cloneable"), (0, .class_ 1), (0, u "java/lang/Object"), (0, .class_ 3)] 3

/-- java/lang/Cloneable -/
def k4 : Class := { plain "java/lang/Cloneable" (some 0) with
  accessFlags := 1537
  interfaces := #[]
  cf := some (fileOf pool4 2 #[] #[] 1537 4 #[] #[])
  fields := #[]
  methods := #[]
  instanceTypes := #[]
  staticTypes := #[]
  resolved := Array.replicate 8 none
  statics := none }

def pool5 : Array CpInfo := pool [(1, u "java/io/Serializable"), (0, .class_ 1), (0, u "java/lang/Object"), (0, .class_ 3)] 3

/-- java/io/Serializable -/
def k5 : Class := { plain "java/io/Serializable" (some 0) with
  accessFlags := 1537
  interfaces := #[]
  cf := some (fileOf pool5 2 #[] #[] 1537 4 #[] #[])
  fields := #[]
  methods := #[]
  instanceTypes := #[]
  staticTypes := #[]
  resolved := Array.replicate 8 none
  statics := none }

/-- the primitive byte -/
def k6 : Class := { plain "byte" none with kind := .primitive 'B', accessFlags := 0x411 }
/-- [B -/
def k7 : Class := { plain "[B" (some 0) with kind := .array 6 .byte, interfaces := #[4, 5], accessFlags := 1041 }

/-- the primitive int -/
def k8 : Class := { plain "int" none with kind := .primitive 'I', accessFlags := 0x411 }
/-- [I -/
def k9 : Class := { plain "[I" (some 0) with kind := .array 8 .int, interfaces := #[4, 5], accessFlags := 1041 }

def heap : Heap := #[]
def classes : Array Class := #[k0, k1, k2, k3, k4, k5, k6, k7, k8, k9]
def interned : List (Array UInt16 × Addr) := []
def slotsUsed : Nat := 0
def theMethod : MethodId := ⟨1, 1⟩
def args0 : Array Value := #[.int 5, .int 7, .int 9]
def aboutOver (below : List Frame) : State where
  vm := { classes := classes, interned := interned.toArray }
  heap := heap
  slotsUsed := slotsUsed
  threads := #[{ frames := .invoking theMethod args0 :: below }]
def below0 : List Frame := [.native { method := ⟨0, 0⟩, args := #[] }]
def about1 : State := aboutOver below0
def p0 : Program := .bare "" "" ""
def e0 : Env := launch0.env 0 0 0
theorem w_frames : about1.frames = Frame.invoking theMethod args0 :: below0 := rfl
set_option maxRecDepth 65536 in
theorem w_args : argsFit about1.vm theMethod args0 = true := by decide +kernel
set_option maxRecDepth 65536 in
theorem w_heap : heapFits about1 = true := by decide +kernel
set_option maxRecDepth 65536 in
theorem w_runnable : about1.curStatus? = some .runnable := by decide +kernel
set_option maxRecDepth 65536 in
theorem w_alone : about1.alone = true := by decide +kernel
set_option maxRecDepth 65536 in
theorem w_named : about1.methodNamed? x = some theMethod := by decide +kernel
set_option maxRecDepth 65536 in
theorem w_hears : about1.hears theMethod below0 = true := by decide +kernel
set_option maxRecDepth 65536 in
theorem w_ripe : about1.ripe theMethod args0 below0 = true := by decide +kernel
theorem w_running : about1.status = .running := rfl
set_option maxRecDepth 65536 in
theorem w_room : about1.hasRoom e0.platform room_1 = true :=
  launch0.hasRoom_least _ room_1 (by decide +kernel) (by decide +kernel) (by decide +kernel) (by decide +kernel) (by decide +kernel) (by decide +kernel)
theorem allAtoms_all (ts : List Jvm.Cond) (a : Array Jvm.Value) (st : Jvm.State) : (allAtoms ts).before a st = ts.all (fun c => c.before a st) := by
  induction ts with
  | nil => rfl
  | cons c t ih =>
    show (Jvm.Cond.and c (allAtoms t)).before a st = _
    rw [Jvm.Cond.before_and, ih, List.all_cons]
def words1 : List Jvm.Cond := Jvm.Cond.code x code maxLocals ret :: tables_1
/-- a 'code' word, met by the world's own term for the bytes: nothing is compared byte by byte -/
theorem code_word {y : MethodName} {bytes : ByteArray} {mx : Nat} {rt : Option FieldType} {a : Array Value} {s : State} {m : MethodId} {meth : Method} {c : Code} (h1 : s.methodNamed? y = some m) (h2 : s.vm.method? m = some meth) (h3 : meth.code = some c) (h4 : c.code = bytes)
    (h5 : (c.maxLocals == mx && c.exceptionTable.isEmpty && decide (c.maxStack ≤ mostOperands) && decide (meth.sig.returnType = rt) && !meth.locks && decide (parseMethodDescriptor y.desc = some meth.sig)) = true) : (Jvm.Cond.code y bytes mx rt).before a s = true := by
  simp only [Bool.and_eq_true, beq_iff_eq, Bool.not_eq_true', decide_eq_true_eq] at h5
  obtain ⟨⟨⟨⟨⟨g1, g2⟩, g3⟩, g4⟩, g5⟩, g6⟩ := h5
  simp [Cond.before, Cond.holds, Cond.value, h1, h2, h3, h4, g1, g2, g3, g4, g5, g6]
def isCode : Jvm.Cond → Bool
  | .code _ _ _ _ => true
  | _ => false
theorem all_split {L : List Jvm.Cond} {P : Jvm.Cond → Bool} (h1 : L.all (fun c => isCode c || P c) = true) (h2 : ∀ c ∈ L.filter isCode, P c = true) : L.all P = true := by
  refine List.all_eq_true.mpr fun c hc => ?_
  have h := List.all_eq_true.mp h1 c hc
  rcases Bool.eq_false_or_eq_true (isCode c) with hi | hi
  · exact h2 c (List.mem_filter.mpr ⟨hc, hi⟩)
  · simpa [hi] using h
set_option maxRecDepth 65536 in
theorem w_c0 : (Jvm.Cond.code x code maxLocals ret).before args0 about1 = true := code_word (m := ⟨1, 1⟩) (meth := k1m1) (c := k1c1) (by decide +kernel) rfl rfl rfl (by decide +kernel)
set_option maxRecDepth 65536 in
theorem w_c1 : (Jvm.Cond.code ({ cls := "java/lang/Math", name := "min", desc := "(II)I" } : Jvm.MethodName) jdk_29_method_69_code (2 : Nat) (Option.some Jvm.ClassFile.FieldType.int)).before args0 about1 = true := code_word (m := ⟨2, 1⟩) (meth := k2m1) (c := k2c1) (by decide +kernel) rfl rfl rfl (by decide +kernel)
set_option maxRecDepth 65536 in
theorem w_c2 : (Jvm.Cond.code ({ cls := "com/example/imprint/imprint/xslt/ImportPrecedence", name := "<init>", desc := "(II)V" } : Jvm.MethodName) prog_189_method_1_code (3 : Nat) (Option.none : Option Jvm.ClassFile.FieldType)).before args0 about1 = true := code_word (m := ⟨3, 0⟩) (meth := k3m0) (c := k3c0) (by decide +kernel) rfl rfl rfl (by decide +kernel)
set_option maxRecDepth 65536 in
theorem w_c3 : (Jvm.Cond.code ({ cls := "java/lang/Object", name := "<init>", desc := "()V" } : Jvm.MethodName) object_method_1_code (1 : Nat) (Option.none : Option Jvm.ClassFile.FieldType)).before args0 about1 = true := code_word (m := ⟨0, 0⟩) (meth := k0m0) (c := k0c0) (by decide +kernel) rfl rfl rfl (by decide +kernel)
set_option maxRecDepth 65536 in
theorem w_c4 : (Jvm.Cond.code ({ cls := "com/example/imprint/imprint/xslt/ImportPrecedence", name := "imports", desc := "(Lcom/example/imprint/imprint/xslt/ImportPrecedence;)Z" } : Jvm.MethodName) prog_189_method_3_code (2 : Nat) (Option.some Jvm.ClassFile.FieldType.boolean)).before args0 about1 = true := code_word (m := ⟨3, 1⟩) (meth := k3m1) (c := k3c1) (by decide +kernel) rfl rfl rfl (by decide +kernel)
def codes1 : List Jvm.Cond := [Jvm.Cond.code x code maxLocals ret, Jvm.Cond.code ({ cls := "java/lang/Math", name := "min", desc := "(II)I" } : Jvm.MethodName) jdk_29_method_69_code (2 : Nat) (Option.some Jvm.ClassFile.FieldType.int), Jvm.Cond.code ({ cls := "com/example/imprint/imprint/xslt/ImportPrecedence", name := "<init>", desc := "(II)V" } : Jvm.MethodName) prog_189_method_1_code (3 : Nat) (Option.none : Option Jvm.ClassFile.FieldType), Jvm.Cond.code ({ cls := "java/lang/Object", name := "<init>", desc := "()V" } : Jvm.MethodName) object_method_1_code (1 : Nat) (Option.none : Option Jvm.ClassFile.FieldType), Jvm.Cond.code ({ cls := "com/example/imprint/imprint/xslt/ImportPrecedence", name := "imports", desc := "(Lcom/example/imprint/imprint/xslt/ImportPrecedence;)Z" } : Jvm.MethodName) prog_189_method_3_code (2 : Nat) (Option.some Jvm.ClassFile.FieldType.boolean)]
set_option maxRecDepth 65536 in
theorem codes_eq : words1.filter isCode = codes1 := rfl
theorem w_codes : ∀ c ∈ words1.filter isCode, c.before args0 about1 = true := by
  rw [codes_eq]
  intro c hc
  simp only [codes1, List.mem_cons, List.not_mem_nil, or_false] at hc
  rcases hc with rfl | rfl | rfl | rfl | rfl
  · exact w_c0
  · exact w_c1
  · exact w_c2
  · exact w_c3
  · exact w_c4
set_option maxRecDepth 65536 in
theorem w_t1 : (words1.take 24).all (fun c => isCode c || c.before args0 about1) = true := by decide +kernel
set_option maxRecDepth 65536 in
theorem w_t2 : (words1.drop 24).all (fun c => isCode c || c.before args0 about1) = true := by decide +kernel
theorem w_tables : (allAtoms (Jvm.Cond.code x code maxLocals ret :: tables_1)).before args0 about1 = true := by
  rw [allAtoms_all]
  show words1.all (fun c => c.before args0 about1) = true
  refine all_split ?_ w_codes
  rw [← List.take_append_drop 24 words1, List.all_append, w_t1, w_t2]
  rfl
set_option maxRecDepth 65536 in
theorem w_case : (Jvm.Cond.and given_1 narrow_1).before args0 about1 = true := by decide +kernel
theorem w_applies : (headSpec (Jvm.Cond.code x code maxLocals ret :: tables_1) room_1).applies x e0.platform about1 = true :=
  (Spec.applies_iff w_frames).mpr ⟨w_running, w_runnable, w_alone, w_named, w_hears, w_ripe, w_room, w_tables⟩
theorem atStart : AtStart classFile x code maxLocals ret World_1 tables_1 room_1 Calls_1 rest_1 Pre_1 launch0 p0 e0 about1 theMethod args0 below0 :=
  ⟨lists_1, trivial, launch0.admits_env _ _ _, launch0.least_env, fairChoices_fair.cas, fairChoices_fair.clock, w_frames, w_args, w_heap, w_applies, trivial, trivial, w_case⟩
end start1
theorem witness_1 : WitnessClaimed_1 := ⟨start1.p0, start1.e0, start1.about1, start1.theMethod, start1.args0, start1.below0, start1.atStart⟩
end Jvm.Pilot.@@N@@
