import JvmDerived
import JvmDerived.Pilot.@@N@@Statement
import JvmDerived.Pilot.@@N@@Code
set_option linter.unusedVariables false
set_option linter.unusedSimpArgs false
namespace Jvm.RoadKit
open Sem ClassFile Op Lib Jvm.Stand Jvm.Free Jvm.LawKit
section OwnKit
variable {p : Program} {l : Launch} {e : Env} {R : Room} {s : State} {m : MethodId} {args : Array Value} {below : List Frame} {meth : Method} {c : Code} {T : State} {locs : List Loc} {cells slots : Nat} {Z : State} {a0 : Array Value} {h h' : Heap}
/-- the run has come from A to T with the frame g on top -/
def OGo (p : Program) (e : Env) (below : List Frame) (A T : State) (g : JFrame) : Prop := ∀ t, Steps p.tables e below (T.setTop g) t → Steps p.tables e below A t
/-- the array at a holds just these values -/
def OAr (Z : State) (h : Heap) (a : Addr) (k : ClassId) (ty : FieldType) (vs : List Value) : Prop := ∃ c : Cell, Arr Z h a c ty ∧ c.cls = k ∧ c.slots = vs.toArray
variable {a b : Addr} {k : ClassId} {ty : FieldType} {vs ws : List Value} {v w : Value} {sl : Nat} {wl : List Addr}
theorem OAr.lt (F : OAr Z h a k ty vs) : a < h.size := by obtain ⟨c, A, -⟩ := F; exact A.lt
theorem OAr.ext (F : OAr Z h a k ty vs) (E : Ext h h') : OAr Z h' a k ty vs := by obtain ⟨c, A, r⟩ := F; exact ⟨c, A.ext E, r⟩
theorem OAr.other (F : OAr Z h b k ty vs) (W : Wr h h' a sl v) (q : b ≠ a) : OAr Z h' b k ty vs := by obtain ⟨c, A, r⟩ := F; exact ⟨c, A.other W q, r⟩
theorem OAr.keep (F : OAr Z h a k ty vs) (K : Keep h h' wl) (q : a ∉ wl) : OAr Z h' a k ty vs := by obtain ⟨c, A, r⟩ := F; exact ⟨c, ⟨K.2.1 a c A.1 q, A.2⟩, r⟩
theorem OAr.new {n : Int32} (A : Arr Z h a (newA k ty n) ty) : OAr Z h a k ty (List.replicate n.toNatClampNeg (defaultValue ty)) := ⟨_, A, rfl, by simp [newA]⟩
theorem OAr.same (F : OAr Z h a k ty vs) (W : Wr h h' a sl v) : OAr Z h' a k ty (vs.set sl v) := by
  obtain ⟨c, A, r1, r2⟩ := F
  exact ⟨_, A.same W, r1, by simp only [Cell.setSlot]; rw [r2]; simp⟩
theorem OAr.cast (F : OAr Z h a k ty vs) (q : vs = ws) : OAr Z h a k ty ws := q ▸ F
theorem OAr.plain (F : OAr Z h a k ty vs) : ∀ cell : Cell, h[a]? = some cell → cell.vm.isStatics = false := fun cell hc => by
  obtain ⟨c, A, -⟩ := F
  cases A.1.symm.trans hc
  exact A.plain
theorem own_in {j : Int32} (h0 : ¬ j < 0) (hv : vs[j.toNatClampNeg]? = some v) {c : Cell} (q : c.slots = vs.toArray) : ¬ (j < 0 ∨ c.slots.size ≤ j.toNatClampNeg) ∧ c.slots[j.toNatClampNeg]? = some v := by
  have h1 := (List.getElem?_eq_some_iff.mp hv).1
  rw [q]
  refine ⟨fun r => r.elim h0 fun r => ?_, by simpa using hv⟩
  simp at r
  omega
theorem own_ldI (X : Stand p l e R s m args below meth c T locs cells slots) (hx : p.tables.exec = Jvm.exec) (hZ : Z.Warmed39 s.vm) (eT : T.heap = h) (F : OAr Z h a k .int vs) {j : Int32} (h0 : ¬ j < 0) (hv : vs[j.toNatClampNeg]? = some v) {g : JFrame} (hg : g.method = m) {rest : List Value} (hs : g.stack = .int j :: .ref a :: rest) (hd : decode c.code g.pc = .ok (.iaload, 1)) (t : State)
    (hr : Steps p.tables e below (T.setTop { g with pc := g.pc + 1, stack := v :: rest }) t) : Steps p.tables e below (T.setTop g) t := by
  obtain ⟨cl, A, -, r⟩ := F
  obtain ⟨q1, q2⟩ := own_in h0 hv r
  exact X.iaload hx (by rw [eT]; exact A.1) (State.isArrayOf_alike hZ.alike A.2.1) A.2.2 q1 q2 hg hs hd t hr
theorem own_ldJ (X : Stand p l e R s m args below meth c T locs cells slots) (hx : p.tables.exec = Jvm.exec) (hZ : Z.Warmed39 s.vm) (eT : T.heap = h) (F : OAr Z h a k .long vs) {j : Int32} (h0 : ¬ j < 0) (hv : vs[j.toNatClampNeg]? = some v) {g : JFrame} (hg : g.method = m) {rest : List Value} (hs : g.stack = .int j :: .ref a :: rest) (hd : decode c.code g.pc = .ok (.laload, 1)) (t : State)
    (hr : Steps p.tables e below (T.setTop { g with pc := g.pc + 1, stack := v :: rest }) t) : Steps p.tables e below (T.setTop g) t := by
  obtain ⟨cl, A, -, r⟩ := F
  obtain ⟨q1, q2⟩ := own_in h0 hv r
  exact X.laload hx (by rw [eT]; exact A.1) (State.isArrayOf_alike hZ.alike A.2.1) A.2.2 q1 q2 hg hs hd t hr
theorem own_ldC (X : Stand p l e R s m args below meth c T locs cells slots) (hx : p.tables.exec = Jvm.exec) (hZ : Z.Warmed39 s.vm) (eT : T.heap = h) (F : OAr Z h a k .char vs) {j : Int32} (h0 : ¬ j < 0) (hv : vs[j.toNatClampNeg]? = some v) {g : JFrame} (hg : g.method = m) {rest : List Value} (hs : g.stack = .int j :: .ref a :: rest) (hd : decode c.code g.pc = .ok (.caload, 1)) (t : State)
    (hr : Steps p.tables e below (T.setTop { g with pc := g.pc + 1, stack := v :: rest }) t) : Steps p.tables e below (T.setTop g) t := by
  obtain ⟨cl, A, -, r⟩ := F
  obtain ⟨q1, q2⟩ := own_in h0 hv r
  exact X.caload hx (by rw [eT]; exact A.1) (State.isArrayOf_alike hZ.alike A.2.1) A.2.2 q1 q2 hg hs hd t hr
theorem own_ldB (X : Stand p l e R s m args below meth c T locs cells slots) (hx : p.tables.exec = Jvm.exec) (hZ : Z.Warmed39 s.vm) (eT : T.heap = h) (F : OAr Z h a k .byte vs) {j : Int32} (h0 : ¬ j < 0) (hv : vs[j.toNatClampNeg]? = some v) {g : JFrame} (hg : g.method = m) {rest : List Value} (hs : g.stack = .int j :: .ref a :: rest) (hd : decode c.code g.pc = .ok (.baload, 1)) (t : State)
    (hr : Steps p.tables e below (T.setTop { g with pc := g.pc + 1, stack := v :: rest }) t) : Steps p.tables e below (T.setTop g) t := by
  obtain ⟨cl, A, -, r⟩ := F
  obtain ⟨q1, q2⟩ := own_in h0 hv r
  exact X.baloadBytes hx (by rw [eT]; exact A.1) (State.isArrayOf_alike hZ.alike A.2.1) A.2.2 q1 q2 hg hs hd t hr
theorem own_ldZ (X : Stand p l e R s m args below meth c T locs cells slots) (hx : p.tables.exec = Jvm.exec) (hZ : Z.Warmed39 s.vm) (eT : T.heap = h) (F : OAr Z h a k .boolean vs) {j : Int32} (h0 : ¬ j < 0) (hv : vs[j.toNatClampNeg]? = some v) {g : JFrame} (hg : g.method = m) {rest : List Value} (hs : g.stack = .int j :: .ref a :: rest) (hd : decode c.code g.pc = .ok (.baload, 1)) (t : State)
    (hr : Steps p.tables e below (T.setTop { g with pc := g.pc + 1, stack := v :: rest }) t) : Steps p.tables e below (T.setTop g) t := by
  obtain ⟨cl, A, -, r⟩ := F
  obtain ⟨q1, q2⟩ := own_in h0 hv r
  exact X.baloadBooleans hx (by rw [eT]; exact A.1) (State.isArrayOf_alike hZ.alike A.2.1) A.2.2 q1 q2 hg hs hd t hr
theorem own_ldA (X : Stand p l e R s m args below meth c T locs cells slots) (hx : p.tables.exec = Jvm.exec) (hZ : Z.Warmed39 s.vm) (eT : T.heap = h) (F : OAr Z h a k ty vs) (ht : ty.isReference = true) {j : Int32} (h0 : ¬ j < 0) (hv : vs[j.toNatClampNeg]? = some v) {g : JFrame} (hg : g.method = m) {rest : List Value} (hs : g.stack = .int j :: .ref a :: rest) (hd : decode c.code g.pc = .ok (.aaload, 1)) (t : State)
    (hr : Steps p.tables e below (T.setTop { g with pc := g.pc + 1, stack := v :: rest }) t) : Steps p.tables e below (T.setTop g) t := by
  obtain ⟨cl, A, -, r⟩ := F
  obtain ⟨q1, q2⟩ := own_in h0 hv r
  exact X.aaload hx (by rw [eT]; exact A.1) (State.isArrayOf_alike hZ.alike A.2.1) ht A.2.2 q1 q2 hg hs hd t hr
theorem own_len (X : Stand p l e R s m args below meth c T locs cells slots) (hx : p.tables.exec = Jvm.exec) (hZ : Z.Warmed39 s.vm) (eT : T.heap = h) (F : OAr Z h a k ty vs) {n : Int32} (hn : vs.length.toInt32 = n) {g : JFrame} (hg : g.method = m) {rest : List Value} (hs : g.stack = .ref a :: rest) (hd : decode c.code g.pc = .ok (.arraylength, 1)) (t : State)
    (hr : Steps p.tables e below (T.setTop { g with pc := g.pc + 1, stack := .int n :: rest }) t) : Steps p.tables e below (T.setTop g) t := by
  obtain ⟨cl, A, -, r⟩ := F
  refine X.arraylength hx (by rw [eT]; exact A.1) (State.isArrayOf_alike hZ.alike A.2.1) hg hs hd t ?_
  rw [show cl.slots.size = vs.length by rw [r]; simp, hn]
  exact hr
theorem own_in2 {j : Int32} (h0 : ¬ j < 0) (h1 : j.toNatClampNeg < vs.length) {c : Cell} (q : c.slots = vs.toArray) : ¬ (j < 0 ∨ c.slots.size ≤ j.toNatClampNeg) := by
  rw [q]
  refine fun r => r.elim h0 fun r => ?_
  simp at r
  omega
theorem own_stI (X : Stand p l e R s m args below meth c T locs cells slots) (hx : p.tables.exec = Jvm.exec) (hZ : Z.Warmed39 s.vm) (eT : T.heap = h) (F : OAr Z h a k .int vs) {j : Int32} {x : Int32} (h0 : ¬ j < 0) (h1 : j.toNatClampNeg < vs.length) {g : JFrame} (hg : g.method = m) {rest : List Value} (hs : g.stack = .int x :: .int j :: .ref a :: rest) (hd : decode c.code g.pc = .ok (.iastore, 1)) :
    ∃ T' h', Stand p l e R s m args below meth c T' (locs ++ [⟨a, j.toNatClampNeg⟩]) cells slots ∧ T'.heap = h' ∧ Wr h h' a j.toNatClampNeg (.int x) ∧ OAr Z h' a k .int (vs.set j.toNatClampNeg (.int x)) ∧ ∀ target, Steps p.tables e below (T'.setTop { g with pc := g.pc + 1, stack := rest }) target → Steps p.tables e below (T.setTop g) target := by
  have F' := F
  obtain ⟨cl, A, -, r⟩ := F'
  obtain ⟨T', h', X', e', W', st⟩ := stI X hx hZ eT A (own_in2 h0 h1 r) hg hs hd
  exact ⟨T', h', X', e', W', F.same W', st⟩
theorem own_stJ (X : Stand p l e R s m args below meth c T locs cells slots) (hx : p.tables.exec = Jvm.exec) (hZ : Z.Warmed39 s.vm) (eT : T.heap = h) (F : OAr Z h a k .long vs) {j : Int32} {x : Int64} (h0 : ¬ j < 0) (h1 : j.toNatClampNeg < vs.length) {g : JFrame} (hg : g.method = m) {rest : List Value} (hs : g.stack = .long x :: .int j :: .ref a :: rest) (hd : decode c.code g.pc = .ok (.lastore, 1)) :
    ∃ T' h', Stand p l e R s m args below meth c T' (locs ++ [⟨a, j.toNatClampNeg⟩]) cells slots ∧ T'.heap = h' ∧ Wr h h' a j.toNatClampNeg (.long x) ∧ OAr Z h' a k .long (vs.set j.toNatClampNeg (.long x)) ∧ ∀ target, Steps p.tables e below (T'.setTop { g with pc := g.pc + 1, stack := rest }) target → Steps p.tables e below (T.setTop g) target := by
  have F' := F
  obtain ⟨cl, A, -, r⟩ := F'
  obtain ⟨T', h', X', e', W', st⟩ := stJ X hx hZ eT A (own_in2 h0 h1 r) hg hs hd
  exact ⟨T', h', X', e', W', F.same W', st⟩
theorem own_stC (X : Stand p l e R s m args below meth c T locs cells slots) (hx : p.tables.exec = Jvm.exec) (hZ : Z.Warmed39 s.vm) (eT : T.heap = h) (F : OAr Z h a k .char vs) {j : Int32} {x : Int32} (h0 : ¬ j < 0) (h1 : j.toNatClampNeg < vs.length) {g : JFrame} (hg : g.method = m) {rest : List Value} (hs : g.stack = .int x :: .int j :: .ref a :: rest) (hd : decode c.code g.pc = .ok (.castore, 1)) :
    ∃ T' h', Stand p l e R s m args below meth c T' (locs ++ [⟨a, j.toNatClampNeg⟩]) cells slots ∧ T'.heap = h' ∧ Wr h h' a j.toNatClampNeg (.int (nar .char x)) ∧ OAr Z h' a k .char (vs.set j.toNatClampNeg (.int (nar .char x))) ∧ ∀ target, Steps p.tables e below (T'.setTop { g with pc := g.pc + 1, stack := rest }) target → Steps p.tables e below (T.setTop g) target := by
  have F' := F
  obtain ⟨cl, A, -, r⟩ := F'
  obtain ⟨T', h', X', e', W', st⟩ := stC X hx hZ eT A (own_in2 h0 h1 r) hg hs hd
  exact ⟨T', h', X', e', W', F.same W', st⟩
theorem own_stB (X : Stand p l e R s m args below meth c T locs cells slots) (hx : p.tables.exec = Jvm.exec) (hZ : Z.Warmed39 s.vm) (eT : T.heap = h) (F : OAr Z h a k .byte vs) {j : Int32} {x : Int32} (h0 : ¬ j < 0) (h1 : j.toNatClampNeg < vs.length) {g : JFrame} (hg : g.method = m) {rest : List Value} (hs : g.stack = .int x :: .int j :: .ref a :: rest) (hd : decode c.code g.pc = .ok (.bastore, 1)) :
    ∃ T' h', Stand p l e R s m args below meth c T' (locs ++ [⟨a, j.toNatClampNeg⟩]) cells slots ∧ T'.heap = h' ∧ Wr h h' a j.toNatClampNeg (.int (nar .byte x)) ∧ OAr Z h' a k .byte (vs.set j.toNatClampNeg (.int (nar .byte x))) ∧ ∀ target, Steps p.tables e below (T'.setTop { g with pc := g.pc + 1, stack := rest }) target → Steps p.tables e below (T.setTop g) target := by
  have F' := F
  obtain ⟨cl, A, -, r⟩ := F'
  obtain ⟨T', h', X', e', W', st⟩ := stB X hx hZ eT A (own_in2 h0 h1 r) hg hs hd
  exact ⟨T', h', X', e', W', F.same W', st⟩
theorem own_stZ (X : Stand p l e R s m args below meth c T locs cells slots) (hx : p.tables.exec = Jvm.exec) (hZ : Z.Warmed39 s.vm) (eT : T.heap = h) (F : OAr Z h a k .boolean vs) {j : Int32} {x : Int32} (h0 : ¬ j < 0) (h1 : j.toNatClampNeg < vs.length) {g : JFrame} (hg : g.method = m) {rest : List Value} (hs : g.stack = .int x :: .int j :: .ref a :: rest) (hd : decode c.code g.pc = .ok (.bastore, 1)) :
    ∃ T' h', Stand p l e R s m args below meth c T' (locs ++ [⟨a, j.toNatClampNeg⟩]) cells slots ∧ T'.heap = h' ∧ Wr h h' a j.toNatClampNeg (.int (nar .boolean x)) ∧ OAr Z h' a k .boolean (vs.set j.toNatClampNeg (.int (nar .boolean x))) ∧ ∀ target, Steps p.tables e below (T'.setTop { g with pc := g.pc + 1, stack := rest }) target → Steps p.tables e below (T.setTop g) target := by
  have F' := F
  obtain ⟨cl, A, -, r⟩ := F'
  obtain ⟨T', h', X', e', W', st⟩ := stZ X hx hZ eT A (own_in2 h0 h1 r) hg hs hd
  exact ⟨T', h', X', e', W', F.same W', st⟩
theorem own_stR (X : Stand p l e R s m args below meth c T locs cells slots) (hx : p.tables.exec = Jvm.exec) (hZ : Z.Warmed39 s.vm) (eT : T.heap = h) (F : OAr Z h a k ty vs) (ht : ty.isReference = true) {j : Int32} {x : Value} (h0 : ¬ j < 0) (h1 : j.toNatClampNeg < vs.length) (S : Sto Z h a x) {g : JFrame} (hg : g.method = m) {rest : List Value} (hs : g.stack = x :: .int j :: .ref a :: rest) (hd : decode c.code g.pc = .ok (.aastore, 1)) :
    ∃ T' h', Stand p l e R s m args below meth c T' (locs ++ [⟨a, j.toNatClampNeg⟩]) cells slots ∧ T'.heap = h' ∧ Wr h h' a j.toNatClampNeg x ∧ OAr Z h' a k ty (vs.set j.toNatClampNeg x) ∧ ∀ target, Steps p.tables e below (T'.setTop { g with pc := g.pc + 1, stack := rest }) target → Steps p.tables e below (T.setTop g) target := by
  have F' := F
  obtain ⟨cl, A, -, r⟩ := F'
  obtain ⟨T', h', X', e', W', st⟩ := stR X hx hZ eT A (own_in2 h0 h1 r) ht S hg hs hd
  exact ⟨T', h', X', e', W', F.same W', st⟩
theorem own_sto {y : Addr} {t0 : FieldType} {C : String} (F : OAr Z h a k ty vs) (O : OvrA Z k t0 C) (I : Ins Z h y C true) : Sto Z h a (.ref y) := by
  obtain ⟨cl, A, q, -⟩ := F
  exact Sto.ofVA A q O I
/-- the addresses are unlike each other -/
def OND (L : List Addr) : Prop := L.Pairwise (· ≠ ·)
theorem ond0 : OND [] := List.Pairwise.nil
theorem ondS {x : Addr} {L : List Addr} (q : ∀ y ∈ L, x ≠ y) (r : OND L) : OND (x :: L) := List.Pairwise.cons q r
theorem own_pw {L : List Addr} (q : OND L) (i j : Nat) (hij : i < j) {x y : Addr} (hi : L[i]? = some x) (hj : L[j]? = some y) : x ≠ y := by
  obtain ⟨i1, rfl⟩ := List.getElem?_eq_some_iff.mp hi
  obtain ⟨j1, rfl⟩ := List.getElem?_eq_some_iff.mp hj
  exact List.pairwise_iff_getElem.mp q i j i1 j1 hij
theorem own_selp (hZ : Z.Warmed39 s.vm) {y : MethodName} {k : Nat} (wi : (Cond.instantiable y.cls k).before a0 Z = true) (wp : (Cond.privateMethod y).before a0 Z = true) (wm : (Cond.instanceMethod y).before a0 Z = true) (hy : y.cls ≠ "java/lang/invoke/MethodHandle" ∧ y.cls ≠ "java/lang/invoke/VarHandle" := by decide) : (Cond.selects y.cls y y).before args s = true := by
  obtain ⟨c2, k2, i1, i2, i3, i4, -⟩ := Cond.instantiable_spec (mv (args := args) hZ wi)
  exact selects_self_of_private i1 i2 (Bool.or_eq_false_iff.mp i4).1 (Cond.privateMethod_at (mvP hZ wp (args := args))) (mv hZ wm) hy
theorem own_arv {z : Int32} {d : Value} (F : OAr Z h a k ty vs) (hf : ∀ v ∈ vs, fits ty v = true) (hz : ¬ z < 0) (hl : vs.length = z.toNatClampNeg) : Arv Z h a k ty z vs d := by
  obtain ⟨c, A, q1, q2⟩ := F
  have hs : c.slots.size = vs.length := by rw [q2]; simp
  refine ⟨c, A, q1, by rw [hs, hl], hz, fun i hi => ?_, fun i hi => ?_⟩
  · rw [hs] at hi
    rw [q2]
    simp [List.getD_eq_getElem?_getD, hi]
  · rw [hs] at hi
    rw [List.getD_eq_getElem?_getD, List.getElem?_eq_getElem hi]
    exact hf _ (List.getElem_mem hi)
theorem own_unarv {z : Int32} {d : Value} (F : Arv Z h a k ty z vs d) (hl : vs.length = z.toNatClampNeg) : OAr Z h a k ty vs := by
  obtain ⟨c, A, q1, q2, q3, H, -⟩ := F
  refine ⟨c, A, q1, ?_⟩
  apply Array.ext (by rw [q2, ← hl]; simp)
  intro i h1 h2
  have e := H i h1
  have h3 : i < vs.length := by simpa using h2
  rw [Array.getElem?_eq_getElem h1, List.getD_eq_getElem?_getD, List.getElem?_eq_getElem h3] at e
  simpa using Option.some.inj e
end OwnKit
end Jvm.RoadKit

namespace Jvm.Pilot.@@N@@
open Jvm Jvm.ClassFile Sem Op Lib Jvm.Free Jvm.Stand Jvm.LawKit Jvm.RoadKit Bundle Jvm.Pilot.@@N@@.Jvm.D
theorem ow {a0 : Array Value} {Z : State} (hw : ∀ d ∈ tables_1, d.before a0 Z = true) (i : Nat) {d : Jvm.Cond} (h : tables_1[i]? = some d) : d.before a0 Z = true := hw _ (List.mem_of_getElem? h)
abbrev mN0 : MethodName := ⟨"com/example/flote/flote/program/ChoicesNextPinLaw", "count", "(I)I"⟩
abbrev mN1 : MethodName := ⟨"java/lang/Math", "max", "(II)I"⟩
abbrev mN2 : MethodName := ⟨"com/example/flote/flote/program/Choices", "<init>", "()V"⟩
abbrev cN0 : String := "com/example/flote/flote/program/Choices"
abbrev cN1 : String := "[Lcom/example/flote/flote/program/Type;"
abbrev mN3 : MethodName := ⟨"com/example/flote/flote/program/Choices", "begin", "()V"⟩
abbrev mN4 : MethodName := ⟨"com/example/flote/flote/program/Choices", "choose", "(I)I"⟩
abbrev mN5 : MethodName := ⟨"com/example/flote/flote/program/Choices", "fewestBranches", "()I"⟩
abbrev mN6 : MethodName := ⟨"com/example/flote/flote/program/ChoicesNextPinLaw", "branchOk", "(Lcom/example/flote/flote/program/Choices;III)Z"⟩
abbrev mN7 : MethodName := ⟨"com/example/flote/flote/program/Choices", "next", "()Z"⟩
abbrev oA8 (x y : Int32) : List Value := [(.int x), (.int y), (.int (0 : Int32)), (.int (0 : Int32)), (.int (0 : Int32)), (.int (0 : Int32)), (.int (0 : Int32)), (.int (0 : Int32))]
def own_count (p : Int32) : Int32 := if p &&& 1 = 0 then 1 + (((p.toUInt32 >>> ((1 : Int32) &&& 31).toUInt32).toInt32) &&& 1073741823) else 1 + (((p.toUInt32 >>> ((1 : Int32) &&& 31).toUInt32).toInt32) &&& 3)
def own_max (p q : Int32) : Int32 := if p < q then q else p
theorem own_countb (p : Int32) : 1 ≤ (own_count p).toInt := by
  unfold own_count
  have r1 : (1 : Int32).toInt = 1 := by decide
  have r3 : (3 : Int32).toInt = 3 := by decide
  have rm : (1073741823 : Int32).toInt = 1073741823 := by decide
  split
  · have a := c_and ((p.toUInt32 >>> ((1 : Int32) &&& 31).toUInt32).toInt32) (1073741823 : Int32) (by decide)
    have b := c_iadd (1 : Int32) (((p.toUInt32 >>> ((1 : Int32) &&& 31).toUInt32).toInt32) &&& 1073741823)
    have d := rng32 ((1 : Int32) + (((p.toUInt32 >>> ((1 : Int32) &&& 31).toUInt32).toInt32) &&& 1073741823))
    omega
  · have a := c_and ((p.toUInt32 >>> ((1 : Int32) &&& 31).toUInt32).toInt32) (3 : Int32) (by decide)
    have b := c_iadd (1 : Int32) (((p.toUInt32 >>> ((1 : Int32) &&& 31).toUInt32).toInt32) &&& 3)
    have d := rng32 ((1 : Int32) + (((p.toUInt32 >>> ((1 : Int32) &&& 31).toUInt32).toInt32) &&& 3))
    omega
theorem own_ge {n : Int32} {k : Int} (h : k ≤ n.toInt) {m : Int32} (q : ¬ n = m) (e : m.toInt = k) : k + 1 ≤ n.toInt := by
  have : n.toInt ≠ m.toInt := fun z => q (Int32.toInt_inj.mp z)
  omega
theorem own_nsub {t n : Int32} {k : Int} (ht : t.toInt = k) (h : k + 2 ≤ n.toInt) (h0 : 0 ≤ k) : ¬ (t = n - (1 : Int32)) := by
  intro z
  have e := congrArg Int32.toInt z
  have a := c_isub n (1 : Int32)
  have b := rng32 (n - (1 : Int32))
  have d := rng32 n
  have r1 : (1 : Int32).toInt = 1 := by decide
  omega
theorem own_div {k b : Int32} (h0 : 0 ≤ k.toInt) (h : k.toInt < b.toInt) : (0 : Int32) = k / b ∧ k = k % b := by
  have hb : b ≠ -1 := fun z => by rw [z] at h; have : (-1 : Int32).toInt = -1 := (by decide); omega
  refine ⟨Int32.toInt_inj.mp ?_, Int32.toInt_inj.mp ?_⟩
  · rw [(c_idiv k b b.toInt rfl hb).1 h0, Int.ediv_eq_zero_of_lt h0 h]; rfl
  · rw [(c_irem k b b.toInt rfl).1 h0, Int.emod_eq_of_lt h0 h]
theorem own_nz {b : Int32} {k : Int} (h : k ≤ b.toInt) (q : 0 < k) : b ≠ 0 := fun z => by rw [z] at h; have : (0 : Int32).toInt = 0 := (by decide); omega
theorem own_tot {k : Int64} {a b : Int32} {x y : Int} (ha : x ≤ a.toInt) (hb : y ≤ b.toInt) (hx : 0 ≤ x) (hy : 0 ≤ y) (h : k.toInt < x * y) : k < a.toInt64 * b.toInt64 := by
  rw [Int64.lt_iff_toInt_lt, Jvm.Free.XT.wideMul]
  have := Int.mul_le_mul ha hb hy (by omega)
  omega
theorem own_gt {n : Int32} (h : 2 ≤ n.toInt) : (1 : Int32) < n := by
  rw [Int32.lt_iff_toInt_lt]; have : (1 : Int32).toInt = 1 := (by decide); omega
theorem pn_com_example_flote_flote_program_ChoicesNextPinLaw : plainName "com/example/flote/flote/program/ChoicesNextPinLaw" = true := by first | (simp [plainName, overriddenIn]; done) | decide +kernel
theorem ef_1 (m : MethodId) (x0 : Int32) : entryFrame m #[(.int x0)] 1 = mkF m 0 #[.val (.int x0)] [] := by first | (simp [entryFrame, mkF, argsToLocals, Value.category]; done) | rfl
theorem d1_0 : decode method_3_code 0 = .ok (.iload_n 0, 1) := by decide +kernel
theorem d1_1 : decode method_3_code 1 = .ok (.iconst 1, 1) := by decide +kernel
theorem d1_2 : decode method_3_code 2 = .ok (.iand, 1) := by decide +kernel
theorem d1_3 : decode method_3_code 3 = .ok (.ifCond .eq 13, 3) := by decide +kernel
theorem d1_16 : decode method_3_code 16 = .ok (.iconst 1, 1) := by decide +kernel
theorem d1_17 : decode method_3_code 17 = .ok (.iload_n 0, 1) := by decide +kernel
theorem d1_18 : decode method_3_code 18 = .ok (.iconst 1, 1) := by decide +kernel
theorem d1_19 : decode method_3_code 19 = .ok (.iushr, 1) := by decide +kernel
theorem d1_20 : decode method_3_code 20 = .ok (.ldc 39, 2) := by decide +kernel
theorem d1_22 : decode method_3_code 22 = .ok (.iand, 1) := by decide +kernel
theorem d1_23 : decode method_3_code 23 = .ok (.iadd, 1) := by decide +kernel
theorem d1_24 : decode method_3_code 24 = .ok (.ireturn, 1) := by decide +kernel
theorem d1_6 : decode method_3_code 6 = .ok (.iconst 1, 1) := by decide +kernel
theorem d1_7 : decode method_3_code 7 = .ok (.iload_n 0, 1) := by decide +kernel
theorem d1_8 : decode method_3_code 8 = .ok (.iconst 1, 1) := by decide +kernel
theorem d1_9 : decode method_3_code 9 = .ok (.iushr, 1) := by decide +kernel
theorem d1_10 : decode method_3_code 10 = .ok (.iconst 3, 1) := by decide +kernel
theorem d1_11 : decode method_3_code 11 = .ok (.iand, 1) := by decide +kernel
theorem d1_12 : decode method_3_code 12 = .ok (.iadd, 1) := by decide +kernel
theorem d1_13 : decode method_3_code 13 = .ok (.goto 11, 3) := by decide +kernel
def Q_count (Z : State) (p1 : Int32) (h0 : Heap) (n0 : Nat) (v : Option Value) (h : Heap) (L : List Loc) : Prop := v = some (.int (own_count p1)) ∧ Fr n0 L ∧ h = h0
set_option maxRecDepth 65536 in
set_option maxHeartbeats 40000000 in
theorem rm_count (l : Launch) (Z : State) (a0 : Array Value) (hw : ∀ d ∈ tables_1, d.before a0 Z = true) (ws : List Jvm.Cond) (p1 : Int32) (h0 : Heap) (n0 : Nat) (Z0 : n0 ≤ h0.size) :
    MetFree l mN0 (head1 (Jvm.Cond.code mN0 method_3_code 1 (some .int) :: ws) ({ frames := 0, cells := 0, slots := 0, locals := 0 } : Room)) (fun a U => a = #[(.int p1)] ∧ Z.Warmed39 U.vm ∧ U.heap = h0) (fun _ _ _ _ _ => True) (fun _ U o U' => ∃ v L, o = .returned v ∧ Q_count Z p1 h0 n0 v U'.heap L ∧ FrameEnd U o U' L ({ frames := 0, cells := 0, slots := 0, locals := 0 } : Room).cells ({ frames := 0, cells := 0, slots := 0, locals := 0 } : Room).slots) := by
  refine MetFree.of_bodySF (plainFor_of_name pn_com_example_flote_flote_program_ChoicesNextPinLaw) hisR ?_
  intro p e s m args below meth c s₁ Bd hml0 hP hK
  obtain ⟨rfl, hZ, hh⟩ := hP
  have hx := Bd.exec
  have hby := Bd.bytes
  have hml : c.maxLocals = 1 := hml0
  have hown : s.vm.findClass "com/example/flote/flote/program/ChoicesNextPinLaw" = some m.cls := findClass_of_methodNamed Bd.named
  have hnm := (name_of_methodNamed Bd.named Bd.method).1
  have X0 : Stand p l e ({ frames := 0, cells := 0, slots := 0, locals := 0 } : Room) s m #[(.int p1)] below meth c s₁ [] 0 0 := Stand.of_body Bd
  have e0 : s₁.heap = h0 := by rw [← hh, Bd.state]; rfl
  have N0 := Fr.nil n0
  obtain ⟨A0, hA0⟩ : ∃ z, z = s₁.setTop (entryFrame m #[(.int p1)] 1) := ⟨_, rfl⟩
  have K : OGo p e below A0 s₁ (mkF m 0 #[iv p1] []) := fun t k => hA0 ▸ castTop (ef_1 m p1) k
  replace K : OGo p e below A0 s₁ (mkF m 1 #[iv p1] [(.int p1)]) := fun t k => K t (XS.iloadN X0.here hx rfl (hb hby d1_0) rfl k)
  replace K : OGo p e below A0 s₁ (mkF m 2 #[iv p1] [(.int 1), (.int p1)]) := fun t k => K t (XS.iconst X0.here hx rfl (hb hby d1_1) k)
  replace K : OGo p e below A0 s₁ (mkF m 3 #[iv p1] [(.int (p1 &&& (1 : Int32)))]) := fun t k => K t (XS.iand X0.here hx rfl (hb hby d1_2) rfl k)
  by_cases hc3 : (p1 &&& (1 : Int32)) = (0 : Int32)
  · replace K : OGo p e below A0 s₁ (mkF m 16 #[iv p1] []) := fun t k => K t (XS.ifYes X0.here hx rfl (pc0 := 3) (pc' := 16) rfl (hb hby d1_3) rfl ((if0 _ _).trans (teq hc3).1) (by decide) (by decide) k)
    replace K : OGo p e below A0 s₁ (mkF m 17 #[iv p1] [(.int 1)]) := fun t k => K t (XS.iconst X0.here hx rfl (hb hby d1_16) k)
    replace K : OGo p e below A0 s₁ (mkF m 18 #[iv p1] [(.int p1), (.int 1)]) := fun t k => K t (XS.iloadN X0.here hx rfl (hb hby d1_17) rfl k)
    replace K : OGo p e below A0 s₁ (mkF m 19 #[iv p1] [(.int 1), (.int p1), (.int 1)]) := fun t k => K t (XS.iconst X0.here hx rfl (hb hby d1_18) k)
    replace K : OGo p e below A0 s₁ (mkF m 20 #[iv p1] [(.int ((p1.toUInt32 >>> ((1 : Int32) &&& 31).toUInt32).toInt32)), (.int 1)]) := fun t k => K t (XS.iushr X0.here hx rfl (hb hby d1_19) rfl k)
    replace K : OGo p e below A0 s₁ (mkF m 22 #[iv p1] [(.int 1073741823), (.int ((p1.toUInt32 >>> ((1 : Int32) &&& 31).toUInt32).toInt32)), (.int 1)]) := fun t k => K t (X0.ldcInt hx hown (mvT hZ (ow hw 4 rfl)) (g := (mkF m 20 #[iv p1] [(.int ((p1.toUInt32 >>> ((1 : Int32) &&& 31).toUInt32).toInt32)), (.int 1)])) rfl (hb hby d1_20) t k)
    replace K : OGo p e below A0 s₁ (mkF m 23 #[iv p1] [(.int (((p1.toUInt32 >>> ((1 : Int32) &&& 31).toUInt32).toInt32) &&& (1073741823 : Int32))), (.int 1)]) := fun t k => K t (XS.iand X0.here hx rfl (hb hby d1_22) rfl k)
    replace K : OGo p e below A0 s₁ (mkF m 24 #[iv p1] [(.int ((1 : Int32) + (((p1.toUInt32 >>> ((1 : Int32) &&& 31).toUInt32).toInt32) &&& (1073741823 : Int32))))]) := fun t k => K t (XS.iadd X0.here hx rfl (hb hby d1_23) rfl k)
    obtain ⟨fs, hr, hrun, hended, hW, hsame⟩ := X0.leave (v := some (.int ((1 : Int32) + (((p1.toUInt32 >>> ((1 : Int32) &&& 31).toUInt32).toInt32) &&& (1073741823 : Int32))))) (fun h => by rw [Bd.returns] at h; cases h)
    subst hA0
    refine ⟨_, _, K _ (retOut X0 hx Bd.returns rfl (Or.inl ⟨rfl, Or.inl rfl, _, rfl⟩) (hb hby d1_24) hr), hrun, hended, _, _, rfl, ?_, ⟨_, rfl⟩, hW, hsame.mono (by decide) (by decide)⟩
    show Q_count Z p1 h0 n0 _ s₁.heap _
    rw [e0]
    exact ⟨(by simp [own_count, hc3]), N0, rfl⟩
  · replace K : OGo p e below A0 s₁ (mkF m 6 #[iv p1] []) := fun t k => K t (XS.ifNo X0.here hx rfl (hb hby d1_3) rfl ((if0 _ _).trans (feq hc3).1) k)
    replace K : OGo p e below A0 s₁ (mkF m 7 #[iv p1] [(.int 1)]) := fun t k => K t (XS.iconst X0.here hx rfl (hb hby d1_6) k)
    replace K : OGo p e below A0 s₁ (mkF m 8 #[iv p1] [(.int p1), (.int 1)]) := fun t k => K t (XS.iloadN X0.here hx rfl (hb hby d1_7) rfl k)
    replace K : OGo p e below A0 s₁ (mkF m 9 #[iv p1] [(.int 1), (.int p1), (.int 1)]) := fun t k => K t (XS.iconst X0.here hx rfl (hb hby d1_8) k)
    replace K : OGo p e below A0 s₁ (mkF m 10 #[iv p1] [(.int ((p1.toUInt32 >>> ((1 : Int32) &&& 31).toUInt32).toInt32)), (.int 1)]) := fun t k => K t (XS.iushr X0.here hx rfl (hb hby d1_9) rfl k)
    replace K : OGo p e below A0 s₁ (mkF m 11 #[iv p1] [(.int 3), (.int ((p1.toUInt32 >>> ((1 : Int32) &&& 31).toUInt32).toInt32)), (.int 1)]) := fun t k => K t (XS.iconst X0.here hx rfl (hb hby d1_10) k)
    replace K : OGo p e below A0 s₁ (mkF m 12 #[iv p1] [(.int (((p1.toUInt32 >>> ((1 : Int32) &&& 31).toUInt32).toInt32) &&& (3 : Int32))), (.int 1)]) := fun t k => K t (XS.iand X0.here hx rfl (hb hby d1_11) rfl k)
    replace K : OGo p e below A0 s₁ (mkF m 13 #[iv p1] [(.int ((1 : Int32) + (((p1.toUInt32 >>> ((1 : Int32) &&& 31).toUInt32).toInt32) &&& (3 : Int32))))]) := fun t k => K t (XS.iadd X0.here hx rfl (hb hby d1_12) rfl k)
    replace K : OGo p e below A0 s₁ (mkF m 24 #[iv p1] [(.int ((1 : Int32) + (((p1.toUInt32 >>> ((1 : Int32) &&& 31).toUInt32).toInt32) &&& (3 : Int32))))]) := fun t k => K t (XS.goto X0.here hx rfl (pc0 := 13) (pc' := 24) rfl (hb hby d1_13) (by decide) (by decide) k)
    obtain ⟨fs, hr, hrun, hended, hW, hsame⟩ := X0.leave (v := some (.int ((1 : Int32) + (((p1.toUInt32 >>> ((1 : Int32) &&& 31).toUInt32).toInt32) &&& (3 : Int32))))) (fun h => by rw [Bd.returns] at h; cases h)
    subst hA0
    refine ⟨_, _, K _ (retOut X0 hx Bd.returns rfl (Or.inl ⟨rfl, Or.inl rfl, _, rfl⟩) (hb hby d1_24) hr), hrun, hended, _, _, rfl, ?_, ⟨_, rfl⟩, hW, hsame.mono (by decide) (by decide)⟩
    show Q_count Z p1 h0 n0 _ s₁.heap _
    rw [e0]
    exact ⟨(by simp [own_count, hc3]), N0, rfl⟩
theorem ef_9 (m : MethodId) (x0 : Int32) (x1 : Int32) : entryFrame m #[(.int x0), (.int x1)] 2 = mkF m 0 #[.val (.int x0), .val (.int x1)] [] := by first | (simp [entryFrame, mkF, argsToLocals, Value.category]; done) | rfl
theorem d9_0 : decode jdk_29_method_65_code 0 = .ok (.iload_n 0, 1) := by decide +kernel
theorem d9_1 : decode jdk_29_method_65_code 1 = .ok (.iload_n 1, 1) := by decide +kernel
theorem d9_2 : decode jdk_29_method_65_code 2 = .ok (.if_icmp .lt 7, 3) := by decide +kernel
theorem d9_9 : decode jdk_29_method_65_code 9 = .ok (.iload_n 1, 1) := by decide +kernel
theorem d9_10 : decode jdk_29_method_65_code 10 = .ok (.ireturn, 1) := by decide +kernel
theorem d9_5 : decode jdk_29_method_65_code 5 = .ok (.iload_n 0, 1) := by decide +kernel
theorem d9_6 : decode jdk_29_method_65_code 6 = .ok (.goto 4, 3) := by decide +kernel
def Q_max (Z : State) (p1 : Int32) (p2 : Int32) (h0 : Heap) (n0 : Nat) (v : Option Value) (h : Heap) (L : List Loc) : Prop := v = some (.int (own_max p1 p2)) ∧ Fr n0 L ∧ h = h0
set_option maxRecDepth 65536 in
set_option maxHeartbeats 40000000 in
theorem rm_max (l : Launch) (Z : State) (a0 : Array Value) (hw : ∀ d ∈ tables_1, d.before a0 Z = true) (ws : List Jvm.Cond) (p1 : Int32) (p2 : Int32) (h0 : Heap) (n0 : Nat) (Z0 : n0 ≤ h0.size) :
    MetFree l mN1 (head1 (Jvm.Cond.code mN1 jdk_29_method_65_code 2 (some .int) :: ws) ({ frames := 0, cells := 0, slots := 0, locals := 0 } : Room)) (fun a U => a = #[(.int p1), (.int p2)] ∧ Z.Warmed39 U.vm ∧ U.heap = h0) (fun _ _ _ _ _ => True) (fun _ U o U' => ∃ v L, o = .returned v ∧ Q_max Z p1 p2 h0 n0 v U'.heap L ∧ FrameEnd U o U' L ({ frames := 0, cells := 0, slots := 0, locals := 0 } : Room).cells ({ frames := 0, cells := 0, slots := 0, locals := 0 } : Room).slots) := by
  refine MetFree.of_bodySF (Jvm.Free.JP.mathPlain rfl (by decide +kernel)) hisR ?_
  intro p e s m args below meth c s₁ Bd hml0 hP hK
  obtain ⟨rfl, hZ, hh⟩ := hP
  have hx := Bd.exec
  have hby := Bd.bytes
  have hml : c.maxLocals = 2 := hml0
  have hown : s.vm.findClass "java/lang/Math" = some m.cls := findClass_of_methodNamed Bd.named
  have hnm := (name_of_methodNamed Bd.named Bd.method).1
  have X0 : Stand p l e ({ frames := 0, cells := 0, slots := 0, locals := 0 } : Room) s m #[(.int p1), (.int p2)] below meth c s₁ [] 0 0 := Stand.of_body Bd
  have e0 : s₁.heap = h0 := by rw [← hh, Bd.state]; rfl
  have N0 := Fr.nil n0
  obtain ⟨A0, hA0⟩ : ∃ z, z = s₁.setTop (entryFrame m #[(.int p1), (.int p2)] 2) := ⟨_, rfl⟩
  have K : OGo p e below A0 s₁ (mkF m 0 #[iv p1, iv p2] []) := fun t k => hA0 ▸ castTop (ef_9 m p1 p2) k
  replace K : OGo p e below A0 s₁ (mkF m 1 #[iv p1, iv p2] [(.int p1)]) := fun t k => K t (XS.iloadN X0.here hx rfl (hb hby d9_0) rfl k)
  replace K : OGo p e below A0 s₁ (mkF m 2 #[iv p1, iv p2] [(.int p2), (.int p1)]) := fun t k => K t (XS.iloadN X0.here hx rfl (hb hby d9_1) rfl k)
  by_cases hc2 : p1 < p2
  · replace K : OGo p e below A0 s₁ (mkF m 9 #[iv p1, iv p2] []) := fun t k => K t (XS.icmpYes X0.here hx rfl (pc0 := 2) (pc' := 9) rfl (hb hby d9_2) rfl (tlt hc2).1 (by decide) (by decide) k)
    replace K : OGo p e below A0 s₁ (mkF m 10 #[iv p1, iv p2] [(.int p2)]) := fun t k => K t (XS.iloadN X0.here hx rfl (hb hby d9_9) rfl k)
    obtain ⟨fs, hr, hrun, hended, hW, hsame⟩ := X0.leave (v := some (.int p2)) (fun h => by rw [Bd.returns] at h; cases h)
    subst hA0
    refine ⟨_, _, K _ (retOut X0 hx Bd.returns rfl (Or.inl ⟨rfl, Or.inl rfl, _, rfl⟩) (hb hby d9_10) hr), hrun, hended, _, _, rfl, ?_, ⟨_, rfl⟩, hW, hsame.mono (by decide) (by decide)⟩
    show Q_max Z p1 p2 h0 n0 _ s₁.heap _
    rw [e0]
    exact ⟨(by simp [own_max, hc2]), N0, rfl⟩
  · replace K : OGo p e below A0 s₁ (mkF m 5 #[iv p1, iv p2] []) := fun t k => K t (XS.icmpNo X0.here hx rfl (hb hby d9_2) rfl (flt hc2).1 k)
    replace K : OGo p e below A0 s₁ (mkF m 6 #[iv p1, iv p2] [(.int p1)]) := fun t k => K t (XS.iloadN X0.here hx rfl (hb hby d9_5) rfl k)
    replace K : OGo p e below A0 s₁ (mkF m 10 #[iv p1, iv p2] [(.int p1)]) := fun t k => K t (XS.goto X0.here hx rfl (pc0 := 6) (pc' := 10) rfl (hb hby d9_6) (by decide) (by decide) k)
    obtain ⟨fs, hr, hrun, hended, hW, hsame⟩ := X0.leave (v := some (.int p1)) (fun h => by rw [Bd.returns] at h; cases h)
    subst hA0
    refine ⟨_, _, K _ (retOut X0 hx Bd.returns rfl (Or.inl ⟨rfl, Or.inl rfl, _, rfl⟩) (hb hby d9_10) hr), hrun, hended, _, _, rfl, ?_, ⟨_, rfl⟩, hW, hsame.mono (by decide) (by decide)⟩
    show Q_max Z p1 p2 h0 n0 _ s₁.heap _
    rw [e0]
    exact ⟨(by simp [own_max, hc2]), N0, rfl⟩
theorem pn_com_example_flote_flote_program_Choices : plainName "com/example/flote/flote/program/Choices" = true := by first | (simp [plainName, overriddenIn]; done) | decide +kernel
theorem ef_2 (m : MethodId) (x0 : Addr) : entryFrame m #[(.ref x0)] 1 = mkF m 0 #[.val (.ref x0)] [] := by first | (simp [entryFrame, mkF, argsToLocals, Value.category]; done) | rfl
theorem d2_0 : decode prog_72_method_1_code 0 = .ok (.aload_n 0, 1) := by decide +kernel
theorem d2_1 : decode prog_72_method_1_code 1 = .ok (.invokespecial 1, 3) := by decide +kernel
theorem d2_4 : decode prog_72_method_1_code 4 = .ok (.aload_n 0, 1) := by decide +kernel
theorem d2_5 : decode prog_72_method_1_code 5 = .ok (.bipush 8, 2) := by decide +kernel
theorem d2_7 : decode prog_72_method_1_code 7 = .ok (.newarray .int, 2) := by decide +kernel
theorem d2_9 : decode prog_72_method_1_code 9 = .ok (.putfield 7, 3) := by decide +kernel
theorem d2_12 : decode prog_72_method_1_code 12 = .ok (.aload_n 0, 1) := by decide +kernel
theorem d2_13 : decode prog_72_method_1_code 13 = .ok (.bipush 8, 2) := by decide +kernel
theorem d2_15 : decode prog_72_method_1_code 15 = .ok (.newarray .int, 2) := by decide +kernel
theorem d2_17 : decode prog_72_method_1_code 17 = .ok (.putfield 13, 3) := by decide +kernel
theorem sn_cN0_counts_taken {a0 : Array Value} {Z : State} (hw : ∀ d ∈ tables_1, d.before a0 Z = true) : Jvm.RoadKit.slotOf Z cN0 "counts" "[I" ≠ Jvm.RoadKit.slotOf Z cN0 "taken" "[I" := slot_ne (Or.inl (ow hw 18 rfl)) (Or.inl (ow hw 16 rfl)) (by decide) (t := (.array .int)) (t' := (.array .int)) (by decide) (by decide)
theorem d2_20 : decode prog_72_method_1_code 20 = .ok (.aload_n 0, 1) := by decide +kernel
theorem d2_21 : decode prog_72_method_1_code 21 = .ok (.bipush 8, 2) := by decide +kernel
theorem d2_23 : decode prog_72_method_1_code 23 = .ok (.newarray .int, 2) := by decide +kernel
theorem d2_25 : decode prog_72_method_1_code 25 = .ok (.putfield 16, 3) := by decide +kernel
theorem sn_cN0_values_taken {a0 : Array Value} {Z : State} (hw : ∀ d ∈ tables_1, d.before a0 Z = true) : Jvm.RoadKit.slotOf Z cN0 "values" "[I" ≠ Jvm.RoadKit.slotOf Z cN0 "taken" "[I" := slot_ne (Or.inl (ow hw 20 rfl)) (Or.inl (ow hw 16 rfl)) (by decide) (t := (.array .int)) (t' := (.array .int)) (by decide) (by decide)
theorem sn_cN0_values_counts {a0 : Array Value} {Z : State} (hw : ∀ d ∈ tables_1, d.before a0 Z = true) : Jvm.RoadKit.slotOf Z cN0 "values" "[I" ≠ Jvm.RoadKit.slotOf Z cN0 "counts" "[I" := slot_ne (Or.inl (ow hw 20 rfl)) (Or.inl (ow hw 18 rfl)) (by decide) (t := (.array .int)) (t' := (.array .int)) (by decide) (by decide)
theorem d2_28 : decode prog_72_method_1_code 28 = .ok (.aload_n 0, 1) := by decide +kernel
theorem d2_29 : decode prog_72_method_1_code 29 = .ok (.bipush 8, 2) := by decide +kernel
theorem d2_31 : decode prog_72_method_1_code 31 = .ok (.anewarray 19, 3) := by decide +kernel
theorem d2_34 : decode prog_72_method_1_code 34 = .ok (.putfield 21, 3) := by decide +kernel
theorem sn_cN0_types_taken {a0 : Array Value} {Z : State} (hw : ∀ d ∈ tables_1, d.before a0 Z = true) : Jvm.RoadKit.slotOf Z cN0 "types" cN1 ≠ Jvm.RoadKit.slotOf Z cN0 "taken" "[I" := slot_ne (Or.inl (ow hw 24 rfl)) (Or.inl (ow hw 16 rfl)) (by decide) (t := (.array (.object "com/example/flote/flote/program/Type"))) (t' := (.array .int)) (by decide) (by decide)
theorem sn_cN0_types_counts {a0 : Array Value} {Z : State} (hw : ∀ d ∈ tables_1, d.before a0 Z = true) : Jvm.RoadKit.slotOf Z cN0 "types" cN1 ≠ Jvm.RoadKit.slotOf Z cN0 "counts" "[I" := slot_ne (Or.inl (ow hw 24 rfl)) (Or.inl (ow hw 18 rfl)) (by decide) (t := (.array (.object "com/example/flote/flote/program/Type"))) (t' := (.array .int)) (by decide) (by decide)
theorem sn_cN0_types_values {a0 : Array Value} {Z : State} (hw : ∀ d ∈ tables_1, d.before a0 Z = true) : Jvm.RoadKit.slotOf Z cN0 "types" cN1 ≠ Jvm.RoadKit.slotOf Z cN0 "values" "[I" := slot_ne (Or.inl (ow hw 24 rfl)) (Or.inl (ow hw 20 rfl)) (by decide) (t := (.array (.object "com/example/flote/flote/program/Type"))) (t' := (.array .int)) (by decide) (by decide)
theorem d2_37 : decode prog_72_method_1_code 37 = .ok (.return_, 1) := by decide +kernel
theorem sn_cN0_taken_counts {a0 : Array Value} {Z : State} (hw : ∀ d ∈ tables_1, d.before a0 Z = true) : Jvm.RoadKit.slotOf Z cN0 "taken" "[I" ≠ Jvm.RoadKit.slotOf Z cN0 "counts" "[I" := slot_ne (Or.inl (ow hw 16 rfl)) (Or.inl (ow hw 18 rfl)) (by decide) (t := (.array .int)) (t' := (.array .int)) (by decide) (by decide)
theorem sn_cN0_taken_values {a0 : Array Value} {Z : State} (hw : ∀ d ∈ tables_1, d.before a0 Z = true) : Jvm.RoadKit.slotOf Z cN0 "taken" "[I" ≠ Jvm.RoadKit.slotOf Z cN0 "values" "[I" := slot_ne (Or.inl (ow hw 16 rfl)) (Or.inl (ow hw 20 rfl)) (by decide) (t := (.array .int)) (t' := (.array .int)) (by decide) (by decide)
theorem sn_cN0_taken_types {a0 : Array Value} {Z : State} (hw : ∀ d ∈ tables_1, d.before a0 Z = true) : Jvm.RoadKit.slotOf Z cN0 "taken" "[I" ≠ Jvm.RoadKit.slotOf Z cN0 "types" cN1 := slot_ne (Or.inl (ow hw 16 rfl)) (Or.inl (ow hw 24 rfl)) (by decide) (t := (.array .int)) (t' := (.array (.object "com/example/flote/flote/program/Type"))) (by decide) (by decide)
theorem sn_cN0_counts_values {a0 : Array Value} {Z : State} (hw : ∀ d ∈ tables_1, d.before a0 Z = true) : Jvm.RoadKit.slotOf Z cN0 "counts" "[I" ≠ Jvm.RoadKit.slotOf Z cN0 "values" "[I" := slot_ne (Or.inl (ow hw 18 rfl)) (Or.inl (ow hw 20 rfl)) (by decide) (t := (.array .int)) (t' := (.array .int)) (by decide) (by decide)
theorem sn_cN0_counts_types {a0 : Array Value} {Z : State} (hw : ∀ d ∈ tables_1, d.before a0 Z = true) : Jvm.RoadKit.slotOf Z cN0 "counts" "[I" ≠ Jvm.RoadKit.slotOf Z cN0 "types" cN1 := slot_ne (Or.inl (ow hw 18 rfl)) (Or.inl (ow hw 24 rfl)) (by decide) (t := (.array .int)) (t' := (.array (.object "com/example/flote/flote/program/Type"))) (by decide) (by decide)
theorem sn_cN0_met_taken {a0 : Array Value} {Z : State} (hw : ∀ d ∈ tables_1, d.before a0 Z = true) : Jvm.RoadKit.slotOf Z cN0 "met" "I" ≠ Jvm.RoadKit.slotOf Z cN0 "taken" "[I" := slot_ne (Or.inl (ow hw 31 rfl)) (Or.inl (ow hw 16 rfl)) (by decide) (t := .int) (t' := (.array .int)) (by decide) (by decide)
theorem sn_cN0_met_counts {a0 : Array Value} {Z : State} (hw : ∀ d ∈ tables_1, d.before a0 Z = true) : Jvm.RoadKit.slotOf Z cN0 "met" "I" ≠ Jvm.RoadKit.slotOf Z cN0 "counts" "[I" := slot_ne (Or.inl (ow hw 31 rfl)) (Or.inl (ow hw 18 rfl)) (by decide) (t := .int) (t' := (.array .int)) (by decide) (by decide)
theorem sn_cN0_met_values {a0 : Array Value} {Z : State} (hw : ∀ d ∈ tables_1, d.before a0 Z = true) : Jvm.RoadKit.slotOf Z cN0 "met" "I" ≠ Jvm.RoadKit.slotOf Z cN0 "values" "[I" := slot_ne (Or.inl (ow hw 31 rfl)) (Or.inl (ow hw 20 rfl)) (by decide) (t := .int) (t' := (.array .int)) (by decide) (by decide)
theorem sn_cN0_met_types {a0 : Array Value} {Z : State} (hw : ∀ d ∈ tables_1, d.before a0 Z = true) : Jvm.RoadKit.slotOf Z cN0 "met" "I" ≠ Jvm.RoadKit.slotOf Z cN0 "types" cN1 := slot_ne (Or.inl (ow hw 31 rfl)) (Or.inl (ow hw 24 rfl)) (by decide) (t := .int) (t' := (.array (.object "com/example/flote/flote/program/Type"))) (by decide) (by decide)
theorem sn_cN0_repeated_taken {a0 : Array Value} {Z : State} (hw : ∀ d ∈ tables_1, d.before a0 Z = true) : Jvm.RoadKit.slotOf Z cN0 "repeated" "I" ≠ Jvm.RoadKit.slotOf Z cN0 "taken" "[I" := slot_ne (Or.inl (ow hw 33 rfl)) (Or.inl (ow hw 16 rfl)) (by decide) (t := .int) (t' := (.array .int)) (by decide) (by decide)
theorem sn_cN0_repeated_counts {a0 : Array Value} {Z : State} (hw : ∀ d ∈ tables_1, d.before a0 Z = true) : Jvm.RoadKit.slotOf Z cN0 "repeated" "I" ≠ Jvm.RoadKit.slotOf Z cN0 "counts" "[I" := slot_ne (Or.inl (ow hw 33 rfl)) (Or.inl (ow hw 18 rfl)) (by decide) (t := .int) (t' := (.array .int)) (by decide) (by decide)
theorem sn_cN0_repeated_values {a0 : Array Value} {Z : State} (hw : ∀ d ∈ tables_1, d.before a0 Z = true) : Jvm.RoadKit.slotOf Z cN0 "repeated" "I" ≠ Jvm.RoadKit.slotOf Z cN0 "values" "[I" := slot_ne (Or.inl (ow hw 33 rfl)) (Or.inl (ow hw 20 rfl)) (by decide) (t := .int) (t' := (.array .int)) (by decide) (by decide)
theorem sn_cN0_repeated_types {a0 : Array Value} {Z : State} (hw : ∀ d ∈ tables_1, d.before a0 Z = true) : Jvm.RoadKit.slotOf Z cN0 "repeated" "I" ≠ Jvm.RoadKit.slotOf Z cN0 "types" cN1 := slot_ne (Or.inl (ow hw 33 rfl)) (Or.inl (ow hw 24 rfl)) (by decide) (t := .int) (t' := (.array (.object "com/example/flote/flote/program/Type"))) (by decide) (by decide)
theorem sn_cN0_branches_taken {a0 : Array Value} {Z : State} (hw : ∀ d ∈ tables_1, d.before a0 Z = true) : Jvm.RoadKit.slotOf Z cN0 "branches" "I" ≠ Jvm.RoadKit.slotOf Z cN0 "taken" "[I" := slot_ne (Or.inl (ow hw 35 rfl)) (Or.inl (ow hw 16 rfl)) (by decide) (t := .int) (t' := (.array .int)) (by decide) (by decide)
theorem sn_cN0_branches_counts {a0 : Array Value} {Z : State} (hw : ∀ d ∈ tables_1, d.before a0 Z = true) : Jvm.RoadKit.slotOf Z cN0 "branches" "I" ≠ Jvm.RoadKit.slotOf Z cN0 "counts" "[I" := slot_ne (Or.inl (ow hw 35 rfl)) (Or.inl (ow hw 18 rfl)) (by decide) (t := .int) (t' := (.array .int)) (by decide) (by decide)
theorem sn_cN0_branches_values {a0 : Array Value} {Z : State} (hw : ∀ d ∈ tables_1, d.before a0 Z = true) : Jvm.RoadKit.slotOf Z cN0 "branches" "I" ≠ Jvm.RoadKit.slotOf Z cN0 "values" "[I" := slot_ne (Or.inl (ow hw 35 rfl)) (Or.inl (ow hw 20 rfl)) (by decide) (t := .int) (t' := (.array .int)) (by decide) (by decide)
theorem sn_cN0_branches_types {a0 : Array Value} {Z : State} (hw : ∀ d ∈ tables_1, d.before a0 Z = true) : Jvm.RoadKit.slotOf Z cN0 "branches" "I" ≠ Jvm.RoadKit.slotOf Z cN0 "types" cN1 := slot_ne (Or.inl (ow hw 35 rfl)) (Or.inl (ow hw 24 rfl)) (by decide) (t := .int) (t' := (.array (.object "com/example/flote/flote/program/Type"))) (by decide) (by decide)
theorem sn_cN0_computed_taken {a0 : Array Value} {Z : State} (hw : ∀ d ∈ tables_1, d.before a0 Z = true) : Jvm.RoadKit.slotOf Z cN0 "computed" "I" ≠ Jvm.RoadKit.slotOf Z cN0 "taken" "[I" := slot_ne (Or.inl (ow hw 37 rfl)) (Or.inl (ow hw 16 rfl)) (by decide) (t := .int) (t' := (.array .int)) (by decide) (by decide)
theorem sn_cN0_computed_counts {a0 : Array Value} {Z : State} (hw : ∀ d ∈ tables_1, d.before a0 Z = true) : Jvm.RoadKit.slotOf Z cN0 "computed" "I" ≠ Jvm.RoadKit.slotOf Z cN0 "counts" "[I" := slot_ne (Or.inl (ow hw 37 rfl)) (Or.inl (ow hw 18 rfl)) (by decide) (t := .int) (t' := (.array .int)) (by decide) (by decide)
theorem sn_cN0_computed_values {a0 : Array Value} {Z : State} (hw : ∀ d ∈ tables_1, d.before a0 Z = true) : Jvm.RoadKit.slotOf Z cN0 "computed" "I" ≠ Jvm.RoadKit.slotOf Z cN0 "values" "[I" := slot_ne (Or.inl (ow hw 37 rfl)) (Or.inl (ow hw 20 rfl)) (by decide) (t := .int) (t' := (.array .int)) (by decide) (by decide)
theorem sn_cN0_computed_types {a0 : Array Value} {Z : State} (hw : ∀ d ∈ tables_1, d.before a0 Z = true) : Jvm.RoadKit.slotOf Z cN0 "computed" "I" ≠ Jvm.RoadKit.slotOf Z cN0 "types" cN1 := slot_ne (Or.inl (ow hw 37 rfl)) (Or.inl (ow hw 24 rfl)) (by decide) (t := .int) (t' := (.array (.object "com/example/flote/flote/program/Type"))) (by decide) (by decide)
def Q_init (Z : State) (a1 : Addr) (h0 : Heap) (n0 : Nat) (v : Option Value) (h : Heap) (L : List Loc) : Prop := v = none ∧ Fr n0 L ∧ ∃ (ta : Addr) (ca : Addr) (kt : ClassId) (kc : ClassId), Keep h0 h [a1] ∧ h0.size ≤ ta ∧ h0.size ≤ ca ∧ ta ≠ ca ∧ Exa Z h a1 cN0 ∧ Fld Z h a1 cN0 "taken" "[I" (.ref ta) ∧ Fld Z h a1 cN0 "counts" "[I" (.ref ca) ∧ Fld Z h a1 cN0 "met" "I" (.int (0 : Int32)) ∧ Fld Z h a1 cN0 "repeated" "I" (.int (0 : Int32)) ∧ Fld Z h a1 cN0 "branches" "I" (.int (0 : Int32)) ∧ Fld Z h a1 cN0 "computed" "I" (.int (0 : Int32)) ∧ OAr Z h ta kt .int (oA8 (0 : Int32) (0 : Int32)) ∧ OAr Z h ca kc .int (oA8 (0 : Int32) (0 : Int32))
set_option maxRecDepth 65536 in
set_option maxHeartbeats 40000000 in
theorem rm_init (l : Launch) (Z : State) (a0 : Array Value) (hw : ∀ d ∈ tables_1, d.before a0 Z = true) (ws : List Jvm.Cond) (a1 : Addr) (h0 : Heap) (n0 : Nat) (Z0 : n0 ≤ h0.size) (E_a1 : Exa Z h0 a1 cN0) (F_taken_a1 : Fld Z h0 a1 cN0 "taken" "[I" .null) (F_counts_a1 : Fld Z h0 a1 cN0 "counts" "[I" .null) (F_values_a1 : Fld Z h0 a1 cN0 "values" "[I" .null) (F_types_a1 : Fld Z h0 a1 cN0 "types" cN1 .null) (F_met_a1 : Fld Z h0 a1 cN0 "met" "I" (.int (0 : Int32))) (F_repeated_a1 : Fld Z h0 a1 cN0 "repeated" "I" (.int (0 : Int32))) (F_branches_a1 : Fld Z h0 a1 cN0 "branches" "I" (.int (0 : Int32))) (F_computed_a1 : Fld Z h0 a1 cN0 "computed" "I" (.int (0 : Int32))) (g_a1 : n0 ≤ a1) :
    MetFree l mN2 (head1 (Jvm.Cond.code mN2 prog_72_method_1_code 1 none :: ws) ({ frames := 1, cells := 4, slots := 32, locals := 12 } : Room)) (fun a U => a = #[(.ref a1)] ∧ Z.Warmed39 U.vm ∧ U.heap = h0) (fun _ _ _ _ _ => True) (fun _ U o U' => ∃ v L, o = .returned v ∧ Q_init Z a1 h0 n0 v U'.heap L ∧ FrameEnd U o U' L ({ frames := 1, cells := 4, slots := 32, locals := 12 } : Room).cells ({ frames := 1, cells := 4, slots := 32, locals := 12 } : Room).slots) := by
  refine MetFree.of_bodySF (plainFor_of_name pn_com_example_flote_flote_program_Choices) hisR ?_
  intro p e s m args below meth c s₁ Bd hml0 hP hK
  obtain ⟨rfl, hZ, hh⟩ := hP
  have hx := Bd.exec
  have hby := Bd.bytes
  have hml : c.maxLocals = 1 := hml0
  have hown : s.vm.findClass "com/example/flote/flote/program/Choices" = some m.cls := findClass_of_methodNamed Bd.named
  have hnm := (name_of_methodNamed Bd.named Bd.method).1
  have X0 : Stand p l e ({ frames := 1, cells := 4, slots := 32, locals := 12 } : Room) s m #[(.ref a1)] below meth c s₁ [] 0 0 := Stand.of_body Bd
  have e0 : s₁.heap = h0 := by rw [← hh, Bd.state]; rfl
  have N0 := Fr.nil n0
  obtain ⟨A0, hA0⟩ : ∃ z, z = s₁.setTop (entryFrame m #[(.ref a1)] 1) := ⟨_, rfl⟩
  have K : OGo p e below A0 s₁ (mkF m 0 #[rv a1] []) := fun t k => hA0 ▸ castTop (ef_2 m a1) k
  replace K : OGo p e below A0 s₁ (mkF m 1 #[rv a1] [(.ref a1)]) := fun t k => K t (XS.aloadN X0.here hx rfl (hb hby d2_0) rfl rfl k)
  obtain ⟨T1, X1, e1, st1⟩ := initO X0 hx hZ hown (ow hw 11 rfl) (ow hw 12 rfl) (ow hw 13 rfl) e0 (g := (mkF m 1 #[rv a1] [(.ref a1)])) rfl (by rw [hml]; rfl) rfl (hb hby d2_1) (by decide) (W := 0) (by show 2 * 0 + _ ≤ _; exact Nat.le_of_eq rfl) (by decide)
  replace K : OGo p e below A0 T1 (mkF m 4 #[rv a1] []) := fun t k => K t (st1 t k)
  replace K : OGo p e below A0 T1 (mkF m 5 #[rv a1] [(.ref a1)]) := fun t k => K t (XS.aloadN X1.here hx rfl (hb hby d2_4) rfl rfl k)
  replace K : OGo p e below A0 T1 (mkF m 7 #[rv a1] [(.int 8), (.ref a1)]) := fun t k => K t (XS.bipush X1.here hx rfl (hb hby d2_5) k)
  obtain ⟨T2, h2, k2, X2, e2, E2, A2, Q2, st2⟩ := newPE X1 hx hZ (ow hw 14 rfl) e1 (g := (mkF m 7 #[rv a1] [(.int 8), (.ref a1)])) rfl (hb hby d2_7) rfl (by decide) (cap := 8) (by decide) (by decide) (by decide) (by decide) (ad := "[I") (by decide)
  obtain ⟨b2, gz2⟩ : ∃ z, z = h0.size := ⟨_, rfl⟩
  rw [← gz2] at A2 Q2 st2
  have ne_a1_b2 : a1 ≠ b2 := Nat.ne_of_lt (Nat.lt_of_lt_of_le E_a1.lt (Nat.le_of_eq gz2.symm))
  have g_b2 : n0 ≤ b2 := Nat.le_trans Z0 (Nat.le_of_eq gz2.symm)
  have sz_b2 : h0.size ≤ b2 := Nat.le_trans (Keep.refl h0 [a1]).1 (Nat.le_of_eq gz2.symm)
  have Z2 : n0 ≤ h2.size := Nat.le_trans Z0 E2.1
  have Kp2 : Keep h0 h2 [a1] := (Keep.refl h0 [a1]).ext E2
  have V_b2 : OAr Z h2 b2 k2 .int (oA8 (0 : Int32) (0 : Int32)) := OAr.new A2
  replace K : OGo p e below A0 T2 (mkF m 9 #[rv a1] [(.ref b2), (.ref a1)]) := fun t k => K t (st2 t k)
  have F_taken_a1_3 := (F_taken_a1.ext E2)
  have E_a1_4 := (E_a1.ext E2)
  obtain ⟨T5, h5, X5, e5, W5, st5⟩ := putF X2 hx hZ hown (host := "") (Or.inl (ow hw 15 rfl)) Via.refl e2 F_taken_a1_3 E_a1_4 (Or.inl (ow hw 16 rfl)) (ow hw 6 rfl) (ty := (.array .int)) (by decide) rfl rfl (g := (mkF m 9 #[rv a1] [(.ref b2), (.ref a1)])) rfl rfl (hb hby d2_9)
  have Z5 : n0 ≤ h5.size := Nat.le_trans Z2 (Keep.of_wr W5).1
  have Kp5 : Keep h0 h5 [a1] := Kp2.wr W5 (Or.inl (List.mem_of_getElem? (i := 0) rfl))
  have F_taken_a1_5 := F_taken_a1_3.same W5
  have N5 := Fr.snoc X5 N0 g_a1
  replace K : OGo p e below A0 T5 (mkF m 12 #[rv a1] []) := fun t k => K t (st5 t k)
  replace K : OGo p e below A0 T5 (mkF m 13 #[rv a1] [(.ref a1)]) := fun t k => K t (XS.aloadN X5.here hx rfl (hb hby d2_12) rfl rfl k)
  replace K : OGo p e below A0 T5 (mkF m 15 #[rv a1] [(.int 8), (.ref a1)]) := fun t k => K t (XS.bipush X5.here hx rfl (hb hby d2_13) k)
  obtain ⟨T6, h6, k6, X6, e6, E6, A6, Q6, st6⟩ := newPE X5 hx hZ (ow hw 14 rfl) e5 (g := (mkF m 15 #[rv a1] [(.int 8), (.ref a1)])) rfl (hb hby d2_15) rfl (by decide) (cap := 8) (by decide) (by decide) (by decide) (by decide) (ad := "[I") (by decide)
  obtain ⟨b6, gz6⟩ : ∃ z, z = h5.size := ⟨_, rfl⟩
  rw [← gz6] at A6 Q6 st6
  have E_a1_7 := (E_a1_4.wr W5)
  have ne_a1_b6 : a1 ≠ b6 := Nat.ne_of_lt (Nat.lt_of_lt_of_le E_a1_7.lt (Nat.le_of_eq gz6.symm))
  have Q2_8 := (Q2.wr W5)
  have ne_b2_b6 : b2 ≠ b6 := Nat.ne_of_lt (Nat.lt_of_lt_of_le Q2_8.lt (Nat.le_of_eq gz6.symm))
  have g_b6 : n0 ≤ b6 := Nat.le_trans Z5 (Nat.le_of_eq gz6.symm)
  have sz_b6 : h0.size ≤ b6 := Nat.le_trans Kp5.1 (Nat.le_of_eq gz6.symm)
  have Z6 : n0 ≤ h6.size := Nat.le_trans Z5 E6.1
  have Kp6 : Keep h0 h6 [a1] := Kp5.ext E6
  have V_b6 : OAr Z h6 b6 k6 .int (oA8 (0 : Int32) (0 : Int32)) := OAr.new A6
  replace K : OGo p e below A0 T6 (mkF m 17 #[rv a1] [(.ref b6), (.ref a1)]) := fun t k => K t (st6 t k)
  have F_counts_a1_9 := (((F_counts_a1.ext E2).other W5 (Or.inr (sn_cN0_counts_taken hw))).ext E6)
  have E_a1_10 := (E_a1_7.ext E6)
  obtain ⟨T11, h11, X11, e11, W11, st11⟩ := putF X6 hx hZ hown (host := "") (Or.inl (ow hw 17 rfl)) Via.refl e6 F_counts_a1_9 E_a1_10 (Or.inl (ow hw 18 rfl)) (ow hw 6 rfl) (ty := (.array .int)) (by decide) rfl rfl (g := (mkF m 17 #[rv a1] [(.ref b6), (.ref a1)])) rfl rfl (hb hby d2_17)
  have Z11 : n0 ≤ h11.size := Nat.le_trans Z6 (Keep.of_wr W11).1
  have Kp11 : Keep h0 h11 [a1] := Kp6.wr W11 (Or.inl (List.mem_of_getElem? (i := 0) rfl))
  have F_counts_a1_11 := F_counts_a1_9.same W11
  have N11 := Fr.snoc X11 N5 g_a1
  replace K : OGo p e below A0 T11 (mkF m 20 #[rv a1] []) := fun t k => K t (st11 t k)
  replace K : OGo p e below A0 T11 (mkF m 21 #[rv a1] [(.ref a1)]) := fun t k => K t (XS.aloadN X11.here hx rfl (hb hby d2_20) rfl rfl k)
  replace K : OGo p e below A0 T11 (mkF m 23 #[rv a1] [(.int 8), (.ref a1)]) := fun t k => K t (XS.bipush X11.here hx rfl (hb hby d2_21) k)
  obtain ⟨T12, h12, k12, X12, e12, E12, A12, Q12, st12⟩ := newPE X11 hx hZ (ow hw 14 rfl) e11 (g := (mkF m 23 #[rv a1] [(.int 8), (.ref a1)])) rfl (hb hby d2_23) rfl (by decide) (cap := 8) (by decide) (by decide) (by decide) (by decide) (ad := "[I") (by decide)
  obtain ⟨b12, gz12⟩ : ∃ z, z = h11.size := ⟨_, rfl⟩
  rw [← gz12] at A12 Q12 st12
  have E_a1_13 := (E_a1_10.wr W11)
  have ne_a1_b12 : a1 ≠ b12 := Nat.ne_of_lt (Nat.lt_of_lt_of_le E_a1_13.lt (Nat.le_of_eq gz12.symm))
  have Q2_14 := ((Q2_8.ext E6).wr W11)
  have ne_b2_b12 : b2 ≠ b12 := Nat.ne_of_lt (Nat.lt_of_lt_of_le Q2_14.lt (Nat.le_of_eq gz12.symm))
  have Q6_15 := (Q6.wr W11)
  have ne_b6_b12 : b6 ≠ b12 := Nat.ne_of_lt (Nat.lt_of_lt_of_le Q6_15.lt (Nat.le_of_eq gz12.symm))
  have g_b12 : n0 ≤ b12 := Nat.le_trans Z11 (Nat.le_of_eq gz12.symm)
  have sz_b12 : h0.size ≤ b12 := Nat.le_trans Kp11.1 (Nat.le_of_eq gz12.symm)
  have Z12 : n0 ≤ h12.size := Nat.le_trans Z11 E12.1
  have Kp12 : Keep h0 h12 [a1] := Kp11.ext E12
  have V_b12 : OAr Z h12 b12 k12 .int (oA8 (0 : Int32) (0 : Int32)) := OAr.new A12
  replace K : OGo p e below A0 T12 (mkF m 25 #[rv a1] [(.ref b12), (.ref a1)]) := fun t k => K t (st12 t k)
  have F_values_a1_16 := (((((F_values_a1.ext E2).other W5 (Or.inr (sn_cN0_values_taken hw))).ext E6).other W11 (Or.inr (sn_cN0_values_counts hw))).ext E12)
  have E_a1_17 := (E_a1_13.ext E12)
  obtain ⟨T18, h18, X18, e18, W18, st18⟩ := putF X12 hx hZ hown (host := "") (Or.inl (ow hw 19 rfl)) Via.refl e12 F_values_a1_16 E_a1_17 (Or.inl (ow hw 20 rfl)) (ow hw 6 rfl) (ty := (.array .int)) (by decide) rfl rfl (g := (mkF m 25 #[rv a1] [(.ref b12), (.ref a1)])) rfl rfl (hb hby d2_25)
  have Z18 : n0 ≤ h18.size := Nat.le_trans Z12 (Keep.of_wr W18).1
  have Kp18 : Keep h0 h18 [a1] := Kp12.wr W18 (Or.inl (List.mem_of_getElem? (i := 0) rfl))
  have F_values_a1_18 := F_values_a1_16.same W18
  have N18 := Fr.snoc X18 N11 g_a1
  replace K : OGo p e below A0 T18 (mkF m 28 #[rv a1] []) := fun t k => K t (st18 t k)
  replace K : OGo p e below A0 T18 (mkF m 29 #[rv a1] [(.ref a1)]) := fun t k => K t (XS.aloadN X18.here hx rfl (hb hby d2_28) rfl rfl k)
  replace K : OGo p e below A0 T18 (mkF m 31 #[rv a1] [(.int 8), (.ref a1)]) := fun t k => K t (XS.bipush X18.here hx rfl (hb hby d2_29) k)
  obtain ⟨T19, h19, k19, X19, e19, E19, A19, O19, st19⟩ := newR X18 hx hZ hown (ow hw 21 rfl) (ow hw 22 rfl) e18 (g := (mkF m 31 #[rv a1] [(.int 8), (.ref a1)])) rfl (hb hby d2_31) rfl (by decide) (cap := 8) (by decide) (by decide) (by decide) (by decide)
  obtain ⟨b19, gz19⟩ : ∃ z, z = h18.size := ⟨_, rfl⟩
  rw [← gz19] at A19 st19
  have E_a1_20 := (E_a1_17.wr W18)
  have ne_a1_b19 : a1 ≠ b19 := Nat.ne_of_lt (Nat.lt_of_lt_of_le E_a1_20.lt (Nat.le_of_eq gz19.symm))
  have Q2_21 := ((Q2_14.ext E12).wr W18)
  have ne_b2_b19 : b2 ≠ b19 := Nat.ne_of_lt (Nat.lt_of_lt_of_le Q2_21.lt (Nat.le_of_eq gz19.symm))
  have Q6_22 := ((Q6_15.ext E12).wr W18)
  have ne_b6_b19 : b6 ≠ b19 := Nat.ne_of_lt (Nat.lt_of_lt_of_le Q6_22.lt (Nat.le_of_eq gz19.symm))
  have Q12_23 := (Q12.wr W18)
  have ne_b12_b19 : b12 ≠ b19 := Nat.ne_of_lt (Nat.lt_of_lt_of_le Q12_23.lt (Nat.le_of_eq gz19.symm))
  have g_b19 : n0 ≤ b19 := Nat.le_trans Z18 (Nat.le_of_eq gz19.symm)
  have sz_b19 : h0.size ≤ b19 := Nat.le_trans Kp18.1 (Nat.le_of_eq gz19.symm)
  have Z19 : n0 ≤ h19.size := Nat.le_trans Z18 E19.1
  have Kp19 : Keep h0 h19 [a1] := Kp18.ext E19
  have V_b19 : OAr Z h19 b19 k19 (.object "com/example/flote/flote/program/Type") [.null, .null, .null, .null, .null, .null, .null, .null] := OAr.new A19
  replace K : OGo p e below A0 T19 (mkF m 34 #[rv a1] [(.ref b19), (.ref a1)]) := fun t k => K t (st19 t k)
  have F_types_a1_24 := (((((((F_types_a1.ext E2).other W5 (Or.inr (sn_cN0_types_taken hw))).ext E6).other W11 (Or.inr (sn_cN0_types_counts hw))).ext E12).other W18 (Or.inr (sn_cN0_types_values hw))).ext E19)
  have E_a1_25 := (E_a1_20.ext E19)
  obtain ⟨T26, h26, X26, e26, W26, st26⟩ := putF X19 hx hZ hown (host := "") (Or.inl (ow hw 23 rfl)) Via.refl e19 F_types_a1_24 E_a1_25 (Or.inl (ow hw 24 rfl)) (ow hw 6 rfl) (ty := (.array (.object "com/example/flote/flote/program/Type"))) (by decide) rfl rfl (g := (mkF m 34 #[rv a1] [(.ref b19), (.ref a1)])) rfl rfl (hb hby d2_34)
  have Z26 : n0 ≤ h26.size := Nat.le_trans Z19 (Keep.of_wr W26).1
  have Kp26 : Keep h0 h26 [a1] := Kp19.wr W26 (Or.inl (List.mem_of_getElem? (i := 0) rfl))
  have F_types_a1_26 := F_types_a1_24.same W26
  have N26 := Fr.snoc X26 N18 g_a1
  replace K : OGo p e below A0 T26 (mkF m 37 #[rv a1] []) := fun t k => K t (st26 t k)
  have E_a1_27 := (E_a1_25.wr W26)
  have F_taken_a1_28 := ((((((F_taken_a1_5.ext E6).other W11 (Or.inr (sn_cN0_taken_counts hw))).ext E12).other W18 (Or.inr (sn_cN0_taken_values hw))).ext E19).other W26 (Or.inr (sn_cN0_taken_types hw)))
  have F_counts_a1_29 := ((((F_counts_a1_11.ext E12).other W18 (Or.inr (sn_cN0_counts_values hw))).ext E19).other W26 (Or.inr (sn_cN0_counts_types hw)))
  have F_met_a1_30 := ((((((((F_met_a1.ext E2).other W5 (Or.inr (sn_cN0_met_taken hw))).ext E6).other W11 (Or.inr (sn_cN0_met_counts hw))).ext E12).other W18 (Or.inr (sn_cN0_met_values hw))).ext E19).other W26 (Or.inr (sn_cN0_met_types hw)))
  have F_repeated_a1_31 := ((((((((F_repeated_a1.ext E2).other W5 (Or.inr (sn_cN0_repeated_taken hw))).ext E6).other W11 (Or.inr (sn_cN0_repeated_counts hw))).ext E12).other W18 (Or.inr (sn_cN0_repeated_values hw))).ext E19).other W26 (Or.inr (sn_cN0_repeated_types hw)))
  have F_branches_a1_32 := ((((((((F_branches_a1.ext E2).other W5 (Or.inr (sn_cN0_branches_taken hw))).ext E6).other W11 (Or.inr (sn_cN0_branches_counts hw))).ext E12).other W18 (Or.inr (sn_cN0_branches_values hw))).ext E19).other W26 (Or.inr (sn_cN0_branches_types hw)))
  have F_computed_a1_33 := ((((((((F_computed_a1.ext E2).other W5 (Or.inr (sn_cN0_computed_taken hw))).ext E6).other W11 (Or.inr (sn_cN0_computed_counts hw))).ext E12).other W18 (Or.inr (sn_cN0_computed_values hw))).ext E19).other W26 (Or.inr (sn_cN0_computed_types hw)))
  have V_b2_34 := (((((((V_b2.other W5 (Ne.symm ne_a1_b2)).ext E6).other W11 (Ne.symm ne_a1_b2)).ext E12).other W18 (Ne.symm ne_a1_b2)).ext E19).other W26 (Ne.symm ne_a1_b2))
  have V_b6_35 := (((((V_b6.other W11 (Ne.symm ne_a1_b6)).ext E12).other W18 (Ne.symm ne_a1_b6)).ext E19).other W26 (Ne.symm ne_a1_b6))
  obtain ⟨fs, hr, hrun, hended, hW, hsame⟩ := X26.leave (v := none) (fun _ => rfl)
  subst hA0
  refine ⟨_, _, K _ (X26.returnOut hx Bd.returns (hb hby d2_37) hr), hrun, hended, _, _, rfl, ?_, ⟨_, rfl⟩, hW, hsame.mono (by decide) (by decide)⟩
  show Q_init Z a1 h0 n0 _ T26.heap _
  rw [e26]
  exact ⟨rfl, N26, b2, b6, k2, k6, Kp26, sz_b2, sz_b6, ne_b2_b6, E_a1_27, F_taken_a1_28, F_counts_a1_29, F_met_a1_30, F_repeated_a1_31, F_branches_a1_32, F_computed_a1_33, V_b2_34, V_b6_35⟩
theorem ef_4 (m : MethodId) (x0 : Addr) : entryFrame m #[(.ref x0)] 1 = mkF m 0 #[.val (.ref x0)] [] := by first | (simp [entryFrame, mkF, argsToLocals, Value.category]; done) | rfl
theorem d4_0 : decode prog_72_method_2_code 0 = .ok (.aload_n 0, 1) := by decide +kernel
theorem d4_1 : decode prog_72_method_2_code 1 = .ok (.iconst 0, 1) := by decide +kernel
theorem d4_2 : decode prog_72_method_2_code 2 = .ok (.putfield 25, 3) := by decide +kernel
theorem d4_5 : decode prog_72_method_2_code 5 = .ok (.aload_n 0, 1) := by decide +kernel
theorem d4_6 : decode prog_72_method_2_code 6 = .ok (.iconst 0, 1) := by decide +kernel
theorem d4_7 : decode prog_72_method_2_code 7 = .ok (.putfield 29, 3) := by decide +kernel
theorem sn_cN0_repeated_met {a0 : Array Value} {Z : State} (hw : ∀ d ∈ tables_1, d.before a0 Z = true) : Jvm.RoadKit.slotOf Z cN0 "repeated" "I" ≠ Jvm.RoadKit.slotOf Z cN0 "met" "I" := slot_ne (Or.inl (ow hw 33 rfl)) (Or.inl (ow hw 31 rfl)) (by decide) (t := .int) (t' := .int) (by decide) (by decide)
theorem d4_10 : decode prog_72_method_2_code 10 = .ok (.aload_n 0, 1) := by decide +kernel
theorem d4_11 : decode prog_72_method_2_code 11 = .ok (.iconst 1, 1) := by decide +kernel
theorem d4_12 : decode prog_72_method_2_code 12 = .ok (.putfield 32, 3) := by decide +kernel
theorem sn_cN0_branches_met {a0 : Array Value} {Z : State} (hw : ∀ d ∈ tables_1, d.before a0 Z = true) : Jvm.RoadKit.slotOf Z cN0 "branches" "I" ≠ Jvm.RoadKit.slotOf Z cN0 "met" "I" := slot_ne (Or.inl (ow hw 35 rfl)) (Or.inl (ow hw 31 rfl)) (by decide) (t := .int) (t' := .int) (by decide) (by decide)
theorem sn_cN0_branches_repeated {a0 : Array Value} {Z : State} (hw : ∀ d ∈ tables_1, d.before a0 Z = true) : Jvm.RoadKit.slotOf Z cN0 "branches" "I" ≠ Jvm.RoadKit.slotOf Z cN0 "repeated" "I" := slot_ne (Or.inl (ow hw 35 rfl)) (Or.inl (ow hw 33 rfl)) (by decide) (t := .int) (t' := .int) (by decide) (by decide)
theorem d4_15 : decode prog_72_method_2_code 15 = .ok (.aload_n 0, 1) := by decide +kernel
theorem d4_16 : decode prog_72_method_2_code 16 = .ok (.iconst 0, 1) := by decide +kernel
theorem d4_17 : decode prog_72_method_2_code 17 = .ok (.putfield 35, 3) := by decide +kernel
theorem sn_cN0_computed_met {a0 : Array Value} {Z : State} (hw : ∀ d ∈ tables_1, d.before a0 Z = true) : Jvm.RoadKit.slotOf Z cN0 "computed" "I" ≠ Jvm.RoadKit.slotOf Z cN0 "met" "I" := slot_ne (Or.inl (ow hw 37 rfl)) (Or.inl (ow hw 31 rfl)) (by decide) (t := .int) (t' := .int) (by decide) (by decide)
theorem sn_cN0_computed_repeated {a0 : Array Value} {Z : State} (hw : ∀ d ∈ tables_1, d.before a0 Z = true) : Jvm.RoadKit.slotOf Z cN0 "computed" "I" ≠ Jvm.RoadKit.slotOf Z cN0 "repeated" "I" := slot_ne (Or.inl (ow hw 37 rfl)) (Or.inl (ow hw 33 rfl)) (by decide) (t := .int) (t' := .int) (by decide) (by decide)
theorem sn_cN0_computed_branches {a0 : Array Value} {Z : State} (hw : ∀ d ∈ tables_1, d.before a0 Z = true) : Jvm.RoadKit.slotOf Z cN0 "computed" "I" ≠ Jvm.RoadKit.slotOf Z cN0 "branches" "I" := slot_ne (Or.inl (ow hw 37 rfl)) (Or.inl (ow hw 35 rfl)) (by decide) (t := .int) (t' := .int) (by decide) (by decide)
theorem d4_20 : decode prog_72_method_2_code 20 = .ok (.return_, 1) := by decide +kernel
theorem sn_cN0_taken_met {a0 : Array Value} {Z : State} (hw : ∀ d ∈ tables_1, d.before a0 Z = true) : Jvm.RoadKit.slotOf Z cN0 "taken" "[I" ≠ Jvm.RoadKit.slotOf Z cN0 "met" "I" := slot_ne (Or.inl (ow hw 16 rfl)) (Or.inl (ow hw 31 rfl)) (by decide) (t := (.array .int)) (t' := .int) (by decide) (by decide)
theorem sn_cN0_taken_repeated {a0 : Array Value} {Z : State} (hw : ∀ d ∈ tables_1, d.before a0 Z = true) : Jvm.RoadKit.slotOf Z cN0 "taken" "[I" ≠ Jvm.RoadKit.slotOf Z cN0 "repeated" "I" := slot_ne (Or.inl (ow hw 16 rfl)) (Or.inl (ow hw 33 rfl)) (by decide) (t := (.array .int)) (t' := .int) (by decide) (by decide)
theorem sn_cN0_taken_branches {a0 : Array Value} {Z : State} (hw : ∀ d ∈ tables_1, d.before a0 Z = true) : Jvm.RoadKit.slotOf Z cN0 "taken" "[I" ≠ Jvm.RoadKit.slotOf Z cN0 "branches" "I" := slot_ne (Or.inl (ow hw 16 rfl)) (Or.inl (ow hw 35 rfl)) (by decide) (t := (.array .int)) (t' := .int) (by decide) (by decide)
theorem sn_cN0_taken_computed {a0 : Array Value} {Z : State} (hw : ∀ d ∈ tables_1, d.before a0 Z = true) : Jvm.RoadKit.slotOf Z cN0 "taken" "[I" ≠ Jvm.RoadKit.slotOf Z cN0 "computed" "I" := slot_ne (Or.inl (ow hw 16 rfl)) (Or.inl (ow hw 37 rfl)) (by decide) (t := (.array .int)) (t' := .int) (by decide) (by decide)
theorem sn_cN0_counts_met {a0 : Array Value} {Z : State} (hw : ∀ d ∈ tables_1, d.before a0 Z = true) : Jvm.RoadKit.slotOf Z cN0 "counts" "[I" ≠ Jvm.RoadKit.slotOf Z cN0 "met" "I" := slot_ne (Or.inl (ow hw 18 rfl)) (Or.inl (ow hw 31 rfl)) (by decide) (t := (.array .int)) (t' := .int) (by decide) (by decide)
theorem sn_cN0_counts_repeated {a0 : Array Value} {Z : State} (hw : ∀ d ∈ tables_1, d.before a0 Z = true) : Jvm.RoadKit.slotOf Z cN0 "counts" "[I" ≠ Jvm.RoadKit.slotOf Z cN0 "repeated" "I" := slot_ne (Or.inl (ow hw 18 rfl)) (Or.inl (ow hw 33 rfl)) (by decide) (t := (.array .int)) (t' := .int) (by decide) (by decide)
theorem sn_cN0_counts_branches {a0 : Array Value} {Z : State} (hw : ∀ d ∈ tables_1, d.before a0 Z = true) : Jvm.RoadKit.slotOf Z cN0 "counts" "[I" ≠ Jvm.RoadKit.slotOf Z cN0 "branches" "I" := slot_ne (Or.inl (ow hw 18 rfl)) (Or.inl (ow hw 35 rfl)) (by decide) (t := (.array .int)) (t' := .int) (by decide) (by decide)
theorem sn_cN0_counts_computed {a0 : Array Value} {Z : State} (hw : ∀ d ∈ tables_1, d.before a0 Z = true) : Jvm.RoadKit.slotOf Z cN0 "counts" "[I" ≠ Jvm.RoadKit.slotOf Z cN0 "computed" "I" := slot_ne (Or.inl (ow hw 18 rfl)) (Or.inl (ow hw 37 rfl)) (by decide) (t := (.array .int)) (t' := .int) (by decide) (by decide)
theorem sn_cN0_met_repeated {a0 : Array Value} {Z : State} (hw : ∀ d ∈ tables_1, d.before a0 Z = true) : Jvm.RoadKit.slotOf Z cN0 "met" "I" ≠ Jvm.RoadKit.slotOf Z cN0 "repeated" "I" := slot_ne (Or.inl (ow hw 31 rfl)) (Or.inl (ow hw 33 rfl)) (by decide) (t := .int) (t' := .int) (by decide) (by decide)
theorem sn_cN0_met_branches {a0 : Array Value} {Z : State} (hw : ∀ d ∈ tables_1, d.before a0 Z = true) : Jvm.RoadKit.slotOf Z cN0 "met" "I" ≠ Jvm.RoadKit.slotOf Z cN0 "branches" "I" := slot_ne (Or.inl (ow hw 31 rfl)) (Or.inl (ow hw 35 rfl)) (by decide) (t := .int) (t' := .int) (by decide) (by decide)
theorem sn_cN0_met_computed {a0 : Array Value} {Z : State} (hw : ∀ d ∈ tables_1, d.before a0 Z = true) : Jvm.RoadKit.slotOf Z cN0 "met" "I" ≠ Jvm.RoadKit.slotOf Z cN0 "computed" "I" := slot_ne (Or.inl (ow hw 31 rfl)) (Or.inl (ow hw 37 rfl)) (by decide) (t := .int) (t' := .int) (by decide) (by decide)
theorem sn_cN0_repeated_branches {a0 : Array Value} {Z : State} (hw : ∀ d ∈ tables_1, d.before a0 Z = true) : Jvm.RoadKit.slotOf Z cN0 "repeated" "I" ≠ Jvm.RoadKit.slotOf Z cN0 "branches" "I" := slot_ne (Or.inl (ow hw 33 rfl)) (Or.inl (ow hw 35 rfl)) (by decide) (t := .int) (t' := .int) (by decide) (by decide)
theorem sn_cN0_repeated_computed {a0 : Array Value} {Z : State} (hw : ∀ d ∈ tables_1, d.before a0 Z = true) : Jvm.RoadKit.slotOf Z cN0 "repeated" "I" ≠ Jvm.RoadKit.slotOf Z cN0 "computed" "I" := slot_ne (Or.inl (ow hw 33 rfl)) (Or.inl (ow hw 37 rfl)) (by decide) (t := .int) (t' := .int) (by decide) (by decide)
theorem sn_cN0_branches_computed {a0 : Array Value} {Z : State} (hw : ∀ d ∈ tables_1, d.before a0 Z = true) : Jvm.RoadKit.slotOf Z cN0 "branches" "I" ≠ Jvm.RoadKit.slotOf Z cN0 "computed" "I" := slot_ne (Or.inl (ow hw 35 rfl)) (Or.inl (ow hw 37 rfl)) (by decide) (t := .int) (t' := .int) (by decide) (by decide)
def Q_begin (Z : State) (a1 : Addr) (ta : Addr) (ca : Addr) (kt : ClassId) (kc : ClassId) (h0 : Heap) (n0 : Nat) (v : Option Value) (h : Heap) (L : List Loc) : Prop := v = none ∧ Fr n0 L ∧ Keep h0 h [a1] ∧ Exa Z h a1 cN0 ∧ Fld Z h a1 cN0 "taken" "[I" (.ref ta) ∧ Fld Z h a1 cN0 "counts" "[I" (.ref ca) ∧ Fld Z h a1 cN0 "met" "I" (.int (0 : Int32)) ∧ Fld Z h a1 cN0 "repeated" "I" (.int (0 : Int32)) ∧ Fld Z h a1 cN0 "branches" "I" (.int (1 : Int32)) ∧ Fld Z h a1 cN0 "computed" "I" (.int (0 : Int32))
set_option maxRecDepth 65536 in
set_option maxHeartbeats 40000000 in
theorem rm_begin (l : Launch) (Z : State) (a0 : Array Value) (hw : ∀ d ∈ tables_1, d.before a0 Z = true) (ws : List Jvm.Cond) (a1 : Addr) (ta : Addr) (ca : Addr) (kt : ClassId) (kc : ClassId) (h0 : Heap) (n0 : Nat) (Z0 : n0 ≤ h0.size) (E_a1 : Exa Z h0 a1 cN0) (F_taken_a1 : Fld Z h0 a1 cN0 "taken" "[I" (.ref ta)) (F_counts_a1 : Fld Z h0 a1 cN0 "counts" "[I" (.ref ca)) (F_met_a1 : Fld Z h0 a1 cN0 "met" "I" (.int (0 : Int32))) (F_repeated_a1 : Fld Z h0 a1 cN0 "repeated" "I" (.int (0 : Int32))) (F_branches_a1 : Fld Z h0 a1 cN0 "branches" "I" (.int (0 : Int32))) (F_computed_a1 : Fld Z h0 a1 cN0 "computed" "I" (.int (0 : Int32))) (V_ta : OAr Z h0 ta kt .int (oA8 (0 : Int32) (0 : Int32))) (V_ca : OAr Z h0 ca kc .int (oA8 (0 : Int32) (0 : Int32))) (g_a1 : n0 ≤ a1) (ne_a1_ta : a1 ≠ ta) (ne_a1_ca : a1 ≠ ca) :
    MetFree l mN3 (head1 (Jvm.Cond.code mN3 prog_72_method_2_code 1 none :: ws) ({ frames := 0, cells := 0, slots := 0, locals := 0 } : Room)) (fun a U => a = #[(.ref a1)] ∧ Z.Warmed39 U.vm ∧ U.heap = h0) (fun _ _ _ _ _ => True) (fun _ U o U' => ∃ v L, o = .returned v ∧ Q_begin Z a1 ta ca kt kc h0 n0 v U'.heap L ∧ FrameEnd U o U' L ({ frames := 0, cells := 0, slots := 0, locals := 0 } : Room).cells ({ frames := 0, cells := 0, slots := 0, locals := 0 } : Room).slots) := by
  refine MetFree.of_bodySF (plainFor_of_name pn_com_example_flote_flote_program_Choices) hisR ?_
  intro p e s m args below meth c s₁ Bd hml0 hP hK
  obtain ⟨rfl, hZ, hh⟩ := hP
  have hx := Bd.exec
  have hby := Bd.bytes
  have hml : c.maxLocals = 1 := hml0
  have hown : s.vm.findClass "com/example/flote/flote/program/Choices" = some m.cls := findClass_of_methodNamed Bd.named
  have hnm := (name_of_methodNamed Bd.named Bd.method).1
  have X0 : Stand p l e ({ frames := 0, cells := 0, slots := 0, locals := 0 } : Room) s m #[(.ref a1)] below meth c s₁ [] 0 0 := Stand.of_body Bd
  have e0 : s₁.heap = h0 := by rw [← hh, Bd.state]; rfl
  have N0 := Fr.nil n0
  obtain ⟨A0, hA0⟩ : ∃ z, z = s₁.setTop (entryFrame m #[(.ref a1)] 1) := ⟨_, rfl⟩
  have K : OGo p e below A0 s₁ (mkF m 0 #[rv a1] []) := fun t k => hA0 ▸ castTop (ef_4 m a1) k
  replace K : OGo p e below A0 s₁ (mkF m 1 #[rv a1] [(.ref a1)]) := fun t k => K t (XS.aloadN X0.here hx rfl (hb hby d4_0) rfl rfl k)
  replace K : OGo p e below A0 s₁ (mkF m 2 #[rv a1] [(.int 0), (.ref a1)]) := fun t k => K t (XS.iconst X0.here hx rfl (hb hby d4_1) k)
  obtain ⟨T1, h1, X1, e1, W1, st1⟩ := putF X0 hx hZ hown (host := "") (Or.inl (ow hw 30 rfl)) Via.refl e0 F_met_a1 E_a1 (Or.inl (ow hw 31 rfl)) (ow hw 6 rfl) (ty := .int) (by decide) rfl rfl (g := (mkF m 2 #[rv a1] [(.int 0), (.ref a1)])) rfl rfl (hb hby d4_2)
  have Z1 : n0 ≤ h1.size := Nat.le_trans Z0 (Keep.of_wr W1).1
  have Kp1 : Keep h0 h1 [a1] := (Keep.refl h0 [a1]).wr W1 (Or.inl (List.mem_of_getElem? (i := 0) rfl))
  have F_met_a1_1 := F_met_a1.same W1
  have N1 := Fr.snoc X1 N0 g_a1
  replace K : OGo p e below A0 T1 (mkF m 5 #[rv a1] []) := fun t k => K t (st1 t k)
  replace K : OGo p e below A0 T1 (mkF m 6 #[rv a1] [(.ref a1)]) := fun t k => K t (XS.aloadN X1.here hx rfl (hb hby d4_5) rfl rfl k)
  replace K : OGo p e below A0 T1 (mkF m 7 #[rv a1] [(.int 0), (.ref a1)]) := fun t k => K t (XS.iconst X1.here hx rfl (hb hby d4_6) k)
  have F_repeated_a1_2 := (F_repeated_a1.other W1 (Or.inr (sn_cN0_repeated_met hw)))
  have E_a1_3 := (E_a1.wr W1)
  obtain ⟨T4, h4, X4, e4, W4, st4⟩ := putF X1 hx hZ hown (host := "") (Or.inl (ow hw 32 rfl)) Via.refl e1 F_repeated_a1_2 E_a1_3 (Or.inl (ow hw 33 rfl)) (ow hw 6 rfl) (ty := .int) (by decide) rfl rfl (g := (mkF m 7 #[rv a1] [(.int 0), (.ref a1)])) rfl rfl (hb hby d4_7)
  have Z4 : n0 ≤ h4.size := Nat.le_trans Z1 (Keep.of_wr W4).1
  have Kp4 : Keep h0 h4 [a1] := Kp1.wr W4 (Or.inl (List.mem_of_getElem? (i := 0) rfl))
  have F_repeated_a1_4 := F_repeated_a1_2.same W4
  have N4 := Fr.snoc X4 N1 g_a1
  replace K : OGo p e below A0 T4 (mkF m 10 #[rv a1] []) := fun t k => K t (st4 t k)
  replace K : OGo p e below A0 T4 (mkF m 11 #[rv a1] [(.ref a1)]) := fun t k => K t (XS.aloadN X4.here hx rfl (hb hby d4_10) rfl rfl k)
  replace K : OGo p e below A0 T4 (mkF m 12 #[rv a1] [(.int 1), (.ref a1)]) := fun t k => K t (XS.iconst X4.here hx rfl (hb hby d4_11) k)
  have F_branches_a1_5 := ((F_branches_a1.other W1 (Or.inr (sn_cN0_branches_met hw))).other W4 (Or.inr (sn_cN0_branches_repeated hw)))
  have E_a1_6 := (E_a1_3.wr W4)
  obtain ⟨T7, h7, X7, e7, W7, st7⟩ := putF X4 hx hZ hown (host := "") (Or.inl (ow hw 34 rfl)) Via.refl e4 F_branches_a1_5 E_a1_6 (Or.inl (ow hw 35 rfl)) (ow hw 6 rfl) (ty := .int) (by decide) rfl rfl (g := (mkF m 12 #[rv a1] [(.int 1), (.ref a1)])) rfl rfl (hb hby d4_12)
  have Z7 : n0 ≤ h7.size := Nat.le_trans Z4 (Keep.of_wr W7).1
  have Kp7 : Keep h0 h7 [a1] := Kp4.wr W7 (Or.inl (List.mem_of_getElem? (i := 0) rfl))
  have F_branches_a1_7 := F_branches_a1_5.same W7
  have N7 := Fr.snoc X7 N4 g_a1
  replace K : OGo p e below A0 T7 (mkF m 15 #[rv a1] []) := fun t k => K t (st7 t k)
  replace K : OGo p e below A0 T7 (mkF m 16 #[rv a1] [(.ref a1)]) := fun t k => K t (XS.aloadN X7.here hx rfl (hb hby d4_15) rfl rfl k)
  replace K : OGo p e below A0 T7 (mkF m 17 #[rv a1] [(.int 0), (.ref a1)]) := fun t k => K t (XS.iconst X7.here hx rfl (hb hby d4_16) k)
  have F_computed_a1_8 := (((F_computed_a1.other W1 (Or.inr (sn_cN0_computed_met hw))).other W4 (Or.inr (sn_cN0_computed_repeated hw))).other W7 (Or.inr (sn_cN0_computed_branches hw)))
  have E_a1_9 := (E_a1_6.wr W7)
  obtain ⟨T10, h10, X10, e10, W10, st10⟩ := putF X7 hx hZ hown (host := "") (Or.inl (ow hw 36 rfl)) Via.refl e7 F_computed_a1_8 E_a1_9 (Or.inl (ow hw 37 rfl)) (ow hw 6 rfl) (ty := .int) (by decide) rfl rfl (g := (mkF m 17 #[rv a1] [(.int 0), (.ref a1)])) rfl rfl (hb hby d4_17)
  have Z10 : n0 ≤ h10.size := Nat.le_trans Z7 (Keep.of_wr W10).1
  have Kp10 : Keep h0 h10 [a1] := Kp7.wr W10 (Or.inl (List.mem_of_getElem? (i := 0) rfl))
  have F_computed_a1_10 := F_computed_a1_8.same W10
  have N10 := Fr.snoc X10 N7 g_a1
  replace K : OGo p e below A0 T10 (mkF m 20 #[rv a1] []) := fun t k => K t (st10 t k)
  have E_a1_11 := (E_a1_9.wr W10)
  have F_taken_a1_12 := ((((F_taken_a1.other W1 (Or.inr (sn_cN0_taken_met hw))).other W4 (Or.inr (sn_cN0_taken_repeated hw))).other W7 (Or.inr (sn_cN0_taken_branches hw))).other W10 (Or.inr (sn_cN0_taken_computed hw)))
  have F_counts_a1_13 := ((((F_counts_a1.other W1 (Or.inr (sn_cN0_counts_met hw))).other W4 (Or.inr (sn_cN0_counts_repeated hw))).other W7 (Or.inr (sn_cN0_counts_branches hw))).other W10 (Or.inr (sn_cN0_counts_computed hw)))
  have F_met_a1_14 := (((F_met_a1_1.other W4 (Or.inr (sn_cN0_met_repeated hw))).other W7 (Or.inr (sn_cN0_met_branches hw))).other W10 (Or.inr (sn_cN0_met_computed hw)))
  have F_repeated_a1_15 := ((F_repeated_a1_4.other W7 (Or.inr (sn_cN0_repeated_branches hw))).other W10 (Or.inr (sn_cN0_repeated_computed hw)))
  have F_branches_a1_16 := (F_branches_a1_7.other W10 (Or.inr (sn_cN0_branches_computed hw)))
  obtain ⟨fs, hr, hrun, hended, hW, hsame⟩ := X10.leave (v := none) (fun _ => rfl)
  subst hA0
  refine ⟨_, _, K _ (X10.returnOut hx Bd.returns (hb hby d4_20) hr), hrun, hended, _, _, rfl, ?_, ⟨_, rfl⟩, hW, hsame.mono (by decide) (by decide)⟩
  show Q_begin Z a1 ta ca kt kc h0 n0 _ T10.heap _
  rw [e10]
  exact ⟨rfl, N10, Kp10, E_a1_11, F_taken_a1_12, F_counts_a1_13, F_met_a1_14, F_repeated_a1_15, F_branches_a1_16, F_computed_a1_10⟩
theorem ef_6 (m : MethodId) (x0 : Addr) (x1 : Int32) : entryFrame m #[(.ref x0), (.int x1)] 2 = mkF m 0 #[.val (.ref x0), .val (.int x1)] [] := by first | (simp [entryFrame, mkF, argsToLocals, Value.category]; done) | rfl
theorem d6_0 : decode prog_72_method_3_code 0 = .ok (.iload_n 1, 1) := by decide +kernel
theorem d6_1 : decode prog_72_method_3_code 1 = .ok (.iconst 1, 1) := by decide +kernel
theorem d6_2 : decode prog_72_method_3_code 2 = .ok (.if_icmp .ne 5, 3) := by decide +kernel
theorem d6_5 : decode prog_72_method_3_code 5 = .ok (.iconst 0, 1) := by decide +kernel
theorem d6_6 : decode prog_72_method_3_code 6 = .ok (.ireturn, 1) := by decide +kernel
def Q_choose1 (Z : State) (a1 : Addr) (h0 : Heap) (n0 : Nat) (v : Option Value) (h : Heap) (L : List Loc) : Prop := v = some (.int (0 : Int32)) ∧ Fr n0 L ∧ h = h0
set_option maxRecDepth 65536 in
set_option maxHeartbeats 40000000 in
theorem rm_choose1 (l : Launch) (Z : State) (a0 : Array Value) (hw : ∀ d ∈ tables_1, d.before a0 Z = true) (ws : List Jvm.Cond) (a1 : Addr) (h0 : Heap) (n0 : Nat) (Z0 : n0 ≤ h0.size) :
    MetFree l mN4 (head1 (Jvm.Cond.code mN4 prog_72_method_3_code 2 (some .int) :: ws) ({ frames := 0, cells := 0, slots := 0, locals := 0 } : Room)) (fun a U => a = #[(.ref a1), (.int (1 : Int32))] ∧ Z.Warmed39 U.vm ∧ U.heap = h0) (fun _ _ _ _ _ => True) (fun _ U o U' => ∃ v L, o = .returned v ∧ Q_choose1 Z a1 h0 n0 v U'.heap L ∧ FrameEnd U o U' L ({ frames := 0, cells := 0, slots := 0, locals := 0 } : Room).cells ({ frames := 0, cells := 0, slots := 0, locals := 0 } : Room).slots) := by
  refine MetFree.of_bodySF (plainFor_of_name pn_com_example_flote_flote_program_Choices) hisR ?_
  intro p e s m args below meth c s₁ Bd hml0 hP hK
  obtain ⟨rfl, hZ, hh⟩ := hP
  have hx := Bd.exec
  have hby := Bd.bytes
  have hml : c.maxLocals = 2 := hml0
  have hown : s.vm.findClass "com/example/flote/flote/program/Choices" = some m.cls := findClass_of_methodNamed Bd.named
  have hnm := (name_of_methodNamed Bd.named Bd.method).1
  have X0 : Stand p l e ({ frames := 0, cells := 0, slots := 0, locals := 0 } : Room) s m #[(.ref a1), (.int (1 : Int32))] below meth c s₁ [] 0 0 := Stand.of_body Bd
  have e0 : s₁.heap = h0 := by rw [← hh, Bd.state]; rfl
  have N0 := Fr.nil n0
  obtain ⟨A0, hA0⟩ : ∃ z, z = s₁.setTop (entryFrame m #[(.ref a1), (.int (1 : Int32))] 2) := ⟨_, rfl⟩
  have K : OGo p e below A0 s₁ (mkF m 0 #[rv a1, iv 1] []) := fun t k => hA0 ▸ castTop (ef_6 m a1 (1 : Int32)) k
  replace K : OGo p e below A0 s₁ (mkF m 1 #[rv a1, iv 1] [(.int 1)]) := fun t k => K t (XS.iloadN X0.here hx rfl (hb hby d6_0) rfl k)
  replace K : OGo p e below A0 s₁ (mkF m 2 #[rv a1, iv 1] [(.int 1), (.int 1)]) := fun t k => K t (XS.iconst X0.here hx rfl (hb hby d6_1) k)
  replace K : OGo p e below A0 s₁ (mkF m 5 #[rv a1, iv 1] []) := fun t k => K t (XS.icmpNo X0.here hx rfl (hb hby d6_2) rfl (teq ((by decide : (1 : Int32) = (1 : Int32)) : (1 : Int32) = (1 : Int32))).2 k)
  replace K : OGo p e below A0 s₁ (mkF m 6 #[rv a1, iv 1] [(.int 0)]) := fun t k => K t (XS.iconst X0.here hx rfl (hb hby d6_5) k)
  obtain ⟨fs, hr, hrun, hended, hW, hsame⟩ := X0.leave (v := some (.int (0 : Int32))) (fun h => by rw [Bd.returns] at h; cases h)
  subst hA0
  refine ⟨_, _, K _ (retOut X0 hx Bd.returns rfl (Or.inl ⟨rfl, Or.inl rfl, _, rfl⟩) (hb hby d6_6) hr), hrun, hended, _, _, rfl, ?_, ⟨_, rfl⟩, hW, hsame.mono (by decide) (by decide)⟩
  show Q_choose1 Z a1 h0 n0 _ s₁.heap _
  rw [e0]
  exact ⟨rfl, N0, rfl⟩
theorem d6_7 : decode prog_72_method_3_code 7 = .ok (.aload_n 0, 1) := by decide +kernel
theorem d6_8 : decode prog_72_method_3_code 8 = .ok (.getfield 25, 3) := by decide +kernel
theorem d6_11 : decode prog_72_method_3_code 11 = .ok (.aload_n 0, 1) := by decide +kernel
theorem d6_12 : decode prog_72_method_3_code 12 = .ok (.getfield 7, 3) := by decide +kernel
theorem d6_15 : decode prog_72_method_3_code 15 = .ok (.arraylength, 1) := by decide +kernel
theorem d6_16 : decode prog_72_method_3_code 16 = .ok (.if_icmp .ne 37, 3) := by decide +kernel
theorem d6_53 : decode prog_72_method_3_code 53 = .ok (.aload_n 0, 1) := by decide +kernel
theorem d6_54 : decode prog_72_method_3_code 54 = .ok (.getfield 25, 3) := by decide +kernel
theorem d6_57 : decode prog_72_method_3_code 57 = .ok (.aload_n 0, 1) := by decide +kernel
theorem d6_58 : decode prog_72_method_3_code 58 = .ok (.getfield 29, 3) := by decide +kernel
theorem d6_61 : decode prog_72_method_3_code 61 = .ok (.if_icmp .lt 23, 3) := by decide +kernel
theorem d6_84 : decode prog_72_method_3_code 84 = .ok (.aload_n 0, 1) := by decide +kernel
theorem d6_85 : decode prog_72_method_3_code 85 = .ok (.getfield 7, 3) := by decide +kernel
theorem d6_88 : decode prog_72_method_3_code 88 = .ok (.aload_n 0, 1) := by decide +kernel
theorem d6_89 : decode prog_72_method_3_code 89 = .ok (.dup, 1) := by decide +kernel
theorem d6_90 : decode prog_72_method_3_code 90 = .ok (.getfield 25, 3) := by decide +kernel
theorem d6_93 : decode prog_72_method_3_code 93 = .ok (.dup_x1, 1) := by decide +kernel
theorem d6_94 : decode prog_72_method_3_code 94 = .ok (.iconst 1, 1) := by decide +kernel
theorem d6_95 : decode prog_72_method_3_code 95 = .ok (.iadd, 1) := by decide +kernel
theorem d6_96 : decode prog_72_method_3_code 96 = .ok (.putfield 25, 3) := by decide +kernel
theorem d6_99 : decode prog_72_method_3_code 99 = .ok (.iaload, 1) := by decide +kernel
theorem d6_100 : decode prog_72_method_3_code 100 = .ok (.ireturn, 1) := by decide +kernel
def Q_chooseR01 (Z : State) (a1 : Addr) (p1 : Int32) (ta : Addr) (ca : Addr) (kt : ClassId) (kc : ClassId) (t0 : Int32) (t1 : Int32) (c0 : Int32) (c1 : Int32) (br : Int32) (co : Int32) (h0 : Heap) (n0 : Nat) (v : Option Value) (h : Heap) (L : List Loc) : Prop := v = some (.int t0) ∧ Fr n0 L ∧ Keep h0 h [a1, ta, ca] ∧ Exa Z h a1 cN0 ∧ Fld Z h a1 cN0 "taken" "[I" (.ref ta) ∧ Fld Z h a1 cN0 "counts" "[I" (.ref ca) ∧ Fld Z h a1 cN0 "met" "I" (.int (1 : Int32)) ∧ Fld Z h a1 cN0 "repeated" "I" (.int (1 : Int32)) ∧ Fld Z h a1 cN0 "branches" "I" (.int br) ∧ Fld Z h a1 cN0 "computed" "I" (.int co) ∧ OAr Z h ta kt .int (oA8 t0 t1) ∧ OAr Z h ca kc .int (oA8 c0 c1)
set_option maxRecDepth 65536 in
set_option maxHeartbeats 40000000 in
theorem rm_chooseR01 (l : Launch) (Z : State) (a0 : Array Value) (hw : ∀ d ∈ tables_1, d.before a0 Z = true) (ws : List Jvm.Cond) (a1 : Addr) (p1 : Int32) (ta : Addr) (ca : Addr) (kt : ClassId) (kc : ClassId) (t0 : Int32) (t1 : Int32) (c0 : Int32) (c1 : Int32) (br : Int32) (co : Int32) (h0 : Heap) (n0 : Nat) (Z0 : n0 ≤ h0.size) (E_a1 : Exa Z h0 a1 cN0) (F_taken_a1 : Fld Z h0 a1 cN0 "taken" "[I" (.ref ta)) (F_counts_a1 : Fld Z h0 a1 cN0 "counts" "[I" (.ref ca)) (F_met_a1 : Fld Z h0 a1 cN0 "met" "I" (.int (0 : Int32))) (F_repeated_a1 : Fld Z h0 a1 cN0 "repeated" "I" (.int (1 : Int32))) (F_branches_a1 : Fld Z h0 a1 cN0 "branches" "I" (.int br)) (F_computed_a1 : Fld Z h0 a1 cN0 "computed" "I" (.int co)) (V_ta : OAr Z h0 ta kt .int (oA8 t0 t1)) (V_ca : OAr Z h0 ca kc .int (oA8 c0 c1)) (g_a1 : n0 ≤ a1) (g_ta : n0 ≤ ta) (g_ca : n0 ≤ ca) (ne_a1_ta : a1 ≠ ta) (ne_a1_ca : a1 ≠ ca) (ne_ta_ca : ta ≠ ca) (hp : ¬ p1 = (1 : Int32)) :
    MetFree l mN4 (head1 (Jvm.Cond.code mN4 prog_72_method_3_code 2 (some .int) :: ws) ({ frames := 0, cells := 0, slots := 0, locals := 0 } : Room)) (fun a U => a = #[(.ref a1), (.int p1)] ∧ Z.Warmed39 U.vm ∧ U.heap = h0) (fun _ _ _ _ _ => True) (fun _ U o U' => ∃ v L, o = .returned v ∧ Q_chooseR01 Z a1 p1 ta ca kt kc t0 t1 c0 c1 br co h0 n0 v U'.heap L ∧ FrameEnd U o U' L ({ frames := 0, cells := 0, slots := 0, locals := 0 } : Room).cells ({ frames := 0, cells := 0, slots := 0, locals := 0 } : Room).slots) := by
  refine MetFree.of_bodySF (plainFor_of_name pn_com_example_flote_flote_program_Choices) hisR ?_
  intro p e s m args below meth c s₁ Bd hml0 hP hK
  obtain ⟨rfl, hZ, hh⟩ := hP
  have hx := Bd.exec
  have hby := Bd.bytes
  have hml : c.maxLocals = 2 := hml0
  have hown : s.vm.findClass "com/example/flote/flote/program/Choices" = some m.cls := findClass_of_methodNamed Bd.named
  have hnm := (name_of_methodNamed Bd.named Bd.method).1
  have X0 : Stand p l e ({ frames := 0, cells := 0, slots := 0, locals := 0 } : Room) s m #[(.ref a1), (.int p1)] below meth c s₁ [] 0 0 := Stand.of_body Bd
  have e0 : s₁.heap = h0 := by rw [← hh, Bd.state]; rfl
  have N0 := Fr.nil n0
  obtain ⟨A0, hA0⟩ : ∃ z, z = s₁.setTop (entryFrame m #[(.ref a1), (.int p1)] 2) := ⟨_, rfl⟩
  have K : OGo p e below A0 s₁ (mkF m 0 #[rv a1, iv p1] []) := fun t k => hA0 ▸ castTop (ef_6 m a1 p1) k
  replace K : OGo p e below A0 s₁ (mkF m 1 #[rv a1, iv p1] [(.int p1)]) := fun t k => K t (XS.iloadN X0.here hx rfl (hb hby d6_0) rfl k)
  replace K : OGo p e below A0 s₁ (mkF m 2 #[rv a1, iv p1] [(.int 1), (.int p1)]) := fun t k => K t (XS.iconst X0.here hx rfl (hb hby d6_1) k)
  replace K : OGo p e below A0 s₁ (mkF m 7 #[rv a1, iv p1] []) := fun t k => K t (XS.icmpYes X0.here hx rfl (pc0 := 2) (pc' := 7) rfl (hb hby d6_2) rfl (feq (hp : ¬ (p1 = (1 : Int32)))).2 (by decide) (by decide) k)
  replace K : OGo p e below A0 s₁ (mkF m 8 #[rv a1, iv p1] [(.ref a1)]) := fun t k => K t (XS.aloadN X0.here hx rfl (hb hby d6_7) rfl rfl k)
  obtain ⟨T1, X1, e1, st1⟩ := getF X0 hx hZ hown (host := "") (Or.inl (ow hw 30 rfl)) Via.refl e0 F_met_a1 (g := (mkF m 8 #[rv a1, iv p1] [(.ref a1)])) rfl rfl (hb hby d6_8)
  replace K : OGo p e below A0 T1 (mkF m 11 #[rv a1, iv p1] [(.int 0)]) := fun t k => K t (st1 t k)
  replace K : OGo p e below A0 T1 (mkF m 12 #[rv a1, iv p1] [(.ref a1), (.int 0)]) := fun t k => K t (XS.aloadN X1.here hx rfl (hb hby d6_11) rfl rfl k)
  obtain ⟨T2, X2, e2, st2⟩ := getF X1 hx hZ hown (host := "") (Or.inl (ow hw 15 rfl)) Via.refl e1 F_taken_a1 (g := (mkF m 12 #[rv a1, iv p1] [(.ref a1), (.int 0)])) rfl rfl (hb hby d6_12)
  replace K : OGo p e below A0 T2 (mkF m 15 #[rv a1, iv p1] [(.ref ta), (.int 0)]) := fun t k => K t (st2 t k)
  replace K : OGo p e below A0 T2 (mkF m 16 #[rv a1, iv p1] [(.int 8), (.int 0)]) := fun t k => K t (own_len X2 hx hZ e2 V_ta (n := (8 : Int32)) rfl (g := (mkF m 15 #[rv a1, iv p1] [(.ref ta), (.int 0)])) rfl rfl (hb hby d6_15) t k)
  replace K : OGo p e below A0 T2 (mkF m 53 #[rv a1, iv p1] []) := fun t k => K t (XS.icmpYes X2.here hx rfl (pc0 := 16) (pc' := 53) rfl (hb hby d6_16) rfl (feq ((by decide : ¬ ((0 : Int32) = (8 : Int32))) : ¬ ((0 : Int32) = (8 : Int32)))).2 (by decide) (by decide) k)
  replace K : OGo p e below A0 T2 (mkF m 54 #[rv a1, iv p1] [(.ref a1)]) := fun t k => K t (XS.aloadN X2.here hx rfl (hb hby d6_53) rfl rfl k)
  obtain ⟨T3, X3, e3, st3⟩ := getF X2 hx hZ hown (host := "") (Or.inl (ow hw 30 rfl)) Via.refl e2 F_met_a1 (g := (mkF m 54 #[rv a1, iv p1] [(.ref a1)])) rfl rfl (hb hby d6_54)
  replace K : OGo p e below A0 T3 (mkF m 57 #[rv a1, iv p1] [(.int 0)]) := fun t k => K t (st3 t k)
  replace K : OGo p e below A0 T3 (mkF m 58 #[rv a1, iv p1] [(.ref a1), (.int 0)]) := fun t k => K t (XS.aloadN X3.here hx rfl (hb hby d6_57) rfl rfl k)
  obtain ⟨T4, X4, e4, st4⟩ := getF X3 hx hZ hown (host := "") (Or.inl (ow hw 32 rfl)) Via.refl e3 F_repeated_a1 (g := (mkF m 58 #[rv a1, iv p1] [(.ref a1), (.int 0)])) rfl rfl (hb hby d6_58)
  replace K : OGo p e below A0 T4 (mkF m 61 #[rv a1, iv p1] [(.int 1), (.int 0)]) := fun t k => K t (st4 t k)
  replace K : OGo p e below A0 T4 (mkF m 84 #[rv a1, iv p1] []) := fun t k => K t (XS.icmpYes X4.here hx rfl (pc0 := 61) (pc' := 84) rfl (hb hby d6_61) rfl (tlt ((by decide : (0 : Int32) < (1 : Int32)) : (0 : Int32) < (1 : Int32))).1 (by decide) (by decide) k)
  replace K : OGo p e below A0 T4 (mkF m 85 #[rv a1, iv p1] [(.ref a1)]) := fun t k => K t (XS.aloadN X4.here hx rfl (hb hby d6_84) rfl rfl k)
  obtain ⟨T5, X5, e5, st5⟩ := getF X4 hx hZ hown (host := "") (Or.inl (ow hw 15 rfl)) Via.refl e4 F_taken_a1 (g := (mkF m 85 #[rv a1, iv p1] [(.ref a1)])) rfl rfl (hb hby d6_85)
  replace K : OGo p e below A0 T5 (mkF m 88 #[rv a1, iv p1] [(.ref ta)]) := fun t k => K t (st5 t k)
  replace K : OGo p e below A0 T5 (mkF m 89 #[rv a1, iv p1] [(.ref a1), (.ref ta)]) := fun t k => K t (XS.aloadN X5.here hx rfl (hb hby d6_88) rfl rfl k)
  replace K : OGo p e below A0 T5 (mkF m 90 #[rv a1, iv p1] [(.ref a1), (.ref a1), (.ref ta)]) := fun t k => K t (XS.dup X5.here hx rfl (hb hby d6_89) rfl rfl k)
  obtain ⟨T6, X6, e6, st6⟩ := getF X5 hx hZ hown (host := "") (Or.inl (ow hw 30 rfl)) Via.refl e5 F_met_a1 (g := (mkF m 90 #[rv a1, iv p1] [(.ref a1), (.ref a1), (.ref ta)])) rfl rfl (hb hby d6_90)
  replace K : OGo p e below A0 T6 (mkF m 93 #[rv a1, iv p1] [(.int 0), (.ref a1), (.ref ta)]) := fun t k => K t (st6 t k)
  replace K : OGo p e below A0 T6 (mkF m 94 #[rv a1, iv p1] [(.int 0), (.ref a1), (.int 0), (.ref ta)]) := fun t k => K t (XS.dupX1 X6.here hx rfl (hb hby d6_93) rfl rfl rfl k)
  replace K : OGo p e below A0 T6 (mkF m 95 #[rv a1, iv p1] [(.int 1), (.int 0), (.ref a1), (.int 0), (.ref ta)]) := fun t k => K t (XS.iconst X6.here hx rfl (hb hby d6_94) k)
  replace K : OGo p e below A0 T6 (mkF m 96 #[rv a1, iv p1] [(.int 1), (.ref a1), (.int 0), (.ref ta)]) := fun t k => K t (XS.iadd X6.here hx rfl (hb hby d6_95) rfl k)
  obtain ⟨T7, h7, X7, e7, W7, st7⟩ := putF X6 hx hZ hown (host := "") (Or.inl (ow hw 30 rfl)) Via.refl e6 F_met_a1 E_a1 (Or.inl (ow hw 31 rfl)) (ow hw 6 rfl) (ty := .int) (by decide) rfl rfl (g := (mkF m 96 #[rv a1, iv p1] [(.int 1), (.ref a1), (.int 0), (.ref ta)])) rfl rfl (hb hby d6_96)
  have Z7 : n0 ≤ h7.size := Nat.le_trans Z0 (Keep.of_wr W7).1
  have Kp7 : Keep h0 h7 [a1, ta, ca] := (Keep.refl h0 [a1, ta, ca]).wr W7 (Or.inl (List.mem_of_getElem? (i := 0) rfl))
  have F_met_a1_7 := F_met_a1.same W7
  have N7 := Fr.snoc X7 N0 g_a1
  replace K : OGo p e below A0 T7 (mkF m 99 #[rv a1, iv p1] [(.int 0), (.ref ta)]) := fun t k => K t (st7 t k)
  have V_ta_8 := (V_ta.other W7 (Ne.symm ne_a1_ta))
  replace K : OGo p e below A0 T7 (mkF m 100 #[rv a1, iv p1] [(.int t0)]) := fun t k => K t (own_ldI X7 hx hZ e7 V_ta_8 (j := (0 : Int32)) (v := (.int t0)) (by decide) rfl (g := (mkF m 99 #[rv a1, iv p1] [(.int 0), (.ref ta)])) rfl rfl (hb hby d6_99) t k)
  have E_a1_9 := (E_a1.wr W7)
  have F_taken_a1_10 := (F_taken_a1.other W7 (Or.inr (sn_cN0_taken_met hw)))
  have F_counts_a1_11 := (F_counts_a1.other W7 (Or.inr (sn_cN0_counts_met hw)))
  have F_repeated_a1_12 := (F_repeated_a1.other W7 (Or.inr (sn_cN0_repeated_met hw)))
  have F_branches_a1_13 := (F_branches_a1.other W7 (Or.inr (sn_cN0_branches_met hw)))
  have F_computed_a1_14 := (F_computed_a1.other W7 (Or.inr (sn_cN0_computed_met hw)))
  have V_ca_15 := (V_ca.other W7 (Ne.symm ne_a1_ca))
  obtain ⟨fs, hr, hrun, hended, hW, hsame⟩ := X7.leave (v := some (.int t0)) (fun h => by rw [Bd.returns] at h; cases h)
  subst hA0
  refine ⟨_, _, K _ (retOut X7 hx Bd.returns rfl (Or.inl ⟨rfl, Or.inl rfl, _, rfl⟩) (hb hby d6_100) hr), hrun, hended, _, _, rfl, ?_, ⟨_, rfl⟩, hW, hsame.mono (by decide) (by decide)⟩
  show Q_chooseR01 Z a1 p1 ta ca kt kc t0 t1 c0 c1 br co h0 n0 _ T7.heap _
  rw [e7]
  exact ⟨rfl, N7, Kp7, E_a1_9, F_taken_a1_10, F_counts_a1_11, F_met_a1_7, F_repeated_a1_12, F_branches_a1_13, F_computed_a1_14, V_ta_8, V_ca_15⟩
def Q_chooseR02 (Z : State) (a1 : Addr) (p1 : Int32) (ta : Addr) (ca : Addr) (kt : ClassId) (kc : ClassId) (t0 : Int32) (t1 : Int32) (c0 : Int32) (c1 : Int32) (br : Int32) (co : Int32) (h0 : Heap) (n0 : Nat) (v : Option Value) (h : Heap) (L : List Loc) : Prop := v = some (.int t0) ∧ Fr n0 L ∧ Keep h0 h [a1, ta, ca] ∧ Exa Z h a1 cN0 ∧ Fld Z h a1 cN0 "taken" "[I" (.ref ta) ∧ Fld Z h a1 cN0 "counts" "[I" (.ref ca) ∧ Fld Z h a1 cN0 "met" "I" (.int (1 : Int32)) ∧ Fld Z h a1 cN0 "repeated" "I" (.int (2 : Int32)) ∧ Fld Z h a1 cN0 "branches" "I" (.int br) ∧ Fld Z h a1 cN0 "computed" "I" (.int co) ∧ OAr Z h ta kt .int (oA8 t0 t1) ∧ OAr Z h ca kc .int (oA8 c0 c1)
set_option maxRecDepth 65536 in
set_option maxHeartbeats 40000000 in
theorem rm_chooseR02 (l : Launch) (Z : State) (a0 : Array Value) (hw : ∀ d ∈ tables_1, d.before a0 Z = true) (ws : List Jvm.Cond) (a1 : Addr) (p1 : Int32) (ta : Addr) (ca : Addr) (kt : ClassId) (kc : ClassId) (t0 : Int32) (t1 : Int32) (c0 : Int32) (c1 : Int32) (br : Int32) (co : Int32) (h0 : Heap) (n0 : Nat) (Z0 : n0 ≤ h0.size) (E_a1 : Exa Z h0 a1 cN0) (F_taken_a1 : Fld Z h0 a1 cN0 "taken" "[I" (.ref ta)) (F_counts_a1 : Fld Z h0 a1 cN0 "counts" "[I" (.ref ca)) (F_met_a1 : Fld Z h0 a1 cN0 "met" "I" (.int (0 : Int32))) (F_repeated_a1 : Fld Z h0 a1 cN0 "repeated" "I" (.int (2 : Int32))) (F_branches_a1 : Fld Z h0 a1 cN0 "branches" "I" (.int br)) (F_computed_a1 : Fld Z h0 a1 cN0 "computed" "I" (.int co)) (V_ta : OAr Z h0 ta kt .int (oA8 t0 t1)) (V_ca : OAr Z h0 ca kc .int (oA8 c0 c1)) (g_a1 : n0 ≤ a1) (g_ta : n0 ≤ ta) (g_ca : n0 ≤ ca) (ne_a1_ta : a1 ≠ ta) (ne_a1_ca : a1 ≠ ca) (ne_ta_ca : ta ≠ ca) (hp : ¬ p1 = (1 : Int32)) :
    MetFree l mN4 (head1 (Jvm.Cond.code mN4 prog_72_method_3_code 2 (some .int) :: ws) ({ frames := 0, cells := 0, slots := 0, locals := 0 } : Room)) (fun a U => a = #[(.ref a1), (.int p1)] ∧ Z.Warmed39 U.vm ∧ U.heap = h0) (fun _ _ _ _ _ => True) (fun _ U o U' => ∃ v L, o = .returned v ∧ Q_chooseR02 Z a1 p1 ta ca kt kc t0 t1 c0 c1 br co h0 n0 v U'.heap L ∧ FrameEnd U o U' L ({ frames := 0, cells := 0, slots := 0, locals := 0 } : Room).cells ({ frames := 0, cells := 0, slots := 0, locals := 0 } : Room).slots) := by
  refine MetFree.of_bodySF (plainFor_of_name pn_com_example_flote_flote_program_Choices) hisR ?_
  intro p e s m args below meth c s₁ Bd hml0 hP hK
  obtain ⟨rfl, hZ, hh⟩ := hP
  have hx := Bd.exec
  have hby := Bd.bytes
  have hml : c.maxLocals = 2 := hml0
  have hown : s.vm.findClass "com/example/flote/flote/program/Choices" = some m.cls := findClass_of_methodNamed Bd.named
  have hnm := (name_of_methodNamed Bd.named Bd.method).1
  have X0 : Stand p l e ({ frames := 0, cells := 0, slots := 0, locals := 0 } : Room) s m #[(.ref a1), (.int p1)] below meth c s₁ [] 0 0 := Stand.of_body Bd
  have e0 : s₁.heap = h0 := by rw [← hh, Bd.state]; rfl
  have N0 := Fr.nil n0
  obtain ⟨A0, hA0⟩ : ∃ z, z = s₁.setTop (entryFrame m #[(.ref a1), (.int p1)] 2) := ⟨_, rfl⟩
  have K : OGo p e below A0 s₁ (mkF m 0 #[rv a1, iv p1] []) := fun t k => hA0 ▸ castTop (ef_6 m a1 p1) k
  replace K : OGo p e below A0 s₁ (mkF m 1 #[rv a1, iv p1] [(.int p1)]) := fun t k => K t (XS.iloadN X0.here hx rfl (hb hby d6_0) rfl k)
  replace K : OGo p e below A0 s₁ (mkF m 2 #[rv a1, iv p1] [(.int 1), (.int p1)]) := fun t k => K t (XS.iconst X0.here hx rfl (hb hby d6_1) k)
  replace K : OGo p e below A0 s₁ (mkF m 7 #[rv a1, iv p1] []) := fun t k => K t (XS.icmpYes X0.here hx rfl (pc0 := 2) (pc' := 7) rfl (hb hby d6_2) rfl (feq (hp : ¬ (p1 = (1 : Int32)))).2 (by decide) (by decide) k)
  replace K : OGo p e below A0 s₁ (mkF m 8 #[rv a1, iv p1] [(.ref a1)]) := fun t k => K t (XS.aloadN X0.here hx rfl (hb hby d6_7) rfl rfl k)
  obtain ⟨T1, X1, e1, st1⟩ := getF X0 hx hZ hown (host := "") (Or.inl (ow hw 30 rfl)) Via.refl e0 F_met_a1 (g := (mkF m 8 #[rv a1, iv p1] [(.ref a1)])) rfl rfl (hb hby d6_8)
  replace K : OGo p e below A0 T1 (mkF m 11 #[rv a1, iv p1] [(.int 0)]) := fun t k => K t (st1 t k)
  replace K : OGo p e below A0 T1 (mkF m 12 #[rv a1, iv p1] [(.ref a1), (.int 0)]) := fun t k => K t (XS.aloadN X1.here hx rfl (hb hby d6_11) rfl rfl k)
  obtain ⟨T2, X2, e2, st2⟩ := getF X1 hx hZ hown (host := "") (Or.inl (ow hw 15 rfl)) Via.refl e1 F_taken_a1 (g := (mkF m 12 #[rv a1, iv p1] [(.ref a1), (.int 0)])) rfl rfl (hb hby d6_12)
  replace K : OGo p e below A0 T2 (mkF m 15 #[rv a1, iv p1] [(.ref ta), (.int 0)]) := fun t k => K t (st2 t k)
  replace K : OGo p e below A0 T2 (mkF m 16 #[rv a1, iv p1] [(.int 8), (.int 0)]) := fun t k => K t (own_len X2 hx hZ e2 V_ta (n := (8 : Int32)) rfl (g := (mkF m 15 #[rv a1, iv p1] [(.ref ta), (.int 0)])) rfl rfl (hb hby d6_15) t k)
  replace K : OGo p e below A0 T2 (mkF m 53 #[rv a1, iv p1] []) := fun t k => K t (XS.icmpYes X2.here hx rfl (pc0 := 16) (pc' := 53) rfl (hb hby d6_16) rfl (feq ((by decide : ¬ ((0 : Int32) = (8 : Int32))) : ¬ ((0 : Int32) = (8 : Int32)))).2 (by decide) (by decide) k)
  replace K : OGo p e below A0 T2 (mkF m 54 #[rv a1, iv p1] [(.ref a1)]) := fun t k => K t (XS.aloadN X2.here hx rfl (hb hby d6_53) rfl rfl k)
  obtain ⟨T3, X3, e3, st3⟩ := getF X2 hx hZ hown (host := "") (Or.inl (ow hw 30 rfl)) Via.refl e2 F_met_a1 (g := (mkF m 54 #[rv a1, iv p1] [(.ref a1)])) rfl rfl (hb hby d6_54)
  replace K : OGo p e below A0 T3 (mkF m 57 #[rv a1, iv p1] [(.int 0)]) := fun t k => K t (st3 t k)
  replace K : OGo p e below A0 T3 (mkF m 58 #[rv a1, iv p1] [(.ref a1), (.int 0)]) := fun t k => K t (XS.aloadN X3.here hx rfl (hb hby d6_57) rfl rfl k)
  obtain ⟨T4, X4, e4, st4⟩ := getF X3 hx hZ hown (host := "") (Or.inl (ow hw 32 rfl)) Via.refl e3 F_repeated_a1 (g := (mkF m 58 #[rv a1, iv p1] [(.ref a1), (.int 0)])) rfl rfl (hb hby d6_58)
  replace K : OGo p e below A0 T4 (mkF m 61 #[rv a1, iv p1] [(.int 2), (.int 0)]) := fun t k => K t (st4 t k)
  replace K : OGo p e below A0 T4 (mkF m 84 #[rv a1, iv p1] []) := fun t k => K t (XS.icmpYes X4.here hx rfl (pc0 := 61) (pc' := 84) rfl (hb hby d6_61) rfl (tlt ((by decide : (0 : Int32) < (2 : Int32)) : (0 : Int32) < (2 : Int32))).1 (by decide) (by decide) k)
  replace K : OGo p e below A0 T4 (mkF m 85 #[rv a1, iv p1] [(.ref a1)]) := fun t k => K t (XS.aloadN X4.here hx rfl (hb hby d6_84) rfl rfl k)
  obtain ⟨T5, X5, e5, st5⟩ := getF X4 hx hZ hown (host := "") (Or.inl (ow hw 15 rfl)) Via.refl e4 F_taken_a1 (g := (mkF m 85 #[rv a1, iv p1] [(.ref a1)])) rfl rfl (hb hby d6_85)
  replace K : OGo p e below A0 T5 (mkF m 88 #[rv a1, iv p1] [(.ref ta)]) := fun t k => K t (st5 t k)
  replace K : OGo p e below A0 T5 (mkF m 89 #[rv a1, iv p1] [(.ref a1), (.ref ta)]) := fun t k => K t (XS.aloadN X5.here hx rfl (hb hby d6_88) rfl rfl k)
  replace K : OGo p e below A0 T5 (mkF m 90 #[rv a1, iv p1] [(.ref a1), (.ref a1), (.ref ta)]) := fun t k => K t (XS.dup X5.here hx rfl (hb hby d6_89) rfl rfl k)
  obtain ⟨T6, X6, e6, st6⟩ := getF X5 hx hZ hown (host := "") (Or.inl (ow hw 30 rfl)) Via.refl e5 F_met_a1 (g := (mkF m 90 #[rv a1, iv p1] [(.ref a1), (.ref a1), (.ref ta)])) rfl rfl (hb hby d6_90)
  replace K : OGo p e below A0 T6 (mkF m 93 #[rv a1, iv p1] [(.int 0), (.ref a1), (.ref ta)]) := fun t k => K t (st6 t k)
  replace K : OGo p e below A0 T6 (mkF m 94 #[rv a1, iv p1] [(.int 0), (.ref a1), (.int 0), (.ref ta)]) := fun t k => K t (XS.dupX1 X6.here hx rfl (hb hby d6_93) rfl rfl rfl k)
  replace K : OGo p e below A0 T6 (mkF m 95 #[rv a1, iv p1] [(.int 1), (.int 0), (.ref a1), (.int 0), (.ref ta)]) := fun t k => K t (XS.iconst X6.here hx rfl (hb hby d6_94) k)
  replace K : OGo p e below A0 T6 (mkF m 96 #[rv a1, iv p1] [(.int 1), (.ref a1), (.int 0), (.ref ta)]) := fun t k => K t (XS.iadd X6.here hx rfl (hb hby d6_95) rfl k)
  obtain ⟨T7, h7, X7, e7, W7, st7⟩ := putF X6 hx hZ hown (host := "") (Or.inl (ow hw 30 rfl)) Via.refl e6 F_met_a1 E_a1 (Or.inl (ow hw 31 rfl)) (ow hw 6 rfl) (ty := .int) (by decide) rfl rfl (g := (mkF m 96 #[rv a1, iv p1] [(.int 1), (.ref a1), (.int 0), (.ref ta)])) rfl rfl (hb hby d6_96)
  have Z7 : n0 ≤ h7.size := Nat.le_trans Z0 (Keep.of_wr W7).1
  have Kp7 : Keep h0 h7 [a1, ta, ca] := (Keep.refl h0 [a1, ta, ca]).wr W7 (Or.inl (List.mem_of_getElem? (i := 0) rfl))
  have F_met_a1_7 := F_met_a1.same W7
  have N7 := Fr.snoc X7 N0 g_a1
  replace K : OGo p e below A0 T7 (mkF m 99 #[rv a1, iv p1] [(.int 0), (.ref ta)]) := fun t k => K t (st7 t k)
  have V_ta_8 := (V_ta.other W7 (Ne.symm ne_a1_ta))
  replace K : OGo p e below A0 T7 (mkF m 100 #[rv a1, iv p1] [(.int t0)]) := fun t k => K t (own_ldI X7 hx hZ e7 V_ta_8 (j := (0 : Int32)) (v := (.int t0)) (by decide) rfl (g := (mkF m 99 #[rv a1, iv p1] [(.int 0), (.ref ta)])) rfl rfl (hb hby d6_99) t k)
  have E_a1_9 := (E_a1.wr W7)
  have F_taken_a1_10 := (F_taken_a1.other W7 (Or.inr (sn_cN0_taken_met hw)))
  have F_counts_a1_11 := (F_counts_a1.other W7 (Or.inr (sn_cN0_counts_met hw)))
  have F_repeated_a1_12 := (F_repeated_a1.other W7 (Or.inr (sn_cN0_repeated_met hw)))
  have F_branches_a1_13 := (F_branches_a1.other W7 (Or.inr (sn_cN0_branches_met hw)))
  have F_computed_a1_14 := (F_computed_a1.other W7 (Or.inr (sn_cN0_computed_met hw)))
  have V_ca_15 := (V_ca.other W7 (Ne.symm ne_a1_ca))
  obtain ⟨fs, hr, hrun, hended, hW, hsame⟩ := X7.leave (v := some (.int t0)) (fun h => by rw [Bd.returns] at h; cases h)
  subst hA0
  refine ⟨_, _, K _ (retOut X7 hx Bd.returns rfl (Or.inl ⟨rfl, Or.inl rfl, _, rfl⟩) (hb hby d6_100) hr), hrun, hended, _, _, rfl, ?_, ⟨_, rfl⟩, hW, hsame.mono (by decide) (by decide)⟩
  show Q_chooseR02 Z a1 p1 ta ca kt kc t0 t1 c0 c1 br co h0 n0 _ T7.heap _
  rw [e7]
  exact ⟨rfl, N7, Kp7, E_a1_9, F_taken_a1_10, F_counts_a1_11, F_met_a1_7, F_repeated_a1_12, F_branches_a1_13, F_computed_a1_14, V_ta_8, V_ca_15⟩
def Q_chooseR12 (Z : State) (a1 : Addr) (p1 : Int32) (ta : Addr) (ca : Addr) (kt : ClassId) (kc : ClassId) (t0 : Int32) (t1 : Int32) (c0 : Int32) (c1 : Int32) (br : Int32) (co : Int32) (h0 : Heap) (n0 : Nat) (v : Option Value) (h : Heap) (L : List Loc) : Prop := v = some (.int t1) ∧ Fr n0 L ∧ Keep h0 h [a1, ta, ca] ∧ Exa Z h a1 cN0 ∧ Fld Z h a1 cN0 "taken" "[I" (.ref ta) ∧ Fld Z h a1 cN0 "counts" "[I" (.ref ca) ∧ Fld Z h a1 cN0 "met" "I" (.int (2 : Int32)) ∧ Fld Z h a1 cN0 "repeated" "I" (.int (2 : Int32)) ∧ Fld Z h a1 cN0 "branches" "I" (.int br) ∧ Fld Z h a1 cN0 "computed" "I" (.int co) ∧ OAr Z h ta kt .int (oA8 t0 t1) ∧ OAr Z h ca kc .int (oA8 c0 c1)
set_option maxRecDepth 65536 in
set_option maxHeartbeats 40000000 in
theorem rm_chooseR12 (l : Launch) (Z : State) (a0 : Array Value) (hw : ∀ d ∈ tables_1, d.before a0 Z = true) (ws : List Jvm.Cond) (a1 : Addr) (p1 : Int32) (ta : Addr) (ca : Addr) (kt : ClassId) (kc : ClassId) (t0 : Int32) (t1 : Int32) (c0 : Int32) (c1 : Int32) (br : Int32) (co : Int32) (h0 : Heap) (n0 : Nat) (Z0 : n0 ≤ h0.size) (E_a1 : Exa Z h0 a1 cN0) (F_taken_a1 : Fld Z h0 a1 cN0 "taken" "[I" (.ref ta)) (F_counts_a1 : Fld Z h0 a1 cN0 "counts" "[I" (.ref ca)) (F_met_a1 : Fld Z h0 a1 cN0 "met" "I" (.int (1 : Int32))) (F_repeated_a1 : Fld Z h0 a1 cN0 "repeated" "I" (.int (2 : Int32))) (F_branches_a1 : Fld Z h0 a1 cN0 "branches" "I" (.int br)) (F_computed_a1 : Fld Z h0 a1 cN0 "computed" "I" (.int co)) (V_ta : OAr Z h0 ta kt .int (oA8 t0 t1)) (V_ca : OAr Z h0 ca kc .int (oA8 c0 c1)) (g_a1 : n0 ≤ a1) (g_ta : n0 ≤ ta) (g_ca : n0 ≤ ca) (ne_a1_ta : a1 ≠ ta) (ne_a1_ca : a1 ≠ ca) (ne_ta_ca : ta ≠ ca) (hp : ¬ p1 = (1 : Int32)) :
    MetFree l mN4 (head1 (Jvm.Cond.code mN4 prog_72_method_3_code 2 (some .int) :: ws) ({ frames := 0, cells := 0, slots := 0, locals := 0 } : Room)) (fun a U => a = #[(.ref a1), (.int p1)] ∧ Z.Warmed39 U.vm ∧ U.heap = h0) (fun _ _ _ _ _ => True) (fun _ U o U' => ∃ v L, o = .returned v ∧ Q_chooseR12 Z a1 p1 ta ca kt kc t0 t1 c0 c1 br co h0 n0 v U'.heap L ∧ FrameEnd U o U' L ({ frames := 0, cells := 0, slots := 0, locals := 0 } : Room).cells ({ frames := 0, cells := 0, slots := 0, locals := 0 } : Room).slots) := by
  refine MetFree.of_bodySF (plainFor_of_name pn_com_example_flote_flote_program_Choices) hisR ?_
  intro p e s m args below meth c s₁ Bd hml0 hP hK
  obtain ⟨rfl, hZ, hh⟩ := hP
  have hx := Bd.exec
  have hby := Bd.bytes
  have hml : c.maxLocals = 2 := hml0
  have hown : s.vm.findClass "com/example/flote/flote/program/Choices" = some m.cls := findClass_of_methodNamed Bd.named
  have hnm := (name_of_methodNamed Bd.named Bd.method).1
  have X0 : Stand p l e ({ frames := 0, cells := 0, slots := 0, locals := 0 } : Room) s m #[(.ref a1), (.int p1)] below meth c s₁ [] 0 0 := Stand.of_body Bd
  have e0 : s₁.heap = h0 := by rw [← hh, Bd.state]; rfl
  have N0 := Fr.nil n0
  obtain ⟨A0, hA0⟩ : ∃ z, z = s₁.setTop (entryFrame m #[(.ref a1), (.int p1)] 2) := ⟨_, rfl⟩
  have K : OGo p e below A0 s₁ (mkF m 0 #[rv a1, iv p1] []) := fun t k => hA0 ▸ castTop (ef_6 m a1 p1) k
  replace K : OGo p e below A0 s₁ (mkF m 1 #[rv a1, iv p1] [(.int p1)]) := fun t k => K t (XS.iloadN X0.here hx rfl (hb hby d6_0) rfl k)
  replace K : OGo p e below A0 s₁ (mkF m 2 #[rv a1, iv p1] [(.int 1), (.int p1)]) := fun t k => K t (XS.iconst X0.here hx rfl (hb hby d6_1) k)
  replace K : OGo p e below A0 s₁ (mkF m 7 #[rv a1, iv p1] []) := fun t k => K t (XS.icmpYes X0.here hx rfl (pc0 := 2) (pc' := 7) rfl (hb hby d6_2) rfl (feq (hp : ¬ (p1 = (1 : Int32)))).2 (by decide) (by decide) k)
  replace K : OGo p e below A0 s₁ (mkF m 8 #[rv a1, iv p1] [(.ref a1)]) := fun t k => K t (XS.aloadN X0.here hx rfl (hb hby d6_7) rfl rfl k)
  obtain ⟨T1, X1, e1, st1⟩ := getF X0 hx hZ hown (host := "") (Or.inl (ow hw 30 rfl)) Via.refl e0 F_met_a1 (g := (mkF m 8 #[rv a1, iv p1] [(.ref a1)])) rfl rfl (hb hby d6_8)
  replace K : OGo p e below A0 T1 (mkF m 11 #[rv a1, iv p1] [(.int 1)]) := fun t k => K t (st1 t k)
  replace K : OGo p e below A0 T1 (mkF m 12 #[rv a1, iv p1] [(.ref a1), (.int 1)]) := fun t k => K t (XS.aloadN X1.here hx rfl (hb hby d6_11) rfl rfl k)
  obtain ⟨T2, X2, e2, st2⟩ := getF X1 hx hZ hown (host := "") (Or.inl (ow hw 15 rfl)) Via.refl e1 F_taken_a1 (g := (mkF m 12 #[rv a1, iv p1] [(.ref a1), (.int 1)])) rfl rfl (hb hby d6_12)
  replace K : OGo p e below A0 T2 (mkF m 15 #[rv a1, iv p1] [(.ref ta), (.int 1)]) := fun t k => K t (st2 t k)
  replace K : OGo p e below A0 T2 (mkF m 16 #[rv a1, iv p1] [(.int 8), (.int 1)]) := fun t k => K t (own_len X2 hx hZ e2 V_ta (n := (8 : Int32)) rfl (g := (mkF m 15 #[rv a1, iv p1] [(.ref ta), (.int 1)])) rfl rfl (hb hby d6_15) t k)
  replace K : OGo p e below A0 T2 (mkF m 53 #[rv a1, iv p1] []) := fun t k => K t (XS.icmpYes X2.here hx rfl (pc0 := 16) (pc' := 53) rfl (hb hby d6_16) rfl (feq ((by decide : ¬ ((1 : Int32) = (8 : Int32))) : ¬ ((1 : Int32) = (8 : Int32)))).2 (by decide) (by decide) k)
  replace K : OGo p e below A0 T2 (mkF m 54 #[rv a1, iv p1] [(.ref a1)]) := fun t k => K t (XS.aloadN X2.here hx rfl (hb hby d6_53) rfl rfl k)
  obtain ⟨T3, X3, e3, st3⟩ := getF X2 hx hZ hown (host := "") (Or.inl (ow hw 30 rfl)) Via.refl e2 F_met_a1 (g := (mkF m 54 #[rv a1, iv p1] [(.ref a1)])) rfl rfl (hb hby d6_54)
  replace K : OGo p e below A0 T3 (mkF m 57 #[rv a1, iv p1] [(.int 1)]) := fun t k => K t (st3 t k)
  replace K : OGo p e below A0 T3 (mkF m 58 #[rv a1, iv p1] [(.ref a1), (.int 1)]) := fun t k => K t (XS.aloadN X3.here hx rfl (hb hby d6_57) rfl rfl k)
  obtain ⟨T4, X4, e4, st4⟩ := getF X3 hx hZ hown (host := "") (Or.inl (ow hw 32 rfl)) Via.refl e3 F_repeated_a1 (g := (mkF m 58 #[rv a1, iv p1] [(.ref a1), (.int 1)])) rfl rfl (hb hby d6_58)
  replace K : OGo p e below A0 T4 (mkF m 61 #[rv a1, iv p1] [(.int 2), (.int 1)]) := fun t k => K t (st4 t k)
  replace K : OGo p e below A0 T4 (mkF m 84 #[rv a1, iv p1] []) := fun t k => K t (XS.icmpYes X4.here hx rfl (pc0 := 61) (pc' := 84) rfl (hb hby d6_61) rfl (tlt ((by decide : (1 : Int32) < (2 : Int32)) : (1 : Int32) < (2 : Int32))).1 (by decide) (by decide) k)
  replace K : OGo p e below A0 T4 (mkF m 85 #[rv a1, iv p1] [(.ref a1)]) := fun t k => K t (XS.aloadN X4.here hx rfl (hb hby d6_84) rfl rfl k)
  obtain ⟨T5, X5, e5, st5⟩ := getF X4 hx hZ hown (host := "") (Or.inl (ow hw 15 rfl)) Via.refl e4 F_taken_a1 (g := (mkF m 85 #[rv a1, iv p1] [(.ref a1)])) rfl rfl (hb hby d6_85)
  replace K : OGo p e below A0 T5 (mkF m 88 #[rv a1, iv p1] [(.ref ta)]) := fun t k => K t (st5 t k)
  replace K : OGo p e below A0 T5 (mkF m 89 #[rv a1, iv p1] [(.ref a1), (.ref ta)]) := fun t k => K t (XS.aloadN X5.here hx rfl (hb hby d6_88) rfl rfl k)
  replace K : OGo p e below A0 T5 (mkF m 90 #[rv a1, iv p1] [(.ref a1), (.ref a1), (.ref ta)]) := fun t k => K t (XS.dup X5.here hx rfl (hb hby d6_89) rfl rfl k)
  obtain ⟨T6, X6, e6, st6⟩ := getF X5 hx hZ hown (host := "") (Or.inl (ow hw 30 rfl)) Via.refl e5 F_met_a1 (g := (mkF m 90 #[rv a1, iv p1] [(.ref a1), (.ref a1), (.ref ta)])) rfl rfl (hb hby d6_90)
  replace K : OGo p e below A0 T6 (mkF m 93 #[rv a1, iv p1] [(.int 1), (.ref a1), (.ref ta)]) := fun t k => K t (st6 t k)
  replace K : OGo p e below A0 T6 (mkF m 94 #[rv a1, iv p1] [(.int 1), (.ref a1), (.int 1), (.ref ta)]) := fun t k => K t (XS.dupX1 X6.here hx rfl (hb hby d6_93) rfl rfl rfl k)
  replace K : OGo p e below A0 T6 (mkF m 95 #[rv a1, iv p1] [(.int 1), (.int 1), (.ref a1), (.int 1), (.ref ta)]) := fun t k => K t (XS.iconst X6.here hx rfl (hb hby d6_94) k)
  replace K : OGo p e below A0 T6 (mkF m 96 #[rv a1, iv p1] [(.int 2), (.ref a1), (.int 1), (.ref ta)]) := fun t k => K t (XS.iadd X6.here hx rfl (hb hby d6_95) rfl k)
  obtain ⟨T7, h7, X7, e7, W7, st7⟩ := putF X6 hx hZ hown (host := "") (Or.inl (ow hw 30 rfl)) Via.refl e6 F_met_a1 E_a1 (Or.inl (ow hw 31 rfl)) (ow hw 6 rfl) (ty := .int) (by decide) rfl rfl (g := (mkF m 96 #[rv a1, iv p1] [(.int 2), (.ref a1), (.int 1), (.ref ta)])) rfl rfl (hb hby d6_96)
  have Z7 : n0 ≤ h7.size := Nat.le_trans Z0 (Keep.of_wr W7).1
  have Kp7 : Keep h0 h7 [a1, ta, ca] := (Keep.refl h0 [a1, ta, ca]).wr W7 (Or.inl (List.mem_of_getElem? (i := 0) rfl))
  have F_met_a1_7 := F_met_a1.same W7
  have N7 := Fr.snoc X7 N0 g_a1
  replace K : OGo p e below A0 T7 (mkF m 99 #[rv a1, iv p1] [(.int 1), (.ref ta)]) := fun t k => K t (st7 t k)
  have V_ta_8 := (V_ta.other W7 (Ne.symm ne_a1_ta))
  replace K : OGo p e below A0 T7 (mkF m 100 #[rv a1, iv p1] [(.int t1)]) := fun t k => K t (own_ldI X7 hx hZ e7 V_ta_8 (j := (1 : Int32)) (v := (.int t1)) (by decide) rfl (g := (mkF m 99 #[rv a1, iv p1] [(.int 1), (.ref ta)])) rfl rfl (hb hby d6_99) t k)
  have E_a1_9 := (E_a1.wr W7)
  have F_taken_a1_10 := (F_taken_a1.other W7 (Or.inr (sn_cN0_taken_met hw)))
  have F_counts_a1_11 := (F_counts_a1.other W7 (Or.inr (sn_cN0_counts_met hw)))
  have F_repeated_a1_12 := (F_repeated_a1.other W7 (Or.inr (sn_cN0_repeated_met hw)))
  have F_branches_a1_13 := (F_branches_a1.other W7 (Or.inr (sn_cN0_branches_met hw)))
  have F_computed_a1_14 := (F_computed_a1.other W7 (Or.inr (sn_cN0_computed_met hw)))
  have V_ca_15 := (V_ca.other W7 (Ne.symm ne_a1_ca))
  obtain ⟨fs, hr, hrun, hended, hW, hsame⟩ := X7.leave (v := some (.int t1)) (fun h => by rw [Bd.returns] at h; cases h)
  subst hA0
  refine ⟨_, _, K _ (retOut X7 hx Bd.returns rfl (Or.inl ⟨rfl, Or.inl rfl, _, rfl⟩) (hb hby d6_100) hr), hrun, hended, _, _, rfl, ?_, ⟨_, rfl⟩, hW, hsame.mono (by decide) (by decide)⟩
  show Q_chooseR12 Z a1 p1 ta ca kt kc t0 t1 c0 c1 br co h0 n0 _ T7.heap _
  rw [e7]
  exact ⟨rfl, N7, Kp7, E_a1_9, F_taken_a1_10, F_counts_a1_11, F_met_a1_7, F_repeated_a1_12, F_branches_a1_13, F_computed_a1_14, V_ta_8, V_ca_15⟩
theorem d6_64 : decode prog_72_method_3_code 64 = .ok (.aload_n 0, 1) := by decide +kernel
theorem d6_65 : decode prog_72_method_3_code 65 = .ok (.getfield 7, 3) := by decide +kernel
theorem d6_68 : decode prog_72_method_3_code 68 = .ok (.aload_n 0, 1) := by decide +kernel
theorem d6_69 : decode prog_72_method_3_code 69 = .ok (.getfield 25, 3) := by decide +kernel
theorem d6_72 : decode prog_72_method_3_code 72 = .ok (.iconst 0, 1) := by decide +kernel
theorem d6_73 : decode prog_72_method_3_code 73 = .ok (.iastore, 1) := by decide +kernel
theorem d6_74 : decode prog_72_method_3_code 74 = .ok (.aload_n 0, 1) := by decide +kernel
theorem d6_75 : decode prog_72_method_3_code 75 = .ok (.getfield 13, 3) := by decide +kernel
theorem d6_78 : decode prog_72_method_3_code 78 = .ok (.aload_n 0, 1) := by decide +kernel
theorem d6_79 : decode prog_72_method_3_code 79 = .ok (.getfield 25, 3) := by decide +kernel
theorem d6_82 : decode prog_72_method_3_code 82 = .ok (.iload_n 1, 1) := by decide +kernel
theorem d6_83 : decode prog_72_method_3_code 83 = .ok (.iastore, 1) := by decide +kernel
def Q_chooseN00 (Z : State) (a1 : Addr) (p1 : Int32) (ta : Addr) (ca : Addr) (kt : ClassId) (kc : ClassId) (t0 : Int32) (t1 : Int32) (c0 : Int32) (c1 : Int32) (br : Int32) (co : Int32) (h0 : Heap) (n0 : Nat) (v : Option Value) (h : Heap) (L : List Loc) : Prop := v = some (.int (0 : Int32)) ∧ Fr n0 L ∧ Keep h0 h [a1, ta, ca] ∧ Exa Z h a1 cN0 ∧ Fld Z h a1 cN0 "taken" "[I" (.ref ta) ∧ Fld Z h a1 cN0 "counts" "[I" (.ref ca) ∧ Fld Z h a1 cN0 "met" "I" (.int (1 : Int32)) ∧ Fld Z h a1 cN0 "repeated" "I" (.int (0 : Int32)) ∧ Fld Z h a1 cN0 "branches" "I" (.int br) ∧ Fld Z h a1 cN0 "computed" "I" (.int co) ∧ OAr Z h ta kt .int (oA8 (0 : Int32) t1) ∧ OAr Z h ca kc .int (oA8 p1 c1)
set_option maxRecDepth 65536 in
set_option maxHeartbeats 40000000 in
theorem rm_chooseN00 (l : Launch) (Z : State) (a0 : Array Value) (hw : ∀ d ∈ tables_1, d.before a0 Z = true) (ws : List Jvm.Cond) (a1 : Addr) (p1 : Int32) (ta : Addr) (ca : Addr) (kt : ClassId) (kc : ClassId) (t0 : Int32) (t1 : Int32) (c0 : Int32) (c1 : Int32) (br : Int32) (co : Int32) (h0 : Heap) (n0 : Nat) (Z0 : n0 ≤ h0.size) (E_a1 : Exa Z h0 a1 cN0) (F_taken_a1 : Fld Z h0 a1 cN0 "taken" "[I" (.ref ta)) (F_counts_a1 : Fld Z h0 a1 cN0 "counts" "[I" (.ref ca)) (F_met_a1 : Fld Z h0 a1 cN0 "met" "I" (.int (0 : Int32))) (F_repeated_a1 : Fld Z h0 a1 cN0 "repeated" "I" (.int (0 : Int32))) (F_branches_a1 : Fld Z h0 a1 cN0 "branches" "I" (.int br)) (F_computed_a1 : Fld Z h0 a1 cN0 "computed" "I" (.int co)) (V_ta : OAr Z h0 ta kt .int (oA8 t0 t1)) (V_ca : OAr Z h0 ca kc .int (oA8 c0 c1)) (g_a1 : n0 ≤ a1) (g_ta : n0 ≤ ta) (g_ca : n0 ≤ ca) (ne_a1_ta : a1 ≠ ta) (ne_a1_ca : a1 ≠ ca) (ne_ta_ca : ta ≠ ca) (hp : ¬ p1 = (1 : Int32)) :
    MetFree l mN4 (head1 (Jvm.Cond.code mN4 prog_72_method_3_code 2 (some .int) :: ws) ({ frames := 0, cells := 0, slots := 0, locals := 0 } : Room)) (fun a U => a = #[(.ref a1), (.int p1)] ∧ Z.Warmed39 U.vm ∧ U.heap = h0) (fun _ _ _ _ _ => True) (fun _ U o U' => ∃ v L, o = .returned v ∧ Q_chooseN00 Z a1 p1 ta ca kt kc t0 t1 c0 c1 br co h0 n0 v U'.heap L ∧ FrameEnd U o U' L ({ frames := 0, cells := 0, slots := 0, locals := 0 } : Room).cells ({ frames := 0, cells := 0, slots := 0, locals := 0 } : Room).slots) := by
  refine MetFree.of_bodySF (plainFor_of_name pn_com_example_flote_flote_program_Choices) hisR ?_
  intro p e s m args below meth c s₁ Bd hml0 hP hK
  obtain ⟨rfl, hZ, hh⟩ := hP
  have hx := Bd.exec
  have hby := Bd.bytes
  have hml : c.maxLocals = 2 := hml0
  have hown : s.vm.findClass "com/example/flote/flote/program/Choices" = some m.cls := findClass_of_methodNamed Bd.named
  have hnm := (name_of_methodNamed Bd.named Bd.method).1
  have X0 : Stand p l e ({ frames := 0, cells := 0, slots := 0, locals := 0 } : Room) s m #[(.ref a1), (.int p1)] below meth c s₁ [] 0 0 := Stand.of_body Bd
  have e0 : s₁.heap = h0 := by rw [← hh, Bd.state]; rfl
  have N0 := Fr.nil n0
  obtain ⟨A0, hA0⟩ : ∃ z, z = s₁.setTop (entryFrame m #[(.ref a1), (.int p1)] 2) := ⟨_, rfl⟩
  have K : OGo p e below A0 s₁ (mkF m 0 #[rv a1, iv p1] []) := fun t k => hA0 ▸ castTop (ef_6 m a1 p1) k
  replace K : OGo p e below A0 s₁ (mkF m 1 #[rv a1, iv p1] [(.int p1)]) := fun t k => K t (XS.iloadN X0.here hx rfl (hb hby d6_0) rfl k)
  replace K : OGo p e below A0 s₁ (mkF m 2 #[rv a1, iv p1] [(.int 1), (.int p1)]) := fun t k => K t (XS.iconst X0.here hx rfl (hb hby d6_1) k)
  replace K : OGo p e below A0 s₁ (mkF m 7 #[rv a1, iv p1] []) := fun t k => K t (XS.icmpYes X0.here hx rfl (pc0 := 2) (pc' := 7) rfl (hb hby d6_2) rfl (feq (hp : ¬ (p1 = (1 : Int32)))).2 (by decide) (by decide) k)
  replace K : OGo p e below A0 s₁ (mkF m 8 #[rv a1, iv p1] [(.ref a1)]) := fun t k => K t (XS.aloadN X0.here hx rfl (hb hby d6_7) rfl rfl k)
  obtain ⟨T1, X1, e1, st1⟩ := getF X0 hx hZ hown (host := "") (Or.inl (ow hw 30 rfl)) Via.refl e0 F_met_a1 (g := (mkF m 8 #[rv a1, iv p1] [(.ref a1)])) rfl rfl (hb hby d6_8)
  replace K : OGo p e below A0 T1 (mkF m 11 #[rv a1, iv p1] [(.int 0)]) := fun t k => K t (st1 t k)
  replace K : OGo p e below A0 T1 (mkF m 12 #[rv a1, iv p1] [(.ref a1), (.int 0)]) := fun t k => K t (XS.aloadN X1.here hx rfl (hb hby d6_11) rfl rfl k)
  obtain ⟨T2, X2, e2, st2⟩ := getF X1 hx hZ hown (host := "") (Or.inl (ow hw 15 rfl)) Via.refl e1 F_taken_a1 (g := (mkF m 12 #[rv a1, iv p1] [(.ref a1), (.int 0)])) rfl rfl (hb hby d6_12)
  replace K : OGo p e below A0 T2 (mkF m 15 #[rv a1, iv p1] [(.ref ta), (.int 0)]) := fun t k => K t (st2 t k)
  replace K : OGo p e below A0 T2 (mkF m 16 #[rv a1, iv p1] [(.int 8), (.int 0)]) := fun t k => K t (own_len X2 hx hZ e2 V_ta (n := (8 : Int32)) rfl (g := (mkF m 15 #[rv a1, iv p1] [(.ref ta), (.int 0)])) rfl rfl (hb hby d6_15) t k)
  replace K : OGo p e below A0 T2 (mkF m 53 #[rv a1, iv p1] []) := fun t k => K t (XS.icmpYes X2.here hx rfl (pc0 := 16) (pc' := 53) rfl (hb hby d6_16) rfl (feq ((by decide : ¬ ((0 : Int32) = (8 : Int32))) : ¬ ((0 : Int32) = (8 : Int32)))).2 (by decide) (by decide) k)
  replace K : OGo p e below A0 T2 (mkF m 54 #[rv a1, iv p1] [(.ref a1)]) := fun t k => K t (XS.aloadN X2.here hx rfl (hb hby d6_53) rfl rfl k)
  obtain ⟨T3, X3, e3, st3⟩ := getF X2 hx hZ hown (host := "") (Or.inl (ow hw 30 rfl)) Via.refl e2 F_met_a1 (g := (mkF m 54 #[rv a1, iv p1] [(.ref a1)])) rfl rfl (hb hby d6_54)
  replace K : OGo p e below A0 T3 (mkF m 57 #[rv a1, iv p1] [(.int 0)]) := fun t k => K t (st3 t k)
  replace K : OGo p e below A0 T3 (mkF m 58 #[rv a1, iv p1] [(.ref a1), (.int 0)]) := fun t k => K t (XS.aloadN X3.here hx rfl (hb hby d6_57) rfl rfl k)
  obtain ⟨T4, X4, e4, st4⟩ := getF X3 hx hZ hown (host := "") (Or.inl (ow hw 32 rfl)) Via.refl e3 F_repeated_a1 (g := (mkF m 58 #[rv a1, iv p1] [(.ref a1), (.int 0)])) rfl rfl (hb hby d6_58)
  replace K : OGo p e below A0 T4 (mkF m 61 #[rv a1, iv p1] [(.int 0), (.int 0)]) := fun t k => K t (st4 t k)
  replace K : OGo p e below A0 T4 (mkF m 64 #[rv a1, iv p1] []) := fun t k => K t (XS.icmpNo X4.here hx rfl (hb hby d6_61) rfl (flt ((by decide : ¬ ((0 : Int32) < (0 : Int32))) : ¬ ((0 : Int32) < (0 : Int32)))).1 k)
  replace K : OGo p e below A0 T4 (mkF m 65 #[rv a1, iv p1] [(.ref a1)]) := fun t k => K t (XS.aloadN X4.here hx rfl (hb hby d6_64) rfl rfl k)
  obtain ⟨T5, X5, e5, st5⟩ := getF X4 hx hZ hown (host := "") (Or.inl (ow hw 15 rfl)) Via.refl e4 F_taken_a1 (g := (mkF m 65 #[rv a1, iv p1] [(.ref a1)])) rfl rfl (hb hby d6_65)
  replace K : OGo p e below A0 T5 (mkF m 68 #[rv a1, iv p1] [(.ref ta)]) := fun t k => K t (st5 t k)
  replace K : OGo p e below A0 T5 (mkF m 69 #[rv a1, iv p1] [(.ref a1), (.ref ta)]) := fun t k => K t (XS.aloadN X5.here hx rfl (hb hby d6_68) rfl rfl k)
  obtain ⟨T6, X6, e6, st6⟩ := getF X5 hx hZ hown (host := "") (Or.inl (ow hw 30 rfl)) Via.refl e5 F_met_a1 (g := (mkF m 69 #[rv a1, iv p1] [(.ref a1), (.ref ta)])) rfl rfl (hb hby d6_69)
  replace K : OGo p e below A0 T6 (mkF m 72 #[rv a1, iv p1] [(.int 0), (.ref ta)]) := fun t k => K t (st6 t k)
  replace K : OGo p e below A0 T6 (mkF m 73 #[rv a1, iv p1] [(.int 0), (.int 0), (.ref ta)]) := fun t k => K t (XS.iconst X6.here hx rfl (hb hby d6_72) k)
  obtain ⟨T7, h7, X7, e7, W7, V7, st7⟩ := own_stI X6 hx hZ e6 V_ta (j := (0 : Int32)) (by decide) (Nat.le_of_ble_eq_true rfl) (g := (mkF m 73 #[rv a1, iv p1] [(.int 0), (.int 0), (.ref ta)])) rfl rfl (hb hby d6_73)
  have Z7 : n0 ≤ h7.size := Nat.le_trans Z0 (Keep.of_wr W7).1
  have Kp7 : Keep h0 h7 [a1, ta, ca] := (Keep.refl h0 [a1, ta, ca]).wr W7 (Or.inl (List.mem_of_getElem? (i := 1) rfl))
  have V_ta_7 : OAr Z h7 ta kt .int (oA8 (0 : Int32) t1) := V7
  have N7 := Fr.snoc X7 N0 g_ta
  replace K : OGo p e below A0 T7 (mkF m 74 #[rv a1, iv p1] []) := fun t k => K t (st7 t k)
  replace K : OGo p e below A0 T7 (mkF m 75 #[rv a1, iv p1] [(.ref a1)]) := fun t k => K t (XS.aloadN X7.here hx rfl (hb hby d6_74) rfl rfl k)
  have F_counts_a1_8 := (F_counts_a1.other W7 (Or.inl ne_a1_ta))
  obtain ⟨T9, X9, e9, st9⟩ := getF X7 hx hZ hown (host := "") (Or.inl (ow hw 17 rfl)) Via.refl e7 F_counts_a1_8 (g := (mkF m 75 #[rv a1, iv p1] [(.ref a1)])) rfl rfl (hb hby d6_75)
  replace K : OGo p e below A0 T9 (mkF m 78 #[rv a1, iv p1] [(.ref ca)]) := fun t k => K t (st9 t k)
  replace K : OGo p e below A0 T9 (mkF m 79 #[rv a1, iv p1] [(.ref a1), (.ref ca)]) := fun t k => K t (XS.aloadN X9.here hx rfl (hb hby d6_78) rfl rfl k)
  have F_met_a1_10 := (F_met_a1.other W7 (Or.inl ne_a1_ta))
  obtain ⟨T11, X11, e11, st11⟩ := getF X9 hx hZ hown (host := "") (Or.inl (ow hw 30 rfl)) Via.refl e9 F_met_a1_10 (g := (mkF m 79 #[rv a1, iv p1] [(.ref a1), (.ref ca)])) rfl rfl (hb hby d6_79)
  replace K : OGo p e below A0 T11 (mkF m 82 #[rv a1, iv p1] [(.int 0), (.ref ca)]) := fun t k => K t (st11 t k)
  replace K : OGo p e below A0 T11 (mkF m 83 #[rv a1, iv p1] [(.int p1), (.int 0), (.ref ca)]) := fun t k => K t (XS.iloadN X11.here hx rfl (hb hby d6_82) rfl k)
  have V_ca_12 := (V_ca.other W7 (Ne.symm ne_ta_ca))
  obtain ⟨T13, h13, X13, e13, W13, V13, st13⟩ := own_stI X11 hx hZ e11 V_ca_12 (j := (0 : Int32)) (by decide) (Nat.le_of_ble_eq_true rfl) (g := (mkF m 83 #[rv a1, iv p1] [(.int p1), (.int 0), (.ref ca)])) rfl rfl (hb hby d6_83)
  have Z13 : n0 ≤ h13.size := Nat.le_trans Z7 (Keep.of_wr W13).1
  have Kp13 : Keep h0 h13 [a1, ta, ca] := Kp7.wr W13 (Or.inl (List.mem_of_getElem? (i := 2) rfl))
  have V_ca_13 : OAr Z h13 ca kc .int (oA8 p1 c1) := V13
  have N13 := Fr.snoc X13 N7 g_ca
  replace K : OGo p e below A0 T13 (mkF m 84 #[rv a1, iv p1] []) := fun t k => K t (st13 t k)
  replace K : OGo p e below A0 T13 (mkF m 85 #[rv a1, iv p1] [(.ref a1)]) := fun t k => K t (XS.aloadN X13.here hx rfl (hb hby d6_84) rfl rfl k)
  have F_taken_a1_14 := ((F_taken_a1.other W7 (Or.inl ne_a1_ta)).other W13 (Or.inl ne_a1_ca))
  obtain ⟨T15, X15, e15, st15⟩ := getF X13 hx hZ hown (host := "") (Or.inl (ow hw 15 rfl)) Via.refl e13 F_taken_a1_14 (g := (mkF m 85 #[rv a1, iv p1] [(.ref a1)])) rfl rfl (hb hby d6_85)
  replace K : OGo p e below A0 T15 (mkF m 88 #[rv a1, iv p1] [(.ref ta)]) := fun t k => K t (st15 t k)
  replace K : OGo p e below A0 T15 (mkF m 89 #[rv a1, iv p1] [(.ref a1), (.ref ta)]) := fun t k => K t (XS.aloadN X15.here hx rfl (hb hby d6_88) rfl rfl k)
  replace K : OGo p e below A0 T15 (mkF m 90 #[rv a1, iv p1] [(.ref a1), (.ref a1), (.ref ta)]) := fun t k => K t (XS.dup X15.here hx rfl (hb hby d6_89) rfl rfl k)
  have F_met_a1_16 := (F_met_a1_10.other W13 (Or.inl ne_a1_ca))
  obtain ⟨T17, X17, e17, st17⟩ := getF X15 hx hZ hown (host := "") (Or.inl (ow hw 30 rfl)) Via.refl e15 F_met_a1_16 (g := (mkF m 90 #[rv a1, iv p1] [(.ref a1), (.ref a1), (.ref ta)])) rfl rfl (hb hby d6_90)
  replace K : OGo p e below A0 T17 (mkF m 93 #[rv a1, iv p1] [(.int 0), (.ref a1), (.ref ta)]) := fun t k => K t (st17 t k)
  replace K : OGo p e below A0 T17 (mkF m 94 #[rv a1, iv p1] [(.int 0), (.ref a1), (.int 0), (.ref ta)]) := fun t k => K t (XS.dupX1 X17.here hx rfl (hb hby d6_93) rfl rfl rfl k)
  replace K : OGo p e below A0 T17 (mkF m 95 #[rv a1, iv p1] [(.int 1), (.int 0), (.ref a1), (.int 0), (.ref ta)]) := fun t k => K t (XS.iconst X17.here hx rfl (hb hby d6_94) k)
  replace K : OGo p e below A0 T17 (mkF m 96 #[rv a1, iv p1] [(.int 1), (.ref a1), (.int 0), (.ref ta)]) := fun t k => K t (XS.iadd X17.here hx rfl (hb hby d6_95) rfl k)
  have E_a1_18 := ((E_a1.wr W7).wr W13)
  obtain ⟨T19, h19, X19, e19, W19, st19⟩ := putF X17 hx hZ hown (host := "") (Or.inl (ow hw 30 rfl)) Via.refl e17 F_met_a1_16 E_a1_18 (Or.inl (ow hw 31 rfl)) (ow hw 6 rfl) (ty := .int) (by decide) rfl rfl (g := (mkF m 96 #[rv a1, iv p1] [(.int 1), (.ref a1), (.int 0), (.ref ta)])) rfl rfl (hb hby d6_96)
  have Z19 : n0 ≤ h19.size := Nat.le_trans Z13 (Keep.of_wr W19).1
  have Kp19 : Keep h0 h19 [a1, ta, ca] := Kp13.wr W19 (Or.inl (List.mem_of_getElem? (i := 0) rfl))
  have F_met_a1_19 := F_met_a1_16.same W19
  have N19 := Fr.snoc X19 N13 g_a1
  replace K : OGo p e below A0 T19 (mkF m 99 #[rv a1, iv p1] [(.int 0), (.ref ta)]) := fun t k => K t (st19 t k)
  have V_ta_20 := ((V_ta_7.other W13 ne_ta_ca).other W19 (Ne.symm ne_a1_ta))
  replace K : OGo p e below A0 T19 (mkF m 100 #[rv a1, iv p1] [(.int 0)]) := fun t k => K t (own_ldI X19 hx hZ e19 V_ta_20 (j := (0 : Int32)) (v := (.int (0 : Int32))) (by decide) rfl (g := (mkF m 99 #[rv a1, iv p1] [(.int 0), (.ref ta)])) rfl rfl (hb hby d6_99) t k)
  have E_a1_21 := (E_a1_18.wr W19)
  have F_taken_a1_22 := (F_taken_a1_14.other W19 (Or.inr (sn_cN0_taken_met hw)))
  have F_counts_a1_23 := ((F_counts_a1_8.other W13 (Or.inl ne_a1_ca)).other W19 (Or.inr (sn_cN0_counts_met hw)))
  have F_repeated_a1_24 := (((F_repeated_a1.other W7 (Or.inl ne_a1_ta)).other W13 (Or.inl ne_a1_ca)).other W19 (Or.inr (sn_cN0_repeated_met hw)))
  have F_branches_a1_25 := (((F_branches_a1.other W7 (Or.inl ne_a1_ta)).other W13 (Or.inl ne_a1_ca)).other W19 (Or.inr (sn_cN0_branches_met hw)))
  have F_computed_a1_26 := (((F_computed_a1.other W7 (Or.inl ne_a1_ta)).other W13 (Or.inl ne_a1_ca)).other W19 (Or.inr (sn_cN0_computed_met hw)))
  have V_ca_27 := (V_ca_13.other W19 (Ne.symm ne_a1_ca))
  obtain ⟨fs, hr, hrun, hended, hW, hsame⟩ := X19.leave (v := some (.int (0 : Int32))) (fun h => by rw [Bd.returns] at h; cases h)
  subst hA0
  refine ⟨_, _, K _ (retOut X19 hx Bd.returns rfl (Or.inl ⟨rfl, Or.inl rfl, _, rfl⟩) (hb hby d6_100) hr), hrun, hended, _, _, rfl, ?_, ⟨_, rfl⟩, hW, hsame.mono (by decide) (by decide)⟩
  show Q_chooseN00 Z a1 p1 ta ca kt kc t0 t1 c0 c1 br co h0 n0 _ T19.heap _
  rw [e19]
  exact ⟨rfl, N19, Kp19, E_a1_21, F_taken_a1_22, F_counts_a1_23, F_met_a1_19, F_repeated_a1_24, F_branches_a1_25, F_computed_a1_26, V_ta_20, V_ca_27⟩
def Q_chooseN10 (Z : State) (a1 : Addr) (p1 : Int32) (ta : Addr) (ca : Addr) (kt : ClassId) (kc : ClassId) (t0 : Int32) (t1 : Int32) (c0 : Int32) (c1 : Int32) (br : Int32) (co : Int32) (h0 : Heap) (n0 : Nat) (v : Option Value) (h : Heap) (L : List Loc) : Prop := v = some (.int (0 : Int32)) ∧ Fr n0 L ∧ Keep h0 h [a1, ta, ca] ∧ Exa Z h a1 cN0 ∧ Fld Z h a1 cN0 "taken" "[I" (.ref ta) ∧ Fld Z h a1 cN0 "counts" "[I" (.ref ca) ∧ Fld Z h a1 cN0 "met" "I" (.int (2 : Int32)) ∧ Fld Z h a1 cN0 "repeated" "I" (.int (0 : Int32)) ∧ Fld Z h a1 cN0 "branches" "I" (.int br) ∧ Fld Z h a1 cN0 "computed" "I" (.int co) ∧ OAr Z h ta kt .int (oA8 t0 (0 : Int32)) ∧ OAr Z h ca kc .int (oA8 c0 p1)
set_option maxRecDepth 65536 in
set_option maxHeartbeats 40000000 in
theorem rm_chooseN10 (l : Launch) (Z : State) (a0 : Array Value) (hw : ∀ d ∈ tables_1, d.before a0 Z = true) (ws : List Jvm.Cond) (a1 : Addr) (p1 : Int32) (ta : Addr) (ca : Addr) (kt : ClassId) (kc : ClassId) (t0 : Int32) (t1 : Int32) (c0 : Int32) (c1 : Int32) (br : Int32) (co : Int32) (h0 : Heap) (n0 : Nat) (Z0 : n0 ≤ h0.size) (E_a1 : Exa Z h0 a1 cN0) (F_taken_a1 : Fld Z h0 a1 cN0 "taken" "[I" (.ref ta)) (F_counts_a1 : Fld Z h0 a1 cN0 "counts" "[I" (.ref ca)) (F_met_a1 : Fld Z h0 a1 cN0 "met" "I" (.int (1 : Int32))) (F_repeated_a1 : Fld Z h0 a1 cN0 "repeated" "I" (.int (0 : Int32))) (F_branches_a1 : Fld Z h0 a1 cN0 "branches" "I" (.int br)) (F_computed_a1 : Fld Z h0 a1 cN0 "computed" "I" (.int co)) (V_ta : OAr Z h0 ta kt .int (oA8 t0 t1)) (V_ca : OAr Z h0 ca kc .int (oA8 c0 c1)) (g_a1 : n0 ≤ a1) (g_ta : n0 ≤ ta) (g_ca : n0 ≤ ca) (ne_a1_ta : a1 ≠ ta) (ne_a1_ca : a1 ≠ ca) (ne_ta_ca : ta ≠ ca) (hp : ¬ p1 = (1 : Int32)) :
    MetFree l mN4 (head1 (Jvm.Cond.code mN4 prog_72_method_3_code 2 (some .int) :: ws) ({ frames := 0, cells := 0, slots := 0, locals := 0 } : Room)) (fun a U => a = #[(.ref a1), (.int p1)] ∧ Z.Warmed39 U.vm ∧ U.heap = h0) (fun _ _ _ _ _ => True) (fun _ U o U' => ∃ v L, o = .returned v ∧ Q_chooseN10 Z a1 p1 ta ca kt kc t0 t1 c0 c1 br co h0 n0 v U'.heap L ∧ FrameEnd U o U' L ({ frames := 0, cells := 0, slots := 0, locals := 0 } : Room).cells ({ frames := 0, cells := 0, slots := 0, locals := 0 } : Room).slots) := by
  refine MetFree.of_bodySF (plainFor_of_name pn_com_example_flote_flote_program_Choices) hisR ?_
  intro p e s m args below meth c s₁ Bd hml0 hP hK
  obtain ⟨rfl, hZ, hh⟩ := hP
  have hx := Bd.exec
  have hby := Bd.bytes
  have hml : c.maxLocals = 2 := hml0
  have hown : s.vm.findClass "com/example/flote/flote/program/Choices" = some m.cls := findClass_of_methodNamed Bd.named
  have hnm := (name_of_methodNamed Bd.named Bd.method).1
  have X0 : Stand p l e ({ frames := 0, cells := 0, slots := 0, locals := 0 } : Room) s m #[(.ref a1), (.int p1)] below meth c s₁ [] 0 0 := Stand.of_body Bd
  have e0 : s₁.heap = h0 := by rw [← hh, Bd.state]; rfl
  have N0 := Fr.nil n0
  obtain ⟨A0, hA0⟩ : ∃ z, z = s₁.setTop (entryFrame m #[(.ref a1), (.int p1)] 2) := ⟨_, rfl⟩
  have K : OGo p e below A0 s₁ (mkF m 0 #[rv a1, iv p1] []) := fun t k => hA0 ▸ castTop (ef_6 m a1 p1) k
  replace K : OGo p e below A0 s₁ (mkF m 1 #[rv a1, iv p1] [(.int p1)]) := fun t k => K t (XS.iloadN X0.here hx rfl (hb hby d6_0) rfl k)
  replace K : OGo p e below A0 s₁ (mkF m 2 #[rv a1, iv p1] [(.int 1), (.int p1)]) := fun t k => K t (XS.iconst X0.here hx rfl (hb hby d6_1) k)
  replace K : OGo p e below A0 s₁ (mkF m 7 #[rv a1, iv p1] []) := fun t k => K t (XS.icmpYes X0.here hx rfl (pc0 := 2) (pc' := 7) rfl (hb hby d6_2) rfl (feq (hp : ¬ (p1 = (1 : Int32)))).2 (by decide) (by decide) k)
  replace K : OGo p e below A0 s₁ (mkF m 8 #[rv a1, iv p1] [(.ref a1)]) := fun t k => K t (XS.aloadN X0.here hx rfl (hb hby d6_7) rfl rfl k)
  obtain ⟨T1, X1, e1, st1⟩ := getF X0 hx hZ hown (host := "") (Or.inl (ow hw 30 rfl)) Via.refl e0 F_met_a1 (g := (mkF m 8 #[rv a1, iv p1] [(.ref a1)])) rfl rfl (hb hby d6_8)
  replace K : OGo p e below A0 T1 (mkF m 11 #[rv a1, iv p1] [(.int 1)]) := fun t k => K t (st1 t k)
  replace K : OGo p e below A0 T1 (mkF m 12 #[rv a1, iv p1] [(.ref a1), (.int 1)]) := fun t k => K t (XS.aloadN X1.here hx rfl (hb hby d6_11) rfl rfl k)
  obtain ⟨T2, X2, e2, st2⟩ := getF X1 hx hZ hown (host := "") (Or.inl (ow hw 15 rfl)) Via.refl e1 F_taken_a1 (g := (mkF m 12 #[rv a1, iv p1] [(.ref a1), (.int 1)])) rfl rfl (hb hby d6_12)
  replace K : OGo p e below A0 T2 (mkF m 15 #[rv a1, iv p1] [(.ref ta), (.int 1)]) := fun t k => K t (st2 t k)
  replace K : OGo p e below A0 T2 (mkF m 16 #[rv a1, iv p1] [(.int 8), (.int 1)]) := fun t k => K t (own_len X2 hx hZ e2 V_ta (n := (8 : Int32)) rfl (g := (mkF m 15 #[rv a1, iv p1] [(.ref ta), (.int 1)])) rfl rfl (hb hby d6_15) t k)
  replace K : OGo p e below A0 T2 (mkF m 53 #[rv a1, iv p1] []) := fun t k => K t (XS.icmpYes X2.here hx rfl (pc0 := 16) (pc' := 53) rfl (hb hby d6_16) rfl (feq ((by decide : ¬ ((1 : Int32) = (8 : Int32))) : ¬ ((1 : Int32) = (8 : Int32)))).2 (by decide) (by decide) k)
  replace K : OGo p e below A0 T2 (mkF m 54 #[rv a1, iv p1] [(.ref a1)]) := fun t k => K t (XS.aloadN X2.here hx rfl (hb hby d6_53) rfl rfl k)
  obtain ⟨T3, X3, e3, st3⟩ := getF X2 hx hZ hown (host := "") (Or.inl (ow hw 30 rfl)) Via.refl e2 F_met_a1 (g := (mkF m 54 #[rv a1, iv p1] [(.ref a1)])) rfl rfl (hb hby d6_54)
  replace K : OGo p e below A0 T3 (mkF m 57 #[rv a1, iv p1] [(.int 1)]) := fun t k => K t (st3 t k)
  replace K : OGo p e below A0 T3 (mkF m 58 #[rv a1, iv p1] [(.ref a1), (.int 1)]) := fun t k => K t (XS.aloadN X3.here hx rfl (hb hby d6_57) rfl rfl k)
  obtain ⟨T4, X4, e4, st4⟩ := getF X3 hx hZ hown (host := "") (Or.inl (ow hw 32 rfl)) Via.refl e3 F_repeated_a1 (g := (mkF m 58 #[rv a1, iv p1] [(.ref a1), (.int 1)])) rfl rfl (hb hby d6_58)
  replace K : OGo p e below A0 T4 (mkF m 61 #[rv a1, iv p1] [(.int 0), (.int 1)]) := fun t k => K t (st4 t k)
  replace K : OGo p e below A0 T4 (mkF m 64 #[rv a1, iv p1] []) := fun t k => K t (XS.icmpNo X4.here hx rfl (hb hby d6_61) rfl (flt ((by decide : ¬ ((1 : Int32) < (0 : Int32))) : ¬ ((1 : Int32) < (0 : Int32)))).1 k)
  replace K : OGo p e below A0 T4 (mkF m 65 #[rv a1, iv p1] [(.ref a1)]) := fun t k => K t (XS.aloadN X4.here hx rfl (hb hby d6_64) rfl rfl k)
  obtain ⟨T5, X5, e5, st5⟩ := getF X4 hx hZ hown (host := "") (Or.inl (ow hw 15 rfl)) Via.refl e4 F_taken_a1 (g := (mkF m 65 #[rv a1, iv p1] [(.ref a1)])) rfl rfl (hb hby d6_65)
  replace K : OGo p e below A0 T5 (mkF m 68 #[rv a1, iv p1] [(.ref ta)]) := fun t k => K t (st5 t k)
  replace K : OGo p e below A0 T5 (mkF m 69 #[rv a1, iv p1] [(.ref a1), (.ref ta)]) := fun t k => K t (XS.aloadN X5.here hx rfl (hb hby d6_68) rfl rfl k)
  obtain ⟨T6, X6, e6, st6⟩ := getF X5 hx hZ hown (host := "") (Or.inl (ow hw 30 rfl)) Via.refl e5 F_met_a1 (g := (mkF m 69 #[rv a1, iv p1] [(.ref a1), (.ref ta)])) rfl rfl (hb hby d6_69)
  replace K : OGo p e below A0 T6 (mkF m 72 #[rv a1, iv p1] [(.int 1), (.ref ta)]) := fun t k => K t (st6 t k)
  replace K : OGo p e below A0 T6 (mkF m 73 #[rv a1, iv p1] [(.int 0), (.int 1), (.ref ta)]) := fun t k => K t (XS.iconst X6.here hx rfl (hb hby d6_72) k)
  obtain ⟨T7, h7, X7, e7, W7, V7, st7⟩ := own_stI X6 hx hZ e6 V_ta (j := (1 : Int32)) (by decide) (Nat.le_of_ble_eq_true rfl) (g := (mkF m 73 #[rv a1, iv p1] [(.int 0), (.int 1), (.ref ta)])) rfl rfl (hb hby d6_73)
  have Z7 : n0 ≤ h7.size := Nat.le_trans Z0 (Keep.of_wr W7).1
  have Kp7 : Keep h0 h7 [a1, ta, ca] := (Keep.refl h0 [a1, ta, ca]).wr W7 (Or.inl (List.mem_of_getElem? (i := 1) rfl))
  have V_ta_7 : OAr Z h7 ta kt .int (oA8 t0 (0 : Int32)) := V7
  have N7 := Fr.snoc X7 N0 g_ta
  replace K : OGo p e below A0 T7 (mkF m 74 #[rv a1, iv p1] []) := fun t k => K t (st7 t k)
  replace K : OGo p e below A0 T7 (mkF m 75 #[rv a1, iv p1] [(.ref a1)]) := fun t k => K t (XS.aloadN X7.here hx rfl (hb hby d6_74) rfl rfl k)
  have F_counts_a1_8 := (F_counts_a1.other W7 (Or.inl ne_a1_ta))
  obtain ⟨T9, X9, e9, st9⟩ := getF X7 hx hZ hown (host := "") (Or.inl (ow hw 17 rfl)) Via.refl e7 F_counts_a1_8 (g := (mkF m 75 #[rv a1, iv p1] [(.ref a1)])) rfl rfl (hb hby d6_75)
  replace K : OGo p e below A0 T9 (mkF m 78 #[rv a1, iv p1] [(.ref ca)]) := fun t k => K t (st9 t k)
  replace K : OGo p e below A0 T9 (mkF m 79 #[rv a1, iv p1] [(.ref a1), (.ref ca)]) := fun t k => K t (XS.aloadN X9.here hx rfl (hb hby d6_78) rfl rfl k)
  have F_met_a1_10 := (F_met_a1.other W7 (Or.inl ne_a1_ta))
  obtain ⟨T11, X11, e11, st11⟩ := getF X9 hx hZ hown (host := "") (Or.inl (ow hw 30 rfl)) Via.refl e9 F_met_a1_10 (g := (mkF m 79 #[rv a1, iv p1] [(.ref a1), (.ref ca)])) rfl rfl (hb hby d6_79)
  replace K : OGo p e below A0 T11 (mkF m 82 #[rv a1, iv p1] [(.int 1), (.ref ca)]) := fun t k => K t (st11 t k)
  replace K : OGo p e below A0 T11 (mkF m 83 #[rv a1, iv p1] [(.int p1), (.int 1), (.ref ca)]) := fun t k => K t (XS.iloadN X11.here hx rfl (hb hby d6_82) rfl k)
  have V_ca_12 := (V_ca.other W7 (Ne.symm ne_ta_ca))
  obtain ⟨T13, h13, X13, e13, W13, V13, st13⟩ := own_stI X11 hx hZ e11 V_ca_12 (j := (1 : Int32)) (by decide) (Nat.le_of_ble_eq_true rfl) (g := (mkF m 83 #[rv a1, iv p1] [(.int p1), (.int 1), (.ref ca)])) rfl rfl (hb hby d6_83)
  have Z13 : n0 ≤ h13.size := Nat.le_trans Z7 (Keep.of_wr W13).1
  have Kp13 : Keep h0 h13 [a1, ta, ca] := Kp7.wr W13 (Or.inl (List.mem_of_getElem? (i := 2) rfl))
  have V_ca_13 : OAr Z h13 ca kc .int (oA8 c0 p1) := V13
  have N13 := Fr.snoc X13 N7 g_ca
  replace K : OGo p e below A0 T13 (mkF m 84 #[rv a1, iv p1] []) := fun t k => K t (st13 t k)
  replace K : OGo p e below A0 T13 (mkF m 85 #[rv a1, iv p1] [(.ref a1)]) := fun t k => K t (XS.aloadN X13.here hx rfl (hb hby d6_84) rfl rfl k)
  have F_taken_a1_14 := ((F_taken_a1.other W7 (Or.inl ne_a1_ta)).other W13 (Or.inl ne_a1_ca))
  obtain ⟨T15, X15, e15, st15⟩ := getF X13 hx hZ hown (host := "") (Or.inl (ow hw 15 rfl)) Via.refl e13 F_taken_a1_14 (g := (mkF m 85 #[rv a1, iv p1] [(.ref a1)])) rfl rfl (hb hby d6_85)
  replace K : OGo p e below A0 T15 (mkF m 88 #[rv a1, iv p1] [(.ref ta)]) := fun t k => K t (st15 t k)
  replace K : OGo p e below A0 T15 (mkF m 89 #[rv a1, iv p1] [(.ref a1), (.ref ta)]) := fun t k => K t (XS.aloadN X15.here hx rfl (hb hby d6_88) rfl rfl k)
  replace K : OGo p e below A0 T15 (mkF m 90 #[rv a1, iv p1] [(.ref a1), (.ref a1), (.ref ta)]) := fun t k => K t (XS.dup X15.here hx rfl (hb hby d6_89) rfl rfl k)
  have F_met_a1_16 := (F_met_a1_10.other W13 (Or.inl ne_a1_ca))
  obtain ⟨T17, X17, e17, st17⟩ := getF X15 hx hZ hown (host := "") (Or.inl (ow hw 30 rfl)) Via.refl e15 F_met_a1_16 (g := (mkF m 90 #[rv a1, iv p1] [(.ref a1), (.ref a1), (.ref ta)])) rfl rfl (hb hby d6_90)
  replace K : OGo p e below A0 T17 (mkF m 93 #[rv a1, iv p1] [(.int 1), (.ref a1), (.ref ta)]) := fun t k => K t (st17 t k)
  replace K : OGo p e below A0 T17 (mkF m 94 #[rv a1, iv p1] [(.int 1), (.ref a1), (.int 1), (.ref ta)]) := fun t k => K t (XS.dupX1 X17.here hx rfl (hb hby d6_93) rfl rfl rfl k)
  replace K : OGo p e below A0 T17 (mkF m 95 #[rv a1, iv p1] [(.int 1), (.int 1), (.ref a1), (.int 1), (.ref ta)]) := fun t k => K t (XS.iconst X17.here hx rfl (hb hby d6_94) k)
  replace K : OGo p e below A0 T17 (mkF m 96 #[rv a1, iv p1] [(.int 2), (.ref a1), (.int 1), (.ref ta)]) := fun t k => K t (XS.iadd X17.here hx rfl (hb hby d6_95) rfl k)
  have E_a1_18 := ((E_a1.wr W7).wr W13)
  obtain ⟨T19, h19, X19, e19, W19, st19⟩ := putF X17 hx hZ hown (host := "") (Or.inl (ow hw 30 rfl)) Via.refl e17 F_met_a1_16 E_a1_18 (Or.inl (ow hw 31 rfl)) (ow hw 6 rfl) (ty := .int) (by decide) rfl rfl (g := (mkF m 96 #[rv a1, iv p1] [(.int 2), (.ref a1), (.int 1), (.ref ta)])) rfl rfl (hb hby d6_96)
  have Z19 : n0 ≤ h19.size := Nat.le_trans Z13 (Keep.of_wr W19).1
  have Kp19 : Keep h0 h19 [a1, ta, ca] := Kp13.wr W19 (Or.inl (List.mem_of_getElem? (i := 0) rfl))
  have F_met_a1_19 := F_met_a1_16.same W19
  have N19 := Fr.snoc X19 N13 g_a1
  replace K : OGo p e below A0 T19 (mkF m 99 #[rv a1, iv p1] [(.int 1), (.ref ta)]) := fun t k => K t (st19 t k)
  have V_ta_20 := ((V_ta_7.other W13 ne_ta_ca).other W19 (Ne.symm ne_a1_ta))
  replace K : OGo p e below A0 T19 (mkF m 100 #[rv a1, iv p1] [(.int 0)]) := fun t k => K t (own_ldI X19 hx hZ e19 V_ta_20 (j := (1 : Int32)) (v := (.int (0 : Int32))) (by decide) rfl (g := (mkF m 99 #[rv a1, iv p1] [(.int 1), (.ref ta)])) rfl rfl (hb hby d6_99) t k)
  have E_a1_21 := (E_a1_18.wr W19)
  have F_taken_a1_22 := (F_taken_a1_14.other W19 (Or.inr (sn_cN0_taken_met hw)))
  have F_counts_a1_23 := ((F_counts_a1_8.other W13 (Or.inl ne_a1_ca)).other W19 (Or.inr (sn_cN0_counts_met hw)))
  have F_repeated_a1_24 := (((F_repeated_a1.other W7 (Or.inl ne_a1_ta)).other W13 (Or.inl ne_a1_ca)).other W19 (Or.inr (sn_cN0_repeated_met hw)))
  have F_branches_a1_25 := (((F_branches_a1.other W7 (Or.inl ne_a1_ta)).other W13 (Or.inl ne_a1_ca)).other W19 (Or.inr (sn_cN0_branches_met hw)))
  have F_computed_a1_26 := (((F_computed_a1.other W7 (Or.inl ne_a1_ta)).other W13 (Or.inl ne_a1_ca)).other W19 (Or.inr (sn_cN0_computed_met hw)))
  have V_ca_27 := (V_ca_13.other W19 (Ne.symm ne_a1_ca))
  obtain ⟨fs, hr, hrun, hended, hW, hsame⟩ := X19.leave (v := some (.int (0 : Int32))) (fun h => by rw [Bd.returns] at h; cases h)
  subst hA0
  refine ⟨_, _, K _ (retOut X19 hx Bd.returns rfl (Or.inl ⟨rfl, Or.inl rfl, _, rfl⟩) (hb hby d6_100) hr), hrun, hended, _, _, rfl, ?_, ⟨_, rfl⟩, hW, hsame.mono (by decide) (by decide)⟩
  show Q_chooseN10 Z a1 p1 ta ca kt kc t0 t1 c0 c1 br co h0 n0 _ T19.heap _
  rw [e19]
  exact ⟨rfl, N19, Kp19, E_a1_21, F_taken_a1_22, F_counts_a1_23, F_met_a1_19, F_repeated_a1_24, F_branches_a1_25, F_computed_a1_26, V_ta_20, V_ca_27⟩
def Q_chooseN11 (Z : State) (a1 : Addr) (p1 : Int32) (ta : Addr) (ca : Addr) (kt : ClassId) (kc : ClassId) (t0 : Int32) (t1 : Int32) (c0 : Int32) (c1 : Int32) (br : Int32) (co : Int32) (h0 : Heap) (n0 : Nat) (v : Option Value) (h : Heap) (L : List Loc) : Prop := v = some (.int (0 : Int32)) ∧ Fr n0 L ∧ Keep h0 h [a1, ta, ca] ∧ Exa Z h a1 cN0 ∧ Fld Z h a1 cN0 "taken" "[I" (.ref ta) ∧ Fld Z h a1 cN0 "counts" "[I" (.ref ca) ∧ Fld Z h a1 cN0 "met" "I" (.int (2 : Int32)) ∧ Fld Z h a1 cN0 "repeated" "I" (.int (1 : Int32)) ∧ Fld Z h a1 cN0 "branches" "I" (.int br) ∧ Fld Z h a1 cN0 "computed" "I" (.int co) ∧ OAr Z h ta kt .int (oA8 t0 (0 : Int32)) ∧ OAr Z h ca kc .int (oA8 c0 p1)
set_option maxRecDepth 65536 in
set_option maxHeartbeats 40000000 in
theorem rm_chooseN11 (l : Launch) (Z : State) (a0 : Array Value) (hw : ∀ d ∈ tables_1, d.before a0 Z = true) (ws : List Jvm.Cond) (a1 : Addr) (p1 : Int32) (ta : Addr) (ca : Addr) (kt : ClassId) (kc : ClassId) (t0 : Int32) (t1 : Int32) (c0 : Int32) (c1 : Int32) (br : Int32) (co : Int32) (h0 : Heap) (n0 : Nat) (Z0 : n0 ≤ h0.size) (E_a1 : Exa Z h0 a1 cN0) (F_taken_a1 : Fld Z h0 a1 cN0 "taken" "[I" (.ref ta)) (F_counts_a1 : Fld Z h0 a1 cN0 "counts" "[I" (.ref ca)) (F_met_a1 : Fld Z h0 a1 cN0 "met" "I" (.int (1 : Int32))) (F_repeated_a1 : Fld Z h0 a1 cN0 "repeated" "I" (.int (1 : Int32))) (F_branches_a1 : Fld Z h0 a1 cN0 "branches" "I" (.int br)) (F_computed_a1 : Fld Z h0 a1 cN0 "computed" "I" (.int co)) (V_ta : OAr Z h0 ta kt .int (oA8 t0 t1)) (V_ca : OAr Z h0 ca kc .int (oA8 c0 c1)) (g_a1 : n0 ≤ a1) (g_ta : n0 ≤ ta) (g_ca : n0 ≤ ca) (ne_a1_ta : a1 ≠ ta) (ne_a1_ca : a1 ≠ ca) (ne_ta_ca : ta ≠ ca) (hp : ¬ p1 = (1 : Int32)) :
    MetFree l mN4 (head1 (Jvm.Cond.code mN4 prog_72_method_3_code 2 (some .int) :: ws) ({ frames := 0, cells := 0, slots := 0, locals := 0 } : Room)) (fun a U => a = #[(.ref a1), (.int p1)] ∧ Z.Warmed39 U.vm ∧ U.heap = h0) (fun _ _ _ _ _ => True) (fun _ U o U' => ∃ v L, o = .returned v ∧ Q_chooseN11 Z a1 p1 ta ca kt kc t0 t1 c0 c1 br co h0 n0 v U'.heap L ∧ FrameEnd U o U' L ({ frames := 0, cells := 0, slots := 0, locals := 0 } : Room).cells ({ frames := 0, cells := 0, slots := 0, locals := 0 } : Room).slots) := by
  refine MetFree.of_bodySF (plainFor_of_name pn_com_example_flote_flote_program_Choices) hisR ?_
  intro p e s m args below meth c s₁ Bd hml0 hP hK
  obtain ⟨rfl, hZ, hh⟩ := hP
  have hx := Bd.exec
  have hby := Bd.bytes
  have hml : c.maxLocals = 2 := hml0
  have hown : s.vm.findClass "com/example/flote/flote/program/Choices" = some m.cls := findClass_of_methodNamed Bd.named
  have hnm := (name_of_methodNamed Bd.named Bd.method).1
  have X0 : Stand p l e ({ frames := 0, cells := 0, slots := 0, locals := 0 } : Room) s m #[(.ref a1), (.int p1)] below meth c s₁ [] 0 0 := Stand.of_body Bd
  have e0 : s₁.heap = h0 := by rw [← hh, Bd.state]; rfl
  have N0 := Fr.nil n0
  obtain ⟨A0, hA0⟩ : ∃ z, z = s₁.setTop (entryFrame m #[(.ref a1), (.int p1)] 2) := ⟨_, rfl⟩
  have K : OGo p e below A0 s₁ (mkF m 0 #[rv a1, iv p1] []) := fun t k => hA0 ▸ castTop (ef_6 m a1 p1) k
  replace K : OGo p e below A0 s₁ (mkF m 1 #[rv a1, iv p1] [(.int p1)]) := fun t k => K t (XS.iloadN X0.here hx rfl (hb hby d6_0) rfl k)
  replace K : OGo p e below A0 s₁ (mkF m 2 #[rv a1, iv p1] [(.int 1), (.int p1)]) := fun t k => K t (XS.iconst X0.here hx rfl (hb hby d6_1) k)
  replace K : OGo p e below A0 s₁ (mkF m 7 #[rv a1, iv p1] []) := fun t k => K t (XS.icmpYes X0.here hx rfl (pc0 := 2) (pc' := 7) rfl (hb hby d6_2) rfl (feq (hp : ¬ (p1 = (1 : Int32)))).2 (by decide) (by decide) k)
  replace K : OGo p e below A0 s₁ (mkF m 8 #[rv a1, iv p1] [(.ref a1)]) := fun t k => K t (XS.aloadN X0.here hx rfl (hb hby d6_7) rfl rfl k)
  obtain ⟨T1, X1, e1, st1⟩ := getF X0 hx hZ hown (host := "") (Or.inl (ow hw 30 rfl)) Via.refl e0 F_met_a1 (g := (mkF m 8 #[rv a1, iv p1] [(.ref a1)])) rfl rfl (hb hby d6_8)
  replace K : OGo p e below A0 T1 (mkF m 11 #[rv a1, iv p1] [(.int 1)]) := fun t k => K t (st1 t k)
  replace K : OGo p e below A0 T1 (mkF m 12 #[rv a1, iv p1] [(.ref a1), (.int 1)]) := fun t k => K t (XS.aloadN X1.here hx rfl (hb hby d6_11) rfl rfl k)
  obtain ⟨T2, X2, e2, st2⟩ := getF X1 hx hZ hown (host := "") (Or.inl (ow hw 15 rfl)) Via.refl e1 F_taken_a1 (g := (mkF m 12 #[rv a1, iv p1] [(.ref a1), (.int 1)])) rfl rfl (hb hby d6_12)
  replace K : OGo p e below A0 T2 (mkF m 15 #[rv a1, iv p1] [(.ref ta), (.int 1)]) := fun t k => K t (st2 t k)
  replace K : OGo p e below A0 T2 (mkF m 16 #[rv a1, iv p1] [(.int 8), (.int 1)]) := fun t k => K t (own_len X2 hx hZ e2 V_ta (n := (8 : Int32)) rfl (g := (mkF m 15 #[rv a1, iv p1] [(.ref ta), (.int 1)])) rfl rfl (hb hby d6_15) t k)
  replace K : OGo p e below A0 T2 (mkF m 53 #[rv a1, iv p1] []) := fun t k => K t (XS.icmpYes X2.here hx rfl (pc0 := 16) (pc' := 53) rfl (hb hby d6_16) rfl (feq ((by decide : ¬ ((1 : Int32) = (8 : Int32))) : ¬ ((1 : Int32) = (8 : Int32)))).2 (by decide) (by decide) k)
  replace K : OGo p e below A0 T2 (mkF m 54 #[rv a1, iv p1] [(.ref a1)]) := fun t k => K t (XS.aloadN X2.here hx rfl (hb hby d6_53) rfl rfl k)
  obtain ⟨T3, X3, e3, st3⟩ := getF X2 hx hZ hown (host := "") (Or.inl (ow hw 30 rfl)) Via.refl e2 F_met_a1 (g := (mkF m 54 #[rv a1, iv p1] [(.ref a1)])) rfl rfl (hb hby d6_54)
  replace K : OGo p e below A0 T3 (mkF m 57 #[rv a1, iv p1] [(.int 1)]) := fun t k => K t (st3 t k)
  replace K : OGo p e below A0 T3 (mkF m 58 #[rv a1, iv p1] [(.ref a1), (.int 1)]) := fun t k => K t (XS.aloadN X3.here hx rfl (hb hby d6_57) rfl rfl k)
  obtain ⟨T4, X4, e4, st4⟩ := getF X3 hx hZ hown (host := "") (Or.inl (ow hw 32 rfl)) Via.refl e3 F_repeated_a1 (g := (mkF m 58 #[rv a1, iv p1] [(.ref a1), (.int 1)])) rfl rfl (hb hby d6_58)
  replace K : OGo p e below A0 T4 (mkF m 61 #[rv a1, iv p1] [(.int 1), (.int 1)]) := fun t k => K t (st4 t k)
  replace K : OGo p e below A0 T4 (mkF m 64 #[rv a1, iv p1] []) := fun t k => K t (XS.icmpNo X4.here hx rfl (hb hby d6_61) rfl (flt ((by decide : ¬ ((1 : Int32) < (1 : Int32))) : ¬ ((1 : Int32) < (1 : Int32)))).1 k)
  replace K : OGo p e below A0 T4 (mkF m 65 #[rv a1, iv p1] [(.ref a1)]) := fun t k => K t (XS.aloadN X4.here hx rfl (hb hby d6_64) rfl rfl k)
  obtain ⟨T5, X5, e5, st5⟩ := getF X4 hx hZ hown (host := "") (Or.inl (ow hw 15 rfl)) Via.refl e4 F_taken_a1 (g := (mkF m 65 #[rv a1, iv p1] [(.ref a1)])) rfl rfl (hb hby d6_65)
  replace K : OGo p e below A0 T5 (mkF m 68 #[rv a1, iv p1] [(.ref ta)]) := fun t k => K t (st5 t k)
  replace K : OGo p e below A0 T5 (mkF m 69 #[rv a1, iv p1] [(.ref a1), (.ref ta)]) := fun t k => K t (XS.aloadN X5.here hx rfl (hb hby d6_68) rfl rfl k)
  obtain ⟨T6, X6, e6, st6⟩ := getF X5 hx hZ hown (host := "") (Or.inl (ow hw 30 rfl)) Via.refl e5 F_met_a1 (g := (mkF m 69 #[rv a1, iv p1] [(.ref a1), (.ref ta)])) rfl rfl (hb hby d6_69)
  replace K : OGo p e below A0 T6 (mkF m 72 #[rv a1, iv p1] [(.int 1), (.ref ta)]) := fun t k => K t (st6 t k)
  replace K : OGo p e below A0 T6 (mkF m 73 #[rv a1, iv p1] [(.int 0), (.int 1), (.ref ta)]) := fun t k => K t (XS.iconst X6.here hx rfl (hb hby d6_72) k)
  obtain ⟨T7, h7, X7, e7, W7, V7, st7⟩ := own_stI X6 hx hZ e6 V_ta (j := (1 : Int32)) (by decide) (Nat.le_of_ble_eq_true rfl) (g := (mkF m 73 #[rv a1, iv p1] [(.int 0), (.int 1), (.ref ta)])) rfl rfl (hb hby d6_73)
  have Z7 : n0 ≤ h7.size := Nat.le_trans Z0 (Keep.of_wr W7).1
  have Kp7 : Keep h0 h7 [a1, ta, ca] := (Keep.refl h0 [a1, ta, ca]).wr W7 (Or.inl (List.mem_of_getElem? (i := 1) rfl))
  have V_ta_7 : OAr Z h7 ta kt .int (oA8 t0 (0 : Int32)) := V7
  have N7 := Fr.snoc X7 N0 g_ta
  replace K : OGo p e below A0 T7 (mkF m 74 #[rv a1, iv p1] []) := fun t k => K t (st7 t k)
  replace K : OGo p e below A0 T7 (mkF m 75 #[rv a1, iv p1] [(.ref a1)]) := fun t k => K t (XS.aloadN X7.here hx rfl (hb hby d6_74) rfl rfl k)
  have F_counts_a1_8 := (F_counts_a1.other W7 (Or.inl ne_a1_ta))
  obtain ⟨T9, X9, e9, st9⟩ := getF X7 hx hZ hown (host := "") (Or.inl (ow hw 17 rfl)) Via.refl e7 F_counts_a1_8 (g := (mkF m 75 #[rv a1, iv p1] [(.ref a1)])) rfl rfl (hb hby d6_75)
  replace K : OGo p e below A0 T9 (mkF m 78 #[rv a1, iv p1] [(.ref ca)]) := fun t k => K t (st9 t k)
  replace K : OGo p e below A0 T9 (mkF m 79 #[rv a1, iv p1] [(.ref a1), (.ref ca)]) := fun t k => K t (XS.aloadN X9.here hx rfl (hb hby d6_78) rfl rfl k)
  have F_met_a1_10 := (F_met_a1.other W7 (Or.inl ne_a1_ta))
  obtain ⟨T11, X11, e11, st11⟩ := getF X9 hx hZ hown (host := "") (Or.inl (ow hw 30 rfl)) Via.refl e9 F_met_a1_10 (g := (mkF m 79 #[rv a1, iv p1] [(.ref a1), (.ref ca)])) rfl rfl (hb hby d6_79)
  replace K : OGo p e below A0 T11 (mkF m 82 #[rv a1, iv p1] [(.int 1), (.ref ca)]) := fun t k => K t (st11 t k)
  replace K : OGo p e below A0 T11 (mkF m 83 #[rv a1, iv p1] [(.int p1), (.int 1), (.ref ca)]) := fun t k => K t (XS.iloadN X11.here hx rfl (hb hby d6_82) rfl k)
  have V_ca_12 := (V_ca.other W7 (Ne.symm ne_ta_ca))
  obtain ⟨T13, h13, X13, e13, W13, V13, st13⟩ := own_stI X11 hx hZ e11 V_ca_12 (j := (1 : Int32)) (by decide) (Nat.le_of_ble_eq_true rfl) (g := (mkF m 83 #[rv a1, iv p1] [(.int p1), (.int 1), (.ref ca)])) rfl rfl (hb hby d6_83)
  have Z13 : n0 ≤ h13.size := Nat.le_trans Z7 (Keep.of_wr W13).1
  have Kp13 : Keep h0 h13 [a1, ta, ca] := Kp7.wr W13 (Or.inl (List.mem_of_getElem? (i := 2) rfl))
  have V_ca_13 : OAr Z h13 ca kc .int (oA8 c0 p1) := V13
  have N13 := Fr.snoc X13 N7 g_ca
  replace K : OGo p e below A0 T13 (mkF m 84 #[rv a1, iv p1] []) := fun t k => K t (st13 t k)
  replace K : OGo p e below A0 T13 (mkF m 85 #[rv a1, iv p1] [(.ref a1)]) := fun t k => K t (XS.aloadN X13.here hx rfl (hb hby d6_84) rfl rfl k)
  have F_taken_a1_14 := ((F_taken_a1.other W7 (Or.inl ne_a1_ta)).other W13 (Or.inl ne_a1_ca))
  obtain ⟨T15, X15, e15, st15⟩ := getF X13 hx hZ hown (host := "") (Or.inl (ow hw 15 rfl)) Via.refl e13 F_taken_a1_14 (g := (mkF m 85 #[rv a1, iv p1] [(.ref a1)])) rfl rfl (hb hby d6_85)
  replace K : OGo p e below A0 T15 (mkF m 88 #[rv a1, iv p1] [(.ref ta)]) := fun t k => K t (st15 t k)
  replace K : OGo p e below A0 T15 (mkF m 89 #[rv a1, iv p1] [(.ref a1), (.ref ta)]) := fun t k => K t (XS.aloadN X15.here hx rfl (hb hby d6_88) rfl rfl k)
  replace K : OGo p e below A0 T15 (mkF m 90 #[rv a1, iv p1] [(.ref a1), (.ref a1), (.ref ta)]) := fun t k => K t (XS.dup X15.here hx rfl (hb hby d6_89) rfl rfl k)
  have F_met_a1_16 := (F_met_a1_10.other W13 (Or.inl ne_a1_ca))
  obtain ⟨T17, X17, e17, st17⟩ := getF X15 hx hZ hown (host := "") (Or.inl (ow hw 30 rfl)) Via.refl e15 F_met_a1_16 (g := (mkF m 90 #[rv a1, iv p1] [(.ref a1), (.ref a1), (.ref ta)])) rfl rfl (hb hby d6_90)
  replace K : OGo p e below A0 T17 (mkF m 93 #[rv a1, iv p1] [(.int 1), (.ref a1), (.ref ta)]) := fun t k => K t (st17 t k)
  replace K : OGo p e below A0 T17 (mkF m 94 #[rv a1, iv p1] [(.int 1), (.ref a1), (.int 1), (.ref ta)]) := fun t k => K t (XS.dupX1 X17.here hx rfl (hb hby d6_93) rfl rfl rfl k)
  replace K : OGo p e below A0 T17 (mkF m 95 #[rv a1, iv p1] [(.int 1), (.int 1), (.ref a1), (.int 1), (.ref ta)]) := fun t k => K t (XS.iconst X17.here hx rfl (hb hby d6_94) k)
  replace K : OGo p e below A0 T17 (mkF m 96 #[rv a1, iv p1] [(.int 2), (.ref a1), (.int 1), (.ref ta)]) := fun t k => K t (XS.iadd X17.here hx rfl (hb hby d6_95) rfl k)
  have E_a1_18 := ((E_a1.wr W7).wr W13)
  obtain ⟨T19, h19, X19, e19, W19, st19⟩ := putF X17 hx hZ hown (host := "") (Or.inl (ow hw 30 rfl)) Via.refl e17 F_met_a1_16 E_a1_18 (Or.inl (ow hw 31 rfl)) (ow hw 6 rfl) (ty := .int) (by decide) rfl rfl (g := (mkF m 96 #[rv a1, iv p1] [(.int 2), (.ref a1), (.int 1), (.ref ta)])) rfl rfl (hb hby d6_96)
  have Z19 : n0 ≤ h19.size := Nat.le_trans Z13 (Keep.of_wr W19).1
  have Kp19 : Keep h0 h19 [a1, ta, ca] := Kp13.wr W19 (Or.inl (List.mem_of_getElem? (i := 0) rfl))
  have F_met_a1_19 := F_met_a1_16.same W19
  have N19 := Fr.snoc X19 N13 g_a1
  replace K : OGo p e below A0 T19 (mkF m 99 #[rv a1, iv p1] [(.int 1), (.ref ta)]) := fun t k => K t (st19 t k)
  have V_ta_20 := ((V_ta_7.other W13 ne_ta_ca).other W19 (Ne.symm ne_a1_ta))
  replace K : OGo p e below A0 T19 (mkF m 100 #[rv a1, iv p1] [(.int 0)]) := fun t k => K t (own_ldI X19 hx hZ e19 V_ta_20 (j := (1 : Int32)) (v := (.int (0 : Int32))) (by decide) rfl (g := (mkF m 99 #[rv a1, iv p1] [(.int 1), (.ref ta)])) rfl rfl (hb hby d6_99) t k)
  have E_a1_21 := (E_a1_18.wr W19)
  have F_taken_a1_22 := (F_taken_a1_14.other W19 (Or.inr (sn_cN0_taken_met hw)))
  have F_counts_a1_23 := ((F_counts_a1_8.other W13 (Or.inl ne_a1_ca)).other W19 (Or.inr (sn_cN0_counts_met hw)))
  have F_repeated_a1_24 := (((F_repeated_a1.other W7 (Or.inl ne_a1_ta)).other W13 (Or.inl ne_a1_ca)).other W19 (Or.inr (sn_cN0_repeated_met hw)))
  have F_branches_a1_25 := (((F_branches_a1.other W7 (Or.inl ne_a1_ta)).other W13 (Or.inl ne_a1_ca)).other W19 (Or.inr (sn_cN0_branches_met hw)))
  have F_computed_a1_26 := (((F_computed_a1.other W7 (Or.inl ne_a1_ta)).other W13 (Or.inl ne_a1_ca)).other W19 (Or.inr (sn_cN0_computed_met hw)))
  have V_ca_27 := (V_ca_13.other W19 (Ne.symm ne_a1_ca))
  obtain ⟨fs, hr, hrun, hended, hW, hsame⟩ := X19.leave (v := some (.int (0 : Int32))) (fun h => by rw [Bd.returns] at h; cases h)
  subst hA0
  refine ⟨_, _, K _ (retOut X19 hx Bd.returns rfl (Or.inl ⟨rfl, Or.inl rfl, _, rfl⟩) (hb hby d6_100) hr), hrun, hended, _, _, rfl, ?_, ⟨_, rfl⟩, hW, hsame.mono (by decide) (by decide)⟩
  show Q_chooseN11 Z a1 p1 ta ca kt kc t0 t1 c0 c1 br co h0 n0 _ T19.heap _
  rw [e19]
  exact ⟨rfl, N19, Kp19, E_a1_21, F_taken_a1_22, F_counts_a1_23, F_met_a1_19, F_repeated_a1_24, F_branches_a1_25, F_computed_a1_26, V_ta_20, V_ca_27⟩
def Q_chooseR01L (Z : State) (a1 : Addr) (ta : Addr) (ca : Addr) (kt : ClassId) (kc : ClassId) (t0 : Int32) (t1 : Int32) (c0 : Int32) (c1 : Int32) (br : Int32) (co : Int32) (h0 : Heap) (n0 : Nat) (v : Option Value) (h : Heap) (L : List Loc) : Prop := v = some (.int t0) ∧ Fr n0 L ∧ Keep h0 h [a1, ta, ca] ∧ Exa Z h a1 cN0 ∧ Fld Z h a1 cN0 "taken" "[I" (.ref ta) ∧ Fld Z h a1 cN0 "counts" "[I" (.ref ca) ∧ Fld Z h a1 cN0 "met" "I" (.int (1 : Int32)) ∧ Fld Z h a1 cN0 "repeated" "I" (.int (1 : Int32)) ∧ Fld Z h a1 cN0 "branches" "I" (.int br) ∧ Fld Z h a1 cN0 "computed" "I" (.int co) ∧ OAr Z h ta kt .int (oA8 t0 t1) ∧ OAr Z h ca kc .int (oA8 c0 c1)
set_option maxRecDepth 65536 in
set_option maxHeartbeats 40000000 in
theorem rm_chooseR01L (l : Launch) (Z : State) (a0 : Array Value) (hw : ∀ d ∈ tables_1, d.before a0 Z = true) (ws : List Jvm.Cond) (a1 : Addr) (ta : Addr) (ca : Addr) (kt : ClassId) (kc : ClassId) (t0 : Int32) (t1 : Int32) (c0 : Int32) (c1 : Int32) (br : Int32) (co : Int32) (h0 : Heap) (n0 : Nat) (Z0 : n0 ≤ h0.size) (E_a1 : Exa Z h0 a1 cN0) (F_taken_a1 : Fld Z h0 a1 cN0 "taken" "[I" (.ref ta)) (F_counts_a1 : Fld Z h0 a1 cN0 "counts" "[I" (.ref ca)) (F_met_a1 : Fld Z h0 a1 cN0 "met" "I" (.int (0 : Int32))) (F_repeated_a1 : Fld Z h0 a1 cN0 "repeated" "I" (.int (1 : Int32))) (F_branches_a1 : Fld Z h0 a1 cN0 "branches" "I" (.int br)) (F_computed_a1 : Fld Z h0 a1 cN0 "computed" "I" (.int co)) (V_ta : OAr Z h0 ta kt .int (oA8 t0 t1)) (V_ca : OAr Z h0 ca kc .int (oA8 c0 c1)) (g_a1 : n0 ≤ a1) (g_ta : n0 ≤ ta) (g_ca : n0 ≤ ca) (ne_a1_ta : a1 ≠ ta) (ne_a1_ca : a1 ≠ ca) (ne_ta_ca : ta ≠ ca) :
    MetFree l mN4 (head1 (Jvm.Cond.code mN4 prog_72_method_3_code 2 (some .int) :: ws) ({ frames := 0, cells := 0, slots := 0, locals := 0 } : Room)) (fun a U => a = #[(.ref a1), (.int (2 : Int32))] ∧ Z.Warmed39 U.vm ∧ U.heap = h0) (fun _ _ _ _ _ => True) (fun _ U o U' => ∃ v L, o = .returned v ∧ Q_chooseR01L Z a1 ta ca kt kc t0 t1 c0 c1 br co h0 n0 v U'.heap L ∧ FrameEnd U o U' L ({ frames := 0, cells := 0, slots := 0, locals := 0 } : Room).cells ({ frames := 0, cells := 0, slots := 0, locals := 0 } : Room).slots) := by
  refine MetFree.of_bodySF (plainFor_of_name pn_com_example_flote_flote_program_Choices) hisR ?_
  intro p e s m args below meth c s₁ Bd hml0 hP hK
  obtain ⟨rfl, hZ, hh⟩ := hP
  have hx := Bd.exec
  have hby := Bd.bytes
  have hml : c.maxLocals = 2 := hml0
  have hown : s.vm.findClass "com/example/flote/flote/program/Choices" = some m.cls := findClass_of_methodNamed Bd.named
  have hnm := (name_of_methodNamed Bd.named Bd.method).1
  have X0 : Stand p l e ({ frames := 0, cells := 0, slots := 0, locals := 0 } : Room) s m #[(.ref a1), (.int (2 : Int32))] below meth c s₁ [] 0 0 := Stand.of_body Bd
  have e0 : s₁.heap = h0 := by rw [← hh, Bd.state]; rfl
  have N0 := Fr.nil n0
  obtain ⟨A0, hA0⟩ : ∃ z, z = s₁.setTop (entryFrame m #[(.ref a1), (.int (2 : Int32))] 2) := ⟨_, rfl⟩
  have K : OGo p e below A0 s₁ (mkF m 0 #[rv a1, iv 2] []) := fun t k => hA0 ▸ castTop (ef_6 m a1 (2 : Int32)) k
  replace K : OGo p e below A0 s₁ (mkF m 1 #[rv a1, iv 2] [(.int 2)]) := fun t k => K t (XS.iloadN X0.here hx rfl (hb hby d6_0) rfl k)
  replace K : OGo p e below A0 s₁ (mkF m 2 #[rv a1, iv 2] [(.int 1), (.int 2)]) := fun t k => K t (XS.iconst X0.here hx rfl (hb hby d6_1) k)
  replace K : OGo p e below A0 s₁ (mkF m 7 #[rv a1, iv 2] []) := fun t k => K t (XS.icmpYes X0.here hx rfl (pc0 := 2) (pc' := 7) rfl (hb hby d6_2) rfl (feq ((by decide : ¬ ((2 : Int32) = (1 : Int32))) : ¬ ((2 : Int32) = (1 : Int32)))).2 (by decide) (by decide) k)
  replace K : OGo p e below A0 s₁ (mkF m 8 #[rv a1, iv 2] [(.ref a1)]) := fun t k => K t (XS.aloadN X0.here hx rfl (hb hby d6_7) rfl rfl k)
  obtain ⟨T1, X1, e1, st1⟩ := getF X0 hx hZ hown (host := "") (Or.inl (ow hw 30 rfl)) Via.refl e0 F_met_a1 (g := (mkF m 8 #[rv a1, iv 2] [(.ref a1)])) rfl rfl (hb hby d6_8)
  replace K : OGo p e below A0 T1 (mkF m 11 #[rv a1, iv 2] [(.int 0)]) := fun t k => K t (st1 t k)
  replace K : OGo p e below A0 T1 (mkF m 12 #[rv a1, iv 2] [(.ref a1), (.int 0)]) := fun t k => K t (XS.aloadN X1.here hx rfl (hb hby d6_11) rfl rfl k)
  obtain ⟨T2, X2, e2, st2⟩ := getF X1 hx hZ hown (host := "") (Or.inl (ow hw 15 rfl)) Via.refl e1 F_taken_a1 (g := (mkF m 12 #[rv a1, iv 2] [(.ref a1), (.int 0)])) rfl rfl (hb hby d6_12)
  replace K : OGo p e below A0 T2 (mkF m 15 #[rv a1, iv 2] [(.ref ta), (.int 0)]) := fun t k => K t (st2 t k)
  replace K : OGo p e below A0 T2 (mkF m 16 #[rv a1, iv 2] [(.int 8), (.int 0)]) := fun t k => K t (own_len X2 hx hZ e2 V_ta (n := (8 : Int32)) rfl (g := (mkF m 15 #[rv a1, iv 2] [(.ref ta), (.int 0)])) rfl rfl (hb hby d6_15) t k)
  replace K : OGo p e below A0 T2 (mkF m 53 #[rv a1, iv 2] []) := fun t k => K t (XS.icmpYes X2.here hx rfl (pc0 := 16) (pc' := 53) rfl (hb hby d6_16) rfl (feq ((by decide : ¬ ((0 : Int32) = (8 : Int32))) : ¬ ((0 : Int32) = (8 : Int32)))).2 (by decide) (by decide) k)
  replace K : OGo p e below A0 T2 (mkF m 54 #[rv a1, iv 2] [(.ref a1)]) := fun t k => K t (XS.aloadN X2.here hx rfl (hb hby d6_53) rfl rfl k)
  obtain ⟨T3, X3, e3, st3⟩ := getF X2 hx hZ hown (host := "") (Or.inl (ow hw 30 rfl)) Via.refl e2 F_met_a1 (g := (mkF m 54 #[rv a1, iv 2] [(.ref a1)])) rfl rfl (hb hby d6_54)
  replace K : OGo p e below A0 T3 (mkF m 57 #[rv a1, iv 2] [(.int 0)]) := fun t k => K t (st3 t k)
  replace K : OGo p e below A0 T3 (mkF m 58 #[rv a1, iv 2] [(.ref a1), (.int 0)]) := fun t k => K t (XS.aloadN X3.here hx rfl (hb hby d6_57) rfl rfl k)
  obtain ⟨T4, X4, e4, st4⟩ := getF X3 hx hZ hown (host := "") (Or.inl (ow hw 32 rfl)) Via.refl e3 F_repeated_a1 (g := (mkF m 58 #[rv a1, iv 2] [(.ref a1), (.int 0)])) rfl rfl (hb hby d6_58)
  replace K : OGo p e below A0 T4 (mkF m 61 #[rv a1, iv 2] [(.int 1), (.int 0)]) := fun t k => K t (st4 t k)
  replace K : OGo p e below A0 T4 (mkF m 84 #[rv a1, iv 2] []) := fun t k => K t (XS.icmpYes X4.here hx rfl (pc0 := 61) (pc' := 84) rfl (hb hby d6_61) rfl (tlt ((by decide : (0 : Int32) < (1 : Int32)) : (0 : Int32) < (1 : Int32))).1 (by decide) (by decide) k)
  replace K : OGo p e below A0 T4 (mkF m 85 #[rv a1, iv 2] [(.ref a1)]) := fun t k => K t (XS.aloadN X4.here hx rfl (hb hby d6_84) rfl rfl k)
  obtain ⟨T5, X5, e5, st5⟩ := getF X4 hx hZ hown (host := "") (Or.inl (ow hw 15 rfl)) Via.refl e4 F_taken_a1 (g := (mkF m 85 #[rv a1, iv 2] [(.ref a1)])) rfl rfl (hb hby d6_85)
  replace K : OGo p e below A0 T5 (mkF m 88 #[rv a1, iv 2] [(.ref ta)]) := fun t k => K t (st5 t k)
  replace K : OGo p e below A0 T5 (mkF m 89 #[rv a1, iv 2] [(.ref a1), (.ref ta)]) := fun t k => K t (XS.aloadN X5.here hx rfl (hb hby d6_88) rfl rfl k)
  replace K : OGo p e below A0 T5 (mkF m 90 #[rv a1, iv 2] [(.ref a1), (.ref a1), (.ref ta)]) := fun t k => K t (XS.dup X5.here hx rfl (hb hby d6_89) rfl rfl k)
  obtain ⟨T6, X6, e6, st6⟩ := getF X5 hx hZ hown (host := "") (Or.inl (ow hw 30 rfl)) Via.refl e5 F_met_a1 (g := (mkF m 90 #[rv a1, iv 2] [(.ref a1), (.ref a1), (.ref ta)])) rfl rfl (hb hby d6_90)
  replace K : OGo p e below A0 T6 (mkF m 93 #[rv a1, iv 2] [(.int 0), (.ref a1), (.ref ta)]) := fun t k => K t (st6 t k)
  replace K : OGo p e below A0 T6 (mkF m 94 #[rv a1, iv 2] [(.int 0), (.ref a1), (.int 0), (.ref ta)]) := fun t k => K t (XS.dupX1 X6.here hx rfl (hb hby d6_93) rfl rfl rfl k)
  replace K : OGo p e below A0 T6 (mkF m 95 #[rv a1, iv 2] [(.int 1), (.int 0), (.ref a1), (.int 0), (.ref ta)]) := fun t k => K t (XS.iconst X6.here hx rfl (hb hby d6_94) k)
  replace K : OGo p e below A0 T6 (mkF m 96 #[rv a1, iv 2] [(.int 1), (.ref a1), (.int 0), (.ref ta)]) := fun t k => K t (XS.iadd X6.here hx rfl (hb hby d6_95) rfl k)
  obtain ⟨T7, h7, X7, e7, W7, st7⟩ := putF X6 hx hZ hown (host := "") (Or.inl (ow hw 30 rfl)) Via.refl e6 F_met_a1 E_a1 (Or.inl (ow hw 31 rfl)) (ow hw 6 rfl) (ty := .int) (by decide) rfl rfl (g := (mkF m 96 #[rv a1, iv 2] [(.int 1), (.ref a1), (.int 0), (.ref ta)])) rfl rfl (hb hby d6_96)
  have Z7 : n0 ≤ h7.size := Nat.le_trans Z0 (Keep.of_wr W7).1
  have Kp7 : Keep h0 h7 [a1, ta, ca] := (Keep.refl h0 [a1, ta, ca]).wr W7 (Or.inl (List.mem_of_getElem? (i := 0) rfl))
  have F_met_a1_7 := F_met_a1.same W7
  have N7 := Fr.snoc X7 N0 g_a1
  replace K : OGo p e below A0 T7 (mkF m 99 #[rv a1, iv 2] [(.int 0), (.ref ta)]) := fun t k => K t (st7 t k)
  have V_ta_8 := (V_ta.other W7 (Ne.symm ne_a1_ta))
  replace K : OGo p e below A0 T7 (mkF m 100 #[rv a1, iv 2] [(.int t0)]) := fun t k => K t (own_ldI X7 hx hZ e7 V_ta_8 (j := (0 : Int32)) (v := (.int t0)) (by decide) rfl (g := (mkF m 99 #[rv a1, iv 2] [(.int 0), (.ref ta)])) rfl rfl (hb hby d6_99) t k)
  have E_a1_9 := (E_a1.wr W7)
  have F_taken_a1_10 := (F_taken_a1.other W7 (Or.inr (sn_cN0_taken_met hw)))
  have F_counts_a1_11 := (F_counts_a1.other W7 (Or.inr (sn_cN0_counts_met hw)))
  have F_repeated_a1_12 := (F_repeated_a1.other W7 (Or.inr (sn_cN0_repeated_met hw)))
  have F_branches_a1_13 := (F_branches_a1.other W7 (Or.inr (sn_cN0_branches_met hw)))
  have F_computed_a1_14 := (F_computed_a1.other W7 (Or.inr (sn_cN0_computed_met hw)))
  have V_ca_15 := (V_ca.other W7 (Ne.symm ne_a1_ca))
  obtain ⟨fs, hr, hrun, hended, hW, hsame⟩ := X7.leave (v := some (.int t0)) (fun h => by rw [Bd.returns] at h; cases h)
  subst hA0
  refine ⟨_, _, K _ (retOut X7 hx Bd.returns rfl (Or.inl ⟨rfl, Or.inl rfl, _, rfl⟩) (hb hby d6_100) hr), hrun, hended, _, _, rfl, ?_, ⟨_, rfl⟩, hW, hsame.mono (by decide) (by decide)⟩
  show Q_chooseR01L Z a1 ta ca kt kc t0 t1 c0 c1 br co h0 n0 _ T7.heap _
  rw [e7]
  exact ⟨rfl, N7, Kp7, E_a1_9, F_taken_a1_10, F_counts_a1_11, F_met_a1_7, F_repeated_a1_12, F_branches_a1_13, F_computed_a1_14, V_ta_8, V_ca_15⟩
def Q_chooseR02L (Z : State) (a1 : Addr) (ta : Addr) (ca : Addr) (kt : ClassId) (kc : ClassId) (t0 : Int32) (t1 : Int32) (c0 : Int32) (c1 : Int32) (br : Int32) (co : Int32) (h0 : Heap) (n0 : Nat) (v : Option Value) (h : Heap) (L : List Loc) : Prop := v = some (.int t0) ∧ Fr n0 L ∧ Keep h0 h [a1, ta, ca] ∧ Exa Z h a1 cN0 ∧ Fld Z h a1 cN0 "taken" "[I" (.ref ta) ∧ Fld Z h a1 cN0 "counts" "[I" (.ref ca) ∧ Fld Z h a1 cN0 "met" "I" (.int (1 : Int32)) ∧ Fld Z h a1 cN0 "repeated" "I" (.int (2 : Int32)) ∧ Fld Z h a1 cN0 "branches" "I" (.int br) ∧ Fld Z h a1 cN0 "computed" "I" (.int co) ∧ OAr Z h ta kt .int (oA8 t0 t1) ∧ OAr Z h ca kc .int (oA8 c0 c1)
set_option maxRecDepth 65536 in
set_option maxHeartbeats 40000000 in
theorem rm_chooseR02L (l : Launch) (Z : State) (a0 : Array Value) (hw : ∀ d ∈ tables_1, d.before a0 Z = true) (ws : List Jvm.Cond) (a1 : Addr) (ta : Addr) (ca : Addr) (kt : ClassId) (kc : ClassId) (t0 : Int32) (t1 : Int32) (c0 : Int32) (c1 : Int32) (br : Int32) (co : Int32) (h0 : Heap) (n0 : Nat) (Z0 : n0 ≤ h0.size) (E_a1 : Exa Z h0 a1 cN0) (F_taken_a1 : Fld Z h0 a1 cN0 "taken" "[I" (.ref ta)) (F_counts_a1 : Fld Z h0 a1 cN0 "counts" "[I" (.ref ca)) (F_met_a1 : Fld Z h0 a1 cN0 "met" "I" (.int (0 : Int32))) (F_repeated_a1 : Fld Z h0 a1 cN0 "repeated" "I" (.int (2 : Int32))) (F_branches_a1 : Fld Z h0 a1 cN0 "branches" "I" (.int br)) (F_computed_a1 : Fld Z h0 a1 cN0 "computed" "I" (.int co)) (V_ta : OAr Z h0 ta kt .int (oA8 t0 t1)) (V_ca : OAr Z h0 ca kc .int (oA8 c0 c1)) (g_a1 : n0 ≤ a1) (g_ta : n0 ≤ ta) (g_ca : n0 ≤ ca) (ne_a1_ta : a1 ≠ ta) (ne_a1_ca : a1 ≠ ca) (ne_ta_ca : ta ≠ ca) :
    MetFree l mN4 (head1 (Jvm.Cond.code mN4 prog_72_method_3_code 2 (some .int) :: ws) ({ frames := 0, cells := 0, slots := 0, locals := 0 } : Room)) (fun a U => a = #[(.ref a1), (.int (2 : Int32))] ∧ Z.Warmed39 U.vm ∧ U.heap = h0) (fun _ _ _ _ _ => True) (fun _ U o U' => ∃ v L, o = .returned v ∧ Q_chooseR02L Z a1 ta ca kt kc t0 t1 c0 c1 br co h0 n0 v U'.heap L ∧ FrameEnd U o U' L ({ frames := 0, cells := 0, slots := 0, locals := 0 } : Room).cells ({ frames := 0, cells := 0, slots := 0, locals := 0 } : Room).slots) := by
  refine MetFree.of_bodySF (plainFor_of_name pn_com_example_flote_flote_program_Choices) hisR ?_
  intro p e s m args below meth c s₁ Bd hml0 hP hK
  obtain ⟨rfl, hZ, hh⟩ := hP
  have hx := Bd.exec
  have hby := Bd.bytes
  have hml : c.maxLocals = 2 := hml0
  have hown : s.vm.findClass "com/example/flote/flote/program/Choices" = some m.cls := findClass_of_methodNamed Bd.named
  have hnm := (name_of_methodNamed Bd.named Bd.method).1
  have X0 : Stand p l e ({ frames := 0, cells := 0, slots := 0, locals := 0 } : Room) s m #[(.ref a1), (.int (2 : Int32))] below meth c s₁ [] 0 0 := Stand.of_body Bd
  have e0 : s₁.heap = h0 := by rw [← hh, Bd.state]; rfl
  have N0 := Fr.nil n0
  obtain ⟨A0, hA0⟩ : ∃ z, z = s₁.setTop (entryFrame m #[(.ref a1), (.int (2 : Int32))] 2) := ⟨_, rfl⟩
  have K : OGo p e below A0 s₁ (mkF m 0 #[rv a1, iv 2] []) := fun t k => hA0 ▸ castTop (ef_6 m a1 (2 : Int32)) k
  replace K : OGo p e below A0 s₁ (mkF m 1 #[rv a1, iv 2] [(.int 2)]) := fun t k => K t (XS.iloadN X0.here hx rfl (hb hby d6_0) rfl k)
  replace K : OGo p e below A0 s₁ (mkF m 2 #[rv a1, iv 2] [(.int 1), (.int 2)]) := fun t k => K t (XS.iconst X0.here hx rfl (hb hby d6_1) k)
  replace K : OGo p e below A0 s₁ (mkF m 7 #[rv a1, iv 2] []) := fun t k => K t (XS.icmpYes X0.here hx rfl (pc0 := 2) (pc' := 7) rfl (hb hby d6_2) rfl (feq ((by decide : ¬ ((2 : Int32) = (1 : Int32))) : ¬ ((2 : Int32) = (1 : Int32)))).2 (by decide) (by decide) k)
  replace K : OGo p e below A0 s₁ (mkF m 8 #[rv a1, iv 2] [(.ref a1)]) := fun t k => K t (XS.aloadN X0.here hx rfl (hb hby d6_7) rfl rfl k)
  obtain ⟨T1, X1, e1, st1⟩ := getF X0 hx hZ hown (host := "") (Or.inl (ow hw 30 rfl)) Via.refl e0 F_met_a1 (g := (mkF m 8 #[rv a1, iv 2] [(.ref a1)])) rfl rfl (hb hby d6_8)
  replace K : OGo p e below A0 T1 (mkF m 11 #[rv a1, iv 2] [(.int 0)]) := fun t k => K t (st1 t k)
  replace K : OGo p e below A0 T1 (mkF m 12 #[rv a1, iv 2] [(.ref a1), (.int 0)]) := fun t k => K t (XS.aloadN X1.here hx rfl (hb hby d6_11) rfl rfl k)
  obtain ⟨T2, X2, e2, st2⟩ := getF X1 hx hZ hown (host := "") (Or.inl (ow hw 15 rfl)) Via.refl e1 F_taken_a1 (g := (mkF m 12 #[rv a1, iv 2] [(.ref a1), (.int 0)])) rfl rfl (hb hby d6_12)
  replace K : OGo p e below A0 T2 (mkF m 15 #[rv a1, iv 2] [(.ref ta), (.int 0)]) := fun t k => K t (st2 t k)
  replace K : OGo p e below A0 T2 (mkF m 16 #[rv a1, iv 2] [(.int 8), (.int 0)]) := fun t k => K t (own_len X2 hx hZ e2 V_ta (n := (8 : Int32)) rfl (g := (mkF m 15 #[rv a1, iv 2] [(.ref ta), (.int 0)])) rfl rfl (hb hby d6_15) t k)
  replace K : OGo p e below A0 T2 (mkF m 53 #[rv a1, iv 2] []) := fun t k => K t (XS.icmpYes X2.here hx rfl (pc0 := 16) (pc' := 53) rfl (hb hby d6_16) rfl (feq ((by decide : ¬ ((0 : Int32) = (8 : Int32))) : ¬ ((0 : Int32) = (8 : Int32)))).2 (by decide) (by decide) k)
  replace K : OGo p e below A0 T2 (mkF m 54 #[rv a1, iv 2] [(.ref a1)]) := fun t k => K t (XS.aloadN X2.here hx rfl (hb hby d6_53) rfl rfl k)
  obtain ⟨T3, X3, e3, st3⟩ := getF X2 hx hZ hown (host := "") (Or.inl (ow hw 30 rfl)) Via.refl e2 F_met_a1 (g := (mkF m 54 #[rv a1, iv 2] [(.ref a1)])) rfl rfl (hb hby d6_54)
  replace K : OGo p e below A0 T3 (mkF m 57 #[rv a1, iv 2] [(.int 0)]) := fun t k => K t (st3 t k)
  replace K : OGo p e below A0 T3 (mkF m 58 #[rv a1, iv 2] [(.ref a1), (.int 0)]) := fun t k => K t (XS.aloadN X3.here hx rfl (hb hby d6_57) rfl rfl k)
  obtain ⟨T4, X4, e4, st4⟩ := getF X3 hx hZ hown (host := "") (Or.inl (ow hw 32 rfl)) Via.refl e3 F_repeated_a1 (g := (mkF m 58 #[rv a1, iv 2] [(.ref a1), (.int 0)])) rfl rfl (hb hby d6_58)
  replace K : OGo p e below A0 T4 (mkF m 61 #[rv a1, iv 2] [(.int 2), (.int 0)]) := fun t k => K t (st4 t k)
  replace K : OGo p e below A0 T4 (mkF m 84 #[rv a1, iv 2] []) := fun t k => K t (XS.icmpYes X4.here hx rfl (pc0 := 61) (pc' := 84) rfl (hb hby d6_61) rfl (tlt ((by decide : (0 : Int32) < (2 : Int32)) : (0 : Int32) < (2 : Int32))).1 (by decide) (by decide) k)
  replace K : OGo p e below A0 T4 (mkF m 85 #[rv a1, iv 2] [(.ref a1)]) := fun t k => K t (XS.aloadN X4.here hx rfl (hb hby d6_84) rfl rfl k)
  obtain ⟨T5, X5, e5, st5⟩ := getF X4 hx hZ hown (host := "") (Or.inl (ow hw 15 rfl)) Via.refl e4 F_taken_a1 (g := (mkF m 85 #[rv a1, iv 2] [(.ref a1)])) rfl rfl (hb hby d6_85)
  replace K : OGo p e below A0 T5 (mkF m 88 #[rv a1, iv 2] [(.ref ta)]) := fun t k => K t (st5 t k)
  replace K : OGo p e below A0 T5 (mkF m 89 #[rv a1, iv 2] [(.ref a1), (.ref ta)]) := fun t k => K t (XS.aloadN X5.here hx rfl (hb hby d6_88) rfl rfl k)
  replace K : OGo p e below A0 T5 (mkF m 90 #[rv a1, iv 2] [(.ref a1), (.ref a1), (.ref ta)]) := fun t k => K t (XS.dup X5.here hx rfl (hb hby d6_89) rfl rfl k)
  obtain ⟨T6, X6, e6, st6⟩ := getF X5 hx hZ hown (host := "") (Or.inl (ow hw 30 rfl)) Via.refl e5 F_met_a1 (g := (mkF m 90 #[rv a1, iv 2] [(.ref a1), (.ref a1), (.ref ta)])) rfl rfl (hb hby d6_90)
  replace K : OGo p e below A0 T6 (mkF m 93 #[rv a1, iv 2] [(.int 0), (.ref a1), (.ref ta)]) := fun t k => K t (st6 t k)
  replace K : OGo p e below A0 T6 (mkF m 94 #[rv a1, iv 2] [(.int 0), (.ref a1), (.int 0), (.ref ta)]) := fun t k => K t (XS.dupX1 X6.here hx rfl (hb hby d6_93) rfl rfl rfl k)
  replace K : OGo p e below A0 T6 (mkF m 95 #[rv a1, iv 2] [(.int 1), (.int 0), (.ref a1), (.int 0), (.ref ta)]) := fun t k => K t (XS.iconst X6.here hx rfl (hb hby d6_94) k)
  replace K : OGo p e below A0 T6 (mkF m 96 #[rv a1, iv 2] [(.int 1), (.ref a1), (.int 0), (.ref ta)]) := fun t k => K t (XS.iadd X6.here hx rfl (hb hby d6_95) rfl k)
  obtain ⟨T7, h7, X7, e7, W7, st7⟩ := putF X6 hx hZ hown (host := "") (Or.inl (ow hw 30 rfl)) Via.refl e6 F_met_a1 E_a1 (Or.inl (ow hw 31 rfl)) (ow hw 6 rfl) (ty := .int) (by decide) rfl rfl (g := (mkF m 96 #[rv a1, iv 2] [(.int 1), (.ref a1), (.int 0), (.ref ta)])) rfl rfl (hb hby d6_96)
  have Z7 : n0 ≤ h7.size := Nat.le_trans Z0 (Keep.of_wr W7).1
  have Kp7 : Keep h0 h7 [a1, ta, ca] := (Keep.refl h0 [a1, ta, ca]).wr W7 (Or.inl (List.mem_of_getElem? (i := 0) rfl))
  have F_met_a1_7 := F_met_a1.same W7
  have N7 := Fr.snoc X7 N0 g_a1
  replace K : OGo p e below A0 T7 (mkF m 99 #[rv a1, iv 2] [(.int 0), (.ref ta)]) := fun t k => K t (st7 t k)
  have V_ta_8 := (V_ta.other W7 (Ne.symm ne_a1_ta))
  replace K : OGo p e below A0 T7 (mkF m 100 #[rv a1, iv 2] [(.int t0)]) := fun t k => K t (own_ldI X7 hx hZ e7 V_ta_8 (j := (0 : Int32)) (v := (.int t0)) (by decide) rfl (g := (mkF m 99 #[rv a1, iv 2] [(.int 0), (.ref ta)])) rfl rfl (hb hby d6_99) t k)
  have E_a1_9 := (E_a1.wr W7)
  have F_taken_a1_10 := (F_taken_a1.other W7 (Or.inr (sn_cN0_taken_met hw)))
  have F_counts_a1_11 := (F_counts_a1.other W7 (Or.inr (sn_cN0_counts_met hw)))
  have F_repeated_a1_12 := (F_repeated_a1.other W7 (Or.inr (sn_cN0_repeated_met hw)))
  have F_branches_a1_13 := (F_branches_a1.other W7 (Or.inr (sn_cN0_branches_met hw)))
  have F_computed_a1_14 := (F_computed_a1.other W7 (Or.inr (sn_cN0_computed_met hw)))
  have V_ca_15 := (V_ca.other W7 (Ne.symm ne_a1_ca))
  obtain ⟨fs, hr, hrun, hended, hW, hsame⟩ := X7.leave (v := some (.int t0)) (fun h => by rw [Bd.returns] at h; cases h)
  subst hA0
  refine ⟨_, _, K _ (retOut X7 hx Bd.returns rfl (Or.inl ⟨rfl, Or.inl rfl, _, rfl⟩) (hb hby d6_100) hr), hrun, hended, _, _, rfl, ?_, ⟨_, rfl⟩, hW, hsame.mono (by decide) (by decide)⟩
  show Q_chooseR02L Z a1 ta ca kt kc t0 t1 c0 c1 br co h0 n0 _ T7.heap _
  rw [e7]
  exact ⟨rfl, N7, Kp7, E_a1_9, F_taken_a1_10, F_counts_a1_11, F_met_a1_7, F_repeated_a1_12, F_branches_a1_13, F_computed_a1_14, V_ta_8, V_ca_15⟩
def Q_chooseR12L (Z : State) (a1 : Addr) (ta : Addr) (ca : Addr) (kt : ClassId) (kc : ClassId) (t0 : Int32) (t1 : Int32) (c0 : Int32) (c1 : Int32) (br : Int32) (co : Int32) (h0 : Heap) (n0 : Nat) (v : Option Value) (h : Heap) (L : List Loc) : Prop := v = some (.int t1) ∧ Fr n0 L ∧ Keep h0 h [a1, ta, ca] ∧ Exa Z h a1 cN0 ∧ Fld Z h a1 cN0 "taken" "[I" (.ref ta) ∧ Fld Z h a1 cN0 "counts" "[I" (.ref ca) ∧ Fld Z h a1 cN0 "met" "I" (.int (2 : Int32)) ∧ Fld Z h a1 cN0 "repeated" "I" (.int (2 : Int32)) ∧ Fld Z h a1 cN0 "branches" "I" (.int br) ∧ Fld Z h a1 cN0 "computed" "I" (.int co) ∧ OAr Z h ta kt .int (oA8 t0 t1) ∧ OAr Z h ca kc .int (oA8 c0 c1)
set_option maxRecDepth 65536 in
set_option maxHeartbeats 40000000 in
theorem rm_chooseR12L (l : Launch) (Z : State) (a0 : Array Value) (hw : ∀ d ∈ tables_1, d.before a0 Z = true) (ws : List Jvm.Cond) (a1 : Addr) (ta : Addr) (ca : Addr) (kt : ClassId) (kc : ClassId) (t0 : Int32) (t1 : Int32) (c0 : Int32) (c1 : Int32) (br : Int32) (co : Int32) (h0 : Heap) (n0 : Nat) (Z0 : n0 ≤ h0.size) (E_a1 : Exa Z h0 a1 cN0) (F_taken_a1 : Fld Z h0 a1 cN0 "taken" "[I" (.ref ta)) (F_counts_a1 : Fld Z h0 a1 cN0 "counts" "[I" (.ref ca)) (F_met_a1 : Fld Z h0 a1 cN0 "met" "I" (.int (1 : Int32))) (F_repeated_a1 : Fld Z h0 a1 cN0 "repeated" "I" (.int (2 : Int32))) (F_branches_a1 : Fld Z h0 a1 cN0 "branches" "I" (.int br)) (F_computed_a1 : Fld Z h0 a1 cN0 "computed" "I" (.int co)) (V_ta : OAr Z h0 ta kt .int (oA8 t0 t1)) (V_ca : OAr Z h0 ca kc .int (oA8 c0 c1)) (g_a1 : n0 ≤ a1) (g_ta : n0 ≤ ta) (g_ca : n0 ≤ ca) (ne_a1_ta : a1 ≠ ta) (ne_a1_ca : a1 ≠ ca) (ne_ta_ca : ta ≠ ca) :
    MetFree l mN4 (head1 (Jvm.Cond.code mN4 prog_72_method_3_code 2 (some .int) :: ws) ({ frames := 0, cells := 0, slots := 0, locals := 0 } : Room)) (fun a U => a = #[(.ref a1), (.int (2 : Int32))] ∧ Z.Warmed39 U.vm ∧ U.heap = h0) (fun _ _ _ _ _ => True) (fun _ U o U' => ∃ v L, o = .returned v ∧ Q_chooseR12L Z a1 ta ca kt kc t0 t1 c0 c1 br co h0 n0 v U'.heap L ∧ FrameEnd U o U' L ({ frames := 0, cells := 0, slots := 0, locals := 0 } : Room).cells ({ frames := 0, cells := 0, slots := 0, locals := 0 } : Room).slots) := by
  refine MetFree.of_bodySF (plainFor_of_name pn_com_example_flote_flote_program_Choices) hisR ?_
  intro p e s m args below meth c s₁ Bd hml0 hP hK
  obtain ⟨rfl, hZ, hh⟩ := hP
  have hx := Bd.exec
  have hby := Bd.bytes
  have hml : c.maxLocals = 2 := hml0
  have hown : s.vm.findClass "com/example/flote/flote/program/Choices" = some m.cls := findClass_of_methodNamed Bd.named
  have hnm := (name_of_methodNamed Bd.named Bd.method).1
  have X0 : Stand p l e ({ frames := 0, cells := 0, slots := 0, locals := 0 } : Room) s m #[(.ref a1), (.int (2 : Int32))] below meth c s₁ [] 0 0 := Stand.of_body Bd
  have e0 : s₁.heap = h0 := by rw [← hh, Bd.state]; rfl
  have N0 := Fr.nil n0
  obtain ⟨A0, hA0⟩ : ∃ z, z = s₁.setTop (entryFrame m #[(.ref a1), (.int (2 : Int32))] 2) := ⟨_, rfl⟩
  have K : OGo p e below A0 s₁ (mkF m 0 #[rv a1, iv 2] []) := fun t k => hA0 ▸ castTop (ef_6 m a1 (2 : Int32)) k
  replace K : OGo p e below A0 s₁ (mkF m 1 #[rv a1, iv 2] [(.int 2)]) := fun t k => K t (XS.iloadN X0.here hx rfl (hb hby d6_0) rfl k)
  replace K : OGo p e below A0 s₁ (mkF m 2 #[rv a1, iv 2] [(.int 1), (.int 2)]) := fun t k => K t (XS.iconst X0.here hx rfl (hb hby d6_1) k)
  replace K : OGo p e below A0 s₁ (mkF m 7 #[rv a1, iv 2] []) := fun t k => K t (XS.icmpYes X0.here hx rfl (pc0 := 2) (pc' := 7) rfl (hb hby d6_2) rfl (feq ((by decide : ¬ ((2 : Int32) = (1 : Int32))) : ¬ ((2 : Int32) = (1 : Int32)))).2 (by decide) (by decide) k)
  replace K : OGo p e below A0 s₁ (mkF m 8 #[rv a1, iv 2] [(.ref a1)]) := fun t k => K t (XS.aloadN X0.here hx rfl (hb hby d6_7) rfl rfl k)
  obtain ⟨T1, X1, e1, st1⟩ := getF X0 hx hZ hown (host := "") (Or.inl (ow hw 30 rfl)) Via.refl e0 F_met_a1 (g := (mkF m 8 #[rv a1, iv 2] [(.ref a1)])) rfl rfl (hb hby d6_8)
  replace K : OGo p e below A0 T1 (mkF m 11 #[rv a1, iv 2] [(.int 1)]) := fun t k => K t (st1 t k)
  replace K : OGo p e below A0 T1 (mkF m 12 #[rv a1, iv 2] [(.ref a1), (.int 1)]) := fun t k => K t (XS.aloadN X1.here hx rfl (hb hby d6_11) rfl rfl k)
  obtain ⟨T2, X2, e2, st2⟩ := getF X1 hx hZ hown (host := "") (Or.inl (ow hw 15 rfl)) Via.refl e1 F_taken_a1 (g := (mkF m 12 #[rv a1, iv 2] [(.ref a1), (.int 1)])) rfl rfl (hb hby d6_12)
  replace K : OGo p e below A0 T2 (mkF m 15 #[rv a1, iv 2] [(.ref ta), (.int 1)]) := fun t k => K t (st2 t k)
  replace K : OGo p e below A0 T2 (mkF m 16 #[rv a1, iv 2] [(.int 8), (.int 1)]) := fun t k => K t (own_len X2 hx hZ e2 V_ta (n := (8 : Int32)) rfl (g := (mkF m 15 #[rv a1, iv 2] [(.ref ta), (.int 1)])) rfl rfl (hb hby d6_15) t k)
  replace K : OGo p e below A0 T2 (mkF m 53 #[rv a1, iv 2] []) := fun t k => K t (XS.icmpYes X2.here hx rfl (pc0 := 16) (pc' := 53) rfl (hb hby d6_16) rfl (feq ((by decide : ¬ ((1 : Int32) = (8 : Int32))) : ¬ ((1 : Int32) = (8 : Int32)))).2 (by decide) (by decide) k)
  replace K : OGo p e below A0 T2 (mkF m 54 #[rv a1, iv 2] [(.ref a1)]) := fun t k => K t (XS.aloadN X2.here hx rfl (hb hby d6_53) rfl rfl k)
  obtain ⟨T3, X3, e3, st3⟩ := getF X2 hx hZ hown (host := "") (Or.inl (ow hw 30 rfl)) Via.refl e2 F_met_a1 (g := (mkF m 54 #[rv a1, iv 2] [(.ref a1)])) rfl rfl (hb hby d6_54)
  replace K : OGo p e below A0 T3 (mkF m 57 #[rv a1, iv 2] [(.int 1)]) := fun t k => K t (st3 t k)
  replace K : OGo p e below A0 T3 (mkF m 58 #[rv a1, iv 2] [(.ref a1), (.int 1)]) := fun t k => K t (XS.aloadN X3.here hx rfl (hb hby d6_57) rfl rfl k)
  obtain ⟨T4, X4, e4, st4⟩ := getF X3 hx hZ hown (host := "") (Or.inl (ow hw 32 rfl)) Via.refl e3 F_repeated_a1 (g := (mkF m 58 #[rv a1, iv 2] [(.ref a1), (.int 1)])) rfl rfl (hb hby d6_58)
  replace K : OGo p e below A0 T4 (mkF m 61 #[rv a1, iv 2] [(.int 2), (.int 1)]) := fun t k => K t (st4 t k)
  replace K : OGo p e below A0 T4 (mkF m 84 #[rv a1, iv 2] []) := fun t k => K t (XS.icmpYes X4.here hx rfl (pc0 := 61) (pc' := 84) rfl (hb hby d6_61) rfl (tlt ((by decide : (1 : Int32) < (2 : Int32)) : (1 : Int32) < (2 : Int32))).1 (by decide) (by decide) k)
  replace K : OGo p e below A0 T4 (mkF m 85 #[rv a1, iv 2] [(.ref a1)]) := fun t k => K t (XS.aloadN X4.here hx rfl (hb hby d6_84) rfl rfl k)
  obtain ⟨T5, X5, e5, st5⟩ := getF X4 hx hZ hown (host := "") (Or.inl (ow hw 15 rfl)) Via.refl e4 F_taken_a1 (g := (mkF m 85 #[rv a1, iv 2] [(.ref a1)])) rfl rfl (hb hby d6_85)
  replace K : OGo p e below A0 T5 (mkF m 88 #[rv a1, iv 2] [(.ref ta)]) := fun t k => K t (st5 t k)
  replace K : OGo p e below A0 T5 (mkF m 89 #[rv a1, iv 2] [(.ref a1), (.ref ta)]) := fun t k => K t (XS.aloadN X5.here hx rfl (hb hby d6_88) rfl rfl k)
  replace K : OGo p e below A0 T5 (mkF m 90 #[rv a1, iv 2] [(.ref a1), (.ref a1), (.ref ta)]) := fun t k => K t (XS.dup X5.here hx rfl (hb hby d6_89) rfl rfl k)
  obtain ⟨T6, X6, e6, st6⟩ := getF X5 hx hZ hown (host := "") (Or.inl (ow hw 30 rfl)) Via.refl e5 F_met_a1 (g := (mkF m 90 #[rv a1, iv 2] [(.ref a1), (.ref a1), (.ref ta)])) rfl rfl (hb hby d6_90)
  replace K : OGo p e below A0 T6 (mkF m 93 #[rv a1, iv 2] [(.int 1), (.ref a1), (.ref ta)]) := fun t k => K t (st6 t k)
  replace K : OGo p e below A0 T6 (mkF m 94 #[rv a1, iv 2] [(.int 1), (.ref a1), (.int 1), (.ref ta)]) := fun t k => K t (XS.dupX1 X6.here hx rfl (hb hby d6_93) rfl rfl rfl k)
  replace K : OGo p e below A0 T6 (mkF m 95 #[rv a1, iv 2] [(.int 1), (.int 1), (.ref a1), (.int 1), (.ref ta)]) := fun t k => K t (XS.iconst X6.here hx rfl (hb hby d6_94) k)
  replace K : OGo p e below A0 T6 (mkF m 96 #[rv a1, iv 2] [(.int 2), (.ref a1), (.int 1), (.ref ta)]) := fun t k => K t (XS.iadd X6.here hx rfl (hb hby d6_95) rfl k)
  obtain ⟨T7, h7, X7, e7, W7, st7⟩ := putF X6 hx hZ hown (host := "") (Or.inl (ow hw 30 rfl)) Via.refl e6 F_met_a1 E_a1 (Or.inl (ow hw 31 rfl)) (ow hw 6 rfl) (ty := .int) (by decide) rfl rfl (g := (mkF m 96 #[rv a1, iv 2] [(.int 2), (.ref a1), (.int 1), (.ref ta)])) rfl rfl (hb hby d6_96)
  have Z7 : n0 ≤ h7.size := Nat.le_trans Z0 (Keep.of_wr W7).1
  have Kp7 : Keep h0 h7 [a1, ta, ca] := (Keep.refl h0 [a1, ta, ca]).wr W7 (Or.inl (List.mem_of_getElem? (i := 0) rfl))
  have F_met_a1_7 := F_met_a1.same W7
  have N7 := Fr.snoc X7 N0 g_a1
  replace K : OGo p e below A0 T7 (mkF m 99 #[rv a1, iv 2] [(.int 1), (.ref ta)]) := fun t k => K t (st7 t k)
  have V_ta_8 := (V_ta.other W7 (Ne.symm ne_a1_ta))
  replace K : OGo p e below A0 T7 (mkF m 100 #[rv a1, iv 2] [(.int t1)]) := fun t k => K t (own_ldI X7 hx hZ e7 V_ta_8 (j := (1 : Int32)) (v := (.int t1)) (by decide) rfl (g := (mkF m 99 #[rv a1, iv 2] [(.int 1), (.ref ta)])) rfl rfl (hb hby d6_99) t k)
  have E_a1_9 := (E_a1.wr W7)
  have F_taken_a1_10 := (F_taken_a1.other W7 (Or.inr (sn_cN0_taken_met hw)))
  have F_counts_a1_11 := (F_counts_a1.other W7 (Or.inr (sn_cN0_counts_met hw)))
  have F_repeated_a1_12 := (F_repeated_a1.other W7 (Or.inr (sn_cN0_repeated_met hw)))
  have F_branches_a1_13 := (F_branches_a1.other W7 (Or.inr (sn_cN0_branches_met hw)))
  have F_computed_a1_14 := (F_computed_a1.other W7 (Or.inr (sn_cN0_computed_met hw)))
  have V_ca_15 := (V_ca.other W7 (Ne.symm ne_a1_ca))
  obtain ⟨fs, hr, hrun, hended, hW, hsame⟩ := X7.leave (v := some (.int t1)) (fun h => by rw [Bd.returns] at h; cases h)
  subst hA0
  refine ⟨_, _, K _ (retOut X7 hx Bd.returns rfl (Or.inl ⟨rfl, Or.inl rfl, _, rfl⟩) (hb hby d6_100) hr), hrun, hended, _, _, rfl, ?_, ⟨_, rfl⟩, hW, hsame.mono (by decide) (by decide)⟩
  show Q_chooseR12L Z a1 ta ca kt kc t0 t1 c0 c1 br co h0 n0 _ T7.heap _
  rw [e7]
  exact ⟨rfl, N7, Kp7, E_a1_9, F_taken_a1_10, F_counts_a1_11, F_met_a1_7, F_repeated_a1_12, F_branches_a1_13, F_computed_a1_14, V_ta_8, V_ca_15⟩
def Q_chooseN00L (Z : State) (a1 : Addr) (ta : Addr) (ca : Addr) (kt : ClassId) (kc : ClassId) (t0 : Int32) (t1 : Int32) (c0 : Int32) (c1 : Int32) (br : Int32) (co : Int32) (h0 : Heap) (n0 : Nat) (v : Option Value) (h : Heap) (L : List Loc) : Prop := v = some (.int (0 : Int32)) ∧ Fr n0 L ∧ Keep h0 h [a1, ta, ca] ∧ Exa Z h a1 cN0 ∧ Fld Z h a1 cN0 "taken" "[I" (.ref ta) ∧ Fld Z h a1 cN0 "counts" "[I" (.ref ca) ∧ Fld Z h a1 cN0 "met" "I" (.int (1 : Int32)) ∧ Fld Z h a1 cN0 "repeated" "I" (.int (0 : Int32)) ∧ Fld Z h a1 cN0 "branches" "I" (.int br) ∧ Fld Z h a1 cN0 "computed" "I" (.int co) ∧ OAr Z h ta kt .int (oA8 (0 : Int32) t1) ∧ OAr Z h ca kc .int (oA8 (2 : Int32) c1)
set_option maxRecDepth 65536 in
set_option maxHeartbeats 40000000 in
theorem rm_chooseN00L (l : Launch) (Z : State) (a0 : Array Value) (hw : ∀ d ∈ tables_1, d.before a0 Z = true) (ws : List Jvm.Cond) (a1 : Addr) (ta : Addr) (ca : Addr) (kt : ClassId) (kc : ClassId) (t0 : Int32) (t1 : Int32) (c0 : Int32) (c1 : Int32) (br : Int32) (co : Int32) (h0 : Heap) (n0 : Nat) (Z0 : n0 ≤ h0.size) (E_a1 : Exa Z h0 a1 cN0) (F_taken_a1 : Fld Z h0 a1 cN0 "taken" "[I" (.ref ta)) (F_counts_a1 : Fld Z h0 a1 cN0 "counts" "[I" (.ref ca)) (F_met_a1 : Fld Z h0 a1 cN0 "met" "I" (.int (0 : Int32))) (F_repeated_a1 : Fld Z h0 a1 cN0 "repeated" "I" (.int (0 : Int32))) (F_branches_a1 : Fld Z h0 a1 cN0 "branches" "I" (.int br)) (F_computed_a1 : Fld Z h0 a1 cN0 "computed" "I" (.int co)) (V_ta : OAr Z h0 ta kt .int (oA8 t0 t1)) (V_ca : OAr Z h0 ca kc .int (oA8 c0 c1)) (g_a1 : n0 ≤ a1) (g_ta : n0 ≤ ta) (g_ca : n0 ≤ ca) (ne_a1_ta : a1 ≠ ta) (ne_a1_ca : a1 ≠ ca) (ne_ta_ca : ta ≠ ca) :
    MetFree l mN4 (head1 (Jvm.Cond.code mN4 prog_72_method_3_code 2 (some .int) :: ws) ({ frames := 0, cells := 0, slots := 0, locals := 0 } : Room)) (fun a U => a = #[(.ref a1), (.int (2 : Int32))] ∧ Z.Warmed39 U.vm ∧ U.heap = h0) (fun _ _ _ _ _ => True) (fun _ U o U' => ∃ v L, o = .returned v ∧ Q_chooseN00L Z a1 ta ca kt kc t0 t1 c0 c1 br co h0 n0 v U'.heap L ∧ FrameEnd U o U' L ({ frames := 0, cells := 0, slots := 0, locals := 0 } : Room).cells ({ frames := 0, cells := 0, slots := 0, locals := 0 } : Room).slots) := by
  refine MetFree.of_bodySF (plainFor_of_name pn_com_example_flote_flote_program_Choices) hisR ?_
  intro p e s m args below meth c s₁ Bd hml0 hP hK
  obtain ⟨rfl, hZ, hh⟩ := hP
  have hx := Bd.exec
  have hby := Bd.bytes
  have hml : c.maxLocals = 2 := hml0
  have hown : s.vm.findClass "com/example/flote/flote/program/Choices" = some m.cls := findClass_of_methodNamed Bd.named
  have hnm := (name_of_methodNamed Bd.named Bd.method).1
  have X0 : Stand p l e ({ frames := 0, cells := 0, slots := 0, locals := 0 } : Room) s m #[(.ref a1), (.int (2 : Int32))] below meth c s₁ [] 0 0 := Stand.of_body Bd
  have e0 : s₁.heap = h0 := by rw [← hh, Bd.state]; rfl
  have N0 := Fr.nil n0
  obtain ⟨A0, hA0⟩ : ∃ z, z = s₁.setTop (entryFrame m #[(.ref a1), (.int (2 : Int32))] 2) := ⟨_, rfl⟩
  have K : OGo p e below A0 s₁ (mkF m 0 #[rv a1, iv 2] []) := fun t k => hA0 ▸ castTop (ef_6 m a1 (2 : Int32)) k
  replace K : OGo p e below A0 s₁ (mkF m 1 #[rv a1, iv 2] [(.int 2)]) := fun t k => K t (XS.iloadN X0.here hx rfl (hb hby d6_0) rfl k)
  replace K : OGo p e below A0 s₁ (mkF m 2 #[rv a1, iv 2] [(.int 1), (.int 2)]) := fun t k => K t (XS.iconst X0.here hx rfl (hb hby d6_1) k)
  replace K : OGo p e below A0 s₁ (mkF m 7 #[rv a1, iv 2] []) := fun t k => K t (XS.icmpYes X0.here hx rfl (pc0 := 2) (pc' := 7) rfl (hb hby d6_2) rfl (feq ((by decide : ¬ ((2 : Int32) = (1 : Int32))) : ¬ ((2 : Int32) = (1 : Int32)))).2 (by decide) (by decide) k)
  replace K : OGo p e below A0 s₁ (mkF m 8 #[rv a1, iv 2] [(.ref a1)]) := fun t k => K t (XS.aloadN X0.here hx rfl (hb hby d6_7) rfl rfl k)
  obtain ⟨T1, X1, e1, st1⟩ := getF X0 hx hZ hown (host := "") (Or.inl (ow hw 30 rfl)) Via.refl e0 F_met_a1 (g := (mkF m 8 #[rv a1, iv 2] [(.ref a1)])) rfl rfl (hb hby d6_8)
  replace K : OGo p e below A0 T1 (mkF m 11 #[rv a1, iv 2] [(.int 0)]) := fun t k => K t (st1 t k)
  replace K : OGo p e below A0 T1 (mkF m 12 #[rv a1, iv 2] [(.ref a1), (.int 0)]) := fun t k => K t (XS.aloadN X1.here hx rfl (hb hby d6_11) rfl rfl k)
  obtain ⟨T2, X2, e2, st2⟩ := getF X1 hx hZ hown (host := "") (Or.inl (ow hw 15 rfl)) Via.refl e1 F_taken_a1 (g := (mkF m 12 #[rv a1, iv 2] [(.ref a1), (.int 0)])) rfl rfl (hb hby d6_12)
  replace K : OGo p e below A0 T2 (mkF m 15 #[rv a1, iv 2] [(.ref ta), (.int 0)]) := fun t k => K t (st2 t k)
  replace K : OGo p e below A0 T2 (mkF m 16 #[rv a1, iv 2] [(.int 8), (.int 0)]) := fun t k => K t (own_len X2 hx hZ e2 V_ta (n := (8 : Int32)) rfl (g := (mkF m 15 #[rv a1, iv 2] [(.ref ta), (.int 0)])) rfl rfl (hb hby d6_15) t k)
  replace K : OGo p e below A0 T2 (mkF m 53 #[rv a1, iv 2] []) := fun t k => K t (XS.icmpYes X2.here hx rfl (pc0 := 16) (pc' := 53) rfl (hb hby d6_16) rfl (feq ((by decide : ¬ ((0 : Int32) = (8 : Int32))) : ¬ ((0 : Int32) = (8 : Int32)))).2 (by decide) (by decide) k)
  replace K : OGo p e below A0 T2 (mkF m 54 #[rv a1, iv 2] [(.ref a1)]) := fun t k => K t (XS.aloadN X2.here hx rfl (hb hby d6_53) rfl rfl k)
  obtain ⟨T3, X3, e3, st3⟩ := getF X2 hx hZ hown (host := "") (Or.inl (ow hw 30 rfl)) Via.refl e2 F_met_a1 (g := (mkF m 54 #[rv a1, iv 2] [(.ref a1)])) rfl rfl (hb hby d6_54)
  replace K : OGo p e below A0 T3 (mkF m 57 #[rv a1, iv 2] [(.int 0)]) := fun t k => K t (st3 t k)
  replace K : OGo p e below A0 T3 (mkF m 58 #[rv a1, iv 2] [(.ref a1), (.int 0)]) := fun t k => K t (XS.aloadN X3.here hx rfl (hb hby d6_57) rfl rfl k)
  obtain ⟨T4, X4, e4, st4⟩ := getF X3 hx hZ hown (host := "") (Or.inl (ow hw 32 rfl)) Via.refl e3 F_repeated_a1 (g := (mkF m 58 #[rv a1, iv 2] [(.ref a1), (.int 0)])) rfl rfl (hb hby d6_58)
  replace K : OGo p e below A0 T4 (mkF m 61 #[rv a1, iv 2] [(.int 0), (.int 0)]) := fun t k => K t (st4 t k)
  replace K : OGo p e below A0 T4 (mkF m 64 #[rv a1, iv 2] []) := fun t k => K t (XS.icmpNo X4.here hx rfl (hb hby d6_61) rfl (flt ((by decide : ¬ ((0 : Int32) < (0 : Int32))) : ¬ ((0 : Int32) < (0 : Int32)))).1 k)
  replace K : OGo p e below A0 T4 (mkF m 65 #[rv a1, iv 2] [(.ref a1)]) := fun t k => K t (XS.aloadN X4.here hx rfl (hb hby d6_64) rfl rfl k)
  obtain ⟨T5, X5, e5, st5⟩ := getF X4 hx hZ hown (host := "") (Or.inl (ow hw 15 rfl)) Via.refl e4 F_taken_a1 (g := (mkF m 65 #[rv a1, iv 2] [(.ref a1)])) rfl rfl (hb hby d6_65)
  replace K : OGo p e below A0 T5 (mkF m 68 #[rv a1, iv 2] [(.ref ta)]) := fun t k => K t (st5 t k)
  replace K : OGo p e below A0 T5 (mkF m 69 #[rv a1, iv 2] [(.ref a1), (.ref ta)]) := fun t k => K t (XS.aloadN X5.here hx rfl (hb hby d6_68) rfl rfl k)
  obtain ⟨T6, X6, e6, st6⟩ := getF X5 hx hZ hown (host := "") (Or.inl (ow hw 30 rfl)) Via.refl e5 F_met_a1 (g := (mkF m 69 #[rv a1, iv 2] [(.ref a1), (.ref ta)])) rfl rfl (hb hby d6_69)
  replace K : OGo p e below A0 T6 (mkF m 72 #[rv a1, iv 2] [(.int 0), (.ref ta)]) := fun t k => K t (st6 t k)
  replace K : OGo p e below A0 T6 (mkF m 73 #[rv a1, iv 2] [(.int 0), (.int 0), (.ref ta)]) := fun t k => K t (XS.iconst X6.here hx rfl (hb hby d6_72) k)
  obtain ⟨T7, h7, X7, e7, W7, V7, st7⟩ := own_stI X6 hx hZ e6 V_ta (j := (0 : Int32)) (by decide) (Nat.le_of_ble_eq_true rfl) (g := (mkF m 73 #[rv a1, iv 2] [(.int 0), (.int 0), (.ref ta)])) rfl rfl (hb hby d6_73)
  have Z7 : n0 ≤ h7.size := Nat.le_trans Z0 (Keep.of_wr W7).1
  have Kp7 : Keep h0 h7 [a1, ta, ca] := (Keep.refl h0 [a1, ta, ca]).wr W7 (Or.inl (List.mem_of_getElem? (i := 1) rfl))
  have V_ta_7 : OAr Z h7 ta kt .int (oA8 (0 : Int32) t1) := V7
  have N7 := Fr.snoc X7 N0 g_ta
  replace K : OGo p e below A0 T7 (mkF m 74 #[rv a1, iv 2] []) := fun t k => K t (st7 t k)
  replace K : OGo p e below A0 T7 (mkF m 75 #[rv a1, iv 2] [(.ref a1)]) := fun t k => K t (XS.aloadN X7.here hx rfl (hb hby d6_74) rfl rfl k)
  have F_counts_a1_8 := (F_counts_a1.other W7 (Or.inl ne_a1_ta))
  obtain ⟨T9, X9, e9, st9⟩ := getF X7 hx hZ hown (host := "") (Or.inl (ow hw 17 rfl)) Via.refl e7 F_counts_a1_8 (g := (mkF m 75 #[rv a1, iv 2] [(.ref a1)])) rfl rfl (hb hby d6_75)
  replace K : OGo p e below A0 T9 (mkF m 78 #[rv a1, iv 2] [(.ref ca)]) := fun t k => K t (st9 t k)
  replace K : OGo p e below A0 T9 (mkF m 79 #[rv a1, iv 2] [(.ref a1), (.ref ca)]) := fun t k => K t (XS.aloadN X9.here hx rfl (hb hby d6_78) rfl rfl k)
  have F_met_a1_10 := (F_met_a1.other W7 (Or.inl ne_a1_ta))
  obtain ⟨T11, X11, e11, st11⟩ := getF X9 hx hZ hown (host := "") (Or.inl (ow hw 30 rfl)) Via.refl e9 F_met_a1_10 (g := (mkF m 79 #[rv a1, iv 2] [(.ref a1), (.ref ca)])) rfl rfl (hb hby d6_79)
  replace K : OGo p e below A0 T11 (mkF m 82 #[rv a1, iv 2] [(.int 0), (.ref ca)]) := fun t k => K t (st11 t k)
  replace K : OGo p e below A0 T11 (mkF m 83 #[rv a1, iv 2] [(.int 2), (.int 0), (.ref ca)]) := fun t k => K t (XS.iloadN X11.here hx rfl (hb hby d6_82) rfl k)
  have V_ca_12 := (V_ca.other W7 (Ne.symm ne_ta_ca))
  obtain ⟨T13, h13, X13, e13, W13, V13, st13⟩ := own_stI X11 hx hZ e11 V_ca_12 (j := (0 : Int32)) (by decide) (Nat.le_of_ble_eq_true rfl) (g := (mkF m 83 #[rv a1, iv 2] [(.int 2), (.int 0), (.ref ca)])) rfl rfl (hb hby d6_83)
  have Z13 : n0 ≤ h13.size := Nat.le_trans Z7 (Keep.of_wr W13).1
  have Kp13 : Keep h0 h13 [a1, ta, ca] := Kp7.wr W13 (Or.inl (List.mem_of_getElem? (i := 2) rfl))
  have V_ca_13 : OAr Z h13 ca kc .int (oA8 (2 : Int32) c1) := V13
  have N13 := Fr.snoc X13 N7 g_ca
  replace K : OGo p e below A0 T13 (mkF m 84 #[rv a1, iv 2] []) := fun t k => K t (st13 t k)
  replace K : OGo p e below A0 T13 (mkF m 85 #[rv a1, iv 2] [(.ref a1)]) := fun t k => K t (XS.aloadN X13.here hx rfl (hb hby d6_84) rfl rfl k)
  have F_taken_a1_14 := ((F_taken_a1.other W7 (Or.inl ne_a1_ta)).other W13 (Or.inl ne_a1_ca))
  obtain ⟨T15, X15, e15, st15⟩ := getF X13 hx hZ hown (host := "") (Or.inl (ow hw 15 rfl)) Via.refl e13 F_taken_a1_14 (g := (mkF m 85 #[rv a1, iv 2] [(.ref a1)])) rfl rfl (hb hby d6_85)
  replace K : OGo p e below A0 T15 (mkF m 88 #[rv a1, iv 2] [(.ref ta)]) := fun t k => K t (st15 t k)
  replace K : OGo p e below A0 T15 (mkF m 89 #[rv a1, iv 2] [(.ref a1), (.ref ta)]) := fun t k => K t (XS.aloadN X15.here hx rfl (hb hby d6_88) rfl rfl k)
  replace K : OGo p e below A0 T15 (mkF m 90 #[rv a1, iv 2] [(.ref a1), (.ref a1), (.ref ta)]) := fun t k => K t (XS.dup X15.here hx rfl (hb hby d6_89) rfl rfl k)
  have F_met_a1_16 := (F_met_a1_10.other W13 (Or.inl ne_a1_ca))
  obtain ⟨T17, X17, e17, st17⟩ := getF X15 hx hZ hown (host := "") (Or.inl (ow hw 30 rfl)) Via.refl e15 F_met_a1_16 (g := (mkF m 90 #[rv a1, iv 2] [(.ref a1), (.ref a1), (.ref ta)])) rfl rfl (hb hby d6_90)
  replace K : OGo p e below A0 T17 (mkF m 93 #[rv a1, iv 2] [(.int 0), (.ref a1), (.ref ta)]) := fun t k => K t (st17 t k)
  replace K : OGo p e below A0 T17 (mkF m 94 #[rv a1, iv 2] [(.int 0), (.ref a1), (.int 0), (.ref ta)]) := fun t k => K t (XS.dupX1 X17.here hx rfl (hb hby d6_93) rfl rfl rfl k)
  replace K : OGo p e below A0 T17 (mkF m 95 #[rv a1, iv 2] [(.int 1), (.int 0), (.ref a1), (.int 0), (.ref ta)]) := fun t k => K t (XS.iconst X17.here hx rfl (hb hby d6_94) k)
  replace K : OGo p e below A0 T17 (mkF m 96 #[rv a1, iv 2] [(.int 1), (.ref a1), (.int 0), (.ref ta)]) := fun t k => K t (XS.iadd X17.here hx rfl (hb hby d6_95) rfl k)
  have E_a1_18 := ((E_a1.wr W7).wr W13)
  obtain ⟨T19, h19, X19, e19, W19, st19⟩ := putF X17 hx hZ hown (host := "") (Or.inl (ow hw 30 rfl)) Via.refl e17 F_met_a1_16 E_a1_18 (Or.inl (ow hw 31 rfl)) (ow hw 6 rfl) (ty := .int) (by decide) rfl rfl (g := (mkF m 96 #[rv a1, iv 2] [(.int 1), (.ref a1), (.int 0), (.ref ta)])) rfl rfl (hb hby d6_96)
  have Z19 : n0 ≤ h19.size := Nat.le_trans Z13 (Keep.of_wr W19).1
  have Kp19 : Keep h0 h19 [a1, ta, ca] := Kp13.wr W19 (Or.inl (List.mem_of_getElem? (i := 0) rfl))
  have F_met_a1_19 := F_met_a1_16.same W19
  have N19 := Fr.snoc X19 N13 g_a1
  replace K : OGo p e below A0 T19 (mkF m 99 #[rv a1, iv 2] [(.int 0), (.ref ta)]) := fun t k => K t (st19 t k)
  have V_ta_20 := ((V_ta_7.other W13 ne_ta_ca).other W19 (Ne.symm ne_a1_ta))
  replace K : OGo p e below A0 T19 (mkF m 100 #[rv a1, iv 2] [(.int 0)]) := fun t k => K t (own_ldI X19 hx hZ e19 V_ta_20 (j := (0 : Int32)) (v := (.int (0 : Int32))) (by decide) rfl (g := (mkF m 99 #[rv a1, iv 2] [(.int 0), (.ref ta)])) rfl rfl (hb hby d6_99) t k)
  have E_a1_21 := (E_a1_18.wr W19)
  have F_taken_a1_22 := (F_taken_a1_14.other W19 (Or.inr (sn_cN0_taken_met hw)))
  have F_counts_a1_23 := ((F_counts_a1_8.other W13 (Or.inl ne_a1_ca)).other W19 (Or.inr (sn_cN0_counts_met hw)))
  have F_repeated_a1_24 := (((F_repeated_a1.other W7 (Or.inl ne_a1_ta)).other W13 (Or.inl ne_a1_ca)).other W19 (Or.inr (sn_cN0_repeated_met hw)))
  have F_branches_a1_25 := (((F_branches_a1.other W7 (Or.inl ne_a1_ta)).other W13 (Or.inl ne_a1_ca)).other W19 (Or.inr (sn_cN0_branches_met hw)))
  have F_computed_a1_26 := (((F_computed_a1.other W7 (Or.inl ne_a1_ta)).other W13 (Or.inl ne_a1_ca)).other W19 (Or.inr (sn_cN0_computed_met hw)))
  have V_ca_27 := (V_ca_13.other W19 (Ne.symm ne_a1_ca))
  obtain ⟨fs, hr, hrun, hended, hW, hsame⟩ := X19.leave (v := some (.int (0 : Int32))) (fun h => by rw [Bd.returns] at h; cases h)
  subst hA0
  refine ⟨_, _, K _ (retOut X19 hx Bd.returns rfl (Or.inl ⟨rfl, Or.inl rfl, _, rfl⟩) (hb hby d6_100) hr), hrun, hended, _, _, rfl, ?_, ⟨_, rfl⟩, hW, hsame.mono (by decide) (by decide)⟩
  show Q_chooseN00L Z a1 ta ca kt kc t0 t1 c0 c1 br co h0 n0 _ T19.heap _
  rw [e19]
  exact ⟨rfl, N19, Kp19, E_a1_21, F_taken_a1_22, F_counts_a1_23, F_met_a1_19, F_repeated_a1_24, F_branches_a1_25, F_computed_a1_26, V_ta_20, V_ca_27⟩
def Q_chooseN10L (Z : State) (a1 : Addr) (ta : Addr) (ca : Addr) (kt : ClassId) (kc : ClassId) (t0 : Int32) (t1 : Int32) (c0 : Int32) (c1 : Int32) (br : Int32) (co : Int32) (h0 : Heap) (n0 : Nat) (v : Option Value) (h : Heap) (L : List Loc) : Prop := v = some (.int (0 : Int32)) ∧ Fr n0 L ∧ Keep h0 h [a1, ta, ca] ∧ Exa Z h a1 cN0 ∧ Fld Z h a1 cN0 "taken" "[I" (.ref ta) ∧ Fld Z h a1 cN0 "counts" "[I" (.ref ca) ∧ Fld Z h a1 cN0 "met" "I" (.int (2 : Int32)) ∧ Fld Z h a1 cN0 "repeated" "I" (.int (0 : Int32)) ∧ Fld Z h a1 cN0 "branches" "I" (.int br) ∧ Fld Z h a1 cN0 "computed" "I" (.int co) ∧ OAr Z h ta kt .int (oA8 t0 (0 : Int32)) ∧ OAr Z h ca kc .int (oA8 c0 (2 : Int32))
set_option maxRecDepth 65536 in
set_option maxHeartbeats 40000000 in
theorem rm_chooseN10L (l : Launch) (Z : State) (a0 : Array Value) (hw : ∀ d ∈ tables_1, d.before a0 Z = true) (ws : List Jvm.Cond) (a1 : Addr) (ta : Addr) (ca : Addr) (kt : ClassId) (kc : ClassId) (t0 : Int32) (t1 : Int32) (c0 : Int32) (c1 : Int32) (br : Int32) (co : Int32) (h0 : Heap) (n0 : Nat) (Z0 : n0 ≤ h0.size) (E_a1 : Exa Z h0 a1 cN0) (F_taken_a1 : Fld Z h0 a1 cN0 "taken" "[I" (.ref ta)) (F_counts_a1 : Fld Z h0 a1 cN0 "counts" "[I" (.ref ca)) (F_met_a1 : Fld Z h0 a1 cN0 "met" "I" (.int (1 : Int32))) (F_repeated_a1 : Fld Z h0 a1 cN0 "repeated" "I" (.int (0 : Int32))) (F_branches_a1 : Fld Z h0 a1 cN0 "branches" "I" (.int br)) (F_computed_a1 : Fld Z h0 a1 cN0 "computed" "I" (.int co)) (V_ta : OAr Z h0 ta kt .int (oA8 t0 t1)) (V_ca : OAr Z h0 ca kc .int (oA8 c0 c1)) (g_a1 : n0 ≤ a1) (g_ta : n0 ≤ ta) (g_ca : n0 ≤ ca) (ne_a1_ta : a1 ≠ ta) (ne_a1_ca : a1 ≠ ca) (ne_ta_ca : ta ≠ ca) :
    MetFree l mN4 (head1 (Jvm.Cond.code mN4 prog_72_method_3_code 2 (some .int) :: ws) ({ frames := 0, cells := 0, slots := 0, locals := 0 } : Room)) (fun a U => a = #[(.ref a1), (.int (2 : Int32))] ∧ Z.Warmed39 U.vm ∧ U.heap = h0) (fun _ _ _ _ _ => True) (fun _ U o U' => ∃ v L, o = .returned v ∧ Q_chooseN10L Z a1 ta ca kt kc t0 t1 c0 c1 br co h0 n0 v U'.heap L ∧ FrameEnd U o U' L ({ frames := 0, cells := 0, slots := 0, locals := 0 } : Room).cells ({ frames := 0, cells := 0, slots := 0, locals := 0 } : Room).slots) := by
  refine MetFree.of_bodySF (plainFor_of_name pn_com_example_flote_flote_program_Choices) hisR ?_
  intro p e s m args below meth c s₁ Bd hml0 hP hK
  obtain ⟨rfl, hZ, hh⟩ := hP
  have hx := Bd.exec
  have hby := Bd.bytes
  have hml : c.maxLocals = 2 := hml0
  have hown : s.vm.findClass "com/example/flote/flote/program/Choices" = some m.cls := findClass_of_methodNamed Bd.named
  have hnm := (name_of_methodNamed Bd.named Bd.method).1
  have X0 : Stand p l e ({ frames := 0, cells := 0, slots := 0, locals := 0 } : Room) s m #[(.ref a1), (.int (2 : Int32))] below meth c s₁ [] 0 0 := Stand.of_body Bd
  have e0 : s₁.heap = h0 := by rw [← hh, Bd.state]; rfl
  have N0 := Fr.nil n0
  obtain ⟨A0, hA0⟩ : ∃ z, z = s₁.setTop (entryFrame m #[(.ref a1), (.int (2 : Int32))] 2) := ⟨_, rfl⟩
  have K : OGo p e below A0 s₁ (mkF m 0 #[rv a1, iv 2] []) := fun t k => hA0 ▸ castTop (ef_6 m a1 (2 : Int32)) k
  replace K : OGo p e below A0 s₁ (mkF m 1 #[rv a1, iv 2] [(.int 2)]) := fun t k => K t (XS.iloadN X0.here hx rfl (hb hby d6_0) rfl k)
  replace K : OGo p e below A0 s₁ (mkF m 2 #[rv a1, iv 2] [(.int 1), (.int 2)]) := fun t k => K t (XS.iconst X0.here hx rfl (hb hby d6_1) k)
  replace K : OGo p e below A0 s₁ (mkF m 7 #[rv a1, iv 2] []) := fun t k => K t (XS.icmpYes X0.here hx rfl (pc0 := 2) (pc' := 7) rfl (hb hby d6_2) rfl (feq ((by decide : ¬ ((2 : Int32) = (1 : Int32))) : ¬ ((2 : Int32) = (1 : Int32)))).2 (by decide) (by decide) k)
  replace K : OGo p e below A0 s₁ (mkF m 8 #[rv a1, iv 2] [(.ref a1)]) := fun t k => K t (XS.aloadN X0.here hx rfl (hb hby d6_7) rfl rfl k)
  obtain ⟨T1, X1, e1, st1⟩ := getF X0 hx hZ hown (host := "") (Or.inl (ow hw 30 rfl)) Via.refl e0 F_met_a1 (g := (mkF m 8 #[rv a1, iv 2] [(.ref a1)])) rfl rfl (hb hby d6_8)
  replace K : OGo p e below A0 T1 (mkF m 11 #[rv a1, iv 2] [(.int 1)]) := fun t k => K t (st1 t k)
  replace K : OGo p e below A0 T1 (mkF m 12 #[rv a1, iv 2] [(.ref a1), (.int 1)]) := fun t k => K t (XS.aloadN X1.here hx rfl (hb hby d6_11) rfl rfl k)
  obtain ⟨T2, X2, e2, st2⟩ := getF X1 hx hZ hown (host := "") (Or.inl (ow hw 15 rfl)) Via.refl e1 F_taken_a1 (g := (mkF m 12 #[rv a1, iv 2] [(.ref a1), (.int 1)])) rfl rfl (hb hby d6_12)
  replace K : OGo p e below A0 T2 (mkF m 15 #[rv a1, iv 2] [(.ref ta), (.int 1)]) := fun t k => K t (st2 t k)
  replace K : OGo p e below A0 T2 (mkF m 16 #[rv a1, iv 2] [(.int 8), (.int 1)]) := fun t k => K t (own_len X2 hx hZ e2 V_ta (n := (8 : Int32)) rfl (g := (mkF m 15 #[rv a1, iv 2] [(.ref ta), (.int 1)])) rfl rfl (hb hby d6_15) t k)
  replace K : OGo p e below A0 T2 (mkF m 53 #[rv a1, iv 2] []) := fun t k => K t (XS.icmpYes X2.here hx rfl (pc0 := 16) (pc' := 53) rfl (hb hby d6_16) rfl (feq ((by decide : ¬ ((1 : Int32) = (8 : Int32))) : ¬ ((1 : Int32) = (8 : Int32)))).2 (by decide) (by decide) k)
  replace K : OGo p e below A0 T2 (mkF m 54 #[rv a1, iv 2] [(.ref a1)]) := fun t k => K t (XS.aloadN X2.here hx rfl (hb hby d6_53) rfl rfl k)
  obtain ⟨T3, X3, e3, st3⟩ := getF X2 hx hZ hown (host := "") (Or.inl (ow hw 30 rfl)) Via.refl e2 F_met_a1 (g := (mkF m 54 #[rv a1, iv 2] [(.ref a1)])) rfl rfl (hb hby d6_54)
  replace K : OGo p e below A0 T3 (mkF m 57 #[rv a1, iv 2] [(.int 1)]) := fun t k => K t (st3 t k)
  replace K : OGo p e below A0 T3 (mkF m 58 #[rv a1, iv 2] [(.ref a1), (.int 1)]) := fun t k => K t (XS.aloadN X3.here hx rfl (hb hby d6_57) rfl rfl k)
  obtain ⟨T4, X4, e4, st4⟩ := getF X3 hx hZ hown (host := "") (Or.inl (ow hw 32 rfl)) Via.refl e3 F_repeated_a1 (g := (mkF m 58 #[rv a1, iv 2] [(.ref a1), (.int 1)])) rfl rfl (hb hby d6_58)
  replace K : OGo p e below A0 T4 (mkF m 61 #[rv a1, iv 2] [(.int 0), (.int 1)]) := fun t k => K t (st4 t k)
  replace K : OGo p e below A0 T4 (mkF m 64 #[rv a1, iv 2] []) := fun t k => K t (XS.icmpNo X4.here hx rfl (hb hby d6_61) rfl (flt ((by decide : ¬ ((1 : Int32) < (0 : Int32))) : ¬ ((1 : Int32) < (0 : Int32)))).1 k)
  replace K : OGo p e below A0 T4 (mkF m 65 #[rv a1, iv 2] [(.ref a1)]) := fun t k => K t (XS.aloadN X4.here hx rfl (hb hby d6_64) rfl rfl k)
  obtain ⟨T5, X5, e5, st5⟩ := getF X4 hx hZ hown (host := "") (Or.inl (ow hw 15 rfl)) Via.refl e4 F_taken_a1 (g := (mkF m 65 #[rv a1, iv 2] [(.ref a1)])) rfl rfl (hb hby d6_65)
  replace K : OGo p e below A0 T5 (mkF m 68 #[rv a1, iv 2] [(.ref ta)]) := fun t k => K t (st5 t k)
  replace K : OGo p e below A0 T5 (mkF m 69 #[rv a1, iv 2] [(.ref a1), (.ref ta)]) := fun t k => K t (XS.aloadN X5.here hx rfl (hb hby d6_68) rfl rfl k)
  obtain ⟨T6, X6, e6, st6⟩ := getF X5 hx hZ hown (host := "") (Or.inl (ow hw 30 rfl)) Via.refl e5 F_met_a1 (g := (mkF m 69 #[rv a1, iv 2] [(.ref a1), (.ref ta)])) rfl rfl (hb hby d6_69)
  replace K : OGo p e below A0 T6 (mkF m 72 #[rv a1, iv 2] [(.int 1), (.ref ta)]) := fun t k => K t (st6 t k)
  replace K : OGo p e below A0 T6 (mkF m 73 #[rv a1, iv 2] [(.int 0), (.int 1), (.ref ta)]) := fun t k => K t (XS.iconst X6.here hx rfl (hb hby d6_72) k)
  obtain ⟨T7, h7, X7, e7, W7, V7, st7⟩ := own_stI X6 hx hZ e6 V_ta (j := (1 : Int32)) (by decide) (Nat.le_of_ble_eq_true rfl) (g := (mkF m 73 #[rv a1, iv 2] [(.int 0), (.int 1), (.ref ta)])) rfl rfl (hb hby d6_73)
  have Z7 : n0 ≤ h7.size := Nat.le_trans Z0 (Keep.of_wr W7).1
  have Kp7 : Keep h0 h7 [a1, ta, ca] := (Keep.refl h0 [a1, ta, ca]).wr W7 (Or.inl (List.mem_of_getElem? (i := 1) rfl))
  have V_ta_7 : OAr Z h7 ta kt .int (oA8 t0 (0 : Int32)) := V7
  have N7 := Fr.snoc X7 N0 g_ta
  replace K : OGo p e below A0 T7 (mkF m 74 #[rv a1, iv 2] []) := fun t k => K t (st7 t k)
  replace K : OGo p e below A0 T7 (mkF m 75 #[rv a1, iv 2] [(.ref a1)]) := fun t k => K t (XS.aloadN X7.here hx rfl (hb hby d6_74) rfl rfl k)
  have F_counts_a1_8 := (F_counts_a1.other W7 (Or.inl ne_a1_ta))
  obtain ⟨T9, X9, e9, st9⟩ := getF X7 hx hZ hown (host := "") (Or.inl (ow hw 17 rfl)) Via.refl e7 F_counts_a1_8 (g := (mkF m 75 #[rv a1, iv 2] [(.ref a1)])) rfl rfl (hb hby d6_75)
  replace K : OGo p e below A0 T9 (mkF m 78 #[rv a1, iv 2] [(.ref ca)]) := fun t k => K t (st9 t k)
  replace K : OGo p e below A0 T9 (mkF m 79 #[rv a1, iv 2] [(.ref a1), (.ref ca)]) := fun t k => K t (XS.aloadN X9.here hx rfl (hb hby d6_78) rfl rfl k)
  have F_met_a1_10 := (F_met_a1.other W7 (Or.inl ne_a1_ta))
  obtain ⟨T11, X11, e11, st11⟩ := getF X9 hx hZ hown (host := "") (Or.inl (ow hw 30 rfl)) Via.refl e9 F_met_a1_10 (g := (mkF m 79 #[rv a1, iv 2] [(.ref a1), (.ref ca)])) rfl rfl (hb hby d6_79)
  replace K : OGo p e below A0 T11 (mkF m 82 #[rv a1, iv 2] [(.int 1), (.ref ca)]) := fun t k => K t (st11 t k)
  replace K : OGo p e below A0 T11 (mkF m 83 #[rv a1, iv 2] [(.int 2), (.int 1), (.ref ca)]) := fun t k => K t (XS.iloadN X11.here hx rfl (hb hby d6_82) rfl k)
  have V_ca_12 := (V_ca.other W7 (Ne.symm ne_ta_ca))
  obtain ⟨T13, h13, X13, e13, W13, V13, st13⟩ := own_stI X11 hx hZ e11 V_ca_12 (j := (1 : Int32)) (by decide) (Nat.le_of_ble_eq_true rfl) (g := (mkF m 83 #[rv a1, iv 2] [(.int 2), (.int 1), (.ref ca)])) rfl rfl (hb hby d6_83)
  have Z13 : n0 ≤ h13.size := Nat.le_trans Z7 (Keep.of_wr W13).1
  have Kp13 : Keep h0 h13 [a1, ta, ca] := Kp7.wr W13 (Or.inl (List.mem_of_getElem? (i := 2) rfl))
  have V_ca_13 : OAr Z h13 ca kc .int (oA8 c0 (2 : Int32)) := V13
  have N13 := Fr.snoc X13 N7 g_ca
  replace K : OGo p e below A0 T13 (mkF m 84 #[rv a1, iv 2] []) := fun t k => K t (st13 t k)
  replace K : OGo p e below A0 T13 (mkF m 85 #[rv a1, iv 2] [(.ref a1)]) := fun t k => K t (XS.aloadN X13.here hx rfl (hb hby d6_84) rfl rfl k)
  have F_taken_a1_14 := ((F_taken_a1.other W7 (Or.inl ne_a1_ta)).other W13 (Or.inl ne_a1_ca))
  obtain ⟨T15, X15, e15, st15⟩ := getF X13 hx hZ hown (host := "") (Or.inl (ow hw 15 rfl)) Via.refl e13 F_taken_a1_14 (g := (mkF m 85 #[rv a1, iv 2] [(.ref a1)])) rfl rfl (hb hby d6_85)
  replace K : OGo p e below A0 T15 (mkF m 88 #[rv a1, iv 2] [(.ref ta)]) := fun t k => K t (st15 t k)
  replace K : OGo p e below A0 T15 (mkF m 89 #[rv a1, iv 2] [(.ref a1), (.ref ta)]) := fun t k => K t (XS.aloadN X15.here hx rfl (hb hby d6_88) rfl rfl k)
  replace K : OGo p e below A0 T15 (mkF m 90 #[rv a1, iv 2] [(.ref a1), (.ref a1), (.ref ta)]) := fun t k => K t (XS.dup X15.here hx rfl (hb hby d6_89) rfl rfl k)
  have F_met_a1_16 := (F_met_a1_10.other W13 (Or.inl ne_a1_ca))
  obtain ⟨T17, X17, e17, st17⟩ := getF X15 hx hZ hown (host := "") (Or.inl (ow hw 30 rfl)) Via.refl e15 F_met_a1_16 (g := (mkF m 90 #[rv a1, iv 2] [(.ref a1), (.ref a1), (.ref ta)])) rfl rfl (hb hby d6_90)
  replace K : OGo p e below A0 T17 (mkF m 93 #[rv a1, iv 2] [(.int 1), (.ref a1), (.ref ta)]) := fun t k => K t (st17 t k)
  replace K : OGo p e below A0 T17 (mkF m 94 #[rv a1, iv 2] [(.int 1), (.ref a1), (.int 1), (.ref ta)]) := fun t k => K t (XS.dupX1 X17.here hx rfl (hb hby d6_93) rfl rfl rfl k)
  replace K : OGo p e below A0 T17 (mkF m 95 #[rv a1, iv 2] [(.int 1), (.int 1), (.ref a1), (.int 1), (.ref ta)]) := fun t k => K t (XS.iconst X17.here hx rfl (hb hby d6_94) k)
  replace K : OGo p e below A0 T17 (mkF m 96 #[rv a1, iv 2] [(.int 2), (.ref a1), (.int 1), (.ref ta)]) := fun t k => K t (XS.iadd X17.here hx rfl (hb hby d6_95) rfl k)
  have E_a1_18 := ((E_a1.wr W7).wr W13)
  obtain ⟨T19, h19, X19, e19, W19, st19⟩ := putF X17 hx hZ hown (host := "") (Or.inl (ow hw 30 rfl)) Via.refl e17 F_met_a1_16 E_a1_18 (Or.inl (ow hw 31 rfl)) (ow hw 6 rfl) (ty := .int) (by decide) rfl rfl (g := (mkF m 96 #[rv a1, iv 2] [(.int 2), (.ref a1), (.int 1), (.ref ta)])) rfl rfl (hb hby d6_96)
  have Z19 : n0 ≤ h19.size := Nat.le_trans Z13 (Keep.of_wr W19).1
  have Kp19 : Keep h0 h19 [a1, ta, ca] := Kp13.wr W19 (Or.inl (List.mem_of_getElem? (i := 0) rfl))
  have F_met_a1_19 := F_met_a1_16.same W19
  have N19 := Fr.snoc X19 N13 g_a1
  replace K : OGo p e below A0 T19 (mkF m 99 #[rv a1, iv 2] [(.int 1), (.ref ta)]) := fun t k => K t (st19 t k)
  have V_ta_20 := ((V_ta_7.other W13 ne_ta_ca).other W19 (Ne.symm ne_a1_ta))
  replace K : OGo p e below A0 T19 (mkF m 100 #[rv a1, iv 2] [(.int 0)]) := fun t k => K t (own_ldI X19 hx hZ e19 V_ta_20 (j := (1 : Int32)) (v := (.int (0 : Int32))) (by decide) rfl (g := (mkF m 99 #[rv a1, iv 2] [(.int 1), (.ref ta)])) rfl rfl (hb hby d6_99) t k)
  have E_a1_21 := (E_a1_18.wr W19)
  have F_taken_a1_22 := (F_taken_a1_14.other W19 (Or.inr (sn_cN0_taken_met hw)))
  have F_counts_a1_23 := ((F_counts_a1_8.other W13 (Or.inl ne_a1_ca)).other W19 (Or.inr (sn_cN0_counts_met hw)))
  have F_repeated_a1_24 := (((F_repeated_a1.other W7 (Or.inl ne_a1_ta)).other W13 (Or.inl ne_a1_ca)).other W19 (Or.inr (sn_cN0_repeated_met hw)))
  have F_branches_a1_25 := (((F_branches_a1.other W7 (Or.inl ne_a1_ta)).other W13 (Or.inl ne_a1_ca)).other W19 (Or.inr (sn_cN0_branches_met hw)))
  have F_computed_a1_26 := (((F_computed_a1.other W7 (Or.inl ne_a1_ta)).other W13 (Or.inl ne_a1_ca)).other W19 (Or.inr (sn_cN0_computed_met hw)))
  have V_ca_27 := (V_ca_13.other W19 (Ne.symm ne_a1_ca))
  obtain ⟨fs, hr, hrun, hended, hW, hsame⟩ := X19.leave (v := some (.int (0 : Int32))) (fun h => by rw [Bd.returns] at h; cases h)
  subst hA0
  refine ⟨_, _, K _ (retOut X19 hx Bd.returns rfl (Or.inl ⟨rfl, Or.inl rfl, _, rfl⟩) (hb hby d6_100) hr), hrun, hended, _, _, rfl, ?_, ⟨_, rfl⟩, hW, hsame.mono (by decide) (by decide)⟩
  show Q_chooseN10L Z a1 ta ca kt kc t0 t1 c0 c1 br co h0 n0 _ T19.heap _
  rw [e19]
  exact ⟨rfl, N19, Kp19, E_a1_21, F_taken_a1_22, F_counts_a1_23, F_met_a1_19, F_repeated_a1_24, F_branches_a1_25, F_computed_a1_26, V_ta_20, V_ca_27⟩
def Q_chooseN11L (Z : State) (a1 : Addr) (ta : Addr) (ca : Addr) (kt : ClassId) (kc : ClassId) (t0 : Int32) (t1 : Int32) (c0 : Int32) (c1 : Int32) (br : Int32) (co : Int32) (h0 : Heap) (n0 : Nat) (v : Option Value) (h : Heap) (L : List Loc) : Prop := v = some (.int (0 : Int32)) ∧ Fr n0 L ∧ Keep h0 h [a1, ta, ca] ∧ Exa Z h a1 cN0 ∧ Fld Z h a1 cN0 "taken" "[I" (.ref ta) ∧ Fld Z h a1 cN0 "counts" "[I" (.ref ca) ∧ Fld Z h a1 cN0 "met" "I" (.int (2 : Int32)) ∧ Fld Z h a1 cN0 "repeated" "I" (.int (1 : Int32)) ∧ Fld Z h a1 cN0 "branches" "I" (.int br) ∧ Fld Z h a1 cN0 "computed" "I" (.int co) ∧ OAr Z h ta kt .int (oA8 t0 (0 : Int32)) ∧ OAr Z h ca kc .int (oA8 c0 (2 : Int32))
set_option maxRecDepth 65536 in
set_option maxHeartbeats 40000000 in
theorem rm_chooseN11L (l : Launch) (Z : State) (a0 : Array Value) (hw : ∀ d ∈ tables_1, d.before a0 Z = true) (ws : List Jvm.Cond) (a1 : Addr) (ta : Addr) (ca : Addr) (kt : ClassId) (kc : ClassId) (t0 : Int32) (t1 : Int32) (c0 : Int32) (c1 : Int32) (br : Int32) (co : Int32) (h0 : Heap) (n0 : Nat) (Z0 : n0 ≤ h0.size) (E_a1 : Exa Z h0 a1 cN0) (F_taken_a1 : Fld Z h0 a1 cN0 "taken" "[I" (.ref ta)) (F_counts_a1 : Fld Z h0 a1 cN0 "counts" "[I" (.ref ca)) (F_met_a1 : Fld Z h0 a1 cN0 "met" "I" (.int (1 : Int32))) (F_repeated_a1 : Fld Z h0 a1 cN0 "repeated" "I" (.int (1 : Int32))) (F_branches_a1 : Fld Z h0 a1 cN0 "branches" "I" (.int br)) (F_computed_a1 : Fld Z h0 a1 cN0 "computed" "I" (.int co)) (V_ta : OAr Z h0 ta kt .int (oA8 t0 t1)) (V_ca : OAr Z h0 ca kc .int (oA8 c0 c1)) (g_a1 : n0 ≤ a1) (g_ta : n0 ≤ ta) (g_ca : n0 ≤ ca) (ne_a1_ta : a1 ≠ ta) (ne_a1_ca : a1 ≠ ca) (ne_ta_ca : ta ≠ ca) :
    MetFree l mN4 (head1 (Jvm.Cond.code mN4 prog_72_method_3_code 2 (some .int) :: ws) ({ frames := 0, cells := 0, slots := 0, locals := 0 } : Room)) (fun a U => a = #[(.ref a1), (.int (2 : Int32))] ∧ Z.Warmed39 U.vm ∧ U.heap = h0) (fun _ _ _ _ _ => True) (fun _ U o U' => ∃ v L, o = .returned v ∧ Q_chooseN11L Z a1 ta ca kt kc t0 t1 c0 c1 br co h0 n0 v U'.heap L ∧ FrameEnd U o U' L ({ frames := 0, cells := 0, slots := 0, locals := 0 } : Room).cells ({ frames := 0, cells := 0, slots := 0, locals := 0 } : Room).slots) := by
  refine MetFree.of_bodySF (plainFor_of_name pn_com_example_flote_flote_program_Choices) hisR ?_
  intro p e s m args below meth c s₁ Bd hml0 hP hK
  obtain ⟨rfl, hZ, hh⟩ := hP
  have hx := Bd.exec
  have hby := Bd.bytes
  have hml : c.maxLocals = 2 := hml0
  have hown : s.vm.findClass "com/example/flote/flote/program/Choices" = some m.cls := findClass_of_methodNamed Bd.named
  have hnm := (name_of_methodNamed Bd.named Bd.method).1
  have X0 : Stand p l e ({ frames := 0, cells := 0, slots := 0, locals := 0 } : Room) s m #[(.ref a1), (.int (2 : Int32))] below meth c s₁ [] 0 0 := Stand.of_body Bd
  have e0 : s₁.heap = h0 := by rw [← hh, Bd.state]; rfl
  have N0 := Fr.nil n0
  obtain ⟨A0, hA0⟩ : ∃ z, z = s₁.setTop (entryFrame m #[(.ref a1), (.int (2 : Int32))] 2) := ⟨_, rfl⟩
  have K : OGo p e below A0 s₁ (mkF m 0 #[rv a1, iv 2] []) := fun t k => hA0 ▸ castTop (ef_6 m a1 (2 : Int32)) k
  replace K : OGo p e below A0 s₁ (mkF m 1 #[rv a1, iv 2] [(.int 2)]) := fun t k => K t (XS.iloadN X0.here hx rfl (hb hby d6_0) rfl k)
  replace K : OGo p e below A0 s₁ (mkF m 2 #[rv a1, iv 2] [(.int 1), (.int 2)]) := fun t k => K t (XS.iconst X0.here hx rfl (hb hby d6_1) k)
  replace K : OGo p e below A0 s₁ (mkF m 7 #[rv a1, iv 2] []) := fun t k => K t (XS.icmpYes X0.here hx rfl (pc0 := 2) (pc' := 7) rfl (hb hby d6_2) rfl (feq ((by decide : ¬ ((2 : Int32) = (1 : Int32))) : ¬ ((2 : Int32) = (1 : Int32)))).2 (by decide) (by decide) k)
  replace K : OGo p e below A0 s₁ (mkF m 8 #[rv a1, iv 2] [(.ref a1)]) := fun t k => K t (XS.aloadN X0.here hx rfl (hb hby d6_7) rfl rfl k)
  obtain ⟨T1, X1, e1, st1⟩ := getF X0 hx hZ hown (host := "") (Or.inl (ow hw 30 rfl)) Via.refl e0 F_met_a1 (g := (mkF m 8 #[rv a1, iv 2] [(.ref a1)])) rfl rfl (hb hby d6_8)
  replace K : OGo p e below A0 T1 (mkF m 11 #[rv a1, iv 2] [(.int 1)]) := fun t k => K t (st1 t k)
  replace K : OGo p e below A0 T1 (mkF m 12 #[rv a1, iv 2] [(.ref a1), (.int 1)]) := fun t k => K t (XS.aloadN X1.here hx rfl (hb hby d6_11) rfl rfl k)
  obtain ⟨T2, X2, e2, st2⟩ := getF X1 hx hZ hown (host := "") (Or.inl (ow hw 15 rfl)) Via.refl e1 F_taken_a1 (g := (mkF m 12 #[rv a1, iv 2] [(.ref a1), (.int 1)])) rfl rfl (hb hby d6_12)
  replace K : OGo p e below A0 T2 (mkF m 15 #[rv a1, iv 2] [(.ref ta), (.int 1)]) := fun t k => K t (st2 t k)
  replace K : OGo p e below A0 T2 (mkF m 16 #[rv a1, iv 2] [(.int 8), (.int 1)]) := fun t k => K t (own_len X2 hx hZ e2 V_ta (n := (8 : Int32)) rfl (g := (mkF m 15 #[rv a1, iv 2] [(.ref ta), (.int 1)])) rfl rfl (hb hby d6_15) t k)
  replace K : OGo p e below A0 T2 (mkF m 53 #[rv a1, iv 2] []) := fun t k => K t (XS.icmpYes X2.here hx rfl (pc0 := 16) (pc' := 53) rfl (hb hby d6_16) rfl (feq ((by decide : ¬ ((1 : Int32) = (8 : Int32))) : ¬ ((1 : Int32) = (8 : Int32)))).2 (by decide) (by decide) k)
  replace K : OGo p e below A0 T2 (mkF m 54 #[rv a1, iv 2] [(.ref a1)]) := fun t k => K t (XS.aloadN X2.here hx rfl (hb hby d6_53) rfl rfl k)
  obtain ⟨T3, X3, e3, st3⟩ := getF X2 hx hZ hown (host := "") (Or.inl (ow hw 30 rfl)) Via.refl e2 F_met_a1 (g := (mkF m 54 #[rv a1, iv 2] [(.ref a1)])) rfl rfl (hb hby d6_54)
  replace K : OGo p e below A0 T3 (mkF m 57 #[rv a1, iv 2] [(.int 1)]) := fun t k => K t (st3 t k)
  replace K : OGo p e below A0 T3 (mkF m 58 #[rv a1, iv 2] [(.ref a1), (.int 1)]) := fun t k => K t (XS.aloadN X3.here hx rfl (hb hby d6_57) rfl rfl k)
  obtain ⟨T4, X4, e4, st4⟩ := getF X3 hx hZ hown (host := "") (Or.inl (ow hw 32 rfl)) Via.refl e3 F_repeated_a1 (g := (mkF m 58 #[rv a1, iv 2] [(.ref a1), (.int 1)])) rfl rfl (hb hby d6_58)
  replace K : OGo p e below A0 T4 (mkF m 61 #[rv a1, iv 2] [(.int 1), (.int 1)]) := fun t k => K t (st4 t k)
  replace K : OGo p e below A0 T4 (mkF m 64 #[rv a1, iv 2] []) := fun t k => K t (XS.icmpNo X4.here hx rfl (hb hby d6_61) rfl (flt ((by decide : ¬ ((1 : Int32) < (1 : Int32))) : ¬ ((1 : Int32) < (1 : Int32)))).1 k)
  replace K : OGo p e below A0 T4 (mkF m 65 #[rv a1, iv 2] [(.ref a1)]) := fun t k => K t (XS.aloadN X4.here hx rfl (hb hby d6_64) rfl rfl k)
  obtain ⟨T5, X5, e5, st5⟩ := getF X4 hx hZ hown (host := "") (Or.inl (ow hw 15 rfl)) Via.refl e4 F_taken_a1 (g := (mkF m 65 #[rv a1, iv 2] [(.ref a1)])) rfl rfl (hb hby d6_65)
  replace K : OGo p e below A0 T5 (mkF m 68 #[rv a1, iv 2] [(.ref ta)]) := fun t k => K t (st5 t k)
  replace K : OGo p e below A0 T5 (mkF m 69 #[rv a1, iv 2] [(.ref a1), (.ref ta)]) := fun t k => K t (XS.aloadN X5.here hx rfl (hb hby d6_68) rfl rfl k)
  obtain ⟨T6, X6, e6, st6⟩ := getF X5 hx hZ hown (host := "") (Or.inl (ow hw 30 rfl)) Via.refl e5 F_met_a1 (g := (mkF m 69 #[rv a1, iv 2] [(.ref a1), (.ref ta)])) rfl rfl (hb hby d6_69)
  replace K : OGo p e below A0 T6 (mkF m 72 #[rv a1, iv 2] [(.int 1), (.ref ta)]) := fun t k => K t (st6 t k)
  replace K : OGo p e below A0 T6 (mkF m 73 #[rv a1, iv 2] [(.int 0), (.int 1), (.ref ta)]) := fun t k => K t (XS.iconst X6.here hx rfl (hb hby d6_72) k)
  obtain ⟨T7, h7, X7, e7, W7, V7, st7⟩ := own_stI X6 hx hZ e6 V_ta (j := (1 : Int32)) (by decide) (Nat.le_of_ble_eq_true rfl) (g := (mkF m 73 #[rv a1, iv 2] [(.int 0), (.int 1), (.ref ta)])) rfl rfl (hb hby d6_73)
  have Z7 : n0 ≤ h7.size := Nat.le_trans Z0 (Keep.of_wr W7).1
  have Kp7 : Keep h0 h7 [a1, ta, ca] := (Keep.refl h0 [a1, ta, ca]).wr W7 (Or.inl (List.mem_of_getElem? (i := 1) rfl))
  have V_ta_7 : OAr Z h7 ta kt .int (oA8 t0 (0 : Int32)) := V7
  have N7 := Fr.snoc X7 N0 g_ta
  replace K : OGo p e below A0 T7 (mkF m 74 #[rv a1, iv 2] []) := fun t k => K t (st7 t k)
  replace K : OGo p e below A0 T7 (mkF m 75 #[rv a1, iv 2] [(.ref a1)]) := fun t k => K t (XS.aloadN X7.here hx rfl (hb hby d6_74) rfl rfl k)
  have F_counts_a1_8 := (F_counts_a1.other W7 (Or.inl ne_a1_ta))
  obtain ⟨T9, X9, e9, st9⟩ := getF X7 hx hZ hown (host := "") (Or.inl (ow hw 17 rfl)) Via.refl e7 F_counts_a1_8 (g := (mkF m 75 #[rv a1, iv 2] [(.ref a1)])) rfl rfl (hb hby d6_75)
  replace K : OGo p e below A0 T9 (mkF m 78 #[rv a1, iv 2] [(.ref ca)]) := fun t k => K t (st9 t k)
  replace K : OGo p e below A0 T9 (mkF m 79 #[rv a1, iv 2] [(.ref a1), (.ref ca)]) := fun t k => K t (XS.aloadN X9.here hx rfl (hb hby d6_78) rfl rfl k)
  have F_met_a1_10 := (F_met_a1.other W7 (Or.inl ne_a1_ta))
  obtain ⟨T11, X11, e11, st11⟩ := getF X9 hx hZ hown (host := "") (Or.inl (ow hw 30 rfl)) Via.refl e9 F_met_a1_10 (g := (mkF m 79 #[rv a1, iv 2] [(.ref a1), (.ref ca)])) rfl rfl (hb hby d6_79)
  replace K : OGo p e below A0 T11 (mkF m 82 #[rv a1, iv 2] [(.int 1), (.ref ca)]) := fun t k => K t (st11 t k)
  replace K : OGo p e below A0 T11 (mkF m 83 #[rv a1, iv 2] [(.int 2), (.int 1), (.ref ca)]) := fun t k => K t (XS.iloadN X11.here hx rfl (hb hby d6_82) rfl k)
  have V_ca_12 := (V_ca.other W7 (Ne.symm ne_ta_ca))
  obtain ⟨T13, h13, X13, e13, W13, V13, st13⟩ := own_stI X11 hx hZ e11 V_ca_12 (j := (1 : Int32)) (by decide) (Nat.le_of_ble_eq_true rfl) (g := (mkF m 83 #[rv a1, iv 2] [(.int 2), (.int 1), (.ref ca)])) rfl rfl (hb hby d6_83)
  have Z13 : n0 ≤ h13.size := Nat.le_trans Z7 (Keep.of_wr W13).1
  have Kp13 : Keep h0 h13 [a1, ta, ca] := Kp7.wr W13 (Or.inl (List.mem_of_getElem? (i := 2) rfl))
  have V_ca_13 : OAr Z h13 ca kc .int (oA8 c0 (2 : Int32)) := V13
  have N13 := Fr.snoc X13 N7 g_ca
  replace K : OGo p e below A0 T13 (mkF m 84 #[rv a1, iv 2] []) := fun t k => K t (st13 t k)
  replace K : OGo p e below A0 T13 (mkF m 85 #[rv a1, iv 2] [(.ref a1)]) := fun t k => K t (XS.aloadN X13.here hx rfl (hb hby d6_84) rfl rfl k)
  have F_taken_a1_14 := ((F_taken_a1.other W7 (Or.inl ne_a1_ta)).other W13 (Or.inl ne_a1_ca))
  obtain ⟨T15, X15, e15, st15⟩ := getF X13 hx hZ hown (host := "") (Or.inl (ow hw 15 rfl)) Via.refl e13 F_taken_a1_14 (g := (mkF m 85 #[rv a1, iv 2] [(.ref a1)])) rfl rfl (hb hby d6_85)
  replace K : OGo p e below A0 T15 (mkF m 88 #[rv a1, iv 2] [(.ref ta)]) := fun t k => K t (st15 t k)
  replace K : OGo p e below A0 T15 (mkF m 89 #[rv a1, iv 2] [(.ref a1), (.ref ta)]) := fun t k => K t (XS.aloadN X15.here hx rfl (hb hby d6_88) rfl rfl k)
  replace K : OGo p e below A0 T15 (mkF m 90 #[rv a1, iv 2] [(.ref a1), (.ref a1), (.ref ta)]) := fun t k => K t (XS.dup X15.here hx rfl (hb hby d6_89) rfl rfl k)
  have F_met_a1_16 := (F_met_a1_10.other W13 (Or.inl ne_a1_ca))
  obtain ⟨T17, X17, e17, st17⟩ := getF X15 hx hZ hown (host := "") (Or.inl (ow hw 30 rfl)) Via.refl e15 F_met_a1_16 (g := (mkF m 90 #[rv a1, iv 2] [(.ref a1), (.ref a1), (.ref ta)])) rfl rfl (hb hby d6_90)
  replace K : OGo p e below A0 T17 (mkF m 93 #[rv a1, iv 2] [(.int 1), (.ref a1), (.ref ta)]) := fun t k => K t (st17 t k)
  replace K : OGo p e below A0 T17 (mkF m 94 #[rv a1, iv 2] [(.int 1), (.ref a1), (.int 1), (.ref ta)]) := fun t k => K t (XS.dupX1 X17.here hx rfl (hb hby d6_93) rfl rfl rfl k)
  replace K : OGo p e below A0 T17 (mkF m 95 #[rv a1, iv 2] [(.int 1), (.int 1), (.ref a1), (.int 1), (.ref ta)]) := fun t k => K t (XS.iconst X17.here hx rfl (hb hby d6_94) k)
  replace K : OGo p e below A0 T17 (mkF m 96 #[rv a1, iv 2] [(.int 2), (.ref a1), (.int 1), (.ref ta)]) := fun t k => K t (XS.iadd X17.here hx rfl (hb hby d6_95) rfl k)
  have E_a1_18 := ((E_a1.wr W7).wr W13)
  obtain ⟨T19, h19, X19, e19, W19, st19⟩ := putF X17 hx hZ hown (host := "") (Or.inl (ow hw 30 rfl)) Via.refl e17 F_met_a1_16 E_a1_18 (Or.inl (ow hw 31 rfl)) (ow hw 6 rfl) (ty := .int) (by decide) rfl rfl (g := (mkF m 96 #[rv a1, iv 2] [(.int 2), (.ref a1), (.int 1), (.ref ta)])) rfl rfl (hb hby d6_96)
  have Z19 : n0 ≤ h19.size := Nat.le_trans Z13 (Keep.of_wr W19).1
  have Kp19 : Keep h0 h19 [a1, ta, ca] := Kp13.wr W19 (Or.inl (List.mem_of_getElem? (i := 0) rfl))
  have F_met_a1_19 := F_met_a1_16.same W19
  have N19 := Fr.snoc X19 N13 g_a1
  replace K : OGo p e below A0 T19 (mkF m 99 #[rv a1, iv 2] [(.int 1), (.ref ta)]) := fun t k => K t (st19 t k)
  have V_ta_20 := ((V_ta_7.other W13 ne_ta_ca).other W19 (Ne.symm ne_a1_ta))
  replace K : OGo p e below A0 T19 (mkF m 100 #[rv a1, iv 2] [(.int 0)]) := fun t k => K t (own_ldI X19 hx hZ e19 V_ta_20 (j := (1 : Int32)) (v := (.int (0 : Int32))) (by decide) rfl (g := (mkF m 99 #[rv a1, iv 2] [(.int 1), (.ref ta)])) rfl rfl (hb hby d6_99) t k)
  have E_a1_21 := (E_a1_18.wr W19)
  have F_taken_a1_22 := (F_taken_a1_14.other W19 (Or.inr (sn_cN0_taken_met hw)))
  have F_counts_a1_23 := ((F_counts_a1_8.other W13 (Or.inl ne_a1_ca)).other W19 (Or.inr (sn_cN0_counts_met hw)))
  have F_repeated_a1_24 := (((F_repeated_a1.other W7 (Or.inl ne_a1_ta)).other W13 (Or.inl ne_a1_ca)).other W19 (Or.inr (sn_cN0_repeated_met hw)))
  have F_branches_a1_25 := (((F_branches_a1.other W7 (Or.inl ne_a1_ta)).other W13 (Or.inl ne_a1_ca)).other W19 (Or.inr (sn_cN0_branches_met hw)))
  have F_computed_a1_26 := (((F_computed_a1.other W7 (Or.inl ne_a1_ta)).other W13 (Or.inl ne_a1_ca)).other W19 (Or.inr (sn_cN0_computed_met hw)))
  have V_ca_27 := (V_ca_13.other W19 (Ne.symm ne_a1_ca))
  obtain ⟨fs, hr, hrun, hended, hW, hsame⟩ := X19.leave (v := some (.int (0 : Int32))) (fun h => by rw [Bd.returns] at h; cases h)
  subst hA0
  refine ⟨_, _, K _ (retOut X19 hx Bd.returns rfl (Or.inl ⟨rfl, Or.inl rfl, _, rfl⟩) (hb hby d6_100) hr), hrun, hended, _, _, rfl, ?_, ⟨_, rfl⟩, hW, hsame.mono (by decide) (by decide)⟩
  show Q_chooseN11L Z a1 ta ca kt kc t0 t1 c0 c1 br co h0 n0 _ T19.heap _
  rw [e19]
  exact ⟨rfl, N19, Kp19, E_a1_21, F_taken_a1_22, F_counts_a1_23, F_met_a1_19, F_repeated_a1_24, F_branches_a1_25, F_computed_a1_26, V_ta_20, V_ca_27⟩
theorem ef_8 (m : MethodId) (x0 : Addr) : entryFrame m #[(.ref x0)] 1 = mkF m 0 #[.val (.ref x0)] [] := by first | (simp [entryFrame, mkF, argsToLocals, Value.category]; done) | rfl
theorem d8_0 : decode prog_72_method_10_code 0 = .ok (.aload_n 0, 1) := by decide +kernel
theorem d8_1 : decode prog_72_method_10_code 1 = .ok (.getfield 32, 3) := by decide +kernel
theorem d8_4 : decode prog_72_method_10_code 4 = .ok (.aload_n 0, 1) := by decide +kernel
theorem d8_5 : decode prog_72_method_10_code 5 = .ok (.getfield 25, 3) := by decide +kernel
theorem d8_8 : decode prog_72_method_10_code 8 = .ok (.iconst 1, 1) := by decide +kernel
theorem d8_9 : decode prog_72_method_10_code 9 = .ok (.iadd, 1) := by decide +kernel
theorem d8_10 : decode prog_72_method_10_code 10 = .ok (.invokestatic 73, 3) := by decide +kernel
theorem pd__II_I : parseMethodDescriptor "(II)I" = some ⟨[.int, .int], some .int⟩ := by decide +kernel
theorem d8_13 : decode prog_72_method_10_code 13 = .ok (.ireturn, 1) := by decide +kernel
def Q_fewest (Z : State) (a1 : Addr) (br : Int32) (mt : Int32) (h0 : Heap) (n0 : Nat) (v : Option Value) (h : Heap) (L : List Loc) : Prop := v = some (.int (own_max br (mt + (1 : Int32)))) ∧ Fr n0 L ∧ h = h0
set_option maxRecDepth 65536 in
set_option maxHeartbeats 40000000 in
theorem rm_fewest (l : Launch) (Z : State) (a0 : Array Value) (hw : ∀ d ∈ tables_1, d.before a0 Z = true) (ws : List Jvm.Cond) (a1 : Addr) (br : Int32) (mt : Int32) (h0 : Heap) (n0 : Nat) (Z0 : n0 ≤ h0.size) (F_branches_a1 : Fld Z h0 a1 cN0 "branches" "I" (.int br)) (F_met_a1 : Fld Z h0 a1 cN0 "met" "I" (.int mt)) :
    MetFree l mN5 (head1 (Jvm.Cond.code mN5 prog_72_method_10_code 1 (some .int) :: ws) ({ frames := 1, cells := 0, slots := 0, locals := 13 } : Room)) (fun a U => a = #[(.ref a1)] ∧ Z.Warmed39 U.vm ∧ U.heap = h0) (fun _ _ _ _ _ => True) (fun _ U o U' => ∃ v L, o = .returned v ∧ Q_fewest Z a1 br mt h0 n0 v U'.heap L ∧ FrameEnd U o U' L ({ frames := 1, cells := 0, slots := 0, locals := 13 } : Room).cells ({ frames := 1, cells := 0, slots := 0, locals := 13 } : Room).slots) := by
  refine MetFree.of_bodySF (plainFor_of_name pn_com_example_flote_flote_program_Choices) hisR ?_
  intro p e s m args below meth c s₁ Bd hml0 hP hK
  obtain ⟨rfl, hZ, hh⟩ := hP
  have hx := Bd.exec
  have hby := Bd.bytes
  have hml : c.maxLocals = 1 := hml0
  have hown : s.vm.findClass "com/example/flote/flote/program/Choices" = some m.cls := findClass_of_methodNamed Bd.named
  have hnm := (name_of_methodNamed Bd.named Bd.method).1
  have X0 : Stand p l e ({ frames := 1, cells := 0, slots := 0, locals := 13 } : Room) s m #[(.ref a1)] below meth c s₁ [] 0 0 := Stand.of_body Bd
  have e0 : s₁.heap = h0 := by rw [← hh, Bd.state]; rfl
  have N0 := Fr.nil n0
  obtain ⟨A0, hA0⟩ : ∃ z, z = s₁.setTop (entryFrame m #[(.ref a1)] 1) := ⟨_, rfl⟩
  have K : OGo p e below A0 s₁ (mkF m 0 #[rv a1] []) := fun t k => hA0 ▸ castTop (ef_8 m a1) k
  replace K : OGo p e below A0 s₁ (mkF m 1 #[rv a1] [(.ref a1)]) := fun t k => K t (XS.aloadN X0.here hx rfl (hb hby d8_0) rfl rfl k)
  obtain ⟨T1, X1, e1, st1⟩ := getF X0 hx hZ hown (host := "") (Or.inl (ow hw 34 rfl)) Via.refl e0 F_branches_a1 (g := (mkF m 1 #[rv a1] [(.ref a1)])) rfl rfl (hb hby d8_1)
  replace K : OGo p e below A0 T1 (mkF m 4 #[rv a1] [(.int br)]) := fun t k => K t (st1 t k)
  replace K : OGo p e below A0 T1 (mkF m 5 #[rv a1] [(.ref a1), (.int br)]) := fun t k => K t (XS.aloadN X1.here hx rfl (hb hby d8_4) rfl rfl k)
  obtain ⟨T2, X2, e2, st2⟩ := getF X1 hx hZ hown (host := "") (Or.inl (ow hw 30 rfl)) Via.refl e1 F_met_a1 (g := (mkF m 5 #[rv a1] [(.ref a1), (.int br)])) rfl rfl (hb hby d8_5)
  replace K : OGo p e below A0 T2 (mkF m 8 #[rv a1] [(.int mt), (.int br)]) := fun t k => K t (st2 t k)
  replace K : OGo p e below A0 T2 (mkF m 9 #[rv a1] [(.int 1), (.int mt), (.int br)]) := fun t k => K t (XS.iconst X2.here hx rfl (hb hby d8_8) k)
  replace K : OGo p e below A0 T2 (mkF m 10 #[rv a1] [(.int (mt + (1 : Int32))), (.int br)]) := fun t k => K t (XS.iadd X2.here hx rfl (hb hby d8_9) rfl k)
  obtain ⟨_, _, ⟨T3, L3, k3, n3⟩, -, X3, ⟨Lc3, hQ3, l3, y3, z3⟩, st3⟩ := Jvm.LawKit.callS X2 hx (y := mN1) hown (mvT hZ (ow hw 57 rfl)) (mvT hZ (ow hw 58 rfl)) (mvT hZ (ow hw 59 rfl)) (mvT hZ (ow hw 60 rfl)) (by decide) (backOf (W := 0) (rm_max l Z a0 hw [] br (mt + (1 : Int32)) h0 n0 Z0 ) hZ (ow hw 60 rfl) (ow hw 59 rfl) (by decide) (by decide)) (g := (mkF m 10 #[rv a1] [(.int (mt + (1 : Int32))), (.int br)])) rfl (by rw [hml]; rfl) (argsL := [(.int br), (.int (mt + (1 : Int32)))]) (rest := []) (lenOf pd__II_I rfl) rfl (by show 2 * 0 + _ ≤ _; exact Nat.le_of_eq rfl) (hb hby d8_10) (fun _ _ => ⟨rfl, e2, (by decide : 0 + 0 ≤ _), (by decide : 0 + 0 ≤ _)⟩)
  dsimp only [Pt.U, Pt.locs, Pt.cells, Pt.slots] at X3 l3 y3 z3 st3 hQ3
  subst l3 y3 z3
  obtain ⟨rfl, Nq3, e3⟩ := hQ3
  have N3 := Fr.app N0 Nq3
  replace K : OGo p e below A0 T3 (mkF m 13 #[rv a1] [(.int (own_max br (mt + (1 : Int32))))]) := fun t k => K t (st3 t k)
  obtain ⟨fs, hr, hrun, hended, hW, hsame⟩ := X3.leave (v := some (.int (own_max br (mt + (1 : Int32))))) (fun h => by rw [Bd.returns] at h; cases h)
  subst hA0
  refine ⟨_, _, K _ (retOut X3 hx Bd.returns rfl (Or.inl ⟨rfl, Or.inl rfl, _, rfl⟩) (hb hby d8_13) hr), hrun, hended, _, _, rfl, ?_, ⟨_, rfl⟩, hW, hsame.mono (by decide) (by decide)⟩
  show Q_fewest Z a1 br mt h0 n0 _ T3.heap _
  rw [e3]
  exact ⟨rfl, N3, rfl⟩
theorem ef_5 (m : MethodId) (x0 : Addr) (x1 : Int32) (x2 : Int32) (x3 : Int32) : entryFrame m #[(.ref x0), (.int x1), (.int x2), (.int x3)] 6 = mkF m 0 #[.val (.ref x0), .val (.int x1), .val (.int x2), .val (.int x3), .unset, .unset] [] := by first | (simp [entryFrame, mkF, argsToLocals, Value.category]; done) | rfl
theorem d5_0 : decode method_4_code 0 = .ok (.aload_n 0, 1) := by decide +kernel
theorem d5_1 : decode method_4_code 1 = .ok (.iload_n 1, 1) := by decide +kernel
theorem d5_2 : decode method_4_code 2 = .ok (.invokevirtual 40, 3) := by decide +kernel
theorem pd__I_I : parseMethodDescriptor "(I)I" = some ⟨[.int], some .int⟩ := by decide +kernel
theorem d5_5 : decode method_4_code 5 = .ok (.istore 4, 2) := by decide +kernel
theorem d5_7 : decode method_4_code 7 = .ok (.aload_n 0, 1) := by decide +kernel
theorem d5_8 : decode method_4_code 8 = .ok (.iload_n 2, 1) := by decide +kernel
theorem d5_9 : decode method_4_code 9 = .ok (.invokevirtual 40, 3) := by decide +kernel
theorem d5_12 : decode method_4_code 12 = .ok (.istore 5, 2) := by decide +kernel
theorem d5_14 : decode method_4_code 14 = .ok (.iload 4, 2) := by decide +kernel
theorem d5_16 : decode method_4_code 16 = .ok (.iload_n 3, 1) := by decide +kernel
theorem d5_17 : decode method_4_code 17 = .ok (.iload_n 2, 1) := by decide +kernel
theorem d5_18 : decode method_4_code 18 = .ok (.idiv, 1) := by decide +kernel
theorem d5_19 : decode method_4_code 19 = .ok (.if_icmp .ne 15, 3) := by decide +kernel
theorem d5_22 : decode method_4_code 22 = .ok (.iload 5, 2) := by decide +kernel
theorem d5_24 : decode method_4_code 24 = .ok (.iload_n 3, 1) := by decide +kernel
theorem d5_25 : decode method_4_code 25 = .ok (.iload_n 2, 1) := by decide +kernel
theorem d5_26 : decode method_4_code 26 = .ok (.irem, 1) := by decide +kernel
theorem d5_27 : decode method_4_code 27 = .ok (.if_icmp .ne 7, 3) := by decide +kernel
theorem d5_30 : decode method_4_code 30 = .ok (.iconst 1, 1) := by decide +kernel
theorem d5_31 : decode method_4_code 31 = .ok (.goto 4, 3) := by decide +kernel
theorem d5_35 : decode method_4_code 35 = .ok (.ireturn, 1) := by decide +kernel
def Q_bok_s11_0 (Z : State) (a1 : Addr) (ta : Addr) (ca : Addr) (kt : ClassId) (kc : ClassId) (h0 : Heap) (n0 : Nat) (v : Option Value) (h : Heap) (L : List Loc) : Prop := v = some (.int (1 : Int32)) ∧ Fr n0 L ∧ Keep h0 h [a1, ta, ca] ∧ Exa Z h a1 cN0 ∧ Fld Z h a1 cN0 "taken" "[I" (.ref ta) ∧ Fld Z h a1 cN0 "counts" "[I" (.ref ca) ∧ Fld Z h a1 cN0 "met" "I" (.int (0 : Int32)) ∧ Fld Z h a1 cN0 "repeated" "I" (.int (0 : Int32)) ∧ Fld Z h a1 cN0 "branches" "I" (.int (1 : Int32)) ∧ Fld Z h a1 cN0 "computed" "I" (.int (0 : Int32)) ∧ OAr Z h ta kt .int (oA8 (0 : Int32) (0 : Int32)) ∧ OAr Z h ca kc .int (oA8 (0 : Int32) (0 : Int32))
set_option maxRecDepth 65536 in
set_option maxHeartbeats 40000000 in
theorem rm_bok_s11_0 (l : Launch) (Z : State) (a0 : Array Value) (hw : ∀ d ∈ tables_1, d.before a0 Z = true) (ws : List Jvm.Cond) (a1 : Addr) (ta : Addr) (ca : Addr) (kt : ClassId) (kc : ClassId) (h0 : Heap) (n0 : Nat) (Z0 : n0 ≤ h0.size) (E_a1 : Exa Z h0 a1 cN0) (F_taken_a1 : Fld Z h0 a1 cN0 "taken" "[I" (.ref ta)) (F_counts_a1 : Fld Z h0 a1 cN0 "counts" "[I" (.ref ca)) (F_met_a1 : Fld Z h0 a1 cN0 "met" "I" (.int (0 : Int32))) (F_repeated_a1 : Fld Z h0 a1 cN0 "repeated" "I" (.int (0 : Int32))) (F_branches_a1 : Fld Z h0 a1 cN0 "branches" "I" (.int (1 : Int32))) (F_computed_a1 : Fld Z h0 a1 cN0 "computed" "I" (.int (0 : Int32))) (V_ta : OAr Z h0 ta kt .int (oA8 (0 : Int32) (0 : Int32))) (V_ca : OAr Z h0 ca kc .int (oA8 (0 : Int32) (0 : Int32))) (g_a1 : n0 ≤ a1) (g_ta : n0 ≤ ta) (g_ca : n0 ≤ ca) (ne_a1_ta : a1 ≠ ta) (ne_a1_ca : a1 ≠ ca) (ne_ta_ca : ta ≠ ca) :
    MetFree l mN6 (head1 (Jvm.Cond.code mN6 method_4_code 6 (some .boolean) :: ws) ({ frames := 1, cells := 0, slots := 0, locals := 13 } : Room)) (fun a U => a = #[(.ref a1), (.int (1 : Int32)), (.int (1 : Int32)), (.int (0 : Int32))] ∧ Z.Warmed39 U.vm ∧ U.heap = h0) (fun _ _ _ _ _ => True) (fun _ U o U' => ∃ v L, o = .returned v ∧ Q_bok_s11_0 Z a1 ta ca kt kc h0 n0 v U'.heap L ∧ FrameEnd U o U' L ({ frames := 1, cells := 0, slots := 0, locals := 13 } : Room).cells ({ frames := 1, cells := 0, slots := 0, locals := 13 } : Room).slots) := by
  refine MetFree.of_bodySF (plainFor_of_name pn_com_example_flote_flote_program_ChoicesNextPinLaw) hisR ?_
  intro p e s m args below meth c s₁ Bd hml0 hP hK
  obtain ⟨rfl, hZ, hh⟩ := hP
  have hx := Bd.exec
  have hby := Bd.bytes
  have hml : c.maxLocals = 6 := hml0
  have hown : s.vm.findClass "com/example/flote/flote/program/ChoicesNextPinLaw" = some m.cls := findClass_of_methodNamed Bd.named
  have hnm := (name_of_methodNamed Bd.named Bd.method).1
  have X0 : Stand p l e ({ frames := 1, cells := 0, slots := 0, locals := 13 } : Room) s m #[(.ref a1), (.int (1 : Int32)), (.int (1 : Int32)), (.int (0 : Int32))] below meth c s₁ [] 0 0 := Stand.of_body Bd
  have e0 : s₁.heap = h0 := by rw [← hh, Bd.state]; rfl
  have N0 := Fr.nil n0
  obtain ⟨A0, hA0⟩ : ∃ z, z = s₁.setTop (entryFrame m #[(.ref a1), (.int (1 : Int32)), (.int (1 : Int32)), (.int (0 : Int32))] 6) := ⟨_, rfl⟩
  have K : OGo p e below A0 s₁ (mkF m 0 #[rv a1, iv 1, iv 1, iv 0, .unset, .unset] []) := fun t k => hA0 ▸ castTop (ef_5 m a1 (1 : Int32) (1 : Int32) (0 : Int32)) k
  replace K : OGo p e below A0 s₁ (mkF m 1 #[rv a1, iv 1, iv 1, iv 0, .unset, .unset] [(.ref a1)]) := fun t k => K t (XS.aloadN X0.here hx rfl (hb hby d5_0) rfl rfl k)
  replace K : OGo p e below A0 s₁ (mkF m 2 #[rv a1, iv 1, iv 1, iv 0, .unset, .unset] [(.int 1), (.ref a1)]) := fun t k => K t (XS.iloadN X0.here hx rfl (hb hby d5_1) rfl k)
  obtain ⟨cq1, kq1, qv1a, qv1b, qv1c⟩ := isOf hZ e0 E_a1
  obtain ⟨_, _, ⟨T1, L1, k1, n1⟩, -, X1, ⟨Lc1, hQ1, l1, y1, z1⟩, st1⟩ := X0.virtualBack hx (y := mN4) (z := mN4) hown (mvT hZ (ow hw 41 rfl)) (mvT hZ (ow hw 42 rfl)) (notFace_of_selects (args := #[]) (mvT hZ (ow hw 44 rfl))) (mvT hZ (ow hw 44 rfl)) (mvT hZ (ow hw 43 rfl)) (by decide) (backOf (W := 0) (rm_choose1 l Z a0 hw [] a1 h0 n0 Z0 ) hZ (ow hw 45 rfl) (ow hw 7 rfl) (by decide) (by decide)) qv1a qv1c (g := (mkF m 2 #[rv a1, iv 1, iv 1, iv 0, .unset, .unset] [(.int 1), (.ref a1)])) rfl (by rw [hml]; rfl) (Steps.refl _) (argsL := [(.int (1 : Int32))]) (rest := []) (lenOf pd__I_I rfl) rfl (by show 2 * 0 + _ ≤ _; exact Nat.le_of_eq rfl) (hb hby d5_2) (fun _ _ => ⟨rfl, e0, (by decide : 0 + 0 ≤ _), (by decide : 0 + 0 ≤ _)⟩)
  dsimp only [Pt.U, Pt.locs, Pt.cells, Pt.slots] at X1 l1 y1 z1 st1 hQ1
  subst l1 y1 z1
  obtain ⟨rfl, Nq1, e1⟩ := hQ1
  have N1 := Fr.app N0 Nq1
  replace K : OGo p e below A0 T1 (mkF m 5 #[rv a1, iv 1, iv 1, iv 0, .unset, .unset] [(.int 0)]) := fun t k => K t (st1.trans k)
  replace K : OGo p e below A0 T1 (mkF m 7 #[rv a1, iv 1, iv 1, iv 0, iv 0, .unset] []) := fun t k => K t (XS.istore X1.here hx rfl (hb hby d5_5) rfl (l' := #[rv a1, iv 1, iv 1, iv 0, iv 0, .unset]) rfl k)
  replace K : OGo p e below A0 T1 (mkF m 8 #[rv a1, iv 1, iv 1, iv 0, iv 0, .unset] [(.ref a1)]) := fun t k => K t (XS.aloadN X1.here hx rfl (hb hby d5_7) rfl rfl k)
  replace K : OGo p e below A0 T1 (mkF m 9 #[rv a1, iv 1, iv 1, iv 0, iv 0, .unset] [(.int 1), (.ref a1)]) := fun t k => K t (XS.iloadN X1.here hx rfl (hb hby d5_8) rfl k)
  obtain ⟨cq2, kq2, qv2a, qv2b, qv2c⟩ := isOf hZ e1 E_a1
  obtain ⟨_, _, ⟨T2, L2, k2, n2⟩, -, X2, ⟨Lc2, hQ2, l2, y2, z2⟩, st2⟩ := X1.virtualBack hx (y := mN4) (z := mN4) hown (mvT hZ (ow hw 41 rfl)) (mvT hZ (ow hw 42 rfl)) (notFace_of_selects (args := #[]) (mvT hZ (ow hw 44 rfl))) (mvT hZ (ow hw 44 rfl)) (mvT hZ (ow hw 43 rfl)) (by decide) (backOf (W := 0) (rm_choose1 l Z a0 hw [] a1 h0 n0 Z0 ) hZ (ow hw 45 rfl) (ow hw 7 rfl) (by decide) (by decide)) qv2a qv2c (g := (mkF m 9 #[rv a1, iv 1, iv 1, iv 0, iv 0, .unset] [(.int 1), (.ref a1)])) rfl (by rw [hml]; rfl) (Steps.refl _) (argsL := [(.int (1 : Int32))]) (rest := []) (lenOf pd__I_I rfl) rfl (by show 2 * 0 + _ ≤ _; exact Nat.le_of_eq rfl) (hb hby d5_9) (fun _ _ => ⟨rfl, e1, (by decide : 0 + 0 ≤ _), (by decide : 0 + 0 ≤ _)⟩)
  dsimp only [Pt.U, Pt.locs, Pt.cells, Pt.slots] at X2 l2 y2 z2 st2 hQ2
  subst l2 y2 z2
  obtain ⟨rfl, Nq2, e2⟩ := hQ2
  have N2 := Fr.app N1 Nq2
  replace K : OGo p e below A0 T2 (mkF m 12 #[rv a1, iv 1, iv 1, iv 0, iv 0, .unset] [(.int 0)]) := fun t k => K t (st2.trans k)
  replace K : OGo p e below A0 T2 (mkF m 14 #[rv a1, iv 1, iv 1, iv 0, iv 0, iv 0] []) := fun t k => K t (XS.istore X2.here hx rfl (hb hby d5_12) rfl (l' := #[rv a1, iv 1, iv 1, iv 0, iv 0, iv 0]) rfl k)
  replace K : OGo p e below A0 T2 (mkF m 16 #[rv a1, iv 1, iv 1, iv 0, iv 0, iv 0] [(.int 0)]) := fun t k => K t (XS.iload X2.here hx rfl (hb hby d5_14) rfl k)
  replace K : OGo p e below A0 T2 (mkF m 17 #[rv a1, iv 1, iv 1, iv 0, iv 0, iv 0] [(.int 0), (.int 0)]) := fun t k => K t (XS.iloadN X2.here hx rfl (hb hby d5_16) rfl k)
  replace K : OGo p e below A0 T2 (mkF m 18 #[rv a1, iv 1, iv 1, iv 0, iv 0, iv 0] [(.int 1), (.int 0), (.int 0)]) := fun t k => K t (XS.iloadN X2.here hx rfl (hb hby d5_17) rfl k)
  replace K : OGo p e below A0 T2 (mkF m 19 #[rv a1, iv 1, iv 1, iv 0, iv 0, iv 0] [(.int 0), (.int 0)]) := fun t k => K t (XS.idiv X2.here hx rfl (hb hby d5_18) rfl (by decide) k)
  replace K : OGo p e below A0 T2 (mkF m 22 #[rv a1, iv 1, iv 1, iv 0, iv 0, iv 0] []) := fun t k => K t (XS.icmpNo X2.here hx rfl (hb hby d5_19) rfl (teq ((by decide : (0 : Int32) = (0 : Int32)) : (0 : Int32) = (0 : Int32))).2 k)
  replace K : OGo p e below A0 T2 (mkF m 24 #[rv a1, iv 1, iv 1, iv 0, iv 0, iv 0] [(.int 0)]) := fun t k => K t (XS.iload X2.here hx rfl (hb hby d5_22) rfl k)
  replace K : OGo p e below A0 T2 (mkF m 25 #[rv a1, iv 1, iv 1, iv 0, iv 0, iv 0] [(.int 0), (.int 0)]) := fun t k => K t (XS.iloadN X2.here hx rfl (hb hby d5_24) rfl k)
  replace K : OGo p e below A0 T2 (mkF m 26 #[rv a1, iv 1, iv 1, iv 0, iv 0, iv 0] [(.int 1), (.int 0), (.int 0)]) := fun t k => K t (XS.iloadN X2.here hx rfl (hb hby d5_25) rfl k)
  replace K : OGo p e below A0 T2 (mkF m 27 #[rv a1, iv 1, iv 1, iv 0, iv 0, iv 0] [(.int 0), (.int 0)]) := fun t k => K t (iremM X2 hx rfl (hb hby d5_26) rfl (by decide) k)
  replace K : OGo p e below A0 T2 (mkF m 30 #[rv a1, iv 1, iv 1, iv 0, iv 0, iv 0] []) := fun t k => K t (XS.icmpNo X2.here hx rfl (hb hby d5_27) rfl (teq ((by decide : (0 : Int32) = (0 : Int32)) : (0 : Int32) = (0 : Int32))).2 k)
  replace K : OGo p e below A0 T2 (mkF m 31 #[rv a1, iv 1, iv 1, iv 0, iv 0, iv 0] [(.int 1)]) := fun t k => K t (XS.iconst X2.here hx rfl (hb hby d5_30) k)
  replace K : OGo p e below A0 T2 (mkF m 35 #[rv a1, iv 1, iv 1, iv 0, iv 0, iv 0] [(.int 1)]) := fun t k => K t (XS.goto X2.here hx rfl (pc0 := 31) (pc' := 35) rfl (hb hby d5_31) (by decide) (by decide) k)
  obtain ⟨fs, hr, hrun, hended, hW, hsame⟩ := X2.leave (v := some (.int (1 : Int32))) (fun h => by rw [Bd.returns] at h; cases h)
  subst hA0
  refine ⟨_, _, K _ (retN X2 hx (t := .boolean) Bd.returns (by simp) (hb hby d5_35) hr), hrun, hended, _, _, rfl, ?_, ⟨_, rfl⟩, hW, hsame.mono (by decide) (by decide)⟩
  show Q_bok_s11_0 Z a1 ta ca kt kc h0 n0 _ T2.heap _
  rw [e2]
  exact ⟨rfl, N2, (Keep.refl h0 [a1, ta, ca]), E_a1, F_taken_a1, F_counts_a1, F_met_a1, F_repeated_a1, F_branches_a1, F_computed_a1, V_ta, V_ca⟩
theorem ef_7 (m : MethodId) (x0 : Addr) : entryFrame m #[(.ref x0)] 3 = mkF m 0 #[.val (.ref x0), .unset, .unset] [] := by first | (simp [entryFrame, mkF, argsToLocals, Value.category]; done) | rfl
theorem d7_0 : decode prog_72_method_6_code 0 = .ok (.aload_n 0, 1) := by decide +kernel
theorem d7_1 : decode prog_72_method_6_code 1 = .ok (.getfield 25, 3) := by decide +kernel
theorem d7_4 : decode prog_72_method_6_code 4 = .ok (.iconst 1, 1) := by decide +kernel
theorem d7_5 : decode prog_72_method_6_code 5 = .ok (.isub, 1) := by decide +kernel
theorem d7_6 : decode prog_72_method_6_code 6 = .ok (.istore_n 1, 1) := by decide +kernel
theorem d7_7 : decode prog_72_method_6_code 7 = .ok (.iload_n 1, 1) := by decide +kernel
theorem d7_8 : decode prog_72_method_6_code 8 = .ok (.ifCond .lt 26, 3) := by decide +kernel
theorem d7_34 : decode prog_72_method_6_code 34 = .ok (.iload_n 1, 1) := by decide +kernel
theorem d7_35 : decode prog_72_method_6_code 35 = .ok (.ifCond .lt 7, 3) := by decide +kernel
theorem d7_42 : decode prog_72_method_6_code 42 = .ok (.iconst 0, 1) := by decide +kernel
theorem d7_43 : decode prog_72_method_6_code 43 = .ok (.istore_n 2, 1) := by decide +kernel
theorem d7_44 : decode prog_72_method_6_code 44 = .ok (.iload_n 2, 1) := by decide +kernel
theorem d7_45 : decode prog_72_method_6_code 45 = .ok (.ifCond .eq 40, 3) := by decide +kernel
theorem d7_85 : decode prog_72_method_6_code 85 = .ok (.iload_n 2, 1) := by decide +kernel
theorem d7_86 : decode prog_72_method_6_code 86 = .ok (.ireturn, 1) := by decide +kernel
def Q_nx_s11_0 (Z : State) (a1 : Addr) (ta : Addr) (ca : Addr) (kt : ClassId) (kc : ClassId) (h0 : Heap) (n0 : Nat) (v : Option Value) (h : Heap) (L : List Loc) : Prop := v = some (.int (0 : Int32)) ∧ Fr n0 L ∧ Keep h0 h [a1, ta, ca] ∧ Exa Z h a1 cN0 ∧ Fld Z h a1 cN0 "taken" "[I" (.ref ta) ∧ Fld Z h a1 cN0 "counts" "[I" (.ref ca) ∧ Fld Z h a1 cN0 "met" "I" (.int (0 : Int32)) ∧ Fld Z h a1 cN0 "repeated" "I" (.int (0 : Int32)) ∧ Fld Z h a1 cN0 "branches" "I" (.int (1 : Int32)) ∧ Fld Z h a1 cN0 "computed" "I" (.int (0 : Int32)) ∧ OAr Z h ta kt .int (oA8 (0 : Int32) (0 : Int32)) ∧ OAr Z h ca kc .int (oA8 (0 : Int32) (0 : Int32))
set_option maxRecDepth 65536 in
set_option maxHeartbeats 40000000 in
theorem rm_nx_s11_0 (l : Launch) (Z : State) (a0 : Array Value) (hw : ∀ d ∈ tables_1, d.before a0 Z = true) (ws : List Jvm.Cond) (a1 : Addr) (ta : Addr) (ca : Addr) (kt : ClassId) (kc : ClassId) (h0 : Heap) (n0 : Nat) (Z0 : n0 ≤ h0.size) (E_a1 : Exa Z h0 a1 cN0) (F_taken_a1 : Fld Z h0 a1 cN0 "taken" "[I" (.ref ta)) (F_counts_a1 : Fld Z h0 a1 cN0 "counts" "[I" (.ref ca)) (F_met_a1 : Fld Z h0 a1 cN0 "met" "I" (.int (0 : Int32))) (F_repeated_a1 : Fld Z h0 a1 cN0 "repeated" "I" (.int (0 : Int32))) (F_branches_a1 : Fld Z h0 a1 cN0 "branches" "I" (.int (1 : Int32))) (F_computed_a1 : Fld Z h0 a1 cN0 "computed" "I" (.int (0 : Int32))) (V_ta : OAr Z h0 ta kt .int (oA8 (0 : Int32) (0 : Int32))) (V_ca : OAr Z h0 ca kc .int (oA8 (0 : Int32) (0 : Int32))) (g_a1 : n0 ≤ a1) (g_ta : n0 ≤ ta) (g_ca : n0 ≤ ca) (ne_a1_ta : a1 ≠ ta) (ne_a1_ca : a1 ≠ ca) (ne_ta_ca : ta ≠ ca) :
    MetFree l mN7 (head1 (Jvm.Cond.code mN7 prog_72_method_6_code 3 (some .boolean) :: ws) ({ frames := 0, cells := 0, slots := 0, locals := 0 } : Room)) (fun a U => a = #[(.ref a1)] ∧ Z.Warmed39 U.vm ∧ U.heap = h0) (fun _ _ _ _ _ => True) (fun _ U o U' => ∃ v L, o = .returned v ∧ Q_nx_s11_0 Z a1 ta ca kt kc h0 n0 v U'.heap L ∧ FrameEnd U o U' L ({ frames := 0, cells := 0, slots := 0, locals := 0 } : Room).cells ({ frames := 0, cells := 0, slots := 0, locals := 0 } : Room).slots) := by
  refine MetFree.of_bodySF (plainFor_of_name pn_com_example_flote_flote_program_Choices) hisR ?_
  intro p e s m args below meth c s₁ Bd hml0 hP hK
  obtain ⟨rfl, hZ, hh⟩ := hP
  have hx := Bd.exec
  have hby := Bd.bytes
  have hml : c.maxLocals = 3 := hml0
  have hown : s.vm.findClass "com/example/flote/flote/program/Choices" = some m.cls := findClass_of_methodNamed Bd.named
  have hnm := (name_of_methodNamed Bd.named Bd.method).1
  have X0 : Stand p l e ({ frames := 0, cells := 0, slots := 0, locals := 0 } : Room) s m #[(.ref a1)] below meth c s₁ [] 0 0 := Stand.of_body Bd
  have e0 : s₁.heap = h0 := by rw [← hh, Bd.state]; rfl
  have N0 := Fr.nil n0
  obtain ⟨A0, hA0⟩ : ∃ z, z = s₁.setTop (entryFrame m #[(.ref a1)] 3) := ⟨_, rfl⟩
  have K : OGo p e below A0 s₁ (mkF m 0 #[rv a1, .unset, .unset] []) := fun t k => hA0 ▸ castTop (ef_7 m a1) k
  replace K : OGo p e below A0 s₁ (mkF m 1 #[rv a1, .unset, .unset] [(.ref a1)]) := fun t k => K t (XS.aloadN X0.here hx rfl (hb hby d7_0) rfl rfl k)
  obtain ⟨T1, X1, e1, st1⟩ := getF X0 hx hZ hown (host := "") (Or.inl (ow hw 30 rfl)) Via.refl e0 F_met_a1 (g := (mkF m 1 #[rv a1, .unset, .unset] [(.ref a1)])) rfl rfl (hb hby d7_1)
  replace K : OGo p e below A0 T1 (mkF m 4 #[rv a1, .unset, .unset] [(.int 0)]) := fun t k => K t (st1 t k)
  replace K : OGo p e below A0 T1 (mkF m 5 #[rv a1, .unset, .unset] [(.int 1), (.int 0)]) := fun t k => K t (XS.iconst X1.here hx rfl (hb hby d7_4) k)
  replace K : OGo p e below A0 T1 (mkF m 6 #[rv a1, .unset, .unset] [(.int (-1))]) := fun t k => K t (XS.isub X1.here hx rfl (hb hby d7_5) rfl k)
  replace K : OGo p e below A0 T1 (mkF m 7 #[rv a1, iv (-1), .unset] []) := fun t k => K t (XS.istoreN X1.here hx rfl (hb hby d7_6) rfl (l' := #[rv a1, iv (-1), .unset]) rfl k)
  replace K : OGo p e below A0 T1 (mkF m 8 #[rv a1, iv (-1), .unset] [(.int (-1))]) := fun t k => K t (XS.iloadN X1.here hx rfl (hb hby d7_7) rfl k)
  replace K : OGo p e below A0 T1 (mkF m 34 #[rv a1, iv (-1), .unset] []) := fun t k => K t (XS.ifYes X1.here hx rfl (pc0 := 8) (pc' := 34) rfl (hb hby d7_8) rfl ((if0 _ _).trans (tlt ((by decide : (-1 : Int32) < (0 : Int32)) : (-1 : Int32) < (0 : Int32))).1) (by decide) (by decide) k)
  replace K : OGo p e below A0 T1 (mkF m 35 #[rv a1, iv (-1), .unset] [(.int (-1))]) := fun t k => K t (XS.iloadN X1.here hx rfl (hb hby d7_34) rfl k)
  replace K : OGo p e below A0 T1 (mkF m 42 #[rv a1, iv (-1), .unset] []) := fun t k => K t (XS.ifYes X1.here hx rfl (pc0 := 35) (pc' := 42) rfl (hb hby d7_35) rfl ((if0 _ _).trans (tlt ((by decide : (-1 : Int32) < (0 : Int32)) : (-1 : Int32) < (0 : Int32))).1) (by decide) (by decide) k)
  replace K : OGo p e below A0 T1 (mkF m 43 #[rv a1, iv (-1), .unset] [(.int 0)]) := fun t k => K t (XS.iconst X1.here hx rfl (hb hby d7_42) k)
  replace K : OGo p e below A0 T1 (mkF m 44 #[rv a1, iv (-1), iv 0] []) := fun t k => K t (XS.istoreN X1.here hx rfl (hb hby d7_43) rfl (l' := #[rv a1, iv (-1), iv 0]) rfl k)
  replace K : OGo p e below A0 T1 (mkF m 45 #[rv a1, iv (-1), iv 0] [(.int 0)]) := fun t k => K t (XS.iloadN X1.here hx rfl (hb hby d7_44) rfl k)
  replace K : OGo p e below A0 T1 (mkF m 85 #[rv a1, iv (-1), iv 0] []) := fun t k => K t (XS.ifYes X1.here hx rfl (pc0 := 45) (pc' := 85) rfl (hb hby d7_45) rfl ((if0 _ _).trans (teq ((by decide : (0 : Int32) = (0 : Int32)) : (0 : Int32) = (0 : Int32))).1) (by decide) (by decide) k)
  replace K : OGo p e below A0 T1 (mkF m 86 #[rv a1, iv (-1), iv 0] [(.int 0)]) := fun t k => K t (XS.iloadN X1.here hx rfl (hb hby d7_85) rfl k)
  obtain ⟨fs, hr, hrun, hended, hW, hsame⟩ := X1.leave (v := some (.int (0 : Int32))) (fun h => by rw [Bd.returns] at h; cases h)
  subst hA0
  refine ⟨_, _, K _ (retN X1 hx (t := .boolean) Bd.returns (by simp) (hb hby d7_86) hr), hrun, hended, _, _, rfl, ?_, ⟨_, rfl⟩, hW, hsame.mono (by decide) (by decide)⟩
  show Q_nx_s11_0 Z a1 ta ca kt kc h0 n0 _ T1.heap _
  rw [e1]
  exact ⟨rfl, N0, (Keep.refl h0 [a1, ta, ca]), E_a1, F_taken_a1, F_counts_a1, F_met_a1, F_repeated_a1, F_branches_a1, F_computed_a1, V_ta, V_ca⟩
def Q_bok_s12_0 (Z : State) (a1 : Addr) (ta : Addr) (ca : Addr) (kt : ClassId) (kc : ClassId) (h0 : Heap) (n0 : Nat) (v : Option Value) (h : Heap) (L : List Loc) : Prop := v = some (.int (1 : Int32)) ∧ Fr n0 L ∧ Keep h0 h [a1, ta, ca] ∧ Exa Z h a1 cN0 ∧ Fld Z h a1 cN0 "taken" "[I" (.ref ta) ∧ Fld Z h a1 cN0 "counts" "[I" (.ref ca) ∧ Fld Z h a1 cN0 "met" "I" (.int (1 : Int32)) ∧ Fld Z h a1 cN0 "repeated" "I" (.int (0 : Int32)) ∧ Fld Z h a1 cN0 "branches" "I" (.int (1 : Int32)) ∧ Fld Z h a1 cN0 "computed" "I" (.int (0 : Int32)) ∧ OAr Z h ta kt .int (oA8 (0 : Int32) (0 : Int32)) ∧ OAr Z h ca kc .int (oA8 (2 : Int32) (0 : Int32))
set_option maxRecDepth 65536 in
set_option maxHeartbeats 40000000 in
theorem rm_bok_s12_0 (l : Launch) (Z : State) (a0 : Array Value) (hw : ∀ d ∈ tables_1, d.before a0 Z = true) (ws : List Jvm.Cond) (a1 : Addr) (ta : Addr) (ca : Addr) (kt : ClassId) (kc : ClassId) (h0 : Heap) (n0 : Nat) (Z0 : n0 ≤ h0.size) (E_a1 : Exa Z h0 a1 cN0) (F_taken_a1 : Fld Z h0 a1 cN0 "taken" "[I" (.ref ta)) (F_counts_a1 : Fld Z h0 a1 cN0 "counts" "[I" (.ref ca)) (F_met_a1 : Fld Z h0 a1 cN0 "met" "I" (.int (0 : Int32))) (F_repeated_a1 : Fld Z h0 a1 cN0 "repeated" "I" (.int (0 : Int32))) (F_branches_a1 : Fld Z h0 a1 cN0 "branches" "I" (.int (1 : Int32))) (F_computed_a1 : Fld Z h0 a1 cN0 "computed" "I" (.int (0 : Int32))) (V_ta : OAr Z h0 ta kt .int (oA8 (0 : Int32) (0 : Int32))) (V_ca : OAr Z h0 ca kc .int (oA8 (0 : Int32) (0 : Int32))) (g_a1 : n0 ≤ a1) (g_ta : n0 ≤ ta) (g_ca : n0 ≤ ca) (ne_a1_ta : a1 ≠ ta) (ne_a1_ca : a1 ≠ ca) (ne_ta_ca : ta ≠ ca) :
    MetFree l mN6 (head1 (Jvm.Cond.code mN6 method_4_code 6 (some .boolean) :: ws) ({ frames := 1, cells := 0, slots := 0, locals := 13 } : Room)) (fun a U => a = #[(.ref a1), (.int (1 : Int32)), (.int (2 : Int32)), (.int (0 : Int32))] ∧ Z.Warmed39 U.vm ∧ U.heap = h0) (fun _ _ _ _ _ => True) (fun _ U o U' => ∃ v L, o = .returned v ∧ Q_bok_s12_0 Z a1 ta ca kt kc h0 n0 v U'.heap L ∧ FrameEnd U o U' L ({ frames := 1, cells := 0, slots := 0, locals := 13 } : Room).cells ({ frames := 1, cells := 0, slots := 0, locals := 13 } : Room).slots) := by
  refine MetFree.of_bodySF (plainFor_of_name pn_com_example_flote_flote_program_ChoicesNextPinLaw) hisR ?_
  intro p e s m args below meth c s₁ Bd hml0 hP hK
  obtain ⟨rfl, hZ, hh⟩ := hP
  have hx := Bd.exec
  have hby := Bd.bytes
  have hml : c.maxLocals = 6 := hml0
  have hown : s.vm.findClass "com/example/flote/flote/program/ChoicesNextPinLaw" = some m.cls := findClass_of_methodNamed Bd.named
  have hnm := (name_of_methodNamed Bd.named Bd.method).1
  have X0 : Stand p l e ({ frames := 1, cells := 0, slots := 0, locals := 13 } : Room) s m #[(.ref a1), (.int (1 : Int32)), (.int (2 : Int32)), (.int (0 : Int32))] below meth c s₁ [] 0 0 := Stand.of_body Bd
  have e0 : s₁.heap = h0 := by rw [← hh, Bd.state]; rfl
  have N0 := Fr.nil n0
  obtain ⟨A0, hA0⟩ : ∃ z, z = s₁.setTop (entryFrame m #[(.ref a1), (.int (1 : Int32)), (.int (2 : Int32)), (.int (0 : Int32))] 6) := ⟨_, rfl⟩
  have K : OGo p e below A0 s₁ (mkF m 0 #[rv a1, iv 1, iv 2, iv 0, .unset, .unset] []) := fun t k => hA0 ▸ castTop (ef_5 m a1 (1 : Int32) (2 : Int32) (0 : Int32)) k
  replace K : OGo p e below A0 s₁ (mkF m 1 #[rv a1, iv 1, iv 2, iv 0, .unset, .unset] [(.ref a1)]) := fun t k => K t (XS.aloadN X0.here hx rfl (hb hby d5_0) rfl rfl k)
  replace K : OGo p e below A0 s₁ (mkF m 2 #[rv a1, iv 1, iv 2, iv 0, .unset, .unset] [(.int 1), (.ref a1)]) := fun t k => K t (XS.iloadN X0.here hx rfl (hb hby d5_1) rfl k)
  obtain ⟨cq1, kq1, qv1a, qv1b, qv1c⟩ := isOf hZ e0 E_a1
  obtain ⟨_, _, ⟨T1, L1, k1, n1⟩, -, X1, ⟨Lc1, hQ1, l1, y1, z1⟩, st1⟩ := X0.virtualBack hx (y := mN4) (z := mN4) hown (mvT hZ (ow hw 41 rfl)) (mvT hZ (ow hw 42 rfl)) (notFace_of_selects (args := #[]) (mvT hZ (ow hw 44 rfl))) (mvT hZ (ow hw 44 rfl)) (mvT hZ (ow hw 43 rfl)) (by decide) (backOf (W := 0) (rm_choose1 l Z a0 hw [] a1 h0 n0 Z0 ) hZ (ow hw 45 rfl) (ow hw 7 rfl) (by decide) (by decide)) qv1a qv1c (g := (mkF m 2 #[rv a1, iv 1, iv 2, iv 0, .unset, .unset] [(.int 1), (.ref a1)])) rfl (by rw [hml]; rfl) (Steps.refl _) (argsL := [(.int (1 : Int32))]) (rest := []) (lenOf pd__I_I rfl) rfl (by show 2 * 0 + _ ≤ _; exact Nat.le_of_eq rfl) (hb hby d5_2) (fun _ _ => ⟨rfl, e0, (by decide : 0 + 0 ≤ _), (by decide : 0 + 0 ≤ _)⟩)
  dsimp only [Pt.U, Pt.locs, Pt.cells, Pt.slots] at X1 l1 y1 z1 st1 hQ1
  subst l1 y1 z1
  obtain ⟨rfl, Nq1, e1⟩ := hQ1
  have N1 := Fr.app N0 Nq1
  replace K : OGo p e below A0 T1 (mkF m 5 #[rv a1, iv 1, iv 2, iv 0, .unset, .unset] [(.int 0)]) := fun t k => K t (st1.trans k)
  replace K : OGo p e below A0 T1 (mkF m 7 #[rv a1, iv 1, iv 2, iv 0, iv 0, .unset] []) := fun t k => K t (XS.istore X1.here hx rfl (hb hby d5_5) rfl (l' := #[rv a1, iv 1, iv 2, iv 0, iv 0, .unset]) rfl k)
  replace K : OGo p e below A0 T1 (mkF m 8 #[rv a1, iv 1, iv 2, iv 0, iv 0, .unset] [(.ref a1)]) := fun t k => K t (XS.aloadN X1.here hx rfl (hb hby d5_7) rfl rfl k)
  replace K : OGo p e below A0 T1 (mkF m 9 #[rv a1, iv 1, iv 2, iv 0, iv 0, .unset] [(.int 2), (.ref a1)]) := fun t k => K t (XS.iloadN X1.here hx rfl (hb hby d5_8) rfl k)
  obtain ⟨cq2, kq2, qv2a, qv2b, qv2c⟩ := isOf hZ e1 E_a1
  obtain ⟨_, _, ⟨T2, L2, k2, n2⟩, -, X2, ⟨Lc2, hQ2, l2, y2, z2⟩, st2⟩ := X1.virtualBack hx (y := mN4) (z := mN4) hown (mvT hZ (ow hw 41 rfl)) (mvT hZ (ow hw 42 rfl)) (notFace_of_selects (args := #[]) (mvT hZ (ow hw 44 rfl))) (mvT hZ (ow hw 44 rfl)) (mvT hZ (ow hw 43 rfl)) (by decide) (backOf (W := 0) (rm_chooseN00L l Z a0 hw [] a1 ta ca kt kc (0 : Int32) (0 : Int32) (0 : Int32) (0 : Int32) (1 : Int32) (0 : Int32) h0 n0 Z0 E_a1 F_taken_a1 F_counts_a1 F_met_a1 F_repeated_a1 F_branches_a1 F_computed_a1 V_ta V_ca g_a1 g_ta g_ca ne_a1_ta ne_a1_ca ne_ta_ca) hZ (ow hw 45 rfl) (ow hw 7 rfl) (by decide) (by decide)) qv2a qv2c (g := (mkF m 9 #[rv a1, iv 1, iv 2, iv 0, iv 0, .unset] [(.int 2), (.ref a1)])) rfl (by rw [hml]; rfl) (Steps.refl _) (argsL := [(.int (2 : Int32))]) (rest := []) (lenOf pd__I_I rfl) rfl (by show 2 * 0 + _ ≤ _; exact Nat.le_of_eq rfl) (hb hby d5_9) (fun _ _ => ⟨rfl, e1, (by decide : 0 + 0 ≤ _), (by decide : 0 + 0 ≤ _)⟩)
  dsimp only [Pt.U, Pt.locs, Pt.cells, Pt.slots] at X2 l2 y2 z2 st2 hQ2
  subst l2 y2 z2
  obtain ⟨hp2, e2⟩ : ∃ z, T2.heap = z := ⟨_, rfl⟩
  rw [e2] at hQ2
  obtain ⟨rfl, Nq2, K2, P2_0, P2_1, P2_2, P2_3, P2_4, P2_5, P2_6, P2_7, P2_8⟩ := hQ2
  have Z2 : n0 ≤ hp2.size := Nat.le_trans Z0 K2.1
  have Kp2 : Keep h0 hp2 [a1, ta, ca] := (Keep.refl h0 [a1, ta, ca]).trans K2 (allS (Or.inl (List.mem_of_getElem? (i := 0) rfl)) (allS (Or.inl (List.mem_of_getElem? (i := 1) rfl)) (allS (Or.inl (List.mem_of_getElem? (i := 2) rfl)) all0)))
  have N2 := Fr.app N1 Nq2
  replace K : OGo p e below A0 T2 (mkF m 12 #[rv a1, iv 1, iv 2, iv 0, iv 0, .unset] [(.int 0)]) := fun t k => K t (st2.trans k)
  replace K : OGo p e below A0 T2 (mkF m 14 #[rv a1, iv 1, iv 2, iv 0, iv 0, iv 0] []) := fun t k => K t (XS.istore X2.here hx rfl (hb hby d5_12) rfl (l' := #[rv a1, iv 1, iv 2, iv 0, iv 0, iv 0]) rfl k)
  replace K : OGo p e below A0 T2 (mkF m 16 #[rv a1, iv 1, iv 2, iv 0, iv 0, iv 0] [(.int 0)]) := fun t k => K t (XS.iload X2.here hx rfl (hb hby d5_14) rfl k)
  replace K : OGo p e below A0 T2 (mkF m 17 #[rv a1, iv 1, iv 2, iv 0, iv 0, iv 0] [(.int 0), (.int 0)]) := fun t k => K t (XS.iloadN X2.here hx rfl (hb hby d5_16) rfl k)
  replace K : OGo p e below A0 T2 (mkF m 18 #[rv a1, iv 1, iv 2, iv 0, iv 0, iv 0] [(.int 2), (.int 0), (.int 0)]) := fun t k => K t (XS.iloadN X2.here hx rfl (hb hby d5_17) rfl k)
  replace K : OGo p e below A0 T2 (mkF m 19 #[rv a1, iv 1, iv 2, iv 0, iv 0, iv 0] [(.int 0), (.int 0)]) := fun t k => K t (XS.idiv X2.here hx rfl (hb hby d5_18) rfl (by decide) k)
  replace K : OGo p e below A0 T2 (mkF m 22 #[rv a1, iv 1, iv 2, iv 0, iv 0, iv 0] []) := fun t k => K t (XS.icmpNo X2.here hx rfl (hb hby d5_19) rfl (teq ((by decide : (0 : Int32) = (0 : Int32)) : (0 : Int32) = (0 : Int32))).2 k)
  replace K : OGo p e below A0 T2 (mkF m 24 #[rv a1, iv 1, iv 2, iv 0, iv 0, iv 0] [(.int 0)]) := fun t k => K t (XS.iload X2.here hx rfl (hb hby d5_22) rfl k)
  replace K : OGo p e below A0 T2 (mkF m 25 #[rv a1, iv 1, iv 2, iv 0, iv 0, iv 0] [(.int 0), (.int 0)]) := fun t k => K t (XS.iloadN X2.here hx rfl (hb hby d5_24) rfl k)
  replace K : OGo p e below A0 T2 (mkF m 26 #[rv a1, iv 1, iv 2, iv 0, iv 0, iv 0] [(.int 2), (.int 0), (.int 0)]) := fun t k => K t (XS.iloadN X2.here hx rfl (hb hby d5_25) rfl k)
  replace K : OGo p e below A0 T2 (mkF m 27 #[rv a1, iv 1, iv 2, iv 0, iv 0, iv 0] [(.int 0), (.int 0)]) := fun t k => K t (iremM X2 hx rfl (hb hby d5_26) rfl (by decide) k)
  replace K : OGo p e below A0 T2 (mkF m 30 #[rv a1, iv 1, iv 2, iv 0, iv 0, iv 0] []) := fun t k => K t (XS.icmpNo X2.here hx rfl (hb hby d5_27) rfl (teq ((by decide : (0 : Int32) = (0 : Int32)) : (0 : Int32) = (0 : Int32))).2 k)
  replace K : OGo p e below A0 T2 (mkF m 31 #[rv a1, iv 1, iv 2, iv 0, iv 0, iv 0] [(.int 1)]) := fun t k => K t (XS.iconst X2.here hx rfl (hb hby d5_30) k)
  replace K : OGo p e below A0 T2 (mkF m 35 #[rv a1, iv 1, iv 2, iv 0, iv 0, iv 0] [(.int 1)]) := fun t k => K t (XS.goto X2.here hx rfl (pc0 := 31) (pc' := 35) rfl (hb hby d5_31) (by decide) (by decide) k)
  obtain ⟨fs, hr, hrun, hended, hW, hsame⟩ := X2.leave (v := some (.int (1 : Int32))) (fun h => by rw [Bd.returns] at h; cases h)
  subst hA0
  refine ⟨_, _, K _ (retN X2 hx (t := .boolean) Bd.returns (by simp) (hb hby d5_35) hr), hrun, hended, _, _, rfl, ?_, ⟨_, rfl⟩, hW, hsame.mono (by decide) (by decide)⟩
  show Q_bok_s12_0 Z a1 ta ca kt kc h0 n0 _ T2.heap _
  rw [e2]
  exact ⟨rfl, N2, Kp2, P2_0, P2_1, P2_2, P2_3, P2_4, P2_5, P2_6, P2_7, P2_8⟩
theorem d7_11 : decode prog_72_method_6_code 11 = .ok (.aload_n 0, 1) := by decide +kernel
theorem d7_12 : decode prog_72_method_6_code 12 = .ok (.getfield 7, 3) := by decide +kernel
theorem d7_15 : decode prog_72_method_6_code 15 = .ok (.iload_n 1, 1) := by decide +kernel
theorem d7_16 : decode prog_72_method_6_code 16 = .ok (.iaload, 1) := by decide +kernel
theorem d7_17 : decode prog_72_method_6_code 17 = .ok (.aload_n 0, 1) := by decide +kernel
theorem d7_18 : decode prog_72_method_6_code 18 = .ok (.getfield 13, 3) := by decide +kernel
theorem d7_21 : decode prog_72_method_6_code 21 = .ok (.iload_n 1, 1) := by decide +kernel
theorem d7_22 : decode prog_72_method_6_code 22 = .ok (.iaload, 1) := by decide +kernel
theorem d7_23 : decode prog_72_method_6_code 23 = .ok (.iconst 1, 1) := by decide +kernel
theorem d7_24 : decode prog_72_method_6_code 24 = .ok (.isub, 1) := by decide +kernel
theorem d7_25 : decode prog_72_method_6_code 25 = .ok (.if_icmp .ne 9, 3) := by decide +kernel
theorem d7_38 : decode prog_72_method_6_code 38 = .ok (.iconst 1, 1) := by decide +kernel
theorem d7_39 : decode prog_72_method_6_code 39 = .ok (.goto 4, 3) := by decide +kernel
theorem d7_48 : decode prog_72_method_6_code 48 = .ok (.aload_n 0, 1) := by decide +kernel
theorem d7_49 : decode prog_72_method_6_code 49 = .ok (.getfield 7, 3) := by decide +kernel
theorem d7_52 : decode prog_72_method_6_code 52 = .ok (.iload_n 1, 1) := by decide +kernel
theorem d7_53 : decode prog_72_method_6_code 53 = .ok (.dup2, 1) := by decide +kernel
theorem d7_54 : decode prog_72_method_6_code 54 = .ok (.iaload, 1) := by decide +kernel
theorem d7_55 : decode prog_72_method_6_code 55 = .ok (.iconst 1, 1) := by decide +kernel
theorem d7_56 : decode prog_72_method_6_code 56 = .ok (.iadd, 1) := by decide +kernel
theorem d7_57 : decode prog_72_method_6_code 57 = .ok (.iastore, 1) := by decide +kernel
theorem d7_58 : decode prog_72_method_6_code 58 = .ok (.aload_n 0, 1) := by decide +kernel
theorem d7_59 : decode prog_72_method_6_code 59 = .ok (.iload_n 1, 1) := by decide +kernel
theorem d7_60 : decode prog_72_method_6_code 60 = .ok (.iconst 1, 1) := by decide +kernel
theorem d7_61 : decode prog_72_method_6_code 61 = .ok (.iadd, 1) := by decide +kernel
theorem d7_62 : decode prog_72_method_6_code 62 = .ok (.putfield 29, 3) := by decide +kernel
theorem d7_65 : decode prog_72_method_6_code 65 = .ok (.aload_n 0, 1) := by decide +kernel
theorem d7_66 : decode prog_72_method_6_code 66 = .ok (.iconst 0, 1) := by decide +kernel
theorem d7_67 : decode prog_72_method_6_code 67 = .ok (.putfield 25, 3) := by decide +kernel
theorem d7_70 : decode prog_72_method_6_code 70 = .ok (.aload_n 0, 1) := by decide +kernel
theorem d7_71 : decode prog_72_method_6_code 71 = .ok (.dup, 1) := by decide +kernel
theorem d7_72 : decode prog_72_method_6_code 72 = .ok (.getfield 32, 3) := by decide +kernel
theorem d7_75 : decode prog_72_method_6_code 75 = .ok (.iconst 1, 1) := by decide +kernel
theorem d7_76 : decode prog_72_method_6_code 76 = .ok (.iadd, 1) := by decide +kernel
theorem d7_77 : decode prog_72_method_6_code 77 = .ok (.putfield 32, 3) := by decide +kernel
theorem d7_80 : decode prog_72_method_6_code 80 = .ok (.aload_n 0, 1) := by decide +kernel
theorem d7_81 : decode prog_72_method_6_code 81 = .ok (.iconst 0, 1) := by decide +kernel
theorem d7_82 : decode prog_72_method_6_code 82 = .ok (.putfield 35, 3) := by decide +kernel
def Q_nx_A_lit2 (Z : State) (a1 : Addr) (ta : Addr) (ca : Addr) (kt : ClassId) (kc : ClassId) (h0 : Heap) (n0 : Nat) (v : Option Value) (h : Heap) (L : List Loc) : Prop := v = some (.int (1 : Int32)) ∧ Fr n0 L ∧ Keep h0 h [a1, ta, ca] ∧ Exa Z h a1 cN0 ∧ Fld Z h a1 cN0 "taken" "[I" (.ref ta) ∧ Fld Z h a1 cN0 "counts" "[I" (.ref ca) ∧ Fld Z h a1 cN0 "met" "I" (.int (0 : Int32)) ∧ Fld Z h a1 cN0 "repeated" "I" (.int (1 : Int32)) ∧ Fld Z h a1 cN0 "branches" "I" (.int (2 : Int32)) ∧ Fld Z h a1 cN0 "computed" "I" (.int (0 : Int32)) ∧ OAr Z h ta kt .int (oA8 (1 : Int32) (0 : Int32)) ∧ OAr Z h ca kc .int (oA8 (2 : Int32) (0 : Int32))
set_option maxRecDepth 65536 in
set_option maxHeartbeats 40000000 in
theorem rm_nx_A_lit2 (l : Launch) (Z : State) (a0 : Array Value) (hw : ∀ d ∈ tables_1, d.before a0 Z = true) (ws : List Jvm.Cond) (a1 : Addr) (ta : Addr) (ca : Addr) (kt : ClassId) (kc : ClassId) (h0 : Heap) (n0 : Nat) (Z0 : n0 ≤ h0.size) (E_a1 : Exa Z h0 a1 cN0) (F_taken_a1 : Fld Z h0 a1 cN0 "taken" "[I" (.ref ta)) (F_counts_a1 : Fld Z h0 a1 cN0 "counts" "[I" (.ref ca)) (F_met_a1 : Fld Z h0 a1 cN0 "met" "I" (.int (1 : Int32))) (F_repeated_a1 : Fld Z h0 a1 cN0 "repeated" "I" (.int (0 : Int32))) (F_branches_a1 : Fld Z h0 a1 cN0 "branches" "I" (.int (1 : Int32))) (F_computed_a1 : Fld Z h0 a1 cN0 "computed" "I" (.int (0 : Int32))) (V_ta : OAr Z h0 ta kt .int (oA8 (0 : Int32) (0 : Int32))) (V_ca : OAr Z h0 ca kc .int (oA8 (2 : Int32) (0 : Int32))) (g_a1 : n0 ≤ a1) (g_ta : n0 ≤ ta) (g_ca : n0 ≤ ca) (ne_a1_ta : a1 ≠ ta) (ne_a1_ca : a1 ≠ ca) (ne_ta_ca : ta ≠ ca) :
    MetFree l mN7 (head1 (Jvm.Cond.code mN7 prog_72_method_6_code 3 (some .boolean) :: ws) ({ frames := 0, cells := 0, slots := 0, locals := 0 } : Room)) (fun a U => a = #[(.ref a1)] ∧ Z.Warmed39 U.vm ∧ U.heap = h0) (fun _ _ _ _ _ => True) (fun _ U o U' => ∃ v L, o = .returned v ∧ Q_nx_A_lit2 Z a1 ta ca kt kc h0 n0 v U'.heap L ∧ FrameEnd U o U' L ({ frames := 0, cells := 0, slots := 0, locals := 0 } : Room).cells ({ frames := 0, cells := 0, slots := 0, locals := 0 } : Room).slots) := by
  refine MetFree.of_bodySF (plainFor_of_name pn_com_example_flote_flote_program_Choices) hisR ?_
  intro p e s m args below meth c s₁ Bd hml0 hP hK
  obtain ⟨rfl, hZ, hh⟩ := hP
  have hx := Bd.exec
  have hby := Bd.bytes
  have hml : c.maxLocals = 3 := hml0
  have hown : s.vm.findClass "com/example/flote/flote/program/Choices" = some m.cls := findClass_of_methodNamed Bd.named
  have hnm := (name_of_methodNamed Bd.named Bd.method).1
  have X0 : Stand p l e ({ frames := 0, cells := 0, slots := 0, locals := 0 } : Room) s m #[(.ref a1)] below meth c s₁ [] 0 0 := Stand.of_body Bd
  have e0 : s₁.heap = h0 := by rw [← hh, Bd.state]; rfl
  have N0 := Fr.nil n0
  obtain ⟨A0, hA0⟩ : ∃ z, z = s₁.setTop (entryFrame m #[(.ref a1)] 3) := ⟨_, rfl⟩
  have K : OGo p e below A0 s₁ (mkF m 0 #[rv a1, .unset, .unset] []) := fun t k => hA0 ▸ castTop (ef_7 m a1) k
  replace K : OGo p e below A0 s₁ (mkF m 1 #[rv a1, .unset, .unset] [(.ref a1)]) := fun t k => K t (XS.aloadN X0.here hx rfl (hb hby d7_0) rfl rfl k)
  obtain ⟨T1, X1, e1, st1⟩ := getF X0 hx hZ hown (host := "") (Or.inl (ow hw 30 rfl)) Via.refl e0 F_met_a1 (g := (mkF m 1 #[rv a1, .unset, .unset] [(.ref a1)])) rfl rfl (hb hby d7_1)
  replace K : OGo p e below A0 T1 (mkF m 4 #[rv a1, .unset, .unset] [(.int 1)]) := fun t k => K t (st1 t k)
  replace K : OGo p e below A0 T1 (mkF m 5 #[rv a1, .unset, .unset] [(.int 1), (.int 1)]) := fun t k => K t (XS.iconst X1.here hx rfl (hb hby d7_4) k)
  replace K : OGo p e below A0 T1 (mkF m 6 #[rv a1, .unset, .unset] [(.int 0)]) := fun t k => K t (XS.isub X1.here hx rfl (hb hby d7_5) rfl k)
  replace K : OGo p e below A0 T1 (mkF m 7 #[rv a1, iv 0, .unset] []) := fun t k => K t (XS.istoreN X1.here hx rfl (hb hby d7_6) rfl (l' := #[rv a1, iv 0, .unset]) rfl k)
  replace K : OGo p e below A0 T1 (mkF m 8 #[rv a1, iv 0, .unset] [(.int 0)]) := fun t k => K t (XS.iloadN X1.here hx rfl (hb hby d7_7) rfl k)
  replace K : OGo p e below A0 T1 (mkF m 11 #[rv a1, iv 0, .unset] []) := fun t k => K t (XS.ifNo X1.here hx rfl (hb hby d7_8) rfl ((if0 _ _).trans (flt ((by decide : ¬ ((0 : Int32) < (0 : Int32))) : ¬ ((0 : Int32) < (0 : Int32)))).1) k)
  replace K : OGo p e below A0 T1 (mkF m 12 #[rv a1, iv 0, .unset] [(.ref a1)]) := fun t k => K t (XS.aloadN X1.here hx rfl (hb hby d7_11) rfl rfl k)
  obtain ⟨T2, X2, e2, st2⟩ := getF X1 hx hZ hown (host := "") (Or.inl (ow hw 15 rfl)) Via.refl e1 F_taken_a1 (g := (mkF m 12 #[rv a1, iv 0, .unset] [(.ref a1)])) rfl rfl (hb hby d7_12)
  replace K : OGo p e below A0 T2 (mkF m 15 #[rv a1, iv 0, .unset] [(.ref ta)]) := fun t k => K t (st2 t k)
  replace K : OGo p e below A0 T2 (mkF m 16 #[rv a1, iv 0, .unset] [(.int 0), (.ref ta)]) := fun t k => K t (XS.iloadN X2.here hx rfl (hb hby d7_15) rfl k)
  replace K : OGo p e below A0 T2 (mkF m 17 #[rv a1, iv 0, .unset] [(.int 0)]) := fun t k => K t (own_ldI X2 hx hZ e2 V_ta (j := (0 : Int32)) (v := (.int (0 : Int32))) (by decide) rfl (g := (mkF m 16 #[rv a1, iv 0, .unset] [(.int 0), (.ref ta)])) rfl rfl (hb hby d7_16) t k)
  replace K : OGo p e below A0 T2 (mkF m 18 #[rv a1, iv 0, .unset] [(.ref a1), (.int 0)]) := fun t k => K t (XS.aloadN X2.here hx rfl (hb hby d7_17) rfl rfl k)
  obtain ⟨T3, X3, e3, st3⟩ := getF X2 hx hZ hown (host := "") (Or.inl (ow hw 17 rfl)) Via.refl e2 F_counts_a1 (g := (mkF m 18 #[rv a1, iv 0, .unset] [(.ref a1), (.int 0)])) rfl rfl (hb hby d7_18)
  replace K : OGo p e below A0 T3 (mkF m 21 #[rv a1, iv 0, .unset] [(.ref ca), (.int 0)]) := fun t k => K t (st3 t k)
  replace K : OGo p e below A0 T3 (mkF m 22 #[rv a1, iv 0, .unset] [(.int 0), (.ref ca), (.int 0)]) := fun t k => K t (XS.iloadN X3.here hx rfl (hb hby d7_21) rfl k)
  replace K : OGo p e below A0 T3 (mkF m 23 #[rv a1, iv 0, .unset] [(.int 2), (.int 0)]) := fun t k => K t (own_ldI X3 hx hZ e3 V_ca (j := (0 : Int32)) (v := (.int (2 : Int32))) (by decide) rfl (g := (mkF m 22 #[rv a1, iv 0, .unset] [(.int 0), (.ref ca), (.int 0)])) rfl rfl (hb hby d7_22) t k)
  replace K : OGo p e below A0 T3 (mkF m 24 #[rv a1, iv 0, .unset] [(.int 1), (.int 2), (.int 0)]) := fun t k => K t (XS.iconst X3.here hx rfl (hb hby d7_23) k)
  replace K : OGo p e below A0 T3 (mkF m 25 #[rv a1, iv 0, .unset] [(.int 1), (.int 0)]) := fun t k => K t (XS.isub X3.here hx rfl (hb hby d7_24) rfl k)
  replace K : OGo p e below A0 T3 (mkF m 34 #[rv a1, iv 0, .unset] []) := fun t k => K t (XS.icmpYes X3.here hx rfl (pc0 := 25) (pc' := 34) rfl (hb hby d7_25) rfl (feq ((by decide : ¬ ((0 : Int32) = (1 : Int32))) : ¬ ((0 : Int32) = (1 : Int32)))).2 (by decide) (by decide) k)
  replace K : OGo p e below A0 T3 (mkF m 35 #[rv a1, iv 0, .unset] [(.int 0)]) := fun t k => K t (XS.iloadN X3.here hx rfl (hb hby d7_34) rfl k)
  replace K : OGo p e below A0 T3 (mkF m 38 #[rv a1, iv 0, .unset] []) := fun t k => K t (XS.ifNo X3.here hx rfl (hb hby d7_35) rfl ((if0 _ _).trans (flt ((by decide : ¬ ((0 : Int32) < (0 : Int32))) : ¬ ((0 : Int32) < (0 : Int32)))).1) k)
  replace K : OGo p e below A0 T3 (mkF m 39 #[rv a1, iv 0, .unset] [(.int 1)]) := fun t k => K t (XS.iconst X3.here hx rfl (hb hby d7_38) k)
  replace K : OGo p e below A0 T3 (mkF m 43 #[rv a1, iv 0, .unset] [(.int 1)]) := fun t k => K t (XS.goto X3.here hx rfl (pc0 := 39) (pc' := 43) rfl (hb hby d7_39) (by decide) (by decide) k)
  replace K : OGo p e below A0 T3 (mkF m 44 #[rv a1, iv 0, iv 1] []) := fun t k => K t (XS.istoreN X3.here hx rfl (hb hby d7_43) rfl (l' := #[rv a1, iv 0, iv 1]) rfl k)
  replace K : OGo p e below A0 T3 (mkF m 45 #[rv a1, iv 0, iv 1] [(.int 1)]) := fun t k => K t (XS.iloadN X3.here hx rfl (hb hby d7_44) rfl k)
  replace K : OGo p e below A0 T3 (mkF m 48 #[rv a1, iv 0, iv 1] []) := fun t k => K t (XS.ifNo X3.here hx rfl (hb hby d7_45) rfl ((if0 _ _).trans (feq ((by decide : ¬ ((1 : Int32) = (0 : Int32))) : ¬ ((1 : Int32) = (0 : Int32)))).1) k)
  replace K : OGo p e below A0 T3 (mkF m 49 #[rv a1, iv 0, iv 1] [(.ref a1)]) := fun t k => K t (XS.aloadN X3.here hx rfl (hb hby d7_48) rfl rfl k)
  obtain ⟨T4, X4, e4, st4⟩ := getF X3 hx hZ hown (host := "") (Or.inl (ow hw 15 rfl)) Via.refl e3 F_taken_a1 (g := (mkF m 49 #[rv a1, iv 0, iv 1] [(.ref a1)])) rfl rfl (hb hby d7_49)
  replace K : OGo p e below A0 T4 (mkF m 52 #[rv a1, iv 0, iv 1] [(.ref ta)]) := fun t k => K t (st4 t k)
  replace K : OGo p e below A0 T4 (mkF m 53 #[rv a1, iv 0, iv 1] [(.int 0), (.ref ta)]) := fun t k => K t (XS.iloadN X4.here hx rfl (hb hby d7_52) rfl k)
  replace K : OGo p e below A0 T4 (mkF m 54 #[rv a1, iv 0, iv 1] [(.int 0), (.ref ta), (.int 0), (.ref ta)]) := fun t k => K t (Jvm.Free.XT.dup2 X4.here hx rfl (hb hby d7_53) rfl rfl rfl k)
  replace K : OGo p e below A0 T4 (mkF m 55 #[rv a1, iv 0, iv 1] [(.int 0), (.int 0), (.ref ta)]) := fun t k => K t (own_ldI X4 hx hZ e4 V_ta (j := (0 : Int32)) (v := (.int (0 : Int32))) (by decide) rfl (g := (mkF m 54 #[rv a1, iv 0, iv 1] [(.int 0), (.ref ta), (.int 0), (.ref ta)])) rfl rfl (hb hby d7_54) t k)
  replace K : OGo p e below A0 T4 (mkF m 56 #[rv a1, iv 0, iv 1] [(.int 1), (.int 0), (.int 0), (.ref ta)]) := fun t k => K t (XS.iconst X4.here hx rfl (hb hby d7_55) k)
  replace K : OGo p e below A0 T4 (mkF m 57 #[rv a1, iv 0, iv 1] [(.int 1), (.int 0), (.ref ta)]) := fun t k => K t (XS.iadd X4.here hx rfl (hb hby d7_56) rfl k)
  obtain ⟨T5, h5, X5, e5, W5, V5, st5⟩ := own_stI X4 hx hZ e4 V_ta (j := (0 : Int32)) (by decide) (Nat.le_of_ble_eq_true rfl) (g := (mkF m 57 #[rv a1, iv 0, iv 1] [(.int 1), (.int 0), (.ref ta)])) rfl rfl (hb hby d7_57)
  have Z5 : n0 ≤ h5.size := Nat.le_trans Z0 (Keep.of_wr W5).1
  have Kp5 : Keep h0 h5 [a1, ta, ca] := (Keep.refl h0 [a1, ta, ca]).wr W5 (Or.inl (List.mem_of_getElem? (i := 1) rfl))
  have V_ta_5 : OAr Z h5 ta kt .int (oA8 (1 : Int32) (0 : Int32)) := V5
  have N5 := Fr.snoc X5 N0 g_ta
  replace K : OGo p e below A0 T5 (mkF m 58 #[rv a1, iv 0, iv 1] []) := fun t k => K t (st5 t k)
  replace K : OGo p e below A0 T5 (mkF m 59 #[rv a1, iv 0, iv 1] [(.ref a1)]) := fun t k => K t (XS.aloadN X5.here hx rfl (hb hby d7_58) rfl rfl k)
  replace K : OGo p e below A0 T5 (mkF m 60 #[rv a1, iv 0, iv 1] [(.int 0), (.ref a1)]) := fun t k => K t (XS.iloadN X5.here hx rfl (hb hby d7_59) rfl k)
  replace K : OGo p e below A0 T5 (mkF m 61 #[rv a1, iv 0, iv 1] [(.int 1), (.int 0), (.ref a1)]) := fun t k => K t (XS.iconst X5.here hx rfl (hb hby d7_60) k)
  replace K : OGo p e below A0 T5 (mkF m 62 #[rv a1, iv 0, iv 1] [(.int 1), (.ref a1)]) := fun t k => K t (XS.iadd X5.here hx rfl (hb hby d7_61) rfl k)
  have F_repeated_a1_6 := (F_repeated_a1.other W5 (Or.inl ne_a1_ta))
  have E_a1_7 := (E_a1.wr W5)
  obtain ⟨T8, h8, X8, e8, W8, st8⟩ := putF X5 hx hZ hown (host := "") (Or.inl (ow hw 32 rfl)) Via.refl e5 F_repeated_a1_6 E_a1_7 (Or.inl (ow hw 33 rfl)) (ow hw 6 rfl) (ty := .int) (by decide) rfl rfl (g := (mkF m 62 #[rv a1, iv 0, iv 1] [(.int 1), (.ref a1)])) rfl rfl (hb hby d7_62)
  have Z8 : n0 ≤ h8.size := Nat.le_trans Z5 (Keep.of_wr W8).1
  have Kp8 : Keep h0 h8 [a1, ta, ca] := Kp5.wr W8 (Or.inl (List.mem_of_getElem? (i := 0) rfl))
  have F_repeated_a1_8 := F_repeated_a1_6.same W8
  have N8 := Fr.snoc X8 N5 g_a1
  replace K : OGo p e below A0 T8 (mkF m 65 #[rv a1, iv 0, iv 1] []) := fun t k => K t (st8 t k)
  replace K : OGo p e below A0 T8 (mkF m 66 #[rv a1, iv 0, iv 1] [(.ref a1)]) := fun t k => K t (XS.aloadN X8.here hx rfl (hb hby d7_65) rfl rfl k)
  replace K : OGo p e below A0 T8 (mkF m 67 #[rv a1, iv 0, iv 1] [(.int 0), (.ref a1)]) := fun t k => K t (XS.iconst X8.here hx rfl (hb hby d7_66) k)
  have F_met_a1_9 := ((F_met_a1.other W5 (Or.inl ne_a1_ta)).other W8 (Or.inr (sn_cN0_met_repeated hw)))
  have E_a1_10 := (E_a1_7.wr W8)
  obtain ⟨T11, h11, X11, e11, W11, st11⟩ := putF X8 hx hZ hown (host := "") (Or.inl (ow hw 30 rfl)) Via.refl e8 F_met_a1_9 E_a1_10 (Or.inl (ow hw 31 rfl)) (ow hw 6 rfl) (ty := .int) (by decide) rfl rfl (g := (mkF m 67 #[rv a1, iv 0, iv 1] [(.int 0), (.ref a1)])) rfl rfl (hb hby d7_67)
  have Z11 : n0 ≤ h11.size := Nat.le_trans Z8 (Keep.of_wr W11).1
  have Kp11 : Keep h0 h11 [a1, ta, ca] := Kp8.wr W11 (Or.inl (List.mem_of_getElem? (i := 0) rfl))
  have F_met_a1_11 := F_met_a1_9.same W11
  have N11 := Fr.snoc X11 N8 g_a1
  replace K : OGo p e below A0 T11 (mkF m 70 #[rv a1, iv 0, iv 1] []) := fun t k => K t (st11 t k)
  replace K : OGo p e below A0 T11 (mkF m 71 #[rv a1, iv 0, iv 1] [(.ref a1)]) := fun t k => K t (XS.aloadN X11.here hx rfl (hb hby d7_70) rfl rfl k)
  replace K : OGo p e below A0 T11 (mkF m 72 #[rv a1, iv 0, iv 1] [(.ref a1), (.ref a1)]) := fun t k => K t (XS.dup X11.here hx rfl (hb hby d7_71) rfl rfl k)
  have F_branches_a1_12 := (((F_branches_a1.other W5 (Or.inl ne_a1_ta)).other W8 (Or.inr (sn_cN0_branches_repeated hw))).other W11 (Or.inr (sn_cN0_branches_met hw)))
  obtain ⟨T13, X13, e13, st13⟩ := getF X11 hx hZ hown (host := "") (Or.inl (ow hw 34 rfl)) Via.refl e11 F_branches_a1_12 (g := (mkF m 72 #[rv a1, iv 0, iv 1] [(.ref a1), (.ref a1)])) rfl rfl (hb hby d7_72)
  replace K : OGo p e below A0 T13 (mkF m 75 #[rv a1, iv 0, iv 1] [(.int 1), (.ref a1)]) := fun t k => K t (st13 t k)
  replace K : OGo p e below A0 T13 (mkF m 76 #[rv a1, iv 0, iv 1] [(.int 1), (.int 1), (.ref a1)]) := fun t k => K t (XS.iconst X13.here hx rfl (hb hby d7_75) k)
  replace K : OGo p e below A0 T13 (mkF m 77 #[rv a1, iv 0, iv 1] [(.int 2), (.ref a1)]) := fun t k => K t (XS.iadd X13.here hx rfl (hb hby d7_76) rfl k)
  have E_a1_14 := (E_a1_10.wr W11)
  obtain ⟨T15, h15, X15, e15, W15, st15⟩ := putF X13 hx hZ hown (host := "") (Or.inl (ow hw 34 rfl)) Via.refl e13 F_branches_a1_12 E_a1_14 (Or.inl (ow hw 35 rfl)) (ow hw 6 rfl) (ty := .int) (by decide) rfl rfl (g := (mkF m 77 #[rv a1, iv 0, iv 1] [(.int 2), (.ref a1)])) rfl rfl (hb hby d7_77)
  have Z15 : n0 ≤ h15.size := Nat.le_trans Z11 (Keep.of_wr W15).1
  have Kp15 : Keep h0 h15 [a1, ta, ca] := Kp11.wr W15 (Or.inl (List.mem_of_getElem? (i := 0) rfl))
  have F_branches_a1_15 := F_branches_a1_12.same W15
  have N15 := Fr.snoc X15 N11 g_a1
  replace K : OGo p e below A0 T15 (mkF m 80 #[rv a1, iv 0, iv 1] []) := fun t k => K t (st15 t k)
  replace K : OGo p e below A0 T15 (mkF m 81 #[rv a1, iv 0, iv 1] [(.ref a1)]) := fun t k => K t (XS.aloadN X15.here hx rfl (hb hby d7_80) rfl rfl k)
  replace K : OGo p e below A0 T15 (mkF m 82 #[rv a1, iv 0, iv 1] [(.int 0), (.ref a1)]) := fun t k => K t (XS.iconst X15.here hx rfl (hb hby d7_81) k)
  have F_computed_a1_16 := ((((F_computed_a1.other W5 (Or.inl ne_a1_ta)).other W8 (Or.inr (sn_cN0_computed_repeated hw))).other W11 (Or.inr (sn_cN0_computed_met hw))).other W15 (Or.inr (sn_cN0_computed_branches hw)))
  have E_a1_17 := (E_a1_14.wr W15)
  obtain ⟨T18, h18, X18, e18, W18, st18⟩ := putF X15 hx hZ hown (host := "") (Or.inl (ow hw 36 rfl)) Via.refl e15 F_computed_a1_16 E_a1_17 (Or.inl (ow hw 37 rfl)) (ow hw 6 rfl) (ty := .int) (by decide) rfl rfl (g := (mkF m 82 #[rv a1, iv 0, iv 1] [(.int 0), (.ref a1)])) rfl rfl (hb hby d7_82)
  have Z18 : n0 ≤ h18.size := Nat.le_trans Z15 (Keep.of_wr W18).1
  have Kp18 : Keep h0 h18 [a1, ta, ca] := Kp15.wr W18 (Or.inl (List.mem_of_getElem? (i := 0) rfl))
  have F_computed_a1_18 := F_computed_a1_16.same W18
  have N18 := Fr.snoc X18 N15 g_a1
  replace K : OGo p e below A0 T18 (mkF m 85 #[rv a1, iv 0, iv 1] []) := fun t k => K t (st18 t k)
  replace K : OGo p e below A0 T18 (mkF m 86 #[rv a1, iv 0, iv 1] [(.int 1)]) := fun t k => K t (XS.iloadN X18.here hx rfl (hb hby d7_85) rfl k)
  have E_a1_19 := (E_a1_17.wr W18)
  have F_taken_a1_20 := (((((F_taken_a1.other W5 (Or.inl ne_a1_ta)).other W8 (Or.inr (sn_cN0_taken_repeated hw))).other W11 (Or.inr (sn_cN0_taken_met hw))).other W15 (Or.inr (sn_cN0_taken_branches hw))).other W18 (Or.inr (sn_cN0_taken_computed hw)))
  have F_counts_a1_21 := (((((F_counts_a1.other W5 (Or.inl ne_a1_ta)).other W8 (Or.inr (sn_cN0_counts_repeated hw))).other W11 (Or.inr (sn_cN0_counts_met hw))).other W15 (Or.inr (sn_cN0_counts_branches hw))).other W18 (Or.inr (sn_cN0_counts_computed hw)))
  have F_met_a1_22 := ((F_met_a1_11.other W15 (Or.inr (sn_cN0_met_branches hw))).other W18 (Or.inr (sn_cN0_met_computed hw)))
  have F_repeated_a1_23 := (((F_repeated_a1_8.other W11 (Or.inr (sn_cN0_repeated_met hw))).other W15 (Or.inr (sn_cN0_repeated_branches hw))).other W18 (Or.inr (sn_cN0_repeated_computed hw)))
  have F_branches_a1_24 := (F_branches_a1_15.other W18 (Or.inr (sn_cN0_branches_computed hw)))
  have V_ta_25 := ((((V_ta_5.other W8 (Ne.symm ne_a1_ta)).other W11 (Ne.symm ne_a1_ta)).other W15 (Ne.symm ne_a1_ta)).other W18 (Ne.symm ne_a1_ta))
  have V_ca_26 := (((((V_ca.other W5 (Ne.symm ne_ta_ca)).other W8 (Ne.symm ne_a1_ca)).other W11 (Ne.symm ne_a1_ca)).other W15 (Ne.symm ne_a1_ca)).other W18 (Ne.symm ne_a1_ca))
  obtain ⟨fs, hr, hrun, hended, hW, hsame⟩ := X18.leave (v := some (.int (1 : Int32))) (fun h => by rw [Bd.returns] at h; cases h)
  subst hA0
  refine ⟨_, _, K _ (retN X18 hx (t := .boolean) Bd.returns (by simp) (hb hby d7_86) hr), hrun, hended, _, _, rfl, ?_, ⟨_, rfl⟩, hW, hsame.mono (by decide) (by decide)⟩
  show Q_nx_A_lit2 Z a1 ta ca kt kc h0 n0 _ T18.heap _
  rw [e18]
  exact ⟨rfl, N18, Kp18, E_a1_19, F_taken_a1_20, F_counts_a1_21, F_met_a1_22, F_repeated_a1_23, F_branches_a1_24, F_computed_a1_18, V_ta_25, V_ca_26⟩
def Q_bok_s12_1 (Z : State) (a1 : Addr) (ta : Addr) (ca : Addr) (kt : ClassId) (kc : ClassId) (h0 : Heap) (n0 : Nat) (v : Option Value) (h : Heap) (L : List Loc) : Prop := v = some (.int (1 : Int32)) ∧ Fr n0 L ∧ Keep h0 h [a1, ta, ca] ∧ Exa Z h a1 cN0 ∧ Fld Z h a1 cN0 "taken" "[I" (.ref ta) ∧ Fld Z h a1 cN0 "counts" "[I" (.ref ca) ∧ Fld Z h a1 cN0 "met" "I" (.int (1 : Int32)) ∧ Fld Z h a1 cN0 "repeated" "I" (.int (1 : Int32)) ∧ Fld Z h a1 cN0 "branches" "I" (.int (2 : Int32)) ∧ Fld Z h a1 cN0 "computed" "I" (.int (0 : Int32)) ∧ OAr Z h ta kt .int (oA8 (1 : Int32) (0 : Int32)) ∧ OAr Z h ca kc .int (oA8 (2 : Int32) (0 : Int32))
set_option maxRecDepth 65536 in
set_option maxHeartbeats 40000000 in
theorem rm_bok_s12_1 (l : Launch) (Z : State) (a0 : Array Value) (hw : ∀ d ∈ tables_1, d.before a0 Z = true) (ws : List Jvm.Cond) (a1 : Addr) (ta : Addr) (ca : Addr) (kt : ClassId) (kc : ClassId) (h0 : Heap) (n0 : Nat) (Z0 : n0 ≤ h0.size) (E_a1 : Exa Z h0 a1 cN0) (F_taken_a1 : Fld Z h0 a1 cN0 "taken" "[I" (.ref ta)) (F_counts_a1 : Fld Z h0 a1 cN0 "counts" "[I" (.ref ca)) (F_met_a1 : Fld Z h0 a1 cN0 "met" "I" (.int (0 : Int32))) (F_repeated_a1 : Fld Z h0 a1 cN0 "repeated" "I" (.int (1 : Int32))) (F_branches_a1 : Fld Z h0 a1 cN0 "branches" "I" (.int (2 : Int32))) (F_computed_a1 : Fld Z h0 a1 cN0 "computed" "I" (.int (0 : Int32))) (V_ta : OAr Z h0 ta kt .int (oA8 (1 : Int32) (0 : Int32))) (V_ca : OAr Z h0 ca kc .int (oA8 (2 : Int32) (0 : Int32))) (g_a1 : n0 ≤ a1) (g_ta : n0 ≤ ta) (g_ca : n0 ≤ ca) (ne_a1_ta : a1 ≠ ta) (ne_a1_ca : a1 ≠ ca) (ne_ta_ca : ta ≠ ca) :
    MetFree l mN6 (head1 (Jvm.Cond.code mN6 method_4_code 6 (some .boolean) :: ws) ({ frames := 1, cells := 0, slots := 0, locals := 13 } : Room)) (fun a U => a = #[(.ref a1), (.int (1 : Int32)), (.int (2 : Int32)), (.int (1 : Int32))] ∧ Z.Warmed39 U.vm ∧ U.heap = h0) (fun _ _ _ _ _ => True) (fun _ U o U' => ∃ v L, o = .returned v ∧ Q_bok_s12_1 Z a1 ta ca kt kc h0 n0 v U'.heap L ∧ FrameEnd U o U' L ({ frames := 1, cells := 0, slots := 0, locals := 13 } : Room).cells ({ frames := 1, cells := 0, slots := 0, locals := 13 } : Room).slots) := by
  refine MetFree.of_bodySF (plainFor_of_name pn_com_example_flote_flote_program_ChoicesNextPinLaw) hisR ?_
  intro p e s m args below meth c s₁ Bd hml0 hP hK
  obtain ⟨rfl, hZ, hh⟩ := hP
  have hx := Bd.exec
  have hby := Bd.bytes
  have hml : c.maxLocals = 6 := hml0
  have hown : s.vm.findClass "com/example/flote/flote/program/ChoicesNextPinLaw" = some m.cls := findClass_of_methodNamed Bd.named
  have hnm := (name_of_methodNamed Bd.named Bd.method).1
  have X0 : Stand p l e ({ frames := 1, cells := 0, slots := 0, locals := 13 } : Room) s m #[(.ref a1), (.int (1 : Int32)), (.int (2 : Int32)), (.int (1 : Int32))] below meth c s₁ [] 0 0 := Stand.of_body Bd
  have e0 : s₁.heap = h0 := by rw [← hh, Bd.state]; rfl
  have N0 := Fr.nil n0
  obtain ⟨A0, hA0⟩ : ∃ z, z = s₁.setTop (entryFrame m #[(.ref a1), (.int (1 : Int32)), (.int (2 : Int32)), (.int (1 : Int32))] 6) := ⟨_, rfl⟩
  have K : OGo p e below A0 s₁ (mkF m 0 #[rv a1, iv 1, iv 2, iv 1, .unset, .unset] []) := fun t k => hA0 ▸ castTop (ef_5 m a1 (1 : Int32) (2 : Int32) (1 : Int32)) k
  replace K : OGo p e below A0 s₁ (mkF m 1 #[rv a1, iv 1, iv 2, iv 1, .unset, .unset] [(.ref a1)]) := fun t k => K t (XS.aloadN X0.here hx rfl (hb hby d5_0) rfl rfl k)
  replace K : OGo p e below A0 s₁ (mkF m 2 #[rv a1, iv 1, iv 2, iv 1, .unset, .unset] [(.int 1), (.ref a1)]) := fun t k => K t (XS.iloadN X0.here hx rfl (hb hby d5_1) rfl k)
  obtain ⟨cq1, kq1, qv1a, qv1b, qv1c⟩ := isOf hZ e0 E_a1
  obtain ⟨_, _, ⟨T1, L1, k1, n1⟩, -, X1, ⟨Lc1, hQ1, l1, y1, z1⟩, st1⟩ := X0.virtualBack hx (y := mN4) (z := mN4) hown (mvT hZ (ow hw 41 rfl)) (mvT hZ (ow hw 42 rfl)) (notFace_of_selects (args := #[]) (mvT hZ (ow hw 44 rfl))) (mvT hZ (ow hw 44 rfl)) (mvT hZ (ow hw 43 rfl)) (by decide) (backOf (W := 0) (rm_choose1 l Z a0 hw [] a1 h0 n0 Z0 ) hZ (ow hw 45 rfl) (ow hw 7 rfl) (by decide) (by decide)) qv1a qv1c (g := (mkF m 2 #[rv a1, iv 1, iv 2, iv 1, .unset, .unset] [(.int 1), (.ref a1)])) rfl (by rw [hml]; rfl) (Steps.refl _) (argsL := [(.int (1 : Int32))]) (rest := []) (lenOf pd__I_I rfl) rfl (by show 2 * 0 + _ ≤ _; exact Nat.le_of_eq rfl) (hb hby d5_2) (fun _ _ => ⟨rfl, e0, (by decide : 0 + 0 ≤ _), (by decide : 0 + 0 ≤ _)⟩)
  dsimp only [Pt.U, Pt.locs, Pt.cells, Pt.slots] at X1 l1 y1 z1 st1 hQ1
  subst l1 y1 z1
  obtain ⟨rfl, Nq1, e1⟩ := hQ1
  have N1 := Fr.app N0 Nq1
  replace K : OGo p e below A0 T1 (mkF m 5 #[rv a1, iv 1, iv 2, iv 1, .unset, .unset] [(.int 0)]) := fun t k => K t (st1.trans k)
  replace K : OGo p e below A0 T1 (mkF m 7 #[rv a1, iv 1, iv 2, iv 1, iv 0, .unset] []) := fun t k => K t (XS.istore X1.here hx rfl (hb hby d5_5) rfl (l' := #[rv a1, iv 1, iv 2, iv 1, iv 0, .unset]) rfl k)
  replace K : OGo p e below A0 T1 (mkF m 8 #[rv a1, iv 1, iv 2, iv 1, iv 0, .unset] [(.ref a1)]) := fun t k => K t (XS.aloadN X1.here hx rfl (hb hby d5_7) rfl rfl k)
  replace K : OGo p e below A0 T1 (mkF m 9 #[rv a1, iv 1, iv 2, iv 1, iv 0, .unset] [(.int 2), (.ref a1)]) := fun t k => K t (XS.iloadN X1.here hx rfl (hb hby d5_8) rfl k)
  obtain ⟨cq2, kq2, qv2a, qv2b, qv2c⟩ := isOf hZ e1 E_a1
  obtain ⟨_, _, ⟨T2, L2, k2, n2⟩, -, X2, ⟨Lc2, hQ2, l2, y2, z2⟩, st2⟩ := X1.virtualBack hx (y := mN4) (z := mN4) hown (mvT hZ (ow hw 41 rfl)) (mvT hZ (ow hw 42 rfl)) (notFace_of_selects (args := #[]) (mvT hZ (ow hw 44 rfl))) (mvT hZ (ow hw 44 rfl)) (mvT hZ (ow hw 43 rfl)) (by decide) (backOf (W := 0) (rm_chooseR01L l Z a0 hw [] a1 ta ca kt kc (1 : Int32) (0 : Int32) (2 : Int32) (0 : Int32) (2 : Int32) (0 : Int32) h0 n0 Z0 E_a1 F_taken_a1 F_counts_a1 F_met_a1 F_repeated_a1 F_branches_a1 F_computed_a1 V_ta V_ca g_a1 g_ta g_ca ne_a1_ta ne_a1_ca ne_ta_ca) hZ (ow hw 45 rfl) (ow hw 7 rfl) (by decide) (by decide)) qv2a qv2c (g := (mkF m 9 #[rv a1, iv 1, iv 2, iv 1, iv 0, .unset] [(.int 2), (.ref a1)])) rfl (by rw [hml]; rfl) (Steps.refl _) (argsL := [(.int (2 : Int32))]) (rest := []) (lenOf pd__I_I rfl) rfl (by show 2 * 0 + _ ≤ _; exact Nat.le_of_eq rfl) (hb hby d5_9) (fun _ _ => ⟨rfl, e1, (by decide : 0 + 0 ≤ _), (by decide : 0 + 0 ≤ _)⟩)
  dsimp only [Pt.U, Pt.locs, Pt.cells, Pt.slots] at X2 l2 y2 z2 st2 hQ2
  subst l2 y2 z2
  obtain ⟨hp2, e2⟩ : ∃ z, T2.heap = z := ⟨_, rfl⟩
  rw [e2] at hQ2
  obtain ⟨rfl, Nq2, K2, P2_0, P2_1, P2_2, P2_3, P2_4, P2_5, P2_6, P2_7, P2_8⟩ := hQ2
  have Z2 : n0 ≤ hp2.size := Nat.le_trans Z0 K2.1
  have Kp2 : Keep h0 hp2 [a1, ta, ca] := (Keep.refl h0 [a1, ta, ca]).trans K2 (allS (Or.inl (List.mem_of_getElem? (i := 0) rfl)) (allS (Or.inl (List.mem_of_getElem? (i := 1) rfl)) (allS (Or.inl (List.mem_of_getElem? (i := 2) rfl)) all0)))
  have N2 := Fr.app N1 Nq2
  replace K : OGo p e below A0 T2 (mkF m 12 #[rv a1, iv 1, iv 2, iv 1, iv 0, .unset] [(.int 1)]) := fun t k => K t (st2.trans k)
  replace K : OGo p e below A0 T2 (mkF m 14 #[rv a1, iv 1, iv 2, iv 1, iv 0, iv 1] []) := fun t k => K t (XS.istore X2.here hx rfl (hb hby d5_12) rfl (l' := #[rv a1, iv 1, iv 2, iv 1, iv 0, iv 1]) rfl k)
  replace K : OGo p e below A0 T2 (mkF m 16 #[rv a1, iv 1, iv 2, iv 1, iv 0, iv 1] [(.int 0)]) := fun t k => K t (XS.iload X2.here hx rfl (hb hby d5_14) rfl k)
  replace K : OGo p e below A0 T2 (mkF m 17 #[rv a1, iv 1, iv 2, iv 1, iv 0, iv 1] [(.int 1), (.int 0)]) := fun t k => K t (XS.iloadN X2.here hx rfl (hb hby d5_16) rfl k)
  replace K : OGo p e below A0 T2 (mkF m 18 #[rv a1, iv 1, iv 2, iv 1, iv 0, iv 1] [(.int 2), (.int 1), (.int 0)]) := fun t k => K t (XS.iloadN X2.here hx rfl (hb hby d5_17) rfl k)
  replace K : OGo p e below A0 T2 (mkF m 19 #[rv a1, iv 1, iv 2, iv 1, iv 0, iv 1] [(.int 0), (.int 0)]) := fun t k => K t (XS.idiv X2.here hx rfl (hb hby d5_18) rfl (by decide) k)
  replace K : OGo p e below A0 T2 (mkF m 22 #[rv a1, iv 1, iv 2, iv 1, iv 0, iv 1] []) := fun t k => K t (XS.icmpNo X2.here hx rfl (hb hby d5_19) rfl (teq ((by decide : (0 : Int32) = (0 : Int32)) : (0 : Int32) = (0 : Int32))).2 k)
  replace K : OGo p e below A0 T2 (mkF m 24 #[rv a1, iv 1, iv 2, iv 1, iv 0, iv 1] [(.int 1)]) := fun t k => K t (XS.iload X2.here hx rfl (hb hby d5_22) rfl k)
  replace K : OGo p e below A0 T2 (mkF m 25 #[rv a1, iv 1, iv 2, iv 1, iv 0, iv 1] [(.int 1), (.int 1)]) := fun t k => K t (XS.iloadN X2.here hx rfl (hb hby d5_24) rfl k)
  replace K : OGo p e below A0 T2 (mkF m 26 #[rv a1, iv 1, iv 2, iv 1, iv 0, iv 1] [(.int 2), (.int 1), (.int 1)]) := fun t k => K t (XS.iloadN X2.here hx rfl (hb hby d5_25) rfl k)
  replace K : OGo p e below A0 T2 (mkF m 27 #[rv a1, iv 1, iv 2, iv 1, iv 0, iv 1] [(.int 1), (.int 1)]) := fun t k => K t (iremM X2 hx rfl (hb hby d5_26) rfl (by decide) k)
  replace K : OGo p e below A0 T2 (mkF m 30 #[rv a1, iv 1, iv 2, iv 1, iv 0, iv 1] []) := fun t k => K t (XS.icmpNo X2.here hx rfl (hb hby d5_27) rfl (teq ((by decide : (1 : Int32) = (1 : Int32)) : (1 : Int32) = (1 : Int32))).2 k)
  replace K : OGo p e below A0 T2 (mkF m 31 #[rv a1, iv 1, iv 2, iv 1, iv 0, iv 1] [(.int 1)]) := fun t k => K t (XS.iconst X2.here hx rfl (hb hby d5_30) k)
  replace K : OGo p e below A0 T2 (mkF m 35 #[rv a1, iv 1, iv 2, iv 1, iv 0, iv 1] [(.int 1)]) := fun t k => K t (XS.goto X2.here hx rfl (pc0 := 31) (pc' := 35) rfl (hb hby d5_31) (by decide) (by decide) k)
  obtain ⟨fs, hr, hrun, hended, hW, hsame⟩ := X2.leave (v := some (.int (1 : Int32))) (fun h => by rw [Bd.returns] at h; cases h)
  subst hA0
  refine ⟨_, _, K _ (retN X2 hx (t := .boolean) Bd.returns (by simp) (hb hby d5_35) hr), hrun, hended, _, _, rfl, ?_, ⟨_, rfl⟩, hW, hsame.mono (by decide) (by decide)⟩
  show Q_bok_s12_1 Z a1 ta ca kt kc h0 n0 _ T2.heap _
  rw [e2]
  exact ⟨rfl, N2, Kp2, P2_0, P2_1, P2_2, P2_3, P2_4, P2_5, P2_6, P2_7, P2_8⟩
theorem d7_28 : decode prog_72_method_6_code 28 = .ok (.iinc 1 (-1), 3) := by decide +kernel
theorem d7_31 : decode prog_72_method_6_code 31 = .ok (.goto (-24), 3) := by decide +kernel
def Q_nx_B_lit2 (Z : State) (a1 : Addr) (ta : Addr) (ca : Addr) (kt : ClassId) (kc : ClassId) (h0 : Heap) (n0 : Nat) (v : Option Value) (h : Heap) (L : List Loc) : Prop := v = some (.int (0 : Int32)) ∧ Fr n0 L ∧ Keep h0 h [a1, ta, ca] ∧ Exa Z h a1 cN0 ∧ Fld Z h a1 cN0 "taken" "[I" (.ref ta) ∧ Fld Z h a1 cN0 "counts" "[I" (.ref ca) ∧ Fld Z h a1 cN0 "met" "I" (.int (1 : Int32)) ∧ Fld Z h a1 cN0 "repeated" "I" (.int (1 : Int32)) ∧ Fld Z h a1 cN0 "branches" "I" (.int (2 : Int32)) ∧ Fld Z h a1 cN0 "computed" "I" (.int (0 : Int32)) ∧ OAr Z h ta kt .int (oA8 (1 : Int32) (0 : Int32)) ∧ OAr Z h ca kc .int (oA8 (2 : Int32) (0 : Int32))
set_option maxRecDepth 65536 in
set_option maxHeartbeats 40000000 in
theorem rm_nx_B_lit2 (l : Launch) (Z : State) (a0 : Array Value) (hw : ∀ d ∈ tables_1, d.before a0 Z = true) (ws : List Jvm.Cond) (a1 : Addr) (ta : Addr) (ca : Addr) (kt : ClassId) (kc : ClassId) (h0 : Heap) (n0 : Nat) (Z0 : n0 ≤ h0.size) (E_a1 : Exa Z h0 a1 cN0) (F_taken_a1 : Fld Z h0 a1 cN0 "taken" "[I" (.ref ta)) (F_counts_a1 : Fld Z h0 a1 cN0 "counts" "[I" (.ref ca)) (F_met_a1 : Fld Z h0 a1 cN0 "met" "I" (.int (1 : Int32))) (F_repeated_a1 : Fld Z h0 a1 cN0 "repeated" "I" (.int (1 : Int32))) (F_branches_a1 : Fld Z h0 a1 cN0 "branches" "I" (.int (2 : Int32))) (F_computed_a1 : Fld Z h0 a1 cN0 "computed" "I" (.int (0 : Int32))) (V_ta : OAr Z h0 ta kt .int (oA8 (1 : Int32) (0 : Int32))) (V_ca : OAr Z h0 ca kc .int (oA8 (2 : Int32) (0 : Int32))) (g_a1 : n0 ≤ a1) (g_ta : n0 ≤ ta) (g_ca : n0 ≤ ca) (ne_a1_ta : a1 ≠ ta) (ne_a1_ca : a1 ≠ ca) (ne_ta_ca : ta ≠ ca) :
    MetFree l mN7 (head1 (Jvm.Cond.code mN7 prog_72_method_6_code 3 (some .boolean) :: ws) ({ frames := 0, cells := 0, slots := 0, locals := 0 } : Room)) (fun a U => a = #[(.ref a1)] ∧ Z.Warmed39 U.vm ∧ U.heap = h0) (fun _ _ _ _ _ => True) (fun _ U o U' => ∃ v L, o = .returned v ∧ Q_nx_B_lit2 Z a1 ta ca kt kc h0 n0 v U'.heap L ∧ FrameEnd U o U' L ({ frames := 0, cells := 0, slots := 0, locals := 0 } : Room).cells ({ frames := 0, cells := 0, slots := 0, locals := 0 } : Room).slots) := by
  refine MetFree.of_bodySF (plainFor_of_name pn_com_example_flote_flote_program_Choices) hisR ?_
  intro p e s m args below meth c s₁ Bd hml0 hP hK
  obtain ⟨rfl, hZ, hh⟩ := hP
  have hx := Bd.exec
  have hby := Bd.bytes
  have hml : c.maxLocals = 3 := hml0
  have hown : s.vm.findClass "com/example/flote/flote/program/Choices" = some m.cls := findClass_of_methodNamed Bd.named
  have hnm := (name_of_methodNamed Bd.named Bd.method).1
  have X0 : Stand p l e ({ frames := 0, cells := 0, slots := 0, locals := 0 } : Room) s m #[(.ref a1)] below meth c s₁ [] 0 0 := Stand.of_body Bd
  have e0 : s₁.heap = h0 := by rw [← hh, Bd.state]; rfl
  have N0 := Fr.nil n0
  obtain ⟨A0, hA0⟩ : ∃ z, z = s₁.setTop (entryFrame m #[(.ref a1)] 3) := ⟨_, rfl⟩
  have K : OGo p e below A0 s₁ (mkF m 0 #[rv a1, .unset, .unset] []) := fun t k => hA0 ▸ castTop (ef_7 m a1) k
  replace K : OGo p e below A0 s₁ (mkF m 1 #[rv a1, .unset, .unset] [(.ref a1)]) := fun t k => K t (XS.aloadN X0.here hx rfl (hb hby d7_0) rfl rfl k)
  obtain ⟨T1, X1, e1, st1⟩ := getF X0 hx hZ hown (host := "") (Or.inl (ow hw 30 rfl)) Via.refl e0 F_met_a1 (g := (mkF m 1 #[rv a1, .unset, .unset] [(.ref a1)])) rfl rfl (hb hby d7_1)
  replace K : OGo p e below A0 T1 (mkF m 4 #[rv a1, .unset, .unset] [(.int 1)]) := fun t k => K t (st1 t k)
  replace K : OGo p e below A0 T1 (mkF m 5 #[rv a1, .unset, .unset] [(.int 1), (.int 1)]) := fun t k => K t (XS.iconst X1.here hx rfl (hb hby d7_4) k)
  replace K : OGo p e below A0 T1 (mkF m 6 #[rv a1, .unset, .unset] [(.int 0)]) := fun t k => K t (XS.isub X1.here hx rfl (hb hby d7_5) rfl k)
  replace K : OGo p e below A0 T1 (mkF m 7 #[rv a1, iv 0, .unset] []) := fun t k => K t (XS.istoreN X1.here hx rfl (hb hby d7_6) rfl (l' := #[rv a1, iv 0, .unset]) rfl k)
  replace K : OGo p e below A0 T1 (mkF m 8 #[rv a1, iv 0, .unset] [(.int 0)]) := fun t k => K t (XS.iloadN X1.here hx rfl (hb hby d7_7) rfl k)
  replace K : OGo p e below A0 T1 (mkF m 11 #[rv a1, iv 0, .unset] []) := fun t k => K t (XS.ifNo X1.here hx rfl (hb hby d7_8) rfl ((if0 _ _).trans (flt ((by decide : ¬ ((0 : Int32) < (0 : Int32))) : ¬ ((0 : Int32) < (0 : Int32)))).1) k)
  replace K : OGo p e below A0 T1 (mkF m 12 #[rv a1, iv 0, .unset] [(.ref a1)]) := fun t k => K t (XS.aloadN X1.here hx rfl (hb hby d7_11) rfl rfl k)
  obtain ⟨T2, X2, e2, st2⟩ := getF X1 hx hZ hown (host := "") (Or.inl (ow hw 15 rfl)) Via.refl e1 F_taken_a1 (g := (mkF m 12 #[rv a1, iv 0, .unset] [(.ref a1)])) rfl rfl (hb hby d7_12)
  replace K : OGo p e below A0 T2 (mkF m 15 #[rv a1, iv 0, .unset] [(.ref ta)]) := fun t k => K t (st2 t k)
  replace K : OGo p e below A0 T2 (mkF m 16 #[rv a1, iv 0, .unset] [(.int 0), (.ref ta)]) := fun t k => K t (XS.iloadN X2.here hx rfl (hb hby d7_15) rfl k)
  replace K : OGo p e below A0 T2 (mkF m 17 #[rv a1, iv 0, .unset] [(.int 1)]) := fun t k => K t (own_ldI X2 hx hZ e2 V_ta (j := (0 : Int32)) (v := (.int (1 : Int32))) (by decide) rfl (g := (mkF m 16 #[rv a1, iv 0, .unset] [(.int 0), (.ref ta)])) rfl rfl (hb hby d7_16) t k)
  replace K : OGo p e below A0 T2 (mkF m 18 #[rv a1, iv 0, .unset] [(.ref a1), (.int 1)]) := fun t k => K t (XS.aloadN X2.here hx rfl (hb hby d7_17) rfl rfl k)
  obtain ⟨T3, X3, e3, st3⟩ := getF X2 hx hZ hown (host := "") (Or.inl (ow hw 17 rfl)) Via.refl e2 F_counts_a1 (g := (mkF m 18 #[rv a1, iv 0, .unset] [(.ref a1), (.int 1)])) rfl rfl (hb hby d7_18)
  replace K : OGo p e below A0 T3 (mkF m 21 #[rv a1, iv 0, .unset] [(.ref ca), (.int 1)]) := fun t k => K t (st3 t k)
  replace K : OGo p e below A0 T3 (mkF m 22 #[rv a1, iv 0, .unset] [(.int 0), (.ref ca), (.int 1)]) := fun t k => K t (XS.iloadN X3.here hx rfl (hb hby d7_21) rfl k)
  replace K : OGo p e below A0 T3 (mkF m 23 #[rv a1, iv 0, .unset] [(.int 2), (.int 1)]) := fun t k => K t (own_ldI X3 hx hZ e3 V_ca (j := (0 : Int32)) (v := (.int (2 : Int32))) (by decide) rfl (g := (mkF m 22 #[rv a1, iv 0, .unset] [(.int 0), (.ref ca), (.int 1)])) rfl rfl (hb hby d7_22) t k)
  replace K : OGo p e below A0 T3 (mkF m 24 #[rv a1, iv 0, .unset] [(.int 1), (.int 2), (.int 1)]) := fun t k => K t (XS.iconst X3.here hx rfl (hb hby d7_23) k)
  replace K : OGo p e below A0 T3 (mkF m 25 #[rv a1, iv 0, .unset] [(.int 1), (.int 1)]) := fun t k => K t (XS.isub X3.here hx rfl (hb hby d7_24) rfl k)
  replace K : OGo p e below A0 T3 (mkF m 28 #[rv a1, iv 0, .unset] []) := fun t k => K t (XS.icmpNo X3.here hx rfl (hb hby d7_25) rfl (teq ((by decide : (1 : Int32) = (1 : Int32)) : (1 : Int32) = (1 : Int32))).2 k)
  replace K : OGo p e below A0 T3 (mkF m 31 #[rv a1, iv (-1), .unset] []) := fun t k => K t (XS.iinc X3.here hx rfl (hb hby d7_28) rfl (l' := #[rv a1, iv (-1), .unset]) rfl k)
  replace K : OGo p e below A0 T3 (mkF m 7 #[rv a1, iv (-1), .unset] []) := fun t k => K t (XS.goto X3.here hx rfl (pc0 := 31) (pc' := 7) rfl (hb hby d7_31) (by decide) (by decide) k)
  replace K : OGo p e below A0 T3 (mkF m 8 #[rv a1, iv (-1), .unset] [(.int (-1))]) := fun t k => K t (XS.iloadN X3.here hx rfl (hb hby d7_7) rfl k)
  replace K : OGo p e below A0 T3 (mkF m 34 #[rv a1, iv (-1), .unset] []) := fun t k => K t (XS.ifYes X3.here hx rfl (pc0 := 8) (pc' := 34) rfl (hb hby d7_8) rfl ((if0 _ _).trans (tlt ((by decide : (-1 : Int32) < (0 : Int32)) : (-1 : Int32) < (0 : Int32))).1) (by decide) (by decide) k)
  replace K : OGo p e below A0 T3 (mkF m 35 #[rv a1, iv (-1), .unset] [(.int (-1))]) := fun t k => K t (XS.iloadN X3.here hx rfl (hb hby d7_34) rfl k)
  replace K : OGo p e below A0 T3 (mkF m 42 #[rv a1, iv (-1), .unset] []) := fun t k => K t (XS.ifYes X3.here hx rfl (pc0 := 35) (pc' := 42) rfl (hb hby d7_35) rfl ((if0 _ _).trans (tlt ((by decide : (-1 : Int32) < (0 : Int32)) : (-1 : Int32) < (0 : Int32))).1) (by decide) (by decide) k)
  replace K : OGo p e below A0 T3 (mkF m 43 #[rv a1, iv (-1), .unset] [(.int 0)]) := fun t k => K t (XS.iconst X3.here hx rfl (hb hby d7_42) k)
  replace K : OGo p e below A0 T3 (mkF m 44 #[rv a1, iv (-1), iv 0] []) := fun t k => K t (XS.istoreN X3.here hx rfl (hb hby d7_43) rfl (l' := #[rv a1, iv (-1), iv 0]) rfl k)
  replace K : OGo p e below A0 T3 (mkF m 45 #[rv a1, iv (-1), iv 0] [(.int 0)]) := fun t k => K t (XS.iloadN X3.here hx rfl (hb hby d7_44) rfl k)
  replace K : OGo p e below A0 T3 (mkF m 85 #[rv a1, iv (-1), iv 0] []) := fun t k => K t (XS.ifYes X3.here hx rfl (pc0 := 45) (pc' := 85) rfl (hb hby d7_45) rfl ((if0 _ _).trans (teq ((by decide : (0 : Int32) = (0 : Int32)) : (0 : Int32) = (0 : Int32))).1) (by decide) (by decide) k)
  replace K : OGo p e below A0 T3 (mkF m 86 #[rv a1, iv (-1), iv 0] [(.int 0)]) := fun t k => K t (XS.iloadN X3.here hx rfl (hb hby d7_85) rfl k)
  obtain ⟨fs, hr, hrun, hended, hW, hsame⟩ := X3.leave (v := some (.int (0 : Int32))) (fun h => by rw [Bd.returns] at h; cases h)
  subst hA0
  refine ⟨_, _, K _ (retN X3 hx (t := .boolean) Bd.returns (by simp) (hb hby d7_86) hr), hrun, hended, _, _, rfl, ?_, ⟨_, rfl⟩, hW, hsame.mono (by decide) (by decide)⟩
  show Q_nx_B_lit2 Z a1 ta ca kt kc h0 n0 _ T3.heap _
  rw [e3]
  exact ⟨rfl, N0, (Keep.refl h0 [a1, ta, ca]), E_a1, F_taken_a1, F_counts_a1, F_met_a1, F_repeated_a1, F_branches_a1, F_computed_a1, V_ta, V_ca⟩
def Q_bok_s13_0 (Z : State) (a1 : Addr) (p2 : Int32) (ta : Addr) (ca : Addr) (kt : ClassId) (kc : ClassId) (h0 : Heap) (n0 : Nat) (v : Option Value) (h : Heap) (L : List Loc) : Prop := v = some (.int (1 : Int32)) ∧ Fr n0 L ∧ Keep h0 h [a1, ta, ca] ∧ Exa Z h a1 cN0 ∧ Fld Z h a1 cN0 "taken" "[I" (.ref ta) ∧ Fld Z h a1 cN0 "counts" "[I" (.ref ca) ∧ Fld Z h a1 cN0 "met" "I" (.int (1 : Int32)) ∧ Fld Z h a1 cN0 "repeated" "I" (.int (0 : Int32)) ∧ Fld Z h a1 cN0 "branches" "I" (.int (1 : Int32)) ∧ Fld Z h a1 cN0 "computed" "I" (.int (0 : Int32)) ∧ OAr Z h ta kt .int (oA8 (0 : Int32) (0 : Int32)) ∧ OAr Z h ca kc .int (oA8 p2 (0 : Int32))
set_option maxRecDepth 65536 in
set_option maxHeartbeats 40000000 in
theorem rm_bok_s13_0 (l : Launch) (Z : State) (a0 : Array Value) (hw : ∀ d ∈ tables_1, d.before a0 Z = true) (ws : List Jvm.Cond) (a1 : Addr) (p2 : Int32) (ta : Addr) (ca : Addr) (kt : ClassId) (kc : ClassId) (h0 : Heap) (n0 : Nat) (Z0 : n0 ≤ h0.size) (E_a1 : Exa Z h0 a1 cN0) (F_taken_a1 : Fld Z h0 a1 cN0 "taken" "[I" (.ref ta)) (F_counts_a1 : Fld Z h0 a1 cN0 "counts" "[I" (.ref ca)) (F_met_a1 : Fld Z h0 a1 cN0 "met" "I" (.int (0 : Int32))) (F_repeated_a1 : Fld Z h0 a1 cN0 "repeated" "I" (.int (0 : Int32))) (F_branches_a1 : Fld Z h0 a1 cN0 "branches" "I" (.int (1 : Int32))) (F_computed_a1 : Fld Z h0 a1 cN0 "computed" "I" (.int (0 : Int32))) (V_ta : OAr Z h0 ta kt .int (oA8 (0 : Int32) (0 : Int32))) (V_ca : OAr Z h0 ca kc .int (oA8 (0 : Int32) (0 : Int32))) (g_a1 : n0 ≤ a1) (g_ta : n0 ≤ ta) (g_ca : n0 ≤ ca) (ne_a1_ta : a1 ≠ ta) (ne_a1_ca : a1 ≠ ca) (ne_ta_ca : ta ≠ ca) (hnb : 3 ≤ p2.toInt) :
    MetFree l mN6 (head1 (Jvm.Cond.code mN6 method_4_code 6 (some .boolean) :: ws) ({ frames := 1, cells := 0, slots := 0, locals := 13 } : Room)) (fun a U => a = #[(.ref a1), (.int (1 : Int32)), (.int p2), (.int (0 : Int32))] ∧ Z.Warmed39 U.vm ∧ U.heap = h0) (fun _ _ _ _ _ => True) (fun _ U o U' => ∃ v L, o = .returned v ∧ Q_bok_s13_0 Z a1 p2 ta ca kt kc h0 n0 v U'.heap L ∧ FrameEnd U o U' L ({ frames := 1, cells := 0, slots := 0, locals := 13 } : Room).cells ({ frames := 1, cells := 0, slots := 0, locals := 13 } : Room).slots) := by
  refine MetFree.of_bodySF (plainFor_of_name pn_com_example_flote_flote_program_ChoicesNextPinLaw) hisR ?_
  intro p e s m args below meth c s₁ Bd hml0 hP hK
  obtain ⟨rfl, hZ, hh⟩ := hP
  have hx := Bd.exec
  have hby := Bd.bytes
  have hml : c.maxLocals = 6 := hml0
  have hown : s.vm.findClass "com/example/flote/flote/program/ChoicesNextPinLaw" = some m.cls := findClass_of_methodNamed Bd.named
  have hnm := (name_of_methodNamed Bd.named Bd.method).1
  have X0 : Stand p l e ({ frames := 1, cells := 0, slots := 0, locals := 13 } : Room) s m #[(.ref a1), (.int (1 : Int32)), (.int p2), (.int (0 : Int32))] below meth c s₁ [] 0 0 := Stand.of_body Bd
  have e0 : s₁.heap = h0 := by rw [← hh, Bd.state]; rfl
  have N0 := Fr.nil n0
  obtain ⟨A0, hA0⟩ : ∃ z, z = s₁.setTop (entryFrame m #[(.ref a1), (.int (1 : Int32)), (.int p2), (.int (0 : Int32))] 6) := ⟨_, rfl⟩
  have K : OGo p e below A0 s₁ (mkF m 0 #[rv a1, iv 1, iv p2, iv 0, .unset, .unset] []) := fun t k => hA0 ▸ castTop (ef_5 m a1 (1 : Int32) p2 (0 : Int32)) k
  replace K : OGo p e below A0 s₁ (mkF m 1 #[rv a1, iv 1, iv p2, iv 0, .unset, .unset] [(.ref a1)]) := fun t k => K t (XS.aloadN X0.here hx rfl (hb hby d5_0) rfl rfl k)
  replace K : OGo p e below A0 s₁ (mkF m 2 #[rv a1, iv 1, iv p2, iv 0, .unset, .unset] [(.int 1), (.ref a1)]) := fun t k => K t (XS.iloadN X0.here hx rfl (hb hby d5_1) rfl k)
  obtain ⟨cq1, kq1, qv1a, qv1b, qv1c⟩ := isOf hZ e0 E_a1
  obtain ⟨_, _, ⟨T1, L1, k1, n1⟩, -, X1, ⟨Lc1, hQ1, l1, y1, z1⟩, st1⟩ := X0.virtualBack hx (y := mN4) (z := mN4) hown (mvT hZ (ow hw 41 rfl)) (mvT hZ (ow hw 42 rfl)) (notFace_of_selects (args := #[]) (mvT hZ (ow hw 44 rfl))) (mvT hZ (ow hw 44 rfl)) (mvT hZ (ow hw 43 rfl)) (by decide) (backOf (W := 0) (rm_choose1 l Z a0 hw [] a1 h0 n0 Z0 ) hZ (ow hw 45 rfl) (ow hw 7 rfl) (by decide) (by decide)) qv1a qv1c (g := (mkF m 2 #[rv a1, iv 1, iv p2, iv 0, .unset, .unset] [(.int 1), (.ref a1)])) rfl (by rw [hml]; rfl) (Steps.refl _) (argsL := [(.int (1 : Int32))]) (rest := []) (lenOf pd__I_I rfl) rfl (by show 2 * 0 + _ ≤ _; exact Nat.le_of_eq rfl) (hb hby d5_2) (fun _ _ => ⟨rfl, e0, (by decide : 0 + 0 ≤ _), (by decide : 0 + 0 ≤ _)⟩)
  dsimp only [Pt.U, Pt.locs, Pt.cells, Pt.slots] at X1 l1 y1 z1 st1 hQ1
  subst l1 y1 z1
  obtain ⟨rfl, Nq1, e1⟩ := hQ1
  have N1 := Fr.app N0 Nq1
  replace K : OGo p e below A0 T1 (mkF m 5 #[rv a1, iv 1, iv p2, iv 0, .unset, .unset] [(.int 0)]) := fun t k => K t (st1.trans k)
  replace K : OGo p e below A0 T1 (mkF m 7 #[rv a1, iv 1, iv p2, iv 0, iv 0, .unset] []) := fun t k => K t (XS.istore X1.here hx rfl (hb hby d5_5) rfl (l' := #[rv a1, iv 1, iv p2, iv 0, iv 0, .unset]) rfl k)
  replace K : OGo p e below A0 T1 (mkF m 8 #[rv a1, iv 1, iv p2, iv 0, iv 0, .unset] [(.ref a1)]) := fun t k => K t (XS.aloadN X1.here hx rfl (hb hby d5_7) rfl rfl k)
  replace K : OGo p e below A0 T1 (mkF m 9 #[rv a1, iv 1, iv p2, iv 0, iv 0, .unset] [(.int p2), (.ref a1)]) := fun t k => K t (XS.iloadN X1.here hx rfl (hb hby d5_8) rfl k)
  obtain ⟨cq2, kq2, qv2a, qv2b, qv2c⟩ := isOf hZ e1 E_a1
  obtain ⟨_, _, ⟨T2, L2, k2, n2⟩, -, X2, ⟨Lc2, hQ2, l2, y2, z2⟩, st2⟩ := X1.virtualBack hx (y := mN4) (z := mN4) hown (mvT hZ (ow hw 41 rfl)) (mvT hZ (ow hw 42 rfl)) (notFace_of_selects (args := #[]) (mvT hZ (ow hw 44 rfl))) (mvT hZ (ow hw 44 rfl)) (mvT hZ (ow hw 43 rfl)) (by decide) (backOf (W := 0) (rm_chooseN00 l Z a0 hw [] a1 p2 ta ca kt kc (0 : Int32) (0 : Int32) (0 : Int32) (0 : Int32) (1 : Int32) (0 : Int32) h0 n0 Z0 E_a1 F_taken_a1 F_counts_a1 F_met_a1 F_repeated_a1 F_branches_a1 F_computed_a1 V_ta V_ca g_a1 g_ta g_ca ne_a1_ta ne_a1_ca ne_ta_ca (fun z => by have q := hnb; rw [z] at q; have : (1 : Int32).toInt = 1 := (by decide); omega)) hZ (ow hw 45 rfl) (ow hw 7 rfl) (by decide) (by decide)) qv2a qv2c (g := (mkF m 9 #[rv a1, iv 1, iv p2, iv 0, iv 0, .unset] [(.int p2), (.ref a1)])) rfl (by rw [hml]; rfl) (Steps.refl _) (argsL := [(.int p2)]) (rest := []) (lenOf pd__I_I rfl) rfl (by show 2 * 0 + _ ≤ _; exact Nat.le_of_eq rfl) (hb hby d5_9) (fun _ _ => ⟨rfl, e1, (by decide : 0 + 0 ≤ _), (by decide : 0 + 0 ≤ _)⟩)
  dsimp only [Pt.U, Pt.locs, Pt.cells, Pt.slots] at X2 l2 y2 z2 st2 hQ2
  subst l2 y2 z2
  obtain ⟨hp2, e2⟩ : ∃ z, T2.heap = z := ⟨_, rfl⟩
  rw [e2] at hQ2
  obtain ⟨rfl, Nq2, K2, P2_0, P2_1, P2_2, P2_3, P2_4, P2_5, P2_6, P2_7, P2_8⟩ := hQ2
  have Z2 : n0 ≤ hp2.size := Nat.le_trans Z0 K2.1
  have Kp2 : Keep h0 hp2 [a1, ta, ca] := (Keep.refl h0 [a1, ta, ca]).trans K2 (allS (Or.inl (List.mem_of_getElem? (i := 0) rfl)) (allS (Or.inl (List.mem_of_getElem? (i := 1) rfl)) (allS (Or.inl (List.mem_of_getElem? (i := 2) rfl)) all0)))
  have N2 := Fr.app N1 Nq2
  replace K : OGo p e below A0 T2 (mkF m 12 #[rv a1, iv 1, iv p2, iv 0, iv 0, .unset] [(.int 0)]) := fun t k => K t (st2.trans k)
  replace K : OGo p e below A0 T2 (mkF m 14 #[rv a1, iv 1, iv p2, iv 0, iv 0, iv 0] []) := fun t k => K t (XS.istore X2.here hx rfl (hb hby d5_12) rfl (l' := #[rv a1, iv 1, iv p2, iv 0, iv 0, iv 0]) rfl k)
  replace K : OGo p e below A0 T2 (mkF m 16 #[rv a1, iv 1, iv p2, iv 0, iv 0, iv 0] [(.int 0)]) := fun t k => K t (XS.iload X2.here hx rfl (hb hby d5_14) rfl k)
  replace K : OGo p e below A0 T2 (mkF m 17 #[rv a1, iv 1, iv p2, iv 0, iv 0, iv 0] [(.int 0), (.int 0)]) := fun t k => K t (XS.iloadN X2.here hx rfl (hb hby d5_16) rfl k)
  replace K : OGo p e below A0 T2 (mkF m 18 #[rv a1, iv 1, iv p2, iv 0, iv 0, iv 0] [(.int p2), (.int 0), (.int 0)]) := fun t k => K t (XS.iloadN X2.here hx rfl (hb hby d5_17) rfl k)
  replace K : OGo p e below A0 T2 (mkF m 19 #[rv a1, iv 1, iv p2, iv 0, iv 0, iv 0] [(.int ((0 : Int32) / p2)), (.int 0)]) := fun t k => K t (XS.idiv X2.here hx rfl (hb hby d5_18) rfl (own_nz hnb (by decide)) k)
  replace K : OGo p e below A0 T2 (mkF m 22 #[rv a1, iv 1, iv p2, iv 0, iv 0, iv 0] []) := fun t k => K t (XS.icmpNo X2.here hx rfl (hb hby d5_19) rfl (teq ((own_div (k := (0 : Int32)) (b := p2) (by decide) (by have : ((0 : Int32) : Int32).toInt = 0 := (by decide); omega)).1 : (0 : Int32) = ((0 : Int32) / p2))).2 k)
  replace K : OGo p e below A0 T2 (mkF m 24 #[rv a1, iv 1, iv p2, iv 0, iv 0, iv 0] [(.int 0)]) := fun t k => K t (XS.iload X2.here hx rfl (hb hby d5_22) rfl k)
  replace K : OGo p e below A0 T2 (mkF m 25 #[rv a1, iv 1, iv p2, iv 0, iv 0, iv 0] [(.int 0), (.int 0)]) := fun t k => K t (XS.iloadN X2.here hx rfl (hb hby d5_24) rfl k)
  replace K : OGo p e below A0 T2 (mkF m 26 #[rv a1, iv 1, iv p2, iv 0, iv 0, iv 0] [(.int p2), (.int 0), (.int 0)]) := fun t k => K t (XS.iloadN X2.here hx rfl (hb hby d5_25) rfl k)
  replace K : OGo p e below A0 T2 (mkF m 27 #[rv a1, iv 1, iv p2, iv 0, iv 0, iv 0] [(.int ((0 : Int32) % p2)), (.int 0)]) := fun t k => K t (iremM X2 hx rfl (hb hby d5_26) rfl (own_nz hnb (by decide)) k)
  replace K : OGo p e below A0 T2 (mkF m 30 #[rv a1, iv 1, iv p2, iv 0, iv 0, iv 0] []) := fun t k => K t (XS.icmpNo X2.here hx rfl (hb hby d5_27) rfl (teq ((own_div (k := (0 : Int32)) (b := p2) (by decide) (by have : ((0 : Int32) : Int32).toInt = 0 := (by decide); omega)).2 : (0 : Int32) = ((0 : Int32) % p2))).2 k)
  replace K : OGo p e below A0 T2 (mkF m 31 #[rv a1, iv 1, iv p2, iv 0, iv 0, iv 0] [(.int 1)]) := fun t k => K t (XS.iconst X2.here hx rfl (hb hby d5_30) k)
  replace K : OGo p e below A0 T2 (mkF m 35 #[rv a1, iv 1, iv p2, iv 0, iv 0, iv 0] [(.int 1)]) := fun t k => K t (XS.goto X2.here hx rfl (pc0 := 31) (pc' := 35) rfl (hb hby d5_31) (by decide) (by decide) k)
  obtain ⟨fs, hr, hrun, hended, hW, hsame⟩ := X2.leave (v := some (.int (1 : Int32))) (fun h => by rw [Bd.returns] at h; cases h)
  subst hA0
  refine ⟨_, _, K _ (retN X2 hx (t := .boolean) Bd.returns (by simp) (hb hby d5_35) hr), hrun, hended, _, _, rfl, ?_, ⟨_, rfl⟩, hW, hsame.mono (by decide) (by decide)⟩
  show Q_bok_s13_0 Z a1 p2 ta ca kt kc h0 n0 _ T2.heap _
  rw [e2]
  exact ⟨rfl, N2, Kp2, P2_0, P2_1, P2_2, P2_3, P2_4, P2_5, P2_6, P2_7, P2_8⟩
def Q_nx_A_var3 (Z : State) (a1 : Addr) (ta : Addr) (ca : Addr) (kt : ClassId) (kc : ClassId) (c0 : Int32) (h0 : Heap) (n0 : Nat) (v : Option Value) (h : Heap) (L : List Loc) : Prop := v = some (.int (1 : Int32)) ∧ Fr n0 L ∧ Keep h0 h [a1, ta, ca] ∧ Exa Z h a1 cN0 ∧ Fld Z h a1 cN0 "taken" "[I" (.ref ta) ∧ Fld Z h a1 cN0 "counts" "[I" (.ref ca) ∧ Fld Z h a1 cN0 "met" "I" (.int (0 : Int32)) ∧ Fld Z h a1 cN0 "repeated" "I" (.int (1 : Int32)) ∧ Fld Z h a1 cN0 "branches" "I" (.int (2 : Int32)) ∧ Fld Z h a1 cN0 "computed" "I" (.int (0 : Int32)) ∧ OAr Z h ta kt .int (oA8 (1 : Int32) (0 : Int32)) ∧ OAr Z h ca kc .int (oA8 c0 (0 : Int32))
set_option maxRecDepth 65536 in
set_option maxHeartbeats 40000000 in
theorem rm_nx_A_var3 (l : Launch) (Z : State) (a0 : Array Value) (hw : ∀ d ∈ tables_1, d.before a0 Z = true) (ws : List Jvm.Cond) (a1 : Addr) (ta : Addr) (ca : Addr) (kt : ClassId) (kc : ClassId) (c0 : Int32) (h0 : Heap) (n0 : Nat) (Z0 : n0 ≤ h0.size) (E_a1 : Exa Z h0 a1 cN0) (F_taken_a1 : Fld Z h0 a1 cN0 "taken" "[I" (.ref ta)) (F_counts_a1 : Fld Z h0 a1 cN0 "counts" "[I" (.ref ca)) (F_met_a1 : Fld Z h0 a1 cN0 "met" "I" (.int (1 : Int32))) (F_repeated_a1 : Fld Z h0 a1 cN0 "repeated" "I" (.int (0 : Int32))) (F_branches_a1 : Fld Z h0 a1 cN0 "branches" "I" (.int (1 : Int32))) (F_computed_a1 : Fld Z h0 a1 cN0 "computed" "I" (.int (0 : Int32))) (V_ta : OAr Z h0 ta kt .int (oA8 (0 : Int32) (0 : Int32))) (V_ca : OAr Z h0 ca kc .int (oA8 c0 (0 : Int32))) (g_a1 : n0 ≤ a1) (g_ta : n0 ≤ ta) (g_ca : n0 ≤ ca) (ne_a1_ta : a1 ≠ ta) (ne_a1_ca : a1 ≠ ca) (ne_ta_ca : ta ≠ ca) (hc : 3 ≤ c0.toInt) :
    MetFree l mN7 (head1 (Jvm.Cond.code mN7 prog_72_method_6_code 3 (some .boolean) :: ws) ({ frames := 0, cells := 0, slots := 0, locals := 0 } : Room)) (fun a U => a = #[(.ref a1)] ∧ Z.Warmed39 U.vm ∧ U.heap = h0) (fun _ _ _ _ _ => True) (fun _ U o U' => ∃ v L, o = .returned v ∧ Q_nx_A_var3 Z a1 ta ca kt kc c0 h0 n0 v U'.heap L ∧ FrameEnd U o U' L ({ frames := 0, cells := 0, slots := 0, locals := 0 } : Room).cells ({ frames := 0, cells := 0, slots := 0, locals := 0 } : Room).slots) := by
  refine MetFree.of_bodySF (plainFor_of_name pn_com_example_flote_flote_program_Choices) hisR ?_
  intro p e s m args below meth c s₁ Bd hml0 hP hK
  obtain ⟨rfl, hZ, hh⟩ := hP
  have hx := Bd.exec
  have hby := Bd.bytes
  have hml : c.maxLocals = 3 := hml0
  have hown : s.vm.findClass "com/example/flote/flote/program/Choices" = some m.cls := findClass_of_methodNamed Bd.named
  have hnm := (name_of_methodNamed Bd.named Bd.method).1
  have X0 : Stand p l e ({ frames := 0, cells := 0, slots := 0, locals := 0 } : Room) s m #[(.ref a1)] below meth c s₁ [] 0 0 := Stand.of_body Bd
  have e0 : s₁.heap = h0 := by rw [← hh, Bd.state]; rfl
  have N0 := Fr.nil n0
  obtain ⟨A0, hA0⟩ : ∃ z, z = s₁.setTop (entryFrame m #[(.ref a1)] 3) := ⟨_, rfl⟩
  have K : OGo p e below A0 s₁ (mkF m 0 #[rv a1, .unset, .unset] []) := fun t k => hA0 ▸ castTop (ef_7 m a1) k
  replace K : OGo p e below A0 s₁ (mkF m 1 #[rv a1, .unset, .unset] [(.ref a1)]) := fun t k => K t (XS.aloadN X0.here hx rfl (hb hby d7_0) rfl rfl k)
  obtain ⟨T1, X1, e1, st1⟩ := getF X0 hx hZ hown (host := "") (Or.inl (ow hw 30 rfl)) Via.refl e0 F_met_a1 (g := (mkF m 1 #[rv a1, .unset, .unset] [(.ref a1)])) rfl rfl (hb hby d7_1)
  replace K : OGo p e below A0 T1 (mkF m 4 #[rv a1, .unset, .unset] [(.int 1)]) := fun t k => K t (st1 t k)
  replace K : OGo p e below A0 T1 (mkF m 5 #[rv a1, .unset, .unset] [(.int 1), (.int 1)]) := fun t k => K t (XS.iconst X1.here hx rfl (hb hby d7_4) k)
  replace K : OGo p e below A0 T1 (mkF m 6 #[rv a1, .unset, .unset] [(.int 0)]) := fun t k => K t (XS.isub X1.here hx rfl (hb hby d7_5) rfl k)
  replace K : OGo p e below A0 T1 (mkF m 7 #[rv a1, iv 0, .unset] []) := fun t k => K t (XS.istoreN X1.here hx rfl (hb hby d7_6) rfl (l' := #[rv a1, iv 0, .unset]) rfl k)
  replace K : OGo p e below A0 T1 (mkF m 8 #[rv a1, iv 0, .unset] [(.int 0)]) := fun t k => K t (XS.iloadN X1.here hx rfl (hb hby d7_7) rfl k)
  replace K : OGo p e below A0 T1 (mkF m 11 #[rv a1, iv 0, .unset] []) := fun t k => K t (XS.ifNo X1.here hx rfl (hb hby d7_8) rfl ((if0 _ _).trans (flt ((by decide : ¬ ((0 : Int32) < (0 : Int32))) : ¬ ((0 : Int32) < (0 : Int32)))).1) k)
  replace K : OGo p e below A0 T1 (mkF m 12 #[rv a1, iv 0, .unset] [(.ref a1)]) := fun t k => K t (XS.aloadN X1.here hx rfl (hb hby d7_11) rfl rfl k)
  obtain ⟨T2, X2, e2, st2⟩ := getF X1 hx hZ hown (host := "") (Or.inl (ow hw 15 rfl)) Via.refl e1 F_taken_a1 (g := (mkF m 12 #[rv a1, iv 0, .unset] [(.ref a1)])) rfl rfl (hb hby d7_12)
  replace K : OGo p e below A0 T2 (mkF m 15 #[rv a1, iv 0, .unset] [(.ref ta)]) := fun t k => K t (st2 t k)
  replace K : OGo p e below A0 T2 (mkF m 16 #[rv a1, iv 0, .unset] [(.int 0), (.ref ta)]) := fun t k => K t (XS.iloadN X2.here hx rfl (hb hby d7_15) rfl k)
  replace K : OGo p e below A0 T2 (mkF m 17 #[rv a1, iv 0, .unset] [(.int 0)]) := fun t k => K t (own_ldI X2 hx hZ e2 V_ta (j := (0 : Int32)) (v := (.int (0 : Int32))) (by decide) rfl (g := (mkF m 16 #[rv a1, iv 0, .unset] [(.int 0), (.ref ta)])) rfl rfl (hb hby d7_16) t k)
  replace K : OGo p e below A0 T2 (mkF m 18 #[rv a1, iv 0, .unset] [(.ref a1), (.int 0)]) := fun t k => K t (XS.aloadN X2.here hx rfl (hb hby d7_17) rfl rfl k)
  obtain ⟨T3, X3, e3, st3⟩ := getF X2 hx hZ hown (host := "") (Or.inl (ow hw 17 rfl)) Via.refl e2 F_counts_a1 (g := (mkF m 18 #[rv a1, iv 0, .unset] [(.ref a1), (.int 0)])) rfl rfl (hb hby d7_18)
  replace K : OGo p e below A0 T3 (mkF m 21 #[rv a1, iv 0, .unset] [(.ref ca), (.int 0)]) := fun t k => K t (st3 t k)
  replace K : OGo p e below A0 T3 (mkF m 22 #[rv a1, iv 0, .unset] [(.int 0), (.ref ca), (.int 0)]) := fun t k => K t (XS.iloadN X3.here hx rfl (hb hby d7_21) rfl k)
  replace K : OGo p e below A0 T3 (mkF m 23 #[rv a1, iv 0, .unset] [(.int c0), (.int 0)]) := fun t k => K t (own_ldI X3 hx hZ e3 V_ca (j := (0 : Int32)) (v := (.int c0)) (by decide) rfl (g := (mkF m 22 #[rv a1, iv 0, .unset] [(.int 0), (.ref ca), (.int 0)])) rfl rfl (hb hby d7_22) t k)
  replace K : OGo p e below A0 T3 (mkF m 24 #[rv a1, iv 0, .unset] [(.int 1), (.int c0), (.int 0)]) := fun t k => K t (XS.iconst X3.here hx rfl (hb hby d7_23) k)
  replace K : OGo p e below A0 T3 (mkF m 25 #[rv a1, iv 0, .unset] [(.int (c0 - (1 : Int32))), (.int 0)]) := fun t k => K t (XS.isub X3.here hx rfl (hb hby d7_24) rfl k)
  replace K : OGo p e below A0 T3 (mkF m 34 #[rv a1, iv 0, .unset] []) := fun t k => K t (XS.icmpYes X3.here hx rfl (pc0 := 25) (pc' := 34) rfl (hb hby d7_25) rfl (feq ((own_nsub (t := (0 : Int32)) (k := 0) (by decide) (by omega) (by decide)) : ¬ ((0 : Int32) = (c0 - (1 : Int32))))).2 (by decide) (by decide) k)
  replace K : OGo p e below A0 T3 (mkF m 35 #[rv a1, iv 0, .unset] [(.int 0)]) := fun t k => K t (XS.iloadN X3.here hx rfl (hb hby d7_34) rfl k)
  replace K : OGo p e below A0 T3 (mkF m 38 #[rv a1, iv 0, .unset] []) := fun t k => K t (XS.ifNo X3.here hx rfl (hb hby d7_35) rfl ((if0 _ _).trans (flt ((by decide : ¬ ((0 : Int32) < (0 : Int32))) : ¬ ((0 : Int32) < (0 : Int32)))).1) k)
  replace K : OGo p e below A0 T3 (mkF m 39 #[rv a1, iv 0, .unset] [(.int 1)]) := fun t k => K t (XS.iconst X3.here hx rfl (hb hby d7_38) k)
  replace K : OGo p e below A0 T3 (mkF m 43 #[rv a1, iv 0, .unset] [(.int 1)]) := fun t k => K t (XS.goto X3.here hx rfl (pc0 := 39) (pc' := 43) rfl (hb hby d7_39) (by decide) (by decide) k)
  replace K : OGo p e below A0 T3 (mkF m 44 #[rv a1, iv 0, iv 1] []) := fun t k => K t (XS.istoreN X3.here hx rfl (hb hby d7_43) rfl (l' := #[rv a1, iv 0, iv 1]) rfl k)
  replace K : OGo p e below A0 T3 (mkF m 45 #[rv a1, iv 0, iv 1] [(.int 1)]) := fun t k => K t (XS.iloadN X3.here hx rfl (hb hby d7_44) rfl k)
  replace K : OGo p e below A0 T3 (mkF m 48 #[rv a1, iv 0, iv 1] []) := fun t k => K t (XS.ifNo X3.here hx rfl (hb hby d7_45) rfl ((if0 _ _).trans (feq ((by decide : ¬ ((1 : Int32) = (0 : Int32))) : ¬ ((1 : Int32) = (0 : Int32)))).1) k)
  replace K : OGo p e below A0 T3 (mkF m 49 #[rv a1, iv 0, iv 1] [(.ref a1)]) := fun t k => K t (XS.aloadN X3.here hx rfl (hb hby d7_48) rfl rfl k)
  obtain ⟨T4, X4, e4, st4⟩ := getF X3 hx hZ hown (host := "") (Or.inl (ow hw 15 rfl)) Via.refl e3 F_taken_a1 (g := (mkF m 49 #[rv a1, iv 0, iv 1] [(.ref a1)])) rfl rfl (hb hby d7_49)
  replace K : OGo p e below A0 T4 (mkF m 52 #[rv a1, iv 0, iv 1] [(.ref ta)]) := fun t k => K t (st4 t k)
  replace K : OGo p e below A0 T4 (mkF m 53 #[rv a1, iv 0, iv 1] [(.int 0), (.ref ta)]) := fun t k => K t (XS.iloadN X4.here hx rfl (hb hby d7_52) rfl k)
  replace K : OGo p e below A0 T4 (mkF m 54 #[rv a1, iv 0, iv 1] [(.int 0), (.ref ta), (.int 0), (.ref ta)]) := fun t k => K t (Jvm.Free.XT.dup2 X4.here hx rfl (hb hby d7_53) rfl rfl rfl k)
  replace K : OGo p e below A0 T4 (mkF m 55 #[rv a1, iv 0, iv 1] [(.int 0), (.int 0), (.ref ta)]) := fun t k => K t (own_ldI X4 hx hZ e4 V_ta (j := (0 : Int32)) (v := (.int (0 : Int32))) (by decide) rfl (g := (mkF m 54 #[rv a1, iv 0, iv 1] [(.int 0), (.ref ta), (.int 0), (.ref ta)])) rfl rfl (hb hby d7_54) t k)
  replace K : OGo p e below A0 T4 (mkF m 56 #[rv a1, iv 0, iv 1] [(.int 1), (.int 0), (.int 0), (.ref ta)]) := fun t k => K t (XS.iconst X4.here hx rfl (hb hby d7_55) k)
  replace K : OGo p e below A0 T4 (mkF m 57 #[rv a1, iv 0, iv 1] [(.int 1), (.int 0), (.ref ta)]) := fun t k => K t (XS.iadd X4.here hx rfl (hb hby d7_56) rfl k)
  obtain ⟨T5, h5, X5, e5, W5, V5, st5⟩ := own_stI X4 hx hZ e4 V_ta (j := (0 : Int32)) (by decide) (Nat.le_of_ble_eq_true rfl) (g := (mkF m 57 #[rv a1, iv 0, iv 1] [(.int 1), (.int 0), (.ref ta)])) rfl rfl (hb hby d7_57)
  have Z5 : n0 ≤ h5.size := Nat.le_trans Z0 (Keep.of_wr W5).1
  have Kp5 : Keep h0 h5 [a1, ta, ca] := (Keep.refl h0 [a1, ta, ca]).wr W5 (Or.inl (List.mem_of_getElem? (i := 1) rfl))
  have V_ta_5 : OAr Z h5 ta kt .int (oA8 (1 : Int32) (0 : Int32)) := V5
  have N5 := Fr.snoc X5 N0 g_ta
  replace K : OGo p e below A0 T5 (mkF m 58 #[rv a1, iv 0, iv 1] []) := fun t k => K t (st5 t k)
  replace K : OGo p e below A0 T5 (mkF m 59 #[rv a1, iv 0, iv 1] [(.ref a1)]) := fun t k => K t (XS.aloadN X5.here hx rfl (hb hby d7_58) rfl rfl k)
  replace K : OGo p e below A0 T5 (mkF m 60 #[rv a1, iv 0, iv 1] [(.int 0), (.ref a1)]) := fun t k => K t (XS.iloadN X5.here hx rfl (hb hby d7_59) rfl k)
  replace K : OGo p e below A0 T5 (mkF m 61 #[rv a1, iv 0, iv 1] [(.int 1), (.int 0), (.ref a1)]) := fun t k => K t (XS.iconst X5.here hx rfl (hb hby d7_60) k)
  replace K : OGo p e below A0 T5 (mkF m 62 #[rv a1, iv 0, iv 1] [(.int 1), (.ref a1)]) := fun t k => K t (XS.iadd X5.here hx rfl (hb hby d7_61) rfl k)
  have F_repeated_a1_6 := (F_repeated_a1.other W5 (Or.inl ne_a1_ta))
  have E_a1_7 := (E_a1.wr W5)
  obtain ⟨T8, h8, X8, e8, W8, st8⟩ := putF X5 hx hZ hown (host := "") (Or.inl (ow hw 32 rfl)) Via.refl e5 F_repeated_a1_6 E_a1_7 (Or.inl (ow hw 33 rfl)) (ow hw 6 rfl) (ty := .int) (by decide) rfl rfl (g := (mkF m 62 #[rv a1, iv 0, iv 1] [(.int 1), (.ref a1)])) rfl rfl (hb hby d7_62)
  have Z8 : n0 ≤ h8.size := Nat.le_trans Z5 (Keep.of_wr W8).1
  have Kp8 : Keep h0 h8 [a1, ta, ca] := Kp5.wr W8 (Or.inl (List.mem_of_getElem? (i := 0) rfl))
  have F_repeated_a1_8 := F_repeated_a1_6.same W8
  have N8 := Fr.snoc X8 N5 g_a1
  replace K : OGo p e below A0 T8 (mkF m 65 #[rv a1, iv 0, iv 1] []) := fun t k => K t (st8 t k)
  replace K : OGo p e below A0 T8 (mkF m 66 #[rv a1, iv 0, iv 1] [(.ref a1)]) := fun t k => K t (XS.aloadN X8.here hx rfl (hb hby d7_65) rfl rfl k)
  replace K : OGo p e below A0 T8 (mkF m 67 #[rv a1, iv 0, iv 1] [(.int 0), (.ref a1)]) := fun t k => K t (XS.iconst X8.here hx rfl (hb hby d7_66) k)
  have F_met_a1_9 := ((F_met_a1.other W5 (Or.inl ne_a1_ta)).other W8 (Or.inr (sn_cN0_met_repeated hw)))
  have E_a1_10 := (E_a1_7.wr W8)
  obtain ⟨T11, h11, X11, e11, W11, st11⟩ := putF X8 hx hZ hown (host := "") (Or.inl (ow hw 30 rfl)) Via.refl e8 F_met_a1_9 E_a1_10 (Or.inl (ow hw 31 rfl)) (ow hw 6 rfl) (ty := .int) (by decide) rfl rfl (g := (mkF m 67 #[rv a1, iv 0, iv 1] [(.int 0), (.ref a1)])) rfl rfl (hb hby d7_67)
  have Z11 : n0 ≤ h11.size := Nat.le_trans Z8 (Keep.of_wr W11).1
  have Kp11 : Keep h0 h11 [a1, ta, ca] := Kp8.wr W11 (Or.inl (List.mem_of_getElem? (i := 0) rfl))
  have F_met_a1_11 := F_met_a1_9.same W11
  have N11 := Fr.snoc X11 N8 g_a1
  replace K : OGo p e below A0 T11 (mkF m 70 #[rv a1, iv 0, iv 1] []) := fun t k => K t (st11 t k)
  replace K : OGo p e below A0 T11 (mkF m 71 #[rv a1, iv 0, iv 1] [(.ref a1)]) := fun t k => K t (XS.aloadN X11.here hx rfl (hb hby d7_70) rfl rfl k)
  replace K : OGo p e below A0 T11 (mkF m 72 #[rv a1, iv 0, iv 1] [(.ref a1), (.ref a1)]) := fun t k => K t (XS.dup X11.here hx rfl (hb hby d7_71) rfl rfl k)
  have F_branches_a1_12 := (((F_branches_a1.other W5 (Or.inl ne_a1_ta)).other W8 (Or.inr (sn_cN0_branches_repeated hw))).other W11 (Or.inr (sn_cN0_branches_met hw)))
  obtain ⟨T13, X13, e13, st13⟩ := getF X11 hx hZ hown (host := "") (Or.inl (ow hw 34 rfl)) Via.refl e11 F_branches_a1_12 (g := (mkF m 72 #[rv a1, iv 0, iv 1] [(.ref a1), (.ref a1)])) rfl rfl (hb hby d7_72)
  replace K : OGo p e below A0 T13 (mkF m 75 #[rv a1, iv 0, iv 1] [(.int 1), (.ref a1)]) := fun t k => K t (st13 t k)
  replace K : OGo p e below A0 T13 (mkF m 76 #[rv a1, iv 0, iv 1] [(.int 1), (.int 1), (.ref a1)]) := fun t k => K t (XS.iconst X13.here hx rfl (hb hby d7_75) k)
  replace K : OGo p e below A0 T13 (mkF m 77 #[rv a1, iv 0, iv 1] [(.int 2), (.ref a1)]) := fun t k => K t (XS.iadd X13.here hx rfl (hb hby d7_76) rfl k)
  have E_a1_14 := (E_a1_10.wr W11)
  obtain ⟨T15, h15, X15, e15, W15, st15⟩ := putF X13 hx hZ hown (host := "") (Or.inl (ow hw 34 rfl)) Via.refl e13 F_branches_a1_12 E_a1_14 (Or.inl (ow hw 35 rfl)) (ow hw 6 rfl) (ty := .int) (by decide) rfl rfl (g := (mkF m 77 #[rv a1, iv 0, iv 1] [(.int 2), (.ref a1)])) rfl rfl (hb hby d7_77)
  have Z15 : n0 ≤ h15.size := Nat.le_trans Z11 (Keep.of_wr W15).1
  have Kp15 : Keep h0 h15 [a1, ta, ca] := Kp11.wr W15 (Or.inl (List.mem_of_getElem? (i := 0) rfl))
  have F_branches_a1_15 := F_branches_a1_12.same W15
  have N15 := Fr.snoc X15 N11 g_a1
  replace K : OGo p e below A0 T15 (mkF m 80 #[rv a1, iv 0, iv 1] []) := fun t k => K t (st15 t k)
  replace K : OGo p e below A0 T15 (mkF m 81 #[rv a1, iv 0, iv 1] [(.ref a1)]) := fun t k => K t (XS.aloadN X15.here hx rfl (hb hby d7_80) rfl rfl k)
  replace K : OGo p e below A0 T15 (mkF m 82 #[rv a1, iv 0, iv 1] [(.int 0), (.ref a1)]) := fun t k => K t (XS.iconst X15.here hx rfl (hb hby d7_81) k)
  have F_computed_a1_16 := ((((F_computed_a1.other W5 (Or.inl ne_a1_ta)).other W8 (Or.inr (sn_cN0_computed_repeated hw))).other W11 (Or.inr (sn_cN0_computed_met hw))).other W15 (Or.inr (sn_cN0_computed_branches hw)))
  have E_a1_17 := (E_a1_14.wr W15)
  obtain ⟨T18, h18, X18, e18, W18, st18⟩ := putF X15 hx hZ hown (host := "") (Or.inl (ow hw 36 rfl)) Via.refl e15 F_computed_a1_16 E_a1_17 (Or.inl (ow hw 37 rfl)) (ow hw 6 rfl) (ty := .int) (by decide) rfl rfl (g := (mkF m 82 #[rv a1, iv 0, iv 1] [(.int 0), (.ref a1)])) rfl rfl (hb hby d7_82)
  have Z18 : n0 ≤ h18.size := Nat.le_trans Z15 (Keep.of_wr W18).1
  have Kp18 : Keep h0 h18 [a1, ta, ca] := Kp15.wr W18 (Or.inl (List.mem_of_getElem? (i := 0) rfl))
  have F_computed_a1_18 := F_computed_a1_16.same W18
  have N18 := Fr.snoc X18 N15 g_a1
  replace K : OGo p e below A0 T18 (mkF m 85 #[rv a1, iv 0, iv 1] []) := fun t k => K t (st18 t k)
  replace K : OGo p e below A0 T18 (mkF m 86 #[rv a1, iv 0, iv 1] [(.int 1)]) := fun t k => K t (XS.iloadN X18.here hx rfl (hb hby d7_85) rfl k)
  have E_a1_19 := (E_a1_17.wr W18)
  have F_taken_a1_20 := (((((F_taken_a1.other W5 (Or.inl ne_a1_ta)).other W8 (Or.inr (sn_cN0_taken_repeated hw))).other W11 (Or.inr (sn_cN0_taken_met hw))).other W15 (Or.inr (sn_cN0_taken_branches hw))).other W18 (Or.inr (sn_cN0_taken_computed hw)))
  have F_counts_a1_21 := (((((F_counts_a1.other W5 (Or.inl ne_a1_ta)).other W8 (Or.inr (sn_cN0_counts_repeated hw))).other W11 (Or.inr (sn_cN0_counts_met hw))).other W15 (Or.inr (sn_cN0_counts_branches hw))).other W18 (Or.inr (sn_cN0_counts_computed hw)))
  have F_met_a1_22 := ((F_met_a1_11.other W15 (Or.inr (sn_cN0_met_branches hw))).other W18 (Or.inr (sn_cN0_met_computed hw)))
  have F_repeated_a1_23 := (((F_repeated_a1_8.other W11 (Or.inr (sn_cN0_repeated_met hw))).other W15 (Or.inr (sn_cN0_repeated_branches hw))).other W18 (Or.inr (sn_cN0_repeated_computed hw)))
  have F_branches_a1_24 := (F_branches_a1_15.other W18 (Or.inr (sn_cN0_branches_computed hw)))
  have V_ta_25 := ((((V_ta_5.other W8 (Ne.symm ne_a1_ta)).other W11 (Ne.symm ne_a1_ta)).other W15 (Ne.symm ne_a1_ta)).other W18 (Ne.symm ne_a1_ta))
  have V_ca_26 := (((((V_ca.other W5 (Ne.symm ne_ta_ca)).other W8 (Ne.symm ne_a1_ca)).other W11 (Ne.symm ne_a1_ca)).other W15 (Ne.symm ne_a1_ca)).other W18 (Ne.symm ne_a1_ca))
  obtain ⟨fs, hr, hrun, hended, hW, hsame⟩ := X18.leave (v := some (.int (1 : Int32))) (fun h => by rw [Bd.returns] at h; cases h)
  subst hA0
  refine ⟨_, _, K _ (retN X18 hx (t := .boolean) Bd.returns (by simp) (hb hby d7_86) hr), hrun, hended, _, _, rfl, ?_, ⟨_, rfl⟩, hW, hsame.mono (by decide) (by decide)⟩
  show Q_nx_A_var3 Z a1 ta ca kt kc c0 h0 n0 _ T18.heap _
  rw [e18]
  exact ⟨rfl, N18, Kp18, E_a1_19, F_taken_a1_20, F_counts_a1_21, F_met_a1_22, F_repeated_a1_23, F_branches_a1_24, F_computed_a1_18, V_ta_25, V_ca_26⟩
def Q_bok_s13_1 (Z : State) (a1 : Addr) (p2 : Int32) (ta : Addr) (ca : Addr) (kt : ClassId) (kc : ClassId) (h0 : Heap) (n0 : Nat) (v : Option Value) (h : Heap) (L : List Loc) : Prop := v = some (.int (1 : Int32)) ∧ Fr n0 L ∧ Keep h0 h [a1, ta, ca] ∧ Exa Z h a1 cN0 ∧ Fld Z h a1 cN0 "taken" "[I" (.ref ta) ∧ Fld Z h a1 cN0 "counts" "[I" (.ref ca) ∧ Fld Z h a1 cN0 "met" "I" (.int (1 : Int32)) ∧ Fld Z h a1 cN0 "repeated" "I" (.int (1 : Int32)) ∧ Fld Z h a1 cN0 "branches" "I" (.int (2 : Int32)) ∧ Fld Z h a1 cN0 "computed" "I" (.int (0 : Int32)) ∧ OAr Z h ta kt .int (oA8 (1 : Int32) (0 : Int32)) ∧ OAr Z h ca kc .int (oA8 p2 (0 : Int32))
set_option maxRecDepth 65536 in
set_option maxHeartbeats 40000000 in
theorem rm_bok_s13_1 (l : Launch) (Z : State) (a0 : Array Value) (hw : ∀ d ∈ tables_1, d.before a0 Z = true) (ws : List Jvm.Cond) (a1 : Addr) (p2 : Int32) (ta : Addr) (ca : Addr) (kt : ClassId) (kc : ClassId) (h0 : Heap) (n0 : Nat) (Z0 : n0 ≤ h0.size) (E_a1 : Exa Z h0 a1 cN0) (F_taken_a1 : Fld Z h0 a1 cN0 "taken" "[I" (.ref ta)) (F_counts_a1 : Fld Z h0 a1 cN0 "counts" "[I" (.ref ca)) (F_met_a1 : Fld Z h0 a1 cN0 "met" "I" (.int (0 : Int32))) (F_repeated_a1 : Fld Z h0 a1 cN0 "repeated" "I" (.int (1 : Int32))) (F_branches_a1 : Fld Z h0 a1 cN0 "branches" "I" (.int (2 : Int32))) (F_computed_a1 : Fld Z h0 a1 cN0 "computed" "I" (.int (0 : Int32))) (V_ta : OAr Z h0 ta kt .int (oA8 (1 : Int32) (0 : Int32))) (V_ca : OAr Z h0 ca kc .int (oA8 p2 (0 : Int32))) (g_a1 : n0 ≤ a1) (g_ta : n0 ≤ ta) (g_ca : n0 ≤ ca) (ne_a1_ta : a1 ≠ ta) (ne_a1_ca : a1 ≠ ca) (ne_ta_ca : ta ≠ ca) (hnb : 3 ≤ p2.toInt) :
    MetFree l mN6 (head1 (Jvm.Cond.code mN6 method_4_code 6 (some .boolean) :: ws) ({ frames := 1, cells := 0, slots := 0, locals := 13 } : Room)) (fun a U => a = #[(.ref a1), (.int (1 : Int32)), (.int p2), (.int (1 : Int32))] ∧ Z.Warmed39 U.vm ∧ U.heap = h0) (fun _ _ _ _ _ => True) (fun _ U o U' => ∃ v L, o = .returned v ∧ Q_bok_s13_1 Z a1 p2 ta ca kt kc h0 n0 v U'.heap L ∧ FrameEnd U o U' L ({ frames := 1, cells := 0, slots := 0, locals := 13 } : Room).cells ({ frames := 1, cells := 0, slots := 0, locals := 13 } : Room).slots) := by
  refine MetFree.of_bodySF (plainFor_of_name pn_com_example_flote_flote_program_ChoicesNextPinLaw) hisR ?_
  intro p e s m args below meth c s₁ Bd hml0 hP hK
  obtain ⟨rfl, hZ, hh⟩ := hP
  have hx := Bd.exec
  have hby := Bd.bytes
  have hml : c.maxLocals = 6 := hml0
  have hown : s.vm.findClass "com/example/flote/flote/program/ChoicesNextPinLaw" = some m.cls := findClass_of_methodNamed Bd.named
  have hnm := (name_of_methodNamed Bd.named Bd.method).1
  have X0 : Stand p l e ({ frames := 1, cells := 0, slots := 0, locals := 13 } : Room) s m #[(.ref a1), (.int (1 : Int32)), (.int p2), (.int (1 : Int32))] below meth c s₁ [] 0 0 := Stand.of_body Bd
  have e0 : s₁.heap = h0 := by rw [← hh, Bd.state]; rfl
  have N0 := Fr.nil n0
  obtain ⟨A0, hA0⟩ : ∃ z, z = s₁.setTop (entryFrame m #[(.ref a1), (.int (1 : Int32)), (.int p2), (.int (1 : Int32))] 6) := ⟨_, rfl⟩
  have K : OGo p e below A0 s₁ (mkF m 0 #[rv a1, iv 1, iv p2, iv 1, .unset, .unset] []) := fun t k => hA0 ▸ castTop (ef_5 m a1 (1 : Int32) p2 (1 : Int32)) k
  replace K : OGo p e below A0 s₁ (mkF m 1 #[rv a1, iv 1, iv p2, iv 1, .unset, .unset] [(.ref a1)]) := fun t k => K t (XS.aloadN X0.here hx rfl (hb hby d5_0) rfl rfl k)
  replace K : OGo p e below A0 s₁ (mkF m 2 #[rv a1, iv 1, iv p2, iv 1, .unset, .unset] [(.int 1), (.ref a1)]) := fun t k => K t (XS.iloadN X0.here hx rfl (hb hby d5_1) rfl k)
  obtain ⟨cq1, kq1, qv1a, qv1b, qv1c⟩ := isOf hZ e0 E_a1
  obtain ⟨_, _, ⟨T1, L1, k1, n1⟩, -, X1, ⟨Lc1, hQ1, l1, y1, z1⟩, st1⟩ := X0.virtualBack hx (y := mN4) (z := mN4) hown (mvT hZ (ow hw 41 rfl)) (mvT hZ (ow hw 42 rfl)) (notFace_of_selects (args := #[]) (mvT hZ (ow hw 44 rfl))) (mvT hZ (ow hw 44 rfl)) (mvT hZ (ow hw 43 rfl)) (by decide) (backOf (W := 0) (rm_choose1 l Z a0 hw [] a1 h0 n0 Z0 ) hZ (ow hw 45 rfl) (ow hw 7 rfl) (by decide) (by decide)) qv1a qv1c (g := (mkF m 2 #[rv a1, iv 1, iv p2, iv 1, .unset, .unset] [(.int 1), (.ref a1)])) rfl (by rw [hml]; rfl) (Steps.refl _) (argsL := [(.int (1 : Int32))]) (rest := []) (lenOf pd__I_I rfl) rfl (by show 2 * 0 + _ ≤ _; exact Nat.le_of_eq rfl) (hb hby d5_2) (fun _ _ => ⟨rfl, e0, (by decide : 0 + 0 ≤ _), (by decide : 0 + 0 ≤ _)⟩)
  dsimp only [Pt.U, Pt.locs, Pt.cells, Pt.slots] at X1 l1 y1 z1 st1 hQ1
  subst l1 y1 z1
  obtain ⟨rfl, Nq1, e1⟩ := hQ1
  have N1 := Fr.app N0 Nq1
  replace K : OGo p e below A0 T1 (mkF m 5 #[rv a1, iv 1, iv p2, iv 1, .unset, .unset] [(.int 0)]) := fun t k => K t (st1.trans k)
  replace K : OGo p e below A0 T1 (mkF m 7 #[rv a1, iv 1, iv p2, iv 1, iv 0, .unset] []) := fun t k => K t (XS.istore X1.here hx rfl (hb hby d5_5) rfl (l' := #[rv a1, iv 1, iv p2, iv 1, iv 0, .unset]) rfl k)
  replace K : OGo p e below A0 T1 (mkF m 8 #[rv a1, iv 1, iv p2, iv 1, iv 0, .unset] [(.ref a1)]) := fun t k => K t (XS.aloadN X1.here hx rfl (hb hby d5_7) rfl rfl k)
  replace K : OGo p e below A0 T1 (mkF m 9 #[rv a1, iv 1, iv p2, iv 1, iv 0, .unset] [(.int p2), (.ref a1)]) := fun t k => K t (XS.iloadN X1.here hx rfl (hb hby d5_8) rfl k)
  obtain ⟨cq2, kq2, qv2a, qv2b, qv2c⟩ := isOf hZ e1 E_a1
  obtain ⟨_, _, ⟨T2, L2, k2, n2⟩, -, X2, ⟨Lc2, hQ2, l2, y2, z2⟩, st2⟩ := X1.virtualBack hx (y := mN4) (z := mN4) hown (mvT hZ (ow hw 41 rfl)) (mvT hZ (ow hw 42 rfl)) (notFace_of_selects (args := #[]) (mvT hZ (ow hw 44 rfl))) (mvT hZ (ow hw 44 rfl)) (mvT hZ (ow hw 43 rfl)) (by decide) (backOf (W := 0) (rm_chooseR01 l Z a0 hw [] a1 p2 ta ca kt kc (1 : Int32) (0 : Int32) p2 (0 : Int32) (2 : Int32) (0 : Int32) h0 n0 Z0 E_a1 F_taken_a1 F_counts_a1 F_met_a1 F_repeated_a1 F_branches_a1 F_computed_a1 V_ta V_ca g_a1 g_ta g_ca ne_a1_ta ne_a1_ca ne_ta_ca (fun z => by have q := hnb; rw [z] at q; have : (1 : Int32).toInt = 1 := (by decide); omega)) hZ (ow hw 45 rfl) (ow hw 7 rfl) (by decide) (by decide)) qv2a qv2c (g := (mkF m 9 #[rv a1, iv 1, iv p2, iv 1, iv 0, .unset] [(.int p2), (.ref a1)])) rfl (by rw [hml]; rfl) (Steps.refl _) (argsL := [(.int p2)]) (rest := []) (lenOf pd__I_I rfl) rfl (by show 2 * 0 + _ ≤ _; exact Nat.le_of_eq rfl) (hb hby d5_9) (fun _ _ => ⟨rfl, e1, (by decide : 0 + 0 ≤ _), (by decide : 0 + 0 ≤ _)⟩)
  dsimp only [Pt.U, Pt.locs, Pt.cells, Pt.slots] at X2 l2 y2 z2 st2 hQ2
  subst l2 y2 z2
  obtain ⟨hp2, e2⟩ : ∃ z, T2.heap = z := ⟨_, rfl⟩
  rw [e2] at hQ2
  obtain ⟨rfl, Nq2, K2, P2_0, P2_1, P2_2, P2_3, P2_4, P2_5, P2_6, P2_7, P2_8⟩ := hQ2
  have Z2 : n0 ≤ hp2.size := Nat.le_trans Z0 K2.1
  have Kp2 : Keep h0 hp2 [a1, ta, ca] := (Keep.refl h0 [a1, ta, ca]).trans K2 (allS (Or.inl (List.mem_of_getElem? (i := 0) rfl)) (allS (Or.inl (List.mem_of_getElem? (i := 1) rfl)) (allS (Or.inl (List.mem_of_getElem? (i := 2) rfl)) all0)))
  have N2 := Fr.app N1 Nq2
  replace K : OGo p e below A0 T2 (mkF m 12 #[rv a1, iv 1, iv p2, iv 1, iv 0, .unset] [(.int 1)]) := fun t k => K t (st2.trans k)
  replace K : OGo p e below A0 T2 (mkF m 14 #[rv a1, iv 1, iv p2, iv 1, iv 0, iv 1] []) := fun t k => K t (XS.istore X2.here hx rfl (hb hby d5_12) rfl (l' := #[rv a1, iv 1, iv p2, iv 1, iv 0, iv 1]) rfl k)
  replace K : OGo p e below A0 T2 (mkF m 16 #[rv a1, iv 1, iv p2, iv 1, iv 0, iv 1] [(.int 0)]) := fun t k => K t (XS.iload X2.here hx rfl (hb hby d5_14) rfl k)
  replace K : OGo p e below A0 T2 (mkF m 17 #[rv a1, iv 1, iv p2, iv 1, iv 0, iv 1] [(.int 1), (.int 0)]) := fun t k => K t (XS.iloadN X2.here hx rfl (hb hby d5_16) rfl k)
  replace K : OGo p e below A0 T2 (mkF m 18 #[rv a1, iv 1, iv p2, iv 1, iv 0, iv 1] [(.int p2), (.int 1), (.int 0)]) := fun t k => K t (XS.iloadN X2.here hx rfl (hb hby d5_17) rfl k)
  replace K : OGo p e below A0 T2 (mkF m 19 #[rv a1, iv 1, iv p2, iv 1, iv 0, iv 1] [(.int ((1 : Int32) / p2)), (.int 0)]) := fun t k => K t (XS.idiv X2.here hx rfl (hb hby d5_18) rfl (own_nz hnb (by decide)) k)
  replace K : OGo p e below A0 T2 (mkF m 22 #[rv a1, iv 1, iv p2, iv 1, iv 0, iv 1] []) := fun t k => K t (XS.icmpNo X2.here hx rfl (hb hby d5_19) rfl (teq ((own_div (k := (1 : Int32)) (b := p2) (by decide) (by have : ((1 : Int32) : Int32).toInt = 1 := (by decide); omega)).1 : (0 : Int32) = ((1 : Int32) / p2))).2 k)
  replace K : OGo p e below A0 T2 (mkF m 24 #[rv a1, iv 1, iv p2, iv 1, iv 0, iv 1] [(.int 1)]) := fun t k => K t (XS.iload X2.here hx rfl (hb hby d5_22) rfl k)
  replace K : OGo p e below A0 T2 (mkF m 25 #[rv a1, iv 1, iv p2, iv 1, iv 0, iv 1] [(.int 1), (.int 1)]) := fun t k => K t (XS.iloadN X2.here hx rfl (hb hby d5_24) rfl k)
  replace K : OGo p e below A0 T2 (mkF m 26 #[rv a1, iv 1, iv p2, iv 1, iv 0, iv 1] [(.int p2), (.int 1), (.int 1)]) := fun t k => K t (XS.iloadN X2.here hx rfl (hb hby d5_25) rfl k)
  replace K : OGo p e below A0 T2 (mkF m 27 #[rv a1, iv 1, iv p2, iv 1, iv 0, iv 1] [(.int ((1 : Int32) % p2)), (.int 1)]) := fun t k => K t (iremM X2 hx rfl (hb hby d5_26) rfl (own_nz hnb (by decide)) k)
  replace K : OGo p e below A0 T2 (mkF m 30 #[rv a1, iv 1, iv p2, iv 1, iv 0, iv 1] []) := fun t k => K t (XS.icmpNo X2.here hx rfl (hb hby d5_27) rfl (teq ((own_div (k := (1 : Int32)) (b := p2) (by decide) (by have : ((1 : Int32) : Int32).toInt = 1 := (by decide); omega)).2 : (1 : Int32) = ((1 : Int32) % p2))).2 k)
  replace K : OGo p e below A0 T2 (mkF m 31 #[rv a1, iv 1, iv p2, iv 1, iv 0, iv 1] [(.int 1)]) := fun t k => K t (XS.iconst X2.here hx rfl (hb hby d5_30) k)
  replace K : OGo p e below A0 T2 (mkF m 35 #[rv a1, iv 1, iv p2, iv 1, iv 0, iv 1] [(.int 1)]) := fun t k => K t (XS.goto X2.here hx rfl (pc0 := 31) (pc' := 35) rfl (hb hby d5_31) (by decide) (by decide) k)
  obtain ⟨fs, hr, hrun, hended, hW, hsame⟩ := X2.leave (v := some (.int (1 : Int32))) (fun h => by rw [Bd.returns] at h; cases h)
  subst hA0
  refine ⟨_, _, K _ (retN X2 hx (t := .boolean) Bd.returns (by simp) (hb hby d5_35) hr), hrun, hended, _, _, rfl, ?_, ⟨_, rfl⟩, hW, hsame.mono (by decide) (by decide)⟩
  show Q_bok_s13_1 Z a1 p2 ta ca kt kc h0 n0 _ T2.heap _
  rw [e2]
  exact ⟨rfl, N2, Kp2, P2_0, P2_1, P2_2, P2_3, P2_4, P2_5, P2_6, P2_7, P2_8⟩
def Q_nx_C_var3 (Z : State) (a1 : Addr) (ta : Addr) (ca : Addr) (kt : ClassId) (kc : ClassId) (c0 : Int32) (h0 : Heap) (n0 : Nat) (v : Option Value) (h : Heap) (L : List Loc) : Prop := v = some (.int (1 : Int32)) ∧ Fr n0 L ∧ Keep h0 h [a1, ta, ca] ∧ Exa Z h a1 cN0 ∧ Fld Z h a1 cN0 "taken" "[I" (.ref ta) ∧ Fld Z h a1 cN0 "counts" "[I" (.ref ca) ∧ Fld Z h a1 cN0 "met" "I" (.int (0 : Int32)) ∧ Fld Z h a1 cN0 "repeated" "I" (.int (1 : Int32)) ∧ Fld Z h a1 cN0 "branches" "I" (.int (3 : Int32)) ∧ Fld Z h a1 cN0 "computed" "I" (.int (0 : Int32)) ∧ OAr Z h ta kt .int (oA8 (2 : Int32) (0 : Int32)) ∧ OAr Z h ca kc .int (oA8 c0 (0 : Int32))
set_option maxRecDepth 65536 in
set_option maxHeartbeats 40000000 in
theorem rm_nx_C_var3 (l : Launch) (Z : State) (a0 : Array Value) (hw : ∀ d ∈ tables_1, d.before a0 Z = true) (ws : List Jvm.Cond) (a1 : Addr) (ta : Addr) (ca : Addr) (kt : ClassId) (kc : ClassId) (c0 : Int32) (h0 : Heap) (n0 : Nat) (Z0 : n0 ≤ h0.size) (E_a1 : Exa Z h0 a1 cN0) (F_taken_a1 : Fld Z h0 a1 cN0 "taken" "[I" (.ref ta)) (F_counts_a1 : Fld Z h0 a1 cN0 "counts" "[I" (.ref ca)) (F_met_a1 : Fld Z h0 a1 cN0 "met" "I" (.int (1 : Int32))) (F_repeated_a1 : Fld Z h0 a1 cN0 "repeated" "I" (.int (1 : Int32))) (F_branches_a1 : Fld Z h0 a1 cN0 "branches" "I" (.int (2 : Int32))) (F_computed_a1 : Fld Z h0 a1 cN0 "computed" "I" (.int (0 : Int32))) (V_ta : OAr Z h0 ta kt .int (oA8 (1 : Int32) (0 : Int32))) (V_ca : OAr Z h0 ca kc .int (oA8 c0 (0 : Int32))) (g_a1 : n0 ≤ a1) (g_ta : n0 ≤ ta) (g_ca : n0 ≤ ca) (ne_a1_ta : a1 ≠ ta) (ne_a1_ca : a1 ≠ ca) (ne_ta_ca : ta ≠ ca) (hc : 3 ≤ c0.toInt) :
    MetFree l mN7 (head1 (Jvm.Cond.code mN7 prog_72_method_6_code 3 (some .boolean) :: ws) ({ frames := 0, cells := 0, slots := 0, locals := 0 } : Room)) (fun a U => a = #[(.ref a1)] ∧ Z.Warmed39 U.vm ∧ U.heap = h0) (fun _ _ _ _ _ => True) (fun _ U o U' => ∃ v L, o = .returned v ∧ Q_nx_C_var3 Z a1 ta ca kt kc c0 h0 n0 v U'.heap L ∧ FrameEnd U o U' L ({ frames := 0, cells := 0, slots := 0, locals := 0 } : Room).cells ({ frames := 0, cells := 0, slots := 0, locals := 0 } : Room).slots) := by
  refine MetFree.of_bodySF (plainFor_of_name pn_com_example_flote_flote_program_Choices) hisR ?_
  intro p e s m args below meth c s₁ Bd hml0 hP hK
  obtain ⟨rfl, hZ, hh⟩ := hP
  have hx := Bd.exec
  have hby := Bd.bytes
  have hml : c.maxLocals = 3 := hml0
  have hown : s.vm.findClass "com/example/flote/flote/program/Choices" = some m.cls := findClass_of_methodNamed Bd.named
  have hnm := (name_of_methodNamed Bd.named Bd.method).1
  have X0 : Stand p l e ({ frames := 0, cells := 0, slots := 0, locals := 0 } : Room) s m #[(.ref a1)] below meth c s₁ [] 0 0 := Stand.of_body Bd
  have e0 : s₁.heap = h0 := by rw [← hh, Bd.state]; rfl
  have N0 := Fr.nil n0
  obtain ⟨A0, hA0⟩ : ∃ z, z = s₁.setTop (entryFrame m #[(.ref a1)] 3) := ⟨_, rfl⟩
  have K : OGo p e below A0 s₁ (mkF m 0 #[rv a1, .unset, .unset] []) := fun t k => hA0 ▸ castTop (ef_7 m a1) k
  replace K : OGo p e below A0 s₁ (mkF m 1 #[rv a1, .unset, .unset] [(.ref a1)]) := fun t k => K t (XS.aloadN X0.here hx rfl (hb hby d7_0) rfl rfl k)
  obtain ⟨T1, X1, e1, st1⟩ := getF X0 hx hZ hown (host := "") (Or.inl (ow hw 30 rfl)) Via.refl e0 F_met_a1 (g := (mkF m 1 #[rv a1, .unset, .unset] [(.ref a1)])) rfl rfl (hb hby d7_1)
  replace K : OGo p e below A0 T1 (mkF m 4 #[rv a1, .unset, .unset] [(.int 1)]) := fun t k => K t (st1 t k)
  replace K : OGo p e below A0 T1 (mkF m 5 #[rv a1, .unset, .unset] [(.int 1), (.int 1)]) := fun t k => K t (XS.iconst X1.here hx rfl (hb hby d7_4) k)
  replace K : OGo p e below A0 T1 (mkF m 6 #[rv a1, .unset, .unset] [(.int 0)]) := fun t k => K t (XS.isub X1.here hx rfl (hb hby d7_5) rfl k)
  replace K : OGo p e below A0 T1 (mkF m 7 #[rv a1, iv 0, .unset] []) := fun t k => K t (XS.istoreN X1.here hx rfl (hb hby d7_6) rfl (l' := #[rv a1, iv 0, .unset]) rfl k)
  replace K : OGo p e below A0 T1 (mkF m 8 #[rv a1, iv 0, .unset] [(.int 0)]) := fun t k => K t (XS.iloadN X1.here hx rfl (hb hby d7_7) rfl k)
  replace K : OGo p e below A0 T1 (mkF m 11 #[rv a1, iv 0, .unset] []) := fun t k => K t (XS.ifNo X1.here hx rfl (hb hby d7_8) rfl ((if0 _ _).trans (flt ((by decide : ¬ ((0 : Int32) < (0 : Int32))) : ¬ ((0 : Int32) < (0 : Int32)))).1) k)
  replace K : OGo p e below A0 T1 (mkF m 12 #[rv a1, iv 0, .unset] [(.ref a1)]) := fun t k => K t (XS.aloadN X1.here hx rfl (hb hby d7_11) rfl rfl k)
  obtain ⟨T2, X2, e2, st2⟩ := getF X1 hx hZ hown (host := "") (Or.inl (ow hw 15 rfl)) Via.refl e1 F_taken_a1 (g := (mkF m 12 #[rv a1, iv 0, .unset] [(.ref a1)])) rfl rfl (hb hby d7_12)
  replace K : OGo p e below A0 T2 (mkF m 15 #[rv a1, iv 0, .unset] [(.ref ta)]) := fun t k => K t (st2 t k)
  replace K : OGo p e below A0 T2 (mkF m 16 #[rv a1, iv 0, .unset] [(.int 0), (.ref ta)]) := fun t k => K t (XS.iloadN X2.here hx rfl (hb hby d7_15) rfl k)
  replace K : OGo p e below A0 T2 (mkF m 17 #[rv a1, iv 0, .unset] [(.int 1)]) := fun t k => K t (own_ldI X2 hx hZ e2 V_ta (j := (0 : Int32)) (v := (.int (1 : Int32))) (by decide) rfl (g := (mkF m 16 #[rv a1, iv 0, .unset] [(.int 0), (.ref ta)])) rfl rfl (hb hby d7_16) t k)
  replace K : OGo p e below A0 T2 (mkF m 18 #[rv a1, iv 0, .unset] [(.ref a1), (.int 1)]) := fun t k => K t (XS.aloadN X2.here hx rfl (hb hby d7_17) rfl rfl k)
  obtain ⟨T3, X3, e3, st3⟩ := getF X2 hx hZ hown (host := "") (Or.inl (ow hw 17 rfl)) Via.refl e2 F_counts_a1 (g := (mkF m 18 #[rv a1, iv 0, .unset] [(.ref a1), (.int 1)])) rfl rfl (hb hby d7_18)
  replace K : OGo p e below A0 T3 (mkF m 21 #[rv a1, iv 0, .unset] [(.ref ca), (.int 1)]) := fun t k => K t (st3 t k)
  replace K : OGo p e below A0 T3 (mkF m 22 #[rv a1, iv 0, .unset] [(.int 0), (.ref ca), (.int 1)]) := fun t k => K t (XS.iloadN X3.here hx rfl (hb hby d7_21) rfl k)
  replace K : OGo p e below A0 T3 (mkF m 23 #[rv a1, iv 0, .unset] [(.int c0), (.int 1)]) := fun t k => K t (own_ldI X3 hx hZ e3 V_ca (j := (0 : Int32)) (v := (.int c0)) (by decide) rfl (g := (mkF m 22 #[rv a1, iv 0, .unset] [(.int 0), (.ref ca), (.int 1)])) rfl rfl (hb hby d7_22) t k)
  replace K : OGo p e below A0 T3 (mkF m 24 #[rv a1, iv 0, .unset] [(.int 1), (.int c0), (.int 1)]) := fun t k => K t (XS.iconst X3.here hx rfl (hb hby d7_23) k)
  replace K : OGo p e below A0 T3 (mkF m 25 #[rv a1, iv 0, .unset] [(.int (c0 - (1 : Int32))), (.int 1)]) := fun t k => K t (XS.isub X3.here hx rfl (hb hby d7_24) rfl k)
  replace K : OGo p e below A0 T3 (mkF m 34 #[rv a1, iv 0, .unset] []) := fun t k => K t (XS.icmpYes X3.here hx rfl (pc0 := 25) (pc' := 34) rfl (hb hby d7_25) rfl (feq ((own_nsub (t := (1 : Int32)) (k := 1) (by decide) (by omega) (by decide)) : ¬ ((1 : Int32) = (c0 - (1 : Int32))))).2 (by decide) (by decide) k)
  replace K : OGo p e below A0 T3 (mkF m 35 #[rv a1, iv 0, .unset] [(.int 0)]) := fun t k => K t (XS.iloadN X3.here hx rfl (hb hby d7_34) rfl k)
  replace K : OGo p e below A0 T3 (mkF m 38 #[rv a1, iv 0, .unset] []) := fun t k => K t (XS.ifNo X3.here hx rfl (hb hby d7_35) rfl ((if0 _ _).trans (flt ((by decide : ¬ ((0 : Int32) < (0 : Int32))) : ¬ ((0 : Int32) < (0 : Int32)))).1) k)
  replace K : OGo p e below A0 T3 (mkF m 39 #[rv a1, iv 0, .unset] [(.int 1)]) := fun t k => K t (XS.iconst X3.here hx rfl (hb hby d7_38) k)
  replace K : OGo p e below A0 T3 (mkF m 43 #[rv a1, iv 0, .unset] [(.int 1)]) := fun t k => K t (XS.goto X3.here hx rfl (pc0 := 39) (pc' := 43) rfl (hb hby d7_39) (by decide) (by decide) k)
  replace K : OGo p e below A0 T3 (mkF m 44 #[rv a1, iv 0, iv 1] []) := fun t k => K t (XS.istoreN X3.here hx rfl (hb hby d7_43) rfl (l' := #[rv a1, iv 0, iv 1]) rfl k)
  replace K : OGo p e below A0 T3 (mkF m 45 #[rv a1, iv 0, iv 1] [(.int 1)]) := fun t k => K t (XS.iloadN X3.here hx rfl (hb hby d7_44) rfl k)
  replace K : OGo p e below A0 T3 (mkF m 48 #[rv a1, iv 0, iv 1] []) := fun t k => K t (XS.ifNo X3.here hx rfl (hb hby d7_45) rfl ((if0 _ _).trans (feq ((by decide : ¬ ((1 : Int32) = (0 : Int32))) : ¬ ((1 : Int32) = (0 : Int32)))).1) k)
  replace K : OGo p e below A0 T3 (mkF m 49 #[rv a1, iv 0, iv 1] [(.ref a1)]) := fun t k => K t (XS.aloadN X3.here hx rfl (hb hby d7_48) rfl rfl k)
  obtain ⟨T4, X4, e4, st4⟩ := getF X3 hx hZ hown (host := "") (Or.inl (ow hw 15 rfl)) Via.refl e3 F_taken_a1 (g := (mkF m 49 #[rv a1, iv 0, iv 1] [(.ref a1)])) rfl rfl (hb hby d7_49)
  replace K : OGo p e below A0 T4 (mkF m 52 #[rv a1, iv 0, iv 1] [(.ref ta)]) := fun t k => K t (st4 t k)
  replace K : OGo p e below A0 T4 (mkF m 53 #[rv a1, iv 0, iv 1] [(.int 0), (.ref ta)]) := fun t k => K t (XS.iloadN X4.here hx rfl (hb hby d7_52) rfl k)
  replace K : OGo p e below A0 T4 (mkF m 54 #[rv a1, iv 0, iv 1] [(.int 0), (.ref ta), (.int 0), (.ref ta)]) := fun t k => K t (Jvm.Free.XT.dup2 X4.here hx rfl (hb hby d7_53) rfl rfl rfl k)
  replace K : OGo p e below A0 T4 (mkF m 55 #[rv a1, iv 0, iv 1] [(.int 1), (.int 0), (.ref ta)]) := fun t k => K t (own_ldI X4 hx hZ e4 V_ta (j := (0 : Int32)) (v := (.int (1 : Int32))) (by decide) rfl (g := (mkF m 54 #[rv a1, iv 0, iv 1] [(.int 0), (.ref ta), (.int 0), (.ref ta)])) rfl rfl (hb hby d7_54) t k)
  replace K : OGo p e below A0 T4 (mkF m 56 #[rv a1, iv 0, iv 1] [(.int 1), (.int 1), (.int 0), (.ref ta)]) := fun t k => K t (XS.iconst X4.here hx rfl (hb hby d7_55) k)
  replace K : OGo p e below A0 T4 (mkF m 57 #[rv a1, iv 0, iv 1] [(.int 2), (.int 0), (.ref ta)]) := fun t k => K t (XS.iadd X4.here hx rfl (hb hby d7_56) rfl k)
  obtain ⟨T5, h5, X5, e5, W5, V5, st5⟩ := own_stI X4 hx hZ e4 V_ta (j := (0 : Int32)) (by decide) (Nat.le_of_ble_eq_true rfl) (g := (mkF m 57 #[rv a1, iv 0, iv 1] [(.int 2), (.int 0), (.ref ta)])) rfl rfl (hb hby d7_57)
  have Z5 : n0 ≤ h5.size := Nat.le_trans Z0 (Keep.of_wr W5).1
  have Kp5 : Keep h0 h5 [a1, ta, ca] := (Keep.refl h0 [a1, ta, ca]).wr W5 (Or.inl (List.mem_of_getElem? (i := 1) rfl))
  have V_ta_5 : OAr Z h5 ta kt .int (oA8 (2 : Int32) (0 : Int32)) := V5
  have N5 := Fr.snoc X5 N0 g_ta
  replace K : OGo p e below A0 T5 (mkF m 58 #[rv a1, iv 0, iv 1] []) := fun t k => K t (st5 t k)
  replace K : OGo p e below A0 T5 (mkF m 59 #[rv a1, iv 0, iv 1] [(.ref a1)]) := fun t k => K t (XS.aloadN X5.here hx rfl (hb hby d7_58) rfl rfl k)
  replace K : OGo p e below A0 T5 (mkF m 60 #[rv a1, iv 0, iv 1] [(.int 0), (.ref a1)]) := fun t k => K t (XS.iloadN X5.here hx rfl (hb hby d7_59) rfl k)
  replace K : OGo p e below A0 T5 (mkF m 61 #[rv a1, iv 0, iv 1] [(.int 1), (.int 0), (.ref a1)]) := fun t k => K t (XS.iconst X5.here hx rfl (hb hby d7_60) k)
  replace K : OGo p e below A0 T5 (mkF m 62 #[rv a1, iv 0, iv 1] [(.int 1), (.ref a1)]) := fun t k => K t (XS.iadd X5.here hx rfl (hb hby d7_61) rfl k)
  have F_repeated_a1_6 := (F_repeated_a1.other W5 (Or.inl ne_a1_ta))
  have E_a1_7 := (E_a1.wr W5)
  obtain ⟨T8, h8, X8, e8, W8, st8⟩ := putF X5 hx hZ hown (host := "") (Or.inl (ow hw 32 rfl)) Via.refl e5 F_repeated_a1_6 E_a1_7 (Or.inl (ow hw 33 rfl)) (ow hw 6 rfl) (ty := .int) (by decide) rfl rfl (g := (mkF m 62 #[rv a1, iv 0, iv 1] [(.int 1), (.ref a1)])) rfl rfl (hb hby d7_62)
  have Z8 : n0 ≤ h8.size := Nat.le_trans Z5 (Keep.of_wr W8).1
  have Kp8 : Keep h0 h8 [a1, ta, ca] := Kp5.wr W8 (Or.inl (List.mem_of_getElem? (i := 0) rfl))
  have F_repeated_a1_8 := F_repeated_a1_6.same W8
  have N8 := Fr.snoc X8 N5 g_a1
  replace K : OGo p e below A0 T8 (mkF m 65 #[rv a1, iv 0, iv 1] []) := fun t k => K t (st8 t k)
  replace K : OGo p e below A0 T8 (mkF m 66 #[rv a1, iv 0, iv 1] [(.ref a1)]) := fun t k => K t (XS.aloadN X8.here hx rfl (hb hby d7_65) rfl rfl k)
  replace K : OGo p e below A0 T8 (mkF m 67 #[rv a1, iv 0, iv 1] [(.int 0), (.ref a1)]) := fun t k => K t (XS.iconst X8.here hx rfl (hb hby d7_66) k)
  have F_met_a1_9 := ((F_met_a1.other W5 (Or.inl ne_a1_ta)).other W8 (Or.inr (sn_cN0_met_repeated hw)))
  have E_a1_10 := (E_a1_7.wr W8)
  obtain ⟨T11, h11, X11, e11, W11, st11⟩ := putF X8 hx hZ hown (host := "") (Or.inl (ow hw 30 rfl)) Via.refl e8 F_met_a1_9 E_a1_10 (Or.inl (ow hw 31 rfl)) (ow hw 6 rfl) (ty := .int) (by decide) rfl rfl (g := (mkF m 67 #[rv a1, iv 0, iv 1] [(.int 0), (.ref a1)])) rfl rfl (hb hby d7_67)
  have Z11 : n0 ≤ h11.size := Nat.le_trans Z8 (Keep.of_wr W11).1
  have Kp11 : Keep h0 h11 [a1, ta, ca] := Kp8.wr W11 (Or.inl (List.mem_of_getElem? (i := 0) rfl))
  have F_met_a1_11 := F_met_a1_9.same W11
  have N11 := Fr.snoc X11 N8 g_a1
  replace K : OGo p e below A0 T11 (mkF m 70 #[rv a1, iv 0, iv 1] []) := fun t k => K t (st11 t k)
  replace K : OGo p e below A0 T11 (mkF m 71 #[rv a1, iv 0, iv 1] [(.ref a1)]) := fun t k => K t (XS.aloadN X11.here hx rfl (hb hby d7_70) rfl rfl k)
  replace K : OGo p e below A0 T11 (mkF m 72 #[rv a1, iv 0, iv 1] [(.ref a1), (.ref a1)]) := fun t k => K t (XS.dup X11.here hx rfl (hb hby d7_71) rfl rfl k)
  have F_branches_a1_12 := (((F_branches_a1.other W5 (Or.inl ne_a1_ta)).other W8 (Or.inr (sn_cN0_branches_repeated hw))).other W11 (Or.inr (sn_cN0_branches_met hw)))
  obtain ⟨T13, X13, e13, st13⟩ := getF X11 hx hZ hown (host := "") (Or.inl (ow hw 34 rfl)) Via.refl e11 F_branches_a1_12 (g := (mkF m 72 #[rv a1, iv 0, iv 1] [(.ref a1), (.ref a1)])) rfl rfl (hb hby d7_72)
  replace K : OGo p e below A0 T13 (mkF m 75 #[rv a1, iv 0, iv 1] [(.int 2), (.ref a1)]) := fun t k => K t (st13 t k)
  replace K : OGo p e below A0 T13 (mkF m 76 #[rv a1, iv 0, iv 1] [(.int 1), (.int 2), (.ref a1)]) := fun t k => K t (XS.iconst X13.here hx rfl (hb hby d7_75) k)
  replace K : OGo p e below A0 T13 (mkF m 77 #[rv a1, iv 0, iv 1] [(.int 3), (.ref a1)]) := fun t k => K t (XS.iadd X13.here hx rfl (hb hby d7_76) rfl k)
  have E_a1_14 := (E_a1_10.wr W11)
  obtain ⟨T15, h15, X15, e15, W15, st15⟩ := putF X13 hx hZ hown (host := "") (Or.inl (ow hw 34 rfl)) Via.refl e13 F_branches_a1_12 E_a1_14 (Or.inl (ow hw 35 rfl)) (ow hw 6 rfl) (ty := .int) (by decide) rfl rfl (g := (mkF m 77 #[rv a1, iv 0, iv 1] [(.int 3), (.ref a1)])) rfl rfl (hb hby d7_77)
  have Z15 : n0 ≤ h15.size := Nat.le_trans Z11 (Keep.of_wr W15).1
  have Kp15 : Keep h0 h15 [a1, ta, ca] := Kp11.wr W15 (Or.inl (List.mem_of_getElem? (i := 0) rfl))
  have F_branches_a1_15 := F_branches_a1_12.same W15
  have N15 := Fr.snoc X15 N11 g_a1
  replace K : OGo p e below A0 T15 (mkF m 80 #[rv a1, iv 0, iv 1] []) := fun t k => K t (st15 t k)
  replace K : OGo p e below A0 T15 (mkF m 81 #[rv a1, iv 0, iv 1] [(.ref a1)]) := fun t k => K t (XS.aloadN X15.here hx rfl (hb hby d7_80) rfl rfl k)
  replace K : OGo p e below A0 T15 (mkF m 82 #[rv a1, iv 0, iv 1] [(.int 0), (.ref a1)]) := fun t k => K t (XS.iconst X15.here hx rfl (hb hby d7_81) k)
  have F_computed_a1_16 := ((((F_computed_a1.other W5 (Or.inl ne_a1_ta)).other W8 (Or.inr (sn_cN0_computed_repeated hw))).other W11 (Or.inr (sn_cN0_computed_met hw))).other W15 (Or.inr (sn_cN0_computed_branches hw)))
  have E_a1_17 := (E_a1_14.wr W15)
  obtain ⟨T18, h18, X18, e18, W18, st18⟩ := putF X15 hx hZ hown (host := "") (Or.inl (ow hw 36 rfl)) Via.refl e15 F_computed_a1_16 E_a1_17 (Or.inl (ow hw 37 rfl)) (ow hw 6 rfl) (ty := .int) (by decide) rfl rfl (g := (mkF m 82 #[rv a1, iv 0, iv 1] [(.int 0), (.ref a1)])) rfl rfl (hb hby d7_82)
  have Z18 : n0 ≤ h18.size := Nat.le_trans Z15 (Keep.of_wr W18).1
  have Kp18 : Keep h0 h18 [a1, ta, ca] := Kp15.wr W18 (Or.inl (List.mem_of_getElem? (i := 0) rfl))
  have F_computed_a1_18 := F_computed_a1_16.same W18
  have N18 := Fr.snoc X18 N15 g_a1
  replace K : OGo p e below A0 T18 (mkF m 85 #[rv a1, iv 0, iv 1] []) := fun t k => K t (st18 t k)
  replace K : OGo p e below A0 T18 (mkF m 86 #[rv a1, iv 0, iv 1] [(.int 1)]) := fun t k => K t (XS.iloadN X18.here hx rfl (hb hby d7_85) rfl k)
  have E_a1_19 := (E_a1_17.wr W18)
  have F_taken_a1_20 := (((((F_taken_a1.other W5 (Or.inl ne_a1_ta)).other W8 (Or.inr (sn_cN0_taken_repeated hw))).other W11 (Or.inr (sn_cN0_taken_met hw))).other W15 (Or.inr (sn_cN0_taken_branches hw))).other W18 (Or.inr (sn_cN0_taken_computed hw)))
  have F_counts_a1_21 := (((((F_counts_a1.other W5 (Or.inl ne_a1_ta)).other W8 (Or.inr (sn_cN0_counts_repeated hw))).other W11 (Or.inr (sn_cN0_counts_met hw))).other W15 (Or.inr (sn_cN0_counts_branches hw))).other W18 (Or.inr (sn_cN0_counts_computed hw)))
  have F_met_a1_22 := ((F_met_a1_11.other W15 (Or.inr (sn_cN0_met_branches hw))).other W18 (Or.inr (sn_cN0_met_computed hw)))
  have F_repeated_a1_23 := (((F_repeated_a1_8.other W11 (Or.inr (sn_cN0_repeated_met hw))).other W15 (Or.inr (sn_cN0_repeated_branches hw))).other W18 (Or.inr (sn_cN0_repeated_computed hw)))
  have F_branches_a1_24 := (F_branches_a1_15.other W18 (Or.inr (sn_cN0_branches_computed hw)))
  have V_ta_25 := ((((V_ta_5.other W8 (Ne.symm ne_a1_ta)).other W11 (Ne.symm ne_a1_ta)).other W15 (Ne.symm ne_a1_ta)).other W18 (Ne.symm ne_a1_ta))
  have V_ca_26 := (((((V_ca.other W5 (Ne.symm ne_ta_ca)).other W8 (Ne.symm ne_a1_ca)).other W11 (Ne.symm ne_a1_ca)).other W15 (Ne.symm ne_a1_ca)).other W18 (Ne.symm ne_a1_ca))
  obtain ⟨fs, hr, hrun, hended, hW, hsame⟩ := X18.leave (v := some (.int (1 : Int32))) (fun h => by rw [Bd.returns] at h; cases h)
  subst hA0
  refine ⟨_, _, K _ (retN X18 hx (t := .boolean) Bd.returns (by simp) (hb hby d7_86) hr), hrun, hended, _, _, rfl, ?_, ⟨_, rfl⟩, hW, hsame.mono (by decide) (by decide)⟩
  show Q_nx_C_var3 Z a1 ta ca kt kc c0 h0 n0 _ T18.heap _
  rw [e18]
  exact ⟨rfl, N18, Kp18, E_a1_19, F_taken_a1_20, F_counts_a1_21, F_met_a1_22, F_repeated_a1_23, F_branches_a1_24, F_computed_a1_18, V_ta_25, V_ca_26⟩
def Q_bok_s13_2 (Z : State) (a1 : Addr) (p2 : Int32) (ta : Addr) (ca : Addr) (kt : ClassId) (kc : ClassId) (h0 : Heap) (n0 : Nat) (v : Option Value) (h : Heap) (L : List Loc) : Prop := v = some (.int (1 : Int32)) ∧ Fr n0 L ∧ Keep h0 h [a1, ta, ca] ∧ Exa Z h a1 cN0 ∧ Fld Z h a1 cN0 "taken" "[I" (.ref ta) ∧ Fld Z h a1 cN0 "counts" "[I" (.ref ca) ∧ Fld Z h a1 cN0 "met" "I" (.int (1 : Int32)) ∧ Fld Z h a1 cN0 "repeated" "I" (.int (1 : Int32)) ∧ Fld Z h a1 cN0 "branches" "I" (.int (3 : Int32)) ∧ Fld Z h a1 cN0 "computed" "I" (.int (0 : Int32)) ∧ OAr Z h ta kt .int (oA8 (2 : Int32) (0 : Int32)) ∧ OAr Z h ca kc .int (oA8 p2 (0 : Int32))
set_option maxRecDepth 65536 in
set_option maxHeartbeats 40000000 in
theorem rm_bok_s13_2 (l : Launch) (Z : State) (a0 : Array Value) (hw : ∀ d ∈ tables_1, d.before a0 Z = true) (ws : List Jvm.Cond) (a1 : Addr) (p2 : Int32) (ta : Addr) (ca : Addr) (kt : ClassId) (kc : ClassId) (h0 : Heap) (n0 : Nat) (Z0 : n0 ≤ h0.size) (E_a1 : Exa Z h0 a1 cN0) (F_taken_a1 : Fld Z h0 a1 cN0 "taken" "[I" (.ref ta)) (F_counts_a1 : Fld Z h0 a1 cN0 "counts" "[I" (.ref ca)) (F_met_a1 : Fld Z h0 a1 cN0 "met" "I" (.int (0 : Int32))) (F_repeated_a1 : Fld Z h0 a1 cN0 "repeated" "I" (.int (1 : Int32))) (F_branches_a1 : Fld Z h0 a1 cN0 "branches" "I" (.int (3 : Int32))) (F_computed_a1 : Fld Z h0 a1 cN0 "computed" "I" (.int (0 : Int32))) (V_ta : OAr Z h0 ta kt .int (oA8 (2 : Int32) (0 : Int32))) (V_ca : OAr Z h0 ca kc .int (oA8 p2 (0 : Int32))) (g_a1 : n0 ≤ a1) (g_ta : n0 ≤ ta) (g_ca : n0 ≤ ca) (ne_a1_ta : a1 ≠ ta) (ne_a1_ca : a1 ≠ ca) (ne_ta_ca : ta ≠ ca) (hnb : 3 ≤ p2.toInt) :
    MetFree l mN6 (head1 (Jvm.Cond.code mN6 method_4_code 6 (some .boolean) :: ws) ({ frames := 1, cells := 0, slots := 0, locals := 13 } : Room)) (fun a U => a = #[(.ref a1), (.int (1 : Int32)), (.int p2), (.int (2 : Int32))] ∧ Z.Warmed39 U.vm ∧ U.heap = h0) (fun _ _ _ _ _ => True) (fun _ U o U' => ∃ v L, o = .returned v ∧ Q_bok_s13_2 Z a1 p2 ta ca kt kc h0 n0 v U'.heap L ∧ FrameEnd U o U' L ({ frames := 1, cells := 0, slots := 0, locals := 13 } : Room).cells ({ frames := 1, cells := 0, slots := 0, locals := 13 } : Room).slots) := by
  refine MetFree.of_bodySF (plainFor_of_name pn_com_example_flote_flote_program_ChoicesNextPinLaw) hisR ?_
  intro p e s m args below meth c s₁ Bd hml0 hP hK
  obtain ⟨rfl, hZ, hh⟩ := hP
  have hx := Bd.exec
  have hby := Bd.bytes
  have hml : c.maxLocals = 6 := hml0
  have hown : s.vm.findClass "com/example/flote/flote/program/ChoicesNextPinLaw" = some m.cls := findClass_of_methodNamed Bd.named
  have hnm := (name_of_methodNamed Bd.named Bd.method).1
  have X0 : Stand p l e ({ frames := 1, cells := 0, slots := 0, locals := 13 } : Room) s m #[(.ref a1), (.int (1 : Int32)), (.int p2), (.int (2 : Int32))] below meth c s₁ [] 0 0 := Stand.of_body Bd
  have e0 : s₁.heap = h0 := by rw [← hh, Bd.state]; rfl
  have N0 := Fr.nil n0
  obtain ⟨A0, hA0⟩ : ∃ z, z = s₁.setTop (entryFrame m #[(.ref a1), (.int (1 : Int32)), (.int p2), (.int (2 : Int32))] 6) := ⟨_, rfl⟩
  have K : OGo p e below A0 s₁ (mkF m 0 #[rv a1, iv 1, iv p2, iv 2, .unset, .unset] []) := fun t k => hA0 ▸ castTop (ef_5 m a1 (1 : Int32) p2 (2 : Int32)) k
  replace K : OGo p e below A0 s₁ (mkF m 1 #[rv a1, iv 1, iv p2, iv 2, .unset, .unset] [(.ref a1)]) := fun t k => K t (XS.aloadN X0.here hx rfl (hb hby d5_0) rfl rfl k)
  replace K : OGo p e below A0 s₁ (mkF m 2 #[rv a1, iv 1, iv p2, iv 2, .unset, .unset] [(.int 1), (.ref a1)]) := fun t k => K t (XS.iloadN X0.here hx rfl (hb hby d5_1) rfl k)
  obtain ⟨cq1, kq1, qv1a, qv1b, qv1c⟩ := isOf hZ e0 E_a1
  obtain ⟨_, _, ⟨T1, L1, k1, n1⟩, -, X1, ⟨Lc1, hQ1, l1, y1, z1⟩, st1⟩ := X0.virtualBack hx (y := mN4) (z := mN4) hown (mvT hZ (ow hw 41 rfl)) (mvT hZ (ow hw 42 rfl)) (notFace_of_selects (args := #[]) (mvT hZ (ow hw 44 rfl))) (mvT hZ (ow hw 44 rfl)) (mvT hZ (ow hw 43 rfl)) (by decide) (backOf (W := 0) (rm_choose1 l Z a0 hw [] a1 h0 n0 Z0 ) hZ (ow hw 45 rfl) (ow hw 7 rfl) (by decide) (by decide)) qv1a qv1c (g := (mkF m 2 #[rv a1, iv 1, iv p2, iv 2, .unset, .unset] [(.int 1), (.ref a1)])) rfl (by rw [hml]; rfl) (Steps.refl _) (argsL := [(.int (1 : Int32))]) (rest := []) (lenOf pd__I_I rfl) rfl (by show 2 * 0 + _ ≤ _; exact Nat.le_of_eq rfl) (hb hby d5_2) (fun _ _ => ⟨rfl, e0, (by decide : 0 + 0 ≤ _), (by decide : 0 + 0 ≤ _)⟩)
  dsimp only [Pt.U, Pt.locs, Pt.cells, Pt.slots] at X1 l1 y1 z1 st1 hQ1
  subst l1 y1 z1
  obtain ⟨rfl, Nq1, e1⟩ := hQ1
  have N1 := Fr.app N0 Nq1
  replace K : OGo p e below A0 T1 (mkF m 5 #[rv a1, iv 1, iv p2, iv 2, .unset, .unset] [(.int 0)]) := fun t k => K t (st1.trans k)
  replace K : OGo p e below A0 T1 (mkF m 7 #[rv a1, iv 1, iv p2, iv 2, iv 0, .unset] []) := fun t k => K t (XS.istore X1.here hx rfl (hb hby d5_5) rfl (l' := #[rv a1, iv 1, iv p2, iv 2, iv 0, .unset]) rfl k)
  replace K : OGo p e below A0 T1 (mkF m 8 #[rv a1, iv 1, iv p2, iv 2, iv 0, .unset] [(.ref a1)]) := fun t k => K t (XS.aloadN X1.here hx rfl (hb hby d5_7) rfl rfl k)
  replace K : OGo p e below A0 T1 (mkF m 9 #[rv a1, iv 1, iv p2, iv 2, iv 0, .unset] [(.int p2), (.ref a1)]) := fun t k => K t (XS.iloadN X1.here hx rfl (hb hby d5_8) rfl k)
  obtain ⟨cq2, kq2, qv2a, qv2b, qv2c⟩ := isOf hZ e1 E_a1
  obtain ⟨_, _, ⟨T2, L2, k2, n2⟩, -, X2, ⟨Lc2, hQ2, l2, y2, z2⟩, st2⟩ := X1.virtualBack hx (y := mN4) (z := mN4) hown (mvT hZ (ow hw 41 rfl)) (mvT hZ (ow hw 42 rfl)) (notFace_of_selects (args := #[]) (mvT hZ (ow hw 44 rfl))) (mvT hZ (ow hw 44 rfl)) (mvT hZ (ow hw 43 rfl)) (by decide) (backOf (W := 0) (rm_chooseR01 l Z a0 hw [] a1 p2 ta ca kt kc (2 : Int32) (0 : Int32) p2 (0 : Int32) (3 : Int32) (0 : Int32) h0 n0 Z0 E_a1 F_taken_a1 F_counts_a1 F_met_a1 F_repeated_a1 F_branches_a1 F_computed_a1 V_ta V_ca g_a1 g_ta g_ca ne_a1_ta ne_a1_ca ne_ta_ca (fun z => by have q := hnb; rw [z] at q; have : (1 : Int32).toInt = 1 := (by decide); omega)) hZ (ow hw 45 rfl) (ow hw 7 rfl) (by decide) (by decide)) qv2a qv2c (g := (mkF m 9 #[rv a1, iv 1, iv p2, iv 2, iv 0, .unset] [(.int p2), (.ref a1)])) rfl (by rw [hml]; rfl) (Steps.refl _) (argsL := [(.int p2)]) (rest := []) (lenOf pd__I_I rfl) rfl (by show 2 * 0 + _ ≤ _; exact Nat.le_of_eq rfl) (hb hby d5_9) (fun _ _ => ⟨rfl, e1, (by decide : 0 + 0 ≤ _), (by decide : 0 + 0 ≤ _)⟩)
  dsimp only [Pt.U, Pt.locs, Pt.cells, Pt.slots] at X2 l2 y2 z2 st2 hQ2
  subst l2 y2 z2
  obtain ⟨hp2, e2⟩ : ∃ z, T2.heap = z := ⟨_, rfl⟩
  rw [e2] at hQ2
  obtain ⟨rfl, Nq2, K2, P2_0, P2_1, P2_2, P2_3, P2_4, P2_5, P2_6, P2_7, P2_8⟩ := hQ2
  have Z2 : n0 ≤ hp2.size := Nat.le_trans Z0 K2.1
  have Kp2 : Keep h0 hp2 [a1, ta, ca] := (Keep.refl h0 [a1, ta, ca]).trans K2 (allS (Or.inl (List.mem_of_getElem? (i := 0) rfl)) (allS (Or.inl (List.mem_of_getElem? (i := 1) rfl)) (allS (Or.inl (List.mem_of_getElem? (i := 2) rfl)) all0)))
  have N2 := Fr.app N1 Nq2
  replace K : OGo p e below A0 T2 (mkF m 12 #[rv a1, iv 1, iv p2, iv 2, iv 0, .unset] [(.int 2)]) := fun t k => K t (st2.trans k)
  replace K : OGo p e below A0 T2 (mkF m 14 #[rv a1, iv 1, iv p2, iv 2, iv 0, iv 2] []) := fun t k => K t (XS.istore X2.here hx rfl (hb hby d5_12) rfl (l' := #[rv a1, iv 1, iv p2, iv 2, iv 0, iv 2]) rfl k)
  replace K : OGo p e below A0 T2 (mkF m 16 #[rv a1, iv 1, iv p2, iv 2, iv 0, iv 2] [(.int 0)]) := fun t k => K t (XS.iload X2.here hx rfl (hb hby d5_14) rfl k)
  replace K : OGo p e below A0 T2 (mkF m 17 #[rv a1, iv 1, iv p2, iv 2, iv 0, iv 2] [(.int 2), (.int 0)]) := fun t k => K t (XS.iloadN X2.here hx rfl (hb hby d5_16) rfl k)
  replace K : OGo p e below A0 T2 (mkF m 18 #[rv a1, iv 1, iv p2, iv 2, iv 0, iv 2] [(.int p2), (.int 2), (.int 0)]) := fun t k => K t (XS.iloadN X2.here hx rfl (hb hby d5_17) rfl k)
  replace K : OGo p e below A0 T2 (mkF m 19 #[rv a1, iv 1, iv p2, iv 2, iv 0, iv 2] [(.int ((2 : Int32) / p2)), (.int 0)]) := fun t k => K t (XS.idiv X2.here hx rfl (hb hby d5_18) rfl (own_nz hnb (by decide)) k)
  replace K : OGo p e below A0 T2 (mkF m 22 #[rv a1, iv 1, iv p2, iv 2, iv 0, iv 2] []) := fun t k => K t (XS.icmpNo X2.here hx rfl (hb hby d5_19) rfl (teq ((own_div (k := (2 : Int32)) (b := p2) (by decide) (by have : ((2 : Int32) : Int32).toInt = 2 := (by decide); omega)).1 : (0 : Int32) = ((2 : Int32) / p2))).2 k)
  replace K : OGo p e below A0 T2 (mkF m 24 #[rv a1, iv 1, iv p2, iv 2, iv 0, iv 2] [(.int 2)]) := fun t k => K t (XS.iload X2.here hx rfl (hb hby d5_22) rfl k)
  replace K : OGo p e below A0 T2 (mkF m 25 #[rv a1, iv 1, iv p2, iv 2, iv 0, iv 2] [(.int 2), (.int 2)]) := fun t k => K t (XS.iloadN X2.here hx rfl (hb hby d5_24) rfl k)
  replace K : OGo p e below A0 T2 (mkF m 26 #[rv a1, iv 1, iv p2, iv 2, iv 0, iv 2] [(.int p2), (.int 2), (.int 2)]) := fun t k => K t (XS.iloadN X2.here hx rfl (hb hby d5_25) rfl k)
  replace K : OGo p e below A0 T2 (mkF m 27 #[rv a1, iv 1, iv p2, iv 2, iv 0, iv 2] [(.int ((2 : Int32) % p2)), (.int 2)]) := fun t k => K t (iremM X2 hx rfl (hb hby d5_26) rfl (own_nz hnb (by decide)) k)
  replace K : OGo p e below A0 T2 (mkF m 30 #[rv a1, iv 1, iv p2, iv 2, iv 0, iv 2] []) := fun t k => K t (XS.icmpNo X2.here hx rfl (hb hby d5_27) rfl (teq ((own_div (k := (2 : Int32)) (b := p2) (by decide) (by have : ((2 : Int32) : Int32).toInt = 2 := (by decide); omega)).2 : (2 : Int32) = ((2 : Int32) % p2))).2 k)
  replace K : OGo p e below A0 T2 (mkF m 31 #[rv a1, iv 1, iv p2, iv 2, iv 0, iv 2] [(.int 1)]) := fun t k => K t (XS.iconst X2.here hx rfl (hb hby d5_30) k)
  replace K : OGo p e below A0 T2 (mkF m 35 #[rv a1, iv 1, iv p2, iv 2, iv 0, iv 2] [(.int 1)]) := fun t k => K t (XS.goto X2.here hx rfl (pc0 := 31) (pc' := 35) rfl (hb hby d5_31) (by decide) (by decide) k)
  obtain ⟨fs, hr, hrun, hended, hW, hsame⟩ := X2.leave (v := some (.int (1 : Int32))) (fun h => by rw [Bd.returns] at h; cases h)
  subst hA0
  refine ⟨_, _, K _ (retN X2 hx (t := .boolean) Bd.returns (by simp) (hb hby d5_35) hr), hrun, hended, _, _, rfl, ?_, ⟨_, rfl⟩, hW, hsame.mono (by decide) (by decide)⟩
  show Q_bok_s13_2 Z a1 p2 ta ca kt kc h0 n0 _ T2.heap _
  rw [e2]
  exact ⟨rfl, N2, Kp2, P2_0, P2_1, P2_2, P2_3, P2_4, P2_5, P2_6, P2_7, P2_8⟩
def Q_bok_s21_0 (Z : State) (a1 : Addr) (ta : Addr) (ca : Addr) (kt : ClassId) (kc : ClassId) (h0 : Heap) (n0 : Nat) (v : Option Value) (h : Heap) (L : List Loc) : Prop := v = some (.int (1 : Int32)) ∧ Fr n0 L ∧ Keep h0 h [a1, ta, ca] ∧ Exa Z h a1 cN0 ∧ Fld Z h a1 cN0 "taken" "[I" (.ref ta) ∧ Fld Z h a1 cN0 "counts" "[I" (.ref ca) ∧ Fld Z h a1 cN0 "met" "I" (.int (1 : Int32)) ∧ Fld Z h a1 cN0 "repeated" "I" (.int (0 : Int32)) ∧ Fld Z h a1 cN0 "branches" "I" (.int (1 : Int32)) ∧ Fld Z h a1 cN0 "computed" "I" (.int (0 : Int32)) ∧ OAr Z h ta kt .int (oA8 (0 : Int32) (0 : Int32)) ∧ OAr Z h ca kc .int (oA8 (2 : Int32) (0 : Int32))
set_option maxRecDepth 65536 in
set_option maxHeartbeats 40000000 in
theorem rm_bok_s21_0 (l : Launch) (Z : State) (a0 : Array Value) (hw : ∀ d ∈ tables_1, d.before a0 Z = true) (ws : List Jvm.Cond) (a1 : Addr) (ta : Addr) (ca : Addr) (kt : ClassId) (kc : ClassId) (h0 : Heap) (n0 : Nat) (Z0 : n0 ≤ h0.size) (E_a1 : Exa Z h0 a1 cN0) (F_taken_a1 : Fld Z h0 a1 cN0 "taken" "[I" (.ref ta)) (F_counts_a1 : Fld Z h0 a1 cN0 "counts" "[I" (.ref ca)) (F_met_a1 : Fld Z h0 a1 cN0 "met" "I" (.int (0 : Int32))) (F_repeated_a1 : Fld Z h0 a1 cN0 "repeated" "I" (.int (0 : Int32))) (F_branches_a1 : Fld Z h0 a1 cN0 "branches" "I" (.int (1 : Int32))) (F_computed_a1 : Fld Z h0 a1 cN0 "computed" "I" (.int (0 : Int32))) (V_ta : OAr Z h0 ta kt .int (oA8 (0 : Int32) (0 : Int32))) (V_ca : OAr Z h0 ca kc .int (oA8 (0 : Int32) (0 : Int32))) (g_a1 : n0 ≤ a1) (g_ta : n0 ≤ ta) (g_ca : n0 ≤ ca) (ne_a1_ta : a1 ≠ ta) (ne_a1_ca : a1 ≠ ca) (ne_ta_ca : ta ≠ ca) :
    MetFree l mN6 (head1 (Jvm.Cond.code mN6 method_4_code 6 (some .boolean) :: ws) ({ frames := 1, cells := 0, slots := 0, locals := 13 } : Room)) (fun a U => a = #[(.ref a1), (.int (2 : Int32)), (.int (1 : Int32)), (.int (0 : Int32))] ∧ Z.Warmed39 U.vm ∧ U.heap = h0) (fun _ _ _ _ _ => True) (fun _ U o U' => ∃ v L, o = .returned v ∧ Q_bok_s21_0 Z a1 ta ca kt kc h0 n0 v U'.heap L ∧ FrameEnd U o U' L ({ frames := 1, cells := 0, slots := 0, locals := 13 } : Room).cells ({ frames := 1, cells := 0, slots := 0, locals := 13 } : Room).slots) := by
  refine MetFree.of_bodySF (plainFor_of_name pn_com_example_flote_flote_program_ChoicesNextPinLaw) hisR ?_
  intro p e s m args below meth c s₁ Bd hml0 hP hK
  obtain ⟨rfl, hZ, hh⟩ := hP
  have hx := Bd.exec
  have hby := Bd.bytes
  have hml : c.maxLocals = 6 := hml0
  have hown : s.vm.findClass "com/example/flote/flote/program/ChoicesNextPinLaw" = some m.cls := findClass_of_methodNamed Bd.named
  have hnm := (name_of_methodNamed Bd.named Bd.method).1
  have X0 : Stand p l e ({ frames := 1, cells := 0, slots := 0, locals := 13 } : Room) s m #[(.ref a1), (.int (2 : Int32)), (.int (1 : Int32)), (.int (0 : Int32))] below meth c s₁ [] 0 0 := Stand.of_body Bd
  have e0 : s₁.heap = h0 := by rw [← hh, Bd.state]; rfl
  have N0 := Fr.nil n0
  obtain ⟨A0, hA0⟩ : ∃ z, z = s₁.setTop (entryFrame m #[(.ref a1), (.int (2 : Int32)), (.int (1 : Int32)), (.int (0 : Int32))] 6) := ⟨_, rfl⟩
  have K : OGo p e below A0 s₁ (mkF m 0 #[rv a1, iv 2, iv 1, iv 0, .unset, .unset] []) := fun t k => hA0 ▸ castTop (ef_5 m a1 (2 : Int32) (1 : Int32) (0 : Int32)) k
  replace K : OGo p e below A0 s₁ (mkF m 1 #[rv a1, iv 2, iv 1, iv 0, .unset, .unset] [(.ref a1)]) := fun t k => K t (XS.aloadN X0.here hx rfl (hb hby d5_0) rfl rfl k)
  replace K : OGo p e below A0 s₁ (mkF m 2 #[rv a1, iv 2, iv 1, iv 0, .unset, .unset] [(.int 2), (.ref a1)]) := fun t k => K t (XS.iloadN X0.here hx rfl (hb hby d5_1) rfl k)
  obtain ⟨cq1, kq1, qv1a, qv1b, qv1c⟩ := isOf hZ e0 E_a1
  obtain ⟨_, _, ⟨T1, L1, k1, n1⟩, -, X1, ⟨Lc1, hQ1, l1, y1, z1⟩, st1⟩ := X0.virtualBack hx (y := mN4) (z := mN4) hown (mvT hZ (ow hw 41 rfl)) (mvT hZ (ow hw 42 rfl)) (notFace_of_selects (args := #[]) (mvT hZ (ow hw 44 rfl))) (mvT hZ (ow hw 44 rfl)) (mvT hZ (ow hw 43 rfl)) (by decide) (backOf (W := 0) (rm_chooseN00L l Z a0 hw [] a1 ta ca kt kc (0 : Int32) (0 : Int32) (0 : Int32) (0 : Int32) (1 : Int32) (0 : Int32) h0 n0 Z0 E_a1 F_taken_a1 F_counts_a1 F_met_a1 F_repeated_a1 F_branches_a1 F_computed_a1 V_ta V_ca g_a1 g_ta g_ca ne_a1_ta ne_a1_ca ne_ta_ca) hZ (ow hw 45 rfl) (ow hw 7 rfl) (by decide) (by decide)) qv1a qv1c (g := (mkF m 2 #[rv a1, iv 2, iv 1, iv 0, .unset, .unset] [(.int 2), (.ref a1)])) rfl (by rw [hml]; rfl) (Steps.refl _) (argsL := [(.int (2 : Int32))]) (rest := []) (lenOf pd__I_I rfl) rfl (by show 2 * 0 + _ ≤ _; exact Nat.le_of_eq rfl) (hb hby d5_2) (fun _ _ => ⟨rfl, e0, (by decide : 0 + 0 ≤ _), (by decide : 0 + 0 ≤ _)⟩)
  dsimp only [Pt.U, Pt.locs, Pt.cells, Pt.slots] at X1 l1 y1 z1 st1 hQ1
  subst l1 y1 z1
  obtain ⟨hp1, e1⟩ : ∃ z, T1.heap = z := ⟨_, rfl⟩
  rw [e1] at hQ1
  obtain ⟨rfl, Nq1, K1, P1_0, P1_1, P1_2, P1_3, P1_4, P1_5, P1_6, P1_7, P1_8⟩ := hQ1
  have Z1 : n0 ≤ hp1.size := Nat.le_trans Z0 K1.1
  have Kp1 : Keep h0 hp1 [a1, ta, ca] := (Keep.refl h0 [a1, ta, ca]).trans K1 (allS (Or.inl (List.mem_of_getElem? (i := 0) rfl)) (allS (Or.inl (List.mem_of_getElem? (i := 1) rfl)) (allS (Or.inl (List.mem_of_getElem? (i := 2) rfl)) all0)))
  have N1 := Fr.app N0 Nq1
  replace K : OGo p e below A0 T1 (mkF m 5 #[rv a1, iv 2, iv 1, iv 0, .unset, .unset] [(.int 0)]) := fun t k => K t (st1.trans k)
  replace K : OGo p e below A0 T1 (mkF m 7 #[rv a1, iv 2, iv 1, iv 0, iv 0, .unset] []) := fun t k => K t (XS.istore X1.here hx rfl (hb hby d5_5) rfl (l' := #[rv a1, iv 2, iv 1, iv 0, iv 0, .unset]) rfl k)
  replace K : OGo p e below A0 T1 (mkF m 8 #[rv a1, iv 2, iv 1, iv 0, iv 0, .unset] [(.ref a1)]) := fun t k => K t (XS.aloadN X1.here hx rfl (hb hby d5_7) rfl rfl k)
  replace K : OGo p e below A0 T1 (mkF m 9 #[rv a1, iv 2, iv 1, iv 0, iv 0, .unset] [(.int 1), (.ref a1)]) := fun t k => K t (XS.iloadN X1.here hx rfl (hb hby d5_8) rfl k)
  obtain ⟨cq2, kq2, qv2a, qv2b, qv2c⟩ := isOf hZ e1 P1_0
  obtain ⟨_, _, ⟨T2, L2, k2, n2⟩, -, X2, ⟨Lc2, hQ2, l2, y2, z2⟩, st2⟩ := X1.virtualBack hx (y := mN4) (z := mN4) hown (mvT hZ (ow hw 41 rfl)) (mvT hZ (ow hw 42 rfl)) (notFace_of_selects (args := #[]) (mvT hZ (ow hw 44 rfl))) (mvT hZ (ow hw 44 rfl)) (mvT hZ (ow hw 43 rfl)) (by decide) (backOf (W := 0) (rm_choose1 l Z a0 hw [] a1 hp1 n0 Z1 ) hZ (ow hw 45 rfl) (ow hw 7 rfl) (by decide) (by decide)) qv2a qv2c (g := (mkF m 9 #[rv a1, iv 2, iv 1, iv 0, iv 0, .unset] [(.int 1), (.ref a1)])) rfl (by rw [hml]; rfl) (Steps.refl _) (argsL := [(.int (1 : Int32))]) (rest := []) (lenOf pd__I_I rfl) rfl (by show 2 * 0 + _ ≤ _; exact Nat.le_of_eq rfl) (hb hby d5_9) (fun _ _ => ⟨rfl, e1, (by decide : 0 + 0 ≤ _), (by decide : 0 + 0 ≤ _)⟩)
  dsimp only [Pt.U, Pt.locs, Pt.cells, Pt.slots] at X2 l2 y2 z2 st2 hQ2
  subst l2 y2 z2
  obtain ⟨rfl, Nq2, e2⟩ := hQ2
  have N2 := Fr.app N1 Nq2
  replace K : OGo p e below A0 T2 (mkF m 12 #[rv a1, iv 2, iv 1, iv 0, iv 0, .unset] [(.int 0)]) := fun t k => K t (st2.trans k)
  replace K : OGo p e below A0 T2 (mkF m 14 #[rv a1, iv 2, iv 1, iv 0, iv 0, iv 0] []) := fun t k => K t (XS.istore X2.here hx rfl (hb hby d5_12) rfl (l' := #[rv a1, iv 2, iv 1, iv 0, iv 0, iv 0]) rfl k)
  replace K : OGo p e below A0 T2 (mkF m 16 #[rv a1, iv 2, iv 1, iv 0, iv 0, iv 0] [(.int 0)]) := fun t k => K t (XS.iload X2.here hx rfl (hb hby d5_14) rfl k)
  replace K : OGo p e below A0 T2 (mkF m 17 #[rv a1, iv 2, iv 1, iv 0, iv 0, iv 0] [(.int 0), (.int 0)]) := fun t k => K t (XS.iloadN X2.here hx rfl (hb hby d5_16) rfl k)
  replace K : OGo p e below A0 T2 (mkF m 18 #[rv a1, iv 2, iv 1, iv 0, iv 0, iv 0] [(.int 1), (.int 0), (.int 0)]) := fun t k => K t (XS.iloadN X2.here hx rfl (hb hby d5_17) rfl k)
  replace K : OGo p e below A0 T2 (mkF m 19 #[rv a1, iv 2, iv 1, iv 0, iv 0, iv 0] [(.int 0), (.int 0)]) := fun t k => K t (XS.idiv X2.here hx rfl (hb hby d5_18) rfl (by decide) k)
  replace K : OGo p e below A0 T2 (mkF m 22 #[rv a1, iv 2, iv 1, iv 0, iv 0, iv 0] []) := fun t k => K t (XS.icmpNo X2.here hx rfl (hb hby d5_19) rfl (teq ((by decide : (0 : Int32) = (0 : Int32)) : (0 : Int32) = (0 : Int32))).2 k)
  replace K : OGo p e below A0 T2 (mkF m 24 #[rv a1, iv 2, iv 1, iv 0, iv 0, iv 0] [(.int 0)]) := fun t k => K t (XS.iload X2.here hx rfl (hb hby d5_22) rfl k)
  replace K : OGo p e below A0 T2 (mkF m 25 #[rv a1, iv 2, iv 1, iv 0, iv 0, iv 0] [(.int 0), (.int 0)]) := fun t k => K t (XS.iloadN X2.here hx rfl (hb hby d5_24) rfl k)
  replace K : OGo p e below A0 T2 (mkF m 26 #[rv a1, iv 2, iv 1, iv 0, iv 0, iv 0] [(.int 1), (.int 0), (.int 0)]) := fun t k => K t (XS.iloadN X2.here hx rfl (hb hby d5_25) rfl k)
  replace K : OGo p e below A0 T2 (mkF m 27 #[rv a1, iv 2, iv 1, iv 0, iv 0, iv 0] [(.int 0), (.int 0)]) := fun t k => K t (iremM X2 hx rfl (hb hby d5_26) rfl (by decide) k)
  replace K : OGo p e below A0 T2 (mkF m 30 #[rv a1, iv 2, iv 1, iv 0, iv 0, iv 0] []) := fun t k => K t (XS.icmpNo X2.here hx rfl (hb hby d5_27) rfl (teq ((by decide : (0 : Int32) = (0 : Int32)) : (0 : Int32) = (0 : Int32))).2 k)
  replace K : OGo p e below A0 T2 (mkF m 31 #[rv a1, iv 2, iv 1, iv 0, iv 0, iv 0] [(.int 1)]) := fun t k => K t (XS.iconst X2.here hx rfl (hb hby d5_30) k)
  replace K : OGo p e below A0 T2 (mkF m 35 #[rv a1, iv 2, iv 1, iv 0, iv 0, iv 0] [(.int 1)]) := fun t k => K t (XS.goto X2.here hx rfl (pc0 := 31) (pc' := 35) rfl (hb hby d5_31) (by decide) (by decide) k)
  obtain ⟨fs, hr, hrun, hended, hW, hsame⟩ := X2.leave (v := some (.int (1 : Int32))) (fun h => by rw [Bd.returns] at h; cases h)
  subst hA0
  refine ⟨_, _, K _ (retN X2 hx (t := .boolean) Bd.returns (by simp) (hb hby d5_35) hr), hrun, hended, _, _, rfl, ?_, ⟨_, rfl⟩, hW, hsame.mono (by decide) (by decide)⟩
  show Q_bok_s21_0 Z a1 ta ca kt kc h0 n0 _ T2.heap _
  rw [e2]
  exact ⟨rfl, N2, Kp1, P1_0, P1_1, P1_2, P1_3, P1_4, P1_5, P1_6, P1_7, P1_8⟩
def Q_bok_s21_1 (Z : State) (a1 : Addr) (ta : Addr) (ca : Addr) (kt : ClassId) (kc : ClassId) (h0 : Heap) (n0 : Nat) (v : Option Value) (h : Heap) (L : List Loc) : Prop := v = some (.int (1 : Int32)) ∧ Fr n0 L ∧ Keep h0 h [a1, ta, ca] ∧ Exa Z h a1 cN0 ∧ Fld Z h a1 cN0 "taken" "[I" (.ref ta) ∧ Fld Z h a1 cN0 "counts" "[I" (.ref ca) ∧ Fld Z h a1 cN0 "met" "I" (.int (1 : Int32)) ∧ Fld Z h a1 cN0 "repeated" "I" (.int (1 : Int32)) ∧ Fld Z h a1 cN0 "branches" "I" (.int (2 : Int32)) ∧ Fld Z h a1 cN0 "computed" "I" (.int (0 : Int32)) ∧ OAr Z h ta kt .int (oA8 (1 : Int32) (0 : Int32)) ∧ OAr Z h ca kc .int (oA8 (2 : Int32) (0 : Int32))
set_option maxRecDepth 65536 in
set_option maxHeartbeats 40000000 in
theorem rm_bok_s21_1 (l : Launch) (Z : State) (a0 : Array Value) (hw : ∀ d ∈ tables_1, d.before a0 Z = true) (ws : List Jvm.Cond) (a1 : Addr) (ta : Addr) (ca : Addr) (kt : ClassId) (kc : ClassId) (h0 : Heap) (n0 : Nat) (Z0 : n0 ≤ h0.size) (E_a1 : Exa Z h0 a1 cN0) (F_taken_a1 : Fld Z h0 a1 cN0 "taken" "[I" (.ref ta)) (F_counts_a1 : Fld Z h0 a1 cN0 "counts" "[I" (.ref ca)) (F_met_a1 : Fld Z h0 a1 cN0 "met" "I" (.int (0 : Int32))) (F_repeated_a1 : Fld Z h0 a1 cN0 "repeated" "I" (.int (1 : Int32))) (F_branches_a1 : Fld Z h0 a1 cN0 "branches" "I" (.int (2 : Int32))) (F_computed_a1 : Fld Z h0 a1 cN0 "computed" "I" (.int (0 : Int32))) (V_ta : OAr Z h0 ta kt .int (oA8 (1 : Int32) (0 : Int32))) (V_ca : OAr Z h0 ca kc .int (oA8 (2 : Int32) (0 : Int32))) (g_a1 : n0 ≤ a1) (g_ta : n0 ≤ ta) (g_ca : n0 ≤ ca) (ne_a1_ta : a1 ≠ ta) (ne_a1_ca : a1 ≠ ca) (ne_ta_ca : ta ≠ ca) :
    MetFree l mN6 (head1 (Jvm.Cond.code mN6 method_4_code 6 (some .boolean) :: ws) ({ frames := 1, cells := 0, slots := 0, locals := 13 } : Room)) (fun a U => a = #[(.ref a1), (.int (2 : Int32)), (.int (1 : Int32)), (.int (1 : Int32))] ∧ Z.Warmed39 U.vm ∧ U.heap = h0) (fun _ _ _ _ _ => True) (fun _ U o U' => ∃ v L, o = .returned v ∧ Q_bok_s21_1 Z a1 ta ca kt kc h0 n0 v U'.heap L ∧ FrameEnd U o U' L ({ frames := 1, cells := 0, slots := 0, locals := 13 } : Room).cells ({ frames := 1, cells := 0, slots := 0, locals := 13 } : Room).slots) := by
  refine MetFree.of_bodySF (plainFor_of_name pn_com_example_flote_flote_program_ChoicesNextPinLaw) hisR ?_
  intro p e s m args below meth c s₁ Bd hml0 hP hK
  obtain ⟨rfl, hZ, hh⟩ := hP
  have hx := Bd.exec
  have hby := Bd.bytes
  have hml : c.maxLocals = 6 := hml0
  have hown : s.vm.findClass "com/example/flote/flote/program/ChoicesNextPinLaw" = some m.cls := findClass_of_methodNamed Bd.named
  have hnm := (name_of_methodNamed Bd.named Bd.method).1
  have X0 : Stand p l e ({ frames := 1, cells := 0, slots := 0, locals := 13 } : Room) s m #[(.ref a1), (.int (2 : Int32)), (.int (1 : Int32)), (.int (1 : Int32))] below meth c s₁ [] 0 0 := Stand.of_body Bd
  have e0 : s₁.heap = h0 := by rw [← hh, Bd.state]; rfl
  have N0 := Fr.nil n0
  obtain ⟨A0, hA0⟩ : ∃ z, z = s₁.setTop (entryFrame m #[(.ref a1), (.int (2 : Int32)), (.int (1 : Int32)), (.int (1 : Int32))] 6) := ⟨_, rfl⟩
  have K : OGo p e below A0 s₁ (mkF m 0 #[rv a1, iv 2, iv 1, iv 1, .unset, .unset] []) := fun t k => hA0 ▸ castTop (ef_5 m a1 (2 : Int32) (1 : Int32) (1 : Int32)) k
  replace K : OGo p e below A0 s₁ (mkF m 1 #[rv a1, iv 2, iv 1, iv 1, .unset, .unset] [(.ref a1)]) := fun t k => K t (XS.aloadN X0.here hx rfl (hb hby d5_0) rfl rfl k)
  replace K : OGo p e below A0 s₁ (mkF m 2 #[rv a1, iv 2, iv 1, iv 1, .unset, .unset] [(.int 2), (.ref a1)]) := fun t k => K t (XS.iloadN X0.here hx rfl (hb hby d5_1) rfl k)
  obtain ⟨cq1, kq1, qv1a, qv1b, qv1c⟩ := isOf hZ e0 E_a1
  obtain ⟨_, _, ⟨T1, L1, k1, n1⟩, -, X1, ⟨Lc1, hQ1, l1, y1, z1⟩, st1⟩ := X0.virtualBack hx (y := mN4) (z := mN4) hown (mvT hZ (ow hw 41 rfl)) (mvT hZ (ow hw 42 rfl)) (notFace_of_selects (args := #[]) (mvT hZ (ow hw 44 rfl))) (mvT hZ (ow hw 44 rfl)) (mvT hZ (ow hw 43 rfl)) (by decide) (backOf (W := 0) (rm_chooseR01L l Z a0 hw [] a1 ta ca kt kc (1 : Int32) (0 : Int32) (2 : Int32) (0 : Int32) (2 : Int32) (0 : Int32) h0 n0 Z0 E_a1 F_taken_a1 F_counts_a1 F_met_a1 F_repeated_a1 F_branches_a1 F_computed_a1 V_ta V_ca g_a1 g_ta g_ca ne_a1_ta ne_a1_ca ne_ta_ca) hZ (ow hw 45 rfl) (ow hw 7 rfl) (by decide) (by decide)) qv1a qv1c (g := (mkF m 2 #[rv a1, iv 2, iv 1, iv 1, .unset, .unset] [(.int 2), (.ref a1)])) rfl (by rw [hml]; rfl) (Steps.refl _) (argsL := [(.int (2 : Int32))]) (rest := []) (lenOf pd__I_I rfl) rfl (by show 2 * 0 + _ ≤ _; exact Nat.le_of_eq rfl) (hb hby d5_2) (fun _ _ => ⟨rfl, e0, (by decide : 0 + 0 ≤ _), (by decide : 0 + 0 ≤ _)⟩)
  dsimp only [Pt.U, Pt.locs, Pt.cells, Pt.slots] at X1 l1 y1 z1 st1 hQ1
  subst l1 y1 z1
  obtain ⟨hp1, e1⟩ : ∃ z, T1.heap = z := ⟨_, rfl⟩
  rw [e1] at hQ1
  obtain ⟨rfl, Nq1, K1, P1_0, P1_1, P1_2, P1_3, P1_4, P1_5, P1_6, P1_7, P1_8⟩ := hQ1
  have Z1 : n0 ≤ hp1.size := Nat.le_trans Z0 K1.1
  have Kp1 : Keep h0 hp1 [a1, ta, ca] := (Keep.refl h0 [a1, ta, ca]).trans K1 (allS (Or.inl (List.mem_of_getElem? (i := 0) rfl)) (allS (Or.inl (List.mem_of_getElem? (i := 1) rfl)) (allS (Or.inl (List.mem_of_getElem? (i := 2) rfl)) all0)))
  have N1 := Fr.app N0 Nq1
  replace K : OGo p e below A0 T1 (mkF m 5 #[rv a1, iv 2, iv 1, iv 1, .unset, .unset] [(.int 1)]) := fun t k => K t (st1.trans k)
  replace K : OGo p e below A0 T1 (mkF m 7 #[rv a1, iv 2, iv 1, iv 1, iv 1, .unset] []) := fun t k => K t (XS.istore X1.here hx rfl (hb hby d5_5) rfl (l' := #[rv a1, iv 2, iv 1, iv 1, iv 1, .unset]) rfl k)
  replace K : OGo p e below A0 T1 (mkF m 8 #[rv a1, iv 2, iv 1, iv 1, iv 1, .unset] [(.ref a1)]) := fun t k => K t (XS.aloadN X1.here hx rfl (hb hby d5_7) rfl rfl k)
  replace K : OGo p e below A0 T1 (mkF m 9 #[rv a1, iv 2, iv 1, iv 1, iv 1, .unset] [(.int 1), (.ref a1)]) := fun t k => K t (XS.iloadN X1.here hx rfl (hb hby d5_8) rfl k)
  obtain ⟨cq2, kq2, qv2a, qv2b, qv2c⟩ := isOf hZ e1 P1_0
  obtain ⟨_, _, ⟨T2, L2, k2, n2⟩, -, X2, ⟨Lc2, hQ2, l2, y2, z2⟩, st2⟩ := X1.virtualBack hx (y := mN4) (z := mN4) hown (mvT hZ (ow hw 41 rfl)) (mvT hZ (ow hw 42 rfl)) (notFace_of_selects (args := #[]) (mvT hZ (ow hw 44 rfl))) (mvT hZ (ow hw 44 rfl)) (mvT hZ (ow hw 43 rfl)) (by decide) (backOf (W := 0) (rm_choose1 l Z a0 hw [] a1 hp1 n0 Z1 ) hZ (ow hw 45 rfl) (ow hw 7 rfl) (by decide) (by decide)) qv2a qv2c (g := (mkF m 9 #[rv a1, iv 2, iv 1, iv 1, iv 1, .unset] [(.int 1), (.ref a1)])) rfl (by rw [hml]; rfl) (Steps.refl _) (argsL := [(.int (1 : Int32))]) (rest := []) (lenOf pd__I_I rfl) rfl (by show 2 * 0 + _ ≤ _; exact Nat.le_of_eq rfl) (hb hby d5_9) (fun _ _ => ⟨rfl, e1, (by decide : 0 + 0 ≤ _), (by decide : 0 + 0 ≤ _)⟩)
  dsimp only [Pt.U, Pt.locs, Pt.cells, Pt.slots] at X2 l2 y2 z2 st2 hQ2
  subst l2 y2 z2
  obtain ⟨rfl, Nq2, e2⟩ := hQ2
  have N2 := Fr.app N1 Nq2
  replace K : OGo p e below A0 T2 (mkF m 12 #[rv a1, iv 2, iv 1, iv 1, iv 1, .unset] [(.int 0)]) := fun t k => K t (st2.trans k)
  replace K : OGo p e below A0 T2 (mkF m 14 #[rv a1, iv 2, iv 1, iv 1, iv 1, iv 0] []) := fun t k => K t (XS.istore X2.here hx rfl (hb hby d5_12) rfl (l' := #[rv a1, iv 2, iv 1, iv 1, iv 1, iv 0]) rfl k)
  replace K : OGo p e below A0 T2 (mkF m 16 #[rv a1, iv 2, iv 1, iv 1, iv 1, iv 0] [(.int 1)]) := fun t k => K t (XS.iload X2.here hx rfl (hb hby d5_14) rfl k)
  replace K : OGo p e below A0 T2 (mkF m 17 #[rv a1, iv 2, iv 1, iv 1, iv 1, iv 0] [(.int 1), (.int 1)]) := fun t k => K t (XS.iloadN X2.here hx rfl (hb hby d5_16) rfl k)
  replace K : OGo p e below A0 T2 (mkF m 18 #[rv a1, iv 2, iv 1, iv 1, iv 1, iv 0] [(.int 1), (.int 1), (.int 1)]) := fun t k => K t (XS.iloadN X2.here hx rfl (hb hby d5_17) rfl k)
  replace K : OGo p e below A0 T2 (mkF m 19 #[rv a1, iv 2, iv 1, iv 1, iv 1, iv 0] [(.int 1), (.int 1)]) := fun t k => K t (XS.idiv X2.here hx rfl (hb hby d5_18) rfl (by decide) k)
  replace K : OGo p e below A0 T2 (mkF m 22 #[rv a1, iv 2, iv 1, iv 1, iv 1, iv 0] []) := fun t k => K t (XS.icmpNo X2.here hx rfl (hb hby d5_19) rfl (teq ((by decide : (1 : Int32) = (1 : Int32)) : (1 : Int32) = (1 : Int32))).2 k)
  replace K : OGo p e below A0 T2 (mkF m 24 #[rv a1, iv 2, iv 1, iv 1, iv 1, iv 0] [(.int 0)]) := fun t k => K t (XS.iload X2.here hx rfl (hb hby d5_22) rfl k)
  replace K : OGo p e below A0 T2 (mkF m 25 #[rv a1, iv 2, iv 1, iv 1, iv 1, iv 0] [(.int 1), (.int 0)]) := fun t k => K t (XS.iloadN X2.here hx rfl (hb hby d5_24) rfl k)
  replace K : OGo p e below A0 T2 (mkF m 26 #[rv a1, iv 2, iv 1, iv 1, iv 1, iv 0] [(.int 1), (.int 1), (.int 0)]) := fun t k => K t (XS.iloadN X2.here hx rfl (hb hby d5_25) rfl k)
  replace K : OGo p e below A0 T2 (mkF m 27 #[rv a1, iv 2, iv 1, iv 1, iv 1, iv 0] [(.int 0), (.int 0)]) := fun t k => K t (iremM X2 hx rfl (hb hby d5_26) rfl (by decide) k)
  replace K : OGo p e below A0 T2 (mkF m 30 #[rv a1, iv 2, iv 1, iv 1, iv 1, iv 0] []) := fun t k => K t (XS.icmpNo X2.here hx rfl (hb hby d5_27) rfl (teq ((by decide : (0 : Int32) = (0 : Int32)) : (0 : Int32) = (0 : Int32))).2 k)
  replace K : OGo p e below A0 T2 (mkF m 31 #[rv a1, iv 2, iv 1, iv 1, iv 1, iv 0] [(.int 1)]) := fun t k => K t (XS.iconst X2.here hx rfl (hb hby d5_30) k)
  replace K : OGo p e below A0 T2 (mkF m 35 #[rv a1, iv 2, iv 1, iv 1, iv 1, iv 0] [(.int 1)]) := fun t k => K t (XS.goto X2.here hx rfl (pc0 := 31) (pc' := 35) rfl (hb hby d5_31) (by decide) (by decide) k)
  obtain ⟨fs, hr, hrun, hended, hW, hsame⟩ := X2.leave (v := some (.int (1 : Int32))) (fun h => by rw [Bd.returns] at h; cases h)
  subst hA0
  refine ⟨_, _, K _ (retN X2 hx (t := .boolean) Bd.returns (by simp) (hb hby d5_35) hr), hrun, hended, _, _, rfl, ?_, ⟨_, rfl⟩, hW, hsame.mono (by decide) (by decide)⟩
  show Q_bok_s21_1 Z a1 ta ca kt kc h0 n0 _ T2.heap _
  rw [e2]
  exact ⟨rfl, N2, Kp1, P1_0, P1_1, P1_2, P1_3, P1_4, P1_5, P1_6, P1_7, P1_8⟩
def Q_bok_s31_0 (Z : State) (a1 : Addr) (p1 : Int32) (ta : Addr) (ca : Addr) (kt : ClassId) (kc : ClassId) (h0 : Heap) (n0 : Nat) (v : Option Value) (h : Heap) (L : List Loc) : Prop := v = some (.int (1 : Int32)) ∧ Fr n0 L ∧ Keep h0 h [a1, ta, ca] ∧ Exa Z h a1 cN0 ∧ Fld Z h a1 cN0 "taken" "[I" (.ref ta) ∧ Fld Z h a1 cN0 "counts" "[I" (.ref ca) ∧ Fld Z h a1 cN0 "met" "I" (.int (1 : Int32)) ∧ Fld Z h a1 cN0 "repeated" "I" (.int (0 : Int32)) ∧ Fld Z h a1 cN0 "branches" "I" (.int (1 : Int32)) ∧ Fld Z h a1 cN0 "computed" "I" (.int (0 : Int32)) ∧ OAr Z h ta kt .int (oA8 (0 : Int32) (0 : Int32)) ∧ OAr Z h ca kc .int (oA8 p1 (0 : Int32))
set_option maxRecDepth 65536 in
set_option maxHeartbeats 40000000 in
theorem rm_bok_s31_0 (l : Launch) (Z : State) (a0 : Array Value) (hw : ∀ d ∈ tables_1, d.before a0 Z = true) (ws : List Jvm.Cond) (a1 : Addr) (p1 : Int32) (ta : Addr) (ca : Addr) (kt : ClassId) (kc : ClassId) (h0 : Heap) (n0 : Nat) (Z0 : n0 ≤ h0.size) (E_a1 : Exa Z h0 a1 cN0) (F_taken_a1 : Fld Z h0 a1 cN0 "taken" "[I" (.ref ta)) (F_counts_a1 : Fld Z h0 a1 cN0 "counts" "[I" (.ref ca)) (F_met_a1 : Fld Z h0 a1 cN0 "met" "I" (.int (0 : Int32))) (F_repeated_a1 : Fld Z h0 a1 cN0 "repeated" "I" (.int (0 : Int32))) (F_branches_a1 : Fld Z h0 a1 cN0 "branches" "I" (.int (1 : Int32))) (F_computed_a1 : Fld Z h0 a1 cN0 "computed" "I" (.int (0 : Int32))) (V_ta : OAr Z h0 ta kt .int (oA8 (0 : Int32) (0 : Int32))) (V_ca : OAr Z h0 ca kc .int (oA8 (0 : Int32) (0 : Int32))) (g_a1 : n0 ≤ a1) (g_ta : n0 ≤ ta) (g_ca : n0 ≤ ca) (ne_a1_ta : a1 ≠ ta) (ne_a1_ca : a1 ≠ ca) (ne_ta_ca : ta ≠ ca) (hna : 3 ≤ p1.toInt) :
    MetFree l mN6 (head1 (Jvm.Cond.code mN6 method_4_code 6 (some .boolean) :: ws) ({ frames := 1, cells := 0, slots := 0, locals := 13 } : Room)) (fun a U => a = #[(.ref a1), (.int p1), (.int (1 : Int32)), (.int (0 : Int32))] ∧ Z.Warmed39 U.vm ∧ U.heap = h0) (fun _ _ _ _ _ => True) (fun _ U o U' => ∃ v L, o = .returned v ∧ Q_bok_s31_0 Z a1 p1 ta ca kt kc h0 n0 v U'.heap L ∧ FrameEnd U o U' L ({ frames := 1, cells := 0, slots := 0, locals := 13 } : Room).cells ({ frames := 1, cells := 0, slots := 0, locals := 13 } : Room).slots) := by
  refine MetFree.of_bodySF (plainFor_of_name pn_com_example_flote_flote_program_ChoicesNextPinLaw) hisR ?_
  intro p e s m args below meth c s₁ Bd hml0 hP hK
  obtain ⟨rfl, hZ, hh⟩ := hP
  have hx := Bd.exec
  have hby := Bd.bytes
  have hml : c.maxLocals = 6 := hml0
  have hown : s.vm.findClass "com/example/flote/flote/program/ChoicesNextPinLaw" = some m.cls := findClass_of_methodNamed Bd.named
  have hnm := (name_of_methodNamed Bd.named Bd.method).1
  have X0 : Stand p l e ({ frames := 1, cells := 0, slots := 0, locals := 13 } : Room) s m #[(.ref a1), (.int p1), (.int (1 : Int32)), (.int (0 : Int32))] below meth c s₁ [] 0 0 := Stand.of_body Bd
  have e0 : s₁.heap = h0 := by rw [← hh, Bd.state]; rfl
  have N0 := Fr.nil n0
  obtain ⟨A0, hA0⟩ : ∃ z, z = s₁.setTop (entryFrame m #[(.ref a1), (.int p1), (.int (1 : Int32)), (.int (0 : Int32))] 6) := ⟨_, rfl⟩
  have K : OGo p e below A0 s₁ (mkF m 0 #[rv a1, iv p1, iv 1, iv 0, .unset, .unset] []) := fun t k => hA0 ▸ castTop (ef_5 m a1 p1 (1 : Int32) (0 : Int32)) k
  replace K : OGo p e below A0 s₁ (mkF m 1 #[rv a1, iv p1, iv 1, iv 0, .unset, .unset] [(.ref a1)]) := fun t k => K t (XS.aloadN X0.here hx rfl (hb hby d5_0) rfl rfl k)
  replace K : OGo p e below A0 s₁ (mkF m 2 #[rv a1, iv p1, iv 1, iv 0, .unset, .unset] [(.int p1), (.ref a1)]) := fun t k => K t (XS.iloadN X0.here hx rfl (hb hby d5_1) rfl k)
  obtain ⟨cq1, kq1, qv1a, qv1b, qv1c⟩ := isOf hZ e0 E_a1
  obtain ⟨_, _, ⟨T1, L1, k1, n1⟩, -, X1, ⟨Lc1, hQ1, l1, y1, z1⟩, st1⟩ := X0.virtualBack hx (y := mN4) (z := mN4) hown (mvT hZ (ow hw 41 rfl)) (mvT hZ (ow hw 42 rfl)) (notFace_of_selects (args := #[]) (mvT hZ (ow hw 44 rfl))) (mvT hZ (ow hw 44 rfl)) (mvT hZ (ow hw 43 rfl)) (by decide) (backOf (W := 0) (rm_chooseN00 l Z a0 hw [] a1 p1 ta ca kt kc (0 : Int32) (0 : Int32) (0 : Int32) (0 : Int32) (1 : Int32) (0 : Int32) h0 n0 Z0 E_a1 F_taken_a1 F_counts_a1 F_met_a1 F_repeated_a1 F_branches_a1 F_computed_a1 V_ta V_ca g_a1 g_ta g_ca ne_a1_ta ne_a1_ca ne_ta_ca (fun z => by have q := hna; rw [z] at q; have : (1 : Int32).toInt = 1 := (by decide); omega)) hZ (ow hw 45 rfl) (ow hw 7 rfl) (by decide) (by decide)) qv1a qv1c (g := (mkF m 2 #[rv a1, iv p1, iv 1, iv 0, .unset, .unset] [(.int p1), (.ref a1)])) rfl (by rw [hml]; rfl) (Steps.refl _) (argsL := [(.int p1)]) (rest := []) (lenOf pd__I_I rfl) rfl (by show 2 * 0 + _ ≤ _; exact Nat.le_of_eq rfl) (hb hby d5_2) (fun _ _ => ⟨rfl, e0, (by decide : 0 + 0 ≤ _), (by decide : 0 + 0 ≤ _)⟩)
  dsimp only [Pt.U, Pt.locs, Pt.cells, Pt.slots] at X1 l1 y1 z1 st1 hQ1
  subst l1 y1 z1
  obtain ⟨hp1, e1⟩ : ∃ z, T1.heap = z := ⟨_, rfl⟩
  rw [e1] at hQ1
  obtain ⟨rfl, Nq1, K1, P1_0, P1_1, P1_2, P1_3, P1_4, P1_5, P1_6, P1_7, P1_8⟩ := hQ1
  have Z1 : n0 ≤ hp1.size := Nat.le_trans Z0 K1.1
  have Kp1 : Keep h0 hp1 [a1, ta, ca] := (Keep.refl h0 [a1, ta, ca]).trans K1 (allS (Or.inl (List.mem_of_getElem? (i := 0) rfl)) (allS (Or.inl (List.mem_of_getElem? (i := 1) rfl)) (allS (Or.inl (List.mem_of_getElem? (i := 2) rfl)) all0)))
  have N1 := Fr.app N0 Nq1
  replace K : OGo p e below A0 T1 (mkF m 5 #[rv a1, iv p1, iv 1, iv 0, .unset, .unset] [(.int 0)]) := fun t k => K t (st1.trans k)
  replace K : OGo p e below A0 T1 (mkF m 7 #[rv a1, iv p1, iv 1, iv 0, iv 0, .unset] []) := fun t k => K t (XS.istore X1.here hx rfl (hb hby d5_5) rfl (l' := #[rv a1, iv p1, iv 1, iv 0, iv 0, .unset]) rfl k)
  replace K : OGo p e below A0 T1 (mkF m 8 #[rv a1, iv p1, iv 1, iv 0, iv 0, .unset] [(.ref a1)]) := fun t k => K t (XS.aloadN X1.here hx rfl (hb hby d5_7) rfl rfl k)
  replace K : OGo p e below A0 T1 (mkF m 9 #[rv a1, iv p1, iv 1, iv 0, iv 0, .unset] [(.int 1), (.ref a1)]) := fun t k => K t (XS.iloadN X1.here hx rfl (hb hby d5_8) rfl k)
  obtain ⟨cq2, kq2, qv2a, qv2b, qv2c⟩ := isOf hZ e1 P1_0
  obtain ⟨_, _, ⟨T2, L2, k2, n2⟩, -, X2, ⟨Lc2, hQ2, l2, y2, z2⟩, st2⟩ := X1.virtualBack hx (y := mN4) (z := mN4) hown (mvT hZ (ow hw 41 rfl)) (mvT hZ (ow hw 42 rfl)) (notFace_of_selects (args := #[]) (mvT hZ (ow hw 44 rfl))) (mvT hZ (ow hw 44 rfl)) (mvT hZ (ow hw 43 rfl)) (by decide) (backOf (W := 0) (rm_choose1 l Z a0 hw [] a1 hp1 n0 Z1 ) hZ (ow hw 45 rfl) (ow hw 7 rfl) (by decide) (by decide)) qv2a qv2c (g := (mkF m 9 #[rv a1, iv p1, iv 1, iv 0, iv 0, .unset] [(.int 1), (.ref a1)])) rfl (by rw [hml]; rfl) (Steps.refl _) (argsL := [(.int (1 : Int32))]) (rest := []) (lenOf pd__I_I rfl) rfl (by show 2 * 0 + _ ≤ _; exact Nat.le_of_eq rfl) (hb hby d5_9) (fun _ _ => ⟨rfl, e1, (by decide : 0 + 0 ≤ _), (by decide : 0 + 0 ≤ _)⟩)
  dsimp only [Pt.U, Pt.locs, Pt.cells, Pt.slots] at X2 l2 y2 z2 st2 hQ2
  subst l2 y2 z2
  obtain ⟨rfl, Nq2, e2⟩ := hQ2
  have N2 := Fr.app N1 Nq2
  replace K : OGo p e below A0 T2 (mkF m 12 #[rv a1, iv p1, iv 1, iv 0, iv 0, .unset] [(.int 0)]) := fun t k => K t (st2.trans k)
  replace K : OGo p e below A0 T2 (mkF m 14 #[rv a1, iv p1, iv 1, iv 0, iv 0, iv 0] []) := fun t k => K t (XS.istore X2.here hx rfl (hb hby d5_12) rfl (l' := #[rv a1, iv p1, iv 1, iv 0, iv 0, iv 0]) rfl k)
  replace K : OGo p e below A0 T2 (mkF m 16 #[rv a1, iv p1, iv 1, iv 0, iv 0, iv 0] [(.int 0)]) := fun t k => K t (XS.iload X2.here hx rfl (hb hby d5_14) rfl k)
  replace K : OGo p e below A0 T2 (mkF m 17 #[rv a1, iv p1, iv 1, iv 0, iv 0, iv 0] [(.int 0), (.int 0)]) := fun t k => K t (XS.iloadN X2.here hx rfl (hb hby d5_16) rfl k)
  replace K : OGo p e below A0 T2 (mkF m 18 #[rv a1, iv p1, iv 1, iv 0, iv 0, iv 0] [(.int 1), (.int 0), (.int 0)]) := fun t k => K t (XS.iloadN X2.here hx rfl (hb hby d5_17) rfl k)
  replace K : OGo p e below A0 T2 (mkF m 19 #[rv a1, iv p1, iv 1, iv 0, iv 0, iv 0] [(.int 0), (.int 0)]) := fun t k => K t (XS.idiv X2.here hx rfl (hb hby d5_18) rfl (by decide) k)
  replace K : OGo p e below A0 T2 (mkF m 22 #[rv a1, iv p1, iv 1, iv 0, iv 0, iv 0] []) := fun t k => K t (XS.icmpNo X2.here hx rfl (hb hby d5_19) rfl (teq ((by decide : (0 : Int32) = (0 : Int32)) : (0 : Int32) = (0 : Int32))).2 k)
  replace K : OGo p e below A0 T2 (mkF m 24 #[rv a1, iv p1, iv 1, iv 0, iv 0, iv 0] [(.int 0)]) := fun t k => K t (XS.iload X2.here hx rfl (hb hby d5_22) rfl k)
  replace K : OGo p e below A0 T2 (mkF m 25 #[rv a1, iv p1, iv 1, iv 0, iv 0, iv 0] [(.int 0), (.int 0)]) := fun t k => K t (XS.iloadN X2.here hx rfl (hb hby d5_24) rfl k)
  replace K : OGo p e below A0 T2 (mkF m 26 #[rv a1, iv p1, iv 1, iv 0, iv 0, iv 0] [(.int 1), (.int 0), (.int 0)]) := fun t k => K t (XS.iloadN X2.here hx rfl (hb hby d5_25) rfl k)
  replace K : OGo p e below A0 T2 (mkF m 27 #[rv a1, iv p1, iv 1, iv 0, iv 0, iv 0] [(.int 0), (.int 0)]) := fun t k => K t (iremM X2 hx rfl (hb hby d5_26) rfl (by decide) k)
  replace K : OGo p e below A0 T2 (mkF m 30 #[rv a1, iv p1, iv 1, iv 0, iv 0, iv 0] []) := fun t k => K t (XS.icmpNo X2.here hx rfl (hb hby d5_27) rfl (teq ((by decide : (0 : Int32) = (0 : Int32)) : (0 : Int32) = (0 : Int32))).2 k)
  replace K : OGo p e below A0 T2 (mkF m 31 #[rv a1, iv p1, iv 1, iv 0, iv 0, iv 0] [(.int 1)]) := fun t k => K t (XS.iconst X2.here hx rfl (hb hby d5_30) k)
  replace K : OGo p e below A0 T2 (mkF m 35 #[rv a1, iv p1, iv 1, iv 0, iv 0, iv 0] [(.int 1)]) := fun t k => K t (XS.goto X2.here hx rfl (pc0 := 31) (pc' := 35) rfl (hb hby d5_31) (by decide) (by decide) k)
  obtain ⟨fs, hr, hrun, hended, hW, hsame⟩ := X2.leave (v := some (.int (1 : Int32))) (fun h => by rw [Bd.returns] at h; cases h)
  subst hA0
  refine ⟨_, _, K _ (retN X2 hx (t := .boolean) Bd.returns (by simp) (hb hby d5_35) hr), hrun, hended, _, _, rfl, ?_, ⟨_, rfl⟩, hW, hsame.mono (by decide) (by decide)⟩
  show Q_bok_s31_0 Z a1 p1 ta ca kt kc h0 n0 _ T2.heap _
  rw [e2]
  exact ⟨rfl, N2, Kp1, P1_0, P1_1, P1_2, P1_3, P1_4, P1_5, P1_6, P1_7, P1_8⟩
def Q_bok_s31_1 (Z : State) (a1 : Addr) (p1 : Int32) (ta : Addr) (ca : Addr) (kt : ClassId) (kc : ClassId) (h0 : Heap) (n0 : Nat) (v : Option Value) (h : Heap) (L : List Loc) : Prop := v = some (.int (1 : Int32)) ∧ Fr n0 L ∧ Keep h0 h [a1, ta, ca] ∧ Exa Z h a1 cN0 ∧ Fld Z h a1 cN0 "taken" "[I" (.ref ta) ∧ Fld Z h a1 cN0 "counts" "[I" (.ref ca) ∧ Fld Z h a1 cN0 "met" "I" (.int (1 : Int32)) ∧ Fld Z h a1 cN0 "repeated" "I" (.int (1 : Int32)) ∧ Fld Z h a1 cN0 "branches" "I" (.int (2 : Int32)) ∧ Fld Z h a1 cN0 "computed" "I" (.int (0 : Int32)) ∧ OAr Z h ta kt .int (oA8 (1 : Int32) (0 : Int32)) ∧ OAr Z h ca kc .int (oA8 p1 (0 : Int32))
set_option maxRecDepth 65536 in
set_option maxHeartbeats 40000000 in
theorem rm_bok_s31_1 (l : Launch) (Z : State) (a0 : Array Value) (hw : ∀ d ∈ tables_1, d.before a0 Z = true) (ws : List Jvm.Cond) (a1 : Addr) (p1 : Int32) (ta : Addr) (ca : Addr) (kt : ClassId) (kc : ClassId) (h0 : Heap) (n0 : Nat) (Z0 : n0 ≤ h0.size) (E_a1 : Exa Z h0 a1 cN0) (F_taken_a1 : Fld Z h0 a1 cN0 "taken" "[I" (.ref ta)) (F_counts_a1 : Fld Z h0 a1 cN0 "counts" "[I" (.ref ca)) (F_met_a1 : Fld Z h0 a1 cN0 "met" "I" (.int (0 : Int32))) (F_repeated_a1 : Fld Z h0 a1 cN0 "repeated" "I" (.int (1 : Int32))) (F_branches_a1 : Fld Z h0 a1 cN0 "branches" "I" (.int (2 : Int32))) (F_computed_a1 : Fld Z h0 a1 cN0 "computed" "I" (.int (0 : Int32))) (V_ta : OAr Z h0 ta kt .int (oA8 (1 : Int32) (0 : Int32))) (V_ca : OAr Z h0 ca kc .int (oA8 p1 (0 : Int32))) (g_a1 : n0 ≤ a1) (g_ta : n0 ≤ ta) (g_ca : n0 ≤ ca) (ne_a1_ta : a1 ≠ ta) (ne_a1_ca : a1 ≠ ca) (ne_ta_ca : ta ≠ ca) (hna : 3 ≤ p1.toInt) :
    MetFree l mN6 (head1 (Jvm.Cond.code mN6 method_4_code 6 (some .boolean) :: ws) ({ frames := 1, cells := 0, slots := 0, locals := 13 } : Room)) (fun a U => a = #[(.ref a1), (.int p1), (.int (1 : Int32)), (.int (1 : Int32))] ∧ Z.Warmed39 U.vm ∧ U.heap = h0) (fun _ _ _ _ _ => True) (fun _ U o U' => ∃ v L, o = .returned v ∧ Q_bok_s31_1 Z a1 p1 ta ca kt kc h0 n0 v U'.heap L ∧ FrameEnd U o U' L ({ frames := 1, cells := 0, slots := 0, locals := 13 } : Room).cells ({ frames := 1, cells := 0, slots := 0, locals := 13 } : Room).slots) := by
  refine MetFree.of_bodySF (plainFor_of_name pn_com_example_flote_flote_program_ChoicesNextPinLaw) hisR ?_
  intro p e s m args below meth c s₁ Bd hml0 hP hK
  obtain ⟨rfl, hZ, hh⟩ := hP
  have hx := Bd.exec
  have hby := Bd.bytes
  have hml : c.maxLocals = 6 := hml0
  have hown : s.vm.findClass "com/example/flote/flote/program/ChoicesNextPinLaw" = some m.cls := findClass_of_methodNamed Bd.named
  have hnm := (name_of_methodNamed Bd.named Bd.method).1
  have X0 : Stand p l e ({ frames := 1, cells := 0, slots := 0, locals := 13 } : Room) s m #[(.ref a1), (.int p1), (.int (1 : Int32)), (.int (1 : Int32))] below meth c s₁ [] 0 0 := Stand.of_body Bd
  have e0 : s₁.heap = h0 := by rw [← hh, Bd.state]; rfl
  have N0 := Fr.nil n0
  obtain ⟨A0, hA0⟩ : ∃ z, z = s₁.setTop (entryFrame m #[(.ref a1), (.int p1), (.int (1 : Int32)), (.int (1 : Int32))] 6) := ⟨_, rfl⟩
  have K : OGo p e below A0 s₁ (mkF m 0 #[rv a1, iv p1, iv 1, iv 1, .unset, .unset] []) := fun t k => hA0 ▸ castTop (ef_5 m a1 p1 (1 : Int32) (1 : Int32)) k
  replace K : OGo p e below A0 s₁ (mkF m 1 #[rv a1, iv p1, iv 1, iv 1, .unset, .unset] [(.ref a1)]) := fun t k => K t (XS.aloadN X0.here hx rfl (hb hby d5_0) rfl rfl k)
  replace K : OGo p e below A0 s₁ (mkF m 2 #[rv a1, iv p1, iv 1, iv 1, .unset, .unset] [(.int p1), (.ref a1)]) := fun t k => K t (XS.iloadN X0.here hx rfl (hb hby d5_1) rfl k)
  obtain ⟨cq1, kq1, qv1a, qv1b, qv1c⟩ := isOf hZ e0 E_a1
  obtain ⟨_, _, ⟨T1, L1, k1, n1⟩, -, X1, ⟨Lc1, hQ1, l1, y1, z1⟩, st1⟩ := X0.virtualBack hx (y := mN4) (z := mN4) hown (mvT hZ (ow hw 41 rfl)) (mvT hZ (ow hw 42 rfl)) (notFace_of_selects (args := #[]) (mvT hZ (ow hw 44 rfl))) (mvT hZ (ow hw 44 rfl)) (mvT hZ (ow hw 43 rfl)) (by decide) (backOf (W := 0) (rm_chooseR01 l Z a0 hw [] a1 p1 ta ca kt kc (1 : Int32) (0 : Int32) p1 (0 : Int32) (2 : Int32) (0 : Int32) h0 n0 Z0 E_a1 F_taken_a1 F_counts_a1 F_met_a1 F_repeated_a1 F_branches_a1 F_computed_a1 V_ta V_ca g_a1 g_ta g_ca ne_a1_ta ne_a1_ca ne_ta_ca (fun z => by have q := hna; rw [z] at q; have : (1 : Int32).toInt = 1 := (by decide); omega)) hZ (ow hw 45 rfl) (ow hw 7 rfl) (by decide) (by decide)) qv1a qv1c (g := (mkF m 2 #[rv a1, iv p1, iv 1, iv 1, .unset, .unset] [(.int p1), (.ref a1)])) rfl (by rw [hml]; rfl) (Steps.refl _) (argsL := [(.int p1)]) (rest := []) (lenOf pd__I_I rfl) rfl (by show 2 * 0 + _ ≤ _; exact Nat.le_of_eq rfl) (hb hby d5_2) (fun _ _ => ⟨rfl, e0, (by decide : 0 + 0 ≤ _), (by decide : 0 + 0 ≤ _)⟩)
  dsimp only [Pt.U, Pt.locs, Pt.cells, Pt.slots] at X1 l1 y1 z1 st1 hQ1
  subst l1 y1 z1
  obtain ⟨hp1, e1⟩ : ∃ z, T1.heap = z := ⟨_, rfl⟩
  rw [e1] at hQ1
  obtain ⟨rfl, Nq1, K1, P1_0, P1_1, P1_2, P1_3, P1_4, P1_5, P1_6, P1_7, P1_8⟩ := hQ1
  have Z1 : n0 ≤ hp1.size := Nat.le_trans Z0 K1.1
  have Kp1 : Keep h0 hp1 [a1, ta, ca] := (Keep.refl h0 [a1, ta, ca]).trans K1 (allS (Or.inl (List.mem_of_getElem? (i := 0) rfl)) (allS (Or.inl (List.mem_of_getElem? (i := 1) rfl)) (allS (Or.inl (List.mem_of_getElem? (i := 2) rfl)) all0)))
  have N1 := Fr.app N0 Nq1
  replace K : OGo p e below A0 T1 (mkF m 5 #[rv a1, iv p1, iv 1, iv 1, .unset, .unset] [(.int 1)]) := fun t k => K t (st1.trans k)
  replace K : OGo p e below A0 T1 (mkF m 7 #[rv a1, iv p1, iv 1, iv 1, iv 1, .unset] []) := fun t k => K t (XS.istore X1.here hx rfl (hb hby d5_5) rfl (l' := #[rv a1, iv p1, iv 1, iv 1, iv 1, .unset]) rfl k)
  replace K : OGo p e below A0 T1 (mkF m 8 #[rv a1, iv p1, iv 1, iv 1, iv 1, .unset] [(.ref a1)]) := fun t k => K t (XS.aloadN X1.here hx rfl (hb hby d5_7) rfl rfl k)
  replace K : OGo p e below A0 T1 (mkF m 9 #[rv a1, iv p1, iv 1, iv 1, iv 1, .unset] [(.int 1), (.ref a1)]) := fun t k => K t (XS.iloadN X1.here hx rfl (hb hby d5_8) rfl k)
  obtain ⟨cq2, kq2, qv2a, qv2b, qv2c⟩ := isOf hZ e1 P1_0
  obtain ⟨_, _, ⟨T2, L2, k2, n2⟩, -, X2, ⟨Lc2, hQ2, l2, y2, z2⟩, st2⟩ := X1.virtualBack hx (y := mN4) (z := mN4) hown (mvT hZ (ow hw 41 rfl)) (mvT hZ (ow hw 42 rfl)) (notFace_of_selects (args := #[]) (mvT hZ (ow hw 44 rfl))) (mvT hZ (ow hw 44 rfl)) (mvT hZ (ow hw 43 rfl)) (by decide) (backOf (W := 0) (rm_choose1 l Z a0 hw [] a1 hp1 n0 Z1 ) hZ (ow hw 45 rfl) (ow hw 7 rfl) (by decide) (by decide)) qv2a qv2c (g := (mkF m 9 #[rv a1, iv p1, iv 1, iv 1, iv 1, .unset] [(.int 1), (.ref a1)])) rfl (by rw [hml]; rfl) (Steps.refl _) (argsL := [(.int (1 : Int32))]) (rest := []) (lenOf pd__I_I rfl) rfl (by show 2 * 0 + _ ≤ _; exact Nat.le_of_eq rfl) (hb hby d5_9) (fun _ _ => ⟨rfl, e1, (by decide : 0 + 0 ≤ _), (by decide : 0 + 0 ≤ _)⟩)
  dsimp only [Pt.U, Pt.locs, Pt.cells, Pt.slots] at X2 l2 y2 z2 st2 hQ2
  subst l2 y2 z2
  obtain ⟨rfl, Nq2, e2⟩ := hQ2
  have N2 := Fr.app N1 Nq2
  replace K : OGo p e below A0 T2 (mkF m 12 #[rv a1, iv p1, iv 1, iv 1, iv 1, .unset] [(.int 0)]) := fun t k => K t (st2.trans k)
  replace K : OGo p e below A0 T2 (mkF m 14 #[rv a1, iv p1, iv 1, iv 1, iv 1, iv 0] []) := fun t k => K t (XS.istore X2.here hx rfl (hb hby d5_12) rfl (l' := #[rv a1, iv p1, iv 1, iv 1, iv 1, iv 0]) rfl k)
  replace K : OGo p e below A0 T2 (mkF m 16 #[rv a1, iv p1, iv 1, iv 1, iv 1, iv 0] [(.int 1)]) := fun t k => K t (XS.iload X2.here hx rfl (hb hby d5_14) rfl k)
  replace K : OGo p e below A0 T2 (mkF m 17 #[rv a1, iv p1, iv 1, iv 1, iv 1, iv 0] [(.int 1), (.int 1)]) := fun t k => K t (XS.iloadN X2.here hx rfl (hb hby d5_16) rfl k)
  replace K : OGo p e below A0 T2 (mkF m 18 #[rv a1, iv p1, iv 1, iv 1, iv 1, iv 0] [(.int 1), (.int 1), (.int 1)]) := fun t k => K t (XS.iloadN X2.here hx rfl (hb hby d5_17) rfl k)
  replace K : OGo p e below A0 T2 (mkF m 19 #[rv a1, iv p1, iv 1, iv 1, iv 1, iv 0] [(.int 1), (.int 1)]) := fun t k => K t (XS.idiv X2.here hx rfl (hb hby d5_18) rfl (by decide) k)
  replace K : OGo p e below A0 T2 (mkF m 22 #[rv a1, iv p1, iv 1, iv 1, iv 1, iv 0] []) := fun t k => K t (XS.icmpNo X2.here hx rfl (hb hby d5_19) rfl (teq ((by decide : (1 : Int32) = (1 : Int32)) : (1 : Int32) = (1 : Int32))).2 k)
  replace K : OGo p e below A0 T2 (mkF m 24 #[rv a1, iv p1, iv 1, iv 1, iv 1, iv 0] [(.int 0)]) := fun t k => K t (XS.iload X2.here hx rfl (hb hby d5_22) rfl k)
  replace K : OGo p e below A0 T2 (mkF m 25 #[rv a1, iv p1, iv 1, iv 1, iv 1, iv 0] [(.int 1), (.int 0)]) := fun t k => K t (XS.iloadN X2.here hx rfl (hb hby d5_24) rfl k)
  replace K : OGo p e below A0 T2 (mkF m 26 #[rv a1, iv p1, iv 1, iv 1, iv 1, iv 0] [(.int 1), (.int 1), (.int 0)]) := fun t k => K t (XS.iloadN X2.here hx rfl (hb hby d5_25) rfl k)
  replace K : OGo p e below A0 T2 (mkF m 27 #[rv a1, iv p1, iv 1, iv 1, iv 1, iv 0] [(.int 0), (.int 0)]) := fun t k => K t (iremM X2 hx rfl (hb hby d5_26) rfl (by decide) k)
  replace K : OGo p e below A0 T2 (mkF m 30 #[rv a1, iv p1, iv 1, iv 1, iv 1, iv 0] []) := fun t k => K t (XS.icmpNo X2.here hx rfl (hb hby d5_27) rfl (teq ((by decide : (0 : Int32) = (0 : Int32)) : (0 : Int32) = (0 : Int32))).2 k)
  replace K : OGo p e below A0 T2 (mkF m 31 #[rv a1, iv p1, iv 1, iv 1, iv 1, iv 0] [(.int 1)]) := fun t k => K t (XS.iconst X2.here hx rfl (hb hby d5_30) k)
  replace K : OGo p e below A0 T2 (mkF m 35 #[rv a1, iv p1, iv 1, iv 1, iv 1, iv 0] [(.int 1)]) := fun t k => K t (XS.goto X2.here hx rfl (pc0 := 31) (pc' := 35) rfl (hb hby d5_31) (by decide) (by decide) k)
  obtain ⟨fs, hr, hrun, hended, hW, hsame⟩ := X2.leave (v := some (.int (1 : Int32))) (fun h => by rw [Bd.returns] at h; cases h)
  subst hA0
  refine ⟨_, _, K _ (retN X2 hx (t := .boolean) Bd.returns (by simp) (hb hby d5_35) hr), hrun, hended, _, _, rfl, ?_, ⟨_, rfl⟩, hW, hsame.mono (by decide) (by decide)⟩
  show Q_bok_s31_1 Z a1 p1 ta ca kt kc h0 n0 _ T2.heap _
  rw [e2]
  exact ⟨rfl, N2, Kp1, P1_0, P1_1, P1_2, P1_3, P1_4, P1_5, P1_6, P1_7, P1_8⟩
def Q_bok_s31_2 (Z : State) (a1 : Addr) (p1 : Int32) (ta : Addr) (ca : Addr) (kt : ClassId) (kc : ClassId) (h0 : Heap) (n0 : Nat) (v : Option Value) (h : Heap) (L : List Loc) : Prop := v = some (.int (1 : Int32)) ∧ Fr n0 L ∧ Keep h0 h [a1, ta, ca] ∧ Exa Z h a1 cN0 ∧ Fld Z h a1 cN0 "taken" "[I" (.ref ta) ∧ Fld Z h a1 cN0 "counts" "[I" (.ref ca) ∧ Fld Z h a1 cN0 "met" "I" (.int (1 : Int32)) ∧ Fld Z h a1 cN0 "repeated" "I" (.int (1 : Int32)) ∧ Fld Z h a1 cN0 "branches" "I" (.int (3 : Int32)) ∧ Fld Z h a1 cN0 "computed" "I" (.int (0 : Int32)) ∧ OAr Z h ta kt .int (oA8 (2 : Int32) (0 : Int32)) ∧ OAr Z h ca kc .int (oA8 p1 (0 : Int32))
set_option maxRecDepth 65536 in
set_option maxHeartbeats 40000000 in
theorem rm_bok_s31_2 (l : Launch) (Z : State) (a0 : Array Value) (hw : ∀ d ∈ tables_1, d.before a0 Z = true) (ws : List Jvm.Cond) (a1 : Addr) (p1 : Int32) (ta : Addr) (ca : Addr) (kt : ClassId) (kc : ClassId) (h0 : Heap) (n0 : Nat) (Z0 : n0 ≤ h0.size) (E_a1 : Exa Z h0 a1 cN0) (F_taken_a1 : Fld Z h0 a1 cN0 "taken" "[I" (.ref ta)) (F_counts_a1 : Fld Z h0 a1 cN0 "counts" "[I" (.ref ca)) (F_met_a1 : Fld Z h0 a1 cN0 "met" "I" (.int (0 : Int32))) (F_repeated_a1 : Fld Z h0 a1 cN0 "repeated" "I" (.int (1 : Int32))) (F_branches_a1 : Fld Z h0 a1 cN0 "branches" "I" (.int (3 : Int32))) (F_computed_a1 : Fld Z h0 a1 cN0 "computed" "I" (.int (0 : Int32))) (V_ta : OAr Z h0 ta kt .int (oA8 (2 : Int32) (0 : Int32))) (V_ca : OAr Z h0 ca kc .int (oA8 p1 (0 : Int32))) (g_a1 : n0 ≤ a1) (g_ta : n0 ≤ ta) (g_ca : n0 ≤ ca) (ne_a1_ta : a1 ≠ ta) (ne_a1_ca : a1 ≠ ca) (ne_ta_ca : ta ≠ ca) (hna : 3 ≤ p1.toInt) :
    MetFree l mN6 (head1 (Jvm.Cond.code mN6 method_4_code 6 (some .boolean) :: ws) ({ frames := 1, cells := 0, slots := 0, locals := 13 } : Room)) (fun a U => a = #[(.ref a1), (.int p1), (.int (1 : Int32)), (.int (2 : Int32))] ∧ Z.Warmed39 U.vm ∧ U.heap = h0) (fun _ _ _ _ _ => True) (fun _ U o U' => ∃ v L, o = .returned v ∧ Q_bok_s31_2 Z a1 p1 ta ca kt kc h0 n0 v U'.heap L ∧ FrameEnd U o U' L ({ frames := 1, cells := 0, slots := 0, locals := 13 } : Room).cells ({ frames := 1, cells := 0, slots := 0, locals := 13 } : Room).slots) := by
  refine MetFree.of_bodySF (plainFor_of_name pn_com_example_flote_flote_program_ChoicesNextPinLaw) hisR ?_
  intro p e s m args below meth c s₁ Bd hml0 hP hK
  obtain ⟨rfl, hZ, hh⟩ := hP
  have hx := Bd.exec
  have hby := Bd.bytes
  have hml : c.maxLocals = 6 := hml0
  have hown : s.vm.findClass "com/example/flote/flote/program/ChoicesNextPinLaw" = some m.cls := findClass_of_methodNamed Bd.named
  have hnm := (name_of_methodNamed Bd.named Bd.method).1
  have X0 : Stand p l e ({ frames := 1, cells := 0, slots := 0, locals := 13 } : Room) s m #[(.ref a1), (.int p1), (.int (1 : Int32)), (.int (2 : Int32))] below meth c s₁ [] 0 0 := Stand.of_body Bd
  have e0 : s₁.heap = h0 := by rw [← hh, Bd.state]; rfl
  have N0 := Fr.nil n0
  obtain ⟨A0, hA0⟩ : ∃ z, z = s₁.setTop (entryFrame m #[(.ref a1), (.int p1), (.int (1 : Int32)), (.int (2 : Int32))] 6) := ⟨_, rfl⟩
  have K : OGo p e below A0 s₁ (mkF m 0 #[rv a1, iv p1, iv 1, iv 2, .unset, .unset] []) := fun t k => hA0 ▸ castTop (ef_5 m a1 p1 (1 : Int32) (2 : Int32)) k
  replace K : OGo p e below A0 s₁ (mkF m 1 #[rv a1, iv p1, iv 1, iv 2, .unset, .unset] [(.ref a1)]) := fun t k => K t (XS.aloadN X0.here hx rfl (hb hby d5_0) rfl rfl k)
  replace K : OGo p e below A0 s₁ (mkF m 2 #[rv a1, iv p1, iv 1, iv 2, .unset, .unset] [(.int p1), (.ref a1)]) := fun t k => K t (XS.iloadN X0.here hx rfl (hb hby d5_1) rfl k)
  obtain ⟨cq1, kq1, qv1a, qv1b, qv1c⟩ := isOf hZ e0 E_a1
  obtain ⟨_, _, ⟨T1, L1, k1, n1⟩, -, X1, ⟨Lc1, hQ1, l1, y1, z1⟩, st1⟩ := X0.virtualBack hx (y := mN4) (z := mN4) hown (mvT hZ (ow hw 41 rfl)) (mvT hZ (ow hw 42 rfl)) (notFace_of_selects (args := #[]) (mvT hZ (ow hw 44 rfl))) (mvT hZ (ow hw 44 rfl)) (mvT hZ (ow hw 43 rfl)) (by decide) (backOf (W := 0) (rm_chooseR01 l Z a0 hw [] a1 p1 ta ca kt kc (2 : Int32) (0 : Int32) p1 (0 : Int32) (3 : Int32) (0 : Int32) h0 n0 Z0 E_a1 F_taken_a1 F_counts_a1 F_met_a1 F_repeated_a1 F_branches_a1 F_computed_a1 V_ta V_ca g_a1 g_ta g_ca ne_a1_ta ne_a1_ca ne_ta_ca (fun z => by have q := hna; rw [z] at q; have : (1 : Int32).toInt = 1 := (by decide); omega)) hZ (ow hw 45 rfl) (ow hw 7 rfl) (by decide) (by decide)) qv1a qv1c (g := (mkF m 2 #[rv a1, iv p1, iv 1, iv 2, .unset, .unset] [(.int p1), (.ref a1)])) rfl (by rw [hml]; rfl) (Steps.refl _) (argsL := [(.int p1)]) (rest := []) (lenOf pd__I_I rfl) rfl (by show 2 * 0 + _ ≤ _; exact Nat.le_of_eq rfl) (hb hby d5_2) (fun _ _ => ⟨rfl, e0, (by decide : 0 + 0 ≤ _), (by decide : 0 + 0 ≤ _)⟩)
  dsimp only [Pt.U, Pt.locs, Pt.cells, Pt.slots] at X1 l1 y1 z1 st1 hQ1
  subst l1 y1 z1
  obtain ⟨hp1, e1⟩ : ∃ z, T1.heap = z := ⟨_, rfl⟩
  rw [e1] at hQ1
  obtain ⟨rfl, Nq1, K1, P1_0, P1_1, P1_2, P1_3, P1_4, P1_5, P1_6, P1_7, P1_8⟩ := hQ1
  have Z1 : n0 ≤ hp1.size := Nat.le_trans Z0 K1.1
  have Kp1 : Keep h0 hp1 [a1, ta, ca] := (Keep.refl h0 [a1, ta, ca]).trans K1 (allS (Or.inl (List.mem_of_getElem? (i := 0) rfl)) (allS (Or.inl (List.mem_of_getElem? (i := 1) rfl)) (allS (Or.inl (List.mem_of_getElem? (i := 2) rfl)) all0)))
  have N1 := Fr.app N0 Nq1
  replace K : OGo p e below A0 T1 (mkF m 5 #[rv a1, iv p1, iv 1, iv 2, .unset, .unset] [(.int 2)]) := fun t k => K t (st1.trans k)
  replace K : OGo p e below A0 T1 (mkF m 7 #[rv a1, iv p1, iv 1, iv 2, iv 2, .unset] []) := fun t k => K t (XS.istore X1.here hx rfl (hb hby d5_5) rfl (l' := #[rv a1, iv p1, iv 1, iv 2, iv 2, .unset]) rfl k)
  replace K : OGo p e below A0 T1 (mkF m 8 #[rv a1, iv p1, iv 1, iv 2, iv 2, .unset] [(.ref a1)]) := fun t k => K t (XS.aloadN X1.here hx rfl (hb hby d5_7) rfl rfl k)
  replace K : OGo p e below A0 T1 (mkF m 9 #[rv a1, iv p1, iv 1, iv 2, iv 2, .unset] [(.int 1), (.ref a1)]) := fun t k => K t (XS.iloadN X1.here hx rfl (hb hby d5_8) rfl k)
  obtain ⟨cq2, kq2, qv2a, qv2b, qv2c⟩ := isOf hZ e1 P1_0
  obtain ⟨_, _, ⟨T2, L2, k2, n2⟩, -, X2, ⟨Lc2, hQ2, l2, y2, z2⟩, st2⟩ := X1.virtualBack hx (y := mN4) (z := mN4) hown (mvT hZ (ow hw 41 rfl)) (mvT hZ (ow hw 42 rfl)) (notFace_of_selects (args := #[]) (mvT hZ (ow hw 44 rfl))) (mvT hZ (ow hw 44 rfl)) (mvT hZ (ow hw 43 rfl)) (by decide) (backOf (W := 0) (rm_choose1 l Z a0 hw [] a1 hp1 n0 Z1 ) hZ (ow hw 45 rfl) (ow hw 7 rfl) (by decide) (by decide)) qv2a qv2c (g := (mkF m 9 #[rv a1, iv p1, iv 1, iv 2, iv 2, .unset] [(.int 1), (.ref a1)])) rfl (by rw [hml]; rfl) (Steps.refl _) (argsL := [(.int (1 : Int32))]) (rest := []) (lenOf pd__I_I rfl) rfl (by show 2 * 0 + _ ≤ _; exact Nat.le_of_eq rfl) (hb hby d5_9) (fun _ _ => ⟨rfl, e1, (by decide : 0 + 0 ≤ _), (by decide : 0 + 0 ≤ _)⟩)
  dsimp only [Pt.U, Pt.locs, Pt.cells, Pt.slots] at X2 l2 y2 z2 st2 hQ2
  subst l2 y2 z2
  obtain ⟨rfl, Nq2, e2⟩ := hQ2
  have N2 := Fr.app N1 Nq2
  replace K : OGo p e below A0 T2 (mkF m 12 #[rv a1, iv p1, iv 1, iv 2, iv 2, .unset] [(.int 0)]) := fun t k => K t (st2.trans k)
  replace K : OGo p e below A0 T2 (mkF m 14 #[rv a1, iv p1, iv 1, iv 2, iv 2, iv 0] []) := fun t k => K t (XS.istore X2.here hx rfl (hb hby d5_12) rfl (l' := #[rv a1, iv p1, iv 1, iv 2, iv 2, iv 0]) rfl k)
  replace K : OGo p e below A0 T2 (mkF m 16 #[rv a1, iv p1, iv 1, iv 2, iv 2, iv 0] [(.int 2)]) := fun t k => K t (XS.iload X2.here hx rfl (hb hby d5_14) rfl k)
  replace K : OGo p e below A0 T2 (mkF m 17 #[rv a1, iv p1, iv 1, iv 2, iv 2, iv 0] [(.int 2), (.int 2)]) := fun t k => K t (XS.iloadN X2.here hx rfl (hb hby d5_16) rfl k)
  replace K : OGo p e below A0 T2 (mkF m 18 #[rv a1, iv p1, iv 1, iv 2, iv 2, iv 0] [(.int 1), (.int 2), (.int 2)]) := fun t k => K t (XS.iloadN X2.here hx rfl (hb hby d5_17) rfl k)
  replace K : OGo p e below A0 T2 (mkF m 19 #[rv a1, iv p1, iv 1, iv 2, iv 2, iv 0] [(.int 2), (.int 2)]) := fun t k => K t (XS.idiv X2.here hx rfl (hb hby d5_18) rfl (by decide) k)
  replace K : OGo p e below A0 T2 (mkF m 22 #[rv a1, iv p1, iv 1, iv 2, iv 2, iv 0] []) := fun t k => K t (XS.icmpNo X2.here hx rfl (hb hby d5_19) rfl (teq ((by decide : (2 : Int32) = (2 : Int32)) : (2 : Int32) = (2 : Int32))).2 k)
  replace K : OGo p e below A0 T2 (mkF m 24 #[rv a1, iv p1, iv 1, iv 2, iv 2, iv 0] [(.int 0)]) := fun t k => K t (XS.iload X2.here hx rfl (hb hby d5_22) rfl k)
  replace K : OGo p e below A0 T2 (mkF m 25 #[rv a1, iv p1, iv 1, iv 2, iv 2, iv 0] [(.int 2), (.int 0)]) := fun t k => K t (XS.iloadN X2.here hx rfl (hb hby d5_24) rfl k)
  replace K : OGo p e below A0 T2 (mkF m 26 #[rv a1, iv p1, iv 1, iv 2, iv 2, iv 0] [(.int 1), (.int 2), (.int 0)]) := fun t k => K t (XS.iloadN X2.here hx rfl (hb hby d5_25) rfl k)
  replace K : OGo p e below A0 T2 (mkF m 27 #[rv a1, iv p1, iv 1, iv 2, iv 2, iv 0] [(.int 0), (.int 0)]) := fun t k => K t (iremM X2 hx rfl (hb hby d5_26) rfl (by decide) k)
  replace K : OGo p e below A0 T2 (mkF m 30 #[rv a1, iv p1, iv 1, iv 2, iv 2, iv 0] []) := fun t k => K t (XS.icmpNo X2.here hx rfl (hb hby d5_27) rfl (teq ((by decide : (0 : Int32) = (0 : Int32)) : (0 : Int32) = (0 : Int32))).2 k)
  replace K : OGo p e below A0 T2 (mkF m 31 #[rv a1, iv p1, iv 1, iv 2, iv 2, iv 0] [(.int 1)]) := fun t k => K t (XS.iconst X2.here hx rfl (hb hby d5_30) k)
  replace K : OGo p e below A0 T2 (mkF m 35 #[rv a1, iv p1, iv 1, iv 2, iv 2, iv 0] [(.int 1)]) := fun t k => K t (XS.goto X2.here hx rfl (pc0 := 31) (pc' := 35) rfl (hb hby d5_31) (by decide) (by decide) k)
  obtain ⟨fs, hr, hrun, hended, hW, hsame⟩ := X2.leave (v := some (.int (1 : Int32))) (fun h => by rw [Bd.returns] at h; cases h)
  subst hA0
  refine ⟨_, _, K _ (retN X2 hx (t := .boolean) Bd.returns (by simp) (hb hby d5_35) hr), hrun, hended, _, _, rfl, ?_, ⟨_, rfl⟩, hW, hsame.mono (by decide) (by decide)⟩
  show Q_bok_s31_2 Z a1 p1 ta ca kt kc h0 n0 _ T2.heap _
  rw [e2]
  exact ⟨rfl, N2, Kp1, P1_0, P1_1, P1_2, P1_3, P1_4, P1_5, P1_6, P1_7, P1_8⟩
def Q_bok_s22_0 (Z : State) (a1 : Addr) (p1 : Int32) (ta : Addr) (ca : Addr) (kt : ClassId) (kc : ClassId) (h0 : Heap) (n0 : Nat) (v : Option Value) (h : Heap) (L : List Loc) : Prop := v = some (.int (1 : Int32)) ∧ Fr n0 L ∧ Keep h0 h [a1, ta, ca] ∧ Exa Z h a1 cN0 ∧ Fld Z h a1 cN0 "taken" "[I" (.ref ta) ∧ Fld Z h a1 cN0 "counts" "[I" (.ref ca) ∧ Fld Z h a1 cN0 "met" "I" (.int (2 : Int32)) ∧ Fld Z h a1 cN0 "repeated" "I" (.int (0 : Int32)) ∧ Fld Z h a1 cN0 "branches" "I" (.int (1 : Int32)) ∧ Fld Z h a1 cN0 "computed" "I" (.int (0 : Int32)) ∧ OAr Z h ta kt .int (oA8 (0 : Int32) (0 : Int32)) ∧ OAr Z h ca kc .int (oA8 p1 (2 : Int32))
set_option maxRecDepth 65536 in
set_option maxHeartbeats 40000000 in
theorem rm_bok_s22_0 (l : Launch) (Z : State) (a0 : Array Value) (hw : ∀ d ∈ tables_1, d.before a0 Z = true) (ws : List Jvm.Cond) (a1 : Addr) (p1 : Int32) (ta : Addr) (ca : Addr) (kt : ClassId) (kc : ClassId) (h0 : Heap) (n0 : Nat) (Z0 : n0 ≤ h0.size) (E_a1 : Exa Z h0 a1 cN0) (F_taken_a1 : Fld Z h0 a1 cN0 "taken" "[I" (.ref ta)) (F_counts_a1 : Fld Z h0 a1 cN0 "counts" "[I" (.ref ca)) (F_met_a1 : Fld Z h0 a1 cN0 "met" "I" (.int (0 : Int32))) (F_repeated_a1 : Fld Z h0 a1 cN0 "repeated" "I" (.int (0 : Int32))) (F_branches_a1 : Fld Z h0 a1 cN0 "branches" "I" (.int (1 : Int32))) (F_computed_a1 : Fld Z h0 a1 cN0 "computed" "I" (.int (0 : Int32))) (V_ta : OAr Z h0 ta kt .int (oA8 (0 : Int32) (0 : Int32))) (V_ca : OAr Z h0 ca kc .int (oA8 (0 : Int32) (0 : Int32))) (g_a1 : n0 ≤ a1) (g_ta : n0 ≤ ta) (g_ca : n0 ≤ ca) (ne_a1_ta : a1 ≠ ta) (ne_a1_ca : a1 ≠ ca) (ne_ta_ca : ta ≠ ca) (hna : 2 ≤ p1.toInt) :
    MetFree l mN6 (head1 (Jvm.Cond.code mN6 method_4_code 6 (some .boolean) :: ws) ({ frames := 1, cells := 0, slots := 0, locals := 13 } : Room)) (fun a U => a = #[(.ref a1), (.int p1), (.int (2 : Int32)), (.int (0 : Int32))] ∧ Z.Warmed39 U.vm ∧ U.heap = h0) (fun _ _ _ _ _ => True) (fun _ U o U' => ∃ v L, o = .returned v ∧ Q_bok_s22_0 Z a1 p1 ta ca kt kc h0 n0 v U'.heap L ∧ FrameEnd U o U' L ({ frames := 1, cells := 0, slots := 0, locals := 13 } : Room).cells ({ frames := 1, cells := 0, slots := 0, locals := 13 } : Room).slots) := by
  refine MetFree.of_bodySF (plainFor_of_name pn_com_example_flote_flote_program_ChoicesNextPinLaw) hisR ?_
  intro p e s m args below meth c s₁ Bd hml0 hP hK
  obtain ⟨rfl, hZ, hh⟩ := hP
  have hx := Bd.exec
  have hby := Bd.bytes
  have hml : c.maxLocals = 6 := hml0
  have hown : s.vm.findClass "com/example/flote/flote/program/ChoicesNextPinLaw" = some m.cls := findClass_of_methodNamed Bd.named
  have hnm := (name_of_methodNamed Bd.named Bd.method).1
  have X0 : Stand p l e ({ frames := 1, cells := 0, slots := 0, locals := 13 } : Room) s m #[(.ref a1), (.int p1), (.int (2 : Int32)), (.int (0 : Int32))] below meth c s₁ [] 0 0 := Stand.of_body Bd
  have e0 : s₁.heap = h0 := by rw [← hh, Bd.state]; rfl
  have N0 := Fr.nil n0
  obtain ⟨A0, hA0⟩ : ∃ z, z = s₁.setTop (entryFrame m #[(.ref a1), (.int p1), (.int (2 : Int32)), (.int (0 : Int32))] 6) := ⟨_, rfl⟩
  have K : OGo p e below A0 s₁ (mkF m 0 #[rv a1, iv p1, iv 2, iv 0, .unset, .unset] []) := fun t k => hA0 ▸ castTop (ef_5 m a1 p1 (2 : Int32) (0 : Int32)) k
  replace K : OGo p e below A0 s₁ (mkF m 1 #[rv a1, iv p1, iv 2, iv 0, .unset, .unset] [(.ref a1)]) := fun t k => K t (XS.aloadN X0.here hx rfl (hb hby d5_0) rfl rfl k)
  replace K : OGo p e below A0 s₁ (mkF m 2 #[rv a1, iv p1, iv 2, iv 0, .unset, .unset] [(.int p1), (.ref a1)]) := fun t k => K t (XS.iloadN X0.here hx rfl (hb hby d5_1) rfl k)
  obtain ⟨cq1, kq1, qv1a, qv1b, qv1c⟩ := isOf hZ e0 E_a1
  obtain ⟨_, _, ⟨T1, L1, k1, n1⟩, -, X1, ⟨Lc1, hQ1, l1, y1, z1⟩, st1⟩ := X0.virtualBack hx (y := mN4) (z := mN4) hown (mvT hZ (ow hw 41 rfl)) (mvT hZ (ow hw 42 rfl)) (notFace_of_selects (args := #[]) (mvT hZ (ow hw 44 rfl))) (mvT hZ (ow hw 44 rfl)) (mvT hZ (ow hw 43 rfl)) (by decide) (backOf (W := 0) (rm_chooseN00 l Z a0 hw [] a1 p1 ta ca kt kc (0 : Int32) (0 : Int32) (0 : Int32) (0 : Int32) (1 : Int32) (0 : Int32) h0 n0 Z0 E_a1 F_taken_a1 F_counts_a1 F_met_a1 F_repeated_a1 F_branches_a1 F_computed_a1 V_ta V_ca g_a1 g_ta g_ca ne_a1_ta ne_a1_ca ne_ta_ca (fun z => by have q := hna; rw [z] at q; have : (1 : Int32).toInt = 1 := (by decide); omega)) hZ (ow hw 45 rfl) (ow hw 7 rfl) (by decide) (by decide)) qv1a qv1c (g := (mkF m 2 #[rv a1, iv p1, iv 2, iv 0, .unset, .unset] [(.int p1), (.ref a1)])) rfl (by rw [hml]; rfl) (Steps.refl _) (argsL := [(.int p1)]) (rest := []) (lenOf pd__I_I rfl) rfl (by show 2 * 0 + _ ≤ _; exact Nat.le_of_eq rfl) (hb hby d5_2) (fun _ _ => ⟨rfl, e0, (by decide : 0 + 0 ≤ _), (by decide : 0 + 0 ≤ _)⟩)
  dsimp only [Pt.U, Pt.locs, Pt.cells, Pt.slots] at X1 l1 y1 z1 st1 hQ1
  subst l1 y1 z1
  obtain ⟨hp1, e1⟩ : ∃ z, T1.heap = z := ⟨_, rfl⟩
  rw [e1] at hQ1
  obtain ⟨rfl, Nq1, K1, P1_0, P1_1, P1_2, P1_3, P1_4, P1_5, P1_6, P1_7, P1_8⟩ := hQ1
  have Z1 : n0 ≤ hp1.size := Nat.le_trans Z0 K1.1
  have Kp1 : Keep h0 hp1 [a1, ta, ca] := (Keep.refl h0 [a1, ta, ca]).trans K1 (allS (Or.inl (List.mem_of_getElem? (i := 0) rfl)) (allS (Or.inl (List.mem_of_getElem? (i := 1) rfl)) (allS (Or.inl (List.mem_of_getElem? (i := 2) rfl)) all0)))
  have N1 := Fr.app N0 Nq1
  replace K : OGo p e below A0 T1 (mkF m 5 #[rv a1, iv p1, iv 2, iv 0, .unset, .unset] [(.int 0)]) := fun t k => K t (st1.trans k)
  replace K : OGo p e below A0 T1 (mkF m 7 #[rv a1, iv p1, iv 2, iv 0, iv 0, .unset] []) := fun t k => K t (XS.istore X1.here hx rfl (hb hby d5_5) rfl (l' := #[rv a1, iv p1, iv 2, iv 0, iv 0, .unset]) rfl k)
  replace K : OGo p e below A0 T1 (mkF m 8 #[rv a1, iv p1, iv 2, iv 0, iv 0, .unset] [(.ref a1)]) := fun t k => K t (XS.aloadN X1.here hx rfl (hb hby d5_7) rfl rfl k)
  replace K : OGo p e below A0 T1 (mkF m 9 #[rv a1, iv p1, iv 2, iv 0, iv 0, .unset] [(.int 2), (.ref a1)]) := fun t k => K t (XS.iloadN X1.here hx rfl (hb hby d5_8) rfl k)
  obtain ⟨cq2, kq2, qv2a, qv2b, qv2c⟩ := isOf hZ e1 P1_0
  obtain ⟨_, _, ⟨T2, L2, k2, n2⟩, -, X2, ⟨Lc2, hQ2, l2, y2, z2⟩, st2⟩ := X1.virtualBack hx (y := mN4) (z := mN4) hown (mvT hZ (ow hw 41 rfl)) (mvT hZ (ow hw 42 rfl)) (notFace_of_selects (args := #[]) (mvT hZ (ow hw 44 rfl))) (mvT hZ (ow hw 44 rfl)) (mvT hZ (ow hw 43 rfl)) (by decide) (backOf (W := 0) (rm_chooseN10L l Z a0 hw [] a1 ta ca kt kc (0 : Int32) (0 : Int32) p1 (0 : Int32) (1 : Int32) (0 : Int32) hp1 n0 Z1 P1_0 P1_1 P1_2 P1_3 P1_4 P1_5 P1_6 P1_7 P1_8 g_a1 g_ta g_ca ne_a1_ta ne_a1_ca ne_ta_ca) hZ (ow hw 45 rfl) (ow hw 7 rfl) (by decide) (by decide)) qv2a qv2c (g := (mkF m 9 #[rv a1, iv p1, iv 2, iv 0, iv 0, .unset] [(.int 2), (.ref a1)])) rfl (by rw [hml]; rfl) (Steps.refl _) (argsL := [(.int (2 : Int32))]) (rest := []) (lenOf pd__I_I rfl) rfl (by show 2 * 0 + _ ≤ _; exact Nat.le_of_eq rfl) (hb hby d5_9) (fun _ _ => ⟨rfl, e1, (by decide : 0 + 0 ≤ _), (by decide : 0 + 0 ≤ _)⟩)
  dsimp only [Pt.U, Pt.locs, Pt.cells, Pt.slots] at X2 l2 y2 z2 st2 hQ2
  subst l2 y2 z2
  obtain ⟨hp2, e2⟩ : ∃ z, T2.heap = z := ⟨_, rfl⟩
  rw [e2] at hQ2
  obtain ⟨rfl, Nq2, K2, P2_0, P2_1, P2_2, P2_3, P2_4, P2_5, P2_6, P2_7, P2_8⟩ := hQ2
  have Z2 : n0 ≤ hp2.size := Nat.le_trans Z1 K2.1
  have Kp2 : Keep h0 hp2 [a1, ta, ca] := Kp1.trans K2 (allS (Or.inl (List.mem_of_getElem? (i := 0) rfl)) (allS (Or.inl (List.mem_of_getElem? (i := 1) rfl)) (allS (Or.inl (List.mem_of_getElem? (i := 2) rfl)) all0)))
  have N2 := Fr.app N1 Nq2
  replace K : OGo p e below A0 T2 (mkF m 12 #[rv a1, iv p1, iv 2, iv 0, iv 0, .unset] [(.int 0)]) := fun t k => K t (st2.trans k)
  replace K : OGo p e below A0 T2 (mkF m 14 #[rv a1, iv p1, iv 2, iv 0, iv 0, iv 0] []) := fun t k => K t (XS.istore X2.here hx rfl (hb hby d5_12) rfl (l' := #[rv a1, iv p1, iv 2, iv 0, iv 0, iv 0]) rfl k)
  replace K : OGo p e below A0 T2 (mkF m 16 #[rv a1, iv p1, iv 2, iv 0, iv 0, iv 0] [(.int 0)]) := fun t k => K t (XS.iload X2.here hx rfl (hb hby d5_14) rfl k)
  replace K : OGo p e below A0 T2 (mkF m 17 #[rv a1, iv p1, iv 2, iv 0, iv 0, iv 0] [(.int 0), (.int 0)]) := fun t k => K t (XS.iloadN X2.here hx rfl (hb hby d5_16) rfl k)
  replace K : OGo p e below A0 T2 (mkF m 18 #[rv a1, iv p1, iv 2, iv 0, iv 0, iv 0] [(.int 2), (.int 0), (.int 0)]) := fun t k => K t (XS.iloadN X2.here hx rfl (hb hby d5_17) rfl k)
  replace K : OGo p e below A0 T2 (mkF m 19 #[rv a1, iv p1, iv 2, iv 0, iv 0, iv 0] [(.int 0), (.int 0)]) := fun t k => K t (XS.idiv X2.here hx rfl (hb hby d5_18) rfl (by decide) k)
  replace K : OGo p e below A0 T2 (mkF m 22 #[rv a1, iv p1, iv 2, iv 0, iv 0, iv 0] []) := fun t k => K t (XS.icmpNo X2.here hx rfl (hb hby d5_19) rfl (teq ((by decide : (0 : Int32) = (0 : Int32)) : (0 : Int32) = (0 : Int32))).2 k)
  replace K : OGo p e below A0 T2 (mkF m 24 #[rv a1, iv p1, iv 2, iv 0, iv 0, iv 0] [(.int 0)]) := fun t k => K t (XS.iload X2.here hx rfl (hb hby d5_22) rfl k)
  replace K : OGo p e below A0 T2 (mkF m 25 #[rv a1, iv p1, iv 2, iv 0, iv 0, iv 0] [(.int 0), (.int 0)]) := fun t k => K t (XS.iloadN X2.here hx rfl (hb hby d5_24) rfl k)
  replace K : OGo p e below A0 T2 (mkF m 26 #[rv a1, iv p1, iv 2, iv 0, iv 0, iv 0] [(.int 2), (.int 0), (.int 0)]) := fun t k => K t (XS.iloadN X2.here hx rfl (hb hby d5_25) rfl k)
  replace K : OGo p e below A0 T2 (mkF m 27 #[rv a1, iv p1, iv 2, iv 0, iv 0, iv 0] [(.int 0), (.int 0)]) := fun t k => K t (iremM X2 hx rfl (hb hby d5_26) rfl (by decide) k)
  replace K : OGo p e below A0 T2 (mkF m 30 #[rv a1, iv p1, iv 2, iv 0, iv 0, iv 0] []) := fun t k => K t (XS.icmpNo X2.here hx rfl (hb hby d5_27) rfl (teq ((by decide : (0 : Int32) = (0 : Int32)) : (0 : Int32) = (0 : Int32))).2 k)
  replace K : OGo p e below A0 T2 (mkF m 31 #[rv a1, iv p1, iv 2, iv 0, iv 0, iv 0] [(.int 1)]) := fun t k => K t (XS.iconst X2.here hx rfl (hb hby d5_30) k)
  replace K : OGo p e below A0 T2 (mkF m 35 #[rv a1, iv p1, iv 2, iv 0, iv 0, iv 0] [(.int 1)]) := fun t k => K t (XS.goto X2.here hx rfl (pc0 := 31) (pc' := 35) rfl (hb hby d5_31) (by decide) (by decide) k)
  obtain ⟨fs, hr, hrun, hended, hW, hsame⟩ := X2.leave (v := some (.int (1 : Int32))) (fun h => by rw [Bd.returns] at h; cases h)
  subst hA0
  refine ⟨_, _, K _ (retN X2 hx (t := .boolean) Bd.returns (by simp) (hb hby d5_35) hr), hrun, hended, _, _, rfl, ?_, ⟨_, rfl⟩, hW, hsame.mono (by decide) (by decide)⟩
  show Q_bok_s22_0 Z a1 p1 ta ca kt kc h0 n0 _ T2.heap _
  rw [e2]
  exact ⟨rfl, N2, Kp2, P2_0, P2_1, P2_2, P2_3, P2_4, P2_5, P2_6, P2_7, P2_8⟩
def Q_nx_D_s22 (Z : State) (a1 : Addr) (ta : Addr) (ca : Addr) (kt : ClassId) (kc : ClassId) (c0 : Int32) (h0 : Heap) (n0 : Nat) (v : Option Value) (h : Heap) (L : List Loc) : Prop := v = some (.int (1 : Int32)) ∧ Fr n0 L ∧ Keep h0 h [a1, ta, ca] ∧ Exa Z h a1 cN0 ∧ Fld Z h a1 cN0 "taken" "[I" (.ref ta) ∧ Fld Z h a1 cN0 "counts" "[I" (.ref ca) ∧ Fld Z h a1 cN0 "met" "I" (.int (0 : Int32)) ∧ Fld Z h a1 cN0 "repeated" "I" (.int (2 : Int32)) ∧ Fld Z h a1 cN0 "branches" "I" (.int (2 : Int32)) ∧ Fld Z h a1 cN0 "computed" "I" (.int (0 : Int32)) ∧ OAr Z h ta kt .int (oA8 (0 : Int32) (1 : Int32)) ∧ OAr Z h ca kc .int (oA8 c0 (2 : Int32))
set_option maxRecDepth 65536 in
set_option maxHeartbeats 40000000 in
theorem rm_nx_D_s22 (l : Launch) (Z : State) (a0 : Array Value) (hw : ∀ d ∈ tables_1, d.before a0 Z = true) (ws : List Jvm.Cond) (a1 : Addr) (ta : Addr) (ca : Addr) (kt : ClassId) (kc : ClassId) (c0 : Int32) (h0 : Heap) (n0 : Nat) (Z0 : n0 ≤ h0.size) (E_a1 : Exa Z h0 a1 cN0) (F_taken_a1 : Fld Z h0 a1 cN0 "taken" "[I" (.ref ta)) (F_counts_a1 : Fld Z h0 a1 cN0 "counts" "[I" (.ref ca)) (F_met_a1 : Fld Z h0 a1 cN0 "met" "I" (.int (2 : Int32))) (F_repeated_a1 : Fld Z h0 a1 cN0 "repeated" "I" (.int (0 : Int32))) (F_branches_a1 : Fld Z h0 a1 cN0 "branches" "I" (.int (1 : Int32))) (F_computed_a1 : Fld Z h0 a1 cN0 "computed" "I" (.int (0 : Int32))) (V_ta : OAr Z h0 ta kt .int (oA8 (0 : Int32) (0 : Int32))) (V_ca : OAr Z h0 ca kc .int (oA8 c0 (2 : Int32))) (g_a1 : n0 ≤ a1) (g_ta : n0 ≤ ta) (g_ca : n0 ≤ ca) (ne_a1_ta : a1 ≠ ta) (ne_a1_ca : a1 ≠ ca) (ne_ta_ca : ta ≠ ca) (hc0 : 2 ≤ c0.toInt) :
    MetFree l mN7 (head1 (Jvm.Cond.code mN7 prog_72_method_6_code 3 (some .boolean) :: ws) ({ frames := 0, cells := 0, slots := 0, locals := 0 } : Room)) (fun a U => a = #[(.ref a1)] ∧ Z.Warmed39 U.vm ∧ U.heap = h0) (fun _ _ _ _ _ => True) (fun _ U o U' => ∃ v L, o = .returned v ∧ Q_nx_D_s22 Z a1 ta ca kt kc c0 h0 n0 v U'.heap L ∧ FrameEnd U o U' L ({ frames := 0, cells := 0, slots := 0, locals := 0 } : Room).cells ({ frames := 0, cells := 0, slots := 0, locals := 0 } : Room).slots) := by
  refine MetFree.of_bodySF (plainFor_of_name pn_com_example_flote_flote_program_Choices) hisR ?_
  intro p e s m args below meth c s₁ Bd hml0 hP hK
  obtain ⟨rfl, hZ, hh⟩ := hP
  have hx := Bd.exec
  have hby := Bd.bytes
  have hml : c.maxLocals = 3 := hml0
  have hown : s.vm.findClass "com/example/flote/flote/program/Choices" = some m.cls := findClass_of_methodNamed Bd.named
  have hnm := (name_of_methodNamed Bd.named Bd.method).1
  have X0 : Stand p l e ({ frames := 0, cells := 0, slots := 0, locals := 0 } : Room) s m #[(.ref a1)] below meth c s₁ [] 0 0 := Stand.of_body Bd
  have e0 : s₁.heap = h0 := by rw [← hh, Bd.state]; rfl
  have N0 := Fr.nil n0
  obtain ⟨A0, hA0⟩ : ∃ z, z = s₁.setTop (entryFrame m #[(.ref a1)] 3) := ⟨_, rfl⟩
  have K : OGo p e below A0 s₁ (mkF m 0 #[rv a1, .unset, .unset] []) := fun t k => hA0 ▸ castTop (ef_7 m a1) k
  replace K : OGo p e below A0 s₁ (mkF m 1 #[rv a1, .unset, .unset] [(.ref a1)]) := fun t k => K t (XS.aloadN X0.here hx rfl (hb hby d7_0) rfl rfl k)
  obtain ⟨T1, X1, e1, st1⟩ := getF X0 hx hZ hown (host := "") (Or.inl (ow hw 30 rfl)) Via.refl e0 F_met_a1 (g := (mkF m 1 #[rv a1, .unset, .unset] [(.ref a1)])) rfl rfl (hb hby d7_1)
  replace K : OGo p e below A0 T1 (mkF m 4 #[rv a1, .unset, .unset] [(.int 2)]) := fun t k => K t (st1 t k)
  replace K : OGo p e below A0 T1 (mkF m 5 #[rv a1, .unset, .unset] [(.int 1), (.int 2)]) := fun t k => K t (XS.iconst X1.here hx rfl (hb hby d7_4) k)
  replace K : OGo p e below A0 T1 (mkF m 6 #[rv a1, .unset, .unset] [(.int 1)]) := fun t k => K t (XS.isub X1.here hx rfl (hb hby d7_5) rfl k)
  replace K : OGo p e below A0 T1 (mkF m 7 #[rv a1, iv 1, .unset] []) := fun t k => K t (XS.istoreN X1.here hx rfl (hb hby d7_6) rfl (l' := #[rv a1, iv 1, .unset]) rfl k)
  replace K : OGo p e below A0 T1 (mkF m 8 #[rv a1, iv 1, .unset] [(.int 1)]) := fun t k => K t (XS.iloadN X1.here hx rfl (hb hby d7_7) rfl k)
  replace K : OGo p e below A0 T1 (mkF m 11 #[rv a1, iv 1, .unset] []) := fun t k => K t (XS.ifNo X1.here hx rfl (hb hby d7_8) rfl ((if0 _ _).trans (flt ((by decide : ¬ ((1 : Int32) < (0 : Int32))) : ¬ ((1 : Int32) < (0 : Int32)))).1) k)
  replace K : OGo p e below A0 T1 (mkF m 12 #[rv a1, iv 1, .unset] [(.ref a1)]) := fun t k => K t (XS.aloadN X1.here hx rfl (hb hby d7_11) rfl rfl k)
  obtain ⟨T2, X2, e2, st2⟩ := getF X1 hx hZ hown (host := "") (Or.inl (ow hw 15 rfl)) Via.refl e1 F_taken_a1 (g := (mkF m 12 #[rv a1, iv 1, .unset] [(.ref a1)])) rfl rfl (hb hby d7_12)
  replace K : OGo p e below A0 T2 (mkF m 15 #[rv a1, iv 1, .unset] [(.ref ta)]) := fun t k => K t (st2 t k)
  replace K : OGo p e below A0 T2 (mkF m 16 #[rv a1, iv 1, .unset] [(.int 1), (.ref ta)]) := fun t k => K t (XS.iloadN X2.here hx rfl (hb hby d7_15) rfl k)
  replace K : OGo p e below A0 T2 (mkF m 17 #[rv a1, iv 1, .unset] [(.int 0)]) := fun t k => K t (own_ldI X2 hx hZ e2 V_ta (j := (1 : Int32)) (v := (.int (0 : Int32))) (by decide) rfl (g := (mkF m 16 #[rv a1, iv 1, .unset] [(.int 1), (.ref ta)])) rfl rfl (hb hby d7_16) t k)
  replace K : OGo p e below A0 T2 (mkF m 18 #[rv a1, iv 1, .unset] [(.ref a1), (.int 0)]) := fun t k => K t (XS.aloadN X2.here hx rfl (hb hby d7_17) rfl rfl k)
  obtain ⟨T3, X3, e3, st3⟩ := getF X2 hx hZ hown (host := "") (Or.inl (ow hw 17 rfl)) Via.refl e2 F_counts_a1 (g := (mkF m 18 #[rv a1, iv 1, .unset] [(.ref a1), (.int 0)])) rfl rfl (hb hby d7_18)
  replace K : OGo p e below A0 T3 (mkF m 21 #[rv a1, iv 1, .unset] [(.ref ca), (.int 0)]) := fun t k => K t (st3 t k)
  replace K : OGo p e below A0 T3 (mkF m 22 #[rv a1, iv 1, .unset] [(.int 1), (.ref ca), (.int 0)]) := fun t k => K t (XS.iloadN X3.here hx rfl (hb hby d7_21) rfl k)
  replace K : OGo p e below A0 T3 (mkF m 23 #[rv a1, iv 1, .unset] [(.int 2), (.int 0)]) := fun t k => K t (own_ldI X3 hx hZ e3 V_ca (j := (1 : Int32)) (v := (.int (2 : Int32))) (by decide) rfl (g := (mkF m 22 #[rv a1, iv 1, .unset] [(.int 1), (.ref ca), (.int 0)])) rfl rfl (hb hby d7_22) t k)
  replace K : OGo p e below A0 T3 (mkF m 24 #[rv a1, iv 1, .unset] [(.int 1), (.int 2), (.int 0)]) := fun t k => K t (XS.iconst X3.here hx rfl (hb hby d7_23) k)
  replace K : OGo p e below A0 T3 (mkF m 25 #[rv a1, iv 1, .unset] [(.int 1), (.int 0)]) := fun t k => K t (XS.isub X3.here hx rfl (hb hby d7_24) rfl k)
  replace K : OGo p e below A0 T3 (mkF m 34 #[rv a1, iv 1, .unset] []) := fun t k => K t (XS.icmpYes X3.here hx rfl (pc0 := 25) (pc' := 34) rfl (hb hby d7_25) rfl (feq ((by decide : ¬ ((0 : Int32) = (1 : Int32))) : ¬ ((0 : Int32) = (1 : Int32)))).2 (by decide) (by decide) k)
  replace K : OGo p e below A0 T3 (mkF m 35 #[rv a1, iv 1, .unset] [(.int 1)]) := fun t k => K t (XS.iloadN X3.here hx rfl (hb hby d7_34) rfl k)
  replace K : OGo p e below A0 T3 (mkF m 38 #[rv a1, iv 1, .unset] []) := fun t k => K t (XS.ifNo X3.here hx rfl (hb hby d7_35) rfl ((if0 _ _).trans (flt ((by decide : ¬ ((1 : Int32) < (0 : Int32))) : ¬ ((1 : Int32) < (0 : Int32)))).1) k)
  replace K : OGo p e below A0 T3 (mkF m 39 #[rv a1, iv 1, .unset] [(.int 1)]) := fun t k => K t (XS.iconst X3.here hx rfl (hb hby d7_38) k)
  replace K : OGo p e below A0 T3 (mkF m 43 #[rv a1, iv 1, .unset] [(.int 1)]) := fun t k => K t (XS.goto X3.here hx rfl (pc0 := 39) (pc' := 43) rfl (hb hby d7_39) (by decide) (by decide) k)
  replace K : OGo p e below A0 T3 (mkF m 44 #[rv a1, iv 1, iv 1] []) := fun t k => K t (XS.istoreN X3.here hx rfl (hb hby d7_43) rfl (l' := #[rv a1, iv 1, iv 1]) rfl k)
  replace K : OGo p e below A0 T3 (mkF m 45 #[rv a1, iv 1, iv 1] [(.int 1)]) := fun t k => K t (XS.iloadN X3.here hx rfl (hb hby d7_44) rfl k)
  replace K : OGo p e below A0 T3 (mkF m 48 #[rv a1, iv 1, iv 1] []) := fun t k => K t (XS.ifNo X3.here hx rfl (hb hby d7_45) rfl ((if0 _ _).trans (feq ((by decide : ¬ ((1 : Int32) = (0 : Int32))) : ¬ ((1 : Int32) = (0 : Int32)))).1) k)
  replace K : OGo p e below A0 T3 (mkF m 49 #[rv a1, iv 1, iv 1] [(.ref a1)]) := fun t k => K t (XS.aloadN X3.here hx rfl (hb hby d7_48) rfl rfl k)
  obtain ⟨T4, X4, e4, st4⟩ := getF X3 hx hZ hown (host := "") (Or.inl (ow hw 15 rfl)) Via.refl e3 F_taken_a1 (g := (mkF m 49 #[rv a1, iv 1, iv 1] [(.ref a1)])) rfl rfl (hb hby d7_49)
  replace K : OGo p e below A0 T4 (mkF m 52 #[rv a1, iv 1, iv 1] [(.ref ta)]) := fun t k => K t (st4 t k)
  replace K : OGo p e below A0 T4 (mkF m 53 #[rv a1, iv 1, iv 1] [(.int 1), (.ref ta)]) := fun t k => K t (XS.iloadN X4.here hx rfl (hb hby d7_52) rfl k)
  replace K : OGo p e below A0 T4 (mkF m 54 #[rv a1, iv 1, iv 1] [(.int 1), (.ref ta), (.int 1), (.ref ta)]) := fun t k => K t (Jvm.Free.XT.dup2 X4.here hx rfl (hb hby d7_53) rfl rfl rfl k)
  replace K : OGo p e below A0 T4 (mkF m 55 #[rv a1, iv 1, iv 1] [(.int 0), (.int 1), (.ref ta)]) := fun t k => K t (own_ldI X4 hx hZ e4 V_ta (j := (1 : Int32)) (v := (.int (0 : Int32))) (by decide) rfl (g := (mkF m 54 #[rv a1, iv 1, iv 1] [(.int 1), (.ref ta), (.int 1), (.ref ta)])) rfl rfl (hb hby d7_54) t k)
  replace K : OGo p e below A0 T4 (mkF m 56 #[rv a1, iv 1, iv 1] [(.int 1), (.int 0), (.int 1), (.ref ta)]) := fun t k => K t (XS.iconst X4.here hx rfl (hb hby d7_55) k)
  replace K : OGo p e below A0 T4 (mkF m 57 #[rv a1, iv 1, iv 1] [(.int 1), (.int 1), (.ref ta)]) := fun t k => K t (XS.iadd X4.here hx rfl (hb hby d7_56) rfl k)
  obtain ⟨T5, h5, X5, e5, W5, V5, st5⟩ := own_stI X4 hx hZ e4 V_ta (j := (1 : Int32)) (by decide) (Nat.le_of_ble_eq_true rfl) (g := (mkF m 57 #[rv a1, iv 1, iv 1] [(.int 1), (.int 1), (.ref ta)])) rfl rfl (hb hby d7_57)
  have Z5 : n0 ≤ h5.size := Nat.le_trans Z0 (Keep.of_wr W5).1
  have Kp5 : Keep h0 h5 [a1, ta, ca] := (Keep.refl h0 [a1, ta, ca]).wr W5 (Or.inl (List.mem_of_getElem? (i := 1) rfl))
  have V_ta_5 : OAr Z h5 ta kt .int (oA8 (0 : Int32) (1 : Int32)) := V5
  have N5 := Fr.snoc X5 N0 g_ta
  replace K : OGo p e below A0 T5 (mkF m 58 #[rv a1, iv 1, iv 1] []) := fun t k => K t (st5 t k)
  replace K : OGo p e below A0 T5 (mkF m 59 #[rv a1, iv 1, iv 1] [(.ref a1)]) := fun t k => K t (XS.aloadN X5.here hx rfl (hb hby d7_58) rfl rfl k)
  replace K : OGo p e below A0 T5 (mkF m 60 #[rv a1, iv 1, iv 1] [(.int 1), (.ref a1)]) := fun t k => K t (XS.iloadN X5.here hx rfl (hb hby d7_59) rfl k)
  replace K : OGo p e below A0 T5 (mkF m 61 #[rv a1, iv 1, iv 1] [(.int 1), (.int 1), (.ref a1)]) := fun t k => K t (XS.iconst X5.here hx rfl (hb hby d7_60) k)
  replace K : OGo p e below A0 T5 (mkF m 62 #[rv a1, iv 1, iv 1] [(.int 2), (.ref a1)]) := fun t k => K t (XS.iadd X5.here hx rfl (hb hby d7_61) rfl k)
  have F_repeated_a1_6 := (F_repeated_a1.other W5 (Or.inl ne_a1_ta))
  have E_a1_7 := (E_a1.wr W5)
  obtain ⟨T8, h8, X8, e8, W8, st8⟩ := putF X5 hx hZ hown (host := "") (Or.inl (ow hw 32 rfl)) Via.refl e5 F_repeated_a1_6 E_a1_7 (Or.inl (ow hw 33 rfl)) (ow hw 6 rfl) (ty := .int) (by decide) rfl rfl (g := (mkF m 62 #[rv a1, iv 1, iv 1] [(.int 2), (.ref a1)])) rfl rfl (hb hby d7_62)
  have Z8 : n0 ≤ h8.size := Nat.le_trans Z5 (Keep.of_wr W8).1
  have Kp8 : Keep h0 h8 [a1, ta, ca] := Kp5.wr W8 (Or.inl (List.mem_of_getElem? (i := 0) rfl))
  have F_repeated_a1_8 := F_repeated_a1_6.same W8
  have N8 := Fr.snoc X8 N5 g_a1
  replace K : OGo p e below A0 T8 (mkF m 65 #[rv a1, iv 1, iv 1] []) := fun t k => K t (st8 t k)
  replace K : OGo p e below A0 T8 (mkF m 66 #[rv a1, iv 1, iv 1] [(.ref a1)]) := fun t k => K t (XS.aloadN X8.here hx rfl (hb hby d7_65) rfl rfl k)
  replace K : OGo p e below A0 T8 (mkF m 67 #[rv a1, iv 1, iv 1] [(.int 0), (.ref a1)]) := fun t k => K t (XS.iconst X8.here hx rfl (hb hby d7_66) k)
  have F_met_a1_9 := ((F_met_a1.other W5 (Or.inl ne_a1_ta)).other W8 (Or.inr (sn_cN0_met_repeated hw)))
  have E_a1_10 := (E_a1_7.wr W8)
  obtain ⟨T11, h11, X11, e11, W11, st11⟩ := putF X8 hx hZ hown (host := "") (Or.inl (ow hw 30 rfl)) Via.refl e8 F_met_a1_9 E_a1_10 (Or.inl (ow hw 31 rfl)) (ow hw 6 rfl) (ty := .int) (by decide) rfl rfl (g := (mkF m 67 #[rv a1, iv 1, iv 1] [(.int 0), (.ref a1)])) rfl rfl (hb hby d7_67)
  have Z11 : n0 ≤ h11.size := Nat.le_trans Z8 (Keep.of_wr W11).1
  have Kp11 : Keep h0 h11 [a1, ta, ca] := Kp8.wr W11 (Or.inl (List.mem_of_getElem? (i := 0) rfl))
  have F_met_a1_11 := F_met_a1_9.same W11
  have N11 := Fr.snoc X11 N8 g_a1
  replace K : OGo p e below A0 T11 (mkF m 70 #[rv a1, iv 1, iv 1] []) := fun t k => K t (st11 t k)
  replace K : OGo p e below A0 T11 (mkF m 71 #[rv a1, iv 1, iv 1] [(.ref a1)]) := fun t k => K t (XS.aloadN X11.here hx rfl (hb hby d7_70) rfl rfl k)
  replace K : OGo p e below A0 T11 (mkF m 72 #[rv a1, iv 1, iv 1] [(.ref a1), (.ref a1)]) := fun t k => K t (XS.dup X11.here hx rfl (hb hby d7_71) rfl rfl k)
  have F_branches_a1_12 := (((F_branches_a1.other W5 (Or.inl ne_a1_ta)).other W8 (Or.inr (sn_cN0_branches_repeated hw))).other W11 (Or.inr (sn_cN0_branches_met hw)))
  obtain ⟨T13, X13, e13, st13⟩ := getF X11 hx hZ hown (host := "") (Or.inl (ow hw 34 rfl)) Via.refl e11 F_branches_a1_12 (g := (mkF m 72 #[rv a1, iv 1, iv 1] [(.ref a1), (.ref a1)])) rfl rfl (hb hby d7_72)
  replace K : OGo p e below A0 T13 (mkF m 75 #[rv a1, iv 1, iv 1] [(.int 1), (.ref a1)]) := fun t k => K t (st13 t k)
  replace K : OGo p e below A0 T13 (mkF m 76 #[rv a1, iv 1, iv 1] [(.int 1), (.int 1), (.ref a1)]) := fun t k => K t (XS.iconst X13.here hx rfl (hb hby d7_75) k)
  replace K : OGo p e below A0 T13 (mkF m 77 #[rv a1, iv 1, iv 1] [(.int 2), (.ref a1)]) := fun t k => K t (XS.iadd X13.here hx rfl (hb hby d7_76) rfl k)
  have E_a1_14 := (E_a1_10.wr W11)
  obtain ⟨T15, h15, X15, e15, W15, st15⟩ := putF X13 hx hZ hown (host := "") (Or.inl (ow hw 34 rfl)) Via.refl e13 F_branches_a1_12 E_a1_14 (Or.inl (ow hw 35 rfl)) (ow hw 6 rfl) (ty := .int) (by decide) rfl rfl (g := (mkF m 77 #[rv a1, iv 1, iv 1] [(.int 2), (.ref a1)])) rfl rfl (hb hby d7_77)
  have Z15 : n0 ≤ h15.size := Nat.le_trans Z11 (Keep.of_wr W15).1
  have Kp15 : Keep h0 h15 [a1, ta, ca] := Kp11.wr W15 (Or.inl (List.mem_of_getElem? (i := 0) rfl))
  have F_branches_a1_15 := F_branches_a1_12.same W15
  have N15 := Fr.snoc X15 N11 g_a1
  replace K : OGo p e below A0 T15 (mkF m 80 #[rv a1, iv 1, iv 1] []) := fun t k => K t (st15 t k)
  replace K : OGo p e below A0 T15 (mkF m 81 #[rv a1, iv 1, iv 1] [(.ref a1)]) := fun t k => K t (XS.aloadN X15.here hx rfl (hb hby d7_80) rfl rfl k)
  replace K : OGo p e below A0 T15 (mkF m 82 #[rv a1, iv 1, iv 1] [(.int 0), (.ref a1)]) := fun t k => K t (XS.iconst X15.here hx rfl (hb hby d7_81) k)
  have F_computed_a1_16 := ((((F_computed_a1.other W5 (Or.inl ne_a1_ta)).other W8 (Or.inr (sn_cN0_computed_repeated hw))).other W11 (Or.inr (sn_cN0_computed_met hw))).other W15 (Or.inr (sn_cN0_computed_branches hw)))
  have E_a1_17 := (E_a1_14.wr W15)
  obtain ⟨T18, h18, X18, e18, W18, st18⟩ := putF X15 hx hZ hown (host := "") (Or.inl (ow hw 36 rfl)) Via.refl e15 F_computed_a1_16 E_a1_17 (Or.inl (ow hw 37 rfl)) (ow hw 6 rfl) (ty := .int) (by decide) rfl rfl (g := (mkF m 82 #[rv a1, iv 1, iv 1] [(.int 0), (.ref a1)])) rfl rfl (hb hby d7_82)
  have Z18 : n0 ≤ h18.size := Nat.le_trans Z15 (Keep.of_wr W18).1
  have Kp18 : Keep h0 h18 [a1, ta, ca] := Kp15.wr W18 (Or.inl (List.mem_of_getElem? (i := 0) rfl))
  have F_computed_a1_18 := F_computed_a1_16.same W18
  have N18 := Fr.snoc X18 N15 g_a1
  replace K : OGo p e below A0 T18 (mkF m 85 #[rv a1, iv 1, iv 1] []) := fun t k => K t (st18 t k)
  replace K : OGo p e below A0 T18 (mkF m 86 #[rv a1, iv 1, iv 1] [(.int 1)]) := fun t k => K t (XS.iloadN X18.here hx rfl (hb hby d7_85) rfl k)
  have E_a1_19 := (E_a1_17.wr W18)
  have F_taken_a1_20 := (((((F_taken_a1.other W5 (Or.inl ne_a1_ta)).other W8 (Or.inr (sn_cN0_taken_repeated hw))).other W11 (Or.inr (sn_cN0_taken_met hw))).other W15 (Or.inr (sn_cN0_taken_branches hw))).other W18 (Or.inr (sn_cN0_taken_computed hw)))
  have F_counts_a1_21 := (((((F_counts_a1.other W5 (Or.inl ne_a1_ta)).other W8 (Or.inr (sn_cN0_counts_repeated hw))).other W11 (Or.inr (sn_cN0_counts_met hw))).other W15 (Or.inr (sn_cN0_counts_branches hw))).other W18 (Or.inr (sn_cN0_counts_computed hw)))
  have F_met_a1_22 := ((F_met_a1_11.other W15 (Or.inr (sn_cN0_met_branches hw))).other W18 (Or.inr (sn_cN0_met_computed hw)))
  have F_repeated_a1_23 := (((F_repeated_a1_8.other W11 (Or.inr (sn_cN0_repeated_met hw))).other W15 (Or.inr (sn_cN0_repeated_branches hw))).other W18 (Or.inr (sn_cN0_repeated_computed hw)))
  have F_branches_a1_24 := (F_branches_a1_15.other W18 (Or.inr (sn_cN0_branches_computed hw)))
  have V_ta_25 := ((((V_ta_5.other W8 (Ne.symm ne_a1_ta)).other W11 (Ne.symm ne_a1_ta)).other W15 (Ne.symm ne_a1_ta)).other W18 (Ne.symm ne_a1_ta))
  have V_ca_26 := (((((V_ca.other W5 (Ne.symm ne_ta_ca)).other W8 (Ne.symm ne_a1_ca)).other W11 (Ne.symm ne_a1_ca)).other W15 (Ne.symm ne_a1_ca)).other W18 (Ne.symm ne_a1_ca))
  obtain ⟨fs, hr, hrun, hended, hW, hsame⟩ := X18.leave (v := some (.int (1 : Int32))) (fun h => by rw [Bd.returns] at h; cases h)
  subst hA0
  refine ⟨_, _, K _ (retN X18 hx (t := .boolean) Bd.returns (by simp) (hb hby d7_86) hr), hrun, hended, _, _, rfl, ?_, ⟨_, rfl⟩, hW, hsame.mono (by decide) (by decide)⟩
  show Q_nx_D_s22 Z a1 ta ca kt kc c0 h0 n0 _ T18.heap _
  rw [e18]
  exact ⟨rfl, N18, Kp18, E_a1_19, F_taken_a1_20, F_counts_a1_21, F_met_a1_22, F_repeated_a1_23, F_branches_a1_24, F_computed_a1_18, V_ta_25, V_ca_26⟩
def Q_bok_s22_1 (Z : State) (a1 : Addr) (p1 : Int32) (ta : Addr) (ca : Addr) (kt : ClassId) (kc : ClassId) (h0 : Heap) (n0 : Nat) (v : Option Value) (h : Heap) (L : List Loc) : Prop := v = some (.int (1 : Int32)) ∧ Fr n0 L ∧ Keep h0 h [a1, ta, ca] ∧ Exa Z h a1 cN0 ∧ Fld Z h a1 cN0 "taken" "[I" (.ref ta) ∧ Fld Z h a1 cN0 "counts" "[I" (.ref ca) ∧ Fld Z h a1 cN0 "met" "I" (.int (2 : Int32)) ∧ Fld Z h a1 cN0 "repeated" "I" (.int (2 : Int32)) ∧ Fld Z h a1 cN0 "branches" "I" (.int (2 : Int32)) ∧ Fld Z h a1 cN0 "computed" "I" (.int (0 : Int32)) ∧ OAr Z h ta kt .int (oA8 (0 : Int32) (1 : Int32)) ∧ OAr Z h ca kc .int (oA8 p1 (2 : Int32))
set_option maxRecDepth 65536 in
set_option maxHeartbeats 40000000 in
theorem rm_bok_s22_1 (l : Launch) (Z : State) (a0 : Array Value) (hw : ∀ d ∈ tables_1, d.before a0 Z = true) (ws : List Jvm.Cond) (a1 : Addr) (p1 : Int32) (ta : Addr) (ca : Addr) (kt : ClassId) (kc : ClassId) (h0 : Heap) (n0 : Nat) (Z0 : n0 ≤ h0.size) (E_a1 : Exa Z h0 a1 cN0) (F_taken_a1 : Fld Z h0 a1 cN0 "taken" "[I" (.ref ta)) (F_counts_a1 : Fld Z h0 a1 cN0 "counts" "[I" (.ref ca)) (F_met_a1 : Fld Z h0 a1 cN0 "met" "I" (.int (0 : Int32))) (F_repeated_a1 : Fld Z h0 a1 cN0 "repeated" "I" (.int (2 : Int32))) (F_branches_a1 : Fld Z h0 a1 cN0 "branches" "I" (.int (2 : Int32))) (F_computed_a1 : Fld Z h0 a1 cN0 "computed" "I" (.int (0 : Int32))) (V_ta : OAr Z h0 ta kt .int (oA8 (0 : Int32) (1 : Int32))) (V_ca : OAr Z h0 ca kc .int (oA8 p1 (2 : Int32))) (g_a1 : n0 ≤ a1) (g_ta : n0 ≤ ta) (g_ca : n0 ≤ ca) (ne_a1_ta : a1 ≠ ta) (ne_a1_ca : a1 ≠ ca) (ne_ta_ca : ta ≠ ca) (hna : 2 ≤ p1.toInt) :
    MetFree l mN6 (head1 (Jvm.Cond.code mN6 method_4_code 6 (some .boolean) :: ws) ({ frames := 1, cells := 0, slots := 0, locals := 13 } : Room)) (fun a U => a = #[(.ref a1), (.int p1), (.int (2 : Int32)), (.int (1 : Int32))] ∧ Z.Warmed39 U.vm ∧ U.heap = h0) (fun _ _ _ _ _ => True) (fun _ U o U' => ∃ v L, o = .returned v ∧ Q_bok_s22_1 Z a1 p1 ta ca kt kc h0 n0 v U'.heap L ∧ FrameEnd U o U' L ({ frames := 1, cells := 0, slots := 0, locals := 13 } : Room).cells ({ frames := 1, cells := 0, slots := 0, locals := 13 } : Room).slots) := by
  refine MetFree.of_bodySF (plainFor_of_name pn_com_example_flote_flote_program_ChoicesNextPinLaw) hisR ?_
  intro p e s m args below meth c s₁ Bd hml0 hP hK
  obtain ⟨rfl, hZ, hh⟩ := hP
  have hx := Bd.exec
  have hby := Bd.bytes
  have hml : c.maxLocals = 6 := hml0
  have hown : s.vm.findClass "com/example/flote/flote/program/ChoicesNextPinLaw" = some m.cls := findClass_of_methodNamed Bd.named
  have hnm := (name_of_methodNamed Bd.named Bd.method).1
  have X0 : Stand p l e ({ frames := 1, cells := 0, slots := 0, locals := 13 } : Room) s m #[(.ref a1), (.int p1), (.int (2 : Int32)), (.int (1 : Int32))] below meth c s₁ [] 0 0 := Stand.of_body Bd
  have e0 : s₁.heap = h0 := by rw [← hh, Bd.state]; rfl
  have N0 := Fr.nil n0
  obtain ⟨A0, hA0⟩ : ∃ z, z = s₁.setTop (entryFrame m #[(.ref a1), (.int p1), (.int (2 : Int32)), (.int (1 : Int32))] 6) := ⟨_, rfl⟩
  have K : OGo p e below A0 s₁ (mkF m 0 #[rv a1, iv p1, iv 2, iv 1, .unset, .unset] []) := fun t k => hA0 ▸ castTop (ef_5 m a1 p1 (2 : Int32) (1 : Int32)) k
  replace K : OGo p e below A0 s₁ (mkF m 1 #[rv a1, iv p1, iv 2, iv 1, .unset, .unset] [(.ref a1)]) := fun t k => K t (XS.aloadN X0.here hx rfl (hb hby d5_0) rfl rfl k)
  replace K : OGo p e below A0 s₁ (mkF m 2 #[rv a1, iv p1, iv 2, iv 1, .unset, .unset] [(.int p1), (.ref a1)]) := fun t k => K t (XS.iloadN X0.here hx rfl (hb hby d5_1) rfl k)
  obtain ⟨cq1, kq1, qv1a, qv1b, qv1c⟩ := isOf hZ e0 E_a1
  obtain ⟨_, _, ⟨T1, L1, k1, n1⟩, -, X1, ⟨Lc1, hQ1, l1, y1, z1⟩, st1⟩ := X0.virtualBack hx (y := mN4) (z := mN4) hown (mvT hZ (ow hw 41 rfl)) (mvT hZ (ow hw 42 rfl)) (notFace_of_selects (args := #[]) (mvT hZ (ow hw 44 rfl))) (mvT hZ (ow hw 44 rfl)) (mvT hZ (ow hw 43 rfl)) (by decide) (backOf (W := 0) (rm_chooseR02 l Z a0 hw [] a1 p1 ta ca kt kc (0 : Int32) (1 : Int32) p1 (2 : Int32) (2 : Int32) (0 : Int32) h0 n0 Z0 E_a1 F_taken_a1 F_counts_a1 F_met_a1 F_repeated_a1 F_branches_a1 F_computed_a1 V_ta V_ca g_a1 g_ta g_ca ne_a1_ta ne_a1_ca ne_ta_ca (fun z => by have q := hna; rw [z] at q; have : (1 : Int32).toInt = 1 := (by decide); omega)) hZ (ow hw 45 rfl) (ow hw 7 rfl) (by decide) (by decide)) qv1a qv1c (g := (mkF m 2 #[rv a1, iv p1, iv 2, iv 1, .unset, .unset] [(.int p1), (.ref a1)])) rfl (by rw [hml]; rfl) (Steps.refl _) (argsL := [(.int p1)]) (rest := []) (lenOf pd__I_I rfl) rfl (by show 2 * 0 + _ ≤ _; exact Nat.le_of_eq rfl) (hb hby d5_2) (fun _ _ => ⟨rfl, e0, (by decide : 0 + 0 ≤ _), (by decide : 0 + 0 ≤ _)⟩)
  dsimp only [Pt.U, Pt.locs, Pt.cells, Pt.slots] at X1 l1 y1 z1 st1 hQ1
  subst l1 y1 z1
  obtain ⟨hp1, e1⟩ : ∃ z, T1.heap = z := ⟨_, rfl⟩
  rw [e1] at hQ1
  obtain ⟨rfl, Nq1, K1, P1_0, P1_1, P1_2, P1_3, P1_4, P1_5, P1_6, P1_7, P1_8⟩ := hQ1
  have Z1 : n0 ≤ hp1.size := Nat.le_trans Z0 K1.1
  have Kp1 : Keep h0 hp1 [a1, ta, ca] := (Keep.refl h0 [a1, ta, ca]).trans K1 (allS (Or.inl (List.mem_of_getElem? (i := 0) rfl)) (allS (Or.inl (List.mem_of_getElem? (i := 1) rfl)) (allS (Or.inl (List.mem_of_getElem? (i := 2) rfl)) all0)))
  have N1 := Fr.app N0 Nq1
  replace K : OGo p e below A0 T1 (mkF m 5 #[rv a1, iv p1, iv 2, iv 1, .unset, .unset] [(.int 0)]) := fun t k => K t (st1.trans k)
  replace K : OGo p e below A0 T1 (mkF m 7 #[rv a1, iv p1, iv 2, iv 1, iv 0, .unset] []) := fun t k => K t (XS.istore X1.here hx rfl (hb hby d5_5) rfl (l' := #[rv a1, iv p1, iv 2, iv 1, iv 0, .unset]) rfl k)
  replace K : OGo p e below A0 T1 (mkF m 8 #[rv a1, iv p1, iv 2, iv 1, iv 0, .unset] [(.ref a1)]) := fun t k => K t (XS.aloadN X1.here hx rfl (hb hby d5_7) rfl rfl k)
  replace K : OGo p e below A0 T1 (mkF m 9 #[rv a1, iv p1, iv 2, iv 1, iv 0, .unset] [(.int 2), (.ref a1)]) := fun t k => K t (XS.iloadN X1.here hx rfl (hb hby d5_8) rfl k)
  obtain ⟨cq2, kq2, qv2a, qv2b, qv2c⟩ := isOf hZ e1 P1_0
  obtain ⟨_, _, ⟨T2, L2, k2, n2⟩, -, X2, ⟨Lc2, hQ2, l2, y2, z2⟩, st2⟩ := X1.virtualBack hx (y := mN4) (z := mN4) hown (mvT hZ (ow hw 41 rfl)) (mvT hZ (ow hw 42 rfl)) (notFace_of_selects (args := #[]) (mvT hZ (ow hw 44 rfl))) (mvT hZ (ow hw 44 rfl)) (mvT hZ (ow hw 43 rfl)) (by decide) (backOf (W := 0) (rm_chooseR12L l Z a0 hw [] a1 ta ca kt kc (0 : Int32) (1 : Int32) p1 (2 : Int32) (2 : Int32) (0 : Int32) hp1 n0 Z1 P1_0 P1_1 P1_2 P1_3 P1_4 P1_5 P1_6 P1_7 P1_8 g_a1 g_ta g_ca ne_a1_ta ne_a1_ca ne_ta_ca) hZ (ow hw 45 rfl) (ow hw 7 rfl) (by decide) (by decide)) qv2a qv2c (g := (mkF m 9 #[rv a1, iv p1, iv 2, iv 1, iv 0, .unset] [(.int 2), (.ref a1)])) rfl (by rw [hml]; rfl) (Steps.refl _) (argsL := [(.int (2 : Int32))]) (rest := []) (lenOf pd__I_I rfl) rfl (by show 2 * 0 + _ ≤ _; exact Nat.le_of_eq rfl) (hb hby d5_9) (fun _ _ => ⟨rfl, e1, (by decide : 0 + 0 ≤ _), (by decide : 0 + 0 ≤ _)⟩)
  dsimp only [Pt.U, Pt.locs, Pt.cells, Pt.slots] at X2 l2 y2 z2 st2 hQ2
  subst l2 y2 z2
  obtain ⟨hp2, e2⟩ : ∃ z, T2.heap = z := ⟨_, rfl⟩
  rw [e2] at hQ2
  obtain ⟨rfl, Nq2, K2, P2_0, P2_1, P2_2, P2_3, P2_4, P2_5, P2_6, P2_7, P2_8⟩ := hQ2
  have Z2 : n0 ≤ hp2.size := Nat.le_trans Z1 K2.1
  have Kp2 : Keep h0 hp2 [a1, ta, ca] := Kp1.trans K2 (allS (Or.inl (List.mem_of_getElem? (i := 0) rfl)) (allS (Or.inl (List.mem_of_getElem? (i := 1) rfl)) (allS (Or.inl (List.mem_of_getElem? (i := 2) rfl)) all0)))
  have N2 := Fr.app N1 Nq2
  replace K : OGo p e below A0 T2 (mkF m 12 #[rv a1, iv p1, iv 2, iv 1, iv 0, .unset] [(.int 1)]) := fun t k => K t (st2.trans k)
  replace K : OGo p e below A0 T2 (mkF m 14 #[rv a1, iv p1, iv 2, iv 1, iv 0, iv 1] []) := fun t k => K t (XS.istore X2.here hx rfl (hb hby d5_12) rfl (l' := #[rv a1, iv p1, iv 2, iv 1, iv 0, iv 1]) rfl k)
  replace K : OGo p e below A0 T2 (mkF m 16 #[rv a1, iv p1, iv 2, iv 1, iv 0, iv 1] [(.int 0)]) := fun t k => K t (XS.iload X2.here hx rfl (hb hby d5_14) rfl k)
  replace K : OGo p e below A0 T2 (mkF m 17 #[rv a1, iv p1, iv 2, iv 1, iv 0, iv 1] [(.int 1), (.int 0)]) := fun t k => K t (XS.iloadN X2.here hx rfl (hb hby d5_16) rfl k)
  replace K : OGo p e below A0 T2 (mkF m 18 #[rv a1, iv p1, iv 2, iv 1, iv 0, iv 1] [(.int 2), (.int 1), (.int 0)]) := fun t k => K t (XS.iloadN X2.here hx rfl (hb hby d5_17) rfl k)
  replace K : OGo p e below A0 T2 (mkF m 19 #[rv a1, iv p1, iv 2, iv 1, iv 0, iv 1] [(.int 0), (.int 0)]) := fun t k => K t (XS.idiv X2.here hx rfl (hb hby d5_18) rfl (by decide) k)
  replace K : OGo p e below A0 T2 (mkF m 22 #[rv a1, iv p1, iv 2, iv 1, iv 0, iv 1] []) := fun t k => K t (XS.icmpNo X2.here hx rfl (hb hby d5_19) rfl (teq ((by decide : (0 : Int32) = (0 : Int32)) : (0 : Int32) = (0 : Int32))).2 k)
  replace K : OGo p e below A0 T2 (mkF m 24 #[rv a1, iv p1, iv 2, iv 1, iv 0, iv 1] [(.int 1)]) := fun t k => K t (XS.iload X2.here hx rfl (hb hby d5_22) rfl k)
  replace K : OGo p e below A0 T2 (mkF m 25 #[rv a1, iv p1, iv 2, iv 1, iv 0, iv 1] [(.int 1), (.int 1)]) := fun t k => K t (XS.iloadN X2.here hx rfl (hb hby d5_24) rfl k)
  replace K : OGo p e below A0 T2 (mkF m 26 #[rv a1, iv p1, iv 2, iv 1, iv 0, iv 1] [(.int 2), (.int 1), (.int 1)]) := fun t k => K t (XS.iloadN X2.here hx rfl (hb hby d5_25) rfl k)
  replace K : OGo p e below A0 T2 (mkF m 27 #[rv a1, iv p1, iv 2, iv 1, iv 0, iv 1] [(.int 1), (.int 1)]) := fun t k => K t (iremM X2 hx rfl (hb hby d5_26) rfl (by decide) k)
  replace K : OGo p e below A0 T2 (mkF m 30 #[rv a1, iv p1, iv 2, iv 1, iv 0, iv 1] []) := fun t k => K t (XS.icmpNo X2.here hx rfl (hb hby d5_27) rfl (teq ((by decide : (1 : Int32) = (1 : Int32)) : (1 : Int32) = (1 : Int32))).2 k)
  replace K : OGo p e below A0 T2 (mkF m 31 #[rv a1, iv p1, iv 2, iv 1, iv 0, iv 1] [(.int 1)]) := fun t k => K t (XS.iconst X2.here hx rfl (hb hby d5_30) k)
  replace K : OGo p e below A0 T2 (mkF m 35 #[rv a1, iv p1, iv 2, iv 1, iv 0, iv 1] [(.int 1)]) := fun t k => K t (XS.goto X2.here hx rfl (pc0 := 31) (pc' := 35) rfl (hb hby d5_31) (by decide) (by decide) k)
  obtain ⟨fs, hr, hrun, hended, hW, hsame⟩ := X2.leave (v := some (.int (1 : Int32))) (fun h => by rw [Bd.returns] at h; cases h)
  subst hA0
  refine ⟨_, _, K _ (retN X2 hx (t := .boolean) Bd.returns (by simp) (hb hby d5_35) hr), hrun, hended, _, _, rfl, ?_, ⟨_, rfl⟩, hW, hsame.mono (by decide) (by decide)⟩
  show Q_bok_s22_1 Z a1 p1 ta ca kt kc h0 n0 _ T2.heap _
  rw [e2]
  exact ⟨rfl, N2, Kp2, P2_0, P2_1, P2_2, P2_3, P2_4, P2_5, P2_6, P2_7, P2_8⟩
def Q_nx_E_s22 (Z : State) (a1 : Addr) (ta : Addr) (ca : Addr) (kt : ClassId) (kc : ClassId) (c0 : Int32) (h0 : Heap) (n0 : Nat) (v : Option Value) (h : Heap) (L : List Loc) : Prop := v = some (.int (1 : Int32)) ∧ Fr n0 L ∧ Keep h0 h [a1, ta, ca] ∧ Exa Z h a1 cN0 ∧ Fld Z h a1 cN0 "taken" "[I" (.ref ta) ∧ Fld Z h a1 cN0 "counts" "[I" (.ref ca) ∧ Fld Z h a1 cN0 "met" "I" (.int (0 : Int32)) ∧ Fld Z h a1 cN0 "repeated" "I" (.int (1 : Int32)) ∧ Fld Z h a1 cN0 "branches" "I" (.int (3 : Int32)) ∧ Fld Z h a1 cN0 "computed" "I" (.int (0 : Int32)) ∧ OAr Z h ta kt .int (oA8 (1 : Int32) (1 : Int32)) ∧ OAr Z h ca kc .int (oA8 c0 (2 : Int32))
set_option maxRecDepth 65536 in
set_option maxHeartbeats 40000000 in
theorem rm_nx_E_s22 (l : Launch) (Z : State) (a0 : Array Value) (hw : ∀ d ∈ tables_1, d.before a0 Z = true) (ws : List Jvm.Cond) (a1 : Addr) (ta : Addr) (ca : Addr) (kt : ClassId) (kc : ClassId) (c0 : Int32) (h0 : Heap) (n0 : Nat) (Z0 : n0 ≤ h0.size) (E_a1 : Exa Z h0 a1 cN0) (F_taken_a1 : Fld Z h0 a1 cN0 "taken" "[I" (.ref ta)) (F_counts_a1 : Fld Z h0 a1 cN0 "counts" "[I" (.ref ca)) (F_met_a1 : Fld Z h0 a1 cN0 "met" "I" (.int (2 : Int32))) (F_repeated_a1 : Fld Z h0 a1 cN0 "repeated" "I" (.int (2 : Int32))) (F_branches_a1 : Fld Z h0 a1 cN0 "branches" "I" (.int (2 : Int32))) (F_computed_a1 : Fld Z h0 a1 cN0 "computed" "I" (.int (0 : Int32))) (V_ta : OAr Z h0 ta kt .int (oA8 (0 : Int32) (1 : Int32))) (V_ca : OAr Z h0 ca kc .int (oA8 c0 (2 : Int32))) (g_a1 : n0 ≤ a1) (g_ta : n0 ≤ ta) (g_ca : n0 ≤ ca) (ne_a1_ta : a1 ≠ ta) (ne_a1_ca : a1 ≠ ca) (ne_ta_ca : ta ≠ ca) (hc0 : 2 ≤ c0.toInt) :
    MetFree l mN7 (head1 (Jvm.Cond.code mN7 prog_72_method_6_code 3 (some .boolean) :: ws) ({ frames := 0, cells := 0, slots := 0, locals := 0 } : Room)) (fun a U => a = #[(.ref a1)] ∧ Z.Warmed39 U.vm ∧ U.heap = h0) (fun _ _ _ _ _ => True) (fun _ U o U' => ∃ v L, o = .returned v ∧ Q_nx_E_s22 Z a1 ta ca kt kc c0 h0 n0 v U'.heap L ∧ FrameEnd U o U' L ({ frames := 0, cells := 0, slots := 0, locals := 0 } : Room).cells ({ frames := 0, cells := 0, slots := 0, locals := 0 } : Room).slots) := by
  refine MetFree.of_bodySF (plainFor_of_name pn_com_example_flote_flote_program_Choices) hisR ?_
  intro p e s m args below meth c s₁ Bd hml0 hP hK
  obtain ⟨rfl, hZ, hh⟩ := hP
  have hx := Bd.exec
  have hby := Bd.bytes
  have hml : c.maxLocals = 3 := hml0
  have hown : s.vm.findClass "com/example/flote/flote/program/Choices" = some m.cls := findClass_of_methodNamed Bd.named
  have hnm := (name_of_methodNamed Bd.named Bd.method).1
  have X0 : Stand p l e ({ frames := 0, cells := 0, slots := 0, locals := 0 } : Room) s m #[(.ref a1)] below meth c s₁ [] 0 0 := Stand.of_body Bd
  have e0 : s₁.heap = h0 := by rw [← hh, Bd.state]; rfl
  have N0 := Fr.nil n0
  obtain ⟨A0, hA0⟩ : ∃ z, z = s₁.setTop (entryFrame m #[(.ref a1)] 3) := ⟨_, rfl⟩
  have K : OGo p e below A0 s₁ (mkF m 0 #[rv a1, .unset, .unset] []) := fun t k => hA0 ▸ castTop (ef_7 m a1) k
  replace K : OGo p e below A0 s₁ (mkF m 1 #[rv a1, .unset, .unset] [(.ref a1)]) := fun t k => K t (XS.aloadN X0.here hx rfl (hb hby d7_0) rfl rfl k)
  obtain ⟨T1, X1, e1, st1⟩ := getF X0 hx hZ hown (host := "") (Or.inl (ow hw 30 rfl)) Via.refl e0 F_met_a1 (g := (mkF m 1 #[rv a1, .unset, .unset] [(.ref a1)])) rfl rfl (hb hby d7_1)
  replace K : OGo p e below A0 T1 (mkF m 4 #[rv a1, .unset, .unset] [(.int 2)]) := fun t k => K t (st1 t k)
  replace K : OGo p e below A0 T1 (mkF m 5 #[rv a1, .unset, .unset] [(.int 1), (.int 2)]) := fun t k => K t (XS.iconst X1.here hx rfl (hb hby d7_4) k)
  replace K : OGo p e below A0 T1 (mkF m 6 #[rv a1, .unset, .unset] [(.int 1)]) := fun t k => K t (XS.isub X1.here hx rfl (hb hby d7_5) rfl k)
  replace K : OGo p e below A0 T1 (mkF m 7 #[rv a1, iv 1, .unset] []) := fun t k => K t (XS.istoreN X1.here hx rfl (hb hby d7_6) rfl (l' := #[rv a1, iv 1, .unset]) rfl k)
  replace K : OGo p e below A0 T1 (mkF m 8 #[rv a1, iv 1, .unset] [(.int 1)]) := fun t k => K t (XS.iloadN X1.here hx rfl (hb hby d7_7) rfl k)
  replace K : OGo p e below A0 T1 (mkF m 11 #[rv a1, iv 1, .unset] []) := fun t k => K t (XS.ifNo X1.here hx rfl (hb hby d7_8) rfl ((if0 _ _).trans (flt ((by decide : ¬ ((1 : Int32) < (0 : Int32))) : ¬ ((1 : Int32) < (0 : Int32)))).1) k)
  replace K : OGo p e below A0 T1 (mkF m 12 #[rv a1, iv 1, .unset] [(.ref a1)]) := fun t k => K t (XS.aloadN X1.here hx rfl (hb hby d7_11) rfl rfl k)
  obtain ⟨T2, X2, e2, st2⟩ := getF X1 hx hZ hown (host := "") (Or.inl (ow hw 15 rfl)) Via.refl e1 F_taken_a1 (g := (mkF m 12 #[rv a1, iv 1, .unset] [(.ref a1)])) rfl rfl (hb hby d7_12)
  replace K : OGo p e below A0 T2 (mkF m 15 #[rv a1, iv 1, .unset] [(.ref ta)]) := fun t k => K t (st2 t k)
  replace K : OGo p e below A0 T2 (mkF m 16 #[rv a1, iv 1, .unset] [(.int 1), (.ref ta)]) := fun t k => K t (XS.iloadN X2.here hx rfl (hb hby d7_15) rfl k)
  replace K : OGo p e below A0 T2 (mkF m 17 #[rv a1, iv 1, .unset] [(.int 1)]) := fun t k => K t (own_ldI X2 hx hZ e2 V_ta (j := (1 : Int32)) (v := (.int (1 : Int32))) (by decide) rfl (g := (mkF m 16 #[rv a1, iv 1, .unset] [(.int 1), (.ref ta)])) rfl rfl (hb hby d7_16) t k)
  replace K : OGo p e below A0 T2 (mkF m 18 #[rv a1, iv 1, .unset] [(.ref a1), (.int 1)]) := fun t k => K t (XS.aloadN X2.here hx rfl (hb hby d7_17) rfl rfl k)
  obtain ⟨T3, X3, e3, st3⟩ := getF X2 hx hZ hown (host := "") (Or.inl (ow hw 17 rfl)) Via.refl e2 F_counts_a1 (g := (mkF m 18 #[rv a1, iv 1, .unset] [(.ref a1), (.int 1)])) rfl rfl (hb hby d7_18)
  replace K : OGo p e below A0 T3 (mkF m 21 #[rv a1, iv 1, .unset] [(.ref ca), (.int 1)]) := fun t k => K t (st3 t k)
  replace K : OGo p e below A0 T3 (mkF m 22 #[rv a1, iv 1, .unset] [(.int 1), (.ref ca), (.int 1)]) := fun t k => K t (XS.iloadN X3.here hx rfl (hb hby d7_21) rfl k)
  replace K : OGo p e below A0 T3 (mkF m 23 #[rv a1, iv 1, .unset] [(.int 2), (.int 1)]) := fun t k => K t (own_ldI X3 hx hZ e3 V_ca (j := (1 : Int32)) (v := (.int (2 : Int32))) (by decide) rfl (g := (mkF m 22 #[rv a1, iv 1, .unset] [(.int 1), (.ref ca), (.int 1)])) rfl rfl (hb hby d7_22) t k)
  replace K : OGo p e below A0 T3 (mkF m 24 #[rv a1, iv 1, .unset] [(.int 1), (.int 2), (.int 1)]) := fun t k => K t (XS.iconst X3.here hx rfl (hb hby d7_23) k)
  replace K : OGo p e below A0 T3 (mkF m 25 #[rv a1, iv 1, .unset] [(.int 1), (.int 1)]) := fun t k => K t (XS.isub X3.here hx rfl (hb hby d7_24) rfl k)
  replace K : OGo p e below A0 T3 (mkF m 28 #[rv a1, iv 1, .unset] []) := fun t k => K t (XS.icmpNo X3.here hx rfl (hb hby d7_25) rfl (teq ((by decide : (1 : Int32) = (1 : Int32)) : (1 : Int32) = (1 : Int32))).2 k)
  replace K : OGo p e below A0 T3 (mkF m 31 #[rv a1, iv 0, .unset] []) := fun t k => K t (XS.iinc X3.here hx rfl (hb hby d7_28) rfl (l' := #[rv a1, iv 0, .unset]) rfl k)
  replace K : OGo p e below A0 T3 (mkF m 7 #[rv a1, iv 0, .unset] []) := fun t k => K t (XS.goto X3.here hx rfl (pc0 := 31) (pc' := 7) rfl (hb hby d7_31) (by decide) (by decide) k)
  replace K : OGo p e below A0 T3 (mkF m 8 #[rv a1, iv 0, .unset] [(.int 0)]) := fun t k => K t (XS.iloadN X3.here hx rfl (hb hby d7_7) rfl k)
  replace K : OGo p e below A0 T3 (mkF m 11 #[rv a1, iv 0, .unset] []) := fun t k => K t (XS.ifNo X3.here hx rfl (hb hby d7_8) rfl ((if0 _ _).trans (flt ((by decide : ¬ ((0 : Int32) < (0 : Int32))) : ¬ ((0 : Int32) < (0 : Int32)))).1) k)
  replace K : OGo p e below A0 T3 (mkF m 12 #[rv a1, iv 0, .unset] [(.ref a1)]) := fun t k => K t (XS.aloadN X3.here hx rfl (hb hby d7_11) rfl rfl k)
  obtain ⟨T4, X4, e4, st4⟩ := getF X3 hx hZ hown (host := "") (Or.inl (ow hw 15 rfl)) Via.refl e3 F_taken_a1 (g := (mkF m 12 #[rv a1, iv 0, .unset] [(.ref a1)])) rfl rfl (hb hby d7_12)
  replace K : OGo p e below A0 T4 (mkF m 15 #[rv a1, iv 0, .unset] [(.ref ta)]) := fun t k => K t (st4 t k)
  replace K : OGo p e below A0 T4 (mkF m 16 #[rv a1, iv 0, .unset] [(.int 0), (.ref ta)]) := fun t k => K t (XS.iloadN X4.here hx rfl (hb hby d7_15) rfl k)
  replace K : OGo p e below A0 T4 (mkF m 17 #[rv a1, iv 0, .unset] [(.int 0)]) := fun t k => K t (own_ldI X4 hx hZ e4 V_ta (j := (0 : Int32)) (v := (.int (0 : Int32))) (by decide) rfl (g := (mkF m 16 #[rv a1, iv 0, .unset] [(.int 0), (.ref ta)])) rfl rfl (hb hby d7_16) t k)
  replace K : OGo p e below A0 T4 (mkF m 18 #[rv a1, iv 0, .unset] [(.ref a1), (.int 0)]) := fun t k => K t (XS.aloadN X4.here hx rfl (hb hby d7_17) rfl rfl k)
  obtain ⟨T5, X5, e5, st5⟩ := getF X4 hx hZ hown (host := "") (Or.inl (ow hw 17 rfl)) Via.refl e4 F_counts_a1 (g := (mkF m 18 #[rv a1, iv 0, .unset] [(.ref a1), (.int 0)])) rfl rfl (hb hby d7_18)
  replace K : OGo p e below A0 T5 (mkF m 21 #[rv a1, iv 0, .unset] [(.ref ca), (.int 0)]) := fun t k => K t (st5 t k)
  replace K : OGo p e below A0 T5 (mkF m 22 #[rv a1, iv 0, .unset] [(.int 0), (.ref ca), (.int 0)]) := fun t k => K t (XS.iloadN X5.here hx rfl (hb hby d7_21) rfl k)
  replace K : OGo p e below A0 T5 (mkF m 23 #[rv a1, iv 0, .unset] [(.int c0), (.int 0)]) := fun t k => K t (own_ldI X5 hx hZ e5 V_ca (j := (0 : Int32)) (v := (.int c0)) (by decide) rfl (g := (mkF m 22 #[rv a1, iv 0, .unset] [(.int 0), (.ref ca), (.int 0)])) rfl rfl (hb hby d7_22) t k)
  replace K : OGo p e below A0 T5 (mkF m 24 #[rv a1, iv 0, .unset] [(.int 1), (.int c0), (.int 0)]) := fun t k => K t (XS.iconst X5.here hx rfl (hb hby d7_23) k)
  replace K : OGo p e below A0 T5 (mkF m 25 #[rv a1, iv 0, .unset] [(.int (c0 - (1 : Int32))), (.int 0)]) := fun t k => K t (XS.isub X5.here hx rfl (hb hby d7_24) rfl k)
  replace K : OGo p e below A0 T5 (mkF m 34 #[rv a1, iv 0, .unset] []) := fun t k => K t (XS.icmpYes X5.here hx rfl (pc0 := 25) (pc' := 34) rfl (hb hby d7_25) rfl (feq ((own_nsub (t := (0 : Int32)) (k := 0) (by decide) (by omega) (by decide)) : ¬ ((0 : Int32) = (c0 - (1 : Int32))))).2 (by decide) (by decide) k)
  replace K : OGo p e below A0 T5 (mkF m 35 #[rv a1, iv 0, .unset] [(.int 0)]) := fun t k => K t (XS.iloadN X5.here hx rfl (hb hby d7_34) rfl k)
  replace K : OGo p e below A0 T5 (mkF m 38 #[rv a1, iv 0, .unset] []) := fun t k => K t (XS.ifNo X5.here hx rfl (hb hby d7_35) rfl ((if0 _ _).trans (flt ((by decide : ¬ ((0 : Int32) < (0 : Int32))) : ¬ ((0 : Int32) < (0 : Int32)))).1) k)
  replace K : OGo p e below A0 T5 (mkF m 39 #[rv a1, iv 0, .unset] [(.int 1)]) := fun t k => K t (XS.iconst X5.here hx rfl (hb hby d7_38) k)
  replace K : OGo p e below A0 T5 (mkF m 43 #[rv a1, iv 0, .unset] [(.int 1)]) := fun t k => K t (XS.goto X5.here hx rfl (pc0 := 39) (pc' := 43) rfl (hb hby d7_39) (by decide) (by decide) k)
  replace K : OGo p e below A0 T5 (mkF m 44 #[rv a1, iv 0, iv 1] []) := fun t k => K t (XS.istoreN X5.here hx rfl (hb hby d7_43) rfl (l' := #[rv a1, iv 0, iv 1]) rfl k)
  replace K : OGo p e below A0 T5 (mkF m 45 #[rv a1, iv 0, iv 1] [(.int 1)]) := fun t k => K t (XS.iloadN X5.here hx rfl (hb hby d7_44) rfl k)
  replace K : OGo p e below A0 T5 (mkF m 48 #[rv a1, iv 0, iv 1] []) := fun t k => K t (XS.ifNo X5.here hx rfl (hb hby d7_45) rfl ((if0 _ _).trans (feq ((by decide : ¬ ((1 : Int32) = (0 : Int32))) : ¬ ((1 : Int32) = (0 : Int32)))).1) k)
  replace K : OGo p e below A0 T5 (mkF m 49 #[rv a1, iv 0, iv 1] [(.ref a1)]) := fun t k => K t (XS.aloadN X5.here hx rfl (hb hby d7_48) rfl rfl k)
  obtain ⟨T6, X6, e6, st6⟩ := getF X5 hx hZ hown (host := "") (Or.inl (ow hw 15 rfl)) Via.refl e5 F_taken_a1 (g := (mkF m 49 #[rv a1, iv 0, iv 1] [(.ref a1)])) rfl rfl (hb hby d7_49)
  replace K : OGo p e below A0 T6 (mkF m 52 #[rv a1, iv 0, iv 1] [(.ref ta)]) := fun t k => K t (st6 t k)
  replace K : OGo p e below A0 T6 (mkF m 53 #[rv a1, iv 0, iv 1] [(.int 0), (.ref ta)]) := fun t k => K t (XS.iloadN X6.here hx rfl (hb hby d7_52) rfl k)
  replace K : OGo p e below A0 T6 (mkF m 54 #[rv a1, iv 0, iv 1] [(.int 0), (.ref ta), (.int 0), (.ref ta)]) := fun t k => K t (Jvm.Free.XT.dup2 X6.here hx rfl (hb hby d7_53) rfl rfl rfl k)
  replace K : OGo p e below A0 T6 (mkF m 55 #[rv a1, iv 0, iv 1] [(.int 0), (.int 0), (.ref ta)]) := fun t k => K t (own_ldI X6 hx hZ e6 V_ta (j := (0 : Int32)) (v := (.int (0 : Int32))) (by decide) rfl (g := (mkF m 54 #[rv a1, iv 0, iv 1] [(.int 0), (.ref ta), (.int 0), (.ref ta)])) rfl rfl (hb hby d7_54) t k)
  replace K : OGo p e below A0 T6 (mkF m 56 #[rv a1, iv 0, iv 1] [(.int 1), (.int 0), (.int 0), (.ref ta)]) := fun t k => K t (XS.iconst X6.here hx rfl (hb hby d7_55) k)
  replace K : OGo p e below A0 T6 (mkF m 57 #[rv a1, iv 0, iv 1] [(.int 1), (.int 0), (.ref ta)]) := fun t k => K t (XS.iadd X6.here hx rfl (hb hby d7_56) rfl k)
  obtain ⟨T7, h7, X7, e7, W7, V7, st7⟩ := own_stI X6 hx hZ e6 V_ta (j := (0 : Int32)) (by decide) (Nat.le_of_ble_eq_true rfl) (g := (mkF m 57 #[rv a1, iv 0, iv 1] [(.int 1), (.int 0), (.ref ta)])) rfl rfl (hb hby d7_57)
  have Z7 : n0 ≤ h7.size := Nat.le_trans Z0 (Keep.of_wr W7).1
  have Kp7 : Keep h0 h7 [a1, ta, ca] := (Keep.refl h0 [a1, ta, ca]).wr W7 (Or.inl (List.mem_of_getElem? (i := 1) rfl))
  have V_ta_7 : OAr Z h7 ta kt .int (oA8 (1 : Int32) (1 : Int32)) := V7
  have N7 := Fr.snoc X7 N0 g_ta
  replace K : OGo p e below A0 T7 (mkF m 58 #[rv a1, iv 0, iv 1] []) := fun t k => K t (st7 t k)
  replace K : OGo p e below A0 T7 (mkF m 59 #[rv a1, iv 0, iv 1] [(.ref a1)]) := fun t k => K t (XS.aloadN X7.here hx rfl (hb hby d7_58) rfl rfl k)
  replace K : OGo p e below A0 T7 (mkF m 60 #[rv a1, iv 0, iv 1] [(.int 0), (.ref a1)]) := fun t k => K t (XS.iloadN X7.here hx rfl (hb hby d7_59) rfl k)
  replace K : OGo p e below A0 T7 (mkF m 61 #[rv a1, iv 0, iv 1] [(.int 1), (.int 0), (.ref a1)]) := fun t k => K t (XS.iconst X7.here hx rfl (hb hby d7_60) k)
  replace K : OGo p e below A0 T7 (mkF m 62 #[rv a1, iv 0, iv 1] [(.int 1), (.ref a1)]) := fun t k => K t (XS.iadd X7.here hx rfl (hb hby d7_61) rfl k)
  have F_repeated_a1_8 := (F_repeated_a1.other W7 (Or.inl ne_a1_ta))
  have E_a1_9 := (E_a1.wr W7)
  obtain ⟨T10, h10, X10, e10, W10, st10⟩ := putF X7 hx hZ hown (host := "") (Or.inl (ow hw 32 rfl)) Via.refl e7 F_repeated_a1_8 E_a1_9 (Or.inl (ow hw 33 rfl)) (ow hw 6 rfl) (ty := .int) (by decide) rfl rfl (g := (mkF m 62 #[rv a1, iv 0, iv 1] [(.int 1), (.ref a1)])) rfl rfl (hb hby d7_62)
  have Z10 : n0 ≤ h10.size := Nat.le_trans Z7 (Keep.of_wr W10).1
  have Kp10 : Keep h0 h10 [a1, ta, ca] := Kp7.wr W10 (Or.inl (List.mem_of_getElem? (i := 0) rfl))
  have F_repeated_a1_10 := F_repeated_a1_8.same W10
  have N10 := Fr.snoc X10 N7 g_a1
  replace K : OGo p e below A0 T10 (mkF m 65 #[rv a1, iv 0, iv 1] []) := fun t k => K t (st10 t k)
  replace K : OGo p e below A0 T10 (mkF m 66 #[rv a1, iv 0, iv 1] [(.ref a1)]) := fun t k => K t (XS.aloadN X10.here hx rfl (hb hby d7_65) rfl rfl k)
  replace K : OGo p e below A0 T10 (mkF m 67 #[rv a1, iv 0, iv 1] [(.int 0), (.ref a1)]) := fun t k => K t (XS.iconst X10.here hx rfl (hb hby d7_66) k)
  have F_met_a1_11 := ((F_met_a1.other W7 (Or.inl ne_a1_ta)).other W10 (Or.inr (sn_cN0_met_repeated hw)))
  have E_a1_12 := (E_a1_9.wr W10)
  obtain ⟨T13, h13, X13, e13, W13, st13⟩ := putF X10 hx hZ hown (host := "") (Or.inl (ow hw 30 rfl)) Via.refl e10 F_met_a1_11 E_a1_12 (Or.inl (ow hw 31 rfl)) (ow hw 6 rfl) (ty := .int) (by decide) rfl rfl (g := (mkF m 67 #[rv a1, iv 0, iv 1] [(.int 0), (.ref a1)])) rfl rfl (hb hby d7_67)
  have Z13 : n0 ≤ h13.size := Nat.le_trans Z10 (Keep.of_wr W13).1
  have Kp13 : Keep h0 h13 [a1, ta, ca] := Kp10.wr W13 (Or.inl (List.mem_of_getElem? (i := 0) rfl))
  have F_met_a1_13 := F_met_a1_11.same W13
  have N13 := Fr.snoc X13 N10 g_a1
  replace K : OGo p e below A0 T13 (mkF m 70 #[rv a1, iv 0, iv 1] []) := fun t k => K t (st13 t k)
  replace K : OGo p e below A0 T13 (mkF m 71 #[rv a1, iv 0, iv 1] [(.ref a1)]) := fun t k => K t (XS.aloadN X13.here hx rfl (hb hby d7_70) rfl rfl k)
  replace K : OGo p e below A0 T13 (mkF m 72 #[rv a1, iv 0, iv 1] [(.ref a1), (.ref a1)]) := fun t k => K t (XS.dup X13.here hx rfl (hb hby d7_71) rfl rfl k)
  have F_branches_a1_14 := (((F_branches_a1.other W7 (Or.inl ne_a1_ta)).other W10 (Or.inr (sn_cN0_branches_repeated hw))).other W13 (Or.inr (sn_cN0_branches_met hw)))
  obtain ⟨T15, X15, e15, st15⟩ := getF X13 hx hZ hown (host := "") (Or.inl (ow hw 34 rfl)) Via.refl e13 F_branches_a1_14 (g := (mkF m 72 #[rv a1, iv 0, iv 1] [(.ref a1), (.ref a1)])) rfl rfl (hb hby d7_72)
  replace K : OGo p e below A0 T15 (mkF m 75 #[rv a1, iv 0, iv 1] [(.int 2), (.ref a1)]) := fun t k => K t (st15 t k)
  replace K : OGo p e below A0 T15 (mkF m 76 #[rv a1, iv 0, iv 1] [(.int 1), (.int 2), (.ref a1)]) := fun t k => K t (XS.iconst X15.here hx rfl (hb hby d7_75) k)
  replace K : OGo p e below A0 T15 (mkF m 77 #[rv a1, iv 0, iv 1] [(.int 3), (.ref a1)]) := fun t k => K t (XS.iadd X15.here hx rfl (hb hby d7_76) rfl k)
  have E_a1_16 := (E_a1_12.wr W13)
  obtain ⟨T17, h17, X17, e17, W17, st17⟩ := putF X15 hx hZ hown (host := "") (Or.inl (ow hw 34 rfl)) Via.refl e15 F_branches_a1_14 E_a1_16 (Or.inl (ow hw 35 rfl)) (ow hw 6 rfl) (ty := .int) (by decide) rfl rfl (g := (mkF m 77 #[rv a1, iv 0, iv 1] [(.int 3), (.ref a1)])) rfl rfl (hb hby d7_77)
  have Z17 : n0 ≤ h17.size := Nat.le_trans Z13 (Keep.of_wr W17).1
  have Kp17 : Keep h0 h17 [a1, ta, ca] := Kp13.wr W17 (Or.inl (List.mem_of_getElem? (i := 0) rfl))
  have F_branches_a1_17 := F_branches_a1_14.same W17
  have N17 := Fr.snoc X17 N13 g_a1
  replace K : OGo p e below A0 T17 (mkF m 80 #[rv a1, iv 0, iv 1] []) := fun t k => K t (st17 t k)
  replace K : OGo p e below A0 T17 (mkF m 81 #[rv a1, iv 0, iv 1] [(.ref a1)]) := fun t k => K t (XS.aloadN X17.here hx rfl (hb hby d7_80) rfl rfl k)
  replace K : OGo p e below A0 T17 (mkF m 82 #[rv a1, iv 0, iv 1] [(.int 0), (.ref a1)]) := fun t k => K t (XS.iconst X17.here hx rfl (hb hby d7_81) k)
  have F_computed_a1_18 := ((((F_computed_a1.other W7 (Or.inl ne_a1_ta)).other W10 (Or.inr (sn_cN0_computed_repeated hw))).other W13 (Or.inr (sn_cN0_computed_met hw))).other W17 (Or.inr (sn_cN0_computed_branches hw)))
  have E_a1_19 := (E_a1_16.wr W17)
  obtain ⟨T20, h20, X20, e20, W20, st20⟩ := putF X17 hx hZ hown (host := "") (Or.inl (ow hw 36 rfl)) Via.refl e17 F_computed_a1_18 E_a1_19 (Or.inl (ow hw 37 rfl)) (ow hw 6 rfl) (ty := .int) (by decide) rfl rfl (g := (mkF m 82 #[rv a1, iv 0, iv 1] [(.int 0), (.ref a1)])) rfl rfl (hb hby d7_82)
  have Z20 : n0 ≤ h20.size := Nat.le_trans Z17 (Keep.of_wr W20).1
  have Kp20 : Keep h0 h20 [a1, ta, ca] := Kp17.wr W20 (Or.inl (List.mem_of_getElem? (i := 0) rfl))
  have F_computed_a1_20 := F_computed_a1_18.same W20
  have N20 := Fr.snoc X20 N17 g_a1
  replace K : OGo p e below A0 T20 (mkF m 85 #[rv a1, iv 0, iv 1] []) := fun t k => K t (st20 t k)
  replace K : OGo p e below A0 T20 (mkF m 86 #[rv a1, iv 0, iv 1] [(.int 1)]) := fun t k => K t (XS.iloadN X20.here hx rfl (hb hby d7_85) rfl k)
  have E_a1_21 := (E_a1_19.wr W20)
  have F_taken_a1_22 := (((((F_taken_a1.other W7 (Or.inl ne_a1_ta)).other W10 (Or.inr (sn_cN0_taken_repeated hw))).other W13 (Or.inr (sn_cN0_taken_met hw))).other W17 (Or.inr (sn_cN0_taken_branches hw))).other W20 (Or.inr (sn_cN0_taken_computed hw)))
  have F_counts_a1_23 := (((((F_counts_a1.other W7 (Or.inl ne_a1_ta)).other W10 (Or.inr (sn_cN0_counts_repeated hw))).other W13 (Or.inr (sn_cN0_counts_met hw))).other W17 (Or.inr (sn_cN0_counts_branches hw))).other W20 (Or.inr (sn_cN0_counts_computed hw)))
  have F_met_a1_24 := ((F_met_a1_13.other W17 (Or.inr (sn_cN0_met_branches hw))).other W20 (Or.inr (sn_cN0_met_computed hw)))
  have F_repeated_a1_25 := (((F_repeated_a1_10.other W13 (Or.inr (sn_cN0_repeated_met hw))).other W17 (Or.inr (sn_cN0_repeated_branches hw))).other W20 (Or.inr (sn_cN0_repeated_computed hw)))
  have F_branches_a1_26 := (F_branches_a1_17.other W20 (Or.inr (sn_cN0_branches_computed hw)))
  have V_ta_27 := ((((V_ta_7.other W10 (Ne.symm ne_a1_ta)).other W13 (Ne.symm ne_a1_ta)).other W17 (Ne.symm ne_a1_ta)).other W20 (Ne.symm ne_a1_ta))
  have V_ca_28 := (((((V_ca.other W7 (Ne.symm ne_ta_ca)).other W10 (Ne.symm ne_a1_ca)).other W13 (Ne.symm ne_a1_ca)).other W17 (Ne.symm ne_a1_ca)).other W20 (Ne.symm ne_a1_ca))
  obtain ⟨fs, hr, hrun, hended, hW, hsame⟩ := X20.leave (v := some (.int (1 : Int32))) (fun h => by rw [Bd.returns] at h; cases h)
  subst hA0
  refine ⟨_, _, K _ (retN X20 hx (t := .boolean) Bd.returns (by simp) (hb hby d7_86) hr), hrun, hended, _, _, rfl, ?_, ⟨_, rfl⟩, hW, hsame.mono (by decide) (by decide)⟩
  show Q_nx_E_s22 Z a1 ta ca kt kc c0 h0 n0 _ T20.heap _
  rw [e20]
  exact ⟨rfl, N20, Kp20, E_a1_21, F_taken_a1_22, F_counts_a1_23, F_met_a1_24, F_repeated_a1_25, F_branches_a1_26, F_computed_a1_20, V_ta_27, V_ca_28⟩
def Q_bok_s22_2 (Z : State) (a1 : Addr) (p1 : Int32) (ta : Addr) (ca : Addr) (kt : ClassId) (kc : ClassId) (h0 : Heap) (n0 : Nat) (v : Option Value) (h : Heap) (L : List Loc) : Prop := v = some (.int (1 : Int32)) ∧ Fr n0 L ∧ Keep h0 h [a1, ta, ca] ∧ Exa Z h a1 cN0 ∧ Fld Z h a1 cN0 "taken" "[I" (.ref ta) ∧ Fld Z h a1 cN0 "counts" "[I" (.ref ca) ∧ Fld Z h a1 cN0 "met" "I" (.int (2 : Int32)) ∧ Fld Z h a1 cN0 "repeated" "I" (.int (1 : Int32)) ∧ Fld Z h a1 cN0 "branches" "I" (.int (3 : Int32)) ∧ Fld Z h a1 cN0 "computed" "I" (.int (0 : Int32)) ∧ OAr Z h ta kt .int (oA8 (1 : Int32) (0 : Int32)) ∧ OAr Z h ca kc .int (oA8 p1 (2 : Int32))
set_option maxRecDepth 65536 in
set_option maxHeartbeats 40000000 in
theorem rm_bok_s22_2 (l : Launch) (Z : State) (a0 : Array Value) (hw : ∀ d ∈ tables_1, d.before a0 Z = true) (ws : List Jvm.Cond) (a1 : Addr) (p1 : Int32) (ta : Addr) (ca : Addr) (kt : ClassId) (kc : ClassId) (h0 : Heap) (n0 : Nat) (Z0 : n0 ≤ h0.size) (E_a1 : Exa Z h0 a1 cN0) (F_taken_a1 : Fld Z h0 a1 cN0 "taken" "[I" (.ref ta)) (F_counts_a1 : Fld Z h0 a1 cN0 "counts" "[I" (.ref ca)) (F_met_a1 : Fld Z h0 a1 cN0 "met" "I" (.int (0 : Int32))) (F_repeated_a1 : Fld Z h0 a1 cN0 "repeated" "I" (.int (1 : Int32))) (F_branches_a1 : Fld Z h0 a1 cN0 "branches" "I" (.int (3 : Int32))) (F_computed_a1 : Fld Z h0 a1 cN0 "computed" "I" (.int (0 : Int32))) (V_ta : OAr Z h0 ta kt .int (oA8 (1 : Int32) (1 : Int32))) (V_ca : OAr Z h0 ca kc .int (oA8 p1 (2 : Int32))) (g_a1 : n0 ≤ a1) (g_ta : n0 ≤ ta) (g_ca : n0 ≤ ca) (ne_a1_ta : a1 ≠ ta) (ne_a1_ca : a1 ≠ ca) (ne_ta_ca : ta ≠ ca) (hna : 2 ≤ p1.toInt) :
    MetFree l mN6 (head1 (Jvm.Cond.code mN6 method_4_code 6 (some .boolean) :: ws) ({ frames := 1, cells := 0, slots := 0, locals := 13 } : Room)) (fun a U => a = #[(.ref a1), (.int p1), (.int (2 : Int32)), (.int (2 : Int32))] ∧ Z.Warmed39 U.vm ∧ U.heap = h0) (fun _ _ _ _ _ => True) (fun _ U o U' => ∃ v L, o = .returned v ∧ Q_bok_s22_2 Z a1 p1 ta ca kt kc h0 n0 v U'.heap L ∧ FrameEnd U o U' L ({ frames := 1, cells := 0, slots := 0, locals := 13 } : Room).cells ({ frames := 1, cells := 0, slots := 0, locals := 13 } : Room).slots) := by
  refine MetFree.of_bodySF (plainFor_of_name pn_com_example_flote_flote_program_ChoicesNextPinLaw) hisR ?_
  intro p e s m args below meth c s₁ Bd hml0 hP hK
  obtain ⟨rfl, hZ, hh⟩ := hP
  have hx := Bd.exec
  have hby := Bd.bytes
  have hml : c.maxLocals = 6 := hml0
  have hown : s.vm.findClass "com/example/flote/flote/program/ChoicesNextPinLaw" = some m.cls := findClass_of_methodNamed Bd.named
  have hnm := (name_of_methodNamed Bd.named Bd.method).1
  have X0 : Stand p l e ({ frames := 1, cells := 0, slots := 0, locals := 13 } : Room) s m #[(.ref a1), (.int p1), (.int (2 : Int32)), (.int (2 : Int32))] below meth c s₁ [] 0 0 := Stand.of_body Bd
  have e0 : s₁.heap = h0 := by rw [← hh, Bd.state]; rfl
  have N0 := Fr.nil n0
  obtain ⟨A0, hA0⟩ : ∃ z, z = s₁.setTop (entryFrame m #[(.ref a1), (.int p1), (.int (2 : Int32)), (.int (2 : Int32))] 6) := ⟨_, rfl⟩
  have K : OGo p e below A0 s₁ (mkF m 0 #[rv a1, iv p1, iv 2, iv 2, .unset, .unset] []) := fun t k => hA0 ▸ castTop (ef_5 m a1 p1 (2 : Int32) (2 : Int32)) k
  replace K : OGo p e below A0 s₁ (mkF m 1 #[rv a1, iv p1, iv 2, iv 2, .unset, .unset] [(.ref a1)]) := fun t k => K t (XS.aloadN X0.here hx rfl (hb hby d5_0) rfl rfl k)
  replace K : OGo p e below A0 s₁ (mkF m 2 #[rv a1, iv p1, iv 2, iv 2, .unset, .unset] [(.int p1), (.ref a1)]) := fun t k => K t (XS.iloadN X0.here hx rfl (hb hby d5_1) rfl k)
  obtain ⟨cq1, kq1, qv1a, qv1b, qv1c⟩ := isOf hZ e0 E_a1
  obtain ⟨_, _, ⟨T1, L1, k1, n1⟩, -, X1, ⟨Lc1, hQ1, l1, y1, z1⟩, st1⟩ := X0.virtualBack hx (y := mN4) (z := mN4) hown (mvT hZ (ow hw 41 rfl)) (mvT hZ (ow hw 42 rfl)) (notFace_of_selects (args := #[]) (mvT hZ (ow hw 44 rfl))) (mvT hZ (ow hw 44 rfl)) (mvT hZ (ow hw 43 rfl)) (by decide) (backOf (W := 0) (rm_chooseR01 l Z a0 hw [] a1 p1 ta ca kt kc (1 : Int32) (1 : Int32) p1 (2 : Int32) (3 : Int32) (0 : Int32) h0 n0 Z0 E_a1 F_taken_a1 F_counts_a1 F_met_a1 F_repeated_a1 F_branches_a1 F_computed_a1 V_ta V_ca g_a1 g_ta g_ca ne_a1_ta ne_a1_ca ne_ta_ca (fun z => by have q := hna; rw [z] at q; have : (1 : Int32).toInt = 1 := (by decide); omega)) hZ (ow hw 45 rfl) (ow hw 7 rfl) (by decide) (by decide)) qv1a qv1c (g := (mkF m 2 #[rv a1, iv p1, iv 2, iv 2, .unset, .unset] [(.int p1), (.ref a1)])) rfl (by rw [hml]; rfl) (Steps.refl _) (argsL := [(.int p1)]) (rest := []) (lenOf pd__I_I rfl) rfl (by show 2 * 0 + _ ≤ _; exact Nat.le_of_eq rfl) (hb hby d5_2) (fun _ _ => ⟨rfl, e0, (by decide : 0 + 0 ≤ _), (by decide : 0 + 0 ≤ _)⟩)
  dsimp only [Pt.U, Pt.locs, Pt.cells, Pt.slots] at X1 l1 y1 z1 st1 hQ1
  subst l1 y1 z1
  obtain ⟨hp1, e1⟩ : ∃ z, T1.heap = z := ⟨_, rfl⟩
  rw [e1] at hQ1
  obtain ⟨rfl, Nq1, K1, P1_0, P1_1, P1_2, P1_3, P1_4, P1_5, P1_6, P1_7, P1_8⟩ := hQ1
  have Z1 : n0 ≤ hp1.size := Nat.le_trans Z0 K1.1
  have Kp1 : Keep h0 hp1 [a1, ta, ca] := (Keep.refl h0 [a1, ta, ca]).trans K1 (allS (Or.inl (List.mem_of_getElem? (i := 0) rfl)) (allS (Or.inl (List.mem_of_getElem? (i := 1) rfl)) (allS (Or.inl (List.mem_of_getElem? (i := 2) rfl)) all0)))
  have N1 := Fr.app N0 Nq1
  replace K : OGo p e below A0 T1 (mkF m 5 #[rv a1, iv p1, iv 2, iv 2, .unset, .unset] [(.int 1)]) := fun t k => K t (st1.trans k)
  replace K : OGo p e below A0 T1 (mkF m 7 #[rv a1, iv p1, iv 2, iv 2, iv 1, .unset] []) := fun t k => K t (XS.istore X1.here hx rfl (hb hby d5_5) rfl (l' := #[rv a1, iv p1, iv 2, iv 2, iv 1, .unset]) rfl k)
  replace K : OGo p e below A0 T1 (mkF m 8 #[rv a1, iv p1, iv 2, iv 2, iv 1, .unset] [(.ref a1)]) := fun t k => K t (XS.aloadN X1.here hx rfl (hb hby d5_7) rfl rfl k)
  replace K : OGo p e below A0 T1 (mkF m 9 #[rv a1, iv p1, iv 2, iv 2, iv 1, .unset] [(.int 2), (.ref a1)]) := fun t k => K t (XS.iloadN X1.here hx rfl (hb hby d5_8) rfl k)
  obtain ⟨cq2, kq2, qv2a, qv2b, qv2c⟩ := isOf hZ e1 P1_0
  obtain ⟨_, _, ⟨T2, L2, k2, n2⟩, -, X2, ⟨Lc2, hQ2, l2, y2, z2⟩, st2⟩ := X1.virtualBack hx (y := mN4) (z := mN4) hown (mvT hZ (ow hw 41 rfl)) (mvT hZ (ow hw 42 rfl)) (notFace_of_selects (args := #[]) (mvT hZ (ow hw 44 rfl))) (mvT hZ (ow hw 44 rfl)) (mvT hZ (ow hw 43 rfl)) (by decide) (backOf (W := 0) (rm_chooseN11L l Z a0 hw [] a1 ta ca kt kc (1 : Int32) (1 : Int32) p1 (2 : Int32) (3 : Int32) (0 : Int32) hp1 n0 Z1 P1_0 P1_1 P1_2 P1_3 P1_4 P1_5 P1_6 P1_7 P1_8 g_a1 g_ta g_ca ne_a1_ta ne_a1_ca ne_ta_ca) hZ (ow hw 45 rfl) (ow hw 7 rfl) (by decide) (by decide)) qv2a qv2c (g := (mkF m 9 #[rv a1, iv p1, iv 2, iv 2, iv 1, .unset] [(.int 2), (.ref a1)])) rfl (by rw [hml]; rfl) (Steps.refl _) (argsL := [(.int (2 : Int32))]) (rest := []) (lenOf pd__I_I rfl) rfl (by show 2 * 0 + _ ≤ _; exact Nat.le_of_eq rfl) (hb hby d5_9) (fun _ _ => ⟨rfl, e1, (by decide : 0 + 0 ≤ _), (by decide : 0 + 0 ≤ _)⟩)
  dsimp only [Pt.U, Pt.locs, Pt.cells, Pt.slots] at X2 l2 y2 z2 st2 hQ2
  subst l2 y2 z2
  obtain ⟨hp2, e2⟩ : ∃ z, T2.heap = z := ⟨_, rfl⟩
  rw [e2] at hQ2
  obtain ⟨rfl, Nq2, K2, P2_0, P2_1, P2_2, P2_3, P2_4, P2_5, P2_6, P2_7, P2_8⟩ := hQ2
  have Z2 : n0 ≤ hp2.size := Nat.le_trans Z1 K2.1
  have Kp2 : Keep h0 hp2 [a1, ta, ca] := Kp1.trans K2 (allS (Or.inl (List.mem_of_getElem? (i := 0) rfl)) (allS (Or.inl (List.mem_of_getElem? (i := 1) rfl)) (allS (Or.inl (List.mem_of_getElem? (i := 2) rfl)) all0)))
  have N2 := Fr.app N1 Nq2
  replace K : OGo p e below A0 T2 (mkF m 12 #[rv a1, iv p1, iv 2, iv 2, iv 1, .unset] [(.int 0)]) := fun t k => K t (st2.trans k)
  replace K : OGo p e below A0 T2 (mkF m 14 #[rv a1, iv p1, iv 2, iv 2, iv 1, iv 0] []) := fun t k => K t (XS.istore X2.here hx rfl (hb hby d5_12) rfl (l' := #[rv a1, iv p1, iv 2, iv 2, iv 1, iv 0]) rfl k)
  replace K : OGo p e below A0 T2 (mkF m 16 #[rv a1, iv p1, iv 2, iv 2, iv 1, iv 0] [(.int 1)]) := fun t k => K t (XS.iload X2.here hx rfl (hb hby d5_14) rfl k)
  replace K : OGo p e below A0 T2 (mkF m 17 #[rv a1, iv p1, iv 2, iv 2, iv 1, iv 0] [(.int 2), (.int 1)]) := fun t k => K t (XS.iloadN X2.here hx rfl (hb hby d5_16) rfl k)
  replace K : OGo p e below A0 T2 (mkF m 18 #[rv a1, iv p1, iv 2, iv 2, iv 1, iv 0] [(.int 2), (.int 2), (.int 1)]) := fun t k => K t (XS.iloadN X2.here hx rfl (hb hby d5_17) rfl k)
  replace K : OGo p e below A0 T2 (mkF m 19 #[rv a1, iv p1, iv 2, iv 2, iv 1, iv 0] [(.int 1), (.int 1)]) := fun t k => K t (XS.idiv X2.here hx rfl (hb hby d5_18) rfl (by decide) k)
  replace K : OGo p e below A0 T2 (mkF m 22 #[rv a1, iv p1, iv 2, iv 2, iv 1, iv 0] []) := fun t k => K t (XS.icmpNo X2.here hx rfl (hb hby d5_19) rfl (teq ((by decide : (1 : Int32) = (1 : Int32)) : (1 : Int32) = (1 : Int32))).2 k)
  replace K : OGo p e below A0 T2 (mkF m 24 #[rv a1, iv p1, iv 2, iv 2, iv 1, iv 0] [(.int 0)]) := fun t k => K t (XS.iload X2.here hx rfl (hb hby d5_22) rfl k)
  replace K : OGo p e below A0 T2 (mkF m 25 #[rv a1, iv p1, iv 2, iv 2, iv 1, iv 0] [(.int 2), (.int 0)]) := fun t k => K t (XS.iloadN X2.here hx rfl (hb hby d5_24) rfl k)
  replace K : OGo p e below A0 T2 (mkF m 26 #[rv a1, iv p1, iv 2, iv 2, iv 1, iv 0] [(.int 2), (.int 2), (.int 0)]) := fun t k => K t (XS.iloadN X2.here hx rfl (hb hby d5_25) rfl k)
  replace K : OGo p e below A0 T2 (mkF m 27 #[rv a1, iv p1, iv 2, iv 2, iv 1, iv 0] [(.int 0), (.int 0)]) := fun t k => K t (iremM X2 hx rfl (hb hby d5_26) rfl (by decide) k)
  replace K : OGo p e below A0 T2 (mkF m 30 #[rv a1, iv p1, iv 2, iv 2, iv 1, iv 0] []) := fun t k => K t (XS.icmpNo X2.here hx rfl (hb hby d5_27) rfl (teq ((by decide : (0 : Int32) = (0 : Int32)) : (0 : Int32) = (0 : Int32))).2 k)
  replace K : OGo p e below A0 T2 (mkF m 31 #[rv a1, iv p1, iv 2, iv 2, iv 1, iv 0] [(.int 1)]) := fun t k => K t (XS.iconst X2.here hx rfl (hb hby d5_30) k)
  replace K : OGo p e below A0 T2 (mkF m 35 #[rv a1, iv p1, iv 2, iv 2, iv 1, iv 0] [(.int 1)]) := fun t k => K t (XS.goto X2.here hx rfl (pc0 := 31) (pc' := 35) rfl (hb hby d5_31) (by decide) (by decide) k)
  obtain ⟨fs, hr, hrun, hended, hW, hsame⟩ := X2.leave (v := some (.int (1 : Int32))) (fun h => by rw [Bd.returns] at h; cases h)
  subst hA0
  refine ⟨_, _, K _ (retN X2 hx (t := .boolean) Bd.returns (by simp) (hb hby d5_35) hr), hrun, hended, _, _, rfl, ?_, ⟨_, rfl⟩, hW, hsame.mono (by decide) (by decide)⟩
  show Q_bok_s22_2 Z a1 p1 ta ca kt kc h0 n0 _ T2.heap _
  rw [e2]
  exact ⟨rfl, N2, Kp2, P2_0, P2_1, P2_2, P2_3, P2_4, P2_5, P2_6, P2_7, P2_8⟩
def Q_bok_s23_0 (Z : State) (a1 : Addr) (p1 : Int32) (p2 : Int32) (ta : Addr) (ca : Addr) (kt : ClassId) (kc : ClassId) (h0 : Heap) (n0 : Nat) (v : Option Value) (h : Heap) (L : List Loc) : Prop := v = some (.int (1 : Int32)) ∧ Fr n0 L ∧ Keep h0 h [a1, ta, ca] ∧ Exa Z h a1 cN0 ∧ Fld Z h a1 cN0 "taken" "[I" (.ref ta) ∧ Fld Z h a1 cN0 "counts" "[I" (.ref ca) ∧ Fld Z h a1 cN0 "met" "I" (.int (2 : Int32)) ∧ Fld Z h a1 cN0 "repeated" "I" (.int (0 : Int32)) ∧ Fld Z h a1 cN0 "branches" "I" (.int (1 : Int32)) ∧ Fld Z h a1 cN0 "computed" "I" (.int (0 : Int32)) ∧ OAr Z h ta kt .int (oA8 (0 : Int32) (0 : Int32)) ∧ OAr Z h ca kc .int (oA8 p1 p2)
set_option maxRecDepth 65536 in
set_option maxHeartbeats 40000000 in
theorem rm_bok_s23_0 (l : Launch) (Z : State) (a0 : Array Value) (hw : ∀ d ∈ tables_1, d.before a0 Z = true) (ws : List Jvm.Cond) (a1 : Addr) (p1 : Int32) (p2 : Int32) (ta : Addr) (ca : Addr) (kt : ClassId) (kc : ClassId) (h0 : Heap) (n0 : Nat) (Z0 : n0 ≤ h0.size) (E_a1 : Exa Z h0 a1 cN0) (F_taken_a1 : Fld Z h0 a1 cN0 "taken" "[I" (.ref ta)) (F_counts_a1 : Fld Z h0 a1 cN0 "counts" "[I" (.ref ca)) (F_met_a1 : Fld Z h0 a1 cN0 "met" "I" (.int (0 : Int32))) (F_repeated_a1 : Fld Z h0 a1 cN0 "repeated" "I" (.int (0 : Int32))) (F_branches_a1 : Fld Z h0 a1 cN0 "branches" "I" (.int (1 : Int32))) (F_computed_a1 : Fld Z h0 a1 cN0 "computed" "I" (.int (0 : Int32))) (V_ta : OAr Z h0 ta kt .int (oA8 (0 : Int32) (0 : Int32))) (V_ca : OAr Z h0 ca kc .int (oA8 (0 : Int32) (0 : Int32))) (g_a1 : n0 ≤ a1) (g_ta : n0 ≤ ta) (g_ca : n0 ≤ ca) (ne_a1_ta : a1 ≠ ta) (ne_a1_ca : a1 ≠ ca) (ne_ta_ca : ta ≠ ca) (hna : 2 ≤ p1.toInt) (hnb : 3 ≤ p2.toInt) :
    MetFree l mN6 (head1 (Jvm.Cond.code mN6 method_4_code 6 (some .boolean) :: ws) ({ frames := 1, cells := 0, slots := 0, locals := 13 } : Room)) (fun a U => a = #[(.ref a1), (.int p1), (.int p2), (.int (0 : Int32))] ∧ Z.Warmed39 U.vm ∧ U.heap = h0) (fun _ _ _ _ _ => True) (fun _ U o U' => ∃ v L, o = .returned v ∧ Q_bok_s23_0 Z a1 p1 p2 ta ca kt kc h0 n0 v U'.heap L ∧ FrameEnd U o U' L ({ frames := 1, cells := 0, slots := 0, locals := 13 } : Room).cells ({ frames := 1, cells := 0, slots := 0, locals := 13 } : Room).slots) := by
  refine MetFree.of_bodySF (plainFor_of_name pn_com_example_flote_flote_program_ChoicesNextPinLaw) hisR ?_
  intro p e s m args below meth c s₁ Bd hml0 hP hK
  obtain ⟨rfl, hZ, hh⟩ := hP
  have hx := Bd.exec
  have hby := Bd.bytes
  have hml : c.maxLocals = 6 := hml0
  have hown : s.vm.findClass "com/example/flote/flote/program/ChoicesNextPinLaw" = some m.cls := findClass_of_methodNamed Bd.named
  have hnm := (name_of_methodNamed Bd.named Bd.method).1
  have X0 : Stand p l e ({ frames := 1, cells := 0, slots := 0, locals := 13 } : Room) s m #[(.ref a1), (.int p1), (.int p2), (.int (0 : Int32))] below meth c s₁ [] 0 0 := Stand.of_body Bd
  have e0 : s₁.heap = h0 := by rw [← hh, Bd.state]; rfl
  have N0 := Fr.nil n0
  obtain ⟨A0, hA0⟩ : ∃ z, z = s₁.setTop (entryFrame m #[(.ref a1), (.int p1), (.int p2), (.int (0 : Int32))] 6) := ⟨_, rfl⟩
  have K : OGo p e below A0 s₁ (mkF m 0 #[rv a1, iv p1, iv p2, iv 0, .unset, .unset] []) := fun t k => hA0 ▸ castTop (ef_5 m a1 p1 p2 (0 : Int32)) k
  replace K : OGo p e below A0 s₁ (mkF m 1 #[rv a1, iv p1, iv p2, iv 0, .unset, .unset] [(.ref a1)]) := fun t k => K t (XS.aloadN X0.here hx rfl (hb hby d5_0) rfl rfl k)
  replace K : OGo p e below A0 s₁ (mkF m 2 #[rv a1, iv p1, iv p2, iv 0, .unset, .unset] [(.int p1), (.ref a1)]) := fun t k => K t (XS.iloadN X0.here hx rfl (hb hby d5_1) rfl k)
  obtain ⟨cq1, kq1, qv1a, qv1b, qv1c⟩ := isOf hZ e0 E_a1
  obtain ⟨_, _, ⟨T1, L1, k1, n1⟩, -, X1, ⟨Lc1, hQ1, l1, y1, z1⟩, st1⟩ := X0.virtualBack hx (y := mN4) (z := mN4) hown (mvT hZ (ow hw 41 rfl)) (mvT hZ (ow hw 42 rfl)) (notFace_of_selects (args := #[]) (mvT hZ (ow hw 44 rfl))) (mvT hZ (ow hw 44 rfl)) (mvT hZ (ow hw 43 rfl)) (by decide) (backOf (W := 0) (rm_chooseN00 l Z a0 hw [] a1 p1 ta ca kt kc (0 : Int32) (0 : Int32) (0 : Int32) (0 : Int32) (1 : Int32) (0 : Int32) h0 n0 Z0 E_a1 F_taken_a1 F_counts_a1 F_met_a1 F_repeated_a1 F_branches_a1 F_computed_a1 V_ta V_ca g_a1 g_ta g_ca ne_a1_ta ne_a1_ca ne_ta_ca (fun z => by have q := hna; rw [z] at q; have : (1 : Int32).toInt = 1 := (by decide); omega)) hZ (ow hw 45 rfl) (ow hw 7 rfl) (by decide) (by decide)) qv1a qv1c (g := (mkF m 2 #[rv a1, iv p1, iv p2, iv 0, .unset, .unset] [(.int p1), (.ref a1)])) rfl (by rw [hml]; rfl) (Steps.refl _) (argsL := [(.int p1)]) (rest := []) (lenOf pd__I_I rfl) rfl (by show 2 * 0 + _ ≤ _; exact Nat.le_of_eq rfl) (hb hby d5_2) (fun _ _ => ⟨rfl, e0, (by decide : 0 + 0 ≤ _), (by decide : 0 + 0 ≤ _)⟩)
  dsimp only [Pt.U, Pt.locs, Pt.cells, Pt.slots] at X1 l1 y1 z1 st1 hQ1
  subst l1 y1 z1
  obtain ⟨hp1, e1⟩ : ∃ z, T1.heap = z := ⟨_, rfl⟩
  rw [e1] at hQ1
  obtain ⟨rfl, Nq1, K1, P1_0, P1_1, P1_2, P1_3, P1_4, P1_5, P1_6, P1_7, P1_8⟩ := hQ1
  have Z1 : n0 ≤ hp1.size := Nat.le_trans Z0 K1.1
  have Kp1 : Keep h0 hp1 [a1, ta, ca] := (Keep.refl h0 [a1, ta, ca]).trans K1 (allS (Or.inl (List.mem_of_getElem? (i := 0) rfl)) (allS (Or.inl (List.mem_of_getElem? (i := 1) rfl)) (allS (Or.inl (List.mem_of_getElem? (i := 2) rfl)) all0)))
  have N1 := Fr.app N0 Nq1
  replace K : OGo p e below A0 T1 (mkF m 5 #[rv a1, iv p1, iv p2, iv 0, .unset, .unset] [(.int 0)]) := fun t k => K t (st1.trans k)
  replace K : OGo p e below A0 T1 (mkF m 7 #[rv a1, iv p1, iv p2, iv 0, iv 0, .unset] []) := fun t k => K t (XS.istore X1.here hx rfl (hb hby d5_5) rfl (l' := #[rv a1, iv p1, iv p2, iv 0, iv 0, .unset]) rfl k)
  replace K : OGo p e below A0 T1 (mkF m 8 #[rv a1, iv p1, iv p2, iv 0, iv 0, .unset] [(.ref a1)]) := fun t k => K t (XS.aloadN X1.here hx rfl (hb hby d5_7) rfl rfl k)
  replace K : OGo p e below A0 T1 (mkF m 9 #[rv a1, iv p1, iv p2, iv 0, iv 0, .unset] [(.int p2), (.ref a1)]) := fun t k => K t (XS.iloadN X1.here hx rfl (hb hby d5_8) rfl k)
  obtain ⟨cq2, kq2, qv2a, qv2b, qv2c⟩ := isOf hZ e1 P1_0
  obtain ⟨_, _, ⟨T2, L2, k2, n2⟩, -, X2, ⟨Lc2, hQ2, l2, y2, z2⟩, st2⟩ := X1.virtualBack hx (y := mN4) (z := mN4) hown (mvT hZ (ow hw 41 rfl)) (mvT hZ (ow hw 42 rfl)) (notFace_of_selects (args := #[]) (mvT hZ (ow hw 44 rfl))) (mvT hZ (ow hw 44 rfl)) (mvT hZ (ow hw 43 rfl)) (by decide) (backOf (W := 0) (rm_chooseN10 l Z a0 hw [] a1 p2 ta ca kt kc (0 : Int32) (0 : Int32) p1 (0 : Int32) (1 : Int32) (0 : Int32) hp1 n0 Z1 P1_0 P1_1 P1_2 P1_3 P1_4 P1_5 P1_6 P1_7 P1_8 g_a1 g_ta g_ca ne_a1_ta ne_a1_ca ne_ta_ca (fun z => by have q := hnb; rw [z] at q; have : (1 : Int32).toInt = 1 := (by decide); omega)) hZ (ow hw 45 rfl) (ow hw 7 rfl) (by decide) (by decide)) qv2a qv2c (g := (mkF m 9 #[rv a1, iv p1, iv p2, iv 0, iv 0, .unset] [(.int p2), (.ref a1)])) rfl (by rw [hml]; rfl) (Steps.refl _) (argsL := [(.int p2)]) (rest := []) (lenOf pd__I_I rfl) rfl (by show 2 * 0 + _ ≤ _; exact Nat.le_of_eq rfl) (hb hby d5_9) (fun _ _ => ⟨rfl, e1, (by decide : 0 + 0 ≤ _), (by decide : 0 + 0 ≤ _)⟩)
  dsimp only [Pt.U, Pt.locs, Pt.cells, Pt.slots] at X2 l2 y2 z2 st2 hQ2
  subst l2 y2 z2
  obtain ⟨hp2, e2⟩ : ∃ z, T2.heap = z := ⟨_, rfl⟩
  rw [e2] at hQ2
  obtain ⟨rfl, Nq2, K2, P2_0, P2_1, P2_2, P2_3, P2_4, P2_5, P2_6, P2_7, P2_8⟩ := hQ2
  have Z2 : n0 ≤ hp2.size := Nat.le_trans Z1 K2.1
  have Kp2 : Keep h0 hp2 [a1, ta, ca] := Kp1.trans K2 (allS (Or.inl (List.mem_of_getElem? (i := 0) rfl)) (allS (Or.inl (List.mem_of_getElem? (i := 1) rfl)) (allS (Or.inl (List.mem_of_getElem? (i := 2) rfl)) all0)))
  have N2 := Fr.app N1 Nq2
  replace K : OGo p e below A0 T2 (mkF m 12 #[rv a1, iv p1, iv p2, iv 0, iv 0, .unset] [(.int 0)]) := fun t k => K t (st2.trans k)
  replace K : OGo p e below A0 T2 (mkF m 14 #[rv a1, iv p1, iv p2, iv 0, iv 0, iv 0] []) := fun t k => K t (XS.istore X2.here hx rfl (hb hby d5_12) rfl (l' := #[rv a1, iv p1, iv p2, iv 0, iv 0, iv 0]) rfl k)
  replace K : OGo p e below A0 T2 (mkF m 16 #[rv a1, iv p1, iv p2, iv 0, iv 0, iv 0] [(.int 0)]) := fun t k => K t (XS.iload X2.here hx rfl (hb hby d5_14) rfl k)
  replace K : OGo p e below A0 T2 (mkF m 17 #[rv a1, iv p1, iv p2, iv 0, iv 0, iv 0] [(.int 0), (.int 0)]) := fun t k => K t (XS.iloadN X2.here hx rfl (hb hby d5_16) rfl k)
  replace K : OGo p e below A0 T2 (mkF m 18 #[rv a1, iv p1, iv p2, iv 0, iv 0, iv 0] [(.int p2), (.int 0), (.int 0)]) := fun t k => K t (XS.iloadN X2.here hx rfl (hb hby d5_17) rfl k)
  replace K : OGo p e below A0 T2 (mkF m 19 #[rv a1, iv p1, iv p2, iv 0, iv 0, iv 0] [(.int ((0 : Int32) / p2)), (.int 0)]) := fun t k => K t (XS.idiv X2.here hx rfl (hb hby d5_18) rfl (own_nz hnb (by decide)) k)
  replace K : OGo p e below A0 T2 (mkF m 22 #[rv a1, iv p1, iv p2, iv 0, iv 0, iv 0] []) := fun t k => K t (XS.icmpNo X2.here hx rfl (hb hby d5_19) rfl (teq ((own_div (k := (0 : Int32)) (b := p2) (by decide) (by have : ((0 : Int32) : Int32).toInt = 0 := (by decide); omega)).1 : (0 : Int32) = ((0 : Int32) / p2))).2 k)
  replace K : OGo p e below A0 T2 (mkF m 24 #[rv a1, iv p1, iv p2, iv 0, iv 0, iv 0] [(.int 0)]) := fun t k => K t (XS.iload X2.here hx rfl (hb hby d5_22) rfl k)
  replace K : OGo p e below A0 T2 (mkF m 25 #[rv a1, iv p1, iv p2, iv 0, iv 0, iv 0] [(.int 0), (.int 0)]) := fun t k => K t (XS.iloadN X2.here hx rfl (hb hby d5_24) rfl k)
  replace K : OGo p e below A0 T2 (mkF m 26 #[rv a1, iv p1, iv p2, iv 0, iv 0, iv 0] [(.int p2), (.int 0), (.int 0)]) := fun t k => K t (XS.iloadN X2.here hx rfl (hb hby d5_25) rfl k)
  replace K : OGo p e below A0 T2 (mkF m 27 #[rv a1, iv p1, iv p2, iv 0, iv 0, iv 0] [(.int ((0 : Int32) % p2)), (.int 0)]) := fun t k => K t (iremM X2 hx rfl (hb hby d5_26) rfl (own_nz hnb (by decide)) k)
  replace K : OGo p e below A0 T2 (mkF m 30 #[rv a1, iv p1, iv p2, iv 0, iv 0, iv 0] []) := fun t k => K t (XS.icmpNo X2.here hx rfl (hb hby d5_27) rfl (teq ((own_div (k := (0 : Int32)) (b := p2) (by decide) (by have : ((0 : Int32) : Int32).toInt = 0 := (by decide); omega)).2 : (0 : Int32) = ((0 : Int32) % p2))).2 k)
  replace K : OGo p e below A0 T2 (mkF m 31 #[rv a1, iv p1, iv p2, iv 0, iv 0, iv 0] [(.int 1)]) := fun t k => K t (XS.iconst X2.here hx rfl (hb hby d5_30) k)
  replace K : OGo p e below A0 T2 (mkF m 35 #[rv a1, iv p1, iv p2, iv 0, iv 0, iv 0] [(.int 1)]) := fun t k => K t (XS.goto X2.here hx rfl (pc0 := 31) (pc' := 35) rfl (hb hby d5_31) (by decide) (by decide) k)
  obtain ⟨fs, hr, hrun, hended, hW, hsame⟩ := X2.leave (v := some (.int (1 : Int32))) (fun h => by rw [Bd.returns] at h; cases h)
  subst hA0
  refine ⟨_, _, K _ (retN X2 hx (t := .boolean) Bd.returns (by simp) (hb hby d5_35) hr), hrun, hended, _, _, rfl, ?_, ⟨_, rfl⟩, hW, hsame.mono (by decide) (by decide)⟩
  show Q_bok_s23_0 Z a1 p1 p2 ta ca kt kc h0 n0 _ T2.heap _
  rw [e2]
  exact ⟨rfl, N2, Kp2, P2_0, P2_1, P2_2, P2_3, P2_4, P2_5, P2_6, P2_7, P2_8⟩
def Q_nx_D_s23 (Z : State) (a1 : Addr) (ta : Addr) (ca : Addr) (kt : ClassId) (kc : ClassId) (c0 : Int32) (c1 : Int32) (h0 : Heap) (n0 : Nat) (v : Option Value) (h : Heap) (L : List Loc) : Prop := v = some (.int (1 : Int32)) ∧ Fr n0 L ∧ Keep h0 h [a1, ta, ca] ∧ Exa Z h a1 cN0 ∧ Fld Z h a1 cN0 "taken" "[I" (.ref ta) ∧ Fld Z h a1 cN0 "counts" "[I" (.ref ca) ∧ Fld Z h a1 cN0 "met" "I" (.int (0 : Int32)) ∧ Fld Z h a1 cN0 "repeated" "I" (.int (2 : Int32)) ∧ Fld Z h a1 cN0 "branches" "I" (.int (2 : Int32)) ∧ Fld Z h a1 cN0 "computed" "I" (.int (0 : Int32)) ∧ OAr Z h ta kt .int (oA8 (0 : Int32) (1 : Int32)) ∧ OAr Z h ca kc .int (oA8 c0 c1)
set_option maxRecDepth 65536 in
set_option maxHeartbeats 40000000 in
theorem rm_nx_D_s23 (l : Launch) (Z : State) (a0 : Array Value) (hw : ∀ d ∈ tables_1, d.before a0 Z = true) (ws : List Jvm.Cond) (a1 : Addr) (ta : Addr) (ca : Addr) (kt : ClassId) (kc : ClassId) (c0 : Int32) (c1 : Int32) (h0 : Heap) (n0 : Nat) (Z0 : n0 ≤ h0.size) (E_a1 : Exa Z h0 a1 cN0) (F_taken_a1 : Fld Z h0 a1 cN0 "taken" "[I" (.ref ta)) (F_counts_a1 : Fld Z h0 a1 cN0 "counts" "[I" (.ref ca)) (F_met_a1 : Fld Z h0 a1 cN0 "met" "I" (.int (2 : Int32))) (F_repeated_a1 : Fld Z h0 a1 cN0 "repeated" "I" (.int (0 : Int32))) (F_branches_a1 : Fld Z h0 a1 cN0 "branches" "I" (.int (1 : Int32))) (F_computed_a1 : Fld Z h0 a1 cN0 "computed" "I" (.int (0 : Int32))) (V_ta : OAr Z h0 ta kt .int (oA8 (0 : Int32) (0 : Int32))) (V_ca : OAr Z h0 ca kc .int (oA8 c0 c1)) (g_a1 : n0 ≤ a1) (g_ta : n0 ≤ ta) (g_ca : n0 ≤ ca) (ne_a1_ta : a1 ≠ ta) (ne_a1_ca : a1 ≠ ca) (ne_ta_ca : ta ≠ ca) (hc0 : 2 ≤ c0.toInt) (hc1 : 3 ≤ c1.toInt) :
    MetFree l mN7 (head1 (Jvm.Cond.code mN7 prog_72_method_6_code 3 (some .boolean) :: ws) ({ frames := 0, cells := 0, slots := 0, locals := 0 } : Room)) (fun a U => a = #[(.ref a1)] ∧ Z.Warmed39 U.vm ∧ U.heap = h0) (fun _ _ _ _ _ => True) (fun _ U o U' => ∃ v L, o = .returned v ∧ Q_nx_D_s23 Z a1 ta ca kt kc c0 c1 h0 n0 v U'.heap L ∧ FrameEnd U o U' L ({ frames := 0, cells := 0, slots := 0, locals := 0 } : Room).cells ({ frames := 0, cells := 0, slots := 0, locals := 0 } : Room).slots) := by
  refine MetFree.of_bodySF (plainFor_of_name pn_com_example_flote_flote_program_Choices) hisR ?_
  intro p e s m args below meth c s₁ Bd hml0 hP hK
  obtain ⟨rfl, hZ, hh⟩ := hP
  have hx := Bd.exec
  have hby := Bd.bytes
  have hml : c.maxLocals = 3 := hml0
  have hown : s.vm.findClass "com/example/flote/flote/program/Choices" = some m.cls := findClass_of_methodNamed Bd.named
  have hnm := (name_of_methodNamed Bd.named Bd.method).1
  have X0 : Stand p l e ({ frames := 0, cells := 0, slots := 0, locals := 0 } : Room) s m #[(.ref a1)] below meth c s₁ [] 0 0 := Stand.of_body Bd
  have e0 : s₁.heap = h0 := by rw [← hh, Bd.state]; rfl
  have N0 := Fr.nil n0
  obtain ⟨A0, hA0⟩ : ∃ z, z = s₁.setTop (entryFrame m #[(.ref a1)] 3) := ⟨_, rfl⟩
  have K : OGo p e below A0 s₁ (mkF m 0 #[rv a1, .unset, .unset] []) := fun t k => hA0 ▸ castTop (ef_7 m a1) k
  replace K : OGo p e below A0 s₁ (mkF m 1 #[rv a1, .unset, .unset] [(.ref a1)]) := fun t k => K t (XS.aloadN X0.here hx rfl (hb hby d7_0) rfl rfl k)
  obtain ⟨T1, X1, e1, st1⟩ := getF X0 hx hZ hown (host := "") (Or.inl (ow hw 30 rfl)) Via.refl e0 F_met_a1 (g := (mkF m 1 #[rv a1, .unset, .unset] [(.ref a1)])) rfl rfl (hb hby d7_1)
  replace K : OGo p e below A0 T1 (mkF m 4 #[rv a1, .unset, .unset] [(.int 2)]) := fun t k => K t (st1 t k)
  replace K : OGo p e below A0 T1 (mkF m 5 #[rv a1, .unset, .unset] [(.int 1), (.int 2)]) := fun t k => K t (XS.iconst X1.here hx rfl (hb hby d7_4) k)
  replace K : OGo p e below A0 T1 (mkF m 6 #[rv a1, .unset, .unset] [(.int 1)]) := fun t k => K t (XS.isub X1.here hx rfl (hb hby d7_5) rfl k)
  replace K : OGo p e below A0 T1 (mkF m 7 #[rv a1, iv 1, .unset] []) := fun t k => K t (XS.istoreN X1.here hx rfl (hb hby d7_6) rfl (l' := #[rv a1, iv 1, .unset]) rfl k)
  replace K : OGo p e below A0 T1 (mkF m 8 #[rv a1, iv 1, .unset] [(.int 1)]) := fun t k => K t (XS.iloadN X1.here hx rfl (hb hby d7_7) rfl k)
  replace K : OGo p e below A0 T1 (mkF m 11 #[rv a1, iv 1, .unset] []) := fun t k => K t (XS.ifNo X1.here hx rfl (hb hby d7_8) rfl ((if0 _ _).trans (flt ((by decide : ¬ ((1 : Int32) < (0 : Int32))) : ¬ ((1 : Int32) < (0 : Int32)))).1) k)
  replace K : OGo p e below A0 T1 (mkF m 12 #[rv a1, iv 1, .unset] [(.ref a1)]) := fun t k => K t (XS.aloadN X1.here hx rfl (hb hby d7_11) rfl rfl k)
  obtain ⟨T2, X2, e2, st2⟩ := getF X1 hx hZ hown (host := "") (Or.inl (ow hw 15 rfl)) Via.refl e1 F_taken_a1 (g := (mkF m 12 #[rv a1, iv 1, .unset] [(.ref a1)])) rfl rfl (hb hby d7_12)
  replace K : OGo p e below A0 T2 (mkF m 15 #[rv a1, iv 1, .unset] [(.ref ta)]) := fun t k => K t (st2 t k)
  replace K : OGo p e below A0 T2 (mkF m 16 #[rv a1, iv 1, .unset] [(.int 1), (.ref ta)]) := fun t k => K t (XS.iloadN X2.here hx rfl (hb hby d7_15) rfl k)
  replace K : OGo p e below A0 T2 (mkF m 17 #[rv a1, iv 1, .unset] [(.int 0)]) := fun t k => K t (own_ldI X2 hx hZ e2 V_ta (j := (1 : Int32)) (v := (.int (0 : Int32))) (by decide) rfl (g := (mkF m 16 #[rv a1, iv 1, .unset] [(.int 1), (.ref ta)])) rfl rfl (hb hby d7_16) t k)
  replace K : OGo p e below A0 T2 (mkF m 18 #[rv a1, iv 1, .unset] [(.ref a1), (.int 0)]) := fun t k => K t (XS.aloadN X2.here hx rfl (hb hby d7_17) rfl rfl k)
  obtain ⟨T3, X3, e3, st3⟩ := getF X2 hx hZ hown (host := "") (Or.inl (ow hw 17 rfl)) Via.refl e2 F_counts_a1 (g := (mkF m 18 #[rv a1, iv 1, .unset] [(.ref a1), (.int 0)])) rfl rfl (hb hby d7_18)
  replace K : OGo p e below A0 T3 (mkF m 21 #[rv a1, iv 1, .unset] [(.ref ca), (.int 0)]) := fun t k => K t (st3 t k)
  replace K : OGo p e below A0 T3 (mkF m 22 #[rv a1, iv 1, .unset] [(.int 1), (.ref ca), (.int 0)]) := fun t k => K t (XS.iloadN X3.here hx rfl (hb hby d7_21) rfl k)
  replace K : OGo p e below A0 T3 (mkF m 23 #[rv a1, iv 1, .unset] [(.int c1), (.int 0)]) := fun t k => K t (own_ldI X3 hx hZ e3 V_ca (j := (1 : Int32)) (v := (.int c1)) (by decide) rfl (g := (mkF m 22 #[rv a1, iv 1, .unset] [(.int 1), (.ref ca), (.int 0)])) rfl rfl (hb hby d7_22) t k)
  replace K : OGo p e below A0 T3 (mkF m 24 #[rv a1, iv 1, .unset] [(.int 1), (.int c1), (.int 0)]) := fun t k => K t (XS.iconst X3.here hx rfl (hb hby d7_23) k)
  replace K : OGo p e below A0 T3 (mkF m 25 #[rv a1, iv 1, .unset] [(.int (c1 - (1 : Int32))), (.int 0)]) := fun t k => K t (XS.isub X3.here hx rfl (hb hby d7_24) rfl k)
  replace K : OGo p e below A0 T3 (mkF m 34 #[rv a1, iv 1, .unset] []) := fun t k => K t (XS.icmpYes X3.here hx rfl (pc0 := 25) (pc' := 34) rfl (hb hby d7_25) rfl (feq ((own_nsub (t := (0 : Int32)) (k := 0) (by decide) (by omega) (by decide)) : ¬ ((0 : Int32) = (c1 - (1 : Int32))))).2 (by decide) (by decide) k)
  replace K : OGo p e below A0 T3 (mkF m 35 #[rv a1, iv 1, .unset] [(.int 1)]) := fun t k => K t (XS.iloadN X3.here hx rfl (hb hby d7_34) rfl k)
  replace K : OGo p e below A0 T3 (mkF m 38 #[rv a1, iv 1, .unset] []) := fun t k => K t (XS.ifNo X3.here hx rfl (hb hby d7_35) rfl ((if0 _ _).trans (flt ((by decide : ¬ ((1 : Int32) < (0 : Int32))) : ¬ ((1 : Int32) < (0 : Int32)))).1) k)
  replace K : OGo p e below A0 T3 (mkF m 39 #[rv a1, iv 1, .unset] [(.int 1)]) := fun t k => K t (XS.iconst X3.here hx rfl (hb hby d7_38) k)
  replace K : OGo p e below A0 T3 (mkF m 43 #[rv a1, iv 1, .unset] [(.int 1)]) := fun t k => K t (XS.goto X3.here hx rfl (pc0 := 39) (pc' := 43) rfl (hb hby d7_39) (by decide) (by decide) k)
  replace K : OGo p e below A0 T3 (mkF m 44 #[rv a1, iv 1, iv 1] []) := fun t k => K t (XS.istoreN X3.here hx rfl (hb hby d7_43) rfl (l' := #[rv a1, iv 1, iv 1]) rfl k)
  replace K : OGo p e below A0 T3 (mkF m 45 #[rv a1, iv 1, iv 1] [(.int 1)]) := fun t k => K t (XS.iloadN X3.here hx rfl (hb hby d7_44) rfl k)
  replace K : OGo p e below A0 T3 (mkF m 48 #[rv a1, iv 1, iv 1] []) := fun t k => K t (XS.ifNo X3.here hx rfl (hb hby d7_45) rfl ((if0 _ _).trans (feq ((by decide : ¬ ((1 : Int32) = (0 : Int32))) : ¬ ((1 : Int32) = (0 : Int32)))).1) k)
  replace K : OGo p e below A0 T3 (mkF m 49 #[rv a1, iv 1, iv 1] [(.ref a1)]) := fun t k => K t (XS.aloadN X3.here hx rfl (hb hby d7_48) rfl rfl k)
  obtain ⟨T4, X4, e4, st4⟩ := getF X3 hx hZ hown (host := "") (Or.inl (ow hw 15 rfl)) Via.refl e3 F_taken_a1 (g := (mkF m 49 #[rv a1, iv 1, iv 1] [(.ref a1)])) rfl rfl (hb hby d7_49)
  replace K : OGo p e below A0 T4 (mkF m 52 #[rv a1, iv 1, iv 1] [(.ref ta)]) := fun t k => K t (st4 t k)
  replace K : OGo p e below A0 T4 (mkF m 53 #[rv a1, iv 1, iv 1] [(.int 1), (.ref ta)]) := fun t k => K t (XS.iloadN X4.here hx rfl (hb hby d7_52) rfl k)
  replace K : OGo p e below A0 T4 (mkF m 54 #[rv a1, iv 1, iv 1] [(.int 1), (.ref ta), (.int 1), (.ref ta)]) := fun t k => K t (Jvm.Free.XT.dup2 X4.here hx rfl (hb hby d7_53) rfl rfl rfl k)
  replace K : OGo p e below A0 T4 (mkF m 55 #[rv a1, iv 1, iv 1] [(.int 0), (.int 1), (.ref ta)]) := fun t k => K t (own_ldI X4 hx hZ e4 V_ta (j := (1 : Int32)) (v := (.int (0 : Int32))) (by decide) rfl (g := (mkF m 54 #[rv a1, iv 1, iv 1] [(.int 1), (.ref ta), (.int 1), (.ref ta)])) rfl rfl (hb hby d7_54) t k)
  replace K : OGo p e below A0 T4 (mkF m 56 #[rv a1, iv 1, iv 1] [(.int 1), (.int 0), (.int 1), (.ref ta)]) := fun t k => K t (XS.iconst X4.here hx rfl (hb hby d7_55) k)
  replace K : OGo p e below A0 T4 (mkF m 57 #[rv a1, iv 1, iv 1] [(.int 1), (.int 1), (.ref ta)]) := fun t k => K t (XS.iadd X4.here hx rfl (hb hby d7_56) rfl k)
  obtain ⟨T5, h5, X5, e5, W5, V5, st5⟩ := own_stI X4 hx hZ e4 V_ta (j := (1 : Int32)) (by decide) (Nat.le_of_ble_eq_true rfl) (g := (mkF m 57 #[rv a1, iv 1, iv 1] [(.int 1), (.int 1), (.ref ta)])) rfl rfl (hb hby d7_57)
  have Z5 : n0 ≤ h5.size := Nat.le_trans Z0 (Keep.of_wr W5).1
  have Kp5 : Keep h0 h5 [a1, ta, ca] := (Keep.refl h0 [a1, ta, ca]).wr W5 (Or.inl (List.mem_of_getElem? (i := 1) rfl))
  have V_ta_5 : OAr Z h5 ta kt .int (oA8 (0 : Int32) (1 : Int32)) := V5
  have N5 := Fr.snoc X5 N0 g_ta
  replace K : OGo p e below A0 T5 (mkF m 58 #[rv a1, iv 1, iv 1] []) := fun t k => K t (st5 t k)
  replace K : OGo p e below A0 T5 (mkF m 59 #[rv a1, iv 1, iv 1] [(.ref a1)]) := fun t k => K t (XS.aloadN X5.here hx rfl (hb hby d7_58) rfl rfl k)
  replace K : OGo p e below A0 T5 (mkF m 60 #[rv a1, iv 1, iv 1] [(.int 1), (.ref a1)]) := fun t k => K t (XS.iloadN X5.here hx rfl (hb hby d7_59) rfl k)
  replace K : OGo p e below A0 T5 (mkF m 61 #[rv a1, iv 1, iv 1] [(.int 1), (.int 1), (.ref a1)]) := fun t k => K t (XS.iconst X5.here hx rfl (hb hby d7_60) k)
  replace K : OGo p e below A0 T5 (mkF m 62 #[rv a1, iv 1, iv 1] [(.int 2), (.ref a1)]) := fun t k => K t (XS.iadd X5.here hx rfl (hb hby d7_61) rfl k)
  have F_repeated_a1_6 := (F_repeated_a1.other W5 (Or.inl ne_a1_ta))
  have E_a1_7 := (E_a1.wr W5)
  obtain ⟨T8, h8, X8, e8, W8, st8⟩ := putF X5 hx hZ hown (host := "") (Or.inl (ow hw 32 rfl)) Via.refl e5 F_repeated_a1_6 E_a1_7 (Or.inl (ow hw 33 rfl)) (ow hw 6 rfl) (ty := .int) (by decide) rfl rfl (g := (mkF m 62 #[rv a1, iv 1, iv 1] [(.int 2), (.ref a1)])) rfl rfl (hb hby d7_62)
  have Z8 : n0 ≤ h8.size := Nat.le_trans Z5 (Keep.of_wr W8).1
  have Kp8 : Keep h0 h8 [a1, ta, ca] := Kp5.wr W8 (Or.inl (List.mem_of_getElem? (i := 0) rfl))
  have F_repeated_a1_8 := F_repeated_a1_6.same W8
  have N8 := Fr.snoc X8 N5 g_a1
  replace K : OGo p e below A0 T8 (mkF m 65 #[rv a1, iv 1, iv 1] []) := fun t k => K t (st8 t k)
  replace K : OGo p e below A0 T8 (mkF m 66 #[rv a1, iv 1, iv 1] [(.ref a1)]) := fun t k => K t (XS.aloadN X8.here hx rfl (hb hby d7_65) rfl rfl k)
  replace K : OGo p e below A0 T8 (mkF m 67 #[rv a1, iv 1, iv 1] [(.int 0), (.ref a1)]) := fun t k => K t (XS.iconst X8.here hx rfl (hb hby d7_66) k)
  have F_met_a1_9 := ((F_met_a1.other W5 (Or.inl ne_a1_ta)).other W8 (Or.inr (sn_cN0_met_repeated hw)))
  have E_a1_10 := (E_a1_7.wr W8)
  obtain ⟨T11, h11, X11, e11, W11, st11⟩ := putF X8 hx hZ hown (host := "") (Or.inl (ow hw 30 rfl)) Via.refl e8 F_met_a1_9 E_a1_10 (Or.inl (ow hw 31 rfl)) (ow hw 6 rfl) (ty := .int) (by decide) rfl rfl (g := (mkF m 67 #[rv a1, iv 1, iv 1] [(.int 0), (.ref a1)])) rfl rfl (hb hby d7_67)
  have Z11 : n0 ≤ h11.size := Nat.le_trans Z8 (Keep.of_wr W11).1
  have Kp11 : Keep h0 h11 [a1, ta, ca] := Kp8.wr W11 (Or.inl (List.mem_of_getElem? (i := 0) rfl))
  have F_met_a1_11 := F_met_a1_9.same W11
  have N11 := Fr.snoc X11 N8 g_a1
  replace K : OGo p e below A0 T11 (mkF m 70 #[rv a1, iv 1, iv 1] []) := fun t k => K t (st11 t k)
  replace K : OGo p e below A0 T11 (mkF m 71 #[rv a1, iv 1, iv 1] [(.ref a1)]) := fun t k => K t (XS.aloadN X11.here hx rfl (hb hby d7_70) rfl rfl k)
  replace K : OGo p e below A0 T11 (mkF m 72 #[rv a1, iv 1, iv 1] [(.ref a1), (.ref a1)]) := fun t k => K t (XS.dup X11.here hx rfl (hb hby d7_71) rfl rfl k)
  have F_branches_a1_12 := (((F_branches_a1.other W5 (Or.inl ne_a1_ta)).other W8 (Or.inr (sn_cN0_branches_repeated hw))).other W11 (Or.inr (sn_cN0_branches_met hw)))
  obtain ⟨T13, X13, e13, st13⟩ := getF X11 hx hZ hown (host := "") (Or.inl (ow hw 34 rfl)) Via.refl e11 F_branches_a1_12 (g := (mkF m 72 #[rv a1, iv 1, iv 1] [(.ref a1), (.ref a1)])) rfl rfl (hb hby d7_72)
  replace K : OGo p e below A0 T13 (mkF m 75 #[rv a1, iv 1, iv 1] [(.int 1), (.ref a1)]) := fun t k => K t (st13 t k)
  replace K : OGo p e below A0 T13 (mkF m 76 #[rv a1, iv 1, iv 1] [(.int 1), (.int 1), (.ref a1)]) := fun t k => K t (XS.iconst X13.here hx rfl (hb hby d7_75) k)
  replace K : OGo p e below A0 T13 (mkF m 77 #[rv a1, iv 1, iv 1] [(.int 2), (.ref a1)]) := fun t k => K t (XS.iadd X13.here hx rfl (hb hby d7_76) rfl k)
  have E_a1_14 := (E_a1_10.wr W11)
  obtain ⟨T15, h15, X15, e15, W15, st15⟩ := putF X13 hx hZ hown (host := "") (Or.inl (ow hw 34 rfl)) Via.refl e13 F_branches_a1_12 E_a1_14 (Or.inl (ow hw 35 rfl)) (ow hw 6 rfl) (ty := .int) (by decide) rfl rfl (g := (mkF m 77 #[rv a1, iv 1, iv 1] [(.int 2), (.ref a1)])) rfl rfl (hb hby d7_77)
  have Z15 : n0 ≤ h15.size := Nat.le_trans Z11 (Keep.of_wr W15).1
  have Kp15 : Keep h0 h15 [a1, ta, ca] := Kp11.wr W15 (Or.inl (List.mem_of_getElem? (i := 0) rfl))
  have F_branches_a1_15 := F_branches_a1_12.same W15
  have N15 := Fr.snoc X15 N11 g_a1
  replace K : OGo p e below A0 T15 (mkF m 80 #[rv a1, iv 1, iv 1] []) := fun t k => K t (st15 t k)
  replace K : OGo p e below A0 T15 (mkF m 81 #[rv a1, iv 1, iv 1] [(.ref a1)]) := fun t k => K t (XS.aloadN X15.here hx rfl (hb hby d7_80) rfl rfl k)
  replace K : OGo p e below A0 T15 (mkF m 82 #[rv a1, iv 1, iv 1] [(.int 0), (.ref a1)]) := fun t k => K t (XS.iconst X15.here hx rfl (hb hby d7_81) k)
  have F_computed_a1_16 := ((((F_computed_a1.other W5 (Or.inl ne_a1_ta)).other W8 (Or.inr (sn_cN0_computed_repeated hw))).other W11 (Or.inr (sn_cN0_computed_met hw))).other W15 (Or.inr (sn_cN0_computed_branches hw)))
  have E_a1_17 := (E_a1_14.wr W15)
  obtain ⟨T18, h18, X18, e18, W18, st18⟩ := putF X15 hx hZ hown (host := "") (Or.inl (ow hw 36 rfl)) Via.refl e15 F_computed_a1_16 E_a1_17 (Or.inl (ow hw 37 rfl)) (ow hw 6 rfl) (ty := .int) (by decide) rfl rfl (g := (mkF m 82 #[rv a1, iv 1, iv 1] [(.int 0), (.ref a1)])) rfl rfl (hb hby d7_82)
  have Z18 : n0 ≤ h18.size := Nat.le_trans Z15 (Keep.of_wr W18).1
  have Kp18 : Keep h0 h18 [a1, ta, ca] := Kp15.wr W18 (Or.inl (List.mem_of_getElem? (i := 0) rfl))
  have F_computed_a1_18 := F_computed_a1_16.same W18
  have N18 := Fr.snoc X18 N15 g_a1
  replace K : OGo p e below A0 T18 (mkF m 85 #[rv a1, iv 1, iv 1] []) := fun t k => K t (st18 t k)
  replace K : OGo p e below A0 T18 (mkF m 86 #[rv a1, iv 1, iv 1] [(.int 1)]) := fun t k => K t (XS.iloadN X18.here hx rfl (hb hby d7_85) rfl k)
  have E_a1_19 := (E_a1_17.wr W18)
  have F_taken_a1_20 := (((((F_taken_a1.other W5 (Or.inl ne_a1_ta)).other W8 (Or.inr (sn_cN0_taken_repeated hw))).other W11 (Or.inr (sn_cN0_taken_met hw))).other W15 (Or.inr (sn_cN0_taken_branches hw))).other W18 (Or.inr (sn_cN0_taken_computed hw)))
  have F_counts_a1_21 := (((((F_counts_a1.other W5 (Or.inl ne_a1_ta)).other W8 (Or.inr (sn_cN0_counts_repeated hw))).other W11 (Or.inr (sn_cN0_counts_met hw))).other W15 (Or.inr (sn_cN0_counts_branches hw))).other W18 (Or.inr (sn_cN0_counts_computed hw)))
  have F_met_a1_22 := ((F_met_a1_11.other W15 (Or.inr (sn_cN0_met_branches hw))).other W18 (Or.inr (sn_cN0_met_computed hw)))
  have F_repeated_a1_23 := (((F_repeated_a1_8.other W11 (Or.inr (sn_cN0_repeated_met hw))).other W15 (Or.inr (sn_cN0_repeated_branches hw))).other W18 (Or.inr (sn_cN0_repeated_computed hw)))
  have F_branches_a1_24 := (F_branches_a1_15.other W18 (Or.inr (sn_cN0_branches_computed hw)))
  have V_ta_25 := ((((V_ta_5.other W8 (Ne.symm ne_a1_ta)).other W11 (Ne.symm ne_a1_ta)).other W15 (Ne.symm ne_a1_ta)).other W18 (Ne.symm ne_a1_ta))
  have V_ca_26 := (((((V_ca.other W5 (Ne.symm ne_ta_ca)).other W8 (Ne.symm ne_a1_ca)).other W11 (Ne.symm ne_a1_ca)).other W15 (Ne.symm ne_a1_ca)).other W18 (Ne.symm ne_a1_ca))
  obtain ⟨fs, hr, hrun, hended, hW, hsame⟩ := X18.leave (v := some (.int (1 : Int32))) (fun h => by rw [Bd.returns] at h; cases h)
  subst hA0
  refine ⟨_, _, K _ (retN X18 hx (t := .boolean) Bd.returns (by simp) (hb hby d7_86) hr), hrun, hended, _, _, rfl, ?_, ⟨_, rfl⟩, hW, hsame.mono (by decide) (by decide)⟩
  show Q_nx_D_s23 Z a1 ta ca kt kc c0 c1 h0 n0 _ T18.heap _
  rw [e18]
  exact ⟨rfl, N18, Kp18, E_a1_19, F_taken_a1_20, F_counts_a1_21, F_met_a1_22, F_repeated_a1_23, F_branches_a1_24, F_computed_a1_18, V_ta_25, V_ca_26⟩
def Q_bok_s23_1 (Z : State) (a1 : Addr) (p1 : Int32) (p2 : Int32) (ta : Addr) (ca : Addr) (kt : ClassId) (kc : ClassId) (h0 : Heap) (n0 : Nat) (v : Option Value) (h : Heap) (L : List Loc) : Prop := v = some (.int (1 : Int32)) ∧ Fr n0 L ∧ Keep h0 h [a1, ta, ca] ∧ Exa Z h a1 cN0 ∧ Fld Z h a1 cN0 "taken" "[I" (.ref ta) ∧ Fld Z h a1 cN0 "counts" "[I" (.ref ca) ∧ Fld Z h a1 cN0 "met" "I" (.int (2 : Int32)) ∧ Fld Z h a1 cN0 "repeated" "I" (.int (2 : Int32)) ∧ Fld Z h a1 cN0 "branches" "I" (.int (2 : Int32)) ∧ Fld Z h a1 cN0 "computed" "I" (.int (0 : Int32)) ∧ OAr Z h ta kt .int (oA8 (0 : Int32) (1 : Int32)) ∧ OAr Z h ca kc .int (oA8 p1 p2)
set_option maxRecDepth 65536 in
set_option maxHeartbeats 40000000 in
theorem rm_bok_s23_1 (l : Launch) (Z : State) (a0 : Array Value) (hw : ∀ d ∈ tables_1, d.before a0 Z = true) (ws : List Jvm.Cond) (a1 : Addr) (p1 : Int32) (p2 : Int32) (ta : Addr) (ca : Addr) (kt : ClassId) (kc : ClassId) (h0 : Heap) (n0 : Nat) (Z0 : n0 ≤ h0.size) (E_a1 : Exa Z h0 a1 cN0) (F_taken_a1 : Fld Z h0 a1 cN0 "taken" "[I" (.ref ta)) (F_counts_a1 : Fld Z h0 a1 cN0 "counts" "[I" (.ref ca)) (F_met_a1 : Fld Z h0 a1 cN0 "met" "I" (.int (0 : Int32))) (F_repeated_a1 : Fld Z h0 a1 cN0 "repeated" "I" (.int (2 : Int32))) (F_branches_a1 : Fld Z h0 a1 cN0 "branches" "I" (.int (2 : Int32))) (F_computed_a1 : Fld Z h0 a1 cN0 "computed" "I" (.int (0 : Int32))) (V_ta : OAr Z h0 ta kt .int (oA8 (0 : Int32) (1 : Int32))) (V_ca : OAr Z h0 ca kc .int (oA8 p1 p2)) (g_a1 : n0 ≤ a1) (g_ta : n0 ≤ ta) (g_ca : n0 ≤ ca) (ne_a1_ta : a1 ≠ ta) (ne_a1_ca : a1 ≠ ca) (ne_ta_ca : ta ≠ ca) (hna : 2 ≤ p1.toInt) (hnb : 3 ≤ p2.toInt) :
    MetFree l mN6 (head1 (Jvm.Cond.code mN6 method_4_code 6 (some .boolean) :: ws) ({ frames := 1, cells := 0, slots := 0, locals := 13 } : Room)) (fun a U => a = #[(.ref a1), (.int p1), (.int p2), (.int (1 : Int32))] ∧ Z.Warmed39 U.vm ∧ U.heap = h0) (fun _ _ _ _ _ => True) (fun _ U o U' => ∃ v L, o = .returned v ∧ Q_bok_s23_1 Z a1 p1 p2 ta ca kt kc h0 n0 v U'.heap L ∧ FrameEnd U o U' L ({ frames := 1, cells := 0, slots := 0, locals := 13 } : Room).cells ({ frames := 1, cells := 0, slots := 0, locals := 13 } : Room).slots) := by
  refine MetFree.of_bodySF (plainFor_of_name pn_com_example_flote_flote_program_ChoicesNextPinLaw) hisR ?_
  intro p e s m args below meth c s₁ Bd hml0 hP hK
  obtain ⟨rfl, hZ, hh⟩ := hP
  have hx := Bd.exec
  have hby := Bd.bytes
  have hml : c.maxLocals = 6 := hml0
  have hown : s.vm.findClass "com/example/flote/flote/program/ChoicesNextPinLaw" = some m.cls := findClass_of_methodNamed Bd.named
  have hnm := (name_of_methodNamed Bd.named Bd.method).1
  have X0 : Stand p l e ({ frames := 1, cells := 0, slots := 0, locals := 13 } : Room) s m #[(.ref a1), (.int p1), (.int p2), (.int (1 : Int32))] below meth c s₁ [] 0 0 := Stand.of_body Bd
  have e0 : s₁.heap = h0 := by rw [← hh, Bd.state]; rfl
  have N0 := Fr.nil n0
  obtain ⟨A0, hA0⟩ : ∃ z, z = s₁.setTop (entryFrame m #[(.ref a1), (.int p1), (.int p2), (.int (1 : Int32))] 6) := ⟨_, rfl⟩
  have K : OGo p e below A0 s₁ (mkF m 0 #[rv a1, iv p1, iv p2, iv 1, .unset, .unset] []) := fun t k => hA0 ▸ castTop (ef_5 m a1 p1 p2 (1 : Int32)) k
  replace K : OGo p e below A0 s₁ (mkF m 1 #[rv a1, iv p1, iv p2, iv 1, .unset, .unset] [(.ref a1)]) := fun t k => K t (XS.aloadN X0.here hx rfl (hb hby d5_0) rfl rfl k)
  replace K : OGo p e below A0 s₁ (mkF m 2 #[rv a1, iv p1, iv p2, iv 1, .unset, .unset] [(.int p1), (.ref a1)]) := fun t k => K t (XS.iloadN X0.here hx rfl (hb hby d5_1) rfl k)
  obtain ⟨cq1, kq1, qv1a, qv1b, qv1c⟩ := isOf hZ e0 E_a1
  obtain ⟨_, _, ⟨T1, L1, k1, n1⟩, -, X1, ⟨Lc1, hQ1, l1, y1, z1⟩, st1⟩ := X0.virtualBack hx (y := mN4) (z := mN4) hown (mvT hZ (ow hw 41 rfl)) (mvT hZ (ow hw 42 rfl)) (notFace_of_selects (args := #[]) (mvT hZ (ow hw 44 rfl))) (mvT hZ (ow hw 44 rfl)) (mvT hZ (ow hw 43 rfl)) (by decide) (backOf (W := 0) (rm_chooseR02 l Z a0 hw [] a1 p1 ta ca kt kc (0 : Int32) (1 : Int32) p1 p2 (2 : Int32) (0 : Int32) h0 n0 Z0 E_a1 F_taken_a1 F_counts_a1 F_met_a1 F_repeated_a1 F_branches_a1 F_computed_a1 V_ta V_ca g_a1 g_ta g_ca ne_a1_ta ne_a1_ca ne_ta_ca (fun z => by have q := hna; rw [z] at q; have : (1 : Int32).toInt = 1 := (by decide); omega)) hZ (ow hw 45 rfl) (ow hw 7 rfl) (by decide) (by decide)) qv1a qv1c (g := (mkF m 2 #[rv a1, iv p1, iv p2, iv 1, .unset, .unset] [(.int p1), (.ref a1)])) rfl (by rw [hml]; rfl) (Steps.refl _) (argsL := [(.int p1)]) (rest := []) (lenOf pd__I_I rfl) rfl (by show 2 * 0 + _ ≤ _; exact Nat.le_of_eq rfl) (hb hby d5_2) (fun _ _ => ⟨rfl, e0, (by decide : 0 + 0 ≤ _), (by decide : 0 + 0 ≤ _)⟩)
  dsimp only [Pt.U, Pt.locs, Pt.cells, Pt.slots] at X1 l1 y1 z1 st1 hQ1
  subst l1 y1 z1
  obtain ⟨hp1, e1⟩ : ∃ z, T1.heap = z := ⟨_, rfl⟩
  rw [e1] at hQ1
  obtain ⟨rfl, Nq1, K1, P1_0, P1_1, P1_2, P1_3, P1_4, P1_5, P1_6, P1_7, P1_8⟩ := hQ1
  have Z1 : n0 ≤ hp1.size := Nat.le_trans Z0 K1.1
  have Kp1 : Keep h0 hp1 [a1, ta, ca] := (Keep.refl h0 [a1, ta, ca]).trans K1 (allS (Or.inl (List.mem_of_getElem? (i := 0) rfl)) (allS (Or.inl (List.mem_of_getElem? (i := 1) rfl)) (allS (Or.inl (List.mem_of_getElem? (i := 2) rfl)) all0)))
  have N1 := Fr.app N0 Nq1
  replace K : OGo p e below A0 T1 (mkF m 5 #[rv a1, iv p1, iv p2, iv 1, .unset, .unset] [(.int 0)]) := fun t k => K t (st1.trans k)
  replace K : OGo p e below A0 T1 (mkF m 7 #[rv a1, iv p1, iv p2, iv 1, iv 0, .unset] []) := fun t k => K t (XS.istore X1.here hx rfl (hb hby d5_5) rfl (l' := #[rv a1, iv p1, iv p2, iv 1, iv 0, .unset]) rfl k)
  replace K : OGo p e below A0 T1 (mkF m 8 #[rv a1, iv p1, iv p2, iv 1, iv 0, .unset] [(.ref a1)]) := fun t k => K t (XS.aloadN X1.here hx rfl (hb hby d5_7) rfl rfl k)
  replace K : OGo p e below A0 T1 (mkF m 9 #[rv a1, iv p1, iv p2, iv 1, iv 0, .unset] [(.int p2), (.ref a1)]) := fun t k => K t (XS.iloadN X1.here hx rfl (hb hby d5_8) rfl k)
  obtain ⟨cq2, kq2, qv2a, qv2b, qv2c⟩ := isOf hZ e1 P1_0
  obtain ⟨_, _, ⟨T2, L2, k2, n2⟩, -, X2, ⟨Lc2, hQ2, l2, y2, z2⟩, st2⟩ := X1.virtualBack hx (y := mN4) (z := mN4) hown (mvT hZ (ow hw 41 rfl)) (mvT hZ (ow hw 42 rfl)) (notFace_of_selects (args := #[]) (mvT hZ (ow hw 44 rfl))) (mvT hZ (ow hw 44 rfl)) (mvT hZ (ow hw 43 rfl)) (by decide) (backOf (W := 0) (rm_chooseR12 l Z a0 hw [] a1 p2 ta ca kt kc (0 : Int32) (1 : Int32) p1 p2 (2 : Int32) (0 : Int32) hp1 n0 Z1 P1_0 P1_1 P1_2 P1_3 P1_4 P1_5 P1_6 P1_7 P1_8 g_a1 g_ta g_ca ne_a1_ta ne_a1_ca ne_ta_ca (fun z => by have q := hnb; rw [z] at q; have : (1 : Int32).toInt = 1 := (by decide); omega)) hZ (ow hw 45 rfl) (ow hw 7 rfl) (by decide) (by decide)) qv2a qv2c (g := (mkF m 9 #[rv a1, iv p1, iv p2, iv 1, iv 0, .unset] [(.int p2), (.ref a1)])) rfl (by rw [hml]; rfl) (Steps.refl _) (argsL := [(.int p2)]) (rest := []) (lenOf pd__I_I rfl) rfl (by show 2 * 0 + _ ≤ _; exact Nat.le_of_eq rfl) (hb hby d5_9) (fun _ _ => ⟨rfl, e1, (by decide : 0 + 0 ≤ _), (by decide : 0 + 0 ≤ _)⟩)
  dsimp only [Pt.U, Pt.locs, Pt.cells, Pt.slots] at X2 l2 y2 z2 st2 hQ2
  subst l2 y2 z2
  obtain ⟨hp2, e2⟩ : ∃ z, T2.heap = z := ⟨_, rfl⟩
  rw [e2] at hQ2
  obtain ⟨rfl, Nq2, K2, P2_0, P2_1, P2_2, P2_3, P2_4, P2_5, P2_6, P2_7, P2_8⟩ := hQ2
  have Z2 : n0 ≤ hp2.size := Nat.le_trans Z1 K2.1
  have Kp2 : Keep h0 hp2 [a1, ta, ca] := Kp1.trans K2 (allS (Or.inl (List.mem_of_getElem? (i := 0) rfl)) (allS (Or.inl (List.mem_of_getElem? (i := 1) rfl)) (allS (Or.inl (List.mem_of_getElem? (i := 2) rfl)) all0)))
  have N2 := Fr.app N1 Nq2
  replace K : OGo p e below A0 T2 (mkF m 12 #[rv a1, iv p1, iv p2, iv 1, iv 0, .unset] [(.int 1)]) := fun t k => K t (st2.trans k)
  replace K : OGo p e below A0 T2 (mkF m 14 #[rv a1, iv p1, iv p2, iv 1, iv 0, iv 1] []) := fun t k => K t (XS.istore X2.here hx rfl (hb hby d5_12) rfl (l' := #[rv a1, iv p1, iv p2, iv 1, iv 0, iv 1]) rfl k)
  replace K : OGo p e below A0 T2 (mkF m 16 #[rv a1, iv p1, iv p2, iv 1, iv 0, iv 1] [(.int 0)]) := fun t k => K t (XS.iload X2.here hx rfl (hb hby d5_14) rfl k)
  replace K : OGo p e below A0 T2 (mkF m 17 #[rv a1, iv p1, iv p2, iv 1, iv 0, iv 1] [(.int 1), (.int 0)]) := fun t k => K t (XS.iloadN X2.here hx rfl (hb hby d5_16) rfl k)
  replace K : OGo p e below A0 T2 (mkF m 18 #[rv a1, iv p1, iv p2, iv 1, iv 0, iv 1] [(.int p2), (.int 1), (.int 0)]) := fun t k => K t (XS.iloadN X2.here hx rfl (hb hby d5_17) rfl k)
  replace K : OGo p e below A0 T2 (mkF m 19 #[rv a1, iv p1, iv p2, iv 1, iv 0, iv 1] [(.int ((1 : Int32) / p2)), (.int 0)]) := fun t k => K t (XS.idiv X2.here hx rfl (hb hby d5_18) rfl (own_nz hnb (by decide)) k)
  replace K : OGo p e below A0 T2 (mkF m 22 #[rv a1, iv p1, iv p2, iv 1, iv 0, iv 1] []) := fun t k => K t (XS.icmpNo X2.here hx rfl (hb hby d5_19) rfl (teq ((own_div (k := (1 : Int32)) (b := p2) (by decide) (by have : ((1 : Int32) : Int32).toInt = 1 := (by decide); omega)).1 : (0 : Int32) = ((1 : Int32) / p2))).2 k)
  replace K : OGo p e below A0 T2 (mkF m 24 #[rv a1, iv p1, iv p2, iv 1, iv 0, iv 1] [(.int 1)]) := fun t k => K t (XS.iload X2.here hx rfl (hb hby d5_22) rfl k)
  replace K : OGo p e below A0 T2 (mkF m 25 #[rv a1, iv p1, iv p2, iv 1, iv 0, iv 1] [(.int 1), (.int 1)]) := fun t k => K t (XS.iloadN X2.here hx rfl (hb hby d5_24) rfl k)
  replace K : OGo p e below A0 T2 (mkF m 26 #[rv a1, iv p1, iv p2, iv 1, iv 0, iv 1] [(.int p2), (.int 1), (.int 1)]) := fun t k => K t (XS.iloadN X2.here hx rfl (hb hby d5_25) rfl k)
  replace K : OGo p e below A0 T2 (mkF m 27 #[rv a1, iv p1, iv p2, iv 1, iv 0, iv 1] [(.int ((1 : Int32) % p2)), (.int 1)]) := fun t k => K t (iremM X2 hx rfl (hb hby d5_26) rfl (own_nz hnb (by decide)) k)
  replace K : OGo p e below A0 T2 (mkF m 30 #[rv a1, iv p1, iv p2, iv 1, iv 0, iv 1] []) := fun t k => K t (XS.icmpNo X2.here hx rfl (hb hby d5_27) rfl (teq ((own_div (k := (1 : Int32)) (b := p2) (by decide) (by have : ((1 : Int32) : Int32).toInt = 1 := (by decide); omega)).2 : (1 : Int32) = ((1 : Int32) % p2))).2 k)
  replace K : OGo p e below A0 T2 (mkF m 31 #[rv a1, iv p1, iv p2, iv 1, iv 0, iv 1] [(.int 1)]) := fun t k => K t (XS.iconst X2.here hx rfl (hb hby d5_30) k)
  replace K : OGo p e below A0 T2 (mkF m 35 #[rv a1, iv p1, iv p2, iv 1, iv 0, iv 1] [(.int 1)]) := fun t k => K t (XS.goto X2.here hx rfl (pc0 := 31) (pc' := 35) rfl (hb hby d5_31) (by decide) (by decide) k)
  obtain ⟨fs, hr, hrun, hended, hW, hsame⟩ := X2.leave (v := some (.int (1 : Int32))) (fun h => by rw [Bd.returns] at h; cases h)
  subst hA0
  refine ⟨_, _, K _ (retN X2 hx (t := .boolean) Bd.returns (by simp) (hb hby d5_35) hr), hrun, hended, _, _, rfl, ?_, ⟨_, rfl⟩, hW, hsame.mono (by decide) (by decide)⟩
  show Q_bok_s23_1 Z a1 p1 p2 ta ca kt kc h0 n0 _ T2.heap _
  rw [e2]
  exact ⟨rfl, N2, Kp2, P2_0, P2_1, P2_2, P2_3, P2_4, P2_5, P2_6, P2_7, P2_8⟩
def Q_nx_E_s23 (Z : State) (a1 : Addr) (ta : Addr) (ca : Addr) (kt : ClassId) (kc : ClassId) (c0 : Int32) (c1 : Int32) (h0 : Heap) (n0 : Nat) (v : Option Value) (h : Heap) (L : List Loc) : Prop := v = some (.int (1 : Int32)) ∧ Fr n0 L ∧ Keep h0 h [a1, ta, ca] ∧ Exa Z h a1 cN0 ∧ Fld Z h a1 cN0 "taken" "[I" (.ref ta) ∧ Fld Z h a1 cN0 "counts" "[I" (.ref ca) ∧ Fld Z h a1 cN0 "met" "I" (.int (0 : Int32)) ∧ Fld Z h a1 cN0 "repeated" "I" (.int (2 : Int32)) ∧ Fld Z h a1 cN0 "branches" "I" (.int (3 : Int32)) ∧ Fld Z h a1 cN0 "computed" "I" (.int (0 : Int32)) ∧ OAr Z h ta kt .int (oA8 (0 : Int32) (2 : Int32)) ∧ OAr Z h ca kc .int (oA8 c0 c1)
set_option maxRecDepth 65536 in
set_option maxHeartbeats 40000000 in
theorem rm_nx_E_s23 (l : Launch) (Z : State) (a0 : Array Value) (hw : ∀ d ∈ tables_1, d.before a0 Z = true) (ws : List Jvm.Cond) (a1 : Addr) (ta : Addr) (ca : Addr) (kt : ClassId) (kc : ClassId) (c0 : Int32) (c1 : Int32) (h0 : Heap) (n0 : Nat) (Z0 : n0 ≤ h0.size) (E_a1 : Exa Z h0 a1 cN0) (F_taken_a1 : Fld Z h0 a1 cN0 "taken" "[I" (.ref ta)) (F_counts_a1 : Fld Z h0 a1 cN0 "counts" "[I" (.ref ca)) (F_met_a1 : Fld Z h0 a1 cN0 "met" "I" (.int (2 : Int32))) (F_repeated_a1 : Fld Z h0 a1 cN0 "repeated" "I" (.int (2 : Int32))) (F_branches_a1 : Fld Z h0 a1 cN0 "branches" "I" (.int (2 : Int32))) (F_computed_a1 : Fld Z h0 a1 cN0 "computed" "I" (.int (0 : Int32))) (V_ta : OAr Z h0 ta kt .int (oA8 (0 : Int32) (1 : Int32))) (V_ca : OAr Z h0 ca kc .int (oA8 c0 c1)) (g_a1 : n0 ≤ a1) (g_ta : n0 ≤ ta) (g_ca : n0 ≤ ca) (ne_a1_ta : a1 ≠ ta) (ne_a1_ca : a1 ≠ ca) (ne_ta_ca : ta ≠ ca) (hc0 : 2 ≤ c0.toInt) (hc1 : 3 ≤ c1.toInt) :
    MetFree l mN7 (head1 (Jvm.Cond.code mN7 prog_72_method_6_code 3 (some .boolean) :: ws) ({ frames := 0, cells := 0, slots := 0, locals := 0 } : Room)) (fun a U => a = #[(.ref a1)] ∧ Z.Warmed39 U.vm ∧ U.heap = h0) (fun _ _ _ _ _ => True) (fun _ U o U' => ∃ v L, o = .returned v ∧ Q_nx_E_s23 Z a1 ta ca kt kc c0 c1 h0 n0 v U'.heap L ∧ FrameEnd U o U' L ({ frames := 0, cells := 0, slots := 0, locals := 0 } : Room).cells ({ frames := 0, cells := 0, slots := 0, locals := 0 } : Room).slots) := by
  refine MetFree.of_bodySF (plainFor_of_name pn_com_example_flote_flote_program_Choices) hisR ?_
  intro p e s m args below meth c s₁ Bd hml0 hP hK
  obtain ⟨rfl, hZ, hh⟩ := hP
  have hx := Bd.exec
  have hby := Bd.bytes
  have hml : c.maxLocals = 3 := hml0
  have hown : s.vm.findClass "com/example/flote/flote/program/Choices" = some m.cls := findClass_of_methodNamed Bd.named
  have hnm := (name_of_methodNamed Bd.named Bd.method).1
  have X0 : Stand p l e ({ frames := 0, cells := 0, slots := 0, locals := 0 } : Room) s m #[(.ref a1)] below meth c s₁ [] 0 0 := Stand.of_body Bd
  have e0 : s₁.heap = h0 := by rw [← hh, Bd.state]; rfl
  have N0 := Fr.nil n0
  obtain ⟨A0, hA0⟩ : ∃ z, z = s₁.setTop (entryFrame m #[(.ref a1)] 3) := ⟨_, rfl⟩
  have K : OGo p e below A0 s₁ (mkF m 0 #[rv a1, .unset, .unset] []) := fun t k => hA0 ▸ castTop (ef_7 m a1) k
  replace K : OGo p e below A0 s₁ (mkF m 1 #[rv a1, .unset, .unset] [(.ref a1)]) := fun t k => K t (XS.aloadN X0.here hx rfl (hb hby d7_0) rfl rfl k)
  obtain ⟨T1, X1, e1, st1⟩ := getF X0 hx hZ hown (host := "") (Or.inl (ow hw 30 rfl)) Via.refl e0 F_met_a1 (g := (mkF m 1 #[rv a1, .unset, .unset] [(.ref a1)])) rfl rfl (hb hby d7_1)
  replace K : OGo p e below A0 T1 (mkF m 4 #[rv a1, .unset, .unset] [(.int 2)]) := fun t k => K t (st1 t k)
  replace K : OGo p e below A0 T1 (mkF m 5 #[rv a1, .unset, .unset] [(.int 1), (.int 2)]) := fun t k => K t (XS.iconst X1.here hx rfl (hb hby d7_4) k)
  replace K : OGo p e below A0 T1 (mkF m 6 #[rv a1, .unset, .unset] [(.int 1)]) := fun t k => K t (XS.isub X1.here hx rfl (hb hby d7_5) rfl k)
  replace K : OGo p e below A0 T1 (mkF m 7 #[rv a1, iv 1, .unset] []) := fun t k => K t (XS.istoreN X1.here hx rfl (hb hby d7_6) rfl (l' := #[rv a1, iv 1, .unset]) rfl k)
  replace K : OGo p e below A0 T1 (mkF m 8 #[rv a1, iv 1, .unset] [(.int 1)]) := fun t k => K t (XS.iloadN X1.here hx rfl (hb hby d7_7) rfl k)
  replace K : OGo p e below A0 T1 (mkF m 11 #[rv a1, iv 1, .unset] []) := fun t k => K t (XS.ifNo X1.here hx rfl (hb hby d7_8) rfl ((if0 _ _).trans (flt ((by decide : ¬ ((1 : Int32) < (0 : Int32))) : ¬ ((1 : Int32) < (0 : Int32)))).1) k)
  replace K : OGo p e below A0 T1 (mkF m 12 #[rv a1, iv 1, .unset] [(.ref a1)]) := fun t k => K t (XS.aloadN X1.here hx rfl (hb hby d7_11) rfl rfl k)
  obtain ⟨T2, X2, e2, st2⟩ := getF X1 hx hZ hown (host := "") (Or.inl (ow hw 15 rfl)) Via.refl e1 F_taken_a1 (g := (mkF m 12 #[rv a1, iv 1, .unset] [(.ref a1)])) rfl rfl (hb hby d7_12)
  replace K : OGo p e below A0 T2 (mkF m 15 #[rv a1, iv 1, .unset] [(.ref ta)]) := fun t k => K t (st2 t k)
  replace K : OGo p e below A0 T2 (mkF m 16 #[rv a1, iv 1, .unset] [(.int 1), (.ref ta)]) := fun t k => K t (XS.iloadN X2.here hx rfl (hb hby d7_15) rfl k)
  replace K : OGo p e below A0 T2 (mkF m 17 #[rv a1, iv 1, .unset] [(.int 1)]) := fun t k => K t (own_ldI X2 hx hZ e2 V_ta (j := (1 : Int32)) (v := (.int (1 : Int32))) (by decide) rfl (g := (mkF m 16 #[rv a1, iv 1, .unset] [(.int 1), (.ref ta)])) rfl rfl (hb hby d7_16) t k)
  replace K : OGo p e below A0 T2 (mkF m 18 #[rv a1, iv 1, .unset] [(.ref a1), (.int 1)]) := fun t k => K t (XS.aloadN X2.here hx rfl (hb hby d7_17) rfl rfl k)
  obtain ⟨T3, X3, e3, st3⟩ := getF X2 hx hZ hown (host := "") (Or.inl (ow hw 17 rfl)) Via.refl e2 F_counts_a1 (g := (mkF m 18 #[rv a1, iv 1, .unset] [(.ref a1), (.int 1)])) rfl rfl (hb hby d7_18)
  replace K : OGo p e below A0 T3 (mkF m 21 #[rv a1, iv 1, .unset] [(.ref ca), (.int 1)]) := fun t k => K t (st3 t k)
  replace K : OGo p e below A0 T3 (mkF m 22 #[rv a1, iv 1, .unset] [(.int 1), (.ref ca), (.int 1)]) := fun t k => K t (XS.iloadN X3.here hx rfl (hb hby d7_21) rfl k)
  replace K : OGo p e below A0 T3 (mkF m 23 #[rv a1, iv 1, .unset] [(.int c1), (.int 1)]) := fun t k => K t (own_ldI X3 hx hZ e3 V_ca (j := (1 : Int32)) (v := (.int c1)) (by decide) rfl (g := (mkF m 22 #[rv a1, iv 1, .unset] [(.int 1), (.ref ca), (.int 1)])) rfl rfl (hb hby d7_22) t k)
  replace K : OGo p e below A0 T3 (mkF m 24 #[rv a1, iv 1, .unset] [(.int 1), (.int c1), (.int 1)]) := fun t k => K t (XS.iconst X3.here hx rfl (hb hby d7_23) k)
  replace K : OGo p e below A0 T3 (mkF m 25 #[rv a1, iv 1, .unset] [(.int (c1 - (1 : Int32))), (.int 1)]) := fun t k => K t (XS.isub X3.here hx rfl (hb hby d7_24) rfl k)
  replace K : OGo p e below A0 T3 (mkF m 34 #[rv a1, iv 1, .unset] []) := fun t k => K t (XS.icmpYes X3.here hx rfl (pc0 := 25) (pc' := 34) rfl (hb hby d7_25) rfl (feq ((own_nsub (t := (1 : Int32)) (k := 1) (by decide) (by omega) (by decide)) : ¬ ((1 : Int32) = (c1 - (1 : Int32))))).2 (by decide) (by decide) k)
  replace K : OGo p e below A0 T3 (mkF m 35 #[rv a1, iv 1, .unset] [(.int 1)]) := fun t k => K t (XS.iloadN X3.here hx rfl (hb hby d7_34) rfl k)
  replace K : OGo p e below A0 T3 (mkF m 38 #[rv a1, iv 1, .unset] []) := fun t k => K t (XS.ifNo X3.here hx rfl (hb hby d7_35) rfl ((if0 _ _).trans (flt ((by decide : ¬ ((1 : Int32) < (0 : Int32))) : ¬ ((1 : Int32) < (0 : Int32)))).1) k)
  replace K : OGo p e below A0 T3 (mkF m 39 #[rv a1, iv 1, .unset] [(.int 1)]) := fun t k => K t (XS.iconst X3.here hx rfl (hb hby d7_38) k)
  replace K : OGo p e below A0 T3 (mkF m 43 #[rv a1, iv 1, .unset] [(.int 1)]) := fun t k => K t (XS.goto X3.here hx rfl (pc0 := 39) (pc' := 43) rfl (hb hby d7_39) (by decide) (by decide) k)
  replace K : OGo p e below A0 T3 (mkF m 44 #[rv a1, iv 1, iv 1] []) := fun t k => K t (XS.istoreN X3.here hx rfl (hb hby d7_43) rfl (l' := #[rv a1, iv 1, iv 1]) rfl k)
  replace K : OGo p e below A0 T3 (mkF m 45 #[rv a1, iv 1, iv 1] [(.int 1)]) := fun t k => K t (XS.iloadN X3.here hx rfl (hb hby d7_44) rfl k)
  replace K : OGo p e below A0 T3 (mkF m 48 #[rv a1, iv 1, iv 1] []) := fun t k => K t (XS.ifNo X3.here hx rfl (hb hby d7_45) rfl ((if0 _ _).trans (feq ((by decide : ¬ ((1 : Int32) = (0 : Int32))) : ¬ ((1 : Int32) = (0 : Int32)))).1) k)
  replace K : OGo p e below A0 T3 (mkF m 49 #[rv a1, iv 1, iv 1] [(.ref a1)]) := fun t k => K t (XS.aloadN X3.here hx rfl (hb hby d7_48) rfl rfl k)
  obtain ⟨T4, X4, e4, st4⟩ := getF X3 hx hZ hown (host := "") (Or.inl (ow hw 15 rfl)) Via.refl e3 F_taken_a1 (g := (mkF m 49 #[rv a1, iv 1, iv 1] [(.ref a1)])) rfl rfl (hb hby d7_49)
  replace K : OGo p e below A0 T4 (mkF m 52 #[rv a1, iv 1, iv 1] [(.ref ta)]) := fun t k => K t (st4 t k)
  replace K : OGo p e below A0 T4 (mkF m 53 #[rv a1, iv 1, iv 1] [(.int 1), (.ref ta)]) := fun t k => K t (XS.iloadN X4.here hx rfl (hb hby d7_52) rfl k)
  replace K : OGo p e below A0 T4 (mkF m 54 #[rv a1, iv 1, iv 1] [(.int 1), (.ref ta), (.int 1), (.ref ta)]) := fun t k => K t (Jvm.Free.XT.dup2 X4.here hx rfl (hb hby d7_53) rfl rfl rfl k)
  replace K : OGo p e below A0 T4 (mkF m 55 #[rv a1, iv 1, iv 1] [(.int 1), (.int 1), (.ref ta)]) := fun t k => K t (own_ldI X4 hx hZ e4 V_ta (j := (1 : Int32)) (v := (.int (1 : Int32))) (by decide) rfl (g := (mkF m 54 #[rv a1, iv 1, iv 1] [(.int 1), (.ref ta), (.int 1), (.ref ta)])) rfl rfl (hb hby d7_54) t k)
  replace K : OGo p e below A0 T4 (mkF m 56 #[rv a1, iv 1, iv 1] [(.int 1), (.int 1), (.int 1), (.ref ta)]) := fun t k => K t (XS.iconst X4.here hx rfl (hb hby d7_55) k)
  replace K : OGo p e below A0 T4 (mkF m 57 #[rv a1, iv 1, iv 1] [(.int 2), (.int 1), (.ref ta)]) := fun t k => K t (XS.iadd X4.here hx rfl (hb hby d7_56) rfl k)
  obtain ⟨T5, h5, X5, e5, W5, V5, st5⟩ := own_stI X4 hx hZ e4 V_ta (j := (1 : Int32)) (by decide) (Nat.le_of_ble_eq_true rfl) (g := (mkF m 57 #[rv a1, iv 1, iv 1] [(.int 2), (.int 1), (.ref ta)])) rfl rfl (hb hby d7_57)
  have Z5 : n0 ≤ h5.size := Nat.le_trans Z0 (Keep.of_wr W5).1
  have Kp5 : Keep h0 h5 [a1, ta, ca] := (Keep.refl h0 [a1, ta, ca]).wr W5 (Or.inl (List.mem_of_getElem? (i := 1) rfl))
  have V_ta_5 : OAr Z h5 ta kt .int (oA8 (0 : Int32) (2 : Int32)) := V5
  have N5 := Fr.snoc X5 N0 g_ta
  replace K : OGo p e below A0 T5 (mkF m 58 #[rv a1, iv 1, iv 1] []) := fun t k => K t (st5 t k)
  replace K : OGo p e below A0 T5 (mkF m 59 #[rv a1, iv 1, iv 1] [(.ref a1)]) := fun t k => K t (XS.aloadN X5.here hx rfl (hb hby d7_58) rfl rfl k)
  replace K : OGo p e below A0 T5 (mkF m 60 #[rv a1, iv 1, iv 1] [(.int 1), (.ref a1)]) := fun t k => K t (XS.iloadN X5.here hx rfl (hb hby d7_59) rfl k)
  replace K : OGo p e below A0 T5 (mkF m 61 #[rv a1, iv 1, iv 1] [(.int 1), (.int 1), (.ref a1)]) := fun t k => K t (XS.iconst X5.here hx rfl (hb hby d7_60) k)
  replace K : OGo p e below A0 T5 (mkF m 62 #[rv a1, iv 1, iv 1] [(.int 2), (.ref a1)]) := fun t k => K t (XS.iadd X5.here hx rfl (hb hby d7_61) rfl k)
  have F_repeated_a1_6 := (F_repeated_a1.other W5 (Or.inl ne_a1_ta))
  have E_a1_7 := (E_a1.wr W5)
  obtain ⟨T8, h8, X8, e8, W8, st8⟩ := putF X5 hx hZ hown (host := "") (Or.inl (ow hw 32 rfl)) Via.refl e5 F_repeated_a1_6 E_a1_7 (Or.inl (ow hw 33 rfl)) (ow hw 6 rfl) (ty := .int) (by decide) rfl rfl (g := (mkF m 62 #[rv a1, iv 1, iv 1] [(.int 2), (.ref a1)])) rfl rfl (hb hby d7_62)
  have Z8 : n0 ≤ h8.size := Nat.le_trans Z5 (Keep.of_wr W8).1
  have Kp8 : Keep h0 h8 [a1, ta, ca] := Kp5.wr W8 (Or.inl (List.mem_of_getElem? (i := 0) rfl))
  have F_repeated_a1_8 := F_repeated_a1_6.same W8
  have N8 := Fr.snoc X8 N5 g_a1
  replace K : OGo p e below A0 T8 (mkF m 65 #[rv a1, iv 1, iv 1] []) := fun t k => K t (st8 t k)
  replace K : OGo p e below A0 T8 (mkF m 66 #[rv a1, iv 1, iv 1] [(.ref a1)]) := fun t k => K t (XS.aloadN X8.here hx rfl (hb hby d7_65) rfl rfl k)
  replace K : OGo p e below A0 T8 (mkF m 67 #[rv a1, iv 1, iv 1] [(.int 0), (.ref a1)]) := fun t k => K t (XS.iconst X8.here hx rfl (hb hby d7_66) k)
  have F_met_a1_9 := ((F_met_a1.other W5 (Or.inl ne_a1_ta)).other W8 (Or.inr (sn_cN0_met_repeated hw)))
  have E_a1_10 := (E_a1_7.wr W8)
  obtain ⟨T11, h11, X11, e11, W11, st11⟩ := putF X8 hx hZ hown (host := "") (Or.inl (ow hw 30 rfl)) Via.refl e8 F_met_a1_9 E_a1_10 (Or.inl (ow hw 31 rfl)) (ow hw 6 rfl) (ty := .int) (by decide) rfl rfl (g := (mkF m 67 #[rv a1, iv 1, iv 1] [(.int 0), (.ref a1)])) rfl rfl (hb hby d7_67)
  have Z11 : n0 ≤ h11.size := Nat.le_trans Z8 (Keep.of_wr W11).1
  have Kp11 : Keep h0 h11 [a1, ta, ca] := Kp8.wr W11 (Or.inl (List.mem_of_getElem? (i := 0) rfl))
  have F_met_a1_11 := F_met_a1_9.same W11
  have N11 := Fr.snoc X11 N8 g_a1
  replace K : OGo p e below A0 T11 (mkF m 70 #[rv a1, iv 1, iv 1] []) := fun t k => K t (st11 t k)
  replace K : OGo p e below A0 T11 (mkF m 71 #[rv a1, iv 1, iv 1] [(.ref a1)]) := fun t k => K t (XS.aloadN X11.here hx rfl (hb hby d7_70) rfl rfl k)
  replace K : OGo p e below A0 T11 (mkF m 72 #[rv a1, iv 1, iv 1] [(.ref a1), (.ref a1)]) := fun t k => K t (XS.dup X11.here hx rfl (hb hby d7_71) rfl rfl k)
  have F_branches_a1_12 := (((F_branches_a1.other W5 (Or.inl ne_a1_ta)).other W8 (Or.inr (sn_cN0_branches_repeated hw))).other W11 (Or.inr (sn_cN0_branches_met hw)))
  obtain ⟨T13, X13, e13, st13⟩ := getF X11 hx hZ hown (host := "") (Or.inl (ow hw 34 rfl)) Via.refl e11 F_branches_a1_12 (g := (mkF m 72 #[rv a1, iv 1, iv 1] [(.ref a1), (.ref a1)])) rfl rfl (hb hby d7_72)
  replace K : OGo p e below A0 T13 (mkF m 75 #[rv a1, iv 1, iv 1] [(.int 2), (.ref a1)]) := fun t k => K t (st13 t k)
  replace K : OGo p e below A0 T13 (mkF m 76 #[rv a1, iv 1, iv 1] [(.int 1), (.int 2), (.ref a1)]) := fun t k => K t (XS.iconst X13.here hx rfl (hb hby d7_75) k)
  replace K : OGo p e below A0 T13 (mkF m 77 #[rv a1, iv 1, iv 1] [(.int 3), (.ref a1)]) := fun t k => K t (XS.iadd X13.here hx rfl (hb hby d7_76) rfl k)
  have E_a1_14 := (E_a1_10.wr W11)
  obtain ⟨T15, h15, X15, e15, W15, st15⟩ := putF X13 hx hZ hown (host := "") (Or.inl (ow hw 34 rfl)) Via.refl e13 F_branches_a1_12 E_a1_14 (Or.inl (ow hw 35 rfl)) (ow hw 6 rfl) (ty := .int) (by decide) rfl rfl (g := (mkF m 77 #[rv a1, iv 1, iv 1] [(.int 3), (.ref a1)])) rfl rfl (hb hby d7_77)
  have Z15 : n0 ≤ h15.size := Nat.le_trans Z11 (Keep.of_wr W15).1
  have Kp15 : Keep h0 h15 [a1, ta, ca] := Kp11.wr W15 (Or.inl (List.mem_of_getElem? (i := 0) rfl))
  have F_branches_a1_15 := F_branches_a1_12.same W15
  have N15 := Fr.snoc X15 N11 g_a1
  replace K : OGo p e below A0 T15 (mkF m 80 #[rv a1, iv 1, iv 1] []) := fun t k => K t (st15 t k)
  replace K : OGo p e below A0 T15 (mkF m 81 #[rv a1, iv 1, iv 1] [(.ref a1)]) := fun t k => K t (XS.aloadN X15.here hx rfl (hb hby d7_80) rfl rfl k)
  replace K : OGo p e below A0 T15 (mkF m 82 #[rv a1, iv 1, iv 1] [(.int 0), (.ref a1)]) := fun t k => K t (XS.iconst X15.here hx rfl (hb hby d7_81) k)
  have F_computed_a1_16 := ((((F_computed_a1.other W5 (Or.inl ne_a1_ta)).other W8 (Or.inr (sn_cN0_computed_repeated hw))).other W11 (Or.inr (sn_cN0_computed_met hw))).other W15 (Or.inr (sn_cN0_computed_branches hw)))
  have E_a1_17 := (E_a1_14.wr W15)
  obtain ⟨T18, h18, X18, e18, W18, st18⟩ := putF X15 hx hZ hown (host := "") (Or.inl (ow hw 36 rfl)) Via.refl e15 F_computed_a1_16 E_a1_17 (Or.inl (ow hw 37 rfl)) (ow hw 6 rfl) (ty := .int) (by decide) rfl rfl (g := (mkF m 82 #[rv a1, iv 1, iv 1] [(.int 0), (.ref a1)])) rfl rfl (hb hby d7_82)
  have Z18 : n0 ≤ h18.size := Nat.le_trans Z15 (Keep.of_wr W18).1
  have Kp18 : Keep h0 h18 [a1, ta, ca] := Kp15.wr W18 (Or.inl (List.mem_of_getElem? (i := 0) rfl))
  have F_computed_a1_18 := F_computed_a1_16.same W18
  have N18 := Fr.snoc X18 N15 g_a1
  replace K : OGo p e below A0 T18 (mkF m 85 #[rv a1, iv 1, iv 1] []) := fun t k => K t (st18 t k)
  replace K : OGo p e below A0 T18 (mkF m 86 #[rv a1, iv 1, iv 1] [(.int 1)]) := fun t k => K t (XS.iloadN X18.here hx rfl (hb hby d7_85) rfl k)
  have E_a1_19 := (E_a1_17.wr W18)
  have F_taken_a1_20 := (((((F_taken_a1.other W5 (Or.inl ne_a1_ta)).other W8 (Or.inr (sn_cN0_taken_repeated hw))).other W11 (Or.inr (sn_cN0_taken_met hw))).other W15 (Or.inr (sn_cN0_taken_branches hw))).other W18 (Or.inr (sn_cN0_taken_computed hw)))
  have F_counts_a1_21 := (((((F_counts_a1.other W5 (Or.inl ne_a1_ta)).other W8 (Or.inr (sn_cN0_counts_repeated hw))).other W11 (Or.inr (sn_cN0_counts_met hw))).other W15 (Or.inr (sn_cN0_counts_branches hw))).other W18 (Or.inr (sn_cN0_counts_computed hw)))
  have F_met_a1_22 := ((F_met_a1_11.other W15 (Or.inr (sn_cN0_met_branches hw))).other W18 (Or.inr (sn_cN0_met_computed hw)))
  have F_repeated_a1_23 := (((F_repeated_a1_8.other W11 (Or.inr (sn_cN0_repeated_met hw))).other W15 (Or.inr (sn_cN0_repeated_branches hw))).other W18 (Or.inr (sn_cN0_repeated_computed hw)))
  have F_branches_a1_24 := (F_branches_a1_15.other W18 (Or.inr (sn_cN0_branches_computed hw)))
  have V_ta_25 := ((((V_ta_5.other W8 (Ne.symm ne_a1_ta)).other W11 (Ne.symm ne_a1_ta)).other W15 (Ne.symm ne_a1_ta)).other W18 (Ne.symm ne_a1_ta))
  have V_ca_26 := (((((V_ca.other W5 (Ne.symm ne_ta_ca)).other W8 (Ne.symm ne_a1_ca)).other W11 (Ne.symm ne_a1_ca)).other W15 (Ne.symm ne_a1_ca)).other W18 (Ne.symm ne_a1_ca))
  obtain ⟨fs, hr, hrun, hended, hW, hsame⟩ := X18.leave (v := some (.int (1 : Int32))) (fun h => by rw [Bd.returns] at h; cases h)
  subst hA0
  refine ⟨_, _, K _ (retN X18 hx (t := .boolean) Bd.returns (by simp) (hb hby d7_86) hr), hrun, hended, _, _, rfl, ?_, ⟨_, rfl⟩, hW, hsame.mono (by decide) (by decide)⟩
  show Q_nx_E_s23 Z a1 ta ca kt kc c0 c1 h0 n0 _ T18.heap _
  rw [e18]
  exact ⟨rfl, N18, Kp18, E_a1_19, F_taken_a1_20, F_counts_a1_21, F_met_a1_22, F_repeated_a1_23, F_branches_a1_24, F_computed_a1_18, V_ta_25, V_ca_26⟩
def Q_bok_s23_2 (Z : State) (a1 : Addr) (p1 : Int32) (p2 : Int32) (ta : Addr) (ca : Addr) (kt : ClassId) (kc : ClassId) (h0 : Heap) (n0 : Nat) (v : Option Value) (h : Heap) (L : List Loc) : Prop := v = some (.int (1 : Int32)) ∧ Fr n0 L ∧ Keep h0 h [a1, ta, ca] ∧ Exa Z h a1 cN0 ∧ Fld Z h a1 cN0 "taken" "[I" (.ref ta) ∧ Fld Z h a1 cN0 "counts" "[I" (.ref ca) ∧ Fld Z h a1 cN0 "met" "I" (.int (2 : Int32)) ∧ Fld Z h a1 cN0 "repeated" "I" (.int (2 : Int32)) ∧ Fld Z h a1 cN0 "branches" "I" (.int (3 : Int32)) ∧ Fld Z h a1 cN0 "computed" "I" (.int (0 : Int32)) ∧ OAr Z h ta kt .int (oA8 (0 : Int32) (2 : Int32)) ∧ OAr Z h ca kc .int (oA8 p1 p2)
set_option maxRecDepth 65536 in
set_option maxHeartbeats 40000000 in
theorem rm_bok_s23_2 (l : Launch) (Z : State) (a0 : Array Value) (hw : ∀ d ∈ tables_1, d.before a0 Z = true) (ws : List Jvm.Cond) (a1 : Addr) (p1 : Int32) (p2 : Int32) (ta : Addr) (ca : Addr) (kt : ClassId) (kc : ClassId) (h0 : Heap) (n0 : Nat) (Z0 : n0 ≤ h0.size) (E_a1 : Exa Z h0 a1 cN0) (F_taken_a1 : Fld Z h0 a1 cN0 "taken" "[I" (.ref ta)) (F_counts_a1 : Fld Z h0 a1 cN0 "counts" "[I" (.ref ca)) (F_met_a1 : Fld Z h0 a1 cN0 "met" "I" (.int (0 : Int32))) (F_repeated_a1 : Fld Z h0 a1 cN0 "repeated" "I" (.int (2 : Int32))) (F_branches_a1 : Fld Z h0 a1 cN0 "branches" "I" (.int (3 : Int32))) (F_computed_a1 : Fld Z h0 a1 cN0 "computed" "I" (.int (0 : Int32))) (V_ta : OAr Z h0 ta kt .int (oA8 (0 : Int32) (2 : Int32))) (V_ca : OAr Z h0 ca kc .int (oA8 p1 p2)) (g_a1 : n0 ≤ a1) (g_ta : n0 ≤ ta) (g_ca : n0 ≤ ca) (ne_a1_ta : a1 ≠ ta) (ne_a1_ca : a1 ≠ ca) (ne_ta_ca : ta ≠ ca) (hna : 2 ≤ p1.toInt) (hnb : 3 ≤ p2.toInt) :
    MetFree l mN6 (head1 (Jvm.Cond.code mN6 method_4_code 6 (some .boolean) :: ws) ({ frames := 1, cells := 0, slots := 0, locals := 13 } : Room)) (fun a U => a = #[(.ref a1), (.int p1), (.int p2), (.int (2 : Int32))] ∧ Z.Warmed39 U.vm ∧ U.heap = h0) (fun _ _ _ _ _ => True) (fun _ U o U' => ∃ v L, o = .returned v ∧ Q_bok_s23_2 Z a1 p1 p2 ta ca kt kc h0 n0 v U'.heap L ∧ FrameEnd U o U' L ({ frames := 1, cells := 0, slots := 0, locals := 13 } : Room).cells ({ frames := 1, cells := 0, slots := 0, locals := 13 } : Room).slots) := by
  refine MetFree.of_bodySF (plainFor_of_name pn_com_example_flote_flote_program_ChoicesNextPinLaw) hisR ?_
  intro p e s m args below meth c s₁ Bd hml0 hP hK
  obtain ⟨rfl, hZ, hh⟩ := hP
  have hx := Bd.exec
  have hby := Bd.bytes
  have hml : c.maxLocals = 6 := hml0
  have hown : s.vm.findClass "com/example/flote/flote/program/ChoicesNextPinLaw" = some m.cls := findClass_of_methodNamed Bd.named
  have hnm := (name_of_methodNamed Bd.named Bd.method).1
  have X0 : Stand p l e ({ frames := 1, cells := 0, slots := 0, locals := 13 } : Room) s m #[(.ref a1), (.int p1), (.int p2), (.int (2 : Int32))] below meth c s₁ [] 0 0 := Stand.of_body Bd
  have e0 : s₁.heap = h0 := by rw [← hh, Bd.state]; rfl
  have N0 := Fr.nil n0
  obtain ⟨A0, hA0⟩ : ∃ z, z = s₁.setTop (entryFrame m #[(.ref a1), (.int p1), (.int p2), (.int (2 : Int32))] 6) := ⟨_, rfl⟩
  have K : OGo p e below A0 s₁ (mkF m 0 #[rv a1, iv p1, iv p2, iv 2, .unset, .unset] []) := fun t k => hA0 ▸ castTop (ef_5 m a1 p1 p2 (2 : Int32)) k
  replace K : OGo p e below A0 s₁ (mkF m 1 #[rv a1, iv p1, iv p2, iv 2, .unset, .unset] [(.ref a1)]) := fun t k => K t (XS.aloadN X0.here hx rfl (hb hby d5_0) rfl rfl k)
  replace K : OGo p e below A0 s₁ (mkF m 2 #[rv a1, iv p1, iv p2, iv 2, .unset, .unset] [(.int p1), (.ref a1)]) := fun t k => K t (XS.iloadN X0.here hx rfl (hb hby d5_1) rfl k)
  obtain ⟨cq1, kq1, qv1a, qv1b, qv1c⟩ := isOf hZ e0 E_a1
  obtain ⟨_, _, ⟨T1, L1, k1, n1⟩, -, X1, ⟨Lc1, hQ1, l1, y1, z1⟩, st1⟩ := X0.virtualBack hx (y := mN4) (z := mN4) hown (mvT hZ (ow hw 41 rfl)) (mvT hZ (ow hw 42 rfl)) (notFace_of_selects (args := #[]) (mvT hZ (ow hw 44 rfl))) (mvT hZ (ow hw 44 rfl)) (mvT hZ (ow hw 43 rfl)) (by decide) (backOf (W := 0) (rm_chooseR02 l Z a0 hw [] a1 p1 ta ca kt kc (0 : Int32) (2 : Int32) p1 p2 (3 : Int32) (0 : Int32) h0 n0 Z0 E_a1 F_taken_a1 F_counts_a1 F_met_a1 F_repeated_a1 F_branches_a1 F_computed_a1 V_ta V_ca g_a1 g_ta g_ca ne_a1_ta ne_a1_ca ne_ta_ca (fun z => by have q := hna; rw [z] at q; have : (1 : Int32).toInt = 1 := (by decide); omega)) hZ (ow hw 45 rfl) (ow hw 7 rfl) (by decide) (by decide)) qv1a qv1c (g := (mkF m 2 #[rv a1, iv p1, iv p2, iv 2, .unset, .unset] [(.int p1), (.ref a1)])) rfl (by rw [hml]; rfl) (Steps.refl _) (argsL := [(.int p1)]) (rest := []) (lenOf pd__I_I rfl) rfl (by show 2 * 0 + _ ≤ _; exact Nat.le_of_eq rfl) (hb hby d5_2) (fun _ _ => ⟨rfl, e0, (by decide : 0 + 0 ≤ _), (by decide : 0 + 0 ≤ _)⟩)
  dsimp only [Pt.U, Pt.locs, Pt.cells, Pt.slots] at X1 l1 y1 z1 st1 hQ1
  subst l1 y1 z1
  obtain ⟨hp1, e1⟩ : ∃ z, T1.heap = z := ⟨_, rfl⟩
  rw [e1] at hQ1
  obtain ⟨rfl, Nq1, K1, P1_0, P1_1, P1_2, P1_3, P1_4, P1_5, P1_6, P1_7, P1_8⟩ := hQ1
  have Z1 : n0 ≤ hp1.size := Nat.le_trans Z0 K1.1
  have Kp1 : Keep h0 hp1 [a1, ta, ca] := (Keep.refl h0 [a1, ta, ca]).trans K1 (allS (Or.inl (List.mem_of_getElem? (i := 0) rfl)) (allS (Or.inl (List.mem_of_getElem? (i := 1) rfl)) (allS (Or.inl (List.mem_of_getElem? (i := 2) rfl)) all0)))
  have N1 := Fr.app N0 Nq1
  replace K : OGo p e below A0 T1 (mkF m 5 #[rv a1, iv p1, iv p2, iv 2, .unset, .unset] [(.int 0)]) := fun t k => K t (st1.trans k)
  replace K : OGo p e below A0 T1 (mkF m 7 #[rv a1, iv p1, iv p2, iv 2, iv 0, .unset] []) := fun t k => K t (XS.istore X1.here hx rfl (hb hby d5_5) rfl (l' := #[rv a1, iv p1, iv p2, iv 2, iv 0, .unset]) rfl k)
  replace K : OGo p e below A0 T1 (mkF m 8 #[rv a1, iv p1, iv p2, iv 2, iv 0, .unset] [(.ref a1)]) := fun t k => K t (XS.aloadN X1.here hx rfl (hb hby d5_7) rfl rfl k)
  replace K : OGo p e below A0 T1 (mkF m 9 #[rv a1, iv p1, iv p2, iv 2, iv 0, .unset] [(.int p2), (.ref a1)]) := fun t k => K t (XS.iloadN X1.here hx rfl (hb hby d5_8) rfl k)
  obtain ⟨cq2, kq2, qv2a, qv2b, qv2c⟩ := isOf hZ e1 P1_0
  obtain ⟨_, _, ⟨T2, L2, k2, n2⟩, -, X2, ⟨Lc2, hQ2, l2, y2, z2⟩, st2⟩ := X1.virtualBack hx (y := mN4) (z := mN4) hown (mvT hZ (ow hw 41 rfl)) (mvT hZ (ow hw 42 rfl)) (notFace_of_selects (args := #[]) (mvT hZ (ow hw 44 rfl))) (mvT hZ (ow hw 44 rfl)) (mvT hZ (ow hw 43 rfl)) (by decide) (backOf (W := 0) (rm_chooseR12 l Z a0 hw [] a1 p2 ta ca kt kc (0 : Int32) (2 : Int32) p1 p2 (3 : Int32) (0 : Int32) hp1 n0 Z1 P1_0 P1_1 P1_2 P1_3 P1_4 P1_5 P1_6 P1_7 P1_8 g_a1 g_ta g_ca ne_a1_ta ne_a1_ca ne_ta_ca (fun z => by have q := hnb; rw [z] at q; have : (1 : Int32).toInt = 1 := (by decide); omega)) hZ (ow hw 45 rfl) (ow hw 7 rfl) (by decide) (by decide)) qv2a qv2c (g := (mkF m 9 #[rv a1, iv p1, iv p2, iv 2, iv 0, .unset] [(.int p2), (.ref a1)])) rfl (by rw [hml]; rfl) (Steps.refl _) (argsL := [(.int p2)]) (rest := []) (lenOf pd__I_I rfl) rfl (by show 2 * 0 + _ ≤ _; exact Nat.le_of_eq rfl) (hb hby d5_9) (fun _ _ => ⟨rfl, e1, (by decide : 0 + 0 ≤ _), (by decide : 0 + 0 ≤ _)⟩)
  dsimp only [Pt.U, Pt.locs, Pt.cells, Pt.slots] at X2 l2 y2 z2 st2 hQ2
  subst l2 y2 z2
  obtain ⟨hp2, e2⟩ : ∃ z, T2.heap = z := ⟨_, rfl⟩
  rw [e2] at hQ2
  obtain ⟨rfl, Nq2, K2, P2_0, P2_1, P2_2, P2_3, P2_4, P2_5, P2_6, P2_7, P2_8⟩ := hQ2
  have Z2 : n0 ≤ hp2.size := Nat.le_trans Z1 K2.1
  have Kp2 : Keep h0 hp2 [a1, ta, ca] := Kp1.trans K2 (allS (Or.inl (List.mem_of_getElem? (i := 0) rfl)) (allS (Or.inl (List.mem_of_getElem? (i := 1) rfl)) (allS (Or.inl (List.mem_of_getElem? (i := 2) rfl)) all0)))
  have N2 := Fr.app N1 Nq2
  replace K : OGo p e below A0 T2 (mkF m 12 #[rv a1, iv p1, iv p2, iv 2, iv 0, .unset] [(.int 2)]) := fun t k => K t (st2.trans k)
  replace K : OGo p e below A0 T2 (mkF m 14 #[rv a1, iv p1, iv p2, iv 2, iv 0, iv 2] []) := fun t k => K t (XS.istore X2.here hx rfl (hb hby d5_12) rfl (l' := #[rv a1, iv p1, iv p2, iv 2, iv 0, iv 2]) rfl k)
  replace K : OGo p e below A0 T2 (mkF m 16 #[rv a1, iv p1, iv p2, iv 2, iv 0, iv 2] [(.int 0)]) := fun t k => K t (XS.iload X2.here hx rfl (hb hby d5_14) rfl k)
  replace K : OGo p e below A0 T2 (mkF m 17 #[rv a1, iv p1, iv p2, iv 2, iv 0, iv 2] [(.int 2), (.int 0)]) := fun t k => K t (XS.iloadN X2.here hx rfl (hb hby d5_16) rfl k)
  replace K : OGo p e below A0 T2 (mkF m 18 #[rv a1, iv p1, iv p2, iv 2, iv 0, iv 2] [(.int p2), (.int 2), (.int 0)]) := fun t k => K t (XS.iloadN X2.here hx rfl (hb hby d5_17) rfl k)
  replace K : OGo p e below A0 T2 (mkF m 19 #[rv a1, iv p1, iv p2, iv 2, iv 0, iv 2] [(.int ((2 : Int32) / p2)), (.int 0)]) := fun t k => K t (XS.idiv X2.here hx rfl (hb hby d5_18) rfl (own_nz hnb (by decide)) k)
  replace K : OGo p e below A0 T2 (mkF m 22 #[rv a1, iv p1, iv p2, iv 2, iv 0, iv 2] []) := fun t k => K t (XS.icmpNo X2.here hx rfl (hb hby d5_19) rfl (teq ((own_div (k := (2 : Int32)) (b := p2) (by decide) (by have : ((2 : Int32) : Int32).toInt = 2 := (by decide); omega)).1 : (0 : Int32) = ((2 : Int32) / p2))).2 k)
  replace K : OGo p e below A0 T2 (mkF m 24 #[rv a1, iv p1, iv p2, iv 2, iv 0, iv 2] [(.int 2)]) := fun t k => K t (XS.iload X2.here hx rfl (hb hby d5_22) rfl k)
  replace K : OGo p e below A0 T2 (mkF m 25 #[rv a1, iv p1, iv p2, iv 2, iv 0, iv 2] [(.int 2), (.int 2)]) := fun t k => K t (XS.iloadN X2.here hx rfl (hb hby d5_24) rfl k)
  replace K : OGo p e below A0 T2 (mkF m 26 #[rv a1, iv p1, iv p2, iv 2, iv 0, iv 2] [(.int p2), (.int 2), (.int 2)]) := fun t k => K t (XS.iloadN X2.here hx rfl (hb hby d5_25) rfl k)
  replace K : OGo p e below A0 T2 (mkF m 27 #[rv a1, iv p1, iv p2, iv 2, iv 0, iv 2] [(.int ((2 : Int32) % p2)), (.int 2)]) := fun t k => K t (iremM X2 hx rfl (hb hby d5_26) rfl (own_nz hnb (by decide)) k)
  replace K : OGo p e below A0 T2 (mkF m 30 #[rv a1, iv p1, iv p2, iv 2, iv 0, iv 2] []) := fun t k => K t (XS.icmpNo X2.here hx rfl (hb hby d5_27) rfl (teq ((own_div (k := (2 : Int32)) (b := p2) (by decide) (by have : ((2 : Int32) : Int32).toInt = 2 := (by decide); omega)).2 : (2 : Int32) = ((2 : Int32) % p2))).2 k)
  replace K : OGo p e below A0 T2 (mkF m 31 #[rv a1, iv p1, iv p2, iv 2, iv 0, iv 2] [(.int 1)]) := fun t k => K t (XS.iconst X2.here hx rfl (hb hby d5_30) k)
  replace K : OGo p e below A0 T2 (mkF m 35 #[rv a1, iv p1, iv p2, iv 2, iv 0, iv 2] [(.int 1)]) := fun t k => K t (XS.goto X2.here hx rfl (pc0 := 31) (pc' := 35) rfl (hb hby d5_31) (by decide) (by decide) k)
  obtain ⟨fs, hr, hrun, hended, hW, hsame⟩ := X2.leave (v := some (.int (1 : Int32))) (fun h => by rw [Bd.returns] at h; cases h)
  subst hA0
  refine ⟨_, _, K _ (retN X2 hx (t := .boolean) Bd.returns (by simp) (hb hby d5_35) hr), hrun, hended, _, _, rfl, ?_, ⟨_, rfl⟩, hW, hsame.mono (by decide) (by decide)⟩
  show Q_bok_s23_2 Z a1 p1 p2 ta ca kt kc h0 n0 _ T2.heap _
  rw [e2]
  exact ⟨rfl, N2, Kp2, P2_0, P2_1, P2_2, P2_3, P2_4, P2_5, P2_6, P2_7, P2_8⟩
theorem ef_0 (m : MethodId) (x0 : Int32) (x1 : Int32) : entryFrame m #[(.int x0), (.int x1)] maxLocals = mkF m 0 #[.val (.int x0), .val (.int x1), .unset, .unset, .unset, .unset, .unset, .unset, .unset, .unset, .unset] [] := by first | (simp [entryFrame, mkF, argsToLocals, Value.category, maxLocals]; done) | rfl
theorem pd___V : parseMethodDescriptor "()V" = some ⟨[], none⟩ := by decide +kernel
theorem pd__Lcom_example_flote_flote_program_Choices_III_Z : parseMethodDescriptor "(Lcom/example/flote/flote/program/Choices;III)Z" = some ⟨[(.object "com/example/flote/flote/program/Choices"), .int, .int, .int], some .boolean⟩ := by decide +kernel
theorem pd___Z : parseMethodDescriptor "()Z" = some ⟨[], some .boolean⟩ := by decide +kernel
theorem pd___I : parseMethodDescriptor "()I" = some ⟨[], some .int⟩ := by decide +kernel
def Q_law (Z : State) (p1 : Int32) (p2 : Int32) (h0 : Heap) (n0 : Nat) (v : Option Value) (h : Heap) (L : List Loc) : Prop := v = some (.int (1 : Int32)) ∧ Fr n0 L
set_option maxRecDepth 65536 in
set_option maxHeartbeats 40000000 in
theorem rm_law (l : Launch) (Z : State) (a0 : Array Value) (hw : ∀ d ∈ tables_1, d.before a0 Z = true) (ws : List Jvm.Cond) (p1 : Int32) (p2 : Int32) (h0 : Heap) (n0 : Nat) (Z0 : n0 ≤ h0.size) :
    MetFree l x (head1 (Jvm.Cond.code x code maxLocals ret :: ws) room_1) (fun a U => a = #[(.int p1), (.int p2)] ∧ Z.Warmed39 U.vm ∧ U.heap = h0) (fun _ _ _ _ _ => True) (fun _ U o U' => ∃ v L, o = .returned v ∧ Q_law Z p1 p2 h0 n0 v U'.heap L ∧ FrameEnd U o U' L room_1.cells room_1.slots) := by
  refine MetFree.of_bodySF (plainFor_of_name pn_com_example_flote_flote_program_ChoicesNextPinLaw) hisR ?_
  intro p e s m args below meth c s₁ Bd hml0 hP hK
  obtain ⟨rfl, hZ, hh⟩ := hP
  have hx := Bd.exec
  have hby := Bd.bytes
  have hml : c.maxLocals = 11 := hml0
  have hown : s.vm.findClass "com/example/flote/flote/program/ChoicesNextPinLaw" = some m.cls := findClass_of_methodNamed Bd.named
  have hnm := (name_of_methodNamed Bd.named Bd.method).1
  have X0 : Stand p l e room_1 s m #[(.int p1), (.int p2)] below meth c s₁ [] 0 0 := Stand.of_body Bd
  have e0 : s₁.heap = h0 := by rw [← hh, Bd.state]; rfl
  have N0 := Fr.nil n0
  obtain ⟨A0, hA0⟩ : ∃ z, z = s₁.setTop (entryFrame m #[(.int p1), (.int p2)] maxLocals) := ⟨_, rfl⟩
  have K : OGo p e below A0 s₁ (mkF m 0 #[iv p1, iv p2, .unset, .unset, .unset, .unset, .unset, .unset, .unset, .unset, .unset] []) := fun t k => hA0 ▸ castTop (ef_0 m p1 p2) k
  replace K : OGo p e below A0 s₁ (mkF m 1 #[iv p1, iv p2, .unset, .unset, .unset, .unset, .unset, .unset, .unset, .unset, .unset] [(.int p1)]) := fun t k => K t (XS.iloadN X0.here hx rfl (hb hby at_0) rfl k)
  obtain ⟨_, _, ⟨T1, L1, k1, n1⟩, -, X1, ⟨Lc1, hQ1, l1, y1, z1⟩, st1⟩ := Jvm.LawKit.callS X0 hx (y := mN0) hown (mvT hZ (ow hw 0 rfl)) (mvT hZ (ow hw 1 rfl)) (mvT hZ (ow hw 2 rfl)) (mvT hZ (ow hw 3 rfl)) (by decide) (backOf (W := 0) (rm_count l Z a0 hw [] p1 h0 n0 Z0 ) hZ (ow hw 3 rfl) (ow hw 2 rfl) (by decide) (by decide)) (g := (mkF m 1 #[iv p1, iv p2, .unset, .unset, .unset, .unset, .unset, .unset, .unset, .unset, .unset] [(.int p1)])) rfl (by rw [hml]; rfl) (argsL := [(.int p1)]) (rest := []) (lenOf pd__I_I rfl) rfl (by show 2 * 0 + _ ≤ _; exact Nat.le_of_eq rfl) (hb hby at_1) (fun _ _ => ⟨rfl, e0, (by decide : 0 + 0 ≤ _), (by decide : 0 + 0 ≤ _)⟩)
  dsimp only [Pt.U, Pt.locs, Pt.cells, Pt.slots] at X1 l1 y1 z1 st1 hQ1
  subst l1 y1 z1
  obtain ⟨rfl, Nq1, e1⟩ := hQ1
  have N1 := Fr.app N0 Nq1
  replace K : OGo p e below A0 T1 (mkF m 4 #[iv p1, iv p2, .unset, .unset, .unset, .unset, .unset, .unset, .unset, .unset, .unset] [(.int (own_count p1))]) := fun t k => K t (st1 t k)
  obtain ⟨a, hv_a⟩ : ∃ z : Int32, z = (own_count p1) := ⟨_, rfl⟩
  rw [← hv_a] at K
  have hna : 1 ≤ a.toInt := hv_a ▸ own_countb p1
  replace K : OGo p e below A0 T1 (mkF m 5 #[iv p1, iv p2, iv a, .unset, .unset, .unset, .unset, .unset, .unset, .unset, .unset] []) := fun t k => K t (XS.istoreN X1.here hx rfl (hb hby at_4) rfl (l' := #[iv p1, iv p2, iv a, .unset, .unset, .unset, .unset, .unset, .unset, .unset, .unset]) rfl k)
  replace K : OGo p e below A0 T1 (mkF m 6 #[iv p1, iv p2, iv a, .unset, .unset, .unset, .unset, .unset, .unset, .unset, .unset] [(.int p2)]) := fun t k => K t (XS.iloadN X1.here hx rfl (hb hby at_5) rfl k)
  obtain ⟨_, _, ⟨T2, L2, k2, n2⟩, -, X2, ⟨Lc2, hQ2, l2, y2, z2⟩, st2⟩ := Jvm.LawKit.callS X1 hx (y := mN0) hown (mvT hZ (ow hw 0 rfl)) (mvT hZ (ow hw 1 rfl)) (mvT hZ (ow hw 2 rfl)) (mvT hZ (ow hw 3 rfl)) (by decide) (backOf (W := 0) (rm_count l Z a0 hw [] p2 h0 n0 Z0 ) hZ (ow hw 3 rfl) (ow hw 2 rfl) (by decide) (by decide)) (g := (mkF m 6 #[iv p1, iv p2, iv a, .unset, .unset, .unset, .unset, .unset, .unset, .unset, .unset] [(.int p2)])) rfl (by rw [hml]; rfl) (argsL := [(.int p2)]) (rest := []) (lenOf pd__I_I rfl) rfl (by show 2 * 0 + _ ≤ _; exact Nat.le_of_eq rfl) (hb hby at_6) (fun _ _ => ⟨rfl, e1, (by decide : 0 + 0 ≤ _), (by decide : 0 + 0 ≤ _)⟩)
  dsimp only [Pt.U, Pt.locs, Pt.cells, Pt.slots] at X2 l2 y2 z2 st2 hQ2
  subst l2 y2 z2
  obtain ⟨rfl, Nq2, e2⟩ := hQ2
  have N2 := Fr.app N1 Nq2
  replace K : OGo p e below A0 T2 (mkF m 9 #[iv p1, iv p2, iv a, .unset, .unset, .unset, .unset, .unset, .unset, .unset, .unset] [(.int (own_count p2))]) := fun t k => K t (st2 t k)
  obtain ⟨b, hv_b⟩ : ∃ z : Int32, z = (own_count p2) := ⟨_, rfl⟩
  rw [← hv_b] at K
  have hnb : 1 ≤ b.toInt := hv_b ▸ own_countb p2
  replace K : OGo p e below A0 T2 (mkF m 10 #[iv p1, iv p2, iv a, iv b, .unset, .unset, .unset, .unset, .unset, .unset, .unset] []) := fun t k => K t (XS.istoreN X2.here hx rfl (hb hby at_9) rfl (l' := #[iv p1, iv p2, iv a, iv b, .unset, .unset, .unset, .unset, .unset, .unset, .unset]) rfl k)
  by_cases ha1 : a = (1 : Int32)
  · subst ha1
    by_cases hb1 : b = (1 : Int32)
    · subst hb1
      replace K : OGo p e below A0 T2 (mkF m 11 #[iv p1, iv p2, iv 1, iv 1, .unset, .unset, .unset, .unset, .unset, .unset, .unset] [(.int 1)]) := fun t k => K t (XS.iloadN X2.here hx rfl (hb hby at_10) rfl k)
      replace K : OGo p e below A0 T2 (mkF m 12 #[iv p1, iv p2, iv 1, iv 1, .unset, .unset, .unset, .unset, .unset, .unset, .unset] [(.long ((1 : Int32).toInt64))]) := fun t k => K t (XS.i2l X2.here hx rfl (hb hby at_11) rfl k)
      replace K : OGo p e below A0 T2 (mkF m 13 #[iv p1, iv p2, iv 1, iv 1, .unset, .unset, .unset, .unset, .unset, .unset, .unset] [(.int 1), (.long ((1 : Int32).toInt64))]) := fun t k => K t (XS.iloadN X2.here hx rfl (hb hby at_12) rfl k)
      replace K : OGo p e below A0 T2 (mkF m 14 #[iv p1, iv p2, iv 1, iv 1, .unset, .unset, .unset, .unset, .unset, .unset, .unset] [(.long ((1 : Int32).toInt64)), (.long ((1 : Int32).toInt64))]) := fun t k => K t (XS.i2l X2.here hx rfl (hb hby at_13) rfl k)
      replace K : OGo p e below A0 T2 (mkF m 15 #[iv p1, iv p2, iv 1, iv 1, .unset, .unset, .unset, .unset, .unset, .unset, .unset] [(.long (((1 : Int32).toInt64) * ((1 : Int32).toInt64)))]) := fun t k => K t (XS.lmul X2.here hx rfl (hb hby at_14) rfl k)
      replace K : OGo p e below A0 T2 (mkF m 17 #[iv p1, iv p2, iv 1, iv 1, .val (.long (((1 : Int32).toInt64) * ((1 : Int32).toInt64))), .second, .unset, .unset, .unset, .unset, .unset] []) := fun t k => K t (XS.lstore X2.here hx rfl (hb hby at_15) rfl (l' := #[iv p1, iv p2, iv 1, iv 1, .val (.long (((1 : Int32).toInt64) * ((1 : Int32).toInt64))), .second, .unset, .unset, .unset, .unset, .unset]) rfl k)
      obtain ⟨T3, h3, X3, e3, E3, A3, D3, -, st3⟩ := newO X2 hx hZ hown (ow hw 5 rfl) (ow hw 6 rfl) (ow hw 7 rfl) e2 (g := (mkF m 17 #[iv p1, iv p2, iv 1, iv 1, .val (.long (((1 : Int32).toInt64) * ((1 : Int32).toInt64))), .second, .unset, .unset, .unset, .unset, .unset] [])) rfl (hb hby at_17) (by decide) (by decide)
      obtain ⟨b3, gz3⟩ : ∃ z, z = h0.size := ⟨_, rfl⟩
      rw [← gz3] at A3 D3 st3
      have g_b3 : n0 ≤ b3 := Nat.le_trans Z0 (Nat.le_of_eq gz3.symm)
      have Z3 : n0 ≤ h3.size := Nat.le_trans Z0 E3.1
      have F_taken_b3 : Fld Z h3 b3 cN0 "taken" "[I" .null := D3 (Or.inl (ow hw 16 rfl)) (ty := (.array .int)) (by decide)
      have F_counts_b3 : Fld Z h3 b3 cN0 "counts" "[I" .null := D3 (Or.inl (ow hw 18 rfl)) (ty := (.array .int)) (by decide)
      have F_values_b3 : Fld Z h3 b3 cN0 "values" "[I" .null := D3 (Or.inl (ow hw 20 rfl)) (ty := (.array .int)) (by decide)
      have F_types_b3 : Fld Z h3 b3 cN0 "types" cN1 .null := D3 (Or.inl (ow hw 24 rfl)) (ty := (.array (.object "com/example/flote/flote/program/Type"))) (by decide)
      have F_met_b3 : Fld Z h3 b3 cN0 "met" "I" (.int (0 : Int32)) := D3 (Or.inl (ow hw 31 rfl)) (ty := .int) (by decide)
      have F_repeated_b3 : Fld Z h3 b3 cN0 "repeated" "I" (.int (0 : Int32)) := D3 (Or.inl (ow hw 33 rfl)) (ty := .int) (by decide)
      have F_branches_b3 : Fld Z h3 b3 cN0 "branches" "I" (.int (0 : Int32)) := D3 (Or.inl (ow hw 35 rfl)) (ty := .int) (by decide)
      have F_computed_b3 : Fld Z h3 b3 cN0 "computed" "I" (.int (0 : Int32)) := D3 (Or.inl (ow hw 37 rfl)) (ty := .int) (by decide)
      replace K : OGo p e below A0 T3 (mkF m 20 #[iv p1, iv p2, iv 1, iv 1, .val (.long (((1 : Int32).toInt64) * ((1 : Int32).toInt64))), .second, .unset, .unset, .unset, .unset, .unset] [(.ref b3)]) := fun t k => K t (st3 t k)
      replace K : OGo p e below A0 T3 (mkF m 21 #[iv p1, iv p2, iv 1, iv 1, .val (.long (((1 : Int32).toInt64) * ((1 : Int32).toInt64))), .second, .unset, .unset, .unset, .unset, .unset] [(.ref b3), (.ref b3)]) := fun t k => K t (XS.dup X3.here hx rfl (hb hby at_20) rfl rfl k)
      obtain ⟨_, _, ⟨T4, L4, k4, n4⟩, -, X4, ⟨Lc4, hQ4, l4, y4, z4⟩, st4⟩ := X3.specialBack hx (y := mN2) rfl hown (mvT hZ (ow hw 8 rfl)) (mvT hZ (ow hw 9 rfl)) (mvT hZ (ow hw 10 rfl)) (by decide) (backOf (W := 1) (rm_init l Z a0 hw [] b3 h3 n0 Z3 A3 F_taken_b3 F_counts_b3 F_values_b3 F_types_b3 F_met_b3 F_repeated_b3 F_branches_b3 F_computed_b3 g_b3) hZ (ow hw 10 rfl) (ow hw 7 rfl) (by decide) (by decide)) (g := (mkF m 21 #[iv p1, iv p2, iv 1, iv 1, .val (.long (((1 : Int32).toInt64) * ((1 : Int32).toInt64))), .second, .unset, .unset, .unset, .unset, .unset] [(.ref b3), (.ref b3)])) rfl (by rw [hml]; rfl) (Steps.refl _) (a := b3) (argsL := []) (rest := [(.ref b3)]) (lenOf pd___V rfl) rfl (by show 2 * 0 + _ ≤ _; exact Nat.le_of_eq rfl) (hb hby at_21) (fun _ _ => ⟨rfl, e3, (by decide : 1 + 4 ≤ _), (by decide : 8 + 32 ≤ _)⟩)
      dsimp only [Pt.U, Pt.locs, Pt.cells, Pt.slots] at X4 l4 y4 z4 st4 hQ4
      subst l4 y4 z4
      obtain ⟨hp4, e4⟩ : ∃ z, T4.heap = z := ⟨_, rfl⟩
      rw [e4] at hQ4
      obtain ⟨rfl, Nq4, ta_4, ca_4, kt_4, kc_4, K4, P4_0, P4_1, P4_2, P4_3, P4_4, P4_5, P4_6, P4_7, P4_8, P4_9, P4_10, P4_11⟩ := hQ4
      have ne_b3_ta_4 : b3 ≠ ta_4 := Nat.ne_of_lt (Nat.lt_of_lt_of_le A3.lt P4_0)
      have g_ta_4 : n0 ≤ ta_4 := Nat.le_trans Z3 P4_0
      have ne_b3_ca_4 : b3 ≠ ca_4 := Nat.ne_of_lt (Nat.lt_of_lt_of_le A3.lt P4_1)
      have g_ca_4 : n0 ≤ ca_4 := Nat.le_trans Z3 P4_1
      have Z4 : n0 ≤ hp4.size := Nat.le_trans Z3 K4.1
      have N4 := Fr.app N2 Nq4
      replace K : OGo p e below A0 T4 (mkF m 24 #[iv p1, iv p2, iv 1, iv 1, .val (.long (((1 : Int32).toInt64) * ((1 : Int32).toInt64))), .second, .unset, .unset, .unset, .unset, .unset] [(.ref b3)]) := fun t k => K t (st4.trans k)
      replace K : OGo p e below A0 T4 (mkF m 26 #[iv p1, iv p2, iv 1, iv 1, .val (.long (((1 : Int32).toInt64) * ((1 : Int32).toInt64))), .second, rv b3, .unset, .unset, .unset, .unset] []) := fun t k => K t (XS.astore X4.here hx rfl (hb hby at_24) rfl rfl (l' := #[iv p1, iv p2, iv 1, iv 1, .val (.long (((1 : Int32).toInt64) * ((1 : Int32).toInt64))), .second, rv b3, .unset, .unset, .unset, .unset]) rfl k)
      replace K : OGo p e below A0 T4 (mkF m 28 #[iv p1, iv p2, iv 1, iv 1, .val (.long (((1 : Int32).toInt64) * ((1 : Int32).toInt64))), .second, rv b3, .unset, .unset, .unset, .unset] [(.ref b3)]) := fun t k => K t (XS.aload X4.here hx rfl (hb hby at_26) rfl rfl k)
      obtain ⟨cq5, kq5, qv5a, qv5b, qv5c⟩ := isOf hZ e4 P4_3
      obtain ⟨_, _, ⟨T5, L5, k5, n5⟩, -, X5, ⟨Lc5, hQ5, l5, y5, z5⟩, st5⟩ := X4.virtualBack hx (y := mN3) (z := mN3) hown (mvT hZ (ow hw 25 rfl)) (mvT hZ (ow hw 26 rfl)) (notFace_of_selects (args := #[]) (mvT hZ (ow hw 28 rfl))) (mvT hZ (ow hw 28 rfl)) (mvT hZ (ow hw 27 rfl)) (by decide) (backOf (W := 0) (rm_begin l Z a0 hw [] b3 ta_4 ca_4 kt_4 kc_4 hp4 n0 Z4 P4_3 P4_4 P4_5 P4_6 P4_7 P4_8 P4_9 P4_10 P4_11 g_b3 ne_b3_ta_4 ne_b3_ca_4) hZ (ow hw 29 rfl) (ow hw 7 rfl) (by decide) (by decide)) qv5a qv5c (g := (mkF m 28 #[iv p1, iv p2, iv 1, iv 1, .val (.long (((1 : Int32).toInt64) * ((1 : Int32).toInt64))), .second, rv b3, .unset, .unset, .unset, .unset] [(.ref b3)])) rfl (by rw [hml]; rfl) (Steps.refl _) (argsL := []) (rest := []) (lenOf pd___V rfl) rfl (by show 2 * 0 + _ ≤ _; exact Nat.le_of_eq rfl) (hb hby at_28) (fun _ _ => ⟨rfl, e4, (by decide : 5 + 0 ≤ _), (by decide : 40 + 0 ≤ _)⟩)
      dsimp only [Pt.U, Pt.locs, Pt.cells, Pt.slots] at X5 l5 y5 z5 st5 hQ5
      subst l5 y5 z5
      obtain ⟨hp5, e5⟩ : ∃ z, T5.heap = z := ⟨_, rfl⟩
      rw [e5] at hQ5
      obtain ⟨rfl, Nq5, K5, P5_0, P5_1, P5_2, P5_3, P5_4, P5_5, P5_6⟩ := hQ5
      have Z5 : n0 ≤ hp5.size := Nat.le_trans Z4 K5.1
      have N5 := Fr.app N4 Nq5
      replace K : OGo p e below A0 T5 (mkF m 31 #[iv p1, iv p2, iv 1, iv 1, .val (.long (((1 : Int32).toInt64) * ((1 : Int32).toInt64))), .second, rv b3, .unset, .unset, .unset, .unset] []) := fun t k => K t (st5.trans k)
      replace K : OGo p e below A0 T5 (mkF m 33 #[iv p1, iv p2, iv 1, iv 1, .val (.long (((1 : Int32).toInt64) * ((1 : Int32).toInt64))), .second, rv b3, .unset, .unset, .unset, .unset] [(.ref b3)]) := fun t k => K t (XS.aload X5.here hx rfl (hb hby at_31) rfl rfl k)
      replace K : OGo p e below A0 T5 (mkF m 34 #[iv p1, iv p2, iv 1, iv 1, .val (.long (((1 : Int32).toInt64) * ((1 : Int32).toInt64))), .second, rv b3, .unset, .unset, .unset, .unset] [(.int 1), (.ref b3)]) := fun t k => K t (XS.iloadN X5.here hx rfl (hb hby at_33) rfl k)
      replace K : OGo p e below A0 T5 (mkF m 35 #[iv p1, iv p2, iv 1, iv 1, .val (.long (((1 : Int32).toInt64) * ((1 : Int32).toInt64))), .second, rv b3, .unset, .unset, .unset, .unset] [(.int 1), (.int 1), (.ref b3)]) := fun t k => K t (XS.iloadN X5.here hx rfl (hb hby at_34) rfl k)
      replace K : OGo p e below A0 T5 (mkF m 36 #[iv p1, iv p2, iv 1, iv 1, .val (.long (((1 : Int32).toInt64) * ((1 : Int32).toInt64))), .second, rv b3, .unset, .unset, .unset, .unset] [(.int 0), (.int 1), (.int 1), (.ref b3)]) := fun t k => K t (XS.iconst X5.here hx rfl (hb hby at_35) k)
      have V_ta_4_7 := (P4_10.keep K5 (ninS (Ne.symm ne_b3_ta_4) nin0))
      have V_ca_4_8 := (P4_11.keep K5 (ninS (Ne.symm ne_b3_ca_4) nin0))
      obtain ⟨_, _, ⟨T6, L6, k6, n6⟩, -, X6, ⟨Lc6, hQ6, l6, y6, z6⟩, st6⟩ := Jvm.LawKit.callS X5 hx (y := mN6) hown (mvT hZ (ow hw 38 rfl)) (mvT hZ (ow hw 39 rfl)) (mvT hZ (ow hw 2 rfl)) (mvT hZ (ow hw 40 rfl)) (by decide) (backOf (W := 0) (rm_bok_s11_0 l Z a0 hw [] b3 ta_4 ca_4 kt_4 kc_4 hp5 n0 Z5 P5_0 P5_1 P5_2 P5_3 P5_4 P5_5 P5_6 V_ta_4_7 V_ca_4_8 g_b3 g_ta_4 g_ca_4 ne_b3_ta_4 ne_b3_ca_4 P4_2) hZ (ow hw 40 rfl) (ow hw 2 rfl) (by decide) (by decide)) (g := (mkF m 36 #[iv p1, iv p2, iv 1, iv 1, .val (.long (((1 : Int32).toInt64) * ((1 : Int32).toInt64))), .second, rv b3, .unset, .unset, .unset, .unset] [(.int 0), (.int 1), (.int 1), (.ref b3)])) rfl (by rw [hml]; rfl) (argsL := [(.ref b3), (.int (1 : Int32)), (.int (1 : Int32)), (.int (0 : Int32))]) (rest := []) (lenOf pd__Lcom_example_flote_flote_program_Choices_III_Z rfl) rfl (by show 2 * 0 + _ ≤ _; exact Nat.le_of_eq rfl) (hb hby at_36) (fun _ _ => ⟨rfl, e5, (by decide : 5 + 0 ≤ _), (by decide : 40 + 0 ≤ _)⟩)
      dsimp only [Pt.U, Pt.locs, Pt.cells, Pt.slots] at X6 l6 y6 z6 st6 hQ6
      subst l6 y6 z6
      obtain ⟨hp6, e6⟩ : ∃ z, T6.heap = z := ⟨_, rfl⟩
      rw [e6] at hQ6
      obtain ⟨rfl, Nq6, K6, P6_0, P6_1, P6_2, P6_3, P6_4, P6_5, P6_6, P6_7, P6_8⟩ := hQ6
      have Z6 : n0 ≤ hp6.size := Nat.le_trans Z5 K6.1
      have N6 := Fr.app N5 Nq6
      replace K : OGo p e below A0 T6 (mkF m 39 #[iv p1, iv p2, iv 1, iv 1, .val (.long (((1 : Int32).toInt64) * ((1 : Int32).toInt64))), .second, rv b3, .unset, .unset, .unset, .unset] [(.int 1)]) := fun t k => K t (st6 t k)
      replace K : OGo p e below A0 T6 (mkF m 41 #[iv p1, iv p2, iv 1, iv 1, .val (.long (((1 : Int32).toInt64) * ((1 : Int32).toInt64))), .second, rv b3, iv 1, .unset, .unset, .unset] []) := fun t k => K t (XS.istore X6.here hx rfl (hb hby at_39) rfl (l' := #[iv p1, iv p2, iv 1, iv 1, .val (.long (((1 : Int32).toInt64) * ((1 : Int32).toInt64))), .second, rv b3, iv 1, .unset, .unset, .unset]) rfl k)
      replace K : OGo p e below A0 T6 (mkF m 43 #[iv p1, iv p2, iv 1, iv 1, .val (.long (((1 : Int32).toInt64) * ((1 : Int32).toInt64))), .second, rv b3, iv 1, .unset, .unset, .unset] [(.ref b3)]) := fun t k => K t (XS.aload X6.here hx rfl (hb hby at_41) rfl rfl k)
      obtain ⟨cq9, kq9, qv9a, qv9b, qv9c⟩ := isOf hZ e6 P6_0
      obtain ⟨_, _, ⟨T9, L9, k9, n9⟩, -, X9, ⟨Lc9, hQ9, l9, y9, z9⟩, st9⟩ := X6.virtualBack hx (y := mN7) (z := mN7) hown (mvT hZ (ow hw 46 rfl)) (mvT hZ (ow hw 47 rfl)) (notFace_of_selects (args := #[]) (mvT hZ (ow hw 49 rfl))) (mvT hZ (ow hw 49 rfl)) (mvT hZ (ow hw 48 rfl)) (by decide) (backOf (W := 0) (rm_nx_s11_0 l Z a0 hw [] b3 ta_4 ca_4 kt_4 kc_4 hp6 n0 Z6 P6_0 P6_1 P6_2 P6_3 P6_4 P6_5 P6_6 P6_7 P6_8 g_b3 g_ta_4 g_ca_4 ne_b3_ta_4 ne_b3_ca_4 P4_2) hZ (ow hw 50 rfl) (ow hw 7 rfl) (by decide) (by decide)) qv9a qv9c (g := (mkF m 43 #[iv p1, iv p2, iv 1, iv 1, .val (.long (((1 : Int32).toInt64) * ((1 : Int32).toInt64))), .second, rv b3, iv 1, .unset, .unset, .unset] [(.ref b3)])) rfl (by rw [hml]; rfl) (Steps.refl _) (argsL := []) (rest := []) (lenOf pd___Z rfl) rfl (by show 2 * 0 + _ ≤ _; exact Nat.le_of_eq rfl) (hb hby at_43) (fun _ _ => ⟨rfl, e6, (by decide : 5 + 0 ≤ _), (by decide : 40 + 0 ≤ _)⟩)
      dsimp only [Pt.U, Pt.locs, Pt.cells, Pt.slots] at X9 l9 y9 z9 st9 hQ9
      subst l9 y9 z9
      obtain ⟨hp9, e9⟩ : ∃ z, T9.heap = z := ⟨_, rfl⟩
      rw [e9] at hQ9
      obtain ⟨rfl, Nq9, K9, P9_0, P9_1, P9_2, P9_3, P9_4, P9_5, P9_6, P9_7, P9_8⟩ := hQ9
      have Z9 : n0 ≤ hp9.size := Nat.le_trans Z6 K9.1
      have N9 := Fr.app N6 Nq9
      replace K : OGo p e below A0 T9 (mkF m 46 #[iv p1, iv p2, iv 1, iv 1, .val (.long (((1 : Int32).toInt64) * ((1 : Int32).toInt64))), .second, rv b3, iv 1, .unset, .unset, .unset] [(.int 0)]) := fun t k => K t (st9.trans k)
      replace K : OGo p e below A0 T9 (mkF m 48 #[iv p1, iv p2, iv 1, iv 1, .val (.long (((1 : Int32).toInt64) * ((1 : Int32).toInt64))), .second, rv b3, iv 1, iv 0, .unset, .unset] []) := fun t k => K t (XS.istore X9.here hx rfl (hb hby at_46) rfl (l' := #[iv p1, iv p2, iv 1, iv 1, .val (.long (((1 : Int32).toInt64) * ((1 : Int32).toInt64))), .second, rv b3, iv 1, iv 0, .unset, .unset]) rfl k)
      replace K : OGo p e below A0 T9 (mkF m 50 #[iv p1, iv p2, iv 1, iv 1, .val (.long (((1 : Int32).toInt64) * ((1 : Int32).toInt64))), .second, rv b3, iv 1, iv 0, .unset, .unset] [(.int 1)]) := fun t k => K t (XS.iload X9.here hx rfl (hb hby at_48) rfl k)
      replace K : OGo p e below A0 T9 (mkF m 53 #[iv p1, iv p2, iv 1, iv 1, .val (.long (((1 : Int32).toInt64) * ((1 : Int32).toInt64))), .second, rv b3, iv 1, iv 0, .unset, .unset] []) := fun t k => K t (XS.ifNo X9.here hx rfl (hb hby at_50) rfl ((if0 _ _).trans (feq ((by decide : ¬ ((1 : Int32) = (0 : Int32))) : ¬ ((1 : Int32) = (0 : Int32)))).1) k)
      replace K : OGo p e below A0 T9 (mkF m 55 #[iv p1, iv p2, iv 1, iv 1, .val (.long (((1 : Int32).toInt64) * ((1 : Int32).toInt64))), .second, rv b3, iv 1, iv 0, .unset, .unset] [(.int 0)]) := fun t k => K t (XS.iload X9.here hx rfl (hb hby at_53) rfl k)
      replace K : OGo p e below A0 T9 (mkF m 56 #[iv p1, iv p2, iv 1, iv 1, .val (.long (((1 : Int32).toInt64) * ((1 : Int32).toInt64))), .second, rv b3, iv 1, iv 0, .unset, .unset] [(.long 1), (.int 0)]) := fun t k => K t (XS.lconst X9.here hx rfl (hb hby at_55) k)
      replace K : OGo p e below A0 T9 (mkF m 58 #[iv p1, iv p2, iv 1, iv 1, .val (.long (((1 : Int32).toInt64) * ((1 : Int32).toInt64))), .second, rv b3, iv 1, iv 0, .unset, .unset] [(.long (((1 : Int32).toInt64) * ((1 : Int32).toInt64))), (.long 1), (.int 0)]) := fun t k => K t (XS.lload X9.here hx rfl (hb hby at_56) rfl k)
      replace K : OGo p e below A0 T9 (mkF m 59 #[iv p1, iv p2, iv 1, iv 1, .val (.long (((1 : Int32).toInt64) * ((1 : Int32).toInt64))), .second, rv b3, iv 1, iv 0, .unset, .unset] [(.int (lcmpW (1 : Int64) (((1 : Int32).toInt64) * ((1 : Int32).toInt64)))), (.int 0)]) := fun t k => K t (XS.lcmp X9.here hx rfl (hb hby at_58) rfl k)
      replace K : OGo p e below A0 T9 (mkF m 66 #[iv p1, iv p2, iv 1, iv 1, .val (.long (((1 : Int32).toInt64) * ((1 : Int32).toInt64))), .second, rv b3, iv 1, iv 0, .unset, .unset] [(.int 0)]) := fun t k => K t (XS.ifYes X9.here hx rfl (pc0 := 59) (pc' := 66) rfl (hb hby at_59) rfl ((if0 _ _).trans (flt (fun q => ((by decide) : ¬ ((1 : Int64) < (((1 : Int32).toInt64) * ((1 : Int32).toInt64)))) ((lw_lt (1 : Int64) (((1 : Int32).toInt64) * ((1 : Int32).toInt64))).mp q))).2.1) (by decide) (by decide) k)
      replace K : OGo p e below A0 T9 (mkF m 67 #[iv p1, iv p2, iv 1, iv 1, .val (.long (((1 : Int32).toInt64) * ((1 : Int32).toInt64))), .second, rv b3, iv 1, iv 0, .unset, .unset] [(.int 0), (.int 0)]) := fun t k => K t (XS.iconst X9.here hx rfl (hb hby at_66) k)
      replace K : OGo p e below A0 T9 (mkF m 70 #[iv p1, iv p2, iv 1, iv 1, .val (.long (((1 : Int32).toInt64) * ((1 : Int32).toInt64))), .second, rv b3, iv 1, iv 0, .unset, .unset] []) := fun t k => K t (XS.icmpNo X9.here hx rfl (hb hby at_67) rfl (teq ((by decide : (0 : Int32) = (0 : Int32)) : (0 : Int32) = (0 : Int32))).2 k)
      replace K : OGo p e below A0 T9 (mkF m 71 #[iv p1, iv p2, iv 1, iv 1, .val (.long (((1 : Int32).toInt64) * ((1 : Int32).toInt64))), .second, rv b3, iv 1, iv 0, .unset, .unset] [(.int 1)]) := fun t k => K t (XS.iconst X9.here hx rfl (hb hby at_70) k)
      replace K : OGo p e below A0 T9 (mkF m 75 #[iv p1, iv p2, iv 1, iv 1, .val (.long (((1 : Int32).toInt64) * ((1 : Int32).toInt64))), .second, rv b3, iv 1, iv 0, .unset, .unset] [(.int 1)]) := fun t k => K t (XS.goto X9.here hx rfl (pc0 := 71) (pc' := 75) rfl (hb hby at_71) (by decide) (by decide) k)
      replace K : OGo p e below A0 T9 (mkF m 77 #[iv p1, iv p2, iv 1, iv 1, .val (.long (((1 : Int32).toInt64) * ((1 : Int32).toInt64))), .second, rv b3, iv 1, iv 0, .unset, .unset] []) := fun t k => K t (XS.istore X9.here hx rfl (hb hby at_75) rfl (l' := #[iv p1, iv p2, iv 1, iv 1, .val (.long (((1 : Int32).toInt64) * ((1 : Int32).toInt64))), .second, rv b3, iv 1, iv 0, .unset, .unset]) rfl k)
      replace K : OGo p e below A0 T9 (mkF m 78 #[iv p1, iv p2, iv 1, iv 1, .val (.long (((1 : Int32).toInt64) * ((1 : Int32).toInt64))), .second, rv b3, iv 1, iv 0, .unset, .unset] [(.int 1)]) := fun t k => K t (XS.iconst X9.here hx rfl (hb hby at_77) k)
      replace K : OGo p e below A0 T9 (mkF m 80 #[iv p1, iv p2, iv 1, iv 1, .val (.long (((1 : Int32).toInt64) * ((1 : Int32).toInt64))), .second, rv b3, iv 1, iv 0, iv 1, .unset] []) := fun t k => K t (XS.istore X9.here hx rfl (hb hby at_78) rfl (l' := #[iv p1, iv p2, iv 1, iv 1, .val (.long (((1 : Int32).toInt64) * ((1 : Int32).toInt64))), .second, rv b3, iv 1, iv 0, iv 1, .unset]) rfl k)
      replace K : OGo p e below A0 T9 (mkF m 82 #[iv p1, iv p2, iv 1, iv 1, .val (.long (((1 : Int32).toInt64) * ((1 : Int32).toInt64))), .second, rv b3, iv 1, iv 0, iv 1, .unset] [(.int 0)]) := fun t k => K t (XS.iload X9.here hx rfl (hb hby at_80) rfl k)
      replace K : OGo p e below A0 T9 (mkF m 180 #[iv p1, iv p2, iv 1, iv 1, .val (.long (((1 : Int32).toInt64) * ((1 : Int32).toInt64))), .second, rv b3, iv 1, iv 0, iv 1, .unset] []) := fun t k => K t (XS.ifYes X9.here hx rfl (pc0 := 82) (pc' := 180) rfl (hb hby at_82) rfl ((if0 _ _).trans (teq ((by decide : (0 : Int32) = (0 : Int32)) : (0 : Int32) = (0 : Int32))).1) (by decide) (by decide) k)
      replace K : OGo p e below A0 T9 (mkF m 181 #[iv p1, iv p2, iv 1, iv 1, .val (.long (((1 : Int32).toInt64) * ((1 : Int32).toInt64))), .second, rv b3, iv 1, iv 0, iv 1, .unset] [(.int 1)]) := fun t k => K t (XS.iloadN X9.here hx rfl (hb hby at_180) rfl k)
      replace K : OGo p e below A0 T9 (mkF m 182 #[iv p1, iv p2, iv 1, iv 1, .val (.long (((1 : Int32).toInt64) * ((1 : Int32).toInt64))), .second, rv b3, iv 1, iv 0, iv 1, .unset] [(.int 1), (.int 1)]) := fun t k => K t (XS.iconst X9.here hx rfl (hb hby at_181) k)
      replace K : OGo p e below A0 T9 (mkF m 189 #[iv p1, iv p2, iv 1, iv 1, .val (.long (((1 : Int32).toInt64) * ((1 : Int32).toInt64))), .second, rv b3, iv 1, iv 0, iv 1, .unset] []) := fun t k => K t (XS.icmpYes X9.here hx rfl (pc0 := 182) (pc' := 189) rfl (hb hby at_182) rfl (flt ((by decide : ¬ ((1 : Int32) < (1 : Int32))) : ¬ ((1 : Int32) < (1 : Int32)))).2.2.2 (by decide) (by decide) k)
      replace K : OGo p e below A0 T9 (mkF m 190 #[iv p1, iv p2, iv 1, iv 1, .val (.long (((1 : Int32).toInt64) * ((1 : Int32).toInt64))), .second, rv b3, iv 1, iv 0, iv 1, .unset] [(.int 0)]) := fun t k => K t (XS.iconst X9.here hx rfl (hb hby at_189) k)
      replace K : OGo p e below A0 T9 (mkF m 191 #[iv p1, iv p2, iv 1, iv 1, .val (.long (((1 : Int32).toInt64) * ((1 : Int32).toInt64))), .second, rv b3, iv 1, iv 0, iv 1, .unset] [(.int 1), (.int 0)]) := fun t k => K t (XS.iloadN X9.here hx rfl (hb hby at_190) rfl k)
      replace K : OGo p e below A0 T9 (mkF m 192 #[iv p1, iv p2, iv 1, iv 1, .val (.long (((1 : Int32).toInt64) * ((1 : Int32).toInt64))), .second, rv b3, iv 1, iv 0, iv 1, .unset] [(.int 1), (.int 1), (.int 0)]) := fun t k => K t (XS.iconst X9.here hx rfl (hb hby at_191) k)
      replace K : OGo p e below A0 T9 (mkF m 199 #[iv p1, iv p2, iv 1, iv 1, .val (.long (((1 : Int32).toInt64) * ((1 : Int32).toInt64))), .second, rv b3, iv 1, iv 0, iv 1, .unset] [(.int 0)]) := fun t k => K t (XS.icmpYes X9.here hx rfl (pc0 := 192) (pc' := 199) rfl (hb hby at_192) rfl (flt ((by decide : ¬ ((1 : Int32) < (1 : Int32))) : ¬ ((1 : Int32) < (1 : Int32)))).2.2.2 (by decide) (by decide) k)
      replace K : OGo p e below A0 T9 (mkF m 200 #[iv p1, iv p2, iv 1, iv 1, .val (.long (((1 : Int32).toInt64) * ((1 : Int32).toInt64))), .second, rv b3, iv 1, iv 0, iv 1, .unset] [(.int 0), (.int 0)]) := fun t k => K t (XS.iconst X9.here hx rfl (hb hby at_199) k)
      replace K : OGo p e below A0 T9 (mkF m 201 #[iv p1, iv p2, iv 1, iv 1, .val (.long (((1 : Int32).toInt64) * ((1 : Int32).toInt64))), .second, rv b3, iv 1, iv 0, iv 1, .unset] [(.int 0)]) := fun t k => K t (XS.iadd X9.here hx rfl (hb hby at_200) rfl k)
      replace K : OGo p e below A0 T9 (mkF m 203 #[iv p1, iv p2, iv 1, iv 1, .val (.long (((1 : Int32).toInt64) * ((1 : Int32).toInt64))), .second, rv b3, iv 1, iv 0, iv 1, iv 0] []) := fun t k => K t (XS.istore X9.here hx rfl (hb hby at_201) rfl (l' := #[iv p1, iv p2, iv 1, iv 1, .val (.long (((1 : Int32).toInt64) * ((1 : Int32).toInt64))), .second, rv b3, iv 1, iv 0, iv 1, iv 0]) rfl k)
      replace K : OGo p e below A0 T9 (mkF m 205 #[iv p1, iv p2, iv 1, iv 1, .val (.long (((1 : Int32).toInt64) * ((1 : Int32).toInt64))), .second, rv b3, iv 1, iv 0, iv 1, iv 0] [(.int 1)]) := fun t k => K t (XS.iload X9.here hx rfl (hb hby at_203) rfl k)
      replace K : OGo p e below A0 T9 (mkF m 208 #[iv p1, iv p2, iv 1, iv 1, .val (.long (((1 : Int32).toInt64) * ((1 : Int32).toInt64))), .second, rv b3, iv 1, iv 0, iv 1, iv 0] []) := fun t k => K t (XS.ifNo X9.here hx rfl (hb hby at_205) rfl ((if0 _ _).trans (feq ((by decide : ¬ ((1 : Int32) = (0 : Int32))) : ¬ ((1 : Int32) = (0 : Int32)))).1) k)
      replace K : OGo p e below A0 T9 (mkF m 210 #[iv p1, iv p2, iv 1, iv 1, .val (.long (((1 : Int32).toInt64) * ((1 : Int32).toInt64))), .second, rv b3, iv 1, iv 0, iv 1, iv 0] [(.ref b3)]) := fun t k => K t (XS.aload X9.here hx rfl (hb hby at_208) rfl rfl k)
      obtain ⟨cq10, kq10, qv10a, qv10b, qv10c⟩ := isOf hZ e9 P9_0
      obtain ⟨_, _, ⟨T10, L10, k10, n10⟩, -, X10, ⟨Lc10, hQ10, l10, y10, z10⟩, st10⟩ := X9.virtualBack hx (y := mN5) (z := mN5) hown (mvT hZ (ow hw 52 rfl)) (mvT hZ (ow hw 53 rfl)) (notFace_of_selects (args := #[]) (mvT hZ (ow hw 55 rfl))) (mvT hZ (ow hw 55 rfl)) (mvT hZ (ow hw 54 rfl)) (by decide) (backOf (W := 0) (rm_fewest l Z a0 hw [] b3 (1 : Int32) (0 : Int32) hp9 n0 Z9 P9_5 P9_3) hZ (ow hw 56 rfl) (ow hw 7 rfl) (by decide) (by decide)) qv10a qv10c (g := (mkF m 210 #[iv p1, iv p2, iv 1, iv 1, .val (.long (((1 : Int32).toInt64) * ((1 : Int32).toInt64))), .second, rv b3, iv 1, iv 0, iv 1, iv 0] [(.ref b3)])) rfl (by rw [hml]; rfl) (Steps.refl _) (argsL := []) (rest := []) (lenOf pd___I rfl) rfl (by show 2 * 0 + _ ≤ _; exact Nat.le_of_eq rfl) (hb hby at_210) (fun _ _ => ⟨rfl, e9, (by decide : 5 + 0 ≤ _), (by decide : 40 + 0 ≤ _)⟩)
      dsimp only [Pt.U, Pt.locs, Pt.cells, Pt.slots] at X10 l10 y10 z10 st10 hQ10
      subst l10 y10 z10
      obtain ⟨rfl, Nq10, e10⟩ := hQ10
      have N10 := Fr.app N9 Nq10
      replace K : OGo p e below A0 T10 (mkF m 213 #[iv p1, iv p2, iv 1, iv 1, .val (.long (((1 : Int32).toInt64) * ((1 : Int32).toInt64))), .second, rv b3, iv 1, iv 0, iv 1, iv 0] [(.int (own_max (1 : Int32) ((0 : Int32) + (1 : Int32))))]) := fun t k => K t (st10.trans k)
      replace K : OGo p e below A0 T10 (mkF m 215 #[iv p1, iv p2, iv 1, iv 1, .val (.long (((1 : Int32).toInt64) * ((1 : Int32).toInt64))), .second, rv b3, iv 1, iv 0, iv 1, iv 0] [(.int 1), (.int (own_max (1 : Int32) ((0 : Int32) + (1 : Int32))))]) := fun t k => K t (XS.iload X10.here hx rfl (hb hby at_213) rfl k)
      replace K : OGo p e below A0 T10 (mkF m 217 #[iv p1, iv p2, iv 1, iv 1, .val (.long (((1 : Int32).toInt64) * ((1 : Int32).toInt64))), .second, rv b3, iv 1, iv 0, iv 1, iv 0] [(.int 0), (.int 1), (.int (own_max (1 : Int32) ((0 : Int32) + (1 : Int32))))]) := fun t k => K t (XS.iload X10.here hx rfl (hb hby at_215) rfl k)
      replace K : OGo p e below A0 T10 (mkF m 218 #[iv p1, iv p2, iv 1, iv 1, .val (.long (((1 : Int32).toInt64) * ((1 : Int32).toInt64))), .second, rv b3, iv 1, iv 0, iv 1, iv 0] [(.int 1), (.int 0), (.int 1), (.int (own_max (1 : Int32) ((0 : Int32) + (1 : Int32))))]) := fun t k => K t (XS.iconst X10.here hx rfl (hb hby at_217) k)
      replace K : OGo p e below A0 T10 (mkF m 219 #[iv p1, iv p2, iv 1, iv 1, .val (.long (((1 : Int32).toInt64) * ((1 : Int32).toInt64))), .second, rv b3, iv 1, iv 0, iv 1, iv 0] [(.int 1), (.int 1), (.int (own_max (1 : Int32) ((0 : Int32) + (1 : Int32))))]) := fun t k => K t (XS.iadd X10.here hx rfl (hb hby at_218) rfl k)
      obtain ⟨_, _, ⟨T11, L11, k11, n11⟩, -, X11, ⟨Lc11, hQ11, l11, y11, z11⟩, st11⟩ := Jvm.LawKit.callS X10 hx (y := mN1) hown (mvT hZ (ow hw 61 rfl)) (mvT hZ (ow hw 58 rfl)) (mvT hZ (ow hw 59 rfl)) (mvT hZ (ow hw 60 rfl)) (by decide) (backOf (W := 1) (rm_max l Z a0 hw [] (1 : Int32) (1 : Int32) hp9 n0 Z9 ) hZ (ow hw 60 rfl) (ow hw 59 rfl) (by decide) (by decide)) (g := (mkF m 219 #[iv p1, iv p2, iv 1, iv 1, .val (.long (((1 : Int32).toInt64) * ((1 : Int32).toInt64))), .second, rv b3, iv 1, iv 0, iv 1, iv 0] [(.int 1), (.int 1), (.int (own_max (1 : Int32) ((0 : Int32) + (1 : Int32))))])) rfl (by rw [hml]; rfl) (argsL := [(.int (1 : Int32)), (.int (1 : Int32))]) (rest := [(.int (own_max (1 : Int32) ((0 : Int32) + (1 : Int32))))]) (lenOf pd__II_I rfl) rfl (by show 2 * 0 + _ ≤ _; exact Nat.le_of_eq rfl) (hb hby at_219) (fun _ _ => ⟨rfl, e10, (by decide : 5 + 0 ≤ _), (by decide : 40 + 0 ≤ _)⟩)
      dsimp only [Pt.U, Pt.locs, Pt.cells, Pt.slots] at X11 l11 y11 z11 st11 hQ11
      subst l11 y11 z11
      obtain ⟨rfl, Nq11, e11⟩ := hQ11
      have N11 := Fr.app N10 Nq11
      replace K : OGo p e below A0 T11 (mkF m 222 #[iv p1, iv p2, iv 1, iv 1, .val (.long (((1 : Int32).toInt64) * ((1 : Int32).toInt64))), .second, rv b3, iv 1, iv 0, iv 1, iv 0] [(.int (own_max (1 : Int32) (1 : Int32))), (.int (own_max (1 : Int32) ((0 : Int32) + (1 : Int32))))]) := fun t k => K t (st11 t k)
      replace K : OGo p e below A0 T11 (mkF m 225 #[iv p1, iv p2, iv 1, iv 1, .val (.long (((1 : Int32).toInt64) * ((1 : Int32).toInt64))), .second, rv b3, iv 1, iv 0, iv 1, iv 0] []) := fun t k => K t (XS.icmpNo X11.here hx rfl (hb hby at_222) rfl (teq ((by decide) : (own_max (1 : Int32) ((0 : Int32) + (1 : Int32))) = (own_max (1 : Int32) (1 : Int32)))).2 k)
      replace K : OGo p e below A0 T11 (mkF m 226 #[iv p1, iv p2, iv 1, iv 1, .val (.long (((1 : Int32).toInt64) * ((1 : Int32).toInt64))), .second, rv b3, iv 1, iv 0, iv 1, iv 0] [(.int 1)]) := fun t k => K t (XS.iconst X11.here hx rfl (hb hby at_225) k)
      replace K : OGo p e below A0 T11 (mkF m 230 #[iv p1, iv p2, iv 1, iv 1, .val (.long (((1 : Int32).toInt64) * ((1 : Int32).toInt64))), .second, rv b3, iv 1, iv 0, iv 1, iv 0] [(.int 1)]) := fun t k => K t (XS.goto X11.here hx rfl (pc0 := 226) (pc' := 230) rfl (hb hby at_226) (by decide) (by decide) k)
      replace K : OGo p e below A0 T11 (mkF m 232 #[iv p1, iv p2, iv 1, iv 1, .val (.long (((1 : Int32).toInt64) * ((1 : Int32).toInt64))), .second, rv b3, iv 1, iv 0, iv 1, iv 0] []) := fun t k => K t (XS.istore X11.here hx rfl (hb hby at_230) rfl (l' := #[iv p1, iv p2, iv 1, iv 1, .val (.long (((1 : Int32).toInt64) * ((1 : Int32).toInt64))), .second, rv b3, iv 1, iv 0, iv 1, iv 0]) rfl k)
      replace K : OGo p e below A0 T11 (mkF m 234 #[iv p1, iv p2, iv 1, iv 1, .val (.long (((1 : Int32).toInt64) * ((1 : Int32).toInt64))), .second, rv b3, iv 1, iv 0, iv 1, iv 0] [(.int 1)]) := fun t k => K t (XS.iload X11.here hx rfl (hb hby at_232) rfl k)
      obtain ⟨fs, hr, hrun, hended, hW, hsame⟩ := X11.leave (v := some (.int (1 : Int32))) (fun h => by rw [Bd.returns] at h; cases h)
      subst hA0
      refine ⟨_, _, K _ (retN X11 hx (t := .boolean) Bd.returns (by simp) (hb hby at_234) hr), hrun, hended, _, _, rfl, ?_, ⟨_, rfl⟩, hW, hsame.mono (by decide) (by decide)⟩
      show Q_law Z p1 p2 h0 n0 _ T11.heap _
      rw [e11]
      exact ⟨rfl, N11⟩
    · replace hnb := own_ge hnb hb1 (by decide)
      by_cases hb2 : b = (2 : Int32)
      · subst hb2
        replace K : OGo p e below A0 T2 (mkF m 11 #[iv p1, iv p2, iv 1, iv 2, .unset, .unset, .unset, .unset, .unset, .unset, .unset] [(.int 1)]) := fun t k => K t (XS.iloadN X2.here hx rfl (hb hby at_10) rfl k)
        replace K : OGo p e below A0 T2 (mkF m 12 #[iv p1, iv p2, iv 1, iv 2, .unset, .unset, .unset, .unset, .unset, .unset, .unset] [(.long ((1 : Int32).toInt64))]) := fun t k => K t (XS.i2l X2.here hx rfl (hb hby at_11) rfl k)
        replace K : OGo p e below A0 T2 (mkF m 13 #[iv p1, iv p2, iv 1, iv 2, .unset, .unset, .unset, .unset, .unset, .unset, .unset] [(.int 2), (.long ((1 : Int32).toInt64))]) := fun t k => K t (XS.iloadN X2.here hx rfl (hb hby at_12) rfl k)
        replace K : OGo p e below A0 T2 (mkF m 14 #[iv p1, iv p2, iv 1, iv 2, .unset, .unset, .unset, .unset, .unset, .unset, .unset] [(.long ((2 : Int32).toInt64)), (.long ((1 : Int32).toInt64))]) := fun t k => K t (XS.i2l X2.here hx rfl (hb hby at_13) rfl k)
        replace K : OGo p e below A0 T2 (mkF m 15 #[iv p1, iv p2, iv 1, iv 2, .unset, .unset, .unset, .unset, .unset, .unset, .unset] [(.long (((1 : Int32).toInt64) * ((2 : Int32).toInt64)))]) := fun t k => K t (XS.lmul X2.here hx rfl (hb hby at_14) rfl k)
        replace K : OGo p e below A0 T2 (mkF m 17 #[iv p1, iv p2, iv 1, iv 2, .val (.long (((1 : Int32).toInt64) * ((2 : Int32).toInt64))), .second, .unset, .unset, .unset, .unset, .unset] []) := fun t k => K t (XS.lstore X2.here hx rfl (hb hby at_15) rfl (l' := #[iv p1, iv p2, iv 1, iv 2, .val (.long (((1 : Int32).toInt64) * ((2 : Int32).toInt64))), .second, .unset, .unset, .unset, .unset, .unset]) rfl k)
        obtain ⟨T12, h12, X12, e12, E12, A12, D12, -, st12⟩ := newO X2 hx hZ hown (ow hw 5 rfl) (ow hw 6 rfl) (ow hw 7 rfl) e2 (g := (mkF m 17 #[iv p1, iv p2, iv 1, iv 2, .val (.long (((1 : Int32).toInt64) * ((2 : Int32).toInt64))), .second, .unset, .unset, .unset, .unset, .unset] [])) rfl (hb hby at_17) (by decide) (by decide)
        obtain ⟨b12, gz12⟩ : ∃ z, z = h0.size := ⟨_, rfl⟩
        rw [← gz12] at A12 D12 st12
        have g_b12 : n0 ≤ b12 := Nat.le_trans Z0 (Nat.le_of_eq gz12.symm)
        have Z12 : n0 ≤ h12.size := Nat.le_trans Z0 E12.1
        have F_taken_b12 : Fld Z h12 b12 cN0 "taken" "[I" .null := D12 (Or.inl (ow hw 16 rfl)) (ty := (.array .int)) (by decide)
        have F_counts_b12 : Fld Z h12 b12 cN0 "counts" "[I" .null := D12 (Or.inl (ow hw 18 rfl)) (ty := (.array .int)) (by decide)
        have F_values_b12 : Fld Z h12 b12 cN0 "values" "[I" .null := D12 (Or.inl (ow hw 20 rfl)) (ty := (.array .int)) (by decide)
        have F_types_b12 : Fld Z h12 b12 cN0 "types" cN1 .null := D12 (Or.inl (ow hw 24 rfl)) (ty := (.array (.object "com/example/flote/flote/program/Type"))) (by decide)
        have F_met_b12 : Fld Z h12 b12 cN0 "met" "I" (.int (0 : Int32)) := D12 (Or.inl (ow hw 31 rfl)) (ty := .int) (by decide)
        have F_repeated_b12 : Fld Z h12 b12 cN0 "repeated" "I" (.int (0 : Int32)) := D12 (Or.inl (ow hw 33 rfl)) (ty := .int) (by decide)
        have F_branches_b12 : Fld Z h12 b12 cN0 "branches" "I" (.int (0 : Int32)) := D12 (Or.inl (ow hw 35 rfl)) (ty := .int) (by decide)
        have F_computed_b12 : Fld Z h12 b12 cN0 "computed" "I" (.int (0 : Int32)) := D12 (Or.inl (ow hw 37 rfl)) (ty := .int) (by decide)
        replace K : OGo p e below A0 T12 (mkF m 20 #[iv p1, iv p2, iv 1, iv 2, .val (.long (((1 : Int32).toInt64) * ((2 : Int32).toInt64))), .second, .unset, .unset, .unset, .unset, .unset] [(.ref b12)]) := fun t k => K t (st12 t k)
        replace K : OGo p e below A0 T12 (mkF m 21 #[iv p1, iv p2, iv 1, iv 2, .val (.long (((1 : Int32).toInt64) * ((2 : Int32).toInt64))), .second, .unset, .unset, .unset, .unset, .unset] [(.ref b12), (.ref b12)]) := fun t k => K t (XS.dup X12.here hx rfl (hb hby at_20) rfl rfl k)
        obtain ⟨_, _, ⟨T13, L13, k13, n13⟩, -, X13, ⟨Lc13, hQ13, l13, y13, z13⟩, st13⟩ := X12.specialBack hx (y := mN2) rfl hown (mvT hZ (ow hw 8 rfl)) (mvT hZ (ow hw 9 rfl)) (mvT hZ (ow hw 10 rfl)) (by decide) (backOf (W := 1) (rm_init l Z a0 hw [] b12 h12 n0 Z12 A12 F_taken_b12 F_counts_b12 F_values_b12 F_types_b12 F_met_b12 F_repeated_b12 F_branches_b12 F_computed_b12 g_b12) hZ (ow hw 10 rfl) (ow hw 7 rfl) (by decide) (by decide)) (g := (mkF m 21 #[iv p1, iv p2, iv 1, iv 2, .val (.long (((1 : Int32).toInt64) * ((2 : Int32).toInt64))), .second, .unset, .unset, .unset, .unset, .unset] [(.ref b12), (.ref b12)])) rfl (by rw [hml]; rfl) (Steps.refl _) (a := b12) (argsL := []) (rest := [(.ref b12)]) (lenOf pd___V rfl) rfl (by show 2 * 0 + _ ≤ _; exact Nat.le_of_eq rfl) (hb hby at_21) (fun _ _ => ⟨rfl, e12, (by decide : 1 + 4 ≤ _), (by decide : 8 + 32 ≤ _)⟩)
        dsimp only [Pt.U, Pt.locs, Pt.cells, Pt.slots] at X13 l13 y13 z13 st13 hQ13
        subst l13 y13 z13
        obtain ⟨hp13, e13⟩ : ∃ z, T13.heap = z := ⟨_, rfl⟩
        rw [e13] at hQ13
        obtain ⟨rfl, Nq13, ta_13, ca_13, kt_13, kc_13, K13, P13_0, P13_1, P13_2, P13_3, P13_4, P13_5, P13_6, P13_7, P13_8, P13_9, P13_10, P13_11⟩ := hQ13
        have ne_b12_ta_13 : b12 ≠ ta_13 := Nat.ne_of_lt (Nat.lt_of_lt_of_le A12.lt P13_0)
        have g_ta_13 : n0 ≤ ta_13 := Nat.le_trans Z12 P13_0
        have ne_b12_ca_13 : b12 ≠ ca_13 := Nat.ne_of_lt (Nat.lt_of_lt_of_le A12.lt P13_1)
        have g_ca_13 : n0 ≤ ca_13 := Nat.le_trans Z12 P13_1
        have Z13 : n0 ≤ hp13.size := Nat.le_trans Z12 K13.1
        have N13 := Fr.app N2 Nq13
        replace K : OGo p e below A0 T13 (mkF m 24 #[iv p1, iv p2, iv 1, iv 2, .val (.long (((1 : Int32).toInt64) * ((2 : Int32).toInt64))), .second, .unset, .unset, .unset, .unset, .unset] [(.ref b12)]) := fun t k => K t (st13.trans k)
        replace K : OGo p e below A0 T13 (mkF m 26 #[iv p1, iv p2, iv 1, iv 2, .val (.long (((1 : Int32).toInt64) * ((2 : Int32).toInt64))), .second, rv b12, .unset, .unset, .unset, .unset] []) := fun t k => K t (XS.astore X13.here hx rfl (hb hby at_24) rfl rfl (l' := #[iv p1, iv p2, iv 1, iv 2, .val (.long (((1 : Int32).toInt64) * ((2 : Int32).toInt64))), .second, rv b12, .unset, .unset, .unset, .unset]) rfl k)
        replace K : OGo p e below A0 T13 (mkF m 28 #[iv p1, iv p2, iv 1, iv 2, .val (.long (((1 : Int32).toInt64) * ((2 : Int32).toInt64))), .second, rv b12, .unset, .unset, .unset, .unset] [(.ref b12)]) := fun t k => K t (XS.aload X13.here hx rfl (hb hby at_26) rfl rfl k)
        obtain ⟨cq14, kq14, qv14a, qv14b, qv14c⟩ := isOf hZ e13 P13_3
        obtain ⟨_, _, ⟨T14, L14, k14, n14⟩, -, X14, ⟨Lc14, hQ14, l14, y14, z14⟩, st14⟩ := X13.virtualBack hx (y := mN3) (z := mN3) hown (mvT hZ (ow hw 25 rfl)) (mvT hZ (ow hw 26 rfl)) (notFace_of_selects (args := #[]) (mvT hZ (ow hw 28 rfl))) (mvT hZ (ow hw 28 rfl)) (mvT hZ (ow hw 27 rfl)) (by decide) (backOf (W := 0) (rm_begin l Z a0 hw [] b12 ta_13 ca_13 kt_13 kc_13 hp13 n0 Z13 P13_3 P13_4 P13_5 P13_6 P13_7 P13_8 P13_9 P13_10 P13_11 g_b12 ne_b12_ta_13 ne_b12_ca_13) hZ (ow hw 29 rfl) (ow hw 7 rfl) (by decide) (by decide)) qv14a qv14c (g := (mkF m 28 #[iv p1, iv p2, iv 1, iv 2, .val (.long (((1 : Int32).toInt64) * ((2 : Int32).toInt64))), .second, rv b12, .unset, .unset, .unset, .unset] [(.ref b12)])) rfl (by rw [hml]; rfl) (Steps.refl _) (argsL := []) (rest := []) (lenOf pd___V rfl) rfl (by show 2 * 0 + _ ≤ _; exact Nat.le_of_eq rfl) (hb hby at_28) (fun _ _ => ⟨rfl, e13, (by decide : 5 + 0 ≤ _), (by decide : 40 + 0 ≤ _)⟩)
        dsimp only [Pt.U, Pt.locs, Pt.cells, Pt.slots] at X14 l14 y14 z14 st14 hQ14
        subst l14 y14 z14
        obtain ⟨hp14, e14⟩ : ∃ z, T14.heap = z := ⟨_, rfl⟩
        rw [e14] at hQ14
        obtain ⟨rfl, Nq14, K14, P14_0, P14_1, P14_2, P14_3, P14_4, P14_5, P14_6⟩ := hQ14
        have Z14 : n0 ≤ hp14.size := Nat.le_trans Z13 K14.1
        have N14 := Fr.app N13 Nq14
        replace K : OGo p e below A0 T14 (mkF m 31 #[iv p1, iv p2, iv 1, iv 2, .val (.long (((1 : Int32).toInt64) * ((2 : Int32).toInt64))), .second, rv b12, .unset, .unset, .unset, .unset] []) := fun t k => K t (st14.trans k)
        replace K : OGo p e below A0 T14 (mkF m 33 #[iv p1, iv p2, iv 1, iv 2, .val (.long (((1 : Int32).toInt64) * ((2 : Int32).toInt64))), .second, rv b12, .unset, .unset, .unset, .unset] [(.ref b12)]) := fun t k => K t (XS.aload X14.here hx rfl (hb hby at_31) rfl rfl k)
        replace K : OGo p e below A0 T14 (mkF m 34 #[iv p1, iv p2, iv 1, iv 2, .val (.long (((1 : Int32).toInt64) * ((2 : Int32).toInt64))), .second, rv b12, .unset, .unset, .unset, .unset] [(.int 1), (.ref b12)]) := fun t k => K t (XS.iloadN X14.here hx rfl (hb hby at_33) rfl k)
        replace K : OGo p e below A0 T14 (mkF m 35 #[iv p1, iv p2, iv 1, iv 2, .val (.long (((1 : Int32).toInt64) * ((2 : Int32).toInt64))), .second, rv b12, .unset, .unset, .unset, .unset] [(.int 2), (.int 1), (.ref b12)]) := fun t k => K t (XS.iloadN X14.here hx rfl (hb hby at_34) rfl k)
        replace K : OGo p e below A0 T14 (mkF m 36 #[iv p1, iv p2, iv 1, iv 2, .val (.long (((1 : Int32).toInt64) * ((2 : Int32).toInt64))), .second, rv b12, .unset, .unset, .unset, .unset] [(.int 0), (.int 2), (.int 1), (.ref b12)]) := fun t k => K t (XS.iconst X14.here hx rfl (hb hby at_35) k)
        have V_ta_13_16 := (P13_10.keep K14 (ninS (Ne.symm ne_b12_ta_13) nin0))
        have V_ca_13_17 := (P13_11.keep K14 (ninS (Ne.symm ne_b12_ca_13) nin0))
        obtain ⟨_, _, ⟨T15, L15, k15, n15⟩, -, X15, ⟨Lc15, hQ15, l15, y15, z15⟩, st15⟩ := Jvm.LawKit.callS X14 hx (y := mN6) hown (mvT hZ (ow hw 38 rfl)) (mvT hZ (ow hw 39 rfl)) (mvT hZ (ow hw 2 rfl)) (mvT hZ (ow hw 40 rfl)) (by decide) (backOf (W := 0) (rm_bok_s12_0 l Z a0 hw [] b12 ta_13 ca_13 kt_13 kc_13 hp14 n0 Z14 P14_0 P14_1 P14_2 P14_3 P14_4 P14_5 P14_6 V_ta_13_16 V_ca_13_17 g_b12 g_ta_13 g_ca_13 ne_b12_ta_13 ne_b12_ca_13 P13_2) hZ (ow hw 40 rfl) (ow hw 2 rfl) (by decide) (by decide)) (g := (mkF m 36 #[iv p1, iv p2, iv 1, iv 2, .val (.long (((1 : Int32).toInt64) * ((2 : Int32).toInt64))), .second, rv b12, .unset, .unset, .unset, .unset] [(.int 0), (.int 2), (.int 1), (.ref b12)])) rfl (by rw [hml]; rfl) (argsL := [(.ref b12), (.int (1 : Int32)), (.int (2 : Int32)), (.int (0 : Int32))]) (rest := []) (lenOf pd__Lcom_example_flote_flote_program_Choices_III_Z rfl) rfl (by show 2 * 0 + _ ≤ _; exact Nat.le_of_eq rfl) (hb hby at_36) (fun _ _ => ⟨rfl, e14, (by decide : 5 + 0 ≤ _), (by decide : 40 + 0 ≤ _)⟩)
        dsimp only [Pt.U, Pt.locs, Pt.cells, Pt.slots] at X15 l15 y15 z15 st15 hQ15
        subst l15 y15 z15
        obtain ⟨hp15, e15⟩ : ∃ z, T15.heap = z := ⟨_, rfl⟩
        rw [e15] at hQ15
        obtain ⟨rfl, Nq15, K15, P15_0, P15_1, P15_2, P15_3, P15_4, P15_5, P15_6, P15_7, P15_8⟩ := hQ15
        have Z15 : n0 ≤ hp15.size := Nat.le_trans Z14 K15.1
        have N15 := Fr.app N14 Nq15
        replace K : OGo p e below A0 T15 (mkF m 39 #[iv p1, iv p2, iv 1, iv 2, .val (.long (((1 : Int32).toInt64) * ((2 : Int32).toInt64))), .second, rv b12, .unset, .unset, .unset, .unset] [(.int 1)]) := fun t k => K t (st15 t k)
        replace K : OGo p e below A0 T15 (mkF m 41 #[iv p1, iv p2, iv 1, iv 2, .val (.long (((1 : Int32).toInt64) * ((2 : Int32).toInt64))), .second, rv b12, iv 1, .unset, .unset, .unset] []) := fun t k => K t (XS.istore X15.here hx rfl (hb hby at_39) rfl (l' := #[iv p1, iv p2, iv 1, iv 2, .val (.long (((1 : Int32).toInt64) * ((2 : Int32).toInt64))), .second, rv b12, iv 1, .unset, .unset, .unset]) rfl k)
        replace K : OGo p e below A0 T15 (mkF m 43 #[iv p1, iv p2, iv 1, iv 2, .val (.long (((1 : Int32).toInt64) * ((2 : Int32).toInt64))), .second, rv b12, iv 1, .unset, .unset, .unset] [(.ref b12)]) := fun t k => K t (XS.aload X15.here hx rfl (hb hby at_41) rfl rfl k)
        obtain ⟨cq18, kq18, qv18a, qv18b, qv18c⟩ := isOf hZ e15 P15_0
        obtain ⟨_, _, ⟨T18, L18, k18, n18⟩, -, X18, ⟨Lc18, hQ18, l18, y18, z18⟩, st18⟩ := X15.virtualBack hx (y := mN7) (z := mN7) hown (mvT hZ (ow hw 46 rfl)) (mvT hZ (ow hw 47 rfl)) (notFace_of_selects (args := #[]) (mvT hZ (ow hw 49 rfl))) (mvT hZ (ow hw 49 rfl)) (mvT hZ (ow hw 48 rfl)) (by decide) (backOf (W := 0) (rm_nx_A_lit2 l Z a0 hw [] b12 ta_13 ca_13 kt_13 kc_13 hp15 n0 Z15 P15_0 P15_1 P15_2 P15_3 P15_4 P15_5 P15_6 P15_7 P15_8 g_b12 g_ta_13 g_ca_13 ne_b12_ta_13 ne_b12_ca_13 P13_2) hZ (ow hw 50 rfl) (ow hw 7 rfl) (by decide) (by decide)) qv18a qv18c (g := (mkF m 43 #[iv p1, iv p2, iv 1, iv 2, .val (.long (((1 : Int32).toInt64) * ((2 : Int32).toInt64))), .second, rv b12, iv 1, .unset, .unset, .unset] [(.ref b12)])) rfl (by rw [hml]; rfl) (Steps.refl _) (argsL := []) (rest := []) (lenOf pd___Z rfl) rfl (by show 2 * 0 + _ ≤ _; exact Nat.le_of_eq rfl) (hb hby at_43) (fun _ _ => ⟨rfl, e15, (by decide : 5 + 0 ≤ _), (by decide : 40 + 0 ≤ _)⟩)
        dsimp only [Pt.U, Pt.locs, Pt.cells, Pt.slots] at X18 l18 y18 z18 st18 hQ18
        subst l18 y18 z18
        obtain ⟨hp18, e18⟩ : ∃ z, T18.heap = z := ⟨_, rfl⟩
        rw [e18] at hQ18
        obtain ⟨rfl, Nq18, K18, P18_0, P18_1, P18_2, P18_3, P18_4, P18_5, P18_6, P18_7, P18_8⟩ := hQ18
        have Z18 : n0 ≤ hp18.size := Nat.le_trans Z15 K18.1
        have N18 := Fr.app N15 Nq18
        replace K : OGo p e below A0 T18 (mkF m 46 #[iv p1, iv p2, iv 1, iv 2, .val (.long (((1 : Int32).toInt64) * ((2 : Int32).toInt64))), .second, rv b12, iv 1, .unset, .unset, .unset] [(.int 1)]) := fun t k => K t (st18.trans k)
        replace K : OGo p e below A0 T18 (mkF m 48 #[iv p1, iv p2, iv 1, iv 2, .val (.long (((1 : Int32).toInt64) * ((2 : Int32).toInt64))), .second, rv b12, iv 1, iv 1, .unset, .unset] []) := fun t k => K t (XS.istore X18.here hx rfl (hb hby at_46) rfl (l' := #[iv p1, iv p2, iv 1, iv 2, .val (.long (((1 : Int32).toInt64) * ((2 : Int32).toInt64))), .second, rv b12, iv 1, iv 1, .unset, .unset]) rfl k)
        replace K : OGo p e below A0 T18 (mkF m 50 #[iv p1, iv p2, iv 1, iv 2, .val (.long (((1 : Int32).toInt64) * ((2 : Int32).toInt64))), .second, rv b12, iv 1, iv 1, .unset, .unset] [(.int 1)]) := fun t k => K t (XS.iload X18.here hx rfl (hb hby at_48) rfl k)
        replace K : OGo p e below A0 T18 (mkF m 53 #[iv p1, iv p2, iv 1, iv 2, .val (.long (((1 : Int32).toInt64) * ((2 : Int32).toInt64))), .second, rv b12, iv 1, iv 1, .unset, .unset] []) := fun t k => K t (XS.ifNo X18.here hx rfl (hb hby at_50) rfl ((if0 _ _).trans (feq ((by decide : ¬ ((1 : Int32) = (0 : Int32))) : ¬ ((1 : Int32) = (0 : Int32)))).1) k)
        replace K : OGo p e below A0 T18 (mkF m 55 #[iv p1, iv p2, iv 1, iv 2, .val (.long (((1 : Int32).toInt64) * ((2 : Int32).toInt64))), .second, rv b12, iv 1, iv 1, .unset, .unset] [(.int 1)]) := fun t k => K t (XS.iload X18.here hx rfl (hb hby at_53) rfl k)
        replace K : OGo p e below A0 T18 (mkF m 56 #[iv p1, iv p2, iv 1, iv 2, .val (.long (((1 : Int32).toInt64) * ((2 : Int32).toInt64))), .second, rv b12, iv 1, iv 1, .unset, .unset] [(.long 1), (.int 1)]) := fun t k => K t (XS.lconst X18.here hx rfl (hb hby at_55) k)
        replace K : OGo p e below A0 T18 (mkF m 58 #[iv p1, iv p2, iv 1, iv 2, .val (.long (((1 : Int32).toInt64) * ((2 : Int32).toInt64))), .second, rv b12, iv 1, iv 1, .unset, .unset] [(.long (((1 : Int32).toInt64) * ((2 : Int32).toInt64))), (.long 1), (.int 1)]) := fun t k => K t (XS.lload X18.here hx rfl (hb hby at_56) rfl k)
        replace K : OGo p e below A0 T18 (mkF m 59 #[iv p1, iv p2, iv 1, iv 2, .val (.long (((1 : Int32).toInt64) * ((2 : Int32).toInt64))), .second, rv b12, iv 1, iv 1, .unset, .unset] [(.int (lcmpW (1 : Int64) (((1 : Int32).toInt64) * ((2 : Int32).toInt64)))), (.int 1)]) := fun t k => K t (XS.lcmp X18.here hx rfl (hb hby at_58) rfl k)
        replace K : OGo p e below A0 T18 (mkF m 62 #[iv p1, iv p2, iv 1, iv 2, .val (.long (((1 : Int32).toInt64) * ((2 : Int32).toInt64))), .second, rv b12, iv 1, iv 1, .unset, .unset] [(.int 1)]) := fun t k => K t (XS.ifNo X18.here hx rfl (hb hby at_59) rfl ((if0 _ _).trans (tlt ((lw_lt (1 : Int64) (((1 : Int32).toInt64) * ((2 : Int32).toInt64))).mpr ((by decide) : (1 : Int64) < (((1 : Int32).toInt64) * ((2 : Int32).toInt64))))).2.1) k)
        replace K : OGo p e below A0 T18 (mkF m 63 #[iv p1, iv p2, iv 1, iv 2, .val (.long (((1 : Int32).toInt64) * ((2 : Int32).toInt64))), .second, rv b12, iv 1, iv 1, .unset, .unset] [(.int 1), (.int 1)]) := fun t k => K t (XS.iconst X18.here hx rfl (hb hby at_62) k)
        replace K : OGo p e below A0 T18 (mkF m 67 #[iv p1, iv p2, iv 1, iv 2, .val (.long (((1 : Int32).toInt64) * ((2 : Int32).toInt64))), .second, rv b12, iv 1, iv 1, .unset, .unset] [(.int 1), (.int 1)]) := fun t k => K t (XS.goto X18.here hx rfl (pc0 := 63) (pc' := 67) rfl (hb hby at_63) (by decide) (by decide) k)
        replace K : OGo p e below A0 T18 (mkF m 70 #[iv p1, iv p2, iv 1, iv 2, .val (.long (((1 : Int32).toInt64) * ((2 : Int32).toInt64))), .second, rv b12, iv 1, iv 1, .unset, .unset] []) := fun t k => K t (XS.icmpNo X18.here hx rfl (hb hby at_67) rfl (teq ((by decide : (1 : Int32) = (1 : Int32)) : (1 : Int32) = (1 : Int32))).2 k)
        replace K : OGo p e below A0 T18 (mkF m 71 #[iv p1, iv p2, iv 1, iv 2, .val (.long (((1 : Int32).toInt64) * ((2 : Int32).toInt64))), .second, rv b12, iv 1, iv 1, .unset, .unset] [(.int 1)]) := fun t k => K t (XS.iconst X18.here hx rfl (hb hby at_70) k)
        replace K : OGo p e below A0 T18 (mkF m 75 #[iv p1, iv p2, iv 1, iv 2, .val (.long (((1 : Int32).toInt64) * ((2 : Int32).toInt64))), .second, rv b12, iv 1, iv 1, .unset, .unset] [(.int 1)]) := fun t k => K t (XS.goto X18.here hx rfl (pc0 := 71) (pc' := 75) rfl (hb hby at_71) (by decide) (by decide) k)
        replace K : OGo p e below A0 T18 (mkF m 77 #[iv p1, iv p2, iv 1, iv 2, .val (.long (((1 : Int32).toInt64) * ((2 : Int32).toInt64))), .second, rv b12, iv 1, iv 1, .unset, .unset] []) := fun t k => K t (XS.istore X18.here hx rfl (hb hby at_75) rfl (l' := #[iv p1, iv p2, iv 1, iv 2, .val (.long (((1 : Int32).toInt64) * ((2 : Int32).toInt64))), .second, rv b12, iv 1, iv 1, .unset, .unset]) rfl k)
        replace K : OGo p e below A0 T18 (mkF m 78 #[iv p1, iv p2, iv 1, iv 2, .val (.long (((1 : Int32).toInt64) * ((2 : Int32).toInt64))), .second, rv b12, iv 1, iv 1, .unset, .unset] [(.int 1)]) := fun t k => K t (XS.iconst X18.here hx rfl (hb hby at_77) k)
        replace K : OGo p e below A0 T18 (mkF m 80 #[iv p1, iv p2, iv 1, iv 2, .val (.long (((1 : Int32).toInt64) * ((2 : Int32).toInt64))), .second, rv b12, iv 1, iv 1, iv 1, .unset] []) := fun t k => K t (XS.istore X18.here hx rfl (hb hby at_78) rfl (l' := #[iv p1, iv p2, iv 1, iv 2, .val (.long (((1 : Int32).toInt64) * ((2 : Int32).toInt64))), .second, rv b12, iv 1, iv 1, iv 1, .unset]) rfl k)
        replace K : OGo p e below A0 T18 (mkF m 82 #[iv p1, iv p2, iv 1, iv 2, .val (.long (((1 : Int32).toInt64) * ((2 : Int32).toInt64))), .second, rv b12, iv 1, iv 1, iv 1, .unset] [(.int 1)]) := fun t k => K t (XS.iload X18.here hx rfl (hb hby at_80) rfl k)
        replace K : OGo p e below A0 T18 (mkF m 85 #[iv p1, iv p2, iv 1, iv 2, .val (.long (((1 : Int32).toInt64) * ((2 : Int32).toInt64))), .second, rv b12, iv 1, iv 1, iv 1, .unset] []) := fun t k => K t (XS.ifNo X18.here hx rfl (hb hby at_82) rfl ((if0 _ _).trans (feq ((by decide : ¬ ((1 : Int32) = (0 : Int32))) : ¬ ((1 : Int32) = (0 : Int32)))).1) k)
        replace K : OGo p e below A0 T18 (mkF m 87 #[iv p1, iv p2, iv 1, iv 2, .val (.long (((1 : Int32).toInt64) * ((2 : Int32).toInt64))), .second, rv b12, iv 1, iv 1, iv 1, .unset] [(.int 1)]) := fun t k => K t (XS.iload X18.here hx rfl (hb hby at_85) rfl k)
        replace K : OGo p e below A0 T18 (mkF m 90 #[iv p1, iv p2, iv 1, iv 2, .val (.long (((1 : Int32).toInt64) * ((2 : Int32).toInt64))), .second, rv b12, iv 1, iv 1, iv 1, .unset] []) := fun t k => K t (XS.ifNo X18.here hx rfl (hb hby at_87) rfl ((if0 _ _).trans (feq ((by decide : ¬ ((1 : Int32) = (0 : Int32))) : ¬ ((1 : Int32) = (0 : Int32)))).1) k)
        replace K : OGo p e below A0 T18 (mkF m 92 #[iv p1, iv p2, iv 1, iv 2, .val (.long (((1 : Int32).toInt64) * ((2 : Int32).toInt64))), .second, rv b12, iv 1, iv 1, iv 1, .unset] [(.ref b12)]) := fun t k => K t (XS.aload X18.here hx rfl (hb hby at_90) rfl rfl k)
        replace K : OGo p e below A0 T18 (mkF m 93 #[iv p1, iv p2, iv 1, iv 2, .val (.long (((1 : Int32).toInt64) * ((2 : Int32).toInt64))), .second, rv b12, iv 1, iv 1, iv 1, .unset] [(.int 1), (.ref b12)]) := fun t k => K t (XS.iloadN X18.here hx rfl (hb hby at_92) rfl k)
        replace K : OGo p e below A0 T18 (mkF m 94 #[iv p1, iv p2, iv 1, iv 2, .val (.long (((1 : Int32).toInt64) * ((2 : Int32).toInt64))), .second, rv b12, iv 1, iv 1, iv 1, .unset] [(.int 2), (.int 1), (.ref b12)]) := fun t k => K t (XS.iloadN X18.here hx rfl (hb hby at_93) rfl k)
        replace K : OGo p e below A0 T18 (mkF m 95 #[iv p1, iv p2, iv 1, iv 2, .val (.long (((1 : Int32).toInt64) * ((2 : Int32).toInt64))), .second, rv b12, iv 1, iv 1, iv 1, .unset] [(.int 1), (.int 2), (.int 1), (.ref b12)]) := fun t k => K t (XS.iconst X18.here hx rfl (hb hby at_94) k)
        obtain ⟨_, _, ⟨T19, L19, k19, n19⟩, -, X19, ⟨Lc19, hQ19, l19, y19, z19⟩, st19⟩ := Jvm.LawKit.callS X18 hx (y := mN6) hown (mvT hZ (ow hw 38 rfl)) (mvT hZ (ow hw 39 rfl)) (mvT hZ (ow hw 2 rfl)) (mvT hZ (ow hw 40 rfl)) (by decide) (backOf (W := 0) (rm_bok_s12_1 l Z a0 hw [] b12 ta_13 ca_13 kt_13 kc_13 hp18 n0 Z18 P18_0 P18_1 P18_2 P18_3 P18_4 P18_5 P18_6 P18_7 P18_8 g_b12 g_ta_13 g_ca_13 ne_b12_ta_13 ne_b12_ca_13 P13_2) hZ (ow hw 40 rfl) (ow hw 2 rfl) (by decide) (by decide)) (g := (mkF m 95 #[iv p1, iv p2, iv 1, iv 2, .val (.long (((1 : Int32).toInt64) * ((2 : Int32).toInt64))), .second, rv b12, iv 1, iv 1, iv 1, .unset] [(.int 1), (.int 2), (.int 1), (.ref b12)])) rfl (by rw [hml]; rfl) (argsL := [(.ref b12), (.int (1 : Int32)), (.int (2 : Int32)), (.int (1 : Int32))]) (rest := []) (lenOf pd__Lcom_example_flote_flote_program_Choices_III_Z rfl) rfl (by show 2 * 0 + _ ≤ _; exact Nat.le_of_eq rfl) (hb hby at_95) (fun _ _ => ⟨rfl, e18, (by decide : 5 + 0 ≤ _), (by decide : 40 + 0 ≤ _)⟩)
        dsimp only [Pt.U, Pt.locs, Pt.cells, Pt.slots] at X19 l19 y19 z19 st19 hQ19
        subst l19 y19 z19
        obtain ⟨hp19, e19⟩ : ∃ z, T19.heap = z := ⟨_, rfl⟩
        rw [e19] at hQ19
        obtain ⟨rfl, Nq19, K19, P19_0, P19_1, P19_2, P19_3, P19_4, P19_5, P19_6, P19_7, P19_8⟩ := hQ19
        have Z19 : n0 ≤ hp19.size := Nat.le_trans Z18 K19.1
        have N19 := Fr.app N18 Nq19
        replace K : OGo p e below A0 T19 (mkF m 98 #[iv p1, iv p2, iv 1, iv 2, .val (.long (((1 : Int32).toInt64) * ((2 : Int32).toInt64))), .second, rv b12, iv 1, iv 1, iv 1, .unset] [(.int 1)]) := fun t k => K t (st19 t k)
        replace K : OGo p e below A0 T19 (mkF m 101 #[iv p1, iv p2, iv 1, iv 2, .val (.long (((1 : Int32).toInt64) * ((2 : Int32).toInt64))), .second, rv b12, iv 1, iv 1, iv 1, .unset] []) := fun t k => K t (XS.ifNo X19.here hx rfl (hb hby at_98) rfl ((if0 _ _).trans (feq ((by decide : ¬ ((1 : Int32) = (0 : Int32))) : ¬ ((1 : Int32) = (0 : Int32)))).1) k)
        replace K : OGo p e below A0 T19 (mkF m 102 #[iv p1, iv p2, iv 1, iv 2, .val (.long (((1 : Int32).toInt64) * ((2 : Int32).toInt64))), .second, rv b12, iv 1, iv 1, iv 1, .unset] [(.int 1)]) := fun t k => K t (XS.iconst X19.here hx rfl (hb hby at_101) k)
        replace K : OGo p e below A0 T19 (mkF m 106 #[iv p1, iv p2, iv 1, iv 2, .val (.long (((1 : Int32).toInt64) * ((2 : Int32).toInt64))), .second, rv b12, iv 1, iv 1, iv 1, .unset] [(.int 1)]) := fun t k => K t (XS.goto X19.here hx rfl (pc0 := 102) (pc' := 106) rfl (hb hby at_102) (by decide) (by decide) k)
        replace K : OGo p e below A0 T19 (mkF m 108 #[iv p1, iv p2, iv 1, iv 2, .val (.long (((1 : Int32).toInt64) * ((2 : Int32).toInt64))), .second, rv b12, iv 1, iv 1, iv 1, .unset] []) := fun t k => K t (XS.istore X19.here hx rfl (hb hby at_106) rfl (l' := #[iv p1, iv p2, iv 1, iv 2, .val (.long (((1 : Int32).toInt64) * ((2 : Int32).toInt64))), .second, rv b12, iv 1, iv 1, iv 1, .unset]) rfl k)
        replace K : OGo p e below A0 T19 (mkF m 110 #[iv p1, iv p2, iv 1, iv 2, .val (.long (((1 : Int32).toInt64) * ((2 : Int32).toInt64))), .second, rv b12, iv 1, iv 1, iv 1, .unset] [(.ref b12)]) := fun t k => K t (XS.aload X19.here hx rfl (hb hby at_108) rfl rfl k)
        obtain ⟨cq20, kq20, qv20a, qv20b, qv20c⟩ := isOf hZ e19 P19_0
        obtain ⟨_, _, ⟨T20, L20, k20, n20⟩, -, X20, ⟨Lc20, hQ20, l20, y20, z20⟩, st20⟩ := X19.virtualBack hx (y := mN7) (z := mN7) hown (mvT hZ (ow hw 46 rfl)) (mvT hZ (ow hw 47 rfl)) (notFace_of_selects (args := #[]) (mvT hZ (ow hw 49 rfl))) (mvT hZ (ow hw 49 rfl)) (mvT hZ (ow hw 48 rfl)) (by decide) (backOf (W := 0) (rm_nx_B_lit2 l Z a0 hw [] b12 ta_13 ca_13 kt_13 kc_13 hp19 n0 Z19 P19_0 P19_1 P19_2 P19_3 P19_4 P19_5 P19_6 P19_7 P19_8 g_b12 g_ta_13 g_ca_13 ne_b12_ta_13 ne_b12_ca_13 P13_2) hZ (ow hw 50 rfl) (ow hw 7 rfl) (by decide) (by decide)) qv20a qv20c (g := (mkF m 110 #[iv p1, iv p2, iv 1, iv 2, .val (.long (((1 : Int32).toInt64) * ((2 : Int32).toInt64))), .second, rv b12, iv 1, iv 1, iv 1, .unset] [(.ref b12)])) rfl (by rw [hml]; rfl) (Steps.refl _) (argsL := []) (rest := []) (lenOf pd___Z rfl) rfl (by show 2 * 0 + _ ≤ _; exact Nat.le_of_eq rfl) (hb hby at_110) (fun _ _ => ⟨rfl, e19, (by decide : 5 + 0 ≤ _), (by decide : 40 + 0 ≤ _)⟩)
        dsimp only [Pt.U, Pt.locs, Pt.cells, Pt.slots] at X20 l20 y20 z20 st20 hQ20
        subst l20 y20 z20
        obtain ⟨hp20, e20⟩ : ∃ z, T20.heap = z := ⟨_, rfl⟩
        rw [e20] at hQ20
        obtain ⟨rfl, Nq20, K20, P20_0, P20_1, P20_2, P20_3, P20_4, P20_5, P20_6, P20_7, P20_8⟩ := hQ20
        have Z20 : n0 ≤ hp20.size := Nat.le_trans Z19 K20.1
        have N20 := Fr.app N19 Nq20
        replace K : OGo p e below A0 T20 (mkF m 113 #[iv p1, iv p2, iv 1, iv 2, .val (.long (((1 : Int32).toInt64) * ((2 : Int32).toInt64))), .second, rv b12, iv 1, iv 1, iv 1, .unset] [(.int 0)]) := fun t k => K t (st20.trans k)
        replace K : OGo p e below A0 T20 (mkF m 115 #[iv p1, iv p2, iv 1, iv 2, .val (.long (((1 : Int32).toInt64) * ((2 : Int32).toInt64))), .second, rv b12, iv 1, iv 1, iv 1, iv 0] []) := fun t k => K t (XS.istore X20.here hx rfl (hb hby at_113) rfl (l' := #[iv p1, iv p2, iv 1, iv 2, .val (.long (((1 : Int32).toInt64) * ((2 : Int32).toInt64))), .second, rv b12, iv 1, iv 1, iv 1, iv 0]) rfl k)
        replace K : OGo p e below A0 T20 (mkF m 117 #[iv p1, iv p2, iv 1, iv 2, .val (.long (((1 : Int32).toInt64) * ((2 : Int32).toInt64))), .second, rv b12, iv 1, iv 1, iv 1, iv 0] [(.int 1)]) := fun t k => K t (XS.iload X20.here hx rfl (hb hby at_115) rfl k)
        replace K : OGo p e below A0 T20 (mkF m 120 #[iv p1, iv p2, iv 1, iv 2, .val (.long (((1 : Int32).toInt64) * ((2 : Int32).toInt64))), .second, rv b12, iv 1, iv 1, iv 1, iv 0] []) := fun t k => K t (XS.ifNo X20.here hx rfl (hb hby at_117) rfl ((if0 _ _).trans (feq ((by decide : ¬ ((1 : Int32) = (0 : Int32))) : ¬ ((1 : Int32) = (0 : Int32)))).1) k)
        replace K : OGo p e below A0 T20 (mkF m 122 #[iv p1, iv p2, iv 1, iv 2, .val (.long (((1 : Int32).toInt64) * ((2 : Int32).toInt64))), .second, rv b12, iv 1, iv 1, iv 1, iv 0] [(.int 0)]) := fun t k => K t (XS.iload X20.here hx rfl (hb hby at_120) rfl k)
        replace K : OGo p e below A0 T20 (mkF m 125 #[iv p1, iv p2, iv 1, iv 2, .val (.long (((1 : Int32).toInt64) * ((2 : Int32).toInt64))), .second, rv b12, iv 1, iv 1, iv 1, iv 0] [(.long 2), (.int 0)]) := fun t k => K t (X20.ldc2Long hx hown (mvT hZ (ow hw 51 rfl)) (g := (mkF m 122 #[iv p1, iv p2, iv 1, iv 2, .val (.long (((1 : Int32).toInt64) * ((2 : Int32).toInt64))), .second, rv b12, iv 1, iv 1, iv 1, iv 0] [(.int 0)])) rfl (hb hby at_122) t k)
        replace K : OGo p e below A0 T20 (mkF m 127 #[iv p1, iv p2, iv 1, iv 2, .val (.long (((1 : Int32).toInt64) * ((2 : Int32).toInt64))), .second, rv b12, iv 1, iv 1, iv 1, iv 0] [(.long (((1 : Int32).toInt64) * ((2 : Int32).toInt64))), (.long 2), (.int 0)]) := fun t k => K t (XS.lload X20.here hx rfl (hb hby at_125) rfl k)
        replace K : OGo p e below A0 T20 (mkF m 128 #[iv p1, iv p2, iv 1, iv 2, .val (.long (((1 : Int32).toInt64) * ((2 : Int32).toInt64))), .second, rv b12, iv 1, iv 1, iv 1, iv 0] [(.int (lcmpW (2 : Int64) (((1 : Int32).toInt64) * ((2 : Int32).toInt64)))), (.int 0)]) := fun t k => K t (XS.lcmp X20.here hx rfl (hb hby at_127) rfl k)
        replace K : OGo p e below A0 T20 (mkF m 135 #[iv p1, iv p2, iv 1, iv 2, .val (.long (((1 : Int32).toInt64) * ((2 : Int32).toInt64))), .second, rv b12, iv 1, iv 1, iv 1, iv 0] [(.int 0)]) := fun t k => K t (XS.ifYes X20.here hx rfl (pc0 := 128) (pc' := 135) rfl (hb hby at_128) rfl ((if0 _ _).trans (flt (fun q => ((by decide) : ¬ ((2 : Int64) < (((1 : Int32).toInt64) * ((2 : Int32).toInt64)))) ((lw_lt (2 : Int64) (((1 : Int32).toInt64) * ((2 : Int32).toInt64))).mp q))).2.1) (by decide) (by decide) k)
        replace K : OGo p e below A0 T20 (mkF m 136 #[iv p1, iv p2, iv 1, iv 2, .val (.long (((1 : Int32).toInt64) * ((2 : Int32).toInt64))), .second, rv b12, iv 1, iv 1, iv 1, iv 0] [(.int 0), (.int 0)]) := fun t k => K t (XS.iconst X20.here hx rfl (hb hby at_135) k)
        replace K : OGo p e below A0 T20 (mkF m 139 #[iv p1, iv p2, iv 1, iv 2, .val (.long (((1 : Int32).toInt64) * ((2 : Int32).toInt64))), .second, rv b12, iv 1, iv 1, iv 1, iv 0] []) := fun t k => K t (XS.icmpNo X20.here hx rfl (hb hby at_136) rfl (teq ((by decide : (0 : Int32) = (0 : Int32)) : (0 : Int32) = (0 : Int32))).2 k)
        replace K : OGo p e below A0 T20 (mkF m 140 #[iv p1, iv p2, iv 1, iv 2, .val (.long (((1 : Int32).toInt64) * ((2 : Int32).toInt64))), .second, rv b12, iv 1, iv 1, iv 1, iv 0] [(.int 1)]) := fun t k => K t (XS.iconst X20.here hx rfl (hb hby at_139) k)
        replace K : OGo p e below A0 T20 (mkF m 144 #[iv p1, iv p2, iv 1, iv 2, .val (.long (((1 : Int32).toInt64) * ((2 : Int32).toInt64))), .second, rv b12, iv 1, iv 1, iv 1, iv 0] [(.int 1)]) := fun t k => K t (XS.goto X20.here hx rfl (pc0 := 140) (pc' := 144) rfl (hb hby at_140) (by decide) (by decide) k)
        replace K : OGo p e below A0 T20 (mkF m 146 #[iv p1, iv p2, iv 1, iv 2, .val (.long (((1 : Int32).toInt64) * ((2 : Int32).toInt64))), .second, rv b12, iv 1, iv 1, iv 1, iv 0] []) := fun t k => K t (XS.istore X20.here hx rfl (hb hby at_144) rfl (l' := #[iv p1, iv p2, iv 1, iv 2, .val (.long (((1 : Int32).toInt64) * ((2 : Int32).toInt64))), .second, rv b12, iv 1, iv 1, iv 1, iv 0]) rfl k)
        replace K : OGo p e below A0 T20 (mkF m 147 #[iv p1, iv p2, iv 1, iv 2, .val (.long (((1 : Int32).toInt64) * ((2 : Int32).toInt64))), .second, rv b12, iv 1, iv 1, iv 1, iv 0] [(.int 2)]) := fun t k => K t (XS.iconst X20.here hx rfl (hb hby at_146) k)
        replace K : OGo p e below A0 T20 (mkF m 149 #[iv p1, iv p2, iv 1, iv 2, .val (.long (((1 : Int32).toInt64) * ((2 : Int32).toInt64))), .second, rv b12, iv 1, iv 1, iv 2, iv 0] []) := fun t k => K t (XS.istore X20.here hx rfl (hb hby at_147) rfl (l' := #[iv p1, iv p2, iv 1, iv 2, .val (.long (((1 : Int32).toInt64) * ((2 : Int32).toInt64))), .second, rv b12, iv 1, iv 1, iv 2, iv 0]) rfl k)
        replace K : OGo p e below A0 T20 (mkF m 151 #[iv p1, iv p2, iv 1, iv 2, .val (.long (((1 : Int32).toInt64) * ((2 : Int32).toInt64))), .second, rv b12, iv 1, iv 1, iv 2, iv 0] [(.int 0)]) := fun t k => K t (XS.iload X20.here hx rfl (hb hby at_149) rfl k)
        replace K : OGo p e below A0 T20 (mkF m 180 #[iv p1, iv p2, iv 1, iv 2, .val (.long (((1 : Int32).toInt64) * ((2 : Int32).toInt64))), .second, rv b12, iv 1, iv 1, iv 2, iv 0] []) := fun t k => K t (XS.ifYes X20.here hx rfl (pc0 := 151) (pc' := 180) rfl (hb hby at_151) rfl ((if0 _ _).trans (teq ((by decide : (0 : Int32) = (0 : Int32)) : (0 : Int32) = (0 : Int32))).1) (by decide) (by decide) k)
        replace K : OGo p e below A0 T20 (mkF m 181 #[iv p1, iv p2, iv 1, iv 2, .val (.long (((1 : Int32).toInt64) * ((2 : Int32).toInt64))), .second, rv b12, iv 1, iv 1, iv 2, iv 0] [(.int 1)]) := fun t k => K t (XS.iloadN X20.here hx rfl (hb hby at_180) rfl k)
        replace K : OGo p e below A0 T20 (mkF m 182 #[iv p1, iv p2, iv 1, iv 2, .val (.long (((1 : Int32).toInt64) * ((2 : Int32).toInt64))), .second, rv b12, iv 1, iv 1, iv 2, iv 0] [(.int 1), (.int 1)]) := fun t k => K t (XS.iconst X20.here hx rfl (hb hby at_181) k)
        replace K : OGo p e below A0 T20 (mkF m 189 #[iv p1, iv p2, iv 1, iv 2, .val (.long (((1 : Int32).toInt64) * ((2 : Int32).toInt64))), .second, rv b12, iv 1, iv 1, iv 2, iv 0] []) := fun t k => K t (XS.icmpYes X20.here hx rfl (pc0 := 182) (pc' := 189) rfl (hb hby at_182) rfl (flt ((by decide : ¬ ((1 : Int32) < (1 : Int32))) : ¬ ((1 : Int32) < (1 : Int32)))).2.2.2 (by decide) (by decide) k)
        replace K : OGo p e below A0 T20 (mkF m 190 #[iv p1, iv p2, iv 1, iv 2, .val (.long (((1 : Int32).toInt64) * ((2 : Int32).toInt64))), .second, rv b12, iv 1, iv 1, iv 2, iv 0] [(.int 0)]) := fun t k => K t (XS.iconst X20.here hx rfl (hb hby at_189) k)
        replace K : OGo p e below A0 T20 (mkF m 191 #[iv p1, iv p2, iv 1, iv 2, .val (.long (((1 : Int32).toInt64) * ((2 : Int32).toInt64))), .second, rv b12, iv 1, iv 1, iv 2, iv 0] [(.int 2), (.int 0)]) := fun t k => K t (XS.iloadN X20.here hx rfl (hb hby at_190) rfl k)
        replace K : OGo p e below A0 T20 (mkF m 192 #[iv p1, iv p2, iv 1, iv 2, .val (.long (((1 : Int32).toInt64) * ((2 : Int32).toInt64))), .second, rv b12, iv 1, iv 1, iv 2, iv 0] [(.int 1), (.int 2), (.int 0)]) := fun t k => K t (XS.iconst X20.here hx rfl (hb hby at_191) k)
        replace K : OGo p e below A0 T20 (mkF m 195 #[iv p1, iv p2, iv 1, iv 2, .val (.long (((1 : Int32).toInt64) * ((2 : Int32).toInt64))), .second, rv b12, iv 1, iv 1, iv 2, iv 0] [(.int 0)]) := fun t k => K t (XS.icmpNo X20.here hx rfl (hb hby at_192) rfl (tlt ((by decide : (1 : Int32) < (2 : Int32)) : (1 : Int32) < (2 : Int32))).2.2.2 k)
        replace K : OGo p e below A0 T20 (mkF m 196 #[iv p1, iv p2, iv 1, iv 2, .val (.long (((1 : Int32).toInt64) * ((2 : Int32).toInt64))), .second, rv b12, iv 1, iv 1, iv 2, iv 0] [(.int 1), (.int 0)]) := fun t k => K t (XS.iconst X20.here hx rfl (hb hby at_195) k)
        replace K : OGo p e below A0 T20 (mkF m 200 #[iv p1, iv p2, iv 1, iv 2, .val (.long (((1 : Int32).toInt64) * ((2 : Int32).toInt64))), .second, rv b12, iv 1, iv 1, iv 2, iv 0] [(.int 1), (.int 0)]) := fun t k => K t (XS.goto X20.here hx rfl (pc0 := 196) (pc' := 200) rfl (hb hby at_196) (by decide) (by decide) k)
        replace K : OGo p e below A0 T20 (mkF m 201 #[iv p1, iv p2, iv 1, iv 2, .val (.long (((1 : Int32).toInt64) * ((2 : Int32).toInt64))), .second, rv b12, iv 1, iv 1, iv 2, iv 0] [(.int 1)]) := fun t k => K t (XS.iadd X20.here hx rfl (hb hby at_200) rfl k)
        replace K : OGo p e below A0 T20 (mkF m 203 #[iv p1, iv p2, iv 1, iv 2, .val (.long (((1 : Int32).toInt64) * ((2 : Int32).toInt64))), .second, rv b12, iv 1, iv 1, iv 2, iv 1] []) := fun t k => K t (XS.istore X20.here hx rfl (hb hby at_201) rfl (l' := #[iv p1, iv p2, iv 1, iv 2, .val (.long (((1 : Int32).toInt64) * ((2 : Int32).toInt64))), .second, rv b12, iv 1, iv 1, iv 2, iv 1]) rfl k)
        replace K : OGo p e below A0 T20 (mkF m 205 #[iv p1, iv p2, iv 1, iv 2, .val (.long (((1 : Int32).toInt64) * ((2 : Int32).toInt64))), .second, rv b12, iv 1, iv 1, iv 2, iv 1] [(.int 1)]) := fun t k => K t (XS.iload X20.here hx rfl (hb hby at_203) rfl k)
        replace K : OGo p e below A0 T20 (mkF m 208 #[iv p1, iv p2, iv 1, iv 2, .val (.long (((1 : Int32).toInt64) * ((2 : Int32).toInt64))), .second, rv b12, iv 1, iv 1, iv 2, iv 1] []) := fun t k => K t (XS.ifNo X20.here hx rfl (hb hby at_205) rfl ((if0 _ _).trans (feq ((by decide : ¬ ((1 : Int32) = (0 : Int32))) : ¬ ((1 : Int32) = (0 : Int32)))).1) k)
        replace K : OGo p e below A0 T20 (mkF m 210 #[iv p1, iv p2, iv 1, iv 2, .val (.long (((1 : Int32).toInt64) * ((2 : Int32).toInt64))), .second, rv b12, iv 1, iv 1, iv 2, iv 1] [(.ref b12)]) := fun t k => K t (XS.aload X20.here hx rfl (hb hby at_208) rfl rfl k)
        obtain ⟨cq21, kq21, qv21a, qv21b, qv21c⟩ := isOf hZ e20 P20_0
        obtain ⟨_, _, ⟨T21, L21, k21, n21⟩, -, X21, ⟨Lc21, hQ21, l21, y21, z21⟩, st21⟩ := X20.virtualBack hx (y := mN5) (z := mN5) hown (mvT hZ (ow hw 52 rfl)) (mvT hZ (ow hw 53 rfl)) (notFace_of_selects (args := #[]) (mvT hZ (ow hw 55 rfl))) (mvT hZ (ow hw 55 rfl)) (mvT hZ (ow hw 54 rfl)) (by decide) (backOf (W := 0) (rm_fewest l Z a0 hw [] b12 (2 : Int32) (1 : Int32) hp20 n0 Z20 P20_5 P20_3) hZ (ow hw 56 rfl) (ow hw 7 rfl) (by decide) (by decide)) qv21a qv21c (g := (mkF m 210 #[iv p1, iv p2, iv 1, iv 2, .val (.long (((1 : Int32).toInt64) * ((2 : Int32).toInt64))), .second, rv b12, iv 1, iv 1, iv 2, iv 1] [(.ref b12)])) rfl (by rw [hml]; rfl) (Steps.refl _) (argsL := []) (rest := []) (lenOf pd___I rfl) rfl (by show 2 * 0 + _ ≤ _; exact Nat.le_of_eq rfl) (hb hby at_210) (fun _ _ => ⟨rfl, e20, (by decide : 5 + 0 ≤ _), (by decide : 40 + 0 ≤ _)⟩)
        dsimp only [Pt.U, Pt.locs, Pt.cells, Pt.slots] at X21 l21 y21 z21 st21 hQ21
        subst l21 y21 z21
        obtain ⟨rfl, Nq21, e21⟩ := hQ21
        have N21 := Fr.app N20 Nq21
        replace K : OGo p e below A0 T21 (mkF m 213 #[iv p1, iv p2, iv 1, iv 2, .val (.long (((1 : Int32).toInt64) * ((2 : Int32).toInt64))), .second, rv b12, iv 1, iv 1, iv 2, iv 1] [(.int (own_max (2 : Int32) ((1 : Int32) + (1 : Int32))))]) := fun t k => K t (st21.trans k)
        replace K : OGo p e below A0 T21 (mkF m 215 #[iv p1, iv p2, iv 1, iv 2, .val (.long (((1 : Int32).toInt64) * ((2 : Int32).toInt64))), .second, rv b12, iv 1, iv 1, iv 2, iv 1] [(.int 2), (.int (own_max (2 : Int32) ((1 : Int32) + (1 : Int32))))]) := fun t k => K t (XS.iload X21.here hx rfl (hb hby at_213) rfl k)
        replace K : OGo p e below A0 T21 (mkF m 217 #[iv p1, iv p2, iv 1, iv 2, .val (.long (((1 : Int32).toInt64) * ((2 : Int32).toInt64))), .second, rv b12, iv 1, iv 1, iv 2, iv 1] [(.int 1), (.int 2), (.int (own_max (2 : Int32) ((1 : Int32) + (1 : Int32))))]) := fun t k => K t (XS.iload X21.here hx rfl (hb hby at_215) rfl k)
        replace K : OGo p e below A0 T21 (mkF m 218 #[iv p1, iv p2, iv 1, iv 2, .val (.long (((1 : Int32).toInt64) * ((2 : Int32).toInt64))), .second, rv b12, iv 1, iv 1, iv 2, iv 1] [(.int 1), (.int 1), (.int 2), (.int (own_max (2 : Int32) ((1 : Int32) + (1 : Int32))))]) := fun t k => K t (XS.iconst X21.here hx rfl (hb hby at_217) k)
        replace K : OGo p e below A0 T21 (mkF m 219 #[iv p1, iv p2, iv 1, iv 2, .val (.long (((1 : Int32).toInt64) * ((2 : Int32).toInt64))), .second, rv b12, iv 1, iv 1, iv 2, iv 1] [(.int 2), (.int 2), (.int (own_max (2 : Int32) ((1 : Int32) + (1 : Int32))))]) := fun t k => K t (XS.iadd X21.here hx rfl (hb hby at_218) rfl k)
        obtain ⟨_, _, ⟨T22, L22, k22, n22⟩, -, X22, ⟨Lc22, hQ22, l22, y22, z22⟩, st22⟩ := Jvm.LawKit.callS X21 hx (y := mN1) hown (mvT hZ (ow hw 61 rfl)) (mvT hZ (ow hw 58 rfl)) (mvT hZ (ow hw 59 rfl)) (mvT hZ (ow hw 60 rfl)) (by decide) (backOf (W := 1) (rm_max l Z a0 hw [] (2 : Int32) (2 : Int32) hp20 n0 Z20 ) hZ (ow hw 60 rfl) (ow hw 59 rfl) (by decide) (by decide)) (g := (mkF m 219 #[iv p1, iv p2, iv 1, iv 2, .val (.long (((1 : Int32).toInt64) * ((2 : Int32).toInt64))), .second, rv b12, iv 1, iv 1, iv 2, iv 1] [(.int 2), (.int 2), (.int (own_max (2 : Int32) ((1 : Int32) + (1 : Int32))))])) rfl (by rw [hml]; rfl) (argsL := [(.int (2 : Int32)), (.int (2 : Int32))]) (rest := [(.int (own_max (2 : Int32) ((1 : Int32) + (1 : Int32))))]) (lenOf pd__II_I rfl) rfl (by show 2 * 0 + _ ≤ _; exact Nat.le_of_eq rfl) (hb hby at_219) (fun _ _ => ⟨rfl, e21, (by decide : 5 + 0 ≤ _), (by decide : 40 + 0 ≤ _)⟩)
        dsimp only [Pt.U, Pt.locs, Pt.cells, Pt.slots] at X22 l22 y22 z22 st22 hQ22
        subst l22 y22 z22
        obtain ⟨rfl, Nq22, e22⟩ := hQ22
        have N22 := Fr.app N21 Nq22
        replace K : OGo p e below A0 T22 (mkF m 222 #[iv p1, iv p2, iv 1, iv 2, .val (.long (((1 : Int32).toInt64) * ((2 : Int32).toInt64))), .second, rv b12, iv 1, iv 1, iv 2, iv 1] [(.int (own_max (2 : Int32) (2 : Int32))), (.int (own_max (2 : Int32) ((1 : Int32) + (1 : Int32))))]) := fun t k => K t (st22 t k)
        replace K : OGo p e below A0 T22 (mkF m 225 #[iv p1, iv p2, iv 1, iv 2, .val (.long (((1 : Int32).toInt64) * ((2 : Int32).toInt64))), .second, rv b12, iv 1, iv 1, iv 2, iv 1] []) := fun t k => K t (XS.icmpNo X22.here hx rfl (hb hby at_222) rfl (teq ((by decide) : (own_max (2 : Int32) ((1 : Int32) + (1 : Int32))) = (own_max (2 : Int32) (2 : Int32)))).2 k)
        replace K : OGo p e below A0 T22 (mkF m 226 #[iv p1, iv p2, iv 1, iv 2, .val (.long (((1 : Int32).toInt64) * ((2 : Int32).toInt64))), .second, rv b12, iv 1, iv 1, iv 2, iv 1] [(.int 1)]) := fun t k => K t (XS.iconst X22.here hx rfl (hb hby at_225) k)
        replace K : OGo p e below A0 T22 (mkF m 230 #[iv p1, iv p2, iv 1, iv 2, .val (.long (((1 : Int32).toInt64) * ((2 : Int32).toInt64))), .second, rv b12, iv 1, iv 1, iv 2, iv 1] [(.int 1)]) := fun t k => K t (XS.goto X22.here hx rfl (pc0 := 226) (pc' := 230) rfl (hb hby at_226) (by decide) (by decide) k)
        replace K : OGo p e below A0 T22 (mkF m 232 #[iv p1, iv p2, iv 1, iv 2, .val (.long (((1 : Int32).toInt64) * ((2 : Int32).toInt64))), .second, rv b12, iv 1, iv 1, iv 2, iv 1] []) := fun t k => K t (XS.istore X22.here hx rfl (hb hby at_230) rfl (l' := #[iv p1, iv p2, iv 1, iv 2, .val (.long (((1 : Int32).toInt64) * ((2 : Int32).toInt64))), .second, rv b12, iv 1, iv 1, iv 2, iv 1]) rfl k)
        replace K : OGo p e below A0 T22 (mkF m 234 #[iv p1, iv p2, iv 1, iv 2, .val (.long (((1 : Int32).toInt64) * ((2 : Int32).toInt64))), .second, rv b12, iv 1, iv 1, iv 2, iv 1] [(.int 1)]) := fun t k => K t (XS.iload X22.here hx rfl (hb hby at_232) rfl k)
        obtain ⟨fs, hr, hrun, hended, hW, hsame⟩ := X22.leave (v := some (.int (1 : Int32))) (fun h => by rw [Bd.returns] at h; cases h)
        subst hA0
        refine ⟨_, _, K _ (retN X22 hx (t := .boolean) Bd.returns (by simp) (hb hby at_234) hr), hrun, hended, _, _, rfl, ?_, ⟨_, rfl⟩, hW, hsame.mono (by decide) (by decide)⟩
        show Q_law Z p1 p2 h0 n0 _ T22.heap _
        rw [e22]
        exact ⟨rfl, N22⟩
      · replace hnb := own_ge hnb hb2 (by decide)
        replace K : OGo p e below A0 T2 (mkF m 11 #[iv p1, iv p2, iv 1, iv b, .unset, .unset, .unset, .unset, .unset, .unset, .unset] [(.int 1)]) := fun t k => K t (XS.iloadN X2.here hx rfl (hb hby at_10) rfl k)
        replace K : OGo p e below A0 T2 (mkF m 12 #[iv p1, iv p2, iv 1, iv b, .unset, .unset, .unset, .unset, .unset, .unset, .unset] [(.long ((1 : Int32).toInt64))]) := fun t k => K t (XS.i2l X2.here hx rfl (hb hby at_11) rfl k)
        replace K : OGo p e below A0 T2 (mkF m 13 #[iv p1, iv p2, iv 1, iv b, .unset, .unset, .unset, .unset, .unset, .unset, .unset] [(.int b), (.long ((1 : Int32).toInt64))]) := fun t k => K t (XS.iloadN X2.here hx rfl (hb hby at_12) rfl k)
        replace K : OGo p e below A0 T2 (mkF m 14 #[iv p1, iv p2, iv 1, iv b, .unset, .unset, .unset, .unset, .unset, .unset, .unset] [(.long (b.toInt64)), (.long ((1 : Int32).toInt64))]) := fun t k => K t (XS.i2l X2.here hx rfl (hb hby at_13) rfl k)
        replace K : OGo p e below A0 T2 (mkF m 15 #[iv p1, iv p2, iv 1, iv b, .unset, .unset, .unset, .unset, .unset, .unset, .unset] [(.long (((1 : Int32).toInt64) * (b.toInt64)))]) := fun t k => K t (XS.lmul X2.here hx rfl (hb hby at_14) rfl k)
        replace K : OGo p e below A0 T2 (mkF m 17 #[iv p1, iv p2, iv 1, iv b, .val (.long (((1 : Int32).toInt64) * (b.toInt64))), .second, .unset, .unset, .unset, .unset, .unset] []) := fun t k => K t (XS.lstore X2.here hx rfl (hb hby at_15) rfl (l' := #[iv p1, iv p2, iv 1, iv b, .val (.long (((1 : Int32).toInt64) * (b.toInt64))), .second, .unset, .unset, .unset, .unset, .unset]) rfl k)
        obtain ⟨T23, h23, X23, e23, E23, A23, D23, -, st23⟩ := newO X2 hx hZ hown (ow hw 5 rfl) (ow hw 6 rfl) (ow hw 7 rfl) e2 (g := (mkF m 17 #[iv p1, iv p2, iv 1, iv b, .val (.long (((1 : Int32).toInt64) * (b.toInt64))), .second, .unset, .unset, .unset, .unset, .unset] [])) rfl (hb hby at_17) (by decide) (by decide)
        obtain ⟨b23, gz23⟩ : ∃ z, z = h0.size := ⟨_, rfl⟩
        rw [← gz23] at A23 D23 st23
        have g_b23 : n0 ≤ b23 := Nat.le_trans Z0 (Nat.le_of_eq gz23.symm)
        have Z23 : n0 ≤ h23.size := Nat.le_trans Z0 E23.1
        have F_taken_b23 : Fld Z h23 b23 cN0 "taken" "[I" .null := D23 (Or.inl (ow hw 16 rfl)) (ty := (.array .int)) (by decide)
        have F_counts_b23 : Fld Z h23 b23 cN0 "counts" "[I" .null := D23 (Or.inl (ow hw 18 rfl)) (ty := (.array .int)) (by decide)
        have F_values_b23 : Fld Z h23 b23 cN0 "values" "[I" .null := D23 (Or.inl (ow hw 20 rfl)) (ty := (.array .int)) (by decide)
        have F_types_b23 : Fld Z h23 b23 cN0 "types" cN1 .null := D23 (Or.inl (ow hw 24 rfl)) (ty := (.array (.object "com/example/flote/flote/program/Type"))) (by decide)
        have F_met_b23 : Fld Z h23 b23 cN0 "met" "I" (.int (0 : Int32)) := D23 (Or.inl (ow hw 31 rfl)) (ty := .int) (by decide)
        have F_repeated_b23 : Fld Z h23 b23 cN0 "repeated" "I" (.int (0 : Int32)) := D23 (Or.inl (ow hw 33 rfl)) (ty := .int) (by decide)
        have F_branches_b23 : Fld Z h23 b23 cN0 "branches" "I" (.int (0 : Int32)) := D23 (Or.inl (ow hw 35 rfl)) (ty := .int) (by decide)
        have F_computed_b23 : Fld Z h23 b23 cN0 "computed" "I" (.int (0 : Int32)) := D23 (Or.inl (ow hw 37 rfl)) (ty := .int) (by decide)
        replace K : OGo p e below A0 T23 (mkF m 20 #[iv p1, iv p2, iv 1, iv b, .val (.long (((1 : Int32).toInt64) * (b.toInt64))), .second, .unset, .unset, .unset, .unset, .unset] [(.ref b23)]) := fun t k => K t (st23 t k)
        replace K : OGo p e below A0 T23 (mkF m 21 #[iv p1, iv p2, iv 1, iv b, .val (.long (((1 : Int32).toInt64) * (b.toInt64))), .second, .unset, .unset, .unset, .unset, .unset] [(.ref b23), (.ref b23)]) := fun t k => K t (XS.dup X23.here hx rfl (hb hby at_20) rfl rfl k)
        obtain ⟨_, _, ⟨T24, L24, k24, n24⟩, -, X24, ⟨Lc24, hQ24, l24, y24, z24⟩, st24⟩ := X23.specialBack hx (y := mN2) rfl hown (mvT hZ (ow hw 8 rfl)) (mvT hZ (ow hw 9 rfl)) (mvT hZ (ow hw 10 rfl)) (by decide) (backOf (W := 1) (rm_init l Z a0 hw [] b23 h23 n0 Z23 A23 F_taken_b23 F_counts_b23 F_values_b23 F_types_b23 F_met_b23 F_repeated_b23 F_branches_b23 F_computed_b23 g_b23) hZ (ow hw 10 rfl) (ow hw 7 rfl) (by decide) (by decide)) (g := (mkF m 21 #[iv p1, iv p2, iv 1, iv b, .val (.long (((1 : Int32).toInt64) * (b.toInt64))), .second, .unset, .unset, .unset, .unset, .unset] [(.ref b23), (.ref b23)])) rfl (by rw [hml]; rfl) (Steps.refl _) (a := b23) (argsL := []) (rest := [(.ref b23)]) (lenOf pd___V rfl) rfl (by show 2 * 0 + _ ≤ _; exact Nat.le_of_eq rfl) (hb hby at_21) (fun _ _ => ⟨rfl, e23, (by decide : 1 + 4 ≤ _), (by decide : 8 + 32 ≤ _)⟩)
        dsimp only [Pt.U, Pt.locs, Pt.cells, Pt.slots] at X24 l24 y24 z24 st24 hQ24
        subst l24 y24 z24
        obtain ⟨hp24, e24⟩ : ∃ z, T24.heap = z := ⟨_, rfl⟩
        rw [e24] at hQ24
        obtain ⟨rfl, Nq24, ta_24, ca_24, kt_24, kc_24, K24, P24_0, P24_1, P24_2, P24_3, P24_4, P24_5, P24_6, P24_7, P24_8, P24_9, P24_10, P24_11⟩ := hQ24
        have ne_b23_ta_24 : b23 ≠ ta_24 := Nat.ne_of_lt (Nat.lt_of_lt_of_le A23.lt P24_0)
        have g_ta_24 : n0 ≤ ta_24 := Nat.le_trans Z23 P24_0
        have ne_b23_ca_24 : b23 ≠ ca_24 := Nat.ne_of_lt (Nat.lt_of_lt_of_le A23.lt P24_1)
        have g_ca_24 : n0 ≤ ca_24 := Nat.le_trans Z23 P24_1
        have Z24 : n0 ≤ hp24.size := Nat.le_trans Z23 K24.1
        have N24 := Fr.app N2 Nq24
        replace K : OGo p e below A0 T24 (mkF m 24 #[iv p1, iv p2, iv 1, iv b, .val (.long (((1 : Int32).toInt64) * (b.toInt64))), .second, .unset, .unset, .unset, .unset, .unset] [(.ref b23)]) := fun t k => K t (st24.trans k)
        replace K : OGo p e below A0 T24 (mkF m 26 #[iv p1, iv p2, iv 1, iv b, .val (.long (((1 : Int32).toInt64) * (b.toInt64))), .second, rv b23, .unset, .unset, .unset, .unset] []) := fun t k => K t (XS.astore X24.here hx rfl (hb hby at_24) rfl rfl (l' := #[iv p1, iv p2, iv 1, iv b, .val (.long (((1 : Int32).toInt64) * (b.toInt64))), .second, rv b23, .unset, .unset, .unset, .unset]) rfl k)
        replace K : OGo p e below A0 T24 (mkF m 28 #[iv p1, iv p2, iv 1, iv b, .val (.long (((1 : Int32).toInt64) * (b.toInt64))), .second, rv b23, .unset, .unset, .unset, .unset] [(.ref b23)]) := fun t k => K t (XS.aload X24.here hx rfl (hb hby at_26) rfl rfl k)
        obtain ⟨cq25, kq25, qv25a, qv25b, qv25c⟩ := isOf hZ e24 P24_3
        obtain ⟨_, _, ⟨T25, L25, k25, n25⟩, -, X25, ⟨Lc25, hQ25, l25, y25, z25⟩, st25⟩ := X24.virtualBack hx (y := mN3) (z := mN3) hown (mvT hZ (ow hw 25 rfl)) (mvT hZ (ow hw 26 rfl)) (notFace_of_selects (args := #[]) (mvT hZ (ow hw 28 rfl))) (mvT hZ (ow hw 28 rfl)) (mvT hZ (ow hw 27 rfl)) (by decide) (backOf (W := 0) (rm_begin l Z a0 hw [] b23 ta_24 ca_24 kt_24 kc_24 hp24 n0 Z24 P24_3 P24_4 P24_5 P24_6 P24_7 P24_8 P24_9 P24_10 P24_11 g_b23 ne_b23_ta_24 ne_b23_ca_24) hZ (ow hw 29 rfl) (ow hw 7 rfl) (by decide) (by decide)) qv25a qv25c (g := (mkF m 28 #[iv p1, iv p2, iv 1, iv b, .val (.long (((1 : Int32).toInt64) * (b.toInt64))), .second, rv b23, .unset, .unset, .unset, .unset] [(.ref b23)])) rfl (by rw [hml]; rfl) (Steps.refl _) (argsL := []) (rest := []) (lenOf pd___V rfl) rfl (by show 2 * 0 + _ ≤ _; exact Nat.le_of_eq rfl) (hb hby at_28) (fun _ _ => ⟨rfl, e24, (by decide : 5 + 0 ≤ _), (by decide : 40 + 0 ≤ _)⟩)
        dsimp only [Pt.U, Pt.locs, Pt.cells, Pt.slots] at X25 l25 y25 z25 st25 hQ25
        subst l25 y25 z25
        obtain ⟨hp25, e25⟩ : ∃ z, T25.heap = z := ⟨_, rfl⟩
        rw [e25] at hQ25
        obtain ⟨rfl, Nq25, K25, P25_0, P25_1, P25_2, P25_3, P25_4, P25_5, P25_6⟩ := hQ25
        have Z25 : n0 ≤ hp25.size := Nat.le_trans Z24 K25.1
        have N25 := Fr.app N24 Nq25
        replace K : OGo p e below A0 T25 (mkF m 31 #[iv p1, iv p2, iv 1, iv b, .val (.long (((1 : Int32).toInt64) * (b.toInt64))), .second, rv b23, .unset, .unset, .unset, .unset] []) := fun t k => K t (st25.trans k)
        replace K : OGo p e below A0 T25 (mkF m 33 #[iv p1, iv p2, iv 1, iv b, .val (.long (((1 : Int32).toInt64) * (b.toInt64))), .second, rv b23, .unset, .unset, .unset, .unset] [(.ref b23)]) := fun t k => K t (XS.aload X25.here hx rfl (hb hby at_31) rfl rfl k)
        replace K : OGo p e below A0 T25 (mkF m 34 #[iv p1, iv p2, iv 1, iv b, .val (.long (((1 : Int32).toInt64) * (b.toInt64))), .second, rv b23, .unset, .unset, .unset, .unset] [(.int 1), (.ref b23)]) := fun t k => K t (XS.iloadN X25.here hx rfl (hb hby at_33) rfl k)
        replace K : OGo p e below A0 T25 (mkF m 35 #[iv p1, iv p2, iv 1, iv b, .val (.long (((1 : Int32).toInt64) * (b.toInt64))), .second, rv b23, .unset, .unset, .unset, .unset] [(.int b), (.int 1), (.ref b23)]) := fun t k => K t (XS.iloadN X25.here hx rfl (hb hby at_34) rfl k)
        replace K : OGo p e below A0 T25 (mkF m 36 #[iv p1, iv p2, iv 1, iv b, .val (.long (((1 : Int32).toInt64) * (b.toInt64))), .second, rv b23, .unset, .unset, .unset, .unset] [(.int 0), (.int b), (.int 1), (.ref b23)]) := fun t k => K t (XS.iconst X25.here hx rfl (hb hby at_35) k)
        have V_ta_24_27 := (P24_10.keep K25 (ninS (Ne.symm ne_b23_ta_24) nin0))
        have V_ca_24_28 := (P24_11.keep K25 (ninS (Ne.symm ne_b23_ca_24) nin0))
        obtain ⟨_, _, ⟨T26, L26, k26, n26⟩, -, X26, ⟨Lc26, hQ26, l26, y26, z26⟩, st26⟩ := Jvm.LawKit.callS X25 hx (y := mN6) hown (mvT hZ (ow hw 38 rfl)) (mvT hZ (ow hw 39 rfl)) (mvT hZ (ow hw 2 rfl)) (mvT hZ (ow hw 40 rfl)) (by decide) (backOf (W := 0) (rm_bok_s13_0 l Z a0 hw [] b23 b ta_24 ca_24 kt_24 kc_24 hp25 n0 Z25 P25_0 P25_1 P25_2 P25_3 P25_4 P25_5 P25_6 V_ta_24_27 V_ca_24_28 g_b23 g_ta_24 g_ca_24 ne_b23_ta_24 ne_b23_ca_24 P24_2 hnb) hZ (ow hw 40 rfl) (ow hw 2 rfl) (by decide) (by decide)) (g := (mkF m 36 #[iv p1, iv p2, iv 1, iv b, .val (.long (((1 : Int32).toInt64) * (b.toInt64))), .second, rv b23, .unset, .unset, .unset, .unset] [(.int 0), (.int b), (.int 1), (.ref b23)])) rfl (by rw [hml]; rfl) (argsL := [(.ref b23), (.int (1 : Int32)), (.int b), (.int (0 : Int32))]) (rest := []) (lenOf pd__Lcom_example_flote_flote_program_Choices_III_Z rfl) rfl (by show 2 * 0 + _ ≤ _; exact Nat.le_of_eq rfl) (hb hby at_36) (fun _ _ => ⟨rfl, e25, (by decide : 5 + 0 ≤ _), (by decide : 40 + 0 ≤ _)⟩)
        dsimp only [Pt.U, Pt.locs, Pt.cells, Pt.slots] at X26 l26 y26 z26 st26 hQ26
        subst l26 y26 z26
        obtain ⟨hp26, e26⟩ : ∃ z, T26.heap = z := ⟨_, rfl⟩
        rw [e26] at hQ26
        obtain ⟨rfl, Nq26, K26, P26_0, P26_1, P26_2, P26_3, P26_4, P26_5, P26_6, P26_7, P26_8⟩ := hQ26
        have Z26 : n0 ≤ hp26.size := Nat.le_trans Z25 K26.1
        have N26 := Fr.app N25 Nq26
        replace K : OGo p e below A0 T26 (mkF m 39 #[iv p1, iv p2, iv 1, iv b, .val (.long (((1 : Int32).toInt64) * (b.toInt64))), .second, rv b23, .unset, .unset, .unset, .unset] [(.int 1)]) := fun t k => K t (st26 t k)
        replace K : OGo p e below A0 T26 (mkF m 41 #[iv p1, iv p2, iv 1, iv b, .val (.long (((1 : Int32).toInt64) * (b.toInt64))), .second, rv b23, iv 1, .unset, .unset, .unset] []) := fun t k => K t (XS.istore X26.here hx rfl (hb hby at_39) rfl (l' := #[iv p1, iv p2, iv 1, iv b, .val (.long (((1 : Int32).toInt64) * (b.toInt64))), .second, rv b23, iv 1, .unset, .unset, .unset]) rfl k)
        replace K : OGo p e below A0 T26 (mkF m 43 #[iv p1, iv p2, iv 1, iv b, .val (.long (((1 : Int32).toInt64) * (b.toInt64))), .second, rv b23, iv 1, .unset, .unset, .unset] [(.ref b23)]) := fun t k => K t (XS.aload X26.here hx rfl (hb hby at_41) rfl rfl k)
        obtain ⟨cq29, kq29, qv29a, qv29b, qv29c⟩ := isOf hZ e26 P26_0
        obtain ⟨_, _, ⟨T29, L29, k29, n29⟩, -, X29, ⟨Lc29, hQ29, l29, y29, z29⟩, st29⟩ := X26.virtualBack hx (y := mN7) (z := mN7) hown (mvT hZ (ow hw 46 rfl)) (mvT hZ (ow hw 47 rfl)) (notFace_of_selects (args := #[]) (mvT hZ (ow hw 49 rfl))) (mvT hZ (ow hw 49 rfl)) (mvT hZ (ow hw 48 rfl)) (by decide) (backOf (W := 0) (rm_nx_A_var3 l Z a0 hw [] b23 ta_24 ca_24 kt_24 kc_24 b hp26 n0 Z26 P26_0 P26_1 P26_2 P26_3 P26_4 P26_5 P26_6 P26_7 P26_8 g_b23 g_ta_24 g_ca_24 ne_b23_ta_24 ne_b23_ca_24 P24_2 hnb) hZ (ow hw 50 rfl) (ow hw 7 rfl) (by decide) (by decide)) qv29a qv29c (g := (mkF m 43 #[iv p1, iv p2, iv 1, iv b, .val (.long (((1 : Int32).toInt64) * (b.toInt64))), .second, rv b23, iv 1, .unset, .unset, .unset] [(.ref b23)])) rfl (by rw [hml]; rfl) (Steps.refl _) (argsL := []) (rest := []) (lenOf pd___Z rfl) rfl (by show 2 * 0 + _ ≤ _; exact Nat.le_of_eq rfl) (hb hby at_43) (fun _ _ => ⟨rfl, e26, (by decide : 5 + 0 ≤ _), (by decide : 40 + 0 ≤ _)⟩)
        dsimp only [Pt.U, Pt.locs, Pt.cells, Pt.slots] at X29 l29 y29 z29 st29 hQ29
        subst l29 y29 z29
        obtain ⟨hp29, e29⟩ : ∃ z, T29.heap = z := ⟨_, rfl⟩
        rw [e29] at hQ29
        obtain ⟨rfl, Nq29, K29, P29_0, P29_1, P29_2, P29_3, P29_4, P29_5, P29_6, P29_7, P29_8⟩ := hQ29
        have Z29 : n0 ≤ hp29.size := Nat.le_trans Z26 K29.1
        have N29 := Fr.app N26 Nq29
        replace K : OGo p e below A0 T29 (mkF m 46 #[iv p1, iv p2, iv 1, iv b, .val (.long (((1 : Int32).toInt64) * (b.toInt64))), .second, rv b23, iv 1, .unset, .unset, .unset] [(.int 1)]) := fun t k => K t (st29.trans k)
        replace K : OGo p e below A0 T29 (mkF m 48 #[iv p1, iv p2, iv 1, iv b, .val (.long (((1 : Int32).toInt64) * (b.toInt64))), .second, rv b23, iv 1, iv 1, .unset, .unset] []) := fun t k => K t (XS.istore X29.here hx rfl (hb hby at_46) rfl (l' := #[iv p1, iv p2, iv 1, iv b, .val (.long (((1 : Int32).toInt64) * (b.toInt64))), .second, rv b23, iv 1, iv 1, .unset, .unset]) rfl k)
        replace K : OGo p e below A0 T29 (mkF m 50 #[iv p1, iv p2, iv 1, iv b, .val (.long (((1 : Int32).toInt64) * (b.toInt64))), .second, rv b23, iv 1, iv 1, .unset, .unset] [(.int 1)]) := fun t k => K t (XS.iload X29.here hx rfl (hb hby at_48) rfl k)
        replace K : OGo p e below A0 T29 (mkF m 53 #[iv p1, iv p2, iv 1, iv b, .val (.long (((1 : Int32).toInt64) * (b.toInt64))), .second, rv b23, iv 1, iv 1, .unset, .unset] []) := fun t k => K t (XS.ifNo X29.here hx rfl (hb hby at_50) rfl ((if0 _ _).trans (feq ((by decide : ¬ ((1 : Int32) = (0 : Int32))) : ¬ ((1 : Int32) = (0 : Int32)))).1) k)
        replace K : OGo p e below A0 T29 (mkF m 55 #[iv p1, iv p2, iv 1, iv b, .val (.long (((1 : Int32).toInt64) * (b.toInt64))), .second, rv b23, iv 1, iv 1, .unset, .unset] [(.int 1)]) := fun t k => K t (XS.iload X29.here hx rfl (hb hby at_53) rfl k)
        replace K : OGo p e below A0 T29 (mkF m 56 #[iv p1, iv p2, iv 1, iv b, .val (.long (((1 : Int32).toInt64) * (b.toInt64))), .second, rv b23, iv 1, iv 1, .unset, .unset] [(.long 1), (.int 1)]) := fun t k => K t (XS.lconst X29.here hx rfl (hb hby at_55) k)
        replace K : OGo p e below A0 T29 (mkF m 58 #[iv p1, iv p2, iv 1, iv b, .val (.long (((1 : Int32).toInt64) * (b.toInt64))), .second, rv b23, iv 1, iv 1, .unset, .unset] [(.long (((1 : Int32).toInt64) * (b.toInt64))), (.long 1), (.int 1)]) := fun t k => K t (XS.lload X29.here hx rfl (hb hby at_56) rfl k)
        replace K : OGo p e below A0 T29 (mkF m 59 #[iv p1, iv p2, iv 1, iv b, .val (.long (((1 : Int32).toInt64) * (b.toInt64))), .second, rv b23, iv 1, iv 1, .unset, .unset] [(.int (lcmpW (1 : Int64) (((1 : Int32).toInt64) * (b.toInt64)))), (.int 1)]) := fun t k => K t (XS.lcmp X29.here hx rfl (hb hby at_58) rfl k)
        replace K : OGo p e below A0 T29 (mkF m 62 #[iv p1, iv p2, iv 1, iv b, .val (.long (((1 : Int32).toInt64) * (b.toInt64))), .second, rv b23, iv 1, iv 1, .unset, .unset] [(.int 1)]) := fun t k => K t (XS.ifNo X29.here hx rfl (hb hby at_59) rfl ((if0 _ _).trans (tlt ((lw_lt (1 : Int64) (((1 : Int32).toInt64) * (b.toInt64))).mpr ((own_tot (by decide : (1 : Int) ≤ ((1 : Int32)).toInt) hnb (by decide) (by decide) (by decide)) : (1 : Int64) < (((1 : Int32).toInt64) * (b.toInt64))))).2.1) k)
        replace K : OGo p e below A0 T29 (mkF m 63 #[iv p1, iv p2, iv 1, iv b, .val (.long (((1 : Int32).toInt64) * (b.toInt64))), .second, rv b23, iv 1, iv 1, .unset, .unset] [(.int 1), (.int 1)]) := fun t k => K t (XS.iconst X29.here hx rfl (hb hby at_62) k)
        replace K : OGo p e below A0 T29 (mkF m 67 #[iv p1, iv p2, iv 1, iv b, .val (.long (((1 : Int32).toInt64) * (b.toInt64))), .second, rv b23, iv 1, iv 1, .unset, .unset] [(.int 1), (.int 1)]) := fun t k => K t (XS.goto X29.here hx rfl (pc0 := 63) (pc' := 67) rfl (hb hby at_63) (by decide) (by decide) k)
        replace K : OGo p e below A0 T29 (mkF m 70 #[iv p1, iv p2, iv 1, iv b, .val (.long (((1 : Int32).toInt64) * (b.toInt64))), .second, rv b23, iv 1, iv 1, .unset, .unset] []) := fun t k => K t (XS.icmpNo X29.here hx rfl (hb hby at_67) rfl (teq ((by decide : (1 : Int32) = (1 : Int32)) : (1 : Int32) = (1 : Int32))).2 k)
        replace K : OGo p e below A0 T29 (mkF m 71 #[iv p1, iv p2, iv 1, iv b, .val (.long (((1 : Int32).toInt64) * (b.toInt64))), .second, rv b23, iv 1, iv 1, .unset, .unset] [(.int 1)]) := fun t k => K t (XS.iconst X29.here hx rfl (hb hby at_70) k)
        replace K : OGo p e below A0 T29 (mkF m 75 #[iv p1, iv p2, iv 1, iv b, .val (.long (((1 : Int32).toInt64) * (b.toInt64))), .second, rv b23, iv 1, iv 1, .unset, .unset] [(.int 1)]) := fun t k => K t (XS.goto X29.here hx rfl (pc0 := 71) (pc' := 75) rfl (hb hby at_71) (by decide) (by decide) k)
        replace K : OGo p e below A0 T29 (mkF m 77 #[iv p1, iv p2, iv 1, iv b, .val (.long (((1 : Int32).toInt64) * (b.toInt64))), .second, rv b23, iv 1, iv 1, .unset, .unset] []) := fun t k => K t (XS.istore X29.here hx rfl (hb hby at_75) rfl (l' := #[iv p1, iv p2, iv 1, iv b, .val (.long (((1 : Int32).toInt64) * (b.toInt64))), .second, rv b23, iv 1, iv 1, .unset, .unset]) rfl k)
        replace K : OGo p e below A0 T29 (mkF m 78 #[iv p1, iv p2, iv 1, iv b, .val (.long (((1 : Int32).toInt64) * (b.toInt64))), .second, rv b23, iv 1, iv 1, .unset, .unset] [(.int 1)]) := fun t k => K t (XS.iconst X29.here hx rfl (hb hby at_77) k)
        replace K : OGo p e below A0 T29 (mkF m 80 #[iv p1, iv p2, iv 1, iv b, .val (.long (((1 : Int32).toInt64) * (b.toInt64))), .second, rv b23, iv 1, iv 1, iv 1, .unset] []) := fun t k => K t (XS.istore X29.here hx rfl (hb hby at_78) rfl (l' := #[iv p1, iv p2, iv 1, iv b, .val (.long (((1 : Int32).toInt64) * (b.toInt64))), .second, rv b23, iv 1, iv 1, iv 1, .unset]) rfl k)
        replace K : OGo p e below A0 T29 (mkF m 82 #[iv p1, iv p2, iv 1, iv b, .val (.long (((1 : Int32).toInt64) * (b.toInt64))), .second, rv b23, iv 1, iv 1, iv 1, .unset] [(.int 1)]) := fun t k => K t (XS.iload X29.here hx rfl (hb hby at_80) rfl k)
        replace K : OGo p e below A0 T29 (mkF m 85 #[iv p1, iv p2, iv 1, iv b, .val (.long (((1 : Int32).toInt64) * (b.toInt64))), .second, rv b23, iv 1, iv 1, iv 1, .unset] []) := fun t k => K t (XS.ifNo X29.here hx rfl (hb hby at_82) rfl ((if0 _ _).trans (feq ((by decide : ¬ ((1 : Int32) = (0 : Int32))) : ¬ ((1 : Int32) = (0 : Int32)))).1) k)
        replace K : OGo p e below A0 T29 (mkF m 87 #[iv p1, iv p2, iv 1, iv b, .val (.long (((1 : Int32).toInt64) * (b.toInt64))), .second, rv b23, iv 1, iv 1, iv 1, .unset] [(.int 1)]) := fun t k => K t (XS.iload X29.here hx rfl (hb hby at_85) rfl k)
        replace K : OGo p e below A0 T29 (mkF m 90 #[iv p1, iv p2, iv 1, iv b, .val (.long (((1 : Int32).toInt64) * (b.toInt64))), .second, rv b23, iv 1, iv 1, iv 1, .unset] []) := fun t k => K t (XS.ifNo X29.here hx rfl (hb hby at_87) rfl ((if0 _ _).trans (feq ((by decide : ¬ ((1 : Int32) = (0 : Int32))) : ¬ ((1 : Int32) = (0 : Int32)))).1) k)
        replace K : OGo p e below A0 T29 (mkF m 92 #[iv p1, iv p2, iv 1, iv b, .val (.long (((1 : Int32).toInt64) * (b.toInt64))), .second, rv b23, iv 1, iv 1, iv 1, .unset] [(.ref b23)]) := fun t k => K t (XS.aload X29.here hx rfl (hb hby at_90) rfl rfl k)
        replace K : OGo p e below A0 T29 (mkF m 93 #[iv p1, iv p2, iv 1, iv b, .val (.long (((1 : Int32).toInt64) * (b.toInt64))), .second, rv b23, iv 1, iv 1, iv 1, .unset] [(.int 1), (.ref b23)]) := fun t k => K t (XS.iloadN X29.here hx rfl (hb hby at_92) rfl k)
        replace K : OGo p e below A0 T29 (mkF m 94 #[iv p1, iv p2, iv 1, iv b, .val (.long (((1 : Int32).toInt64) * (b.toInt64))), .second, rv b23, iv 1, iv 1, iv 1, .unset] [(.int b), (.int 1), (.ref b23)]) := fun t k => K t (XS.iloadN X29.here hx rfl (hb hby at_93) rfl k)
        replace K : OGo p e below A0 T29 (mkF m 95 #[iv p1, iv p2, iv 1, iv b, .val (.long (((1 : Int32).toInt64) * (b.toInt64))), .second, rv b23, iv 1, iv 1, iv 1, .unset] [(.int 1), (.int b), (.int 1), (.ref b23)]) := fun t k => K t (XS.iconst X29.here hx rfl (hb hby at_94) k)
        obtain ⟨_, _, ⟨T30, L30, k30, n30⟩, -, X30, ⟨Lc30, hQ30, l30, y30, z30⟩, st30⟩ := Jvm.LawKit.callS X29 hx (y := mN6) hown (mvT hZ (ow hw 38 rfl)) (mvT hZ (ow hw 39 rfl)) (mvT hZ (ow hw 2 rfl)) (mvT hZ (ow hw 40 rfl)) (by decide) (backOf (W := 0) (rm_bok_s13_1 l Z a0 hw [] b23 b ta_24 ca_24 kt_24 kc_24 hp29 n0 Z29 P29_0 P29_1 P29_2 P29_3 P29_4 P29_5 P29_6 P29_7 P29_8 g_b23 g_ta_24 g_ca_24 ne_b23_ta_24 ne_b23_ca_24 P24_2 hnb) hZ (ow hw 40 rfl) (ow hw 2 rfl) (by decide) (by decide)) (g := (mkF m 95 #[iv p1, iv p2, iv 1, iv b, .val (.long (((1 : Int32).toInt64) * (b.toInt64))), .second, rv b23, iv 1, iv 1, iv 1, .unset] [(.int 1), (.int b), (.int 1), (.ref b23)])) rfl (by rw [hml]; rfl) (argsL := [(.ref b23), (.int (1 : Int32)), (.int b), (.int (1 : Int32))]) (rest := []) (lenOf pd__Lcom_example_flote_flote_program_Choices_III_Z rfl) rfl (by show 2 * 0 + _ ≤ _; exact Nat.le_of_eq rfl) (hb hby at_95) (fun _ _ => ⟨rfl, e29, (by decide : 5 + 0 ≤ _), (by decide : 40 + 0 ≤ _)⟩)
        dsimp only [Pt.U, Pt.locs, Pt.cells, Pt.slots] at X30 l30 y30 z30 st30 hQ30
        subst l30 y30 z30
        obtain ⟨hp30, e30⟩ : ∃ z, T30.heap = z := ⟨_, rfl⟩
        rw [e30] at hQ30
        obtain ⟨rfl, Nq30, K30, P30_0, P30_1, P30_2, P30_3, P30_4, P30_5, P30_6, P30_7, P30_8⟩ := hQ30
        have Z30 : n0 ≤ hp30.size := Nat.le_trans Z29 K30.1
        have N30 := Fr.app N29 Nq30
        replace K : OGo p e below A0 T30 (mkF m 98 #[iv p1, iv p2, iv 1, iv b, .val (.long (((1 : Int32).toInt64) * (b.toInt64))), .second, rv b23, iv 1, iv 1, iv 1, .unset] [(.int 1)]) := fun t k => K t (st30 t k)
        replace K : OGo p e below A0 T30 (mkF m 101 #[iv p1, iv p2, iv 1, iv b, .val (.long (((1 : Int32).toInt64) * (b.toInt64))), .second, rv b23, iv 1, iv 1, iv 1, .unset] []) := fun t k => K t (XS.ifNo X30.here hx rfl (hb hby at_98) rfl ((if0 _ _).trans (feq ((by decide : ¬ ((1 : Int32) = (0 : Int32))) : ¬ ((1 : Int32) = (0 : Int32)))).1) k)
        replace K : OGo p e below A0 T30 (mkF m 102 #[iv p1, iv p2, iv 1, iv b, .val (.long (((1 : Int32).toInt64) * (b.toInt64))), .second, rv b23, iv 1, iv 1, iv 1, .unset] [(.int 1)]) := fun t k => K t (XS.iconst X30.here hx rfl (hb hby at_101) k)
        replace K : OGo p e below A0 T30 (mkF m 106 #[iv p1, iv p2, iv 1, iv b, .val (.long (((1 : Int32).toInt64) * (b.toInt64))), .second, rv b23, iv 1, iv 1, iv 1, .unset] [(.int 1)]) := fun t k => K t (XS.goto X30.here hx rfl (pc0 := 102) (pc' := 106) rfl (hb hby at_102) (by decide) (by decide) k)
        replace K : OGo p e below A0 T30 (mkF m 108 #[iv p1, iv p2, iv 1, iv b, .val (.long (((1 : Int32).toInt64) * (b.toInt64))), .second, rv b23, iv 1, iv 1, iv 1, .unset] []) := fun t k => K t (XS.istore X30.here hx rfl (hb hby at_106) rfl (l' := #[iv p1, iv p2, iv 1, iv b, .val (.long (((1 : Int32).toInt64) * (b.toInt64))), .second, rv b23, iv 1, iv 1, iv 1, .unset]) rfl k)
        replace K : OGo p e below A0 T30 (mkF m 110 #[iv p1, iv p2, iv 1, iv b, .val (.long (((1 : Int32).toInt64) * (b.toInt64))), .second, rv b23, iv 1, iv 1, iv 1, .unset] [(.ref b23)]) := fun t k => K t (XS.aload X30.here hx rfl (hb hby at_108) rfl rfl k)
        obtain ⟨cq31, kq31, qv31a, qv31b, qv31c⟩ := isOf hZ e30 P30_0
        obtain ⟨_, _, ⟨T31, L31, k31, n31⟩, -, X31, ⟨Lc31, hQ31, l31, y31, z31⟩, st31⟩ := X30.virtualBack hx (y := mN7) (z := mN7) hown (mvT hZ (ow hw 46 rfl)) (mvT hZ (ow hw 47 rfl)) (notFace_of_selects (args := #[]) (mvT hZ (ow hw 49 rfl))) (mvT hZ (ow hw 49 rfl)) (mvT hZ (ow hw 48 rfl)) (by decide) (backOf (W := 0) (rm_nx_C_var3 l Z a0 hw [] b23 ta_24 ca_24 kt_24 kc_24 b hp30 n0 Z30 P30_0 P30_1 P30_2 P30_3 P30_4 P30_5 P30_6 P30_7 P30_8 g_b23 g_ta_24 g_ca_24 ne_b23_ta_24 ne_b23_ca_24 P24_2 hnb) hZ (ow hw 50 rfl) (ow hw 7 rfl) (by decide) (by decide)) qv31a qv31c (g := (mkF m 110 #[iv p1, iv p2, iv 1, iv b, .val (.long (((1 : Int32).toInt64) * (b.toInt64))), .second, rv b23, iv 1, iv 1, iv 1, .unset] [(.ref b23)])) rfl (by rw [hml]; rfl) (Steps.refl _) (argsL := []) (rest := []) (lenOf pd___Z rfl) rfl (by show 2 * 0 + _ ≤ _; exact Nat.le_of_eq rfl) (hb hby at_110) (fun _ _ => ⟨rfl, e30, (by decide : 5 + 0 ≤ _), (by decide : 40 + 0 ≤ _)⟩)
        dsimp only [Pt.U, Pt.locs, Pt.cells, Pt.slots] at X31 l31 y31 z31 st31 hQ31
        subst l31 y31 z31
        obtain ⟨hp31, e31⟩ : ∃ z, T31.heap = z := ⟨_, rfl⟩
        rw [e31] at hQ31
        obtain ⟨rfl, Nq31, K31, P31_0, P31_1, P31_2, P31_3, P31_4, P31_5, P31_6, P31_7, P31_8⟩ := hQ31
        have Z31 : n0 ≤ hp31.size := Nat.le_trans Z30 K31.1
        have N31 := Fr.app N30 Nq31
        replace K : OGo p e below A0 T31 (mkF m 113 #[iv p1, iv p2, iv 1, iv b, .val (.long (((1 : Int32).toInt64) * (b.toInt64))), .second, rv b23, iv 1, iv 1, iv 1, .unset] [(.int 1)]) := fun t k => K t (st31.trans k)
        replace K : OGo p e below A0 T31 (mkF m 115 #[iv p1, iv p2, iv 1, iv b, .val (.long (((1 : Int32).toInt64) * (b.toInt64))), .second, rv b23, iv 1, iv 1, iv 1, iv 1] []) := fun t k => K t (XS.istore X31.here hx rfl (hb hby at_113) rfl (l' := #[iv p1, iv p2, iv 1, iv b, .val (.long (((1 : Int32).toInt64) * (b.toInt64))), .second, rv b23, iv 1, iv 1, iv 1, iv 1]) rfl k)
        replace K : OGo p e below A0 T31 (mkF m 117 #[iv p1, iv p2, iv 1, iv b, .val (.long (((1 : Int32).toInt64) * (b.toInt64))), .second, rv b23, iv 1, iv 1, iv 1, iv 1] [(.int 1)]) := fun t k => K t (XS.iload X31.here hx rfl (hb hby at_115) rfl k)
        replace K : OGo p e below A0 T31 (mkF m 120 #[iv p1, iv p2, iv 1, iv b, .val (.long (((1 : Int32).toInt64) * (b.toInt64))), .second, rv b23, iv 1, iv 1, iv 1, iv 1] []) := fun t k => K t (XS.ifNo X31.here hx rfl (hb hby at_117) rfl ((if0 _ _).trans (feq ((by decide : ¬ ((1 : Int32) = (0 : Int32))) : ¬ ((1 : Int32) = (0 : Int32)))).1) k)
        replace K : OGo p e below A0 T31 (mkF m 122 #[iv p1, iv p2, iv 1, iv b, .val (.long (((1 : Int32).toInt64) * (b.toInt64))), .second, rv b23, iv 1, iv 1, iv 1, iv 1] [(.int 1)]) := fun t k => K t (XS.iload X31.here hx rfl (hb hby at_120) rfl k)
        replace K : OGo p e below A0 T31 (mkF m 125 #[iv p1, iv p2, iv 1, iv b, .val (.long (((1 : Int32).toInt64) * (b.toInt64))), .second, rv b23, iv 1, iv 1, iv 1, iv 1] [(.long 2), (.int 1)]) := fun t k => K t (X31.ldc2Long hx hown (mvT hZ (ow hw 51 rfl)) (g := (mkF m 122 #[iv p1, iv p2, iv 1, iv b, .val (.long (((1 : Int32).toInt64) * (b.toInt64))), .second, rv b23, iv 1, iv 1, iv 1, iv 1] [(.int 1)])) rfl (hb hby at_122) t k)
        replace K : OGo p e below A0 T31 (mkF m 127 #[iv p1, iv p2, iv 1, iv b, .val (.long (((1 : Int32).toInt64) * (b.toInt64))), .second, rv b23, iv 1, iv 1, iv 1, iv 1] [(.long (((1 : Int32).toInt64) * (b.toInt64))), (.long 2), (.int 1)]) := fun t k => K t (XS.lload X31.here hx rfl (hb hby at_125) rfl k)
        replace K : OGo p e below A0 T31 (mkF m 128 #[iv p1, iv p2, iv 1, iv b, .val (.long (((1 : Int32).toInt64) * (b.toInt64))), .second, rv b23, iv 1, iv 1, iv 1, iv 1] [(.int (lcmpW (2 : Int64) (((1 : Int32).toInt64) * (b.toInt64)))), (.int 1)]) := fun t k => K t (XS.lcmp X31.here hx rfl (hb hby at_127) rfl k)
        replace K : OGo p e below A0 T31 (mkF m 131 #[iv p1, iv p2, iv 1, iv b, .val (.long (((1 : Int32).toInt64) * (b.toInt64))), .second, rv b23, iv 1, iv 1, iv 1, iv 1] [(.int 1)]) := fun t k => K t (XS.ifNo X31.here hx rfl (hb hby at_128) rfl ((if0 _ _).trans (tlt ((lw_lt (2 : Int64) (((1 : Int32).toInt64) * (b.toInt64))).mpr ((own_tot (by decide : (1 : Int) ≤ ((1 : Int32)).toInt) hnb (by decide) (by decide) (by decide)) : (2 : Int64) < (((1 : Int32).toInt64) * (b.toInt64))))).2.1) k)
        replace K : OGo p e below A0 T31 (mkF m 132 #[iv p1, iv p2, iv 1, iv b, .val (.long (((1 : Int32).toInt64) * (b.toInt64))), .second, rv b23, iv 1, iv 1, iv 1, iv 1] [(.int 1), (.int 1)]) := fun t k => K t (XS.iconst X31.here hx rfl (hb hby at_131) k)
        replace K : OGo p e below A0 T31 (mkF m 136 #[iv p1, iv p2, iv 1, iv b, .val (.long (((1 : Int32).toInt64) * (b.toInt64))), .second, rv b23, iv 1, iv 1, iv 1, iv 1] [(.int 1), (.int 1)]) := fun t k => K t (XS.goto X31.here hx rfl (pc0 := 132) (pc' := 136) rfl (hb hby at_132) (by decide) (by decide) k)
        replace K : OGo p e below A0 T31 (mkF m 139 #[iv p1, iv p2, iv 1, iv b, .val (.long (((1 : Int32).toInt64) * (b.toInt64))), .second, rv b23, iv 1, iv 1, iv 1, iv 1] []) := fun t k => K t (XS.icmpNo X31.here hx rfl (hb hby at_136) rfl (teq ((by decide : (1 : Int32) = (1 : Int32)) : (1 : Int32) = (1 : Int32))).2 k)
        replace K : OGo p e below A0 T31 (mkF m 140 #[iv p1, iv p2, iv 1, iv b, .val (.long (((1 : Int32).toInt64) * (b.toInt64))), .second, rv b23, iv 1, iv 1, iv 1, iv 1] [(.int 1)]) := fun t k => K t (XS.iconst X31.here hx rfl (hb hby at_139) k)
        replace K : OGo p e below A0 T31 (mkF m 144 #[iv p1, iv p2, iv 1, iv b, .val (.long (((1 : Int32).toInt64) * (b.toInt64))), .second, rv b23, iv 1, iv 1, iv 1, iv 1] [(.int 1)]) := fun t k => K t (XS.goto X31.here hx rfl (pc0 := 140) (pc' := 144) rfl (hb hby at_140) (by decide) (by decide) k)
        replace K : OGo p e below A0 T31 (mkF m 146 #[iv p1, iv p2, iv 1, iv b, .val (.long (((1 : Int32).toInt64) * (b.toInt64))), .second, rv b23, iv 1, iv 1, iv 1, iv 1] []) := fun t k => K t (XS.istore X31.here hx rfl (hb hby at_144) rfl (l' := #[iv p1, iv p2, iv 1, iv b, .val (.long (((1 : Int32).toInt64) * (b.toInt64))), .second, rv b23, iv 1, iv 1, iv 1, iv 1]) rfl k)
        replace K : OGo p e below A0 T31 (mkF m 147 #[iv p1, iv p2, iv 1, iv b, .val (.long (((1 : Int32).toInt64) * (b.toInt64))), .second, rv b23, iv 1, iv 1, iv 1, iv 1] [(.int 2)]) := fun t k => K t (XS.iconst X31.here hx rfl (hb hby at_146) k)
        replace K : OGo p e below A0 T31 (mkF m 149 #[iv p1, iv p2, iv 1, iv b, .val (.long (((1 : Int32).toInt64) * (b.toInt64))), .second, rv b23, iv 1, iv 1, iv 2, iv 1] []) := fun t k => K t (XS.istore X31.here hx rfl (hb hby at_147) rfl (l' := #[iv p1, iv p2, iv 1, iv b, .val (.long (((1 : Int32).toInt64) * (b.toInt64))), .second, rv b23, iv 1, iv 1, iv 2, iv 1]) rfl k)
        replace K : OGo p e below A0 T31 (mkF m 151 #[iv p1, iv p2, iv 1, iv b, .val (.long (((1 : Int32).toInt64) * (b.toInt64))), .second, rv b23, iv 1, iv 1, iv 2, iv 1] [(.int 1)]) := fun t k => K t (XS.iload X31.here hx rfl (hb hby at_149) rfl k)
        replace K : OGo p e below A0 T31 (mkF m 154 #[iv p1, iv p2, iv 1, iv b, .val (.long (((1 : Int32).toInt64) * (b.toInt64))), .second, rv b23, iv 1, iv 1, iv 2, iv 1] []) := fun t k => K t (XS.ifNo X31.here hx rfl (hb hby at_151) rfl ((if0 _ _).trans (feq ((by decide : ¬ ((1 : Int32) = (0 : Int32))) : ¬ ((1 : Int32) = (0 : Int32)))).1) k)
        replace K : OGo p e below A0 T31 (mkF m 156 #[iv p1, iv p2, iv 1, iv b, .val (.long (((1 : Int32).toInt64) * (b.toInt64))), .second, rv b23, iv 1, iv 1, iv 2, iv 1] [(.int 1)]) := fun t k => K t (XS.iload X31.here hx rfl (hb hby at_154) rfl k)
        replace K : OGo p e below A0 T31 (mkF m 159 #[iv p1, iv p2, iv 1, iv b, .val (.long (((1 : Int32).toInt64) * (b.toInt64))), .second, rv b23, iv 1, iv 1, iv 2, iv 1] []) := fun t k => K t (XS.ifNo X31.here hx rfl (hb hby at_156) rfl ((if0 _ _).trans (feq ((by decide : ¬ ((1 : Int32) = (0 : Int32))) : ¬ ((1 : Int32) = (0 : Int32)))).1) k)
        replace K : OGo p e below A0 T31 (mkF m 161 #[iv p1, iv p2, iv 1, iv b, .val (.long (((1 : Int32).toInt64) * (b.toInt64))), .second, rv b23, iv 1, iv 1, iv 2, iv 1] [(.ref b23)]) := fun t k => K t (XS.aload X31.here hx rfl (hb hby at_159) rfl rfl k)
        replace K : OGo p e below A0 T31 (mkF m 162 #[iv p1, iv p2, iv 1, iv b, .val (.long (((1 : Int32).toInt64) * (b.toInt64))), .second, rv b23, iv 1, iv 1, iv 2, iv 1] [(.int 1), (.ref b23)]) := fun t k => K t (XS.iloadN X31.here hx rfl (hb hby at_161) rfl k)
        replace K : OGo p e below A0 T31 (mkF m 163 #[iv p1, iv p2, iv 1, iv b, .val (.long (((1 : Int32).toInt64) * (b.toInt64))), .second, rv b23, iv 1, iv 1, iv 2, iv 1] [(.int b), (.int 1), (.ref b23)]) := fun t k => K t (XS.iloadN X31.here hx rfl (hb hby at_162) rfl k)
        replace K : OGo p e below A0 T31 (mkF m 164 #[iv p1, iv p2, iv 1, iv b, .val (.long (((1 : Int32).toInt64) * (b.toInt64))), .second, rv b23, iv 1, iv 1, iv 2, iv 1] [(.int 2), (.int b), (.int 1), (.ref b23)]) := fun t k => K t (XS.iconst X31.here hx rfl (hb hby at_163) k)
        obtain ⟨_, _, ⟨T32, L32, k32, n32⟩, -, X32, ⟨Lc32, hQ32, l32, y32, z32⟩, st32⟩ := Jvm.LawKit.callS X31 hx (y := mN6) hown (mvT hZ (ow hw 38 rfl)) (mvT hZ (ow hw 39 rfl)) (mvT hZ (ow hw 2 rfl)) (mvT hZ (ow hw 40 rfl)) (by decide) (backOf (W := 0) (rm_bok_s13_2 l Z a0 hw [] b23 b ta_24 ca_24 kt_24 kc_24 hp31 n0 Z31 P31_0 P31_1 P31_2 P31_3 P31_4 P31_5 P31_6 P31_7 P31_8 g_b23 g_ta_24 g_ca_24 ne_b23_ta_24 ne_b23_ca_24 P24_2 hnb) hZ (ow hw 40 rfl) (ow hw 2 rfl) (by decide) (by decide)) (g := (mkF m 164 #[iv p1, iv p2, iv 1, iv b, .val (.long (((1 : Int32).toInt64) * (b.toInt64))), .second, rv b23, iv 1, iv 1, iv 2, iv 1] [(.int 2), (.int b), (.int 1), (.ref b23)])) rfl (by rw [hml]; rfl) (argsL := [(.ref b23), (.int (1 : Int32)), (.int b), (.int (2 : Int32))]) (rest := []) (lenOf pd__Lcom_example_flote_flote_program_Choices_III_Z rfl) rfl (by show 2 * 0 + _ ≤ _; exact Nat.le_of_eq rfl) (hb hby at_164) (fun _ _ => ⟨rfl, e31, (by decide : 5 + 0 ≤ _), (by decide : 40 + 0 ≤ _)⟩)
        dsimp only [Pt.U, Pt.locs, Pt.cells, Pt.slots] at X32 l32 y32 z32 st32 hQ32
        subst l32 y32 z32
        obtain ⟨hp32, e32⟩ : ∃ z, T32.heap = z := ⟨_, rfl⟩
        rw [e32] at hQ32
        obtain ⟨rfl, Nq32, K32, P32_0, P32_1, P32_2, P32_3, P32_4, P32_5, P32_6, P32_7, P32_8⟩ := hQ32
        have Z32 : n0 ≤ hp32.size := Nat.le_trans Z31 K32.1
        have N32 := Fr.app N31 Nq32
        replace K : OGo p e below A0 T32 (mkF m 167 #[iv p1, iv p2, iv 1, iv b, .val (.long (((1 : Int32).toInt64) * (b.toInt64))), .second, rv b23, iv 1, iv 1, iv 2, iv 1] [(.int 1)]) := fun t k => K t (st32 t k)
        replace K : OGo p e below A0 T32 (mkF m 170 #[iv p1, iv p2, iv 1, iv b, .val (.long (((1 : Int32).toInt64) * (b.toInt64))), .second, rv b23, iv 1, iv 1, iv 2, iv 1] []) := fun t k => K t (XS.ifNo X32.here hx rfl (hb hby at_167) rfl ((if0 _ _).trans (feq ((by decide : ¬ ((1 : Int32) = (0 : Int32))) : ¬ ((1 : Int32) = (0 : Int32)))).1) k)
        replace K : OGo p e below A0 T32 (mkF m 171 #[iv p1, iv p2, iv 1, iv b, .val (.long (((1 : Int32).toInt64) * (b.toInt64))), .second, rv b23, iv 1, iv 1, iv 2, iv 1] [(.int 1)]) := fun t k => K t (XS.iconst X32.here hx rfl (hb hby at_170) k)
        replace K : OGo p e below A0 T32 (mkF m 175 #[iv p1, iv p2, iv 1, iv b, .val (.long (((1 : Int32).toInt64) * (b.toInt64))), .second, rv b23, iv 1, iv 1, iv 2, iv 1] [(.int 1)]) := fun t k => K t (XS.goto X32.here hx rfl (pc0 := 171) (pc' := 175) rfl (hb hby at_171) (by decide) (by decide) k)
        replace K : OGo p e below A0 T32 (mkF m 177 #[iv p1, iv p2, iv 1, iv b, .val (.long (((1 : Int32).toInt64) * (b.toInt64))), .second, rv b23, iv 1, iv 1, iv 2, iv 1] []) := fun t k => K t (XS.istore X32.here hx rfl (hb hby at_175) rfl (l' := #[iv p1, iv p2, iv 1, iv b, .val (.long (((1 : Int32).toInt64) * (b.toInt64))), .second, rv b23, iv 1, iv 1, iv 2, iv 1]) rfl k)
        replace K : OGo p e below A0 T32 (mkF m 178 #[iv p1, iv p2, iv 1, iv b, .val (.long (((1 : Int32).toInt64) * (b.toInt64))), .second, rv b23, iv 1, iv 1, iv 2, iv 1] [(.int 3)]) := fun t k => K t (XS.iconst X32.here hx rfl (hb hby at_177) k)
        replace K : OGo p e below A0 T32 (mkF m 180 #[iv p1, iv p2, iv 1, iv b, .val (.long (((1 : Int32).toInt64) * (b.toInt64))), .second, rv b23, iv 1, iv 1, iv 3, iv 1] []) := fun t k => K t (XS.istore X32.here hx rfl (hb hby at_178) rfl (l' := #[iv p1, iv p2, iv 1, iv b, .val (.long (((1 : Int32).toInt64) * (b.toInt64))), .second, rv b23, iv 1, iv 1, iv 3, iv 1]) rfl k)
        replace K : OGo p e below A0 T32 (mkF m 181 #[iv p1, iv p2, iv 1, iv b, .val (.long (((1 : Int32).toInt64) * (b.toInt64))), .second, rv b23, iv 1, iv 1, iv 3, iv 1] [(.int 1)]) := fun t k => K t (XS.iloadN X32.here hx rfl (hb hby at_180) rfl k)
        replace K : OGo p e below A0 T32 (mkF m 182 #[iv p1, iv p2, iv 1, iv b, .val (.long (((1 : Int32).toInt64) * (b.toInt64))), .second, rv b23, iv 1, iv 1, iv 3, iv 1] [(.int 1), (.int 1)]) := fun t k => K t (XS.iconst X32.here hx rfl (hb hby at_181) k)
        replace K : OGo p e below A0 T32 (mkF m 189 #[iv p1, iv p2, iv 1, iv b, .val (.long (((1 : Int32).toInt64) * (b.toInt64))), .second, rv b23, iv 1, iv 1, iv 3, iv 1] []) := fun t k => K t (XS.icmpYes X32.here hx rfl (pc0 := 182) (pc' := 189) rfl (hb hby at_182) rfl (flt ((by decide : ¬ ((1 : Int32) < (1 : Int32))) : ¬ ((1 : Int32) < (1 : Int32)))).2.2.2 (by decide) (by decide) k)
        replace K : OGo p e below A0 T32 (mkF m 190 #[iv p1, iv p2, iv 1, iv b, .val (.long (((1 : Int32).toInt64) * (b.toInt64))), .second, rv b23, iv 1, iv 1, iv 3, iv 1] [(.int 0)]) := fun t k => K t (XS.iconst X32.here hx rfl (hb hby at_189) k)
        replace K : OGo p e below A0 T32 (mkF m 191 #[iv p1, iv p2, iv 1, iv b, .val (.long (((1 : Int32).toInt64) * (b.toInt64))), .second, rv b23, iv 1, iv 1, iv 3, iv 1] [(.int b), (.int 0)]) := fun t k => K t (XS.iloadN X32.here hx rfl (hb hby at_190) rfl k)
        replace K : OGo p e below A0 T32 (mkF m 192 #[iv p1, iv p2, iv 1, iv b, .val (.long (((1 : Int32).toInt64) * (b.toInt64))), .second, rv b23, iv 1, iv 1, iv 3, iv 1] [(.int 1), (.int b), (.int 0)]) := fun t k => K t (XS.iconst X32.here hx rfl (hb hby at_191) k)
        replace K : OGo p e below A0 T32 (mkF m 195 #[iv p1, iv p2, iv 1, iv b, .val (.long (((1 : Int32).toInt64) * (b.toInt64))), .second, rv b23, iv 1, iv 1, iv 3, iv 1] [(.int 0)]) := fun t k => K t (XS.icmpNo X32.here hx rfl (hb hby at_192) rfl (tlt ((own_gt (by omega)) : (1 : Int32) < b)).2.2.2 k)
        replace K : OGo p e below A0 T32 (mkF m 196 #[iv p1, iv p2, iv 1, iv b, .val (.long (((1 : Int32).toInt64) * (b.toInt64))), .second, rv b23, iv 1, iv 1, iv 3, iv 1] [(.int 1), (.int 0)]) := fun t k => K t (XS.iconst X32.here hx rfl (hb hby at_195) k)
        replace K : OGo p e below A0 T32 (mkF m 200 #[iv p1, iv p2, iv 1, iv b, .val (.long (((1 : Int32).toInt64) * (b.toInt64))), .second, rv b23, iv 1, iv 1, iv 3, iv 1] [(.int 1), (.int 0)]) := fun t k => K t (XS.goto X32.here hx rfl (pc0 := 196) (pc' := 200) rfl (hb hby at_196) (by decide) (by decide) k)
        replace K : OGo p e below A0 T32 (mkF m 201 #[iv p1, iv p2, iv 1, iv b, .val (.long (((1 : Int32).toInt64) * (b.toInt64))), .second, rv b23, iv 1, iv 1, iv 3, iv 1] [(.int 1)]) := fun t k => K t (XS.iadd X32.here hx rfl (hb hby at_200) rfl k)
        replace K : OGo p e below A0 T32 (mkF m 203 #[iv p1, iv p2, iv 1, iv b, .val (.long (((1 : Int32).toInt64) * (b.toInt64))), .second, rv b23, iv 1, iv 1, iv 3, iv 1] []) := fun t k => K t (XS.istore X32.here hx rfl (hb hby at_201) rfl (l' := #[iv p1, iv p2, iv 1, iv b, .val (.long (((1 : Int32).toInt64) * (b.toInt64))), .second, rv b23, iv 1, iv 1, iv 3, iv 1]) rfl k)
        replace K : OGo p e below A0 T32 (mkF m 205 #[iv p1, iv p2, iv 1, iv b, .val (.long (((1 : Int32).toInt64) * (b.toInt64))), .second, rv b23, iv 1, iv 1, iv 3, iv 1] [(.int 1)]) := fun t k => K t (XS.iload X32.here hx rfl (hb hby at_203) rfl k)
        replace K : OGo p e below A0 T32 (mkF m 208 #[iv p1, iv p2, iv 1, iv b, .val (.long (((1 : Int32).toInt64) * (b.toInt64))), .second, rv b23, iv 1, iv 1, iv 3, iv 1] []) := fun t k => K t (XS.ifNo X32.here hx rfl (hb hby at_205) rfl ((if0 _ _).trans (feq ((by decide : ¬ ((1 : Int32) = (0 : Int32))) : ¬ ((1 : Int32) = (0 : Int32)))).1) k)
        replace K : OGo p e below A0 T32 (mkF m 210 #[iv p1, iv p2, iv 1, iv b, .val (.long (((1 : Int32).toInt64) * (b.toInt64))), .second, rv b23, iv 1, iv 1, iv 3, iv 1] [(.ref b23)]) := fun t k => K t (XS.aload X32.here hx rfl (hb hby at_208) rfl rfl k)
        obtain ⟨cq33, kq33, qv33a, qv33b, qv33c⟩ := isOf hZ e32 P32_0
        obtain ⟨_, _, ⟨T33, L33, k33, n33⟩, -, X33, ⟨Lc33, hQ33, l33, y33, z33⟩, st33⟩ := X32.virtualBack hx (y := mN5) (z := mN5) hown (mvT hZ (ow hw 52 rfl)) (mvT hZ (ow hw 53 rfl)) (notFace_of_selects (args := #[]) (mvT hZ (ow hw 55 rfl))) (mvT hZ (ow hw 55 rfl)) (mvT hZ (ow hw 54 rfl)) (by decide) (backOf (W := 0) (rm_fewest l Z a0 hw [] b23 (3 : Int32) (1 : Int32) hp32 n0 Z32 P32_5 P32_3) hZ (ow hw 56 rfl) (ow hw 7 rfl) (by decide) (by decide)) qv33a qv33c (g := (mkF m 210 #[iv p1, iv p2, iv 1, iv b, .val (.long (((1 : Int32).toInt64) * (b.toInt64))), .second, rv b23, iv 1, iv 1, iv 3, iv 1] [(.ref b23)])) rfl (by rw [hml]; rfl) (Steps.refl _) (argsL := []) (rest := []) (lenOf pd___I rfl) rfl (by show 2 * 0 + _ ≤ _; exact Nat.le_of_eq rfl) (hb hby at_210) (fun _ _ => ⟨rfl, e32, (by decide : 5 + 0 ≤ _), (by decide : 40 + 0 ≤ _)⟩)
        dsimp only [Pt.U, Pt.locs, Pt.cells, Pt.slots] at X33 l33 y33 z33 st33 hQ33
        subst l33 y33 z33
        obtain ⟨rfl, Nq33, e33⟩ := hQ33
        have N33 := Fr.app N32 Nq33
        replace K : OGo p e below A0 T33 (mkF m 213 #[iv p1, iv p2, iv 1, iv b, .val (.long (((1 : Int32).toInt64) * (b.toInt64))), .second, rv b23, iv 1, iv 1, iv 3, iv 1] [(.int (own_max (3 : Int32) ((1 : Int32) + (1 : Int32))))]) := fun t k => K t (st33.trans k)
        replace K : OGo p e below A0 T33 (mkF m 215 #[iv p1, iv p2, iv 1, iv b, .val (.long (((1 : Int32).toInt64) * (b.toInt64))), .second, rv b23, iv 1, iv 1, iv 3, iv 1] [(.int 3), (.int (own_max (3 : Int32) ((1 : Int32) + (1 : Int32))))]) := fun t k => K t (XS.iload X33.here hx rfl (hb hby at_213) rfl k)
        replace K : OGo p e below A0 T33 (mkF m 217 #[iv p1, iv p2, iv 1, iv b, .val (.long (((1 : Int32).toInt64) * (b.toInt64))), .second, rv b23, iv 1, iv 1, iv 3, iv 1] [(.int 1), (.int 3), (.int (own_max (3 : Int32) ((1 : Int32) + (1 : Int32))))]) := fun t k => K t (XS.iload X33.here hx rfl (hb hby at_215) rfl k)
        replace K : OGo p e below A0 T33 (mkF m 218 #[iv p1, iv p2, iv 1, iv b, .val (.long (((1 : Int32).toInt64) * (b.toInt64))), .second, rv b23, iv 1, iv 1, iv 3, iv 1] [(.int 1), (.int 1), (.int 3), (.int (own_max (3 : Int32) ((1 : Int32) + (1 : Int32))))]) := fun t k => K t (XS.iconst X33.here hx rfl (hb hby at_217) k)
        replace K : OGo p e below A0 T33 (mkF m 219 #[iv p1, iv p2, iv 1, iv b, .val (.long (((1 : Int32).toInt64) * (b.toInt64))), .second, rv b23, iv 1, iv 1, iv 3, iv 1] [(.int 2), (.int 3), (.int (own_max (3 : Int32) ((1 : Int32) + (1 : Int32))))]) := fun t k => K t (XS.iadd X33.here hx rfl (hb hby at_218) rfl k)
        obtain ⟨_, _, ⟨T34, L34, k34, n34⟩, -, X34, ⟨Lc34, hQ34, l34, y34, z34⟩, st34⟩ := Jvm.LawKit.callS X33 hx (y := mN1) hown (mvT hZ (ow hw 61 rfl)) (mvT hZ (ow hw 58 rfl)) (mvT hZ (ow hw 59 rfl)) (mvT hZ (ow hw 60 rfl)) (by decide) (backOf (W := 1) (rm_max l Z a0 hw [] (3 : Int32) (2 : Int32) hp32 n0 Z32 ) hZ (ow hw 60 rfl) (ow hw 59 rfl) (by decide) (by decide)) (g := (mkF m 219 #[iv p1, iv p2, iv 1, iv b, .val (.long (((1 : Int32).toInt64) * (b.toInt64))), .second, rv b23, iv 1, iv 1, iv 3, iv 1] [(.int 2), (.int 3), (.int (own_max (3 : Int32) ((1 : Int32) + (1 : Int32))))])) rfl (by rw [hml]; rfl) (argsL := [(.int (3 : Int32)), (.int (2 : Int32))]) (rest := [(.int (own_max (3 : Int32) ((1 : Int32) + (1 : Int32))))]) (lenOf pd__II_I rfl) rfl (by show 2 * 0 + _ ≤ _; exact Nat.le_of_eq rfl) (hb hby at_219) (fun _ _ => ⟨rfl, e33, (by decide : 5 + 0 ≤ _), (by decide : 40 + 0 ≤ _)⟩)
        dsimp only [Pt.U, Pt.locs, Pt.cells, Pt.slots] at X34 l34 y34 z34 st34 hQ34
        subst l34 y34 z34
        obtain ⟨rfl, Nq34, e34⟩ := hQ34
        have N34 := Fr.app N33 Nq34
        replace K : OGo p e below A0 T34 (mkF m 222 #[iv p1, iv p2, iv 1, iv b, .val (.long (((1 : Int32).toInt64) * (b.toInt64))), .second, rv b23, iv 1, iv 1, iv 3, iv 1] [(.int (own_max (3 : Int32) (2 : Int32))), (.int (own_max (3 : Int32) ((1 : Int32) + (1 : Int32))))]) := fun t k => K t (st34 t k)
        replace K : OGo p e below A0 T34 (mkF m 225 #[iv p1, iv p2, iv 1, iv b, .val (.long (((1 : Int32).toInt64) * (b.toInt64))), .second, rv b23, iv 1, iv 1, iv 3, iv 1] []) := fun t k => K t (XS.icmpNo X34.here hx rfl (hb hby at_222) rfl (teq ((by decide) : (own_max (3 : Int32) ((1 : Int32) + (1 : Int32))) = (own_max (3 : Int32) (2 : Int32)))).2 k)
        replace K : OGo p e below A0 T34 (mkF m 226 #[iv p1, iv p2, iv 1, iv b, .val (.long (((1 : Int32).toInt64) * (b.toInt64))), .second, rv b23, iv 1, iv 1, iv 3, iv 1] [(.int 1)]) := fun t k => K t (XS.iconst X34.here hx rfl (hb hby at_225) k)
        replace K : OGo p e below A0 T34 (mkF m 230 #[iv p1, iv p2, iv 1, iv b, .val (.long (((1 : Int32).toInt64) * (b.toInt64))), .second, rv b23, iv 1, iv 1, iv 3, iv 1] [(.int 1)]) := fun t k => K t (XS.goto X34.here hx rfl (pc0 := 226) (pc' := 230) rfl (hb hby at_226) (by decide) (by decide) k)
        replace K : OGo p e below A0 T34 (mkF m 232 #[iv p1, iv p2, iv 1, iv b, .val (.long (((1 : Int32).toInt64) * (b.toInt64))), .second, rv b23, iv 1, iv 1, iv 3, iv 1] []) := fun t k => K t (XS.istore X34.here hx rfl (hb hby at_230) rfl (l' := #[iv p1, iv p2, iv 1, iv b, .val (.long (((1 : Int32).toInt64) * (b.toInt64))), .second, rv b23, iv 1, iv 1, iv 3, iv 1]) rfl k)
        replace K : OGo p e below A0 T34 (mkF m 234 #[iv p1, iv p2, iv 1, iv b, .val (.long (((1 : Int32).toInt64) * (b.toInt64))), .second, rv b23, iv 1, iv 1, iv 3, iv 1] [(.int 1)]) := fun t k => K t (XS.iload X34.here hx rfl (hb hby at_232) rfl k)
        obtain ⟨fs, hr, hrun, hended, hW, hsame⟩ := X34.leave (v := some (.int (1 : Int32))) (fun h => by rw [Bd.returns] at h; cases h)
        subst hA0
        refine ⟨_, _, K _ (retN X34 hx (t := .boolean) Bd.returns (by simp) (hb hby at_234) hr), hrun, hended, _, _, rfl, ?_, ⟨_, rfl⟩, hW, hsame.mono (by decide) (by decide)⟩
        show Q_law Z p1 p2 h0 n0 _ T34.heap _
        rw [e34]
        exact ⟨rfl, N34⟩
  · replace hna := own_ge hna ha1 (by decide)
    by_cases hb1 : b = (1 : Int32)
    · subst hb1
      by_cases ha2 : a = (2 : Int32)
      · subst ha2
        replace K : OGo p e below A0 T2 (mkF m 11 #[iv p1, iv p2, iv 2, iv 1, .unset, .unset, .unset, .unset, .unset, .unset, .unset] [(.int 2)]) := fun t k => K t (XS.iloadN X2.here hx rfl (hb hby at_10) rfl k)
        replace K : OGo p e below A0 T2 (mkF m 12 #[iv p1, iv p2, iv 2, iv 1, .unset, .unset, .unset, .unset, .unset, .unset, .unset] [(.long ((2 : Int32).toInt64))]) := fun t k => K t (XS.i2l X2.here hx rfl (hb hby at_11) rfl k)
        replace K : OGo p e below A0 T2 (mkF m 13 #[iv p1, iv p2, iv 2, iv 1, .unset, .unset, .unset, .unset, .unset, .unset, .unset] [(.int 1), (.long ((2 : Int32).toInt64))]) := fun t k => K t (XS.iloadN X2.here hx rfl (hb hby at_12) rfl k)
        replace K : OGo p e below A0 T2 (mkF m 14 #[iv p1, iv p2, iv 2, iv 1, .unset, .unset, .unset, .unset, .unset, .unset, .unset] [(.long ((1 : Int32).toInt64)), (.long ((2 : Int32).toInt64))]) := fun t k => K t (XS.i2l X2.here hx rfl (hb hby at_13) rfl k)
        replace K : OGo p e below A0 T2 (mkF m 15 #[iv p1, iv p2, iv 2, iv 1, .unset, .unset, .unset, .unset, .unset, .unset, .unset] [(.long (((2 : Int32).toInt64) * ((1 : Int32).toInt64)))]) := fun t k => K t (XS.lmul X2.here hx rfl (hb hby at_14) rfl k)
        replace K : OGo p e below A0 T2 (mkF m 17 #[iv p1, iv p2, iv 2, iv 1, .val (.long (((2 : Int32).toInt64) * ((1 : Int32).toInt64))), .second, .unset, .unset, .unset, .unset, .unset] []) := fun t k => K t (XS.lstore X2.here hx rfl (hb hby at_15) rfl (l' := #[iv p1, iv p2, iv 2, iv 1, .val (.long (((2 : Int32).toInt64) * ((1 : Int32).toInt64))), .second, .unset, .unset, .unset, .unset, .unset]) rfl k)
        obtain ⟨T35, h35, X35, e35, E35, A35, D35, -, st35⟩ := newO X2 hx hZ hown (ow hw 5 rfl) (ow hw 6 rfl) (ow hw 7 rfl) e2 (g := (mkF m 17 #[iv p1, iv p2, iv 2, iv 1, .val (.long (((2 : Int32).toInt64) * ((1 : Int32).toInt64))), .second, .unset, .unset, .unset, .unset, .unset] [])) rfl (hb hby at_17) (by decide) (by decide)
        obtain ⟨b35, gz35⟩ : ∃ z, z = h0.size := ⟨_, rfl⟩
        rw [← gz35] at A35 D35 st35
        have g_b35 : n0 ≤ b35 := Nat.le_trans Z0 (Nat.le_of_eq gz35.symm)
        have Z35 : n0 ≤ h35.size := Nat.le_trans Z0 E35.1
        have F_taken_b35 : Fld Z h35 b35 cN0 "taken" "[I" .null := D35 (Or.inl (ow hw 16 rfl)) (ty := (.array .int)) (by decide)
        have F_counts_b35 : Fld Z h35 b35 cN0 "counts" "[I" .null := D35 (Or.inl (ow hw 18 rfl)) (ty := (.array .int)) (by decide)
        have F_values_b35 : Fld Z h35 b35 cN0 "values" "[I" .null := D35 (Or.inl (ow hw 20 rfl)) (ty := (.array .int)) (by decide)
        have F_types_b35 : Fld Z h35 b35 cN0 "types" cN1 .null := D35 (Or.inl (ow hw 24 rfl)) (ty := (.array (.object "com/example/flote/flote/program/Type"))) (by decide)
        have F_met_b35 : Fld Z h35 b35 cN0 "met" "I" (.int (0 : Int32)) := D35 (Or.inl (ow hw 31 rfl)) (ty := .int) (by decide)
        have F_repeated_b35 : Fld Z h35 b35 cN0 "repeated" "I" (.int (0 : Int32)) := D35 (Or.inl (ow hw 33 rfl)) (ty := .int) (by decide)
        have F_branches_b35 : Fld Z h35 b35 cN0 "branches" "I" (.int (0 : Int32)) := D35 (Or.inl (ow hw 35 rfl)) (ty := .int) (by decide)
        have F_computed_b35 : Fld Z h35 b35 cN0 "computed" "I" (.int (0 : Int32)) := D35 (Or.inl (ow hw 37 rfl)) (ty := .int) (by decide)
        replace K : OGo p e below A0 T35 (mkF m 20 #[iv p1, iv p2, iv 2, iv 1, .val (.long (((2 : Int32).toInt64) * ((1 : Int32).toInt64))), .second, .unset, .unset, .unset, .unset, .unset] [(.ref b35)]) := fun t k => K t (st35 t k)
        replace K : OGo p e below A0 T35 (mkF m 21 #[iv p1, iv p2, iv 2, iv 1, .val (.long (((2 : Int32).toInt64) * ((1 : Int32).toInt64))), .second, .unset, .unset, .unset, .unset, .unset] [(.ref b35), (.ref b35)]) := fun t k => K t (XS.dup X35.here hx rfl (hb hby at_20) rfl rfl k)
        obtain ⟨_, _, ⟨T36, L36, k36, n36⟩, -, X36, ⟨Lc36, hQ36, l36, y36, z36⟩, st36⟩ := X35.specialBack hx (y := mN2) rfl hown (mvT hZ (ow hw 8 rfl)) (mvT hZ (ow hw 9 rfl)) (mvT hZ (ow hw 10 rfl)) (by decide) (backOf (W := 1) (rm_init l Z a0 hw [] b35 h35 n0 Z35 A35 F_taken_b35 F_counts_b35 F_values_b35 F_types_b35 F_met_b35 F_repeated_b35 F_branches_b35 F_computed_b35 g_b35) hZ (ow hw 10 rfl) (ow hw 7 rfl) (by decide) (by decide)) (g := (mkF m 21 #[iv p1, iv p2, iv 2, iv 1, .val (.long (((2 : Int32).toInt64) * ((1 : Int32).toInt64))), .second, .unset, .unset, .unset, .unset, .unset] [(.ref b35), (.ref b35)])) rfl (by rw [hml]; rfl) (Steps.refl _) (a := b35) (argsL := []) (rest := [(.ref b35)]) (lenOf pd___V rfl) rfl (by show 2 * 0 + _ ≤ _; exact Nat.le_of_eq rfl) (hb hby at_21) (fun _ _ => ⟨rfl, e35, (by decide : 1 + 4 ≤ _), (by decide : 8 + 32 ≤ _)⟩)
        dsimp only [Pt.U, Pt.locs, Pt.cells, Pt.slots] at X36 l36 y36 z36 st36 hQ36
        subst l36 y36 z36
        obtain ⟨hp36, e36⟩ : ∃ z, T36.heap = z := ⟨_, rfl⟩
        rw [e36] at hQ36
        obtain ⟨rfl, Nq36, ta_36, ca_36, kt_36, kc_36, K36, P36_0, P36_1, P36_2, P36_3, P36_4, P36_5, P36_6, P36_7, P36_8, P36_9, P36_10, P36_11⟩ := hQ36
        have ne_b35_ta_36 : b35 ≠ ta_36 := Nat.ne_of_lt (Nat.lt_of_lt_of_le A35.lt P36_0)
        have g_ta_36 : n0 ≤ ta_36 := Nat.le_trans Z35 P36_0
        have ne_b35_ca_36 : b35 ≠ ca_36 := Nat.ne_of_lt (Nat.lt_of_lt_of_le A35.lt P36_1)
        have g_ca_36 : n0 ≤ ca_36 := Nat.le_trans Z35 P36_1
        have Z36 : n0 ≤ hp36.size := Nat.le_trans Z35 K36.1
        have N36 := Fr.app N2 Nq36
        replace K : OGo p e below A0 T36 (mkF m 24 #[iv p1, iv p2, iv 2, iv 1, .val (.long (((2 : Int32).toInt64) * ((1 : Int32).toInt64))), .second, .unset, .unset, .unset, .unset, .unset] [(.ref b35)]) := fun t k => K t (st36.trans k)
        replace K : OGo p e below A0 T36 (mkF m 26 #[iv p1, iv p2, iv 2, iv 1, .val (.long (((2 : Int32).toInt64) * ((1 : Int32).toInt64))), .second, rv b35, .unset, .unset, .unset, .unset] []) := fun t k => K t (XS.astore X36.here hx rfl (hb hby at_24) rfl rfl (l' := #[iv p1, iv p2, iv 2, iv 1, .val (.long (((2 : Int32).toInt64) * ((1 : Int32).toInt64))), .second, rv b35, .unset, .unset, .unset, .unset]) rfl k)
        replace K : OGo p e below A0 T36 (mkF m 28 #[iv p1, iv p2, iv 2, iv 1, .val (.long (((2 : Int32).toInt64) * ((1 : Int32).toInt64))), .second, rv b35, .unset, .unset, .unset, .unset] [(.ref b35)]) := fun t k => K t (XS.aload X36.here hx rfl (hb hby at_26) rfl rfl k)
        obtain ⟨cq37, kq37, qv37a, qv37b, qv37c⟩ := isOf hZ e36 P36_3
        obtain ⟨_, _, ⟨T37, L37, k37, n37⟩, -, X37, ⟨Lc37, hQ37, l37, y37, z37⟩, st37⟩ := X36.virtualBack hx (y := mN3) (z := mN3) hown (mvT hZ (ow hw 25 rfl)) (mvT hZ (ow hw 26 rfl)) (notFace_of_selects (args := #[]) (mvT hZ (ow hw 28 rfl))) (mvT hZ (ow hw 28 rfl)) (mvT hZ (ow hw 27 rfl)) (by decide) (backOf (W := 0) (rm_begin l Z a0 hw [] b35 ta_36 ca_36 kt_36 kc_36 hp36 n0 Z36 P36_3 P36_4 P36_5 P36_6 P36_7 P36_8 P36_9 P36_10 P36_11 g_b35 ne_b35_ta_36 ne_b35_ca_36) hZ (ow hw 29 rfl) (ow hw 7 rfl) (by decide) (by decide)) qv37a qv37c (g := (mkF m 28 #[iv p1, iv p2, iv 2, iv 1, .val (.long (((2 : Int32).toInt64) * ((1 : Int32).toInt64))), .second, rv b35, .unset, .unset, .unset, .unset] [(.ref b35)])) rfl (by rw [hml]; rfl) (Steps.refl _) (argsL := []) (rest := []) (lenOf pd___V rfl) rfl (by show 2 * 0 + _ ≤ _; exact Nat.le_of_eq rfl) (hb hby at_28) (fun _ _ => ⟨rfl, e36, (by decide : 5 + 0 ≤ _), (by decide : 40 + 0 ≤ _)⟩)
        dsimp only [Pt.U, Pt.locs, Pt.cells, Pt.slots] at X37 l37 y37 z37 st37 hQ37
        subst l37 y37 z37
        obtain ⟨hp37, e37⟩ : ∃ z, T37.heap = z := ⟨_, rfl⟩
        rw [e37] at hQ37
        obtain ⟨rfl, Nq37, K37, P37_0, P37_1, P37_2, P37_3, P37_4, P37_5, P37_6⟩ := hQ37
        have Z37 : n0 ≤ hp37.size := Nat.le_trans Z36 K37.1
        have N37 := Fr.app N36 Nq37
        replace K : OGo p e below A0 T37 (mkF m 31 #[iv p1, iv p2, iv 2, iv 1, .val (.long (((2 : Int32).toInt64) * ((1 : Int32).toInt64))), .second, rv b35, .unset, .unset, .unset, .unset] []) := fun t k => K t (st37.trans k)
        replace K : OGo p e below A0 T37 (mkF m 33 #[iv p1, iv p2, iv 2, iv 1, .val (.long (((2 : Int32).toInt64) * ((1 : Int32).toInt64))), .second, rv b35, .unset, .unset, .unset, .unset] [(.ref b35)]) := fun t k => K t (XS.aload X37.here hx rfl (hb hby at_31) rfl rfl k)
        replace K : OGo p e below A0 T37 (mkF m 34 #[iv p1, iv p2, iv 2, iv 1, .val (.long (((2 : Int32).toInt64) * ((1 : Int32).toInt64))), .second, rv b35, .unset, .unset, .unset, .unset] [(.int 2), (.ref b35)]) := fun t k => K t (XS.iloadN X37.here hx rfl (hb hby at_33) rfl k)
        replace K : OGo p e below A0 T37 (mkF m 35 #[iv p1, iv p2, iv 2, iv 1, .val (.long (((2 : Int32).toInt64) * ((1 : Int32).toInt64))), .second, rv b35, .unset, .unset, .unset, .unset] [(.int 1), (.int 2), (.ref b35)]) := fun t k => K t (XS.iloadN X37.here hx rfl (hb hby at_34) rfl k)
        replace K : OGo p e below A0 T37 (mkF m 36 #[iv p1, iv p2, iv 2, iv 1, .val (.long (((2 : Int32).toInt64) * ((1 : Int32).toInt64))), .second, rv b35, .unset, .unset, .unset, .unset] [(.int 0), (.int 1), (.int 2), (.ref b35)]) := fun t k => K t (XS.iconst X37.here hx rfl (hb hby at_35) k)
        have V_ta_36_39 := (P36_10.keep K37 (ninS (Ne.symm ne_b35_ta_36) nin0))
        have V_ca_36_40 := (P36_11.keep K37 (ninS (Ne.symm ne_b35_ca_36) nin0))
        obtain ⟨_, _, ⟨T38, L38, k38, n38⟩, -, X38, ⟨Lc38, hQ38, l38, y38, z38⟩, st38⟩ := Jvm.LawKit.callS X37 hx (y := mN6) hown (mvT hZ (ow hw 38 rfl)) (mvT hZ (ow hw 39 rfl)) (mvT hZ (ow hw 2 rfl)) (mvT hZ (ow hw 40 rfl)) (by decide) (backOf (W := 0) (rm_bok_s21_0 l Z a0 hw [] b35 ta_36 ca_36 kt_36 kc_36 hp37 n0 Z37 P37_0 P37_1 P37_2 P37_3 P37_4 P37_5 P37_6 V_ta_36_39 V_ca_36_40 g_b35 g_ta_36 g_ca_36 ne_b35_ta_36 ne_b35_ca_36 P36_2) hZ (ow hw 40 rfl) (ow hw 2 rfl) (by decide) (by decide)) (g := (mkF m 36 #[iv p1, iv p2, iv 2, iv 1, .val (.long (((2 : Int32).toInt64) * ((1 : Int32).toInt64))), .second, rv b35, .unset, .unset, .unset, .unset] [(.int 0), (.int 1), (.int 2), (.ref b35)])) rfl (by rw [hml]; rfl) (argsL := [(.ref b35), (.int (2 : Int32)), (.int (1 : Int32)), (.int (0 : Int32))]) (rest := []) (lenOf pd__Lcom_example_flote_flote_program_Choices_III_Z rfl) rfl (by show 2 * 0 + _ ≤ _; exact Nat.le_of_eq rfl) (hb hby at_36) (fun _ _ => ⟨rfl, e37, (by decide : 5 + 0 ≤ _), (by decide : 40 + 0 ≤ _)⟩)
        dsimp only [Pt.U, Pt.locs, Pt.cells, Pt.slots] at X38 l38 y38 z38 st38 hQ38
        subst l38 y38 z38
        obtain ⟨hp38, e38⟩ : ∃ z, T38.heap = z := ⟨_, rfl⟩
        rw [e38] at hQ38
        obtain ⟨rfl, Nq38, K38, P38_0, P38_1, P38_2, P38_3, P38_4, P38_5, P38_6, P38_7, P38_8⟩ := hQ38
        have Z38 : n0 ≤ hp38.size := Nat.le_trans Z37 K38.1
        have N38 := Fr.app N37 Nq38
        replace K : OGo p e below A0 T38 (mkF m 39 #[iv p1, iv p2, iv 2, iv 1, .val (.long (((2 : Int32).toInt64) * ((1 : Int32).toInt64))), .second, rv b35, .unset, .unset, .unset, .unset] [(.int 1)]) := fun t k => K t (st38 t k)
        replace K : OGo p e below A0 T38 (mkF m 41 #[iv p1, iv p2, iv 2, iv 1, .val (.long (((2 : Int32).toInt64) * ((1 : Int32).toInt64))), .second, rv b35, iv 1, .unset, .unset, .unset] []) := fun t k => K t (XS.istore X38.here hx rfl (hb hby at_39) rfl (l' := #[iv p1, iv p2, iv 2, iv 1, .val (.long (((2 : Int32).toInt64) * ((1 : Int32).toInt64))), .second, rv b35, iv 1, .unset, .unset, .unset]) rfl k)
        replace K : OGo p e below A0 T38 (mkF m 43 #[iv p1, iv p2, iv 2, iv 1, .val (.long (((2 : Int32).toInt64) * ((1 : Int32).toInt64))), .second, rv b35, iv 1, .unset, .unset, .unset] [(.ref b35)]) := fun t k => K t (XS.aload X38.here hx rfl (hb hby at_41) rfl rfl k)
        obtain ⟨cq41, kq41, qv41a, qv41b, qv41c⟩ := isOf hZ e38 P38_0
        obtain ⟨_, _, ⟨T41, L41, k41, n41⟩, -, X41, ⟨Lc41, hQ41, l41, y41, z41⟩, st41⟩ := X38.virtualBack hx (y := mN7) (z := mN7) hown (mvT hZ (ow hw 46 rfl)) (mvT hZ (ow hw 47 rfl)) (notFace_of_selects (args := #[]) (mvT hZ (ow hw 49 rfl))) (mvT hZ (ow hw 49 rfl)) (mvT hZ (ow hw 48 rfl)) (by decide) (backOf (W := 0) (rm_nx_A_lit2 l Z a0 hw [] b35 ta_36 ca_36 kt_36 kc_36 hp38 n0 Z38 P38_0 P38_1 P38_2 P38_3 P38_4 P38_5 P38_6 P38_7 P38_8 g_b35 g_ta_36 g_ca_36 ne_b35_ta_36 ne_b35_ca_36 P36_2) hZ (ow hw 50 rfl) (ow hw 7 rfl) (by decide) (by decide)) qv41a qv41c (g := (mkF m 43 #[iv p1, iv p2, iv 2, iv 1, .val (.long (((2 : Int32).toInt64) * ((1 : Int32).toInt64))), .second, rv b35, iv 1, .unset, .unset, .unset] [(.ref b35)])) rfl (by rw [hml]; rfl) (Steps.refl _) (argsL := []) (rest := []) (lenOf pd___Z rfl) rfl (by show 2 * 0 + _ ≤ _; exact Nat.le_of_eq rfl) (hb hby at_43) (fun _ _ => ⟨rfl, e38, (by decide : 5 + 0 ≤ _), (by decide : 40 + 0 ≤ _)⟩)
        dsimp only [Pt.U, Pt.locs, Pt.cells, Pt.slots] at X41 l41 y41 z41 st41 hQ41
        subst l41 y41 z41
        obtain ⟨hp41, e41⟩ : ∃ z, T41.heap = z := ⟨_, rfl⟩
        rw [e41] at hQ41
        obtain ⟨rfl, Nq41, K41, P41_0, P41_1, P41_2, P41_3, P41_4, P41_5, P41_6, P41_7, P41_8⟩ := hQ41
        have Z41 : n0 ≤ hp41.size := Nat.le_trans Z38 K41.1
        have N41 := Fr.app N38 Nq41
        replace K : OGo p e below A0 T41 (mkF m 46 #[iv p1, iv p2, iv 2, iv 1, .val (.long (((2 : Int32).toInt64) * ((1 : Int32).toInt64))), .second, rv b35, iv 1, .unset, .unset, .unset] [(.int 1)]) := fun t k => K t (st41.trans k)
        replace K : OGo p e below A0 T41 (mkF m 48 #[iv p1, iv p2, iv 2, iv 1, .val (.long (((2 : Int32).toInt64) * ((1 : Int32).toInt64))), .second, rv b35, iv 1, iv 1, .unset, .unset] []) := fun t k => K t (XS.istore X41.here hx rfl (hb hby at_46) rfl (l' := #[iv p1, iv p2, iv 2, iv 1, .val (.long (((2 : Int32).toInt64) * ((1 : Int32).toInt64))), .second, rv b35, iv 1, iv 1, .unset, .unset]) rfl k)
        replace K : OGo p e below A0 T41 (mkF m 50 #[iv p1, iv p2, iv 2, iv 1, .val (.long (((2 : Int32).toInt64) * ((1 : Int32).toInt64))), .second, rv b35, iv 1, iv 1, .unset, .unset] [(.int 1)]) := fun t k => K t (XS.iload X41.here hx rfl (hb hby at_48) rfl k)
        replace K : OGo p e below A0 T41 (mkF m 53 #[iv p1, iv p2, iv 2, iv 1, .val (.long (((2 : Int32).toInt64) * ((1 : Int32).toInt64))), .second, rv b35, iv 1, iv 1, .unset, .unset] []) := fun t k => K t (XS.ifNo X41.here hx rfl (hb hby at_50) rfl ((if0 _ _).trans (feq ((by decide : ¬ ((1 : Int32) = (0 : Int32))) : ¬ ((1 : Int32) = (0 : Int32)))).1) k)
        replace K : OGo p e below A0 T41 (mkF m 55 #[iv p1, iv p2, iv 2, iv 1, .val (.long (((2 : Int32).toInt64) * ((1 : Int32).toInt64))), .second, rv b35, iv 1, iv 1, .unset, .unset] [(.int 1)]) := fun t k => K t (XS.iload X41.here hx rfl (hb hby at_53) rfl k)
        replace K : OGo p e below A0 T41 (mkF m 56 #[iv p1, iv p2, iv 2, iv 1, .val (.long (((2 : Int32).toInt64) * ((1 : Int32).toInt64))), .second, rv b35, iv 1, iv 1, .unset, .unset] [(.long 1), (.int 1)]) := fun t k => K t (XS.lconst X41.here hx rfl (hb hby at_55) k)
        replace K : OGo p e below A0 T41 (mkF m 58 #[iv p1, iv p2, iv 2, iv 1, .val (.long (((2 : Int32).toInt64) * ((1 : Int32).toInt64))), .second, rv b35, iv 1, iv 1, .unset, .unset] [(.long (((2 : Int32).toInt64) * ((1 : Int32).toInt64))), (.long 1), (.int 1)]) := fun t k => K t (XS.lload X41.here hx rfl (hb hby at_56) rfl k)
        replace K : OGo p e below A0 T41 (mkF m 59 #[iv p1, iv p2, iv 2, iv 1, .val (.long (((2 : Int32).toInt64) * ((1 : Int32).toInt64))), .second, rv b35, iv 1, iv 1, .unset, .unset] [(.int (lcmpW (1 : Int64) (((2 : Int32).toInt64) * ((1 : Int32).toInt64)))), (.int 1)]) := fun t k => K t (XS.lcmp X41.here hx rfl (hb hby at_58) rfl k)
        replace K : OGo p e below A0 T41 (mkF m 62 #[iv p1, iv p2, iv 2, iv 1, .val (.long (((2 : Int32).toInt64) * ((1 : Int32).toInt64))), .second, rv b35, iv 1, iv 1, .unset, .unset] [(.int 1)]) := fun t k => K t (XS.ifNo X41.here hx rfl (hb hby at_59) rfl ((if0 _ _).trans (tlt ((lw_lt (1 : Int64) (((2 : Int32).toInt64) * ((1 : Int32).toInt64))).mpr ((by decide) : (1 : Int64) < (((2 : Int32).toInt64) * ((1 : Int32).toInt64))))).2.1) k)
        replace K : OGo p e below A0 T41 (mkF m 63 #[iv p1, iv p2, iv 2, iv 1, .val (.long (((2 : Int32).toInt64) * ((1 : Int32).toInt64))), .second, rv b35, iv 1, iv 1, .unset, .unset] [(.int 1), (.int 1)]) := fun t k => K t (XS.iconst X41.here hx rfl (hb hby at_62) k)
        replace K : OGo p e below A0 T41 (mkF m 67 #[iv p1, iv p2, iv 2, iv 1, .val (.long (((2 : Int32).toInt64) * ((1 : Int32).toInt64))), .second, rv b35, iv 1, iv 1, .unset, .unset] [(.int 1), (.int 1)]) := fun t k => K t (XS.goto X41.here hx rfl (pc0 := 63) (pc' := 67) rfl (hb hby at_63) (by decide) (by decide) k)
        replace K : OGo p e below A0 T41 (mkF m 70 #[iv p1, iv p2, iv 2, iv 1, .val (.long (((2 : Int32).toInt64) * ((1 : Int32).toInt64))), .second, rv b35, iv 1, iv 1, .unset, .unset] []) := fun t k => K t (XS.icmpNo X41.here hx rfl (hb hby at_67) rfl (teq ((by decide : (1 : Int32) = (1 : Int32)) : (1 : Int32) = (1 : Int32))).2 k)
        replace K : OGo p e below A0 T41 (mkF m 71 #[iv p1, iv p2, iv 2, iv 1, .val (.long (((2 : Int32).toInt64) * ((1 : Int32).toInt64))), .second, rv b35, iv 1, iv 1, .unset, .unset] [(.int 1)]) := fun t k => K t (XS.iconst X41.here hx rfl (hb hby at_70) k)
        replace K : OGo p e below A0 T41 (mkF m 75 #[iv p1, iv p2, iv 2, iv 1, .val (.long (((2 : Int32).toInt64) * ((1 : Int32).toInt64))), .second, rv b35, iv 1, iv 1, .unset, .unset] [(.int 1)]) := fun t k => K t (XS.goto X41.here hx rfl (pc0 := 71) (pc' := 75) rfl (hb hby at_71) (by decide) (by decide) k)
        replace K : OGo p e below A0 T41 (mkF m 77 #[iv p1, iv p2, iv 2, iv 1, .val (.long (((2 : Int32).toInt64) * ((1 : Int32).toInt64))), .second, rv b35, iv 1, iv 1, .unset, .unset] []) := fun t k => K t (XS.istore X41.here hx rfl (hb hby at_75) rfl (l' := #[iv p1, iv p2, iv 2, iv 1, .val (.long (((2 : Int32).toInt64) * ((1 : Int32).toInt64))), .second, rv b35, iv 1, iv 1, .unset, .unset]) rfl k)
        replace K : OGo p e below A0 T41 (mkF m 78 #[iv p1, iv p2, iv 2, iv 1, .val (.long (((2 : Int32).toInt64) * ((1 : Int32).toInt64))), .second, rv b35, iv 1, iv 1, .unset, .unset] [(.int 1)]) := fun t k => K t (XS.iconst X41.here hx rfl (hb hby at_77) k)
        replace K : OGo p e below A0 T41 (mkF m 80 #[iv p1, iv p2, iv 2, iv 1, .val (.long (((2 : Int32).toInt64) * ((1 : Int32).toInt64))), .second, rv b35, iv 1, iv 1, iv 1, .unset] []) := fun t k => K t (XS.istore X41.here hx rfl (hb hby at_78) rfl (l' := #[iv p1, iv p2, iv 2, iv 1, .val (.long (((2 : Int32).toInt64) * ((1 : Int32).toInt64))), .second, rv b35, iv 1, iv 1, iv 1, .unset]) rfl k)
        replace K : OGo p e below A0 T41 (mkF m 82 #[iv p1, iv p2, iv 2, iv 1, .val (.long (((2 : Int32).toInt64) * ((1 : Int32).toInt64))), .second, rv b35, iv 1, iv 1, iv 1, .unset] [(.int 1)]) := fun t k => K t (XS.iload X41.here hx rfl (hb hby at_80) rfl k)
        replace K : OGo p e below A0 T41 (mkF m 85 #[iv p1, iv p2, iv 2, iv 1, .val (.long (((2 : Int32).toInt64) * ((1 : Int32).toInt64))), .second, rv b35, iv 1, iv 1, iv 1, .unset] []) := fun t k => K t (XS.ifNo X41.here hx rfl (hb hby at_82) rfl ((if0 _ _).trans (feq ((by decide : ¬ ((1 : Int32) = (0 : Int32))) : ¬ ((1 : Int32) = (0 : Int32)))).1) k)
        replace K : OGo p e below A0 T41 (mkF m 87 #[iv p1, iv p2, iv 2, iv 1, .val (.long (((2 : Int32).toInt64) * ((1 : Int32).toInt64))), .second, rv b35, iv 1, iv 1, iv 1, .unset] [(.int 1)]) := fun t k => K t (XS.iload X41.here hx rfl (hb hby at_85) rfl k)
        replace K : OGo p e below A0 T41 (mkF m 90 #[iv p1, iv p2, iv 2, iv 1, .val (.long (((2 : Int32).toInt64) * ((1 : Int32).toInt64))), .second, rv b35, iv 1, iv 1, iv 1, .unset] []) := fun t k => K t (XS.ifNo X41.here hx rfl (hb hby at_87) rfl ((if0 _ _).trans (feq ((by decide : ¬ ((1 : Int32) = (0 : Int32))) : ¬ ((1 : Int32) = (0 : Int32)))).1) k)
        replace K : OGo p e below A0 T41 (mkF m 92 #[iv p1, iv p2, iv 2, iv 1, .val (.long (((2 : Int32).toInt64) * ((1 : Int32).toInt64))), .second, rv b35, iv 1, iv 1, iv 1, .unset] [(.ref b35)]) := fun t k => K t (XS.aload X41.here hx rfl (hb hby at_90) rfl rfl k)
        replace K : OGo p e below A0 T41 (mkF m 93 #[iv p1, iv p2, iv 2, iv 1, .val (.long (((2 : Int32).toInt64) * ((1 : Int32).toInt64))), .second, rv b35, iv 1, iv 1, iv 1, .unset] [(.int 2), (.ref b35)]) := fun t k => K t (XS.iloadN X41.here hx rfl (hb hby at_92) rfl k)
        replace K : OGo p e below A0 T41 (mkF m 94 #[iv p1, iv p2, iv 2, iv 1, .val (.long (((2 : Int32).toInt64) * ((1 : Int32).toInt64))), .second, rv b35, iv 1, iv 1, iv 1, .unset] [(.int 1), (.int 2), (.ref b35)]) := fun t k => K t (XS.iloadN X41.here hx rfl (hb hby at_93) rfl k)
        replace K : OGo p e below A0 T41 (mkF m 95 #[iv p1, iv p2, iv 2, iv 1, .val (.long (((2 : Int32).toInt64) * ((1 : Int32).toInt64))), .second, rv b35, iv 1, iv 1, iv 1, .unset] [(.int 1), (.int 1), (.int 2), (.ref b35)]) := fun t k => K t (XS.iconst X41.here hx rfl (hb hby at_94) k)
        obtain ⟨_, _, ⟨T42, L42, k42, n42⟩, -, X42, ⟨Lc42, hQ42, l42, y42, z42⟩, st42⟩ := Jvm.LawKit.callS X41 hx (y := mN6) hown (mvT hZ (ow hw 38 rfl)) (mvT hZ (ow hw 39 rfl)) (mvT hZ (ow hw 2 rfl)) (mvT hZ (ow hw 40 rfl)) (by decide) (backOf (W := 0) (rm_bok_s21_1 l Z a0 hw [] b35 ta_36 ca_36 kt_36 kc_36 hp41 n0 Z41 P41_0 P41_1 P41_2 P41_3 P41_4 P41_5 P41_6 P41_7 P41_8 g_b35 g_ta_36 g_ca_36 ne_b35_ta_36 ne_b35_ca_36 P36_2) hZ (ow hw 40 rfl) (ow hw 2 rfl) (by decide) (by decide)) (g := (mkF m 95 #[iv p1, iv p2, iv 2, iv 1, .val (.long (((2 : Int32).toInt64) * ((1 : Int32).toInt64))), .second, rv b35, iv 1, iv 1, iv 1, .unset] [(.int 1), (.int 1), (.int 2), (.ref b35)])) rfl (by rw [hml]; rfl) (argsL := [(.ref b35), (.int (2 : Int32)), (.int (1 : Int32)), (.int (1 : Int32))]) (rest := []) (lenOf pd__Lcom_example_flote_flote_program_Choices_III_Z rfl) rfl (by show 2 * 0 + _ ≤ _; exact Nat.le_of_eq rfl) (hb hby at_95) (fun _ _ => ⟨rfl, e41, (by decide : 5 + 0 ≤ _), (by decide : 40 + 0 ≤ _)⟩)
        dsimp only [Pt.U, Pt.locs, Pt.cells, Pt.slots] at X42 l42 y42 z42 st42 hQ42
        subst l42 y42 z42
        obtain ⟨hp42, e42⟩ : ∃ z, T42.heap = z := ⟨_, rfl⟩
        rw [e42] at hQ42
        obtain ⟨rfl, Nq42, K42, P42_0, P42_1, P42_2, P42_3, P42_4, P42_5, P42_6, P42_7, P42_8⟩ := hQ42
        have Z42 : n0 ≤ hp42.size := Nat.le_trans Z41 K42.1
        have N42 := Fr.app N41 Nq42
        replace K : OGo p e below A0 T42 (mkF m 98 #[iv p1, iv p2, iv 2, iv 1, .val (.long (((2 : Int32).toInt64) * ((1 : Int32).toInt64))), .second, rv b35, iv 1, iv 1, iv 1, .unset] [(.int 1)]) := fun t k => K t (st42 t k)
        replace K : OGo p e below A0 T42 (mkF m 101 #[iv p1, iv p2, iv 2, iv 1, .val (.long (((2 : Int32).toInt64) * ((1 : Int32).toInt64))), .second, rv b35, iv 1, iv 1, iv 1, .unset] []) := fun t k => K t (XS.ifNo X42.here hx rfl (hb hby at_98) rfl ((if0 _ _).trans (feq ((by decide : ¬ ((1 : Int32) = (0 : Int32))) : ¬ ((1 : Int32) = (0 : Int32)))).1) k)
        replace K : OGo p e below A0 T42 (mkF m 102 #[iv p1, iv p2, iv 2, iv 1, .val (.long (((2 : Int32).toInt64) * ((1 : Int32).toInt64))), .second, rv b35, iv 1, iv 1, iv 1, .unset] [(.int 1)]) := fun t k => K t (XS.iconst X42.here hx rfl (hb hby at_101) k)
        replace K : OGo p e below A0 T42 (mkF m 106 #[iv p1, iv p2, iv 2, iv 1, .val (.long (((2 : Int32).toInt64) * ((1 : Int32).toInt64))), .second, rv b35, iv 1, iv 1, iv 1, .unset] [(.int 1)]) := fun t k => K t (XS.goto X42.here hx rfl (pc0 := 102) (pc' := 106) rfl (hb hby at_102) (by decide) (by decide) k)
        replace K : OGo p e below A0 T42 (mkF m 108 #[iv p1, iv p2, iv 2, iv 1, .val (.long (((2 : Int32).toInt64) * ((1 : Int32).toInt64))), .second, rv b35, iv 1, iv 1, iv 1, .unset] []) := fun t k => K t (XS.istore X42.here hx rfl (hb hby at_106) rfl (l' := #[iv p1, iv p2, iv 2, iv 1, .val (.long (((2 : Int32).toInt64) * ((1 : Int32).toInt64))), .second, rv b35, iv 1, iv 1, iv 1, .unset]) rfl k)
        replace K : OGo p e below A0 T42 (mkF m 110 #[iv p1, iv p2, iv 2, iv 1, .val (.long (((2 : Int32).toInt64) * ((1 : Int32).toInt64))), .second, rv b35, iv 1, iv 1, iv 1, .unset] [(.ref b35)]) := fun t k => K t (XS.aload X42.here hx rfl (hb hby at_108) rfl rfl k)
        obtain ⟨cq43, kq43, qv43a, qv43b, qv43c⟩ := isOf hZ e42 P42_0
        obtain ⟨_, _, ⟨T43, L43, k43, n43⟩, -, X43, ⟨Lc43, hQ43, l43, y43, z43⟩, st43⟩ := X42.virtualBack hx (y := mN7) (z := mN7) hown (mvT hZ (ow hw 46 rfl)) (mvT hZ (ow hw 47 rfl)) (notFace_of_selects (args := #[]) (mvT hZ (ow hw 49 rfl))) (mvT hZ (ow hw 49 rfl)) (mvT hZ (ow hw 48 rfl)) (by decide) (backOf (W := 0) (rm_nx_B_lit2 l Z a0 hw [] b35 ta_36 ca_36 kt_36 kc_36 hp42 n0 Z42 P42_0 P42_1 P42_2 P42_3 P42_4 P42_5 P42_6 P42_7 P42_8 g_b35 g_ta_36 g_ca_36 ne_b35_ta_36 ne_b35_ca_36 P36_2) hZ (ow hw 50 rfl) (ow hw 7 rfl) (by decide) (by decide)) qv43a qv43c (g := (mkF m 110 #[iv p1, iv p2, iv 2, iv 1, .val (.long (((2 : Int32).toInt64) * ((1 : Int32).toInt64))), .second, rv b35, iv 1, iv 1, iv 1, .unset] [(.ref b35)])) rfl (by rw [hml]; rfl) (Steps.refl _) (argsL := []) (rest := []) (lenOf pd___Z rfl) rfl (by show 2 * 0 + _ ≤ _; exact Nat.le_of_eq rfl) (hb hby at_110) (fun _ _ => ⟨rfl, e42, (by decide : 5 + 0 ≤ _), (by decide : 40 + 0 ≤ _)⟩)
        dsimp only [Pt.U, Pt.locs, Pt.cells, Pt.slots] at X43 l43 y43 z43 st43 hQ43
        subst l43 y43 z43
        obtain ⟨hp43, e43⟩ : ∃ z, T43.heap = z := ⟨_, rfl⟩
        rw [e43] at hQ43
        obtain ⟨rfl, Nq43, K43, P43_0, P43_1, P43_2, P43_3, P43_4, P43_5, P43_6, P43_7, P43_8⟩ := hQ43
        have Z43 : n0 ≤ hp43.size := Nat.le_trans Z42 K43.1
        have N43 := Fr.app N42 Nq43
        replace K : OGo p e below A0 T43 (mkF m 113 #[iv p1, iv p2, iv 2, iv 1, .val (.long (((2 : Int32).toInt64) * ((1 : Int32).toInt64))), .second, rv b35, iv 1, iv 1, iv 1, .unset] [(.int 0)]) := fun t k => K t (st43.trans k)
        replace K : OGo p e below A0 T43 (mkF m 115 #[iv p1, iv p2, iv 2, iv 1, .val (.long (((2 : Int32).toInt64) * ((1 : Int32).toInt64))), .second, rv b35, iv 1, iv 1, iv 1, iv 0] []) := fun t k => K t (XS.istore X43.here hx rfl (hb hby at_113) rfl (l' := #[iv p1, iv p2, iv 2, iv 1, .val (.long (((2 : Int32).toInt64) * ((1 : Int32).toInt64))), .second, rv b35, iv 1, iv 1, iv 1, iv 0]) rfl k)
        replace K : OGo p e below A0 T43 (mkF m 117 #[iv p1, iv p2, iv 2, iv 1, .val (.long (((2 : Int32).toInt64) * ((1 : Int32).toInt64))), .second, rv b35, iv 1, iv 1, iv 1, iv 0] [(.int 1)]) := fun t k => K t (XS.iload X43.here hx rfl (hb hby at_115) rfl k)
        replace K : OGo p e below A0 T43 (mkF m 120 #[iv p1, iv p2, iv 2, iv 1, .val (.long (((2 : Int32).toInt64) * ((1 : Int32).toInt64))), .second, rv b35, iv 1, iv 1, iv 1, iv 0] []) := fun t k => K t (XS.ifNo X43.here hx rfl (hb hby at_117) rfl ((if0 _ _).trans (feq ((by decide : ¬ ((1 : Int32) = (0 : Int32))) : ¬ ((1 : Int32) = (0 : Int32)))).1) k)
        replace K : OGo p e below A0 T43 (mkF m 122 #[iv p1, iv p2, iv 2, iv 1, .val (.long (((2 : Int32).toInt64) * ((1 : Int32).toInt64))), .second, rv b35, iv 1, iv 1, iv 1, iv 0] [(.int 0)]) := fun t k => K t (XS.iload X43.here hx rfl (hb hby at_120) rfl k)
        replace K : OGo p e below A0 T43 (mkF m 125 #[iv p1, iv p2, iv 2, iv 1, .val (.long (((2 : Int32).toInt64) * ((1 : Int32).toInt64))), .second, rv b35, iv 1, iv 1, iv 1, iv 0] [(.long 2), (.int 0)]) := fun t k => K t (X43.ldc2Long hx hown (mvT hZ (ow hw 51 rfl)) (g := (mkF m 122 #[iv p1, iv p2, iv 2, iv 1, .val (.long (((2 : Int32).toInt64) * ((1 : Int32).toInt64))), .second, rv b35, iv 1, iv 1, iv 1, iv 0] [(.int 0)])) rfl (hb hby at_122) t k)
        replace K : OGo p e below A0 T43 (mkF m 127 #[iv p1, iv p2, iv 2, iv 1, .val (.long (((2 : Int32).toInt64) * ((1 : Int32).toInt64))), .second, rv b35, iv 1, iv 1, iv 1, iv 0] [(.long (((2 : Int32).toInt64) * ((1 : Int32).toInt64))), (.long 2), (.int 0)]) := fun t k => K t (XS.lload X43.here hx rfl (hb hby at_125) rfl k)
        replace K : OGo p e below A0 T43 (mkF m 128 #[iv p1, iv p2, iv 2, iv 1, .val (.long (((2 : Int32).toInt64) * ((1 : Int32).toInt64))), .second, rv b35, iv 1, iv 1, iv 1, iv 0] [(.int (lcmpW (2 : Int64) (((2 : Int32).toInt64) * ((1 : Int32).toInt64)))), (.int 0)]) := fun t k => K t (XS.lcmp X43.here hx rfl (hb hby at_127) rfl k)
        replace K : OGo p e below A0 T43 (mkF m 135 #[iv p1, iv p2, iv 2, iv 1, .val (.long (((2 : Int32).toInt64) * ((1 : Int32).toInt64))), .second, rv b35, iv 1, iv 1, iv 1, iv 0] [(.int 0)]) := fun t k => K t (XS.ifYes X43.here hx rfl (pc0 := 128) (pc' := 135) rfl (hb hby at_128) rfl ((if0 _ _).trans (flt (fun q => ((by decide) : ¬ ((2 : Int64) < (((2 : Int32).toInt64) * ((1 : Int32).toInt64)))) ((lw_lt (2 : Int64) (((2 : Int32).toInt64) * ((1 : Int32).toInt64))).mp q))).2.1) (by decide) (by decide) k)
        replace K : OGo p e below A0 T43 (mkF m 136 #[iv p1, iv p2, iv 2, iv 1, .val (.long (((2 : Int32).toInt64) * ((1 : Int32).toInt64))), .second, rv b35, iv 1, iv 1, iv 1, iv 0] [(.int 0), (.int 0)]) := fun t k => K t (XS.iconst X43.here hx rfl (hb hby at_135) k)
        replace K : OGo p e below A0 T43 (mkF m 139 #[iv p1, iv p2, iv 2, iv 1, .val (.long (((2 : Int32).toInt64) * ((1 : Int32).toInt64))), .second, rv b35, iv 1, iv 1, iv 1, iv 0] []) := fun t k => K t (XS.icmpNo X43.here hx rfl (hb hby at_136) rfl (teq ((by decide : (0 : Int32) = (0 : Int32)) : (0 : Int32) = (0 : Int32))).2 k)
        replace K : OGo p e below A0 T43 (mkF m 140 #[iv p1, iv p2, iv 2, iv 1, .val (.long (((2 : Int32).toInt64) * ((1 : Int32).toInt64))), .second, rv b35, iv 1, iv 1, iv 1, iv 0] [(.int 1)]) := fun t k => K t (XS.iconst X43.here hx rfl (hb hby at_139) k)
        replace K : OGo p e below A0 T43 (mkF m 144 #[iv p1, iv p2, iv 2, iv 1, .val (.long (((2 : Int32).toInt64) * ((1 : Int32).toInt64))), .second, rv b35, iv 1, iv 1, iv 1, iv 0] [(.int 1)]) := fun t k => K t (XS.goto X43.here hx rfl (pc0 := 140) (pc' := 144) rfl (hb hby at_140) (by decide) (by decide) k)
        replace K : OGo p e below A0 T43 (mkF m 146 #[iv p1, iv p2, iv 2, iv 1, .val (.long (((2 : Int32).toInt64) * ((1 : Int32).toInt64))), .second, rv b35, iv 1, iv 1, iv 1, iv 0] []) := fun t k => K t (XS.istore X43.here hx rfl (hb hby at_144) rfl (l' := #[iv p1, iv p2, iv 2, iv 1, .val (.long (((2 : Int32).toInt64) * ((1 : Int32).toInt64))), .second, rv b35, iv 1, iv 1, iv 1, iv 0]) rfl k)
        replace K : OGo p e below A0 T43 (mkF m 147 #[iv p1, iv p2, iv 2, iv 1, .val (.long (((2 : Int32).toInt64) * ((1 : Int32).toInt64))), .second, rv b35, iv 1, iv 1, iv 1, iv 0] [(.int 2)]) := fun t k => K t (XS.iconst X43.here hx rfl (hb hby at_146) k)
        replace K : OGo p e below A0 T43 (mkF m 149 #[iv p1, iv p2, iv 2, iv 1, .val (.long (((2 : Int32).toInt64) * ((1 : Int32).toInt64))), .second, rv b35, iv 1, iv 1, iv 2, iv 0] []) := fun t k => K t (XS.istore X43.here hx rfl (hb hby at_147) rfl (l' := #[iv p1, iv p2, iv 2, iv 1, .val (.long (((2 : Int32).toInt64) * ((1 : Int32).toInt64))), .second, rv b35, iv 1, iv 1, iv 2, iv 0]) rfl k)
        replace K : OGo p e below A0 T43 (mkF m 151 #[iv p1, iv p2, iv 2, iv 1, .val (.long (((2 : Int32).toInt64) * ((1 : Int32).toInt64))), .second, rv b35, iv 1, iv 1, iv 2, iv 0] [(.int 0)]) := fun t k => K t (XS.iload X43.here hx rfl (hb hby at_149) rfl k)
        replace K : OGo p e below A0 T43 (mkF m 180 #[iv p1, iv p2, iv 2, iv 1, .val (.long (((2 : Int32).toInt64) * ((1 : Int32).toInt64))), .second, rv b35, iv 1, iv 1, iv 2, iv 0] []) := fun t k => K t (XS.ifYes X43.here hx rfl (pc0 := 151) (pc' := 180) rfl (hb hby at_151) rfl ((if0 _ _).trans (teq ((by decide : (0 : Int32) = (0 : Int32)) : (0 : Int32) = (0 : Int32))).1) (by decide) (by decide) k)
        replace K : OGo p e below A0 T43 (mkF m 181 #[iv p1, iv p2, iv 2, iv 1, .val (.long (((2 : Int32).toInt64) * ((1 : Int32).toInt64))), .second, rv b35, iv 1, iv 1, iv 2, iv 0] [(.int 2)]) := fun t k => K t (XS.iloadN X43.here hx rfl (hb hby at_180) rfl k)
        replace K : OGo p e below A0 T43 (mkF m 182 #[iv p1, iv p2, iv 2, iv 1, .val (.long (((2 : Int32).toInt64) * ((1 : Int32).toInt64))), .second, rv b35, iv 1, iv 1, iv 2, iv 0] [(.int 1), (.int 2)]) := fun t k => K t (XS.iconst X43.here hx rfl (hb hby at_181) k)
        replace K : OGo p e below A0 T43 (mkF m 185 #[iv p1, iv p2, iv 2, iv 1, .val (.long (((2 : Int32).toInt64) * ((1 : Int32).toInt64))), .second, rv b35, iv 1, iv 1, iv 2, iv 0] []) := fun t k => K t (XS.icmpNo X43.here hx rfl (hb hby at_182) rfl (tlt ((by decide : (1 : Int32) < (2 : Int32)) : (1 : Int32) < (2 : Int32))).2.2.2 k)
        replace K : OGo p e below A0 T43 (mkF m 186 #[iv p1, iv p2, iv 2, iv 1, .val (.long (((2 : Int32).toInt64) * ((1 : Int32).toInt64))), .second, rv b35, iv 1, iv 1, iv 2, iv 0] [(.int 1)]) := fun t k => K t (XS.iconst X43.here hx rfl (hb hby at_185) k)
        replace K : OGo p e below A0 T43 (mkF m 190 #[iv p1, iv p2, iv 2, iv 1, .val (.long (((2 : Int32).toInt64) * ((1 : Int32).toInt64))), .second, rv b35, iv 1, iv 1, iv 2, iv 0] [(.int 1)]) := fun t k => K t (XS.goto X43.here hx rfl (pc0 := 186) (pc' := 190) rfl (hb hby at_186) (by decide) (by decide) k)
        replace K : OGo p e below A0 T43 (mkF m 191 #[iv p1, iv p2, iv 2, iv 1, .val (.long (((2 : Int32).toInt64) * ((1 : Int32).toInt64))), .second, rv b35, iv 1, iv 1, iv 2, iv 0] [(.int 1), (.int 1)]) := fun t k => K t (XS.iloadN X43.here hx rfl (hb hby at_190) rfl k)
        replace K : OGo p e below A0 T43 (mkF m 192 #[iv p1, iv p2, iv 2, iv 1, .val (.long (((2 : Int32).toInt64) * ((1 : Int32).toInt64))), .second, rv b35, iv 1, iv 1, iv 2, iv 0] [(.int 1), (.int 1), (.int 1)]) := fun t k => K t (XS.iconst X43.here hx rfl (hb hby at_191) k)
        replace K : OGo p e below A0 T43 (mkF m 199 #[iv p1, iv p2, iv 2, iv 1, .val (.long (((2 : Int32).toInt64) * ((1 : Int32).toInt64))), .second, rv b35, iv 1, iv 1, iv 2, iv 0] [(.int 1)]) := fun t k => K t (XS.icmpYes X43.here hx rfl (pc0 := 192) (pc' := 199) rfl (hb hby at_192) rfl (flt ((by decide : ¬ ((1 : Int32) < (1 : Int32))) : ¬ ((1 : Int32) < (1 : Int32)))).2.2.2 (by decide) (by decide) k)
        replace K : OGo p e below A0 T43 (mkF m 200 #[iv p1, iv p2, iv 2, iv 1, .val (.long (((2 : Int32).toInt64) * ((1 : Int32).toInt64))), .second, rv b35, iv 1, iv 1, iv 2, iv 0] [(.int 0), (.int 1)]) := fun t k => K t (XS.iconst X43.here hx rfl (hb hby at_199) k)
        replace K : OGo p e below A0 T43 (mkF m 201 #[iv p1, iv p2, iv 2, iv 1, .val (.long (((2 : Int32).toInt64) * ((1 : Int32).toInt64))), .second, rv b35, iv 1, iv 1, iv 2, iv 0] [(.int 1)]) := fun t k => K t (XS.iadd X43.here hx rfl (hb hby at_200) rfl k)
        replace K : OGo p e below A0 T43 (mkF m 203 #[iv p1, iv p2, iv 2, iv 1, .val (.long (((2 : Int32).toInt64) * ((1 : Int32).toInt64))), .second, rv b35, iv 1, iv 1, iv 2, iv 1] []) := fun t k => K t (XS.istore X43.here hx rfl (hb hby at_201) rfl (l' := #[iv p1, iv p2, iv 2, iv 1, .val (.long (((2 : Int32).toInt64) * ((1 : Int32).toInt64))), .second, rv b35, iv 1, iv 1, iv 2, iv 1]) rfl k)
        replace K : OGo p e below A0 T43 (mkF m 205 #[iv p1, iv p2, iv 2, iv 1, .val (.long (((2 : Int32).toInt64) * ((1 : Int32).toInt64))), .second, rv b35, iv 1, iv 1, iv 2, iv 1] [(.int 1)]) := fun t k => K t (XS.iload X43.here hx rfl (hb hby at_203) rfl k)
        replace K : OGo p e below A0 T43 (mkF m 208 #[iv p1, iv p2, iv 2, iv 1, .val (.long (((2 : Int32).toInt64) * ((1 : Int32).toInt64))), .second, rv b35, iv 1, iv 1, iv 2, iv 1] []) := fun t k => K t (XS.ifNo X43.here hx rfl (hb hby at_205) rfl ((if0 _ _).trans (feq ((by decide : ¬ ((1 : Int32) = (0 : Int32))) : ¬ ((1 : Int32) = (0 : Int32)))).1) k)
        replace K : OGo p e below A0 T43 (mkF m 210 #[iv p1, iv p2, iv 2, iv 1, .val (.long (((2 : Int32).toInt64) * ((1 : Int32).toInt64))), .second, rv b35, iv 1, iv 1, iv 2, iv 1] [(.ref b35)]) := fun t k => K t (XS.aload X43.here hx rfl (hb hby at_208) rfl rfl k)
        obtain ⟨cq44, kq44, qv44a, qv44b, qv44c⟩ := isOf hZ e43 P43_0
        obtain ⟨_, _, ⟨T44, L44, k44, n44⟩, -, X44, ⟨Lc44, hQ44, l44, y44, z44⟩, st44⟩ := X43.virtualBack hx (y := mN5) (z := mN5) hown (mvT hZ (ow hw 52 rfl)) (mvT hZ (ow hw 53 rfl)) (notFace_of_selects (args := #[]) (mvT hZ (ow hw 55 rfl))) (mvT hZ (ow hw 55 rfl)) (mvT hZ (ow hw 54 rfl)) (by decide) (backOf (W := 0) (rm_fewest l Z a0 hw [] b35 (2 : Int32) (1 : Int32) hp43 n0 Z43 P43_5 P43_3) hZ (ow hw 56 rfl) (ow hw 7 rfl) (by decide) (by decide)) qv44a qv44c (g := (mkF m 210 #[iv p1, iv p2, iv 2, iv 1, .val (.long (((2 : Int32).toInt64) * ((1 : Int32).toInt64))), .second, rv b35, iv 1, iv 1, iv 2, iv 1] [(.ref b35)])) rfl (by rw [hml]; rfl) (Steps.refl _) (argsL := []) (rest := []) (lenOf pd___I rfl) rfl (by show 2 * 0 + _ ≤ _; exact Nat.le_of_eq rfl) (hb hby at_210) (fun _ _ => ⟨rfl, e43, (by decide : 5 + 0 ≤ _), (by decide : 40 + 0 ≤ _)⟩)
        dsimp only [Pt.U, Pt.locs, Pt.cells, Pt.slots] at X44 l44 y44 z44 st44 hQ44
        subst l44 y44 z44
        obtain ⟨rfl, Nq44, e44⟩ := hQ44
        have N44 := Fr.app N43 Nq44
        replace K : OGo p e below A0 T44 (mkF m 213 #[iv p1, iv p2, iv 2, iv 1, .val (.long (((2 : Int32).toInt64) * ((1 : Int32).toInt64))), .second, rv b35, iv 1, iv 1, iv 2, iv 1] [(.int (own_max (2 : Int32) ((1 : Int32) + (1 : Int32))))]) := fun t k => K t (st44.trans k)
        replace K : OGo p e below A0 T44 (mkF m 215 #[iv p1, iv p2, iv 2, iv 1, .val (.long (((2 : Int32).toInt64) * ((1 : Int32).toInt64))), .second, rv b35, iv 1, iv 1, iv 2, iv 1] [(.int 2), (.int (own_max (2 : Int32) ((1 : Int32) + (1 : Int32))))]) := fun t k => K t (XS.iload X44.here hx rfl (hb hby at_213) rfl k)
        replace K : OGo p e below A0 T44 (mkF m 217 #[iv p1, iv p2, iv 2, iv 1, .val (.long (((2 : Int32).toInt64) * ((1 : Int32).toInt64))), .second, rv b35, iv 1, iv 1, iv 2, iv 1] [(.int 1), (.int 2), (.int (own_max (2 : Int32) ((1 : Int32) + (1 : Int32))))]) := fun t k => K t (XS.iload X44.here hx rfl (hb hby at_215) rfl k)
        replace K : OGo p e below A0 T44 (mkF m 218 #[iv p1, iv p2, iv 2, iv 1, .val (.long (((2 : Int32).toInt64) * ((1 : Int32).toInt64))), .second, rv b35, iv 1, iv 1, iv 2, iv 1] [(.int 1), (.int 1), (.int 2), (.int (own_max (2 : Int32) ((1 : Int32) + (1 : Int32))))]) := fun t k => K t (XS.iconst X44.here hx rfl (hb hby at_217) k)
        replace K : OGo p e below A0 T44 (mkF m 219 #[iv p1, iv p2, iv 2, iv 1, .val (.long (((2 : Int32).toInt64) * ((1 : Int32).toInt64))), .second, rv b35, iv 1, iv 1, iv 2, iv 1] [(.int 2), (.int 2), (.int (own_max (2 : Int32) ((1 : Int32) + (1 : Int32))))]) := fun t k => K t (XS.iadd X44.here hx rfl (hb hby at_218) rfl k)
        obtain ⟨_, _, ⟨T45, L45, k45, n45⟩, -, X45, ⟨Lc45, hQ45, l45, y45, z45⟩, st45⟩ := Jvm.LawKit.callS X44 hx (y := mN1) hown (mvT hZ (ow hw 61 rfl)) (mvT hZ (ow hw 58 rfl)) (mvT hZ (ow hw 59 rfl)) (mvT hZ (ow hw 60 rfl)) (by decide) (backOf (W := 1) (rm_max l Z a0 hw [] (2 : Int32) (2 : Int32) hp43 n0 Z43 ) hZ (ow hw 60 rfl) (ow hw 59 rfl) (by decide) (by decide)) (g := (mkF m 219 #[iv p1, iv p2, iv 2, iv 1, .val (.long (((2 : Int32).toInt64) * ((1 : Int32).toInt64))), .second, rv b35, iv 1, iv 1, iv 2, iv 1] [(.int 2), (.int 2), (.int (own_max (2 : Int32) ((1 : Int32) + (1 : Int32))))])) rfl (by rw [hml]; rfl) (argsL := [(.int (2 : Int32)), (.int (2 : Int32))]) (rest := [(.int (own_max (2 : Int32) ((1 : Int32) + (1 : Int32))))]) (lenOf pd__II_I rfl) rfl (by show 2 * 0 + _ ≤ _; exact Nat.le_of_eq rfl) (hb hby at_219) (fun _ _ => ⟨rfl, e44, (by decide : 5 + 0 ≤ _), (by decide : 40 + 0 ≤ _)⟩)
        dsimp only [Pt.U, Pt.locs, Pt.cells, Pt.slots] at X45 l45 y45 z45 st45 hQ45
        subst l45 y45 z45
        obtain ⟨rfl, Nq45, e45⟩ := hQ45
        have N45 := Fr.app N44 Nq45
        replace K : OGo p e below A0 T45 (mkF m 222 #[iv p1, iv p2, iv 2, iv 1, .val (.long (((2 : Int32).toInt64) * ((1 : Int32).toInt64))), .second, rv b35, iv 1, iv 1, iv 2, iv 1] [(.int (own_max (2 : Int32) (2 : Int32))), (.int (own_max (2 : Int32) ((1 : Int32) + (1 : Int32))))]) := fun t k => K t (st45 t k)
        replace K : OGo p e below A0 T45 (mkF m 225 #[iv p1, iv p2, iv 2, iv 1, .val (.long (((2 : Int32).toInt64) * ((1 : Int32).toInt64))), .second, rv b35, iv 1, iv 1, iv 2, iv 1] []) := fun t k => K t (XS.icmpNo X45.here hx rfl (hb hby at_222) rfl (teq ((by decide) : (own_max (2 : Int32) ((1 : Int32) + (1 : Int32))) = (own_max (2 : Int32) (2 : Int32)))).2 k)
        replace K : OGo p e below A0 T45 (mkF m 226 #[iv p1, iv p2, iv 2, iv 1, .val (.long (((2 : Int32).toInt64) * ((1 : Int32).toInt64))), .second, rv b35, iv 1, iv 1, iv 2, iv 1] [(.int 1)]) := fun t k => K t (XS.iconst X45.here hx rfl (hb hby at_225) k)
        replace K : OGo p e below A0 T45 (mkF m 230 #[iv p1, iv p2, iv 2, iv 1, .val (.long (((2 : Int32).toInt64) * ((1 : Int32).toInt64))), .second, rv b35, iv 1, iv 1, iv 2, iv 1] [(.int 1)]) := fun t k => K t (XS.goto X45.here hx rfl (pc0 := 226) (pc' := 230) rfl (hb hby at_226) (by decide) (by decide) k)
        replace K : OGo p e below A0 T45 (mkF m 232 #[iv p1, iv p2, iv 2, iv 1, .val (.long (((2 : Int32).toInt64) * ((1 : Int32).toInt64))), .second, rv b35, iv 1, iv 1, iv 2, iv 1] []) := fun t k => K t (XS.istore X45.here hx rfl (hb hby at_230) rfl (l' := #[iv p1, iv p2, iv 2, iv 1, .val (.long (((2 : Int32).toInt64) * ((1 : Int32).toInt64))), .second, rv b35, iv 1, iv 1, iv 2, iv 1]) rfl k)
        replace K : OGo p e below A0 T45 (mkF m 234 #[iv p1, iv p2, iv 2, iv 1, .val (.long (((2 : Int32).toInt64) * ((1 : Int32).toInt64))), .second, rv b35, iv 1, iv 1, iv 2, iv 1] [(.int 1)]) := fun t k => K t (XS.iload X45.here hx rfl (hb hby at_232) rfl k)
        obtain ⟨fs, hr, hrun, hended, hW, hsame⟩ := X45.leave (v := some (.int (1 : Int32))) (fun h => by rw [Bd.returns] at h; cases h)
        subst hA0
        refine ⟨_, _, K _ (retN X45 hx (t := .boolean) Bd.returns (by simp) (hb hby at_234) hr), hrun, hended, _, _, rfl, ?_, ⟨_, rfl⟩, hW, hsame.mono (by decide) (by decide)⟩
        show Q_law Z p1 p2 h0 n0 _ T45.heap _
        rw [e45]
        exact ⟨rfl, N45⟩
      · replace hna := own_ge hna ha2 (by decide)
        replace K : OGo p e below A0 T2 (mkF m 11 #[iv p1, iv p2, iv a, iv 1, .unset, .unset, .unset, .unset, .unset, .unset, .unset] [(.int a)]) := fun t k => K t (XS.iloadN X2.here hx rfl (hb hby at_10) rfl k)
        replace K : OGo p e below A0 T2 (mkF m 12 #[iv p1, iv p2, iv a, iv 1, .unset, .unset, .unset, .unset, .unset, .unset, .unset] [(.long (a.toInt64))]) := fun t k => K t (XS.i2l X2.here hx rfl (hb hby at_11) rfl k)
        replace K : OGo p e below A0 T2 (mkF m 13 #[iv p1, iv p2, iv a, iv 1, .unset, .unset, .unset, .unset, .unset, .unset, .unset] [(.int 1), (.long (a.toInt64))]) := fun t k => K t (XS.iloadN X2.here hx rfl (hb hby at_12) rfl k)
        replace K : OGo p e below A0 T2 (mkF m 14 #[iv p1, iv p2, iv a, iv 1, .unset, .unset, .unset, .unset, .unset, .unset, .unset] [(.long ((1 : Int32).toInt64)), (.long (a.toInt64))]) := fun t k => K t (XS.i2l X2.here hx rfl (hb hby at_13) rfl k)
        replace K : OGo p e below A0 T2 (mkF m 15 #[iv p1, iv p2, iv a, iv 1, .unset, .unset, .unset, .unset, .unset, .unset, .unset] [(.long ((a.toInt64) * ((1 : Int32).toInt64)))]) := fun t k => K t (XS.lmul X2.here hx rfl (hb hby at_14) rfl k)
        replace K : OGo p e below A0 T2 (mkF m 17 #[iv p1, iv p2, iv a, iv 1, .val (.long ((a.toInt64) * ((1 : Int32).toInt64))), .second, .unset, .unset, .unset, .unset, .unset] []) := fun t k => K t (XS.lstore X2.here hx rfl (hb hby at_15) rfl (l' := #[iv p1, iv p2, iv a, iv 1, .val (.long ((a.toInt64) * ((1 : Int32).toInt64))), .second, .unset, .unset, .unset, .unset, .unset]) rfl k)
        obtain ⟨T46, h46, X46, e46, E46, A46, D46, -, st46⟩ := newO X2 hx hZ hown (ow hw 5 rfl) (ow hw 6 rfl) (ow hw 7 rfl) e2 (g := (mkF m 17 #[iv p1, iv p2, iv a, iv 1, .val (.long ((a.toInt64) * ((1 : Int32).toInt64))), .second, .unset, .unset, .unset, .unset, .unset] [])) rfl (hb hby at_17) (by decide) (by decide)
        obtain ⟨b46, gz46⟩ : ∃ z, z = h0.size := ⟨_, rfl⟩
        rw [← gz46] at A46 D46 st46
        have g_b46 : n0 ≤ b46 := Nat.le_trans Z0 (Nat.le_of_eq gz46.symm)
        have Z46 : n0 ≤ h46.size := Nat.le_trans Z0 E46.1
        have F_taken_b46 : Fld Z h46 b46 cN0 "taken" "[I" .null := D46 (Or.inl (ow hw 16 rfl)) (ty := (.array .int)) (by decide)
        have F_counts_b46 : Fld Z h46 b46 cN0 "counts" "[I" .null := D46 (Or.inl (ow hw 18 rfl)) (ty := (.array .int)) (by decide)
        have F_values_b46 : Fld Z h46 b46 cN0 "values" "[I" .null := D46 (Or.inl (ow hw 20 rfl)) (ty := (.array .int)) (by decide)
        have F_types_b46 : Fld Z h46 b46 cN0 "types" cN1 .null := D46 (Or.inl (ow hw 24 rfl)) (ty := (.array (.object "com/example/flote/flote/program/Type"))) (by decide)
        have F_met_b46 : Fld Z h46 b46 cN0 "met" "I" (.int (0 : Int32)) := D46 (Or.inl (ow hw 31 rfl)) (ty := .int) (by decide)
        have F_repeated_b46 : Fld Z h46 b46 cN0 "repeated" "I" (.int (0 : Int32)) := D46 (Or.inl (ow hw 33 rfl)) (ty := .int) (by decide)
        have F_branches_b46 : Fld Z h46 b46 cN0 "branches" "I" (.int (0 : Int32)) := D46 (Or.inl (ow hw 35 rfl)) (ty := .int) (by decide)
        have F_computed_b46 : Fld Z h46 b46 cN0 "computed" "I" (.int (0 : Int32)) := D46 (Or.inl (ow hw 37 rfl)) (ty := .int) (by decide)
        replace K : OGo p e below A0 T46 (mkF m 20 #[iv p1, iv p2, iv a, iv 1, .val (.long ((a.toInt64) * ((1 : Int32).toInt64))), .second, .unset, .unset, .unset, .unset, .unset] [(.ref b46)]) := fun t k => K t (st46 t k)
        replace K : OGo p e below A0 T46 (mkF m 21 #[iv p1, iv p2, iv a, iv 1, .val (.long ((a.toInt64) * ((1 : Int32).toInt64))), .second, .unset, .unset, .unset, .unset, .unset] [(.ref b46), (.ref b46)]) := fun t k => K t (XS.dup X46.here hx rfl (hb hby at_20) rfl rfl k)
        obtain ⟨_, _, ⟨T47, L47, k47, n47⟩, -, X47, ⟨Lc47, hQ47, l47, y47, z47⟩, st47⟩ := X46.specialBack hx (y := mN2) rfl hown (mvT hZ (ow hw 8 rfl)) (mvT hZ (ow hw 9 rfl)) (mvT hZ (ow hw 10 rfl)) (by decide) (backOf (W := 1) (rm_init l Z a0 hw [] b46 h46 n0 Z46 A46 F_taken_b46 F_counts_b46 F_values_b46 F_types_b46 F_met_b46 F_repeated_b46 F_branches_b46 F_computed_b46 g_b46) hZ (ow hw 10 rfl) (ow hw 7 rfl) (by decide) (by decide)) (g := (mkF m 21 #[iv p1, iv p2, iv a, iv 1, .val (.long ((a.toInt64) * ((1 : Int32).toInt64))), .second, .unset, .unset, .unset, .unset, .unset] [(.ref b46), (.ref b46)])) rfl (by rw [hml]; rfl) (Steps.refl _) (a := b46) (argsL := []) (rest := [(.ref b46)]) (lenOf pd___V rfl) rfl (by show 2 * 0 + _ ≤ _; exact Nat.le_of_eq rfl) (hb hby at_21) (fun _ _ => ⟨rfl, e46, (by decide : 1 + 4 ≤ _), (by decide : 8 + 32 ≤ _)⟩)
        dsimp only [Pt.U, Pt.locs, Pt.cells, Pt.slots] at X47 l47 y47 z47 st47 hQ47
        subst l47 y47 z47
        obtain ⟨hp47, e47⟩ : ∃ z, T47.heap = z := ⟨_, rfl⟩
        rw [e47] at hQ47
        obtain ⟨rfl, Nq47, ta_47, ca_47, kt_47, kc_47, K47, P47_0, P47_1, P47_2, P47_3, P47_4, P47_5, P47_6, P47_7, P47_8, P47_9, P47_10, P47_11⟩ := hQ47
        have ne_b46_ta_47 : b46 ≠ ta_47 := Nat.ne_of_lt (Nat.lt_of_lt_of_le A46.lt P47_0)
        have g_ta_47 : n0 ≤ ta_47 := Nat.le_trans Z46 P47_0
        have ne_b46_ca_47 : b46 ≠ ca_47 := Nat.ne_of_lt (Nat.lt_of_lt_of_le A46.lt P47_1)
        have g_ca_47 : n0 ≤ ca_47 := Nat.le_trans Z46 P47_1
        have Z47 : n0 ≤ hp47.size := Nat.le_trans Z46 K47.1
        have N47 := Fr.app N2 Nq47
        replace K : OGo p e below A0 T47 (mkF m 24 #[iv p1, iv p2, iv a, iv 1, .val (.long ((a.toInt64) * ((1 : Int32).toInt64))), .second, .unset, .unset, .unset, .unset, .unset] [(.ref b46)]) := fun t k => K t (st47.trans k)
        replace K : OGo p e below A0 T47 (mkF m 26 #[iv p1, iv p2, iv a, iv 1, .val (.long ((a.toInt64) * ((1 : Int32).toInt64))), .second, rv b46, .unset, .unset, .unset, .unset] []) := fun t k => K t (XS.astore X47.here hx rfl (hb hby at_24) rfl rfl (l' := #[iv p1, iv p2, iv a, iv 1, .val (.long ((a.toInt64) * ((1 : Int32).toInt64))), .second, rv b46, .unset, .unset, .unset, .unset]) rfl k)
        replace K : OGo p e below A0 T47 (mkF m 28 #[iv p1, iv p2, iv a, iv 1, .val (.long ((a.toInt64) * ((1 : Int32).toInt64))), .second, rv b46, .unset, .unset, .unset, .unset] [(.ref b46)]) := fun t k => K t (XS.aload X47.here hx rfl (hb hby at_26) rfl rfl k)
        obtain ⟨cq48, kq48, qv48a, qv48b, qv48c⟩ := isOf hZ e47 P47_3
        obtain ⟨_, _, ⟨T48, L48, k48, n48⟩, -, X48, ⟨Lc48, hQ48, l48, y48, z48⟩, st48⟩ := X47.virtualBack hx (y := mN3) (z := mN3) hown (mvT hZ (ow hw 25 rfl)) (mvT hZ (ow hw 26 rfl)) (notFace_of_selects (args := #[]) (mvT hZ (ow hw 28 rfl))) (mvT hZ (ow hw 28 rfl)) (mvT hZ (ow hw 27 rfl)) (by decide) (backOf (W := 0) (rm_begin l Z a0 hw [] b46 ta_47 ca_47 kt_47 kc_47 hp47 n0 Z47 P47_3 P47_4 P47_5 P47_6 P47_7 P47_8 P47_9 P47_10 P47_11 g_b46 ne_b46_ta_47 ne_b46_ca_47) hZ (ow hw 29 rfl) (ow hw 7 rfl) (by decide) (by decide)) qv48a qv48c (g := (mkF m 28 #[iv p1, iv p2, iv a, iv 1, .val (.long ((a.toInt64) * ((1 : Int32).toInt64))), .second, rv b46, .unset, .unset, .unset, .unset] [(.ref b46)])) rfl (by rw [hml]; rfl) (Steps.refl _) (argsL := []) (rest := []) (lenOf pd___V rfl) rfl (by show 2 * 0 + _ ≤ _; exact Nat.le_of_eq rfl) (hb hby at_28) (fun _ _ => ⟨rfl, e47, (by decide : 5 + 0 ≤ _), (by decide : 40 + 0 ≤ _)⟩)
        dsimp only [Pt.U, Pt.locs, Pt.cells, Pt.slots] at X48 l48 y48 z48 st48 hQ48
        subst l48 y48 z48
        obtain ⟨hp48, e48⟩ : ∃ z, T48.heap = z := ⟨_, rfl⟩
        rw [e48] at hQ48
        obtain ⟨rfl, Nq48, K48, P48_0, P48_1, P48_2, P48_3, P48_4, P48_5, P48_6⟩ := hQ48
        have Z48 : n0 ≤ hp48.size := Nat.le_trans Z47 K48.1
        have N48 := Fr.app N47 Nq48
        replace K : OGo p e below A0 T48 (mkF m 31 #[iv p1, iv p2, iv a, iv 1, .val (.long ((a.toInt64) * ((1 : Int32).toInt64))), .second, rv b46, .unset, .unset, .unset, .unset] []) := fun t k => K t (st48.trans k)
        replace K : OGo p e below A0 T48 (mkF m 33 #[iv p1, iv p2, iv a, iv 1, .val (.long ((a.toInt64) * ((1 : Int32).toInt64))), .second, rv b46, .unset, .unset, .unset, .unset] [(.ref b46)]) := fun t k => K t (XS.aload X48.here hx rfl (hb hby at_31) rfl rfl k)
        replace K : OGo p e below A0 T48 (mkF m 34 #[iv p1, iv p2, iv a, iv 1, .val (.long ((a.toInt64) * ((1 : Int32).toInt64))), .second, rv b46, .unset, .unset, .unset, .unset] [(.int a), (.ref b46)]) := fun t k => K t (XS.iloadN X48.here hx rfl (hb hby at_33) rfl k)
        replace K : OGo p e below A0 T48 (mkF m 35 #[iv p1, iv p2, iv a, iv 1, .val (.long ((a.toInt64) * ((1 : Int32).toInt64))), .second, rv b46, .unset, .unset, .unset, .unset] [(.int 1), (.int a), (.ref b46)]) := fun t k => K t (XS.iloadN X48.here hx rfl (hb hby at_34) rfl k)
        replace K : OGo p e below A0 T48 (mkF m 36 #[iv p1, iv p2, iv a, iv 1, .val (.long ((a.toInt64) * ((1 : Int32).toInt64))), .second, rv b46, .unset, .unset, .unset, .unset] [(.int 0), (.int 1), (.int a), (.ref b46)]) := fun t k => K t (XS.iconst X48.here hx rfl (hb hby at_35) k)
        have V_ta_47_50 := (P47_10.keep K48 (ninS (Ne.symm ne_b46_ta_47) nin0))
        have V_ca_47_51 := (P47_11.keep K48 (ninS (Ne.symm ne_b46_ca_47) nin0))
        obtain ⟨_, _, ⟨T49, L49, k49, n49⟩, -, X49, ⟨Lc49, hQ49, l49, y49, z49⟩, st49⟩ := Jvm.LawKit.callS X48 hx (y := mN6) hown (mvT hZ (ow hw 38 rfl)) (mvT hZ (ow hw 39 rfl)) (mvT hZ (ow hw 2 rfl)) (mvT hZ (ow hw 40 rfl)) (by decide) (backOf (W := 0) (rm_bok_s31_0 l Z a0 hw [] b46 a ta_47 ca_47 kt_47 kc_47 hp48 n0 Z48 P48_0 P48_1 P48_2 P48_3 P48_4 P48_5 P48_6 V_ta_47_50 V_ca_47_51 g_b46 g_ta_47 g_ca_47 ne_b46_ta_47 ne_b46_ca_47 P47_2 hna) hZ (ow hw 40 rfl) (ow hw 2 rfl) (by decide) (by decide)) (g := (mkF m 36 #[iv p1, iv p2, iv a, iv 1, .val (.long ((a.toInt64) * ((1 : Int32).toInt64))), .second, rv b46, .unset, .unset, .unset, .unset] [(.int 0), (.int 1), (.int a), (.ref b46)])) rfl (by rw [hml]; rfl) (argsL := [(.ref b46), (.int a), (.int (1 : Int32)), (.int (0 : Int32))]) (rest := []) (lenOf pd__Lcom_example_flote_flote_program_Choices_III_Z rfl) rfl (by show 2 * 0 + _ ≤ _; exact Nat.le_of_eq rfl) (hb hby at_36) (fun _ _ => ⟨rfl, e48, (by decide : 5 + 0 ≤ _), (by decide : 40 + 0 ≤ _)⟩)
        dsimp only [Pt.U, Pt.locs, Pt.cells, Pt.slots] at X49 l49 y49 z49 st49 hQ49
        subst l49 y49 z49
        obtain ⟨hp49, e49⟩ : ∃ z, T49.heap = z := ⟨_, rfl⟩
        rw [e49] at hQ49
        obtain ⟨rfl, Nq49, K49, P49_0, P49_1, P49_2, P49_3, P49_4, P49_5, P49_6, P49_7, P49_8⟩ := hQ49
        have Z49 : n0 ≤ hp49.size := Nat.le_trans Z48 K49.1
        have N49 := Fr.app N48 Nq49
        replace K : OGo p e below A0 T49 (mkF m 39 #[iv p1, iv p2, iv a, iv 1, .val (.long ((a.toInt64) * ((1 : Int32).toInt64))), .second, rv b46, .unset, .unset, .unset, .unset] [(.int 1)]) := fun t k => K t (st49 t k)
        replace K : OGo p e below A0 T49 (mkF m 41 #[iv p1, iv p2, iv a, iv 1, .val (.long ((a.toInt64) * ((1 : Int32).toInt64))), .second, rv b46, iv 1, .unset, .unset, .unset] []) := fun t k => K t (XS.istore X49.here hx rfl (hb hby at_39) rfl (l' := #[iv p1, iv p2, iv a, iv 1, .val (.long ((a.toInt64) * ((1 : Int32).toInt64))), .second, rv b46, iv 1, .unset, .unset, .unset]) rfl k)
        replace K : OGo p e below A0 T49 (mkF m 43 #[iv p1, iv p2, iv a, iv 1, .val (.long ((a.toInt64) * ((1 : Int32).toInt64))), .second, rv b46, iv 1, .unset, .unset, .unset] [(.ref b46)]) := fun t k => K t (XS.aload X49.here hx rfl (hb hby at_41) rfl rfl k)
        obtain ⟨cq52, kq52, qv52a, qv52b, qv52c⟩ := isOf hZ e49 P49_0
        obtain ⟨_, _, ⟨T52, L52, k52, n52⟩, -, X52, ⟨Lc52, hQ52, l52, y52, z52⟩, st52⟩ := X49.virtualBack hx (y := mN7) (z := mN7) hown (mvT hZ (ow hw 46 rfl)) (mvT hZ (ow hw 47 rfl)) (notFace_of_selects (args := #[]) (mvT hZ (ow hw 49 rfl))) (mvT hZ (ow hw 49 rfl)) (mvT hZ (ow hw 48 rfl)) (by decide) (backOf (W := 0) (rm_nx_A_var3 l Z a0 hw [] b46 ta_47 ca_47 kt_47 kc_47 a hp49 n0 Z49 P49_0 P49_1 P49_2 P49_3 P49_4 P49_5 P49_6 P49_7 P49_8 g_b46 g_ta_47 g_ca_47 ne_b46_ta_47 ne_b46_ca_47 P47_2 hna) hZ (ow hw 50 rfl) (ow hw 7 rfl) (by decide) (by decide)) qv52a qv52c (g := (mkF m 43 #[iv p1, iv p2, iv a, iv 1, .val (.long ((a.toInt64) * ((1 : Int32).toInt64))), .second, rv b46, iv 1, .unset, .unset, .unset] [(.ref b46)])) rfl (by rw [hml]; rfl) (Steps.refl _) (argsL := []) (rest := []) (lenOf pd___Z rfl) rfl (by show 2 * 0 + _ ≤ _; exact Nat.le_of_eq rfl) (hb hby at_43) (fun _ _ => ⟨rfl, e49, (by decide : 5 + 0 ≤ _), (by decide : 40 + 0 ≤ _)⟩)
        dsimp only [Pt.U, Pt.locs, Pt.cells, Pt.slots] at X52 l52 y52 z52 st52 hQ52
        subst l52 y52 z52
        obtain ⟨hp52, e52⟩ : ∃ z, T52.heap = z := ⟨_, rfl⟩
        rw [e52] at hQ52
        obtain ⟨rfl, Nq52, K52, P52_0, P52_1, P52_2, P52_3, P52_4, P52_5, P52_6, P52_7, P52_8⟩ := hQ52
        have Z52 : n0 ≤ hp52.size := Nat.le_trans Z49 K52.1
        have N52 := Fr.app N49 Nq52
        replace K : OGo p e below A0 T52 (mkF m 46 #[iv p1, iv p2, iv a, iv 1, .val (.long ((a.toInt64) * ((1 : Int32).toInt64))), .second, rv b46, iv 1, .unset, .unset, .unset] [(.int 1)]) := fun t k => K t (st52.trans k)
        replace K : OGo p e below A0 T52 (mkF m 48 #[iv p1, iv p2, iv a, iv 1, .val (.long ((a.toInt64) * ((1 : Int32).toInt64))), .second, rv b46, iv 1, iv 1, .unset, .unset] []) := fun t k => K t (XS.istore X52.here hx rfl (hb hby at_46) rfl (l' := #[iv p1, iv p2, iv a, iv 1, .val (.long ((a.toInt64) * ((1 : Int32).toInt64))), .second, rv b46, iv 1, iv 1, .unset, .unset]) rfl k)
        replace K : OGo p e below A0 T52 (mkF m 50 #[iv p1, iv p2, iv a, iv 1, .val (.long ((a.toInt64) * ((1 : Int32).toInt64))), .second, rv b46, iv 1, iv 1, .unset, .unset] [(.int 1)]) := fun t k => K t (XS.iload X52.here hx rfl (hb hby at_48) rfl k)
        replace K : OGo p e below A0 T52 (mkF m 53 #[iv p1, iv p2, iv a, iv 1, .val (.long ((a.toInt64) * ((1 : Int32).toInt64))), .second, rv b46, iv 1, iv 1, .unset, .unset] []) := fun t k => K t (XS.ifNo X52.here hx rfl (hb hby at_50) rfl ((if0 _ _).trans (feq ((by decide : ¬ ((1 : Int32) = (0 : Int32))) : ¬ ((1 : Int32) = (0 : Int32)))).1) k)
        replace K : OGo p e below A0 T52 (mkF m 55 #[iv p1, iv p2, iv a, iv 1, .val (.long ((a.toInt64) * ((1 : Int32).toInt64))), .second, rv b46, iv 1, iv 1, .unset, .unset] [(.int 1)]) := fun t k => K t (XS.iload X52.here hx rfl (hb hby at_53) rfl k)
        replace K : OGo p e below A0 T52 (mkF m 56 #[iv p1, iv p2, iv a, iv 1, .val (.long ((a.toInt64) * ((1 : Int32).toInt64))), .second, rv b46, iv 1, iv 1, .unset, .unset] [(.long 1), (.int 1)]) := fun t k => K t (XS.lconst X52.here hx rfl (hb hby at_55) k)
        replace K : OGo p e below A0 T52 (mkF m 58 #[iv p1, iv p2, iv a, iv 1, .val (.long ((a.toInt64) * ((1 : Int32).toInt64))), .second, rv b46, iv 1, iv 1, .unset, .unset] [(.long ((a.toInt64) * ((1 : Int32).toInt64))), (.long 1), (.int 1)]) := fun t k => K t (XS.lload X52.here hx rfl (hb hby at_56) rfl k)
        replace K : OGo p e below A0 T52 (mkF m 59 #[iv p1, iv p2, iv a, iv 1, .val (.long ((a.toInt64) * ((1 : Int32).toInt64))), .second, rv b46, iv 1, iv 1, .unset, .unset] [(.int (lcmpW (1 : Int64) ((a.toInt64) * ((1 : Int32).toInt64)))), (.int 1)]) := fun t k => K t (XS.lcmp X52.here hx rfl (hb hby at_58) rfl k)
        replace K : OGo p e below A0 T52 (mkF m 62 #[iv p1, iv p2, iv a, iv 1, .val (.long ((a.toInt64) * ((1 : Int32).toInt64))), .second, rv b46, iv 1, iv 1, .unset, .unset] [(.int 1)]) := fun t k => K t (XS.ifNo X52.here hx rfl (hb hby at_59) rfl ((if0 _ _).trans (tlt ((lw_lt (1 : Int64) ((a.toInt64) * ((1 : Int32).toInt64))).mpr ((own_tot hna (by decide : (1 : Int) ≤ ((1 : Int32)).toInt) (by decide) (by decide) (by decide)) : (1 : Int64) < ((a.toInt64) * ((1 : Int32).toInt64))))).2.1) k)
        replace K : OGo p e below A0 T52 (mkF m 63 #[iv p1, iv p2, iv a, iv 1, .val (.long ((a.toInt64) * ((1 : Int32).toInt64))), .second, rv b46, iv 1, iv 1, .unset, .unset] [(.int 1), (.int 1)]) := fun t k => K t (XS.iconst X52.here hx rfl (hb hby at_62) k)
        replace K : OGo p e below A0 T52 (mkF m 67 #[iv p1, iv p2, iv a, iv 1, .val (.long ((a.toInt64) * ((1 : Int32).toInt64))), .second, rv b46, iv 1, iv 1, .unset, .unset] [(.int 1), (.int 1)]) := fun t k => K t (XS.goto X52.here hx rfl (pc0 := 63) (pc' := 67) rfl (hb hby at_63) (by decide) (by decide) k)
        replace K : OGo p e below A0 T52 (mkF m 70 #[iv p1, iv p2, iv a, iv 1, .val (.long ((a.toInt64) * ((1 : Int32).toInt64))), .second, rv b46, iv 1, iv 1, .unset, .unset] []) := fun t k => K t (XS.icmpNo X52.here hx rfl (hb hby at_67) rfl (teq ((by decide : (1 : Int32) = (1 : Int32)) : (1 : Int32) = (1 : Int32))).2 k)
        replace K : OGo p e below A0 T52 (mkF m 71 #[iv p1, iv p2, iv a, iv 1, .val (.long ((a.toInt64) * ((1 : Int32).toInt64))), .second, rv b46, iv 1, iv 1, .unset, .unset] [(.int 1)]) := fun t k => K t (XS.iconst X52.here hx rfl (hb hby at_70) k)
        replace K : OGo p e below A0 T52 (mkF m 75 #[iv p1, iv p2, iv a, iv 1, .val (.long ((a.toInt64) * ((1 : Int32).toInt64))), .second, rv b46, iv 1, iv 1, .unset, .unset] [(.int 1)]) := fun t k => K t (XS.goto X52.here hx rfl (pc0 := 71) (pc' := 75) rfl (hb hby at_71) (by decide) (by decide) k)
        replace K : OGo p e below A0 T52 (mkF m 77 #[iv p1, iv p2, iv a, iv 1, .val (.long ((a.toInt64) * ((1 : Int32).toInt64))), .second, rv b46, iv 1, iv 1, .unset, .unset] []) := fun t k => K t (XS.istore X52.here hx rfl (hb hby at_75) rfl (l' := #[iv p1, iv p2, iv a, iv 1, .val (.long ((a.toInt64) * ((1 : Int32).toInt64))), .second, rv b46, iv 1, iv 1, .unset, .unset]) rfl k)
        replace K : OGo p e below A0 T52 (mkF m 78 #[iv p1, iv p2, iv a, iv 1, .val (.long ((a.toInt64) * ((1 : Int32).toInt64))), .second, rv b46, iv 1, iv 1, .unset, .unset] [(.int 1)]) := fun t k => K t (XS.iconst X52.here hx rfl (hb hby at_77) k)
        replace K : OGo p e below A0 T52 (mkF m 80 #[iv p1, iv p2, iv a, iv 1, .val (.long ((a.toInt64) * ((1 : Int32).toInt64))), .second, rv b46, iv 1, iv 1, iv 1, .unset] []) := fun t k => K t (XS.istore X52.here hx rfl (hb hby at_78) rfl (l' := #[iv p1, iv p2, iv a, iv 1, .val (.long ((a.toInt64) * ((1 : Int32).toInt64))), .second, rv b46, iv 1, iv 1, iv 1, .unset]) rfl k)
        replace K : OGo p e below A0 T52 (mkF m 82 #[iv p1, iv p2, iv a, iv 1, .val (.long ((a.toInt64) * ((1 : Int32).toInt64))), .second, rv b46, iv 1, iv 1, iv 1, .unset] [(.int 1)]) := fun t k => K t (XS.iload X52.here hx rfl (hb hby at_80) rfl k)
        replace K : OGo p e below A0 T52 (mkF m 85 #[iv p1, iv p2, iv a, iv 1, .val (.long ((a.toInt64) * ((1 : Int32).toInt64))), .second, rv b46, iv 1, iv 1, iv 1, .unset] []) := fun t k => K t (XS.ifNo X52.here hx rfl (hb hby at_82) rfl ((if0 _ _).trans (feq ((by decide : ¬ ((1 : Int32) = (0 : Int32))) : ¬ ((1 : Int32) = (0 : Int32)))).1) k)
        replace K : OGo p e below A0 T52 (mkF m 87 #[iv p1, iv p2, iv a, iv 1, .val (.long ((a.toInt64) * ((1 : Int32).toInt64))), .second, rv b46, iv 1, iv 1, iv 1, .unset] [(.int 1)]) := fun t k => K t (XS.iload X52.here hx rfl (hb hby at_85) rfl k)
        replace K : OGo p e below A0 T52 (mkF m 90 #[iv p1, iv p2, iv a, iv 1, .val (.long ((a.toInt64) * ((1 : Int32).toInt64))), .second, rv b46, iv 1, iv 1, iv 1, .unset] []) := fun t k => K t (XS.ifNo X52.here hx rfl (hb hby at_87) rfl ((if0 _ _).trans (feq ((by decide : ¬ ((1 : Int32) = (0 : Int32))) : ¬ ((1 : Int32) = (0 : Int32)))).1) k)
        replace K : OGo p e below A0 T52 (mkF m 92 #[iv p1, iv p2, iv a, iv 1, .val (.long ((a.toInt64) * ((1 : Int32).toInt64))), .second, rv b46, iv 1, iv 1, iv 1, .unset] [(.ref b46)]) := fun t k => K t (XS.aload X52.here hx rfl (hb hby at_90) rfl rfl k)
        replace K : OGo p e below A0 T52 (mkF m 93 #[iv p1, iv p2, iv a, iv 1, .val (.long ((a.toInt64) * ((1 : Int32).toInt64))), .second, rv b46, iv 1, iv 1, iv 1, .unset] [(.int a), (.ref b46)]) := fun t k => K t (XS.iloadN X52.here hx rfl (hb hby at_92) rfl k)
        replace K : OGo p e below A0 T52 (mkF m 94 #[iv p1, iv p2, iv a, iv 1, .val (.long ((a.toInt64) * ((1 : Int32).toInt64))), .second, rv b46, iv 1, iv 1, iv 1, .unset] [(.int 1), (.int a), (.ref b46)]) := fun t k => K t (XS.iloadN X52.here hx rfl (hb hby at_93) rfl k)
        replace K : OGo p e below A0 T52 (mkF m 95 #[iv p1, iv p2, iv a, iv 1, .val (.long ((a.toInt64) * ((1 : Int32).toInt64))), .second, rv b46, iv 1, iv 1, iv 1, .unset] [(.int 1), (.int 1), (.int a), (.ref b46)]) := fun t k => K t (XS.iconst X52.here hx rfl (hb hby at_94) k)
        obtain ⟨_, _, ⟨T53, L53, k53, n53⟩, -, X53, ⟨Lc53, hQ53, l53, y53, z53⟩, st53⟩ := Jvm.LawKit.callS X52 hx (y := mN6) hown (mvT hZ (ow hw 38 rfl)) (mvT hZ (ow hw 39 rfl)) (mvT hZ (ow hw 2 rfl)) (mvT hZ (ow hw 40 rfl)) (by decide) (backOf (W := 0) (rm_bok_s31_1 l Z a0 hw [] b46 a ta_47 ca_47 kt_47 kc_47 hp52 n0 Z52 P52_0 P52_1 P52_2 P52_3 P52_4 P52_5 P52_6 P52_7 P52_8 g_b46 g_ta_47 g_ca_47 ne_b46_ta_47 ne_b46_ca_47 P47_2 hna) hZ (ow hw 40 rfl) (ow hw 2 rfl) (by decide) (by decide)) (g := (mkF m 95 #[iv p1, iv p2, iv a, iv 1, .val (.long ((a.toInt64) * ((1 : Int32).toInt64))), .second, rv b46, iv 1, iv 1, iv 1, .unset] [(.int 1), (.int 1), (.int a), (.ref b46)])) rfl (by rw [hml]; rfl) (argsL := [(.ref b46), (.int a), (.int (1 : Int32)), (.int (1 : Int32))]) (rest := []) (lenOf pd__Lcom_example_flote_flote_program_Choices_III_Z rfl) rfl (by show 2 * 0 + _ ≤ _; exact Nat.le_of_eq rfl) (hb hby at_95) (fun _ _ => ⟨rfl, e52, (by decide : 5 + 0 ≤ _), (by decide : 40 + 0 ≤ _)⟩)
        dsimp only [Pt.U, Pt.locs, Pt.cells, Pt.slots] at X53 l53 y53 z53 st53 hQ53
        subst l53 y53 z53
        obtain ⟨hp53, e53⟩ : ∃ z, T53.heap = z := ⟨_, rfl⟩
        rw [e53] at hQ53
        obtain ⟨rfl, Nq53, K53, P53_0, P53_1, P53_2, P53_3, P53_4, P53_5, P53_6, P53_7, P53_8⟩ := hQ53
        have Z53 : n0 ≤ hp53.size := Nat.le_trans Z52 K53.1
        have N53 := Fr.app N52 Nq53
        replace K : OGo p e below A0 T53 (mkF m 98 #[iv p1, iv p2, iv a, iv 1, .val (.long ((a.toInt64) * ((1 : Int32).toInt64))), .second, rv b46, iv 1, iv 1, iv 1, .unset] [(.int 1)]) := fun t k => K t (st53 t k)
        replace K : OGo p e below A0 T53 (mkF m 101 #[iv p1, iv p2, iv a, iv 1, .val (.long ((a.toInt64) * ((1 : Int32).toInt64))), .second, rv b46, iv 1, iv 1, iv 1, .unset] []) := fun t k => K t (XS.ifNo X53.here hx rfl (hb hby at_98) rfl ((if0 _ _).trans (feq ((by decide : ¬ ((1 : Int32) = (0 : Int32))) : ¬ ((1 : Int32) = (0 : Int32)))).1) k)
        replace K : OGo p e below A0 T53 (mkF m 102 #[iv p1, iv p2, iv a, iv 1, .val (.long ((a.toInt64) * ((1 : Int32).toInt64))), .second, rv b46, iv 1, iv 1, iv 1, .unset] [(.int 1)]) := fun t k => K t (XS.iconst X53.here hx rfl (hb hby at_101) k)
        replace K : OGo p e below A0 T53 (mkF m 106 #[iv p1, iv p2, iv a, iv 1, .val (.long ((a.toInt64) * ((1 : Int32).toInt64))), .second, rv b46, iv 1, iv 1, iv 1, .unset] [(.int 1)]) := fun t k => K t (XS.goto X53.here hx rfl (pc0 := 102) (pc' := 106) rfl (hb hby at_102) (by decide) (by decide) k)
        replace K : OGo p e below A0 T53 (mkF m 108 #[iv p1, iv p2, iv a, iv 1, .val (.long ((a.toInt64) * ((1 : Int32).toInt64))), .second, rv b46, iv 1, iv 1, iv 1, .unset] []) := fun t k => K t (XS.istore X53.here hx rfl (hb hby at_106) rfl (l' := #[iv p1, iv p2, iv a, iv 1, .val (.long ((a.toInt64) * ((1 : Int32).toInt64))), .second, rv b46, iv 1, iv 1, iv 1, .unset]) rfl k)
        replace K : OGo p e below A0 T53 (mkF m 110 #[iv p1, iv p2, iv a, iv 1, .val (.long ((a.toInt64) * ((1 : Int32).toInt64))), .second, rv b46, iv 1, iv 1, iv 1, .unset] [(.ref b46)]) := fun t k => K t (XS.aload X53.here hx rfl (hb hby at_108) rfl rfl k)
        obtain ⟨cq54, kq54, qv54a, qv54b, qv54c⟩ := isOf hZ e53 P53_0
        obtain ⟨_, _, ⟨T54, L54, k54, n54⟩, -, X54, ⟨Lc54, hQ54, l54, y54, z54⟩, st54⟩ := X53.virtualBack hx (y := mN7) (z := mN7) hown (mvT hZ (ow hw 46 rfl)) (mvT hZ (ow hw 47 rfl)) (notFace_of_selects (args := #[]) (mvT hZ (ow hw 49 rfl))) (mvT hZ (ow hw 49 rfl)) (mvT hZ (ow hw 48 rfl)) (by decide) (backOf (W := 0) (rm_nx_C_var3 l Z a0 hw [] b46 ta_47 ca_47 kt_47 kc_47 a hp53 n0 Z53 P53_0 P53_1 P53_2 P53_3 P53_4 P53_5 P53_6 P53_7 P53_8 g_b46 g_ta_47 g_ca_47 ne_b46_ta_47 ne_b46_ca_47 P47_2 hna) hZ (ow hw 50 rfl) (ow hw 7 rfl) (by decide) (by decide)) qv54a qv54c (g := (mkF m 110 #[iv p1, iv p2, iv a, iv 1, .val (.long ((a.toInt64) * ((1 : Int32).toInt64))), .second, rv b46, iv 1, iv 1, iv 1, .unset] [(.ref b46)])) rfl (by rw [hml]; rfl) (Steps.refl _) (argsL := []) (rest := []) (lenOf pd___Z rfl) rfl (by show 2 * 0 + _ ≤ _; exact Nat.le_of_eq rfl) (hb hby at_110) (fun _ _ => ⟨rfl, e53, (by decide : 5 + 0 ≤ _), (by decide : 40 + 0 ≤ _)⟩)
        dsimp only [Pt.U, Pt.locs, Pt.cells, Pt.slots] at X54 l54 y54 z54 st54 hQ54
        subst l54 y54 z54
        obtain ⟨hp54, e54⟩ : ∃ z, T54.heap = z := ⟨_, rfl⟩
        rw [e54] at hQ54
        obtain ⟨rfl, Nq54, K54, P54_0, P54_1, P54_2, P54_3, P54_4, P54_5, P54_6, P54_7, P54_8⟩ := hQ54
        have Z54 : n0 ≤ hp54.size := Nat.le_trans Z53 K54.1
        have N54 := Fr.app N53 Nq54
        replace K : OGo p e below A0 T54 (mkF m 113 #[iv p1, iv p2, iv a, iv 1, .val (.long ((a.toInt64) * ((1 : Int32).toInt64))), .second, rv b46, iv 1, iv 1, iv 1, .unset] [(.int 1)]) := fun t k => K t (st54.trans k)
        replace K : OGo p e below A0 T54 (mkF m 115 #[iv p1, iv p2, iv a, iv 1, .val (.long ((a.toInt64) * ((1 : Int32).toInt64))), .second, rv b46, iv 1, iv 1, iv 1, iv 1] []) := fun t k => K t (XS.istore X54.here hx rfl (hb hby at_113) rfl (l' := #[iv p1, iv p2, iv a, iv 1, .val (.long ((a.toInt64) * ((1 : Int32).toInt64))), .second, rv b46, iv 1, iv 1, iv 1, iv 1]) rfl k)
        replace K : OGo p e below A0 T54 (mkF m 117 #[iv p1, iv p2, iv a, iv 1, .val (.long ((a.toInt64) * ((1 : Int32).toInt64))), .second, rv b46, iv 1, iv 1, iv 1, iv 1] [(.int 1)]) := fun t k => K t (XS.iload X54.here hx rfl (hb hby at_115) rfl k)
        replace K : OGo p e below A0 T54 (mkF m 120 #[iv p1, iv p2, iv a, iv 1, .val (.long ((a.toInt64) * ((1 : Int32).toInt64))), .second, rv b46, iv 1, iv 1, iv 1, iv 1] []) := fun t k => K t (XS.ifNo X54.here hx rfl (hb hby at_117) rfl ((if0 _ _).trans (feq ((by decide : ¬ ((1 : Int32) = (0 : Int32))) : ¬ ((1 : Int32) = (0 : Int32)))).1) k)
        replace K : OGo p e below A0 T54 (mkF m 122 #[iv p1, iv p2, iv a, iv 1, .val (.long ((a.toInt64) * ((1 : Int32).toInt64))), .second, rv b46, iv 1, iv 1, iv 1, iv 1] [(.int 1)]) := fun t k => K t (XS.iload X54.here hx rfl (hb hby at_120) rfl k)
        replace K : OGo p e below A0 T54 (mkF m 125 #[iv p1, iv p2, iv a, iv 1, .val (.long ((a.toInt64) * ((1 : Int32).toInt64))), .second, rv b46, iv 1, iv 1, iv 1, iv 1] [(.long 2), (.int 1)]) := fun t k => K t (X54.ldc2Long hx hown (mvT hZ (ow hw 51 rfl)) (g := (mkF m 122 #[iv p1, iv p2, iv a, iv 1, .val (.long ((a.toInt64) * ((1 : Int32).toInt64))), .second, rv b46, iv 1, iv 1, iv 1, iv 1] [(.int 1)])) rfl (hb hby at_122) t k)
        replace K : OGo p e below A0 T54 (mkF m 127 #[iv p1, iv p2, iv a, iv 1, .val (.long ((a.toInt64) * ((1 : Int32).toInt64))), .second, rv b46, iv 1, iv 1, iv 1, iv 1] [(.long ((a.toInt64) * ((1 : Int32).toInt64))), (.long 2), (.int 1)]) := fun t k => K t (XS.lload X54.here hx rfl (hb hby at_125) rfl k)
        replace K : OGo p e below A0 T54 (mkF m 128 #[iv p1, iv p2, iv a, iv 1, .val (.long ((a.toInt64) * ((1 : Int32).toInt64))), .second, rv b46, iv 1, iv 1, iv 1, iv 1] [(.int (lcmpW (2 : Int64) ((a.toInt64) * ((1 : Int32).toInt64)))), (.int 1)]) := fun t k => K t (XS.lcmp X54.here hx rfl (hb hby at_127) rfl k)
        replace K : OGo p e below A0 T54 (mkF m 131 #[iv p1, iv p2, iv a, iv 1, .val (.long ((a.toInt64) * ((1 : Int32).toInt64))), .second, rv b46, iv 1, iv 1, iv 1, iv 1] [(.int 1)]) := fun t k => K t (XS.ifNo X54.here hx rfl (hb hby at_128) rfl ((if0 _ _).trans (tlt ((lw_lt (2 : Int64) ((a.toInt64) * ((1 : Int32).toInt64))).mpr ((own_tot hna (by decide : (1 : Int) ≤ ((1 : Int32)).toInt) (by decide) (by decide) (by decide)) : (2 : Int64) < ((a.toInt64) * ((1 : Int32).toInt64))))).2.1) k)
        replace K : OGo p e below A0 T54 (mkF m 132 #[iv p1, iv p2, iv a, iv 1, .val (.long ((a.toInt64) * ((1 : Int32).toInt64))), .second, rv b46, iv 1, iv 1, iv 1, iv 1] [(.int 1), (.int 1)]) := fun t k => K t (XS.iconst X54.here hx rfl (hb hby at_131) k)
        replace K : OGo p e below A0 T54 (mkF m 136 #[iv p1, iv p2, iv a, iv 1, .val (.long ((a.toInt64) * ((1 : Int32).toInt64))), .second, rv b46, iv 1, iv 1, iv 1, iv 1] [(.int 1), (.int 1)]) := fun t k => K t (XS.goto X54.here hx rfl (pc0 := 132) (pc' := 136) rfl (hb hby at_132) (by decide) (by decide) k)
        replace K : OGo p e below A0 T54 (mkF m 139 #[iv p1, iv p2, iv a, iv 1, .val (.long ((a.toInt64) * ((1 : Int32).toInt64))), .second, rv b46, iv 1, iv 1, iv 1, iv 1] []) := fun t k => K t (XS.icmpNo X54.here hx rfl (hb hby at_136) rfl (teq ((by decide : (1 : Int32) = (1 : Int32)) : (1 : Int32) = (1 : Int32))).2 k)
        replace K : OGo p e below A0 T54 (mkF m 140 #[iv p1, iv p2, iv a, iv 1, .val (.long ((a.toInt64) * ((1 : Int32).toInt64))), .second, rv b46, iv 1, iv 1, iv 1, iv 1] [(.int 1)]) := fun t k => K t (XS.iconst X54.here hx rfl (hb hby at_139) k)
        replace K : OGo p e below A0 T54 (mkF m 144 #[iv p1, iv p2, iv a, iv 1, .val (.long ((a.toInt64) * ((1 : Int32).toInt64))), .second, rv b46, iv 1, iv 1, iv 1, iv 1] [(.int 1)]) := fun t k => K t (XS.goto X54.here hx rfl (pc0 := 140) (pc' := 144) rfl (hb hby at_140) (by decide) (by decide) k)
        replace K : OGo p e below A0 T54 (mkF m 146 #[iv p1, iv p2, iv a, iv 1, .val (.long ((a.toInt64) * ((1 : Int32).toInt64))), .second, rv b46, iv 1, iv 1, iv 1, iv 1] []) := fun t k => K t (XS.istore X54.here hx rfl (hb hby at_144) rfl (l' := #[iv p1, iv p2, iv a, iv 1, .val (.long ((a.toInt64) * ((1 : Int32).toInt64))), .second, rv b46, iv 1, iv 1, iv 1, iv 1]) rfl k)
        replace K : OGo p e below A0 T54 (mkF m 147 #[iv p1, iv p2, iv a, iv 1, .val (.long ((a.toInt64) * ((1 : Int32).toInt64))), .second, rv b46, iv 1, iv 1, iv 1, iv 1] [(.int 2)]) := fun t k => K t (XS.iconst X54.here hx rfl (hb hby at_146) k)
        replace K : OGo p e below A0 T54 (mkF m 149 #[iv p1, iv p2, iv a, iv 1, .val (.long ((a.toInt64) * ((1 : Int32).toInt64))), .second, rv b46, iv 1, iv 1, iv 2, iv 1] []) := fun t k => K t (XS.istore X54.here hx rfl (hb hby at_147) rfl (l' := #[iv p1, iv p2, iv a, iv 1, .val (.long ((a.toInt64) * ((1 : Int32).toInt64))), .second, rv b46, iv 1, iv 1, iv 2, iv 1]) rfl k)
        replace K : OGo p e below A0 T54 (mkF m 151 #[iv p1, iv p2, iv a, iv 1, .val (.long ((a.toInt64) * ((1 : Int32).toInt64))), .second, rv b46, iv 1, iv 1, iv 2, iv 1] [(.int 1)]) := fun t k => K t (XS.iload X54.here hx rfl (hb hby at_149) rfl k)
        replace K : OGo p e below A0 T54 (mkF m 154 #[iv p1, iv p2, iv a, iv 1, .val (.long ((a.toInt64) * ((1 : Int32).toInt64))), .second, rv b46, iv 1, iv 1, iv 2, iv 1] []) := fun t k => K t (XS.ifNo X54.here hx rfl (hb hby at_151) rfl ((if0 _ _).trans (feq ((by decide : ¬ ((1 : Int32) = (0 : Int32))) : ¬ ((1 : Int32) = (0 : Int32)))).1) k)
        replace K : OGo p e below A0 T54 (mkF m 156 #[iv p1, iv p2, iv a, iv 1, .val (.long ((a.toInt64) * ((1 : Int32).toInt64))), .second, rv b46, iv 1, iv 1, iv 2, iv 1] [(.int 1)]) := fun t k => K t (XS.iload X54.here hx rfl (hb hby at_154) rfl k)
        replace K : OGo p e below A0 T54 (mkF m 159 #[iv p1, iv p2, iv a, iv 1, .val (.long ((a.toInt64) * ((1 : Int32).toInt64))), .second, rv b46, iv 1, iv 1, iv 2, iv 1] []) := fun t k => K t (XS.ifNo X54.here hx rfl (hb hby at_156) rfl ((if0 _ _).trans (feq ((by decide : ¬ ((1 : Int32) = (0 : Int32))) : ¬ ((1 : Int32) = (0 : Int32)))).1) k)
        replace K : OGo p e below A0 T54 (mkF m 161 #[iv p1, iv p2, iv a, iv 1, .val (.long ((a.toInt64) * ((1 : Int32).toInt64))), .second, rv b46, iv 1, iv 1, iv 2, iv 1] [(.ref b46)]) := fun t k => K t (XS.aload X54.here hx rfl (hb hby at_159) rfl rfl k)
        replace K : OGo p e below A0 T54 (mkF m 162 #[iv p1, iv p2, iv a, iv 1, .val (.long ((a.toInt64) * ((1 : Int32).toInt64))), .second, rv b46, iv 1, iv 1, iv 2, iv 1] [(.int a), (.ref b46)]) := fun t k => K t (XS.iloadN X54.here hx rfl (hb hby at_161) rfl k)
        replace K : OGo p e below A0 T54 (mkF m 163 #[iv p1, iv p2, iv a, iv 1, .val (.long ((a.toInt64) * ((1 : Int32).toInt64))), .second, rv b46, iv 1, iv 1, iv 2, iv 1] [(.int 1), (.int a), (.ref b46)]) := fun t k => K t (XS.iloadN X54.here hx rfl (hb hby at_162) rfl k)
        replace K : OGo p e below A0 T54 (mkF m 164 #[iv p1, iv p2, iv a, iv 1, .val (.long ((a.toInt64) * ((1 : Int32).toInt64))), .second, rv b46, iv 1, iv 1, iv 2, iv 1] [(.int 2), (.int 1), (.int a), (.ref b46)]) := fun t k => K t (XS.iconst X54.here hx rfl (hb hby at_163) k)
        obtain ⟨_, _, ⟨T55, L55, k55, n55⟩, -, X55, ⟨Lc55, hQ55, l55, y55, z55⟩, st55⟩ := Jvm.LawKit.callS X54 hx (y := mN6) hown (mvT hZ (ow hw 38 rfl)) (mvT hZ (ow hw 39 rfl)) (mvT hZ (ow hw 2 rfl)) (mvT hZ (ow hw 40 rfl)) (by decide) (backOf (W := 0) (rm_bok_s31_2 l Z a0 hw [] b46 a ta_47 ca_47 kt_47 kc_47 hp54 n0 Z54 P54_0 P54_1 P54_2 P54_3 P54_4 P54_5 P54_6 P54_7 P54_8 g_b46 g_ta_47 g_ca_47 ne_b46_ta_47 ne_b46_ca_47 P47_2 hna) hZ (ow hw 40 rfl) (ow hw 2 rfl) (by decide) (by decide)) (g := (mkF m 164 #[iv p1, iv p2, iv a, iv 1, .val (.long ((a.toInt64) * ((1 : Int32).toInt64))), .second, rv b46, iv 1, iv 1, iv 2, iv 1] [(.int 2), (.int 1), (.int a), (.ref b46)])) rfl (by rw [hml]; rfl) (argsL := [(.ref b46), (.int a), (.int (1 : Int32)), (.int (2 : Int32))]) (rest := []) (lenOf pd__Lcom_example_flote_flote_program_Choices_III_Z rfl) rfl (by show 2 * 0 + _ ≤ _; exact Nat.le_of_eq rfl) (hb hby at_164) (fun _ _ => ⟨rfl, e54, (by decide : 5 + 0 ≤ _), (by decide : 40 + 0 ≤ _)⟩)
        dsimp only [Pt.U, Pt.locs, Pt.cells, Pt.slots] at X55 l55 y55 z55 st55 hQ55
        subst l55 y55 z55
        obtain ⟨hp55, e55⟩ : ∃ z, T55.heap = z := ⟨_, rfl⟩
        rw [e55] at hQ55
        obtain ⟨rfl, Nq55, K55, P55_0, P55_1, P55_2, P55_3, P55_4, P55_5, P55_6, P55_7, P55_8⟩ := hQ55
        have Z55 : n0 ≤ hp55.size := Nat.le_trans Z54 K55.1
        have N55 := Fr.app N54 Nq55
        replace K : OGo p e below A0 T55 (mkF m 167 #[iv p1, iv p2, iv a, iv 1, .val (.long ((a.toInt64) * ((1 : Int32).toInt64))), .second, rv b46, iv 1, iv 1, iv 2, iv 1] [(.int 1)]) := fun t k => K t (st55 t k)
        replace K : OGo p e below A0 T55 (mkF m 170 #[iv p1, iv p2, iv a, iv 1, .val (.long ((a.toInt64) * ((1 : Int32).toInt64))), .second, rv b46, iv 1, iv 1, iv 2, iv 1] []) := fun t k => K t (XS.ifNo X55.here hx rfl (hb hby at_167) rfl ((if0 _ _).trans (feq ((by decide : ¬ ((1 : Int32) = (0 : Int32))) : ¬ ((1 : Int32) = (0 : Int32)))).1) k)
        replace K : OGo p e below A0 T55 (mkF m 171 #[iv p1, iv p2, iv a, iv 1, .val (.long ((a.toInt64) * ((1 : Int32).toInt64))), .second, rv b46, iv 1, iv 1, iv 2, iv 1] [(.int 1)]) := fun t k => K t (XS.iconst X55.here hx rfl (hb hby at_170) k)
        replace K : OGo p e below A0 T55 (mkF m 175 #[iv p1, iv p2, iv a, iv 1, .val (.long ((a.toInt64) * ((1 : Int32).toInt64))), .second, rv b46, iv 1, iv 1, iv 2, iv 1] [(.int 1)]) := fun t k => K t (XS.goto X55.here hx rfl (pc0 := 171) (pc' := 175) rfl (hb hby at_171) (by decide) (by decide) k)
        replace K : OGo p e below A0 T55 (mkF m 177 #[iv p1, iv p2, iv a, iv 1, .val (.long ((a.toInt64) * ((1 : Int32).toInt64))), .second, rv b46, iv 1, iv 1, iv 2, iv 1] []) := fun t k => K t (XS.istore X55.here hx rfl (hb hby at_175) rfl (l' := #[iv p1, iv p2, iv a, iv 1, .val (.long ((a.toInt64) * ((1 : Int32).toInt64))), .second, rv b46, iv 1, iv 1, iv 2, iv 1]) rfl k)
        replace K : OGo p e below A0 T55 (mkF m 178 #[iv p1, iv p2, iv a, iv 1, .val (.long ((a.toInt64) * ((1 : Int32).toInt64))), .second, rv b46, iv 1, iv 1, iv 2, iv 1] [(.int 3)]) := fun t k => K t (XS.iconst X55.here hx rfl (hb hby at_177) k)
        replace K : OGo p e below A0 T55 (mkF m 180 #[iv p1, iv p2, iv a, iv 1, .val (.long ((a.toInt64) * ((1 : Int32).toInt64))), .second, rv b46, iv 1, iv 1, iv 3, iv 1] []) := fun t k => K t (XS.istore X55.here hx rfl (hb hby at_178) rfl (l' := #[iv p1, iv p2, iv a, iv 1, .val (.long ((a.toInt64) * ((1 : Int32).toInt64))), .second, rv b46, iv 1, iv 1, iv 3, iv 1]) rfl k)
        replace K : OGo p e below A0 T55 (mkF m 181 #[iv p1, iv p2, iv a, iv 1, .val (.long ((a.toInt64) * ((1 : Int32).toInt64))), .second, rv b46, iv 1, iv 1, iv 3, iv 1] [(.int a)]) := fun t k => K t (XS.iloadN X55.here hx rfl (hb hby at_180) rfl k)
        replace K : OGo p e below A0 T55 (mkF m 182 #[iv p1, iv p2, iv a, iv 1, .val (.long ((a.toInt64) * ((1 : Int32).toInt64))), .second, rv b46, iv 1, iv 1, iv 3, iv 1] [(.int 1), (.int a)]) := fun t k => K t (XS.iconst X55.here hx rfl (hb hby at_181) k)
        replace K : OGo p e below A0 T55 (mkF m 185 #[iv p1, iv p2, iv a, iv 1, .val (.long ((a.toInt64) * ((1 : Int32).toInt64))), .second, rv b46, iv 1, iv 1, iv 3, iv 1] []) := fun t k => K t (XS.icmpNo X55.here hx rfl (hb hby at_182) rfl (tlt ((own_gt (by omega)) : (1 : Int32) < a)).2.2.2 k)
        replace K : OGo p e below A0 T55 (mkF m 186 #[iv p1, iv p2, iv a, iv 1, .val (.long ((a.toInt64) * ((1 : Int32).toInt64))), .second, rv b46, iv 1, iv 1, iv 3, iv 1] [(.int 1)]) := fun t k => K t (XS.iconst X55.here hx rfl (hb hby at_185) k)
        replace K : OGo p e below A0 T55 (mkF m 190 #[iv p1, iv p2, iv a, iv 1, .val (.long ((a.toInt64) * ((1 : Int32).toInt64))), .second, rv b46, iv 1, iv 1, iv 3, iv 1] [(.int 1)]) := fun t k => K t (XS.goto X55.here hx rfl (pc0 := 186) (pc' := 190) rfl (hb hby at_186) (by decide) (by decide) k)
        replace K : OGo p e below A0 T55 (mkF m 191 #[iv p1, iv p2, iv a, iv 1, .val (.long ((a.toInt64) * ((1 : Int32).toInt64))), .second, rv b46, iv 1, iv 1, iv 3, iv 1] [(.int 1), (.int 1)]) := fun t k => K t (XS.iloadN X55.here hx rfl (hb hby at_190) rfl k)
        replace K : OGo p e below A0 T55 (mkF m 192 #[iv p1, iv p2, iv a, iv 1, .val (.long ((a.toInt64) * ((1 : Int32).toInt64))), .second, rv b46, iv 1, iv 1, iv 3, iv 1] [(.int 1), (.int 1), (.int 1)]) := fun t k => K t (XS.iconst X55.here hx rfl (hb hby at_191) k)
        replace K : OGo p e below A0 T55 (mkF m 199 #[iv p1, iv p2, iv a, iv 1, .val (.long ((a.toInt64) * ((1 : Int32).toInt64))), .second, rv b46, iv 1, iv 1, iv 3, iv 1] [(.int 1)]) := fun t k => K t (XS.icmpYes X55.here hx rfl (pc0 := 192) (pc' := 199) rfl (hb hby at_192) rfl (flt ((by decide : ¬ ((1 : Int32) < (1 : Int32))) : ¬ ((1 : Int32) < (1 : Int32)))).2.2.2 (by decide) (by decide) k)
        replace K : OGo p e below A0 T55 (mkF m 200 #[iv p1, iv p2, iv a, iv 1, .val (.long ((a.toInt64) * ((1 : Int32).toInt64))), .second, rv b46, iv 1, iv 1, iv 3, iv 1] [(.int 0), (.int 1)]) := fun t k => K t (XS.iconst X55.here hx rfl (hb hby at_199) k)
        replace K : OGo p e below A0 T55 (mkF m 201 #[iv p1, iv p2, iv a, iv 1, .val (.long ((a.toInt64) * ((1 : Int32).toInt64))), .second, rv b46, iv 1, iv 1, iv 3, iv 1] [(.int 1)]) := fun t k => K t (XS.iadd X55.here hx rfl (hb hby at_200) rfl k)
        replace K : OGo p e below A0 T55 (mkF m 203 #[iv p1, iv p2, iv a, iv 1, .val (.long ((a.toInt64) * ((1 : Int32).toInt64))), .second, rv b46, iv 1, iv 1, iv 3, iv 1] []) := fun t k => K t (XS.istore X55.here hx rfl (hb hby at_201) rfl (l' := #[iv p1, iv p2, iv a, iv 1, .val (.long ((a.toInt64) * ((1 : Int32).toInt64))), .second, rv b46, iv 1, iv 1, iv 3, iv 1]) rfl k)
        replace K : OGo p e below A0 T55 (mkF m 205 #[iv p1, iv p2, iv a, iv 1, .val (.long ((a.toInt64) * ((1 : Int32).toInt64))), .second, rv b46, iv 1, iv 1, iv 3, iv 1] [(.int 1)]) := fun t k => K t (XS.iload X55.here hx rfl (hb hby at_203) rfl k)
        replace K : OGo p e below A0 T55 (mkF m 208 #[iv p1, iv p2, iv a, iv 1, .val (.long ((a.toInt64) * ((1 : Int32).toInt64))), .second, rv b46, iv 1, iv 1, iv 3, iv 1] []) := fun t k => K t (XS.ifNo X55.here hx rfl (hb hby at_205) rfl ((if0 _ _).trans (feq ((by decide : ¬ ((1 : Int32) = (0 : Int32))) : ¬ ((1 : Int32) = (0 : Int32)))).1) k)
        replace K : OGo p e below A0 T55 (mkF m 210 #[iv p1, iv p2, iv a, iv 1, .val (.long ((a.toInt64) * ((1 : Int32).toInt64))), .second, rv b46, iv 1, iv 1, iv 3, iv 1] [(.ref b46)]) := fun t k => K t (XS.aload X55.here hx rfl (hb hby at_208) rfl rfl k)
        obtain ⟨cq56, kq56, qv56a, qv56b, qv56c⟩ := isOf hZ e55 P55_0
        obtain ⟨_, _, ⟨T56, L56, k56, n56⟩, -, X56, ⟨Lc56, hQ56, l56, y56, z56⟩, st56⟩ := X55.virtualBack hx (y := mN5) (z := mN5) hown (mvT hZ (ow hw 52 rfl)) (mvT hZ (ow hw 53 rfl)) (notFace_of_selects (args := #[]) (mvT hZ (ow hw 55 rfl))) (mvT hZ (ow hw 55 rfl)) (mvT hZ (ow hw 54 rfl)) (by decide) (backOf (W := 0) (rm_fewest l Z a0 hw [] b46 (3 : Int32) (1 : Int32) hp55 n0 Z55 P55_5 P55_3) hZ (ow hw 56 rfl) (ow hw 7 rfl) (by decide) (by decide)) qv56a qv56c (g := (mkF m 210 #[iv p1, iv p2, iv a, iv 1, .val (.long ((a.toInt64) * ((1 : Int32).toInt64))), .second, rv b46, iv 1, iv 1, iv 3, iv 1] [(.ref b46)])) rfl (by rw [hml]; rfl) (Steps.refl _) (argsL := []) (rest := []) (lenOf pd___I rfl) rfl (by show 2 * 0 + _ ≤ _; exact Nat.le_of_eq rfl) (hb hby at_210) (fun _ _ => ⟨rfl, e55, (by decide : 5 + 0 ≤ _), (by decide : 40 + 0 ≤ _)⟩)
        dsimp only [Pt.U, Pt.locs, Pt.cells, Pt.slots] at X56 l56 y56 z56 st56 hQ56
        subst l56 y56 z56
        obtain ⟨rfl, Nq56, e56⟩ := hQ56
        have N56 := Fr.app N55 Nq56
        replace K : OGo p e below A0 T56 (mkF m 213 #[iv p1, iv p2, iv a, iv 1, .val (.long ((a.toInt64) * ((1 : Int32).toInt64))), .second, rv b46, iv 1, iv 1, iv 3, iv 1] [(.int (own_max (3 : Int32) ((1 : Int32) + (1 : Int32))))]) := fun t k => K t (st56.trans k)
        replace K : OGo p e below A0 T56 (mkF m 215 #[iv p1, iv p2, iv a, iv 1, .val (.long ((a.toInt64) * ((1 : Int32).toInt64))), .second, rv b46, iv 1, iv 1, iv 3, iv 1] [(.int 3), (.int (own_max (3 : Int32) ((1 : Int32) + (1 : Int32))))]) := fun t k => K t (XS.iload X56.here hx rfl (hb hby at_213) rfl k)
        replace K : OGo p e below A0 T56 (mkF m 217 #[iv p1, iv p2, iv a, iv 1, .val (.long ((a.toInt64) * ((1 : Int32).toInt64))), .second, rv b46, iv 1, iv 1, iv 3, iv 1] [(.int 1), (.int 3), (.int (own_max (3 : Int32) ((1 : Int32) + (1 : Int32))))]) := fun t k => K t (XS.iload X56.here hx rfl (hb hby at_215) rfl k)
        replace K : OGo p e below A0 T56 (mkF m 218 #[iv p1, iv p2, iv a, iv 1, .val (.long ((a.toInt64) * ((1 : Int32).toInt64))), .second, rv b46, iv 1, iv 1, iv 3, iv 1] [(.int 1), (.int 1), (.int 3), (.int (own_max (3 : Int32) ((1 : Int32) + (1 : Int32))))]) := fun t k => K t (XS.iconst X56.here hx rfl (hb hby at_217) k)
        replace K : OGo p e below A0 T56 (mkF m 219 #[iv p1, iv p2, iv a, iv 1, .val (.long ((a.toInt64) * ((1 : Int32).toInt64))), .second, rv b46, iv 1, iv 1, iv 3, iv 1] [(.int 2), (.int 3), (.int (own_max (3 : Int32) ((1 : Int32) + (1 : Int32))))]) := fun t k => K t (XS.iadd X56.here hx rfl (hb hby at_218) rfl k)
        obtain ⟨_, _, ⟨T57, L57, k57, n57⟩, -, X57, ⟨Lc57, hQ57, l57, y57, z57⟩, st57⟩ := Jvm.LawKit.callS X56 hx (y := mN1) hown (mvT hZ (ow hw 61 rfl)) (mvT hZ (ow hw 58 rfl)) (mvT hZ (ow hw 59 rfl)) (mvT hZ (ow hw 60 rfl)) (by decide) (backOf (W := 1) (rm_max l Z a0 hw [] (3 : Int32) (2 : Int32) hp55 n0 Z55 ) hZ (ow hw 60 rfl) (ow hw 59 rfl) (by decide) (by decide)) (g := (mkF m 219 #[iv p1, iv p2, iv a, iv 1, .val (.long ((a.toInt64) * ((1 : Int32).toInt64))), .second, rv b46, iv 1, iv 1, iv 3, iv 1] [(.int 2), (.int 3), (.int (own_max (3 : Int32) ((1 : Int32) + (1 : Int32))))])) rfl (by rw [hml]; rfl) (argsL := [(.int (3 : Int32)), (.int (2 : Int32))]) (rest := [(.int (own_max (3 : Int32) ((1 : Int32) + (1 : Int32))))]) (lenOf pd__II_I rfl) rfl (by show 2 * 0 + _ ≤ _; exact Nat.le_of_eq rfl) (hb hby at_219) (fun _ _ => ⟨rfl, e56, (by decide : 5 + 0 ≤ _), (by decide : 40 + 0 ≤ _)⟩)
        dsimp only [Pt.U, Pt.locs, Pt.cells, Pt.slots] at X57 l57 y57 z57 st57 hQ57
        subst l57 y57 z57
        obtain ⟨rfl, Nq57, e57⟩ := hQ57
        have N57 := Fr.app N56 Nq57
        replace K : OGo p e below A0 T57 (mkF m 222 #[iv p1, iv p2, iv a, iv 1, .val (.long ((a.toInt64) * ((1 : Int32).toInt64))), .second, rv b46, iv 1, iv 1, iv 3, iv 1] [(.int (own_max (3 : Int32) (2 : Int32))), (.int (own_max (3 : Int32) ((1 : Int32) + (1 : Int32))))]) := fun t k => K t (st57 t k)
        replace K : OGo p e below A0 T57 (mkF m 225 #[iv p1, iv p2, iv a, iv 1, .val (.long ((a.toInt64) * ((1 : Int32).toInt64))), .second, rv b46, iv 1, iv 1, iv 3, iv 1] []) := fun t k => K t (XS.icmpNo X57.here hx rfl (hb hby at_222) rfl (teq ((by decide) : (own_max (3 : Int32) ((1 : Int32) + (1 : Int32))) = (own_max (3 : Int32) (2 : Int32)))).2 k)
        replace K : OGo p e below A0 T57 (mkF m 226 #[iv p1, iv p2, iv a, iv 1, .val (.long ((a.toInt64) * ((1 : Int32).toInt64))), .second, rv b46, iv 1, iv 1, iv 3, iv 1] [(.int 1)]) := fun t k => K t (XS.iconst X57.here hx rfl (hb hby at_225) k)
        replace K : OGo p e below A0 T57 (mkF m 230 #[iv p1, iv p2, iv a, iv 1, .val (.long ((a.toInt64) * ((1 : Int32).toInt64))), .second, rv b46, iv 1, iv 1, iv 3, iv 1] [(.int 1)]) := fun t k => K t (XS.goto X57.here hx rfl (pc0 := 226) (pc' := 230) rfl (hb hby at_226) (by decide) (by decide) k)
        replace K : OGo p e below A0 T57 (mkF m 232 #[iv p1, iv p2, iv a, iv 1, .val (.long ((a.toInt64) * ((1 : Int32).toInt64))), .second, rv b46, iv 1, iv 1, iv 3, iv 1] []) := fun t k => K t (XS.istore X57.here hx rfl (hb hby at_230) rfl (l' := #[iv p1, iv p2, iv a, iv 1, .val (.long ((a.toInt64) * ((1 : Int32).toInt64))), .second, rv b46, iv 1, iv 1, iv 3, iv 1]) rfl k)
        replace K : OGo p e below A0 T57 (mkF m 234 #[iv p1, iv p2, iv a, iv 1, .val (.long ((a.toInt64) * ((1 : Int32).toInt64))), .second, rv b46, iv 1, iv 1, iv 3, iv 1] [(.int 1)]) := fun t k => K t (XS.iload X57.here hx rfl (hb hby at_232) rfl k)
        obtain ⟨fs, hr, hrun, hended, hW, hsame⟩ := X57.leave (v := some (.int (1 : Int32))) (fun h => by rw [Bd.returns] at h; cases h)
        subst hA0
        refine ⟨_, _, K _ (retN X57 hx (t := .boolean) Bd.returns (by simp) (hb hby at_234) hr), hrun, hended, _, _, rfl, ?_, ⟨_, rfl⟩, hW, hsame.mono (by decide) (by decide)⟩
        show Q_law Z p1 p2 h0 n0 _ T57.heap _
        rw [e57]
        exact ⟨rfl, N57⟩
    · replace hnb := own_ge hnb hb1 (by decide)
      by_cases hb2 : b = (2 : Int32)
      · subst hb2
        replace K : OGo p e below A0 T2 (mkF m 11 #[iv p1, iv p2, iv a, iv 2, .unset, .unset, .unset, .unset, .unset, .unset, .unset] [(.int a)]) := fun t k => K t (XS.iloadN X2.here hx rfl (hb hby at_10) rfl k)
        replace K : OGo p e below A0 T2 (mkF m 12 #[iv p1, iv p2, iv a, iv 2, .unset, .unset, .unset, .unset, .unset, .unset, .unset] [(.long (a.toInt64))]) := fun t k => K t (XS.i2l X2.here hx rfl (hb hby at_11) rfl k)
        replace K : OGo p e below A0 T2 (mkF m 13 #[iv p1, iv p2, iv a, iv 2, .unset, .unset, .unset, .unset, .unset, .unset, .unset] [(.int 2), (.long (a.toInt64))]) := fun t k => K t (XS.iloadN X2.here hx rfl (hb hby at_12) rfl k)
        replace K : OGo p e below A0 T2 (mkF m 14 #[iv p1, iv p2, iv a, iv 2, .unset, .unset, .unset, .unset, .unset, .unset, .unset] [(.long ((2 : Int32).toInt64)), (.long (a.toInt64))]) := fun t k => K t (XS.i2l X2.here hx rfl (hb hby at_13) rfl k)
        replace K : OGo p e below A0 T2 (mkF m 15 #[iv p1, iv p2, iv a, iv 2, .unset, .unset, .unset, .unset, .unset, .unset, .unset] [(.long ((a.toInt64) * ((2 : Int32).toInt64)))]) := fun t k => K t (XS.lmul X2.here hx rfl (hb hby at_14) rfl k)
        replace K : OGo p e below A0 T2 (mkF m 17 #[iv p1, iv p2, iv a, iv 2, .val (.long ((a.toInt64) * ((2 : Int32).toInt64))), .second, .unset, .unset, .unset, .unset, .unset] []) := fun t k => K t (XS.lstore X2.here hx rfl (hb hby at_15) rfl (l' := #[iv p1, iv p2, iv a, iv 2, .val (.long ((a.toInt64) * ((2 : Int32).toInt64))), .second, .unset, .unset, .unset, .unset, .unset]) rfl k)
        obtain ⟨T58, h58, X58, e58, E58, A58, D58, -, st58⟩ := newO X2 hx hZ hown (ow hw 5 rfl) (ow hw 6 rfl) (ow hw 7 rfl) e2 (g := (mkF m 17 #[iv p1, iv p2, iv a, iv 2, .val (.long ((a.toInt64) * ((2 : Int32).toInt64))), .second, .unset, .unset, .unset, .unset, .unset] [])) rfl (hb hby at_17) (by decide) (by decide)
        obtain ⟨b58, gz58⟩ : ∃ z, z = h0.size := ⟨_, rfl⟩
        rw [← gz58] at A58 D58 st58
        have g_b58 : n0 ≤ b58 := Nat.le_trans Z0 (Nat.le_of_eq gz58.symm)
        have Z58 : n0 ≤ h58.size := Nat.le_trans Z0 E58.1
        have F_taken_b58 : Fld Z h58 b58 cN0 "taken" "[I" .null := D58 (Or.inl (ow hw 16 rfl)) (ty := (.array .int)) (by decide)
        have F_counts_b58 : Fld Z h58 b58 cN0 "counts" "[I" .null := D58 (Or.inl (ow hw 18 rfl)) (ty := (.array .int)) (by decide)
        have F_values_b58 : Fld Z h58 b58 cN0 "values" "[I" .null := D58 (Or.inl (ow hw 20 rfl)) (ty := (.array .int)) (by decide)
        have F_types_b58 : Fld Z h58 b58 cN0 "types" cN1 .null := D58 (Or.inl (ow hw 24 rfl)) (ty := (.array (.object "com/example/flote/flote/program/Type"))) (by decide)
        have F_met_b58 : Fld Z h58 b58 cN0 "met" "I" (.int (0 : Int32)) := D58 (Or.inl (ow hw 31 rfl)) (ty := .int) (by decide)
        have F_repeated_b58 : Fld Z h58 b58 cN0 "repeated" "I" (.int (0 : Int32)) := D58 (Or.inl (ow hw 33 rfl)) (ty := .int) (by decide)
        have F_branches_b58 : Fld Z h58 b58 cN0 "branches" "I" (.int (0 : Int32)) := D58 (Or.inl (ow hw 35 rfl)) (ty := .int) (by decide)
        have F_computed_b58 : Fld Z h58 b58 cN0 "computed" "I" (.int (0 : Int32)) := D58 (Or.inl (ow hw 37 rfl)) (ty := .int) (by decide)
        replace K : OGo p e below A0 T58 (mkF m 20 #[iv p1, iv p2, iv a, iv 2, .val (.long ((a.toInt64) * ((2 : Int32).toInt64))), .second, .unset, .unset, .unset, .unset, .unset] [(.ref b58)]) := fun t k => K t (st58 t k)
        replace K : OGo p e below A0 T58 (mkF m 21 #[iv p1, iv p2, iv a, iv 2, .val (.long ((a.toInt64) * ((2 : Int32).toInt64))), .second, .unset, .unset, .unset, .unset, .unset] [(.ref b58), (.ref b58)]) := fun t k => K t (XS.dup X58.here hx rfl (hb hby at_20) rfl rfl k)
        obtain ⟨_, _, ⟨T59, L59, k59, n59⟩, -, X59, ⟨Lc59, hQ59, l59, y59, z59⟩, st59⟩ := X58.specialBack hx (y := mN2) rfl hown (mvT hZ (ow hw 8 rfl)) (mvT hZ (ow hw 9 rfl)) (mvT hZ (ow hw 10 rfl)) (by decide) (backOf (W := 1) (rm_init l Z a0 hw [] b58 h58 n0 Z58 A58 F_taken_b58 F_counts_b58 F_values_b58 F_types_b58 F_met_b58 F_repeated_b58 F_branches_b58 F_computed_b58 g_b58) hZ (ow hw 10 rfl) (ow hw 7 rfl) (by decide) (by decide)) (g := (mkF m 21 #[iv p1, iv p2, iv a, iv 2, .val (.long ((a.toInt64) * ((2 : Int32).toInt64))), .second, .unset, .unset, .unset, .unset, .unset] [(.ref b58), (.ref b58)])) rfl (by rw [hml]; rfl) (Steps.refl _) (a := b58) (argsL := []) (rest := [(.ref b58)]) (lenOf pd___V rfl) rfl (by show 2 * 0 + _ ≤ _; exact Nat.le_of_eq rfl) (hb hby at_21) (fun _ _ => ⟨rfl, e58, (by decide : 1 + 4 ≤ _), (by decide : 8 + 32 ≤ _)⟩)
        dsimp only [Pt.U, Pt.locs, Pt.cells, Pt.slots] at X59 l59 y59 z59 st59 hQ59
        subst l59 y59 z59
        obtain ⟨hp59, e59⟩ : ∃ z, T59.heap = z := ⟨_, rfl⟩
        rw [e59] at hQ59
        obtain ⟨rfl, Nq59, ta_59, ca_59, kt_59, kc_59, K59, P59_0, P59_1, P59_2, P59_3, P59_4, P59_5, P59_6, P59_7, P59_8, P59_9, P59_10, P59_11⟩ := hQ59
        have ne_b58_ta_59 : b58 ≠ ta_59 := Nat.ne_of_lt (Nat.lt_of_lt_of_le A58.lt P59_0)
        have g_ta_59 : n0 ≤ ta_59 := Nat.le_trans Z58 P59_0
        have ne_b58_ca_59 : b58 ≠ ca_59 := Nat.ne_of_lt (Nat.lt_of_lt_of_le A58.lt P59_1)
        have g_ca_59 : n0 ≤ ca_59 := Nat.le_trans Z58 P59_1
        have Z59 : n0 ≤ hp59.size := Nat.le_trans Z58 K59.1
        have N59 := Fr.app N2 Nq59
        replace K : OGo p e below A0 T59 (mkF m 24 #[iv p1, iv p2, iv a, iv 2, .val (.long ((a.toInt64) * ((2 : Int32).toInt64))), .second, .unset, .unset, .unset, .unset, .unset] [(.ref b58)]) := fun t k => K t (st59.trans k)
        replace K : OGo p e below A0 T59 (mkF m 26 #[iv p1, iv p2, iv a, iv 2, .val (.long ((a.toInt64) * ((2 : Int32).toInt64))), .second, rv b58, .unset, .unset, .unset, .unset] []) := fun t k => K t (XS.astore X59.here hx rfl (hb hby at_24) rfl rfl (l' := #[iv p1, iv p2, iv a, iv 2, .val (.long ((a.toInt64) * ((2 : Int32).toInt64))), .second, rv b58, .unset, .unset, .unset, .unset]) rfl k)
        replace K : OGo p e below A0 T59 (mkF m 28 #[iv p1, iv p2, iv a, iv 2, .val (.long ((a.toInt64) * ((2 : Int32).toInt64))), .second, rv b58, .unset, .unset, .unset, .unset] [(.ref b58)]) := fun t k => K t (XS.aload X59.here hx rfl (hb hby at_26) rfl rfl k)
        obtain ⟨cq60, kq60, qv60a, qv60b, qv60c⟩ := isOf hZ e59 P59_3
        obtain ⟨_, _, ⟨T60, L60, k60, n60⟩, -, X60, ⟨Lc60, hQ60, l60, y60, z60⟩, st60⟩ := X59.virtualBack hx (y := mN3) (z := mN3) hown (mvT hZ (ow hw 25 rfl)) (mvT hZ (ow hw 26 rfl)) (notFace_of_selects (args := #[]) (mvT hZ (ow hw 28 rfl))) (mvT hZ (ow hw 28 rfl)) (mvT hZ (ow hw 27 rfl)) (by decide) (backOf (W := 0) (rm_begin l Z a0 hw [] b58 ta_59 ca_59 kt_59 kc_59 hp59 n0 Z59 P59_3 P59_4 P59_5 P59_6 P59_7 P59_8 P59_9 P59_10 P59_11 g_b58 ne_b58_ta_59 ne_b58_ca_59) hZ (ow hw 29 rfl) (ow hw 7 rfl) (by decide) (by decide)) qv60a qv60c (g := (mkF m 28 #[iv p1, iv p2, iv a, iv 2, .val (.long ((a.toInt64) * ((2 : Int32).toInt64))), .second, rv b58, .unset, .unset, .unset, .unset] [(.ref b58)])) rfl (by rw [hml]; rfl) (Steps.refl _) (argsL := []) (rest := []) (lenOf pd___V rfl) rfl (by show 2 * 0 + _ ≤ _; exact Nat.le_of_eq rfl) (hb hby at_28) (fun _ _ => ⟨rfl, e59, (by decide : 5 + 0 ≤ _), (by decide : 40 + 0 ≤ _)⟩)
        dsimp only [Pt.U, Pt.locs, Pt.cells, Pt.slots] at X60 l60 y60 z60 st60 hQ60
        subst l60 y60 z60
        obtain ⟨hp60, e60⟩ : ∃ z, T60.heap = z := ⟨_, rfl⟩
        rw [e60] at hQ60
        obtain ⟨rfl, Nq60, K60, P60_0, P60_1, P60_2, P60_3, P60_4, P60_5, P60_6⟩ := hQ60
        have Z60 : n0 ≤ hp60.size := Nat.le_trans Z59 K60.1
        have N60 := Fr.app N59 Nq60
        replace K : OGo p e below A0 T60 (mkF m 31 #[iv p1, iv p2, iv a, iv 2, .val (.long ((a.toInt64) * ((2 : Int32).toInt64))), .second, rv b58, .unset, .unset, .unset, .unset] []) := fun t k => K t (st60.trans k)
        replace K : OGo p e below A0 T60 (mkF m 33 #[iv p1, iv p2, iv a, iv 2, .val (.long ((a.toInt64) * ((2 : Int32).toInt64))), .second, rv b58, .unset, .unset, .unset, .unset] [(.ref b58)]) := fun t k => K t (XS.aload X60.here hx rfl (hb hby at_31) rfl rfl k)
        replace K : OGo p e below A0 T60 (mkF m 34 #[iv p1, iv p2, iv a, iv 2, .val (.long ((a.toInt64) * ((2 : Int32).toInt64))), .second, rv b58, .unset, .unset, .unset, .unset] [(.int a), (.ref b58)]) := fun t k => K t (XS.iloadN X60.here hx rfl (hb hby at_33) rfl k)
        replace K : OGo p e below A0 T60 (mkF m 35 #[iv p1, iv p2, iv a, iv 2, .val (.long ((a.toInt64) * ((2 : Int32).toInt64))), .second, rv b58, .unset, .unset, .unset, .unset] [(.int 2), (.int a), (.ref b58)]) := fun t k => K t (XS.iloadN X60.here hx rfl (hb hby at_34) rfl k)
        replace K : OGo p e below A0 T60 (mkF m 36 #[iv p1, iv p2, iv a, iv 2, .val (.long ((a.toInt64) * ((2 : Int32).toInt64))), .second, rv b58, .unset, .unset, .unset, .unset] [(.int 0), (.int 2), (.int a), (.ref b58)]) := fun t k => K t (XS.iconst X60.here hx rfl (hb hby at_35) k)
        have V_ta_59_62 := (P59_10.keep K60 (ninS (Ne.symm ne_b58_ta_59) nin0))
        have V_ca_59_63 := (P59_11.keep K60 (ninS (Ne.symm ne_b58_ca_59) nin0))
        obtain ⟨_, _, ⟨T61, L61, k61, n61⟩, -, X61, ⟨Lc61, hQ61, l61, y61, z61⟩, st61⟩ := Jvm.LawKit.callS X60 hx (y := mN6) hown (mvT hZ (ow hw 38 rfl)) (mvT hZ (ow hw 39 rfl)) (mvT hZ (ow hw 2 rfl)) (mvT hZ (ow hw 40 rfl)) (by decide) (backOf (W := 0) (rm_bok_s22_0 l Z a0 hw [] b58 a ta_59 ca_59 kt_59 kc_59 hp60 n0 Z60 P60_0 P60_1 P60_2 P60_3 P60_4 P60_5 P60_6 V_ta_59_62 V_ca_59_63 g_b58 g_ta_59 g_ca_59 ne_b58_ta_59 ne_b58_ca_59 P59_2 hna) hZ (ow hw 40 rfl) (ow hw 2 rfl) (by decide) (by decide)) (g := (mkF m 36 #[iv p1, iv p2, iv a, iv 2, .val (.long ((a.toInt64) * ((2 : Int32).toInt64))), .second, rv b58, .unset, .unset, .unset, .unset] [(.int 0), (.int 2), (.int a), (.ref b58)])) rfl (by rw [hml]; rfl) (argsL := [(.ref b58), (.int a), (.int (2 : Int32)), (.int (0 : Int32))]) (rest := []) (lenOf pd__Lcom_example_flote_flote_program_Choices_III_Z rfl) rfl (by show 2 * 0 + _ ≤ _; exact Nat.le_of_eq rfl) (hb hby at_36) (fun _ _ => ⟨rfl, e60, (by decide : 5 + 0 ≤ _), (by decide : 40 + 0 ≤ _)⟩)
        dsimp only [Pt.U, Pt.locs, Pt.cells, Pt.slots] at X61 l61 y61 z61 st61 hQ61
        subst l61 y61 z61
        obtain ⟨hp61, e61⟩ : ∃ z, T61.heap = z := ⟨_, rfl⟩
        rw [e61] at hQ61
        obtain ⟨rfl, Nq61, K61, P61_0, P61_1, P61_2, P61_3, P61_4, P61_5, P61_6, P61_7, P61_8⟩ := hQ61
        have Z61 : n0 ≤ hp61.size := Nat.le_trans Z60 K61.1
        have N61 := Fr.app N60 Nq61
        replace K : OGo p e below A0 T61 (mkF m 39 #[iv p1, iv p2, iv a, iv 2, .val (.long ((a.toInt64) * ((2 : Int32).toInt64))), .second, rv b58, .unset, .unset, .unset, .unset] [(.int 1)]) := fun t k => K t (st61 t k)
        replace K : OGo p e below A0 T61 (mkF m 41 #[iv p1, iv p2, iv a, iv 2, .val (.long ((a.toInt64) * ((2 : Int32).toInt64))), .second, rv b58, iv 1, .unset, .unset, .unset] []) := fun t k => K t (XS.istore X61.here hx rfl (hb hby at_39) rfl (l' := #[iv p1, iv p2, iv a, iv 2, .val (.long ((a.toInt64) * ((2 : Int32).toInt64))), .second, rv b58, iv 1, .unset, .unset, .unset]) rfl k)
        replace K : OGo p e below A0 T61 (mkF m 43 #[iv p1, iv p2, iv a, iv 2, .val (.long ((a.toInt64) * ((2 : Int32).toInt64))), .second, rv b58, iv 1, .unset, .unset, .unset] [(.ref b58)]) := fun t k => K t (XS.aload X61.here hx rfl (hb hby at_41) rfl rfl k)
        obtain ⟨cq64, kq64, qv64a, qv64b, qv64c⟩ := isOf hZ e61 P61_0
        obtain ⟨_, _, ⟨T64, L64, k64, n64⟩, -, X64, ⟨Lc64, hQ64, l64, y64, z64⟩, st64⟩ := X61.virtualBack hx (y := mN7) (z := mN7) hown (mvT hZ (ow hw 46 rfl)) (mvT hZ (ow hw 47 rfl)) (notFace_of_selects (args := #[]) (mvT hZ (ow hw 49 rfl))) (mvT hZ (ow hw 49 rfl)) (mvT hZ (ow hw 48 rfl)) (by decide) (backOf (W := 0) (rm_nx_D_s22 l Z a0 hw [] b58 ta_59 ca_59 kt_59 kc_59 a hp61 n0 Z61 P61_0 P61_1 P61_2 P61_3 P61_4 P61_5 P61_6 P61_7 P61_8 g_b58 g_ta_59 g_ca_59 ne_b58_ta_59 ne_b58_ca_59 P59_2 hna) hZ (ow hw 50 rfl) (ow hw 7 rfl) (by decide) (by decide)) qv64a qv64c (g := (mkF m 43 #[iv p1, iv p2, iv a, iv 2, .val (.long ((a.toInt64) * ((2 : Int32).toInt64))), .second, rv b58, iv 1, .unset, .unset, .unset] [(.ref b58)])) rfl (by rw [hml]; rfl) (Steps.refl _) (argsL := []) (rest := []) (lenOf pd___Z rfl) rfl (by show 2 * 0 + _ ≤ _; exact Nat.le_of_eq rfl) (hb hby at_43) (fun _ _ => ⟨rfl, e61, (by decide : 5 + 0 ≤ _), (by decide : 40 + 0 ≤ _)⟩)
        dsimp only [Pt.U, Pt.locs, Pt.cells, Pt.slots] at X64 l64 y64 z64 st64 hQ64
        subst l64 y64 z64
        obtain ⟨hp64, e64⟩ : ∃ z, T64.heap = z := ⟨_, rfl⟩
        rw [e64] at hQ64
        obtain ⟨rfl, Nq64, K64, P64_0, P64_1, P64_2, P64_3, P64_4, P64_5, P64_6, P64_7, P64_8⟩ := hQ64
        have Z64 : n0 ≤ hp64.size := Nat.le_trans Z61 K64.1
        have N64 := Fr.app N61 Nq64
        replace K : OGo p e below A0 T64 (mkF m 46 #[iv p1, iv p2, iv a, iv 2, .val (.long ((a.toInt64) * ((2 : Int32).toInt64))), .second, rv b58, iv 1, .unset, .unset, .unset] [(.int 1)]) := fun t k => K t (st64.trans k)
        replace K : OGo p e below A0 T64 (mkF m 48 #[iv p1, iv p2, iv a, iv 2, .val (.long ((a.toInt64) * ((2 : Int32).toInt64))), .second, rv b58, iv 1, iv 1, .unset, .unset] []) := fun t k => K t (XS.istore X64.here hx rfl (hb hby at_46) rfl (l' := #[iv p1, iv p2, iv a, iv 2, .val (.long ((a.toInt64) * ((2 : Int32).toInt64))), .second, rv b58, iv 1, iv 1, .unset, .unset]) rfl k)
        replace K : OGo p e below A0 T64 (mkF m 50 #[iv p1, iv p2, iv a, iv 2, .val (.long ((a.toInt64) * ((2 : Int32).toInt64))), .second, rv b58, iv 1, iv 1, .unset, .unset] [(.int 1)]) := fun t k => K t (XS.iload X64.here hx rfl (hb hby at_48) rfl k)
        replace K : OGo p e below A0 T64 (mkF m 53 #[iv p1, iv p2, iv a, iv 2, .val (.long ((a.toInt64) * ((2 : Int32).toInt64))), .second, rv b58, iv 1, iv 1, .unset, .unset] []) := fun t k => K t (XS.ifNo X64.here hx rfl (hb hby at_50) rfl ((if0 _ _).trans (feq ((by decide : ¬ ((1 : Int32) = (0 : Int32))) : ¬ ((1 : Int32) = (0 : Int32)))).1) k)
        replace K : OGo p e below A0 T64 (mkF m 55 #[iv p1, iv p2, iv a, iv 2, .val (.long ((a.toInt64) * ((2 : Int32).toInt64))), .second, rv b58, iv 1, iv 1, .unset, .unset] [(.int 1)]) := fun t k => K t (XS.iload X64.here hx rfl (hb hby at_53) rfl k)
        replace K : OGo p e below A0 T64 (mkF m 56 #[iv p1, iv p2, iv a, iv 2, .val (.long ((a.toInt64) * ((2 : Int32).toInt64))), .second, rv b58, iv 1, iv 1, .unset, .unset] [(.long 1), (.int 1)]) := fun t k => K t (XS.lconst X64.here hx rfl (hb hby at_55) k)
        replace K : OGo p e below A0 T64 (mkF m 58 #[iv p1, iv p2, iv a, iv 2, .val (.long ((a.toInt64) * ((2 : Int32).toInt64))), .second, rv b58, iv 1, iv 1, .unset, .unset] [(.long ((a.toInt64) * ((2 : Int32).toInt64))), (.long 1), (.int 1)]) := fun t k => K t (XS.lload X64.here hx rfl (hb hby at_56) rfl k)
        replace K : OGo p e below A0 T64 (mkF m 59 #[iv p1, iv p2, iv a, iv 2, .val (.long ((a.toInt64) * ((2 : Int32).toInt64))), .second, rv b58, iv 1, iv 1, .unset, .unset] [(.int (lcmpW (1 : Int64) ((a.toInt64) * ((2 : Int32).toInt64)))), (.int 1)]) := fun t k => K t (XS.lcmp X64.here hx rfl (hb hby at_58) rfl k)
        replace K : OGo p e below A0 T64 (mkF m 62 #[iv p1, iv p2, iv a, iv 2, .val (.long ((a.toInt64) * ((2 : Int32).toInt64))), .second, rv b58, iv 1, iv 1, .unset, .unset] [(.int 1)]) := fun t k => K t (XS.ifNo X64.here hx rfl (hb hby at_59) rfl ((if0 _ _).trans (tlt ((lw_lt (1 : Int64) ((a.toInt64) * ((2 : Int32).toInt64))).mpr ((own_tot hna (by decide : (2 : Int) ≤ ((2 : Int32)).toInt) (by decide) (by decide) (by decide)) : (1 : Int64) < ((a.toInt64) * ((2 : Int32).toInt64))))).2.1) k)
        replace K : OGo p e below A0 T64 (mkF m 63 #[iv p1, iv p2, iv a, iv 2, .val (.long ((a.toInt64) * ((2 : Int32).toInt64))), .second, rv b58, iv 1, iv 1, .unset, .unset] [(.int 1), (.int 1)]) := fun t k => K t (XS.iconst X64.here hx rfl (hb hby at_62) k)
        replace K : OGo p e below A0 T64 (mkF m 67 #[iv p1, iv p2, iv a, iv 2, .val (.long ((a.toInt64) * ((2 : Int32).toInt64))), .second, rv b58, iv 1, iv 1, .unset, .unset] [(.int 1), (.int 1)]) := fun t k => K t (XS.goto X64.here hx rfl (pc0 := 63) (pc' := 67) rfl (hb hby at_63) (by decide) (by decide) k)
        replace K : OGo p e below A0 T64 (mkF m 70 #[iv p1, iv p2, iv a, iv 2, .val (.long ((a.toInt64) * ((2 : Int32).toInt64))), .second, rv b58, iv 1, iv 1, .unset, .unset] []) := fun t k => K t (XS.icmpNo X64.here hx rfl (hb hby at_67) rfl (teq ((by decide : (1 : Int32) = (1 : Int32)) : (1 : Int32) = (1 : Int32))).2 k)
        replace K : OGo p e below A0 T64 (mkF m 71 #[iv p1, iv p2, iv a, iv 2, .val (.long ((a.toInt64) * ((2 : Int32).toInt64))), .second, rv b58, iv 1, iv 1, .unset, .unset] [(.int 1)]) := fun t k => K t (XS.iconst X64.here hx rfl (hb hby at_70) k)
        replace K : OGo p e below A0 T64 (mkF m 75 #[iv p1, iv p2, iv a, iv 2, .val (.long ((a.toInt64) * ((2 : Int32).toInt64))), .second, rv b58, iv 1, iv 1, .unset, .unset] [(.int 1)]) := fun t k => K t (XS.goto X64.here hx rfl (pc0 := 71) (pc' := 75) rfl (hb hby at_71) (by decide) (by decide) k)
        replace K : OGo p e below A0 T64 (mkF m 77 #[iv p1, iv p2, iv a, iv 2, .val (.long ((a.toInt64) * ((2 : Int32).toInt64))), .second, rv b58, iv 1, iv 1, .unset, .unset] []) := fun t k => K t (XS.istore X64.here hx rfl (hb hby at_75) rfl (l' := #[iv p1, iv p2, iv a, iv 2, .val (.long ((a.toInt64) * ((2 : Int32).toInt64))), .second, rv b58, iv 1, iv 1, .unset, .unset]) rfl k)
        replace K : OGo p e below A0 T64 (mkF m 78 #[iv p1, iv p2, iv a, iv 2, .val (.long ((a.toInt64) * ((2 : Int32).toInt64))), .second, rv b58, iv 1, iv 1, .unset, .unset] [(.int 1)]) := fun t k => K t (XS.iconst X64.here hx rfl (hb hby at_77) k)
        replace K : OGo p e below A0 T64 (mkF m 80 #[iv p1, iv p2, iv a, iv 2, .val (.long ((a.toInt64) * ((2 : Int32).toInt64))), .second, rv b58, iv 1, iv 1, iv 1, .unset] []) := fun t k => K t (XS.istore X64.here hx rfl (hb hby at_78) rfl (l' := #[iv p1, iv p2, iv a, iv 2, .val (.long ((a.toInt64) * ((2 : Int32).toInt64))), .second, rv b58, iv 1, iv 1, iv 1, .unset]) rfl k)
        replace K : OGo p e below A0 T64 (mkF m 82 #[iv p1, iv p2, iv a, iv 2, .val (.long ((a.toInt64) * ((2 : Int32).toInt64))), .second, rv b58, iv 1, iv 1, iv 1, .unset] [(.int 1)]) := fun t k => K t (XS.iload X64.here hx rfl (hb hby at_80) rfl k)
        replace K : OGo p e below A0 T64 (mkF m 85 #[iv p1, iv p2, iv a, iv 2, .val (.long ((a.toInt64) * ((2 : Int32).toInt64))), .second, rv b58, iv 1, iv 1, iv 1, .unset] []) := fun t k => K t (XS.ifNo X64.here hx rfl (hb hby at_82) rfl ((if0 _ _).trans (feq ((by decide : ¬ ((1 : Int32) = (0 : Int32))) : ¬ ((1 : Int32) = (0 : Int32)))).1) k)
        replace K : OGo p e below A0 T64 (mkF m 87 #[iv p1, iv p2, iv a, iv 2, .val (.long ((a.toInt64) * ((2 : Int32).toInt64))), .second, rv b58, iv 1, iv 1, iv 1, .unset] [(.int 1)]) := fun t k => K t (XS.iload X64.here hx rfl (hb hby at_85) rfl k)
        replace K : OGo p e below A0 T64 (mkF m 90 #[iv p1, iv p2, iv a, iv 2, .val (.long ((a.toInt64) * ((2 : Int32).toInt64))), .second, rv b58, iv 1, iv 1, iv 1, .unset] []) := fun t k => K t (XS.ifNo X64.here hx rfl (hb hby at_87) rfl ((if0 _ _).trans (feq ((by decide : ¬ ((1 : Int32) = (0 : Int32))) : ¬ ((1 : Int32) = (0 : Int32)))).1) k)
        replace K : OGo p e below A0 T64 (mkF m 92 #[iv p1, iv p2, iv a, iv 2, .val (.long ((a.toInt64) * ((2 : Int32).toInt64))), .second, rv b58, iv 1, iv 1, iv 1, .unset] [(.ref b58)]) := fun t k => K t (XS.aload X64.here hx rfl (hb hby at_90) rfl rfl k)
        replace K : OGo p e below A0 T64 (mkF m 93 #[iv p1, iv p2, iv a, iv 2, .val (.long ((a.toInt64) * ((2 : Int32).toInt64))), .second, rv b58, iv 1, iv 1, iv 1, .unset] [(.int a), (.ref b58)]) := fun t k => K t (XS.iloadN X64.here hx rfl (hb hby at_92) rfl k)
        replace K : OGo p e below A0 T64 (mkF m 94 #[iv p1, iv p2, iv a, iv 2, .val (.long ((a.toInt64) * ((2 : Int32).toInt64))), .second, rv b58, iv 1, iv 1, iv 1, .unset] [(.int 2), (.int a), (.ref b58)]) := fun t k => K t (XS.iloadN X64.here hx rfl (hb hby at_93) rfl k)
        replace K : OGo p e below A0 T64 (mkF m 95 #[iv p1, iv p2, iv a, iv 2, .val (.long ((a.toInt64) * ((2 : Int32).toInt64))), .second, rv b58, iv 1, iv 1, iv 1, .unset] [(.int 1), (.int 2), (.int a), (.ref b58)]) := fun t k => K t (XS.iconst X64.here hx rfl (hb hby at_94) k)
        obtain ⟨_, _, ⟨T65, L65, k65, n65⟩, -, X65, ⟨Lc65, hQ65, l65, y65, z65⟩, st65⟩ := Jvm.LawKit.callS X64 hx (y := mN6) hown (mvT hZ (ow hw 38 rfl)) (mvT hZ (ow hw 39 rfl)) (mvT hZ (ow hw 2 rfl)) (mvT hZ (ow hw 40 rfl)) (by decide) (backOf (W := 0) (rm_bok_s22_1 l Z a0 hw [] b58 a ta_59 ca_59 kt_59 kc_59 hp64 n0 Z64 P64_0 P64_1 P64_2 P64_3 P64_4 P64_5 P64_6 P64_7 P64_8 g_b58 g_ta_59 g_ca_59 ne_b58_ta_59 ne_b58_ca_59 P59_2 hna) hZ (ow hw 40 rfl) (ow hw 2 rfl) (by decide) (by decide)) (g := (mkF m 95 #[iv p1, iv p2, iv a, iv 2, .val (.long ((a.toInt64) * ((2 : Int32).toInt64))), .second, rv b58, iv 1, iv 1, iv 1, .unset] [(.int 1), (.int 2), (.int a), (.ref b58)])) rfl (by rw [hml]; rfl) (argsL := [(.ref b58), (.int a), (.int (2 : Int32)), (.int (1 : Int32))]) (rest := []) (lenOf pd__Lcom_example_flote_flote_program_Choices_III_Z rfl) rfl (by show 2 * 0 + _ ≤ _; exact Nat.le_of_eq rfl) (hb hby at_95) (fun _ _ => ⟨rfl, e64, (by decide : 5 + 0 ≤ _), (by decide : 40 + 0 ≤ _)⟩)
        dsimp only [Pt.U, Pt.locs, Pt.cells, Pt.slots] at X65 l65 y65 z65 st65 hQ65
        subst l65 y65 z65
        obtain ⟨hp65, e65⟩ : ∃ z, T65.heap = z := ⟨_, rfl⟩
        rw [e65] at hQ65
        obtain ⟨rfl, Nq65, K65, P65_0, P65_1, P65_2, P65_3, P65_4, P65_5, P65_6, P65_7, P65_8⟩ := hQ65
        have Z65 : n0 ≤ hp65.size := Nat.le_trans Z64 K65.1
        have N65 := Fr.app N64 Nq65
        replace K : OGo p e below A0 T65 (mkF m 98 #[iv p1, iv p2, iv a, iv 2, .val (.long ((a.toInt64) * ((2 : Int32).toInt64))), .second, rv b58, iv 1, iv 1, iv 1, .unset] [(.int 1)]) := fun t k => K t (st65 t k)
        replace K : OGo p e below A0 T65 (mkF m 101 #[iv p1, iv p2, iv a, iv 2, .val (.long ((a.toInt64) * ((2 : Int32).toInt64))), .second, rv b58, iv 1, iv 1, iv 1, .unset] []) := fun t k => K t (XS.ifNo X65.here hx rfl (hb hby at_98) rfl ((if0 _ _).trans (feq ((by decide : ¬ ((1 : Int32) = (0 : Int32))) : ¬ ((1 : Int32) = (0 : Int32)))).1) k)
        replace K : OGo p e below A0 T65 (mkF m 102 #[iv p1, iv p2, iv a, iv 2, .val (.long ((a.toInt64) * ((2 : Int32).toInt64))), .second, rv b58, iv 1, iv 1, iv 1, .unset] [(.int 1)]) := fun t k => K t (XS.iconst X65.here hx rfl (hb hby at_101) k)
        replace K : OGo p e below A0 T65 (mkF m 106 #[iv p1, iv p2, iv a, iv 2, .val (.long ((a.toInt64) * ((2 : Int32).toInt64))), .second, rv b58, iv 1, iv 1, iv 1, .unset] [(.int 1)]) := fun t k => K t (XS.goto X65.here hx rfl (pc0 := 102) (pc' := 106) rfl (hb hby at_102) (by decide) (by decide) k)
        replace K : OGo p e below A0 T65 (mkF m 108 #[iv p1, iv p2, iv a, iv 2, .val (.long ((a.toInt64) * ((2 : Int32).toInt64))), .second, rv b58, iv 1, iv 1, iv 1, .unset] []) := fun t k => K t (XS.istore X65.here hx rfl (hb hby at_106) rfl (l' := #[iv p1, iv p2, iv a, iv 2, .val (.long ((a.toInt64) * ((2 : Int32).toInt64))), .second, rv b58, iv 1, iv 1, iv 1, .unset]) rfl k)
        replace K : OGo p e below A0 T65 (mkF m 110 #[iv p1, iv p2, iv a, iv 2, .val (.long ((a.toInt64) * ((2 : Int32).toInt64))), .second, rv b58, iv 1, iv 1, iv 1, .unset] [(.ref b58)]) := fun t k => K t (XS.aload X65.here hx rfl (hb hby at_108) rfl rfl k)
        obtain ⟨cq66, kq66, qv66a, qv66b, qv66c⟩ := isOf hZ e65 P65_0
        obtain ⟨_, _, ⟨T66, L66, k66, n66⟩, -, X66, ⟨Lc66, hQ66, l66, y66, z66⟩, st66⟩ := X65.virtualBack hx (y := mN7) (z := mN7) hown (mvT hZ (ow hw 46 rfl)) (mvT hZ (ow hw 47 rfl)) (notFace_of_selects (args := #[]) (mvT hZ (ow hw 49 rfl))) (mvT hZ (ow hw 49 rfl)) (mvT hZ (ow hw 48 rfl)) (by decide) (backOf (W := 0) (rm_nx_E_s22 l Z a0 hw [] b58 ta_59 ca_59 kt_59 kc_59 a hp65 n0 Z65 P65_0 P65_1 P65_2 P65_3 P65_4 P65_5 P65_6 P65_7 P65_8 g_b58 g_ta_59 g_ca_59 ne_b58_ta_59 ne_b58_ca_59 P59_2 hna) hZ (ow hw 50 rfl) (ow hw 7 rfl) (by decide) (by decide)) qv66a qv66c (g := (mkF m 110 #[iv p1, iv p2, iv a, iv 2, .val (.long ((a.toInt64) * ((2 : Int32).toInt64))), .second, rv b58, iv 1, iv 1, iv 1, .unset] [(.ref b58)])) rfl (by rw [hml]; rfl) (Steps.refl _) (argsL := []) (rest := []) (lenOf pd___Z rfl) rfl (by show 2 * 0 + _ ≤ _; exact Nat.le_of_eq rfl) (hb hby at_110) (fun _ _ => ⟨rfl, e65, (by decide : 5 + 0 ≤ _), (by decide : 40 + 0 ≤ _)⟩)
        dsimp only [Pt.U, Pt.locs, Pt.cells, Pt.slots] at X66 l66 y66 z66 st66 hQ66
        subst l66 y66 z66
        obtain ⟨hp66, e66⟩ : ∃ z, T66.heap = z := ⟨_, rfl⟩
        rw [e66] at hQ66
        obtain ⟨rfl, Nq66, K66, P66_0, P66_1, P66_2, P66_3, P66_4, P66_5, P66_6, P66_7, P66_8⟩ := hQ66
        have Z66 : n0 ≤ hp66.size := Nat.le_trans Z65 K66.1
        have N66 := Fr.app N65 Nq66
        replace K : OGo p e below A0 T66 (mkF m 113 #[iv p1, iv p2, iv a, iv 2, .val (.long ((a.toInt64) * ((2 : Int32).toInt64))), .second, rv b58, iv 1, iv 1, iv 1, .unset] [(.int 1)]) := fun t k => K t (st66.trans k)
        replace K : OGo p e below A0 T66 (mkF m 115 #[iv p1, iv p2, iv a, iv 2, .val (.long ((a.toInt64) * ((2 : Int32).toInt64))), .second, rv b58, iv 1, iv 1, iv 1, iv 1] []) := fun t k => K t (XS.istore X66.here hx rfl (hb hby at_113) rfl (l' := #[iv p1, iv p2, iv a, iv 2, .val (.long ((a.toInt64) * ((2 : Int32).toInt64))), .second, rv b58, iv 1, iv 1, iv 1, iv 1]) rfl k)
        replace K : OGo p e below A0 T66 (mkF m 117 #[iv p1, iv p2, iv a, iv 2, .val (.long ((a.toInt64) * ((2 : Int32).toInt64))), .second, rv b58, iv 1, iv 1, iv 1, iv 1] [(.int 1)]) := fun t k => K t (XS.iload X66.here hx rfl (hb hby at_115) rfl k)
        replace K : OGo p e below A0 T66 (mkF m 120 #[iv p1, iv p2, iv a, iv 2, .val (.long ((a.toInt64) * ((2 : Int32).toInt64))), .second, rv b58, iv 1, iv 1, iv 1, iv 1] []) := fun t k => K t (XS.ifNo X66.here hx rfl (hb hby at_117) rfl ((if0 _ _).trans (feq ((by decide : ¬ ((1 : Int32) = (0 : Int32))) : ¬ ((1 : Int32) = (0 : Int32)))).1) k)
        replace K : OGo p e below A0 T66 (mkF m 122 #[iv p1, iv p2, iv a, iv 2, .val (.long ((a.toInt64) * ((2 : Int32).toInt64))), .second, rv b58, iv 1, iv 1, iv 1, iv 1] [(.int 1)]) := fun t k => K t (XS.iload X66.here hx rfl (hb hby at_120) rfl k)
        replace K : OGo p e below A0 T66 (mkF m 125 #[iv p1, iv p2, iv a, iv 2, .val (.long ((a.toInt64) * ((2 : Int32).toInt64))), .second, rv b58, iv 1, iv 1, iv 1, iv 1] [(.long 2), (.int 1)]) := fun t k => K t (X66.ldc2Long hx hown (mvT hZ (ow hw 51 rfl)) (g := (mkF m 122 #[iv p1, iv p2, iv a, iv 2, .val (.long ((a.toInt64) * ((2 : Int32).toInt64))), .second, rv b58, iv 1, iv 1, iv 1, iv 1] [(.int 1)])) rfl (hb hby at_122) t k)
        replace K : OGo p e below A0 T66 (mkF m 127 #[iv p1, iv p2, iv a, iv 2, .val (.long ((a.toInt64) * ((2 : Int32).toInt64))), .second, rv b58, iv 1, iv 1, iv 1, iv 1] [(.long ((a.toInt64) * ((2 : Int32).toInt64))), (.long 2), (.int 1)]) := fun t k => K t (XS.lload X66.here hx rfl (hb hby at_125) rfl k)
        replace K : OGo p e below A0 T66 (mkF m 128 #[iv p1, iv p2, iv a, iv 2, .val (.long ((a.toInt64) * ((2 : Int32).toInt64))), .second, rv b58, iv 1, iv 1, iv 1, iv 1] [(.int (lcmpW (2 : Int64) ((a.toInt64) * ((2 : Int32).toInt64)))), (.int 1)]) := fun t k => K t (XS.lcmp X66.here hx rfl (hb hby at_127) rfl k)
        replace K : OGo p e below A0 T66 (mkF m 131 #[iv p1, iv p2, iv a, iv 2, .val (.long ((a.toInt64) * ((2 : Int32).toInt64))), .second, rv b58, iv 1, iv 1, iv 1, iv 1] [(.int 1)]) := fun t k => K t (XS.ifNo X66.here hx rfl (hb hby at_128) rfl ((if0 _ _).trans (tlt ((lw_lt (2 : Int64) ((a.toInt64) * ((2 : Int32).toInt64))).mpr ((own_tot hna (by decide : (2 : Int) ≤ ((2 : Int32)).toInt) (by decide) (by decide) (by decide)) : (2 : Int64) < ((a.toInt64) * ((2 : Int32).toInt64))))).2.1) k)
        replace K : OGo p e below A0 T66 (mkF m 132 #[iv p1, iv p2, iv a, iv 2, .val (.long ((a.toInt64) * ((2 : Int32).toInt64))), .second, rv b58, iv 1, iv 1, iv 1, iv 1] [(.int 1), (.int 1)]) := fun t k => K t (XS.iconst X66.here hx rfl (hb hby at_131) k)
        replace K : OGo p e below A0 T66 (mkF m 136 #[iv p1, iv p2, iv a, iv 2, .val (.long ((a.toInt64) * ((2 : Int32).toInt64))), .second, rv b58, iv 1, iv 1, iv 1, iv 1] [(.int 1), (.int 1)]) := fun t k => K t (XS.goto X66.here hx rfl (pc0 := 132) (pc' := 136) rfl (hb hby at_132) (by decide) (by decide) k)
        replace K : OGo p e below A0 T66 (mkF m 139 #[iv p1, iv p2, iv a, iv 2, .val (.long ((a.toInt64) * ((2 : Int32).toInt64))), .second, rv b58, iv 1, iv 1, iv 1, iv 1] []) := fun t k => K t (XS.icmpNo X66.here hx rfl (hb hby at_136) rfl (teq ((by decide : (1 : Int32) = (1 : Int32)) : (1 : Int32) = (1 : Int32))).2 k)
        replace K : OGo p e below A0 T66 (mkF m 140 #[iv p1, iv p2, iv a, iv 2, .val (.long ((a.toInt64) * ((2 : Int32).toInt64))), .second, rv b58, iv 1, iv 1, iv 1, iv 1] [(.int 1)]) := fun t k => K t (XS.iconst X66.here hx rfl (hb hby at_139) k)
        replace K : OGo p e below A0 T66 (mkF m 144 #[iv p1, iv p2, iv a, iv 2, .val (.long ((a.toInt64) * ((2 : Int32).toInt64))), .second, rv b58, iv 1, iv 1, iv 1, iv 1] [(.int 1)]) := fun t k => K t (XS.goto X66.here hx rfl (pc0 := 140) (pc' := 144) rfl (hb hby at_140) (by decide) (by decide) k)
        replace K : OGo p e below A0 T66 (mkF m 146 #[iv p1, iv p2, iv a, iv 2, .val (.long ((a.toInt64) * ((2 : Int32).toInt64))), .second, rv b58, iv 1, iv 1, iv 1, iv 1] []) := fun t k => K t (XS.istore X66.here hx rfl (hb hby at_144) rfl (l' := #[iv p1, iv p2, iv a, iv 2, .val (.long ((a.toInt64) * ((2 : Int32).toInt64))), .second, rv b58, iv 1, iv 1, iv 1, iv 1]) rfl k)
        replace K : OGo p e below A0 T66 (mkF m 147 #[iv p1, iv p2, iv a, iv 2, .val (.long ((a.toInt64) * ((2 : Int32).toInt64))), .second, rv b58, iv 1, iv 1, iv 1, iv 1] [(.int 2)]) := fun t k => K t (XS.iconst X66.here hx rfl (hb hby at_146) k)
        replace K : OGo p e below A0 T66 (mkF m 149 #[iv p1, iv p2, iv a, iv 2, .val (.long ((a.toInt64) * ((2 : Int32).toInt64))), .second, rv b58, iv 1, iv 1, iv 2, iv 1] []) := fun t k => K t (XS.istore X66.here hx rfl (hb hby at_147) rfl (l' := #[iv p1, iv p2, iv a, iv 2, .val (.long ((a.toInt64) * ((2 : Int32).toInt64))), .second, rv b58, iv 1, iv 1, iv 2, iv 1]) rfl k)
        replace K : OGo p e below A0 T66 (mkF m 151 #[iv p1, iv p2, iv a, iv 2, .val (.long ((a.toInt64) * ((2 : Int32).toInt64))), .second, rv b58, iv 1, iv 1, iv 2, iv 1] [(.int 1)]) := fun t k => K t (XS.iload X66.here hx rfl (hb hby at_149) rfl k)
        replace K : OGo p e below A0 T66 (mkF m 154 #[iv p1, iv p2, iv a, iv 2, .val (.long ((a.toInt64) * ((2 : Int32).toInt64))), .second, rv b58, iv 1, iv 1, iv 2, iv 1] []) := fun t k => K t (XS.ifNo X66.here hx rfl (hb hby at_151) rfl ((if0 _ _).trans (feq ((by decide : ¬ ((1 : Int32) = (0 : Int32))) : ¬ ((1 : Int32) = (0 : Int32)))).1) k)
        replace K : OGo p e below A0 T66 (mkF m 156 #[iv p1, iv p2, iv a, iv 2, .val (.long ((a.toInt64) * ((2 : Int32).toInt64))), .second, rv b58, iv 1, iv 1, iv 2, iv 1] [(.int 1)]) := fun t k => K t (XS.iload X66.here hx rfl (hb hby at_154) rfl k)
        replace K : OGo p e below A0 T66 (mkF m 159 #[iv p1, iv p2, iv a, iv 2, .val (.long ((a.toInt64) * ((2 : Int32).toInt64))), .second, rv b58, iv 1, iv 1, iv 2, iv 1] []) := fun t k => K t (XS.ifNo X66.here hx rfl (hb hby at_156) rfl ((if0 _ _).trans (feq ((by decide : ¬ ((1 : Int32) = (0 : Int32))) : ¬ ((1 : Int32) = (0 : Int32)))).1) k)
        replace K : OGo p e below A0 T66 (mkF m 161 #[iv p1, iv p2, iv a, iv 2, .val (.long ((a.toInt64) * ((2 : Int32).toInt64))), .second, rv b58, iv 1, iv 1, iv 2, iv 1] [(.ref b58)]) := fun t k => K t (XS.aload X66.here hx rfl (hb hby at_159) rfl rfl k)
        replace K : OGo p e below A0 T66 (mkF m 162 #[iv p1, iv p2, iv a, iv 2, .val (.long ((a.toInt64) * ((2 : Int32).toInt64))), .second, rv b58, iv 1, iv 1, iv 2, iv 1] [(.int a), (.ref b58)]) := fun t k => K t (XS.iloadN X66.here hx rfl (hb hby at_161) rfl k)
        replace K : OGo p e below A0 T66 (mkF m 163 #[iv p1, iv p2, iv a, iv 2, .val (.long ((a.toInt64) * ((2 : Int32).toInt64))), .second, rv b58, iv 1, iv 1, iv 2, iv 1] [(.int 2), (.int a), (.ref b58)]) := fun t k => K t (XS.iloadN X66.here hx rfl (hb hby at_162) rfl k)
        replace K : OGo p e below A0 T66 (mkF m 164 #[iv p1, iv p2, iv a, iv 2, .val (.long ((a.toInt64) * ((2 : Int32).toInt64))), .second, rv b58, iv 1, iv 1, iv 2, iv 1] [(.int 2), (.int 2), (.int a), (.ref b58)]) := fun t k => K t (XS.iconst X66.here hx rfl (hb hby at_163) k)
        obtain ⟨_, _, ⟨T67, L67, k67, n67⟩, -, X67, ⟨Lc67, hQ67, l67, y67, z67⟩, st67⟩ := Jvm.LawKit.callS X66 hx (y := mN6) hown (mvT hZ (ow hw 38 rfl)) (mvT hZ (ow hw 39 rfl)) (mvT hZ (ow hw 2 rfl)) (mvT hZ (ow hw 40 rfl)) (by decide) (backOf (W := 0) (rm_bok_s22_2 l Z a0 hw [] b58 a ta_59 ca_59 kt_59 kc_59 hp66 n0 Z66 P66_0 P66_1 P66_2 P66_3 P66_4 P66_5 P66_6 P66_7 P66_8 g_b58 g_ta_59 g_ca_59 ne_b58_ta_59 ne_b58_ca_59 P59_2 hna) hZ (ow hw 40 rfl) (ow hw 2 rfl) (by decide) (by decide)) (g := (mkF m 164 #[iv p1, iv p2, iv a, iv 2, .val (.long ((a.toInt64) * ((2 : Int32).toInt64))), .second, rv b58, iv 1, iv 1, iv 2, iv 1] [(.int 2), (.int 2), (.int a), (.ref b58)])) rfl (by rw [hml]; rfl) (argsL := [(.ref b58), (.int a), (.int (2 : Int32)), (.int (2 : Int32))]) (rest := []) (lenOf pd__Lcom_example_flote_flote_program_Choices_III_Z rfl) rfl (by show 2 * 0 + _ ≤ _; exact Nat.le_of_eq rfl) (hb hby at_164) (fun _ _ => ⟨rfl, e66, (by decide : 5 + 0 ≤ _), (by decide : 40 + 0 ≤ _)⟩)
        dsimp only [Pt.U, Pt.locs, Pt.cells, Pt.slots] at X67 l67 y67 z67 st67 hQ67
        subst l67 y67 z67
        obtain ⟨hp67, e67⟩ : ∃ z, T67.heap = z := ⟨_, rfl⟩
        rw [e67] at hQ67
        obtain ⟨rfl, Nq67, K67, P67_0, P67_1, P67_2, P67_3, P67_4, P67_5, P67_6, P67_7, P67_8⟩ := hQ67
        have Z67 : n0 ≤ hp67.size := Nat.le_trans Z66 K67.1
        have N67 := Fr.app N66 Nq67
        replace K : OGo p e below A0 T67 (mkF m 167 #[iv p1, iv p2, iv a, iv 2, .val (.long ((a.toInt64) * ((2 : Int32).toInt64))), .second, rv b58, iv 1, iv 1, iv 2, iv 1] [(.int 1)]) := fun t k => K t (st67 t k)
        replace K : OGo p e below A0 T67 (mkF m 170 #[iv p1, iv p2, iv a, iv 2, .val (.long ((a.toInt64) * ((2 : Int32).toInt64))), .second, rv b58, iv 1, iv 1, iv 2, iv 1] []) := fun t k => K t (XS.ifNo X67.here hx rfl (hb hby at_167) rfl ((if0 _ _).trans (feq ((by decide : ¬ ((1 : Int32) = (0 : Int32))) : ¬ ((1 : Int32) = (0 : Int32)))).1) k)
        replace K : OGo p e below A0 T67 (mkF m 171 #[iv p1, iv p2, iv a, iv 2, .val (.long ((a.toInt64) * ((2 : Int32).toInt64))), .second, rv b58, iv 1, iv 1, iv 2, iv 1] [(.int 1)]) := fun t k => K t (XS.iconst X67.here hx rfl (hb hby at_170) k)
        replace K : OGo p e below A0 T67 (mkF m 175 #[iv p1, iv p2, iv a, iv 2, .val (.long ((a.toInt64) * ((2 : Int32).toInt64))), .second, rv b58, iv 1, iv 1, iv 2, iv 1] [(.int 1)]) := fun t k => K t (XS.goto X67.here hx rfl (pc0 := 171) (pc' := 175) rfl (hb hby at_171) (by decide) (by decide) k)
        replace K : OGo p e below A0 T67 (mkF m 177 #[iv p1, iv p2, iv a, iv 2, .val (.long ((a.toInt64) * ((2 : Int32).toInt64))), .second, rv b58, iv 1, iv 1, iv 2, iv 1] []) := fun t k => K t (XS.istore X67.here hx rfl (hb hby at_175) rfl (l' := #[iv p1, iv p2, iv a, iv 2, .val (.long ((a.toInt64) * ((2 : Int32).toInt64))), .second, rv b58, iv 1, iv 1, iv 2, iv 1]) rfl k)
        replace K : OGo p e below A0 T67 (mkF m 178 #[iv p1, iv p2, iv a, iv 2, .val (.long ((a.toInt64) * ((2 : Int32).toInt64))), .second, rv b58, iv 1, iv 1, iv 2, iv 1] [(.int 3)]) := fun t k => K t (XS.iconst X67.here hx rfl (hb hby at_177) k)
        replace K : OGo p e below A0 T67 (mkF m 180 #[iv p1, iv p2, iv a, iv 2, .val (.long ((a.toInt64) * ((2 : Int32).toInt64))), .second, rv b58, iv 1, iv 1, iv 3, iv 1] []) := fun t k => K t (XS.istore X67.here hx rfl (hb hby at_178) rfl (l' := #[iv p1, iv p2, iv a, iv 2, .val (.long ((a.toInt64) * ((2 : Int32).toInt64))), .second, rv b58, iv 1, iv 1, iv 3, iv 1]) rfl k)
        replace K : OGo p e below A0 T67 (mkF m 181 #[iv p1, iv p2, iv a, iv 2, .val (.long ((a.toInt64) * ((2 : Int32).toInt64))), .second, rv b58, iv 1, iv 1, iv 3, iv 1] [(.int a)]) := fun t k => K t (XS.iloadN X67.here hx rfl (hb hby at_180) rfl k)
        replace K : OGo p e below A0 T67 (mkF m 182 #[iv p1, iv p2, iv a, iv 2, .val (.long ((a.toInt64) * ((2 : Int32).toInt64))), .second, rv b58, iv 1, iv 1, iv 3, iv 1] [(.int 1), (.int a)]) := fun t k => K t (XS.iconst X67.here hx rfl (hb hby at_181) k)
        replace K : OGo p e below A0 T67 (mkF m 185 #[iv p1, iv p2, iv a, iv 2, .val (.long ((a.toInt64) * ((2 : Int32).toInt64))), .second, rv b58, iv 1, iv 1, iv 3, iv 1] []) := fun t k => K t (XS.icmpNo X67.here hx rfl (hb hby at_182) rfl (tlt ((own_gt (by omega)) : (1 : Int32) < a)).2.2.2 k)
        replace K : OGo p e below A0 T67 (mkF m 186 #[iv p1, iv p2, iv a, iv 2, .val (.long ((a.toInt64) * ((2 : Int32).toInt64))), .second, rv b58, iv 1, iv 1, iv 3, iv 1] [(.int 1)]) := fun t k => K t (XS.iconst X67.here hx rfl (hb hby at_185) k)
        replace K : OGo p e below A0 T67 (mkF m 190 #[iv p1, iv p2, iv a, iv 2, .val (.long ((a.toInt64) * ((2 : Int32).toInt64))), .second, rv b58, iv 1, iv 1, iv 3, iv 1] [(.int 1)]) := fun t k => K t (XS.goto X67.here hx rfl (pc0 := 186) (pc' := 190) rfl (hb hby at_186) (by decide) (by decide) k)
        replace K : OGo p e below A0 T67 (mkF m 191 #[iv p1, iv p2, iv a, iv 2, .val (.long ((a.toInt64) * ((2 : Int32).toInt64))), .second, rv b58, iv 1, iv 1, iv 3, iv 1] [(.int 2), (.int 1)]) := fun t k => K t (XS.iloadN X67.here hx rfl (hb hby at_190) rfl k)
        replace K : OGo p e below A0 T67 (mkF m 192 #[iv p1, iv p2, iv a, iv 2, .val (.long ((a.toInt64) * ((2 : Int32).toInt64))), .second, rv b58, iv 1, iv 1, iv 3, iv 1] [(.int 1), (.int 2), (.int 1)]) := fun t k => K t (XS.iconst X67.here hx rfl (hb hby at_191) k)
        replace K : OGo p e below A0 T67 (mkF m 195 #[iv p1, iv p2, iv a, iv 2, .val (.long ((a.toInt64) * ((2 : Int32).toInt64))), .second, rv b58, iv 1, iv 1, iv 3, iv 1] [(.int 1)]) := fun t k => K t (XS.icmpNo X67.here hx rfl (hb hby at_192) rfl (tlt ((by decide : (1 : Int32) < (2 : Int32)) : (1 : Int32) < (2 : Int32))).2.2.2 k)
        replace K : OGo p e below A0 T67 (mkF m 196 #[iv p1, iv p2, iv a, iv 2, .val (.long ((a.toInt64) * ((2 : Int32).toInt64))), .second, rv b58, iv 1, iv 1, iv 3, iv 1] [(.int 1), (.int 1)]) := fun t k => K t (XS.iconst X67.here hx rfl (hb hby at_195) k)
        replace K : OGo p e below A0 T67 (mkF m 200 #[iv p1, iv p2, iv a, iv 2, .val (.long ((a.toInt64) * ((2 : Int32).toInt64))), .second, rv b58, iv 1, iv 1, iv 3, iv 1] [(.int 1), (.int 1)]) := fun t k => K t (XS.goto X67.here hx rfl (pc0 := 196) (pc' := 200) rfl (hb hby at_196) (by decide) (by decide) k)
        replace K : OGo p e below A0 T67 (mkF m 201 #[iv p1, iv p2, iv a, iv 2, .val (.long ((a.toInt64) * ((2 : Int32).toInt64))), .second, rv b58, iv 1, iv 1, iv 3, iv 1] [(.int 2)]) := fun t k => K t (XS.iadd X67.here hx rfl (hb hby at_200) rfl k)
        replace K : OGo p e below A0 T67 (mkF m 203 #[iv p1, iv p2, iv a, iv 2, .val (.long ((a.toInt64) * ((2 : Int32).toInt64))), .second, rv b58, iv 1, iv 1, iv 3, iv 2] []) := fun t k => K t (XS.istore X67.here hx rfl (hb hby at_201) rfl (l' := #[iv p1, iv p2, iv a, iv 2, .val (.long ((a.toInt64) * ((2 : Int32).toInt64))), .second, rv b58, iv 1, iv 1, iv 3, iv 2]) rfl k)
        replace K : OGo p e below A0 T67 (mkF m 205 #[iv p1, iv p2, iv a, iv 2, .val (.long ((a.toInt64) * ((2 : Int32).toInt64))), .second, rv b58, iv 1, iv 1, iv 3, iv 2] [(.int 1)]) := fun t k => K t (XS.iload X67.here hx rfl (hb hby at_203) rfl k)
        replace K : OGo p e below A0 T67 (mkF m 208 #[iv p1, iv p2, iv a, iv 2, .val (.long ((a.toInt64) * ((2 : Int32).toInt64))), .second, rv b58, iv 1, iv 1, iv 3, iv 2] []) := fun t k => K t (XS.ifNo X67.here hx rfl (hb hby at_205) rfl ((if0 _ _).trans (feq ((by decide : ¬ ((1 : Int32) = (0 : Int32))) : ¬ ((1 : Int32) = (0 : Int32)))).1) k)
        replace K : OGo p e below A0 T67 (mkF m 210 #[iv p1, iv p2, iv a, iv 2, .val (.long ((a.toInt64) * ((2 : Int32).toInt64))), .second, rv b58, iv 1, iv 1, iv 3, iv 2] [(.ref b58)]) := fun t k => K t (XS.aload X67.here hx rfl (hb hby at_208) rfl rfl k)
        obtain ⟨cq68, kq68, qv68a, qv68b, qv68c⟩ := isOf hZ e67 P67_0
        obtain ⟨_, _, ⟨T68, L68, k68, n68⟩, -, X68, ⟨Lc68, hQ68, l68, y68, z68⟩, st68⟩ := X67.virtualBack hx (y := mN5) (z := mN5) hown (mvT hZ (ow hw 52 rfl)) (mvT hZ (ow hw 53 rfl)) (notFace_of_selects (args := #[]) (mvT hZ (ow hw 55 rfl))) (mvT hZ (ow hw 55 rfl)) (mvT hZ (ow hw 54 rfl)) (by decide) (backOf (W := 0) (rm_fewest l Z a0 hw [] b58 (3 : Int32) (2 : Int32) hp67 n0 Z67 P67_5 P67_3) hZ (ow hw 56 rfl) (ow hw 7 rfl) (by decide) (by decide)) qv68a qv68c (g := (mkF m 210 #[iv p1, iv p2, iv a, iv 2, .val (.long ((a.toInt64) * ((2 : Int32).toInt64))), .second, rv b58, iv 1, iv 1, iv 3, iv 2] [(.ref b58)])) rfl (by rw [hml]; rfl) (Steps.refl _) (argsL := []) (rest := []) (lenOf pd___I rfl) rfl (by show 2 * 0 + _ ≤ _; exact Nat.le_of_eq rfl) (hb hby at_210) (fun _ _ => ⟨rfl, e67, (by decide : 5 + 0 ≤ _), (by decide : 40 + 0 ≤ _)⟩)
        dsimp only [Pt.U, Pt.locs, Pt.cells, Pt.slots] at X68 l68 y68 z68 st68 hQ68
        subst l68 y68 z68
        obtain ⟨rfl, Nq68, e68⟩ := hQ68
        have N68 := Fr.app N67 Nq68
        replace K : OGo p e below A0 T68 (mkF m 213 #[iv p1, iv p2, iv a, iv 2, .val (.long ((a.toInt64) * ((2 : Int32).toInt64))), .second, rv b58, iv 1, iv 1, iv 3, iv 2] [(.int (own_max (3 : Int32) ((2 : Int32) + (1 : Int32))))]) := fun t k => K t (st68.trans k)
        replace K : OGo p e below A0 T68 (mkF m 215 #[iv p1, iv p2, iv a, iv 2, .val (.long ((a.toInt64) * ((2 : Int32).toInt64))), .second, rv b58, iv 1, iv 1, iv 3, iv 2] [(.int 3), (.int (own_max (3 : Int32) ((2 : Int32) + (1 : Int32))))]) := fun t k => K t (XS.iload X68.here hx rfl (hb hby at_213) rfl k)
        replace K : OGo p e below A0 T68 (mkF m 217 #[iv p1, iv p2, iv a, iv 2, .val (.long ((a.toInt64) * ((2 : Int32).toInt64))), .second, rv b58, iv 1, iv 1, iv 3, iv 2] [(.int 2), (.int 3), (.int (own_max (3 : Int32) ((2 : Int32) + (1 : Int32))))]) := fun t k => K t (XS.iload X68.here hx rfl (hb hby at_215) rfl k)
        replace K : OGo p e below A0 T68 (mkF m 218 #[iv p1, iv p2, iv a, iv 2, .val (.long ((a.toInt64) * ((2 : Int32).toInt64))), .second, rv b58, iv 1, iv 1, iv 3, iv 2] [(.int 1), (.int 2), (.int 3), (.int (own_max (3 : Int32) ((2 : Int32) + (1 : Int32))))]) := fun t k => K t (XS.iconst X68.here hx rfl (hb hby at_217) k)
        replace K : OGo p e below A0 T68 (mkF m 219 #[iv p1, iv p2, iv a, iv 2, .val (.long ((a.toInt64) * ((2 : Int32).toInt64))), .second, rv b58, iv 1, iv 1, iv 3, iv 2] [(.int 3), (.int 3), (.int (own_max (3 : Int32) ((2 : Int32) + (1 : Int32))))]) := fun t k => K t (XS.iadd X68.here hx rfl (hb hby at_218) rfl k)
        obtain ⟨_, _, ⟨T69, L69, k69, n69⟩, -, X69, ⟨Lc69, hQ69, l69, y69, z69⟩, st69⟩ := Jvm.LawKit.callS X68 hx (y := mN1) hown (mvT hZ (ow hw 61 rfl)) (mvT hZ (ow hw 58 rfl)) (mvT hZ (ow hw 59 rfl)) (mvT hZ (ow hw 60 rfl)) (by decide) (backOf (W := 1) (rm_max l Z a0 hw [] (3 : Int32) (3 : Int32) hp67 n0 Z67 ) hZ (ow hw 60 rfl) (ow hw 59 rfl) (by decide) (by decide)) (g := (mkF m 219 #[iv p1, iv p2, iv a, iv 2, .val (.long ((a.toInt64) * ((2 : Int32).toInt64))), .second, rv b58, iv 1, iv 1, iv 3, iv 2] [(.int 3), (.int 3), (.int (own_max (3 : Int32) ((2 : Int32) + (1 : Int32))))])) rfl (by rw [hml]; rfl) (argsL := [(.int (3 : Int32)), (.int (3 : Int32))]) (rest := [(.int (own_max (3 : Int32) ((2 : Int32) + (1 : Int32))))]) (lenOf pd__II_I rfl) rfl (by show 2 * 0 + _ ≤ _; exact Nat.le_of_eq rfl) (hb hby at_219) (fun _ _ => ⟨rfl, e68, (by decide : 5 + 0 ≤ _), (by decide : 40 + 0 ≤ _)⟩)
        dsimp only [Pt.U, Pt.locs, Pt.cells, Pt.slots] at X69 l69 y69 z69 st69 hQ69
        subst l69 y69 z69
        obtain ⟨rfl, Nq69, e69⟩ := hQ69
        have N69 := Fr.app N68 Nq69
        replace K : OGo p e below A0 T69 (mkF m 222 #[iv p1, iv p2, iv a, iv 2, .val (.long ((a.toInt64) * ((2 : Int32).toInt64))), .second, rv b58, iv 1, iv 1, iv 3, iv 2] [(.int (own_max (3 : Int32) (3 : Int32))), (.int (own_max (3 : Int32) ((2 : Int32) + (1 : Int32))))]) := fun t k => K t (st69 t k)
        replace K : OGo p e below A0 T69 (mkF m 225 #[iv p1, iv p2, iv a, iv 2, .val (.long ((a.toInt64) * ((2 : Int32).toInt64))), .second, rv b58, iv 1, iv 1, iv 3, iv 2] []) := fun t k => K t (XS.icmpNo X69.here hx rfl (hb hby at_222) rfl (teq ((by decide) : (own_max (3 : Int32) ((2 : Int32) + (1 : Int32))) = (own_max (3 : Int32) (3 : Int32)))).2 k)
        replace K : OGo p e below A0 T69 (mkF m 226 #[iv p1, iv p2, iv a, iv 2, .val (.long ((a.toInt64) * ((2 : Int32).toInt64))), .second, rv b58, iv 1, iv 1, iv 3, iv 2] [(.int 1)]) := fun t k => K t (XS.iconst X69.here hx rfl (hb hby at_225) k)
        replace K : OGo p e below A0 T69 (mkF m 230 #[iv p1, iv p2, iv a, iv 2, .val (.long ((a.toInt64) * ((2 : Int32).toInt64))), .second, rv b58, iv 1, iv 1, iv 3, iv 2] [(.int 1)]) := fun t k => K t (XS.goto X69.here hx rfl (pc0 := 226) (pc' := 230) rfl (hb hby at_226) (by decide) (by decide) k)
        replace K : OGo p e below A0 T69 (mkF m 232 #[iv p1, iv p2, iv a, iv 2, .val (.long ((a.toInt64) * ((2 : Int32).toInt64))), .second, rv b58, iv 1, iv 1, iv 3, iv 2] []) := fun t k => K t (XS.istore X69.here hx rfl (hb hby at_230) rfl (l' := #[iv p1, iv p2, iv a, iv 2, .val (.long ((a.toInt64) * ((2 : Int32).toInt64))), .second, rv b58, iv 1, iv 1, iv 3, iv 2]) rfl k)
        replace K : OGo p e below A0 T69 (mkF m 234 #[iv p1, iv p2, iv a, iv 2, .val (.long ((a.toInt64) * ((2 : Int32).toInt64))), .second, rv b58, iv 1, iv 1, iv 3, iv 2] [(.int 1)]) := fun t k => K t (XS.iload X69.here hx rfl (hb hby at_232) rfl k)
        obtain ⟨fs, hr, hrun, hended, hW, hsame⟩ := X69.leave (v := some (.int (1 : Int32))) (fun h => by rw [Bd.returns] at h; cases h)
        subst hA0
        refine ⟨_, _, K _ (retN X69 hx (t := .boolean) Bd.returns (by simp) (hb hby at_234) hr), hrun, hended, _, _, rfl, ?_, ⟨_, rfl⟩, hW, hsame.mono (by decide) (by decide)⟩
        show Q_law Z p1 p2 h0 n0 _ T69.heap _
        rw [e69]
        exact ⟨rfl, N69⟩
      · replace hnb := own_ge hnb hb2 (by decide)
        replace K : OGo p e below A0 T2 (mkF m 11 #[iv p1, iv p2, iv a, iv b, .unset, .unset, .unset, .unset, .unset, .unset, .unset] [(.int a)]) := fun t k => K t (XS.iloadN X2.here hx rfl (hb hby at_10) rfl k)
        replace K : OGo p e below A0 T2 (mkF m 12 #[iv p1, iv p2, iv a, iv b, .unset, .unset, .unset, .unset, .unset, .unset, .unset] [(.long (a.toInt64))]) := fun t k => K t (XS.i2l X2.here hx rfl (hb hby at_11) rfl k)
        replace K : OGo p e below A0 T2 (mkF m 13 #[iv p1, iv p2, iv a, iv b, .unset, .unset, .unset, .unset, .unset, .unset, .unset] [(.int b), (.long (a.toInt64))]) := fun t k => K t (XS.iloadN X2.here hx rfl (hb hby at_12) rfl k)
        replace K : OGo p e below A0 T2 (mkF m 14 #[iv p1, iv p2, iv a, iv b, .unset, .unset, .unset, .unset, .unset, .unset, .unset] [(.long (b.toInt64)), (.long (a.toInt64))]) := fun t k => K t (XS.i2l X2.here hx rfl (hb hby at_13) rfl k)
        replace K : OGo p e below A0 T2 (mkF m 15 #[iv p1, iv p2, iv a, iv b, .unset, .unset, .unset, .unset, .unset, .unset, .unset] [(.long ((a.toInt64) * (b.toInt64)))]) := fun t k => K t (XS.lmul X2.here hx rfl (hb hby at_14) rfl k)
        replace K : OGo p e below A0 T2 (mkF m 17 #[iv p1, iv p2, iv a, iv b, .val (.long ((a.toInt64) * (b.toInt64))), .second, .unset, .unset, .unset, .unset, .unset] []) := fun t k => K t (XS.lstore X2.here hx rfl (hb hby at_15) rfl (l' := #[iv p1, iv p2, iv a, iv b, .val (.long ((a.toInt64) * (b.toInt64))), .second, .unset, .unset, .unset, .unset, .unset]) rfl k)
        obtain ⟨T70, h70, X70, e70, E70, A70, D70, -, st70⟩ := newO X2 hx hZ hown (ow hw 5 rfl) (ow hw 6 rfl) (ow hw 7 rfl) e2 (g := (mkF m 17 #[iv p1, iv p2, iv a, iv b, .val (.long ((a.toInt64) * (b.toInt64))), .second, .unset, .unset, .unset, .unset, .unset] [])) rfl (hb hby at_17) (by decide) (by decide)
        obtain ⟨b70, gz70⟩ : ∃ z, z = h0.size := ⟨_, rfl⟩
        rw [← gz70] at A70 D70 st70
        have g_b70 : n0 ≤ b70 := Nat.le_trans Z0 (Nat.le_of_eq gz70.symm)
        have Z70 : n0 ≤ h70.size := Nat.le_trans Z0 E70.1
        have F_taken_b70 : Fld Z h70 b70 cN0 "taken" "[I" .null := D70 (Or.inl (ow hw 16 rfl)) (ty := (.array .int)) (by decide)
        have F_counts_b70 : Fld Z h70 b70 cN0 "counts" "[I" .null := D70 (Or.inl (ow hw 18 rfl)) (ty := (.array .int)) (by decide)
        have F_values_b70 : Fld Z h70 b70 cN0 "values" "[I" .null := D70 (Or.inl (ow hw 20 rfl)) (ty := (.array .int)) (by decide)
        have F_types_b70 : Fld Z h70 b70 cN0 "types" cN1 .null := D70 (Or.inl (ow hw 24 rfl)) (ty := (.array (.object "com/example/flote/flote/program/Type"))) (by decide)
        have F_met_b70 : Fld Z h70 b70 cN0 "met" "I" (.int (0 : Int32)) := D70 (Or.inl (ow hw 31 rfl)) (ty := .int) (by decide)
        have F_repeated_b70 : Fld Z h70 b70 cN0 "repeated" "I" (.int (0 : Int32)) := D70 (Or.inl (ow hw 33 rfl)) (ty := .int) (by decide)
        have F_branches_b70 : Fld Z h70 b70 cN0 "branches" "I" (.int (0 : Int32)) := D70 (Or.inl (ow hw 35 rfl)) (ty := .int) (by decide)
        have F_computed_b70 : Fld Z h70 b70 cN0 "computed" "I" (.int (0 : Int32)) := D70 (Or.inl (ow hw 37 rfl)) (ty := .int) (by decide)
        replace K : OGo p e below A0 T70 (mkF m 20 #[iv p1, iv p2, iv a, iv b, .val (.long ((a.toInt64) * (b.toInt64))), .second, .unset, .unset, .unset, .unset, .unset] [(.ref b70)]) := fun t k => K t (st70 t k)
        replace K : OGo p e below A0 T70 (mkF m 21 #[iv p1, iv p2, iv a, iv b, .val (.long ((a.toInt64) * (b.toInt64))), .second, .unset, .unset, .unset, .unset, .unset] [(.ref b70), (.ref b70)]) := fun t k => K t (XS.dup X70.here hx rfl (hb hby at_20) rfl rfl k)
        obtain ⟨_, _, ⟨T71, L71, k71, n71⟩, -, X71, ⟨Lc71, hQ71, l71, y71, z71⟩, st71⟩ := X70.specialBack hx (y := mN2) rfl hown (mvT hZ (ow hw 8 rfl)) (mvT hZ (ow hw 9 rfl)) (mvT hZ (ow hw 10 rfl)) (by decide) (backOf (W := 1) (rm_init l Z a0 hw [] b70 h70 n0 Z70 A70 F_taken_b70 F_counts_b70 F_values_b70 F_types_b70 F_met_b70 F_repeated_b70 F_branches_b70 F_computed_b70 g_b70) hZ (ow hw 10 rfl) (ow hw 7 rfl) (by decide) (by decide)) (g := (mkF m 21 #[iv p1, iv p2, iv a, iv b, .val (.long ((a.toInt64) * (b.toInt64))), .second, .unset, .unset, .unset, .unset, .unset] [(.ref b70), (.ref b70)])) rfl (by rw [hml]; rfl) (Steps.refl _) (a := b70) (argsL := []) (rest := [(.ref b70)]) (lenOf pd___V rfl) rfl (by show 2 * 0 + _ ≤ _; exact Nat.le_of_eq rfl) (hb hby at_21) (fun _ _ => ⟨rfl, e70, (by decide : 1 + 4 ≤ _), (by decide : 8 + 32 ≤ _)⟩)
        dsimp only [Pt.U, Pt.locs, Pt.cells, Pt.slots] at X71 l71 y71 z71 st71 hQ71
        subst l71 y71 z71
        obtain ⟨hp71, e71⟩ : ∃ z, T71.heap = z := ⟨_, rfl⟩
        rw [e71] at hQ71
        obtain ⟨rfl, Nq71, ta_71, ca_71, kt_71, kc_71, K71, P71_0, P71_1, P71_2, P71_3, P71_4, P71_5, P71_6, P71_7, P71_8, P71_9, P71_10, P71_11⟩ := hQ71
        have ne_b70_ta_71 : b70 ≠ ta_71 := Nat.ne_of_lt (Nat.lt_of_lt_of_le A70.lt P71_0)
        have g_ta_71 : n0 ≤ ta_71 := Nat.le_trans Z70 P71_0
        have ne_b70_ca_71 : b70 ≠ ca_71 := Nat.ne_of_lt (Nat.lt_of_lt_of_le A70.lt P71_1)
        have g_ca_71 : n0 ≤ ca_71 := Nat.le_trans Z70 P71_1
        have Z71 : n0 ≤ hp71.size := Nat.le_trans Z70 K71.1
        have N71 := Fr.app N2 Nq71
        replace K : OGo p e below A0 T71 (mkF m 24 #[iv p1, iv p2, iv a, iv b, .val (.long ((a.toInt64) * (b.toInt64))), .second, .unset, .unset, .unset, .unset, .unset] [(.ref b70)]) := fun t k => K t (st71.trans k)
        replace K : OGo p e below A0 T71 (mkF m 26 #[iv p1, iv p2, iv a, iv b, .val (.long ((a.toInt64) * (b.toInt64))), .second, rv b70, .unset, .unset, .unset, .unset] []) := fun t k => K t (XS.astore X71.here hx rfl (hb hby at_24) rfl rfl (l' := #[iv p1, iv p2, iv a, iv b, .val (.long ((a.toInt64) * (b.toInt64))), .second, rv b70, .unset, .unset, .unset, .unset]) rfl k)
        replace K : OGo p e below A0 T71 (mkF m 28 #[iv p1, iv p2, iv a, iv b, .val (.long ((a.toInt64) * (b.toInt64))), .second, rv b70, .unset, .unset, .unset, .unset] [(.ref b70)]) := fun t k => K t (XS.aload X71.here hx rfl (hb hby at_26) rfl rfl k)
        obtain ⟨cq72, kq72, qv72a, qv72b, qv72c⟩ := isOf hZ e71 P71_3
        obtain ⟨_, _, ⟨T72, L72, k72, n72⟩, -, X72, ⟨Lc72, hQ72, l72, y72, z72⟩, st72⟩ := X71.virtualBack hx (y := mN3) (z := mN3) hown (mvT hZ (ow hw 25 rfl)) (mvT hZ (ow hw 26 rfl)) (notFace_of_selects (args := #[]) (mvT hZ (ow hw 28 rfl))) (mvT hZ (ow hw 28 rfl)) (mvT hZ (ow hw 27 rfl)) (by decide) (backOf (W := 0) (rm_begin l Z a0 hw [] b70 ta_71 ca_71 kt_71 kc_71 hp71 n0 Z71 P71_3 P71_4 P71_5 P71_6 P71_7 P71_8 P71_9 P71_10 P71_11 g_b70 ne_b70_ta_71 ne_b70_ca_71) hZ (ow hw 29 rfl) (ow hw 7 rfl) (by decide) (by decide)) qv72a qv72c (g := (mkF m 28 #[iv p1, iv p2, iv a, iv b, .val (.long ((a.toInt64) * (b.toInt64))), .second, rv b70, .unset, .unset, .unset, .unset] [(.ref b70)])) rfl (by rw [hml]; rfl) (Steps.refl _) (argsL := []) (rest := []) (lenOf pd___V rfl) rfl (by show 2 * 0 + _ ≤ _; exact Nat.le_of_eq rfl) (hb hby at_28) (fun _ _ => ⟨rfl, e71, (by decide : 5 + 0 ≤ _), (by decide : 40 + 0 ≤ _)⟩)
        dsimp only [Pt.U, Pt.locs, Pt.cells, Pt.slots] at X72 l72 y72 z72 st72 hQ72
        subst l72 y72 z72
        obtain ⟨hp72, e72⟩ : ∃ z, T72.heap = z := ⟨_, rfl⟩
        rw [e72] at hQ72
        obtain ⟨rfl, Nq72, K72, P72_0, P72_1, P72_2, P72_3, P72_4, P72_5, P72_6⟩ := hQ72
        have Z72 : n0 ≤ hp72.size := Nat.le_trans Z71 K72.1
        have N72 := Fr.app N71 Nq72
        replace K : OGo p e below A0 T72 (mkF m 31 #[iv p1, iv p2, iv a, iv b, .val (.long ((a.toInt64) * (b.toInt64))), .second, rv b70, .unset, .unset, .unset, .unset] []) := fun t k => K t (st72.trans k)
        replace K : OGo p e below A0 T72 (mkF m 33 #[iv p1, iv p2, iv a, iv b, .val (.long ((a.toInt64) * (b.toInt64))), .second, rv b70, .unset, .unset, .unset, .unset] [(.ref b70)]) := fun t k => K t (XS.aload X72.here hx rfl (hb hby at_31) rfl rfl k)
        replace K : OGo p e below A0 T72 (mkF m 34 #[iv p1, iv p2, iv a, iv b, .val (.long ((a.toInt64) * (b.toInt64))), .second, rv b70, .unset, .unset, .unset, .unset] [(.int a), (.ref b70)]) := fun t k => K t (XS.iloadN X72.here hx rfl (hb hby at_33) rfl k)
        replace K : OGo p e below A0 T72 (mkF m 35 #[iv p1, iv p2, iv a, iv b, .val (.long ((a.toInt64) * (b.toInt64))), .second, rv b70, .unset, .unset, .unset, .unset] [(.int b), (.int a), (.ref b70)]) := fun t k => K t (XS.iloadN X72.here hx rfl (hb hby at_34) rfl k)
        replace K : OGo p e below A0 T72 (mkF m 36 #[iv p1, iv p2, iv a, iv b, .val (.long ((a.toInt64) * (b.toInt64))), .second, rv b70, .unset, .unset, .unset, .unset] [(.int 0), (.int b), (.int a), (.ref b70)]) := fun t k => K t (XS.iconst X72.here hx rfl (hb hby at_35) k)
        have V_ta_71_74 := (P71_10.keep K72 (ninS (Ne.symm ne_b70_ta_71) nin0))
        have V_ca_71_75 := (P71_11.keep K72 (ninS (Ne.symm ne_b70_ca_71) nin0))
        obtain ⟨_, _, ⟨T73, L73, k73, n73⟩, -, X73, ⟨Lc73, hQ73, l73, y73, z73⟩, st73⟩ := Jvm.LawKit.callS X72 hx (y := mN6) hown (mvT hZ (ow hw 38 rfl)) (mvT hZ (ow hw 39 rfl)) (mvT hZ (ow hw 2 rfl)) (mvT hZ (ow hw 40 rfl)) (by decide) (backOf (W := 0) (rm_bok_s23_0 l Z a0 hw [] b70 a b ta_71 ca_71 kt_71 kc_71 hp72 n0 Z72 P72_0 P72_1 P72_2 P72_3 P72_4 P72_5 P72_6 V_ta_71_74 V_ca_71_75 g_b70 g_ta_71 g_ca_71 ne_b70_ta_71 ne_b70_ca_71 P71_2 hna hnb) hZ (ow hw 40 rfl) (ow hw 2 rfl) (by decide) (by decide)) (g := (mkF m 36 #[iv p1, iv p2, iv a, iv b, .val (.long ((a.toInt64) * (b.toInt64))), .second, rv b70, .unset, .unset, .unset, .unset] [(.int 0), (.int b), (.int a), (.ref b70)])) rfl (by rw [hml]; rfl) (argsL := [(.ref b70), (.int a), (.int b), (.int (0 : Int32))]) (rest := []) (lenOf pd__Lcom_example_flote_flote_program_Choices_III_Z rfl) rfl (by show 2 * 0 + _ ≤ _; exact Nat.le_of_eq rfl) (hb hby at_36) (fun _ _ => ⟨rfl, e72, (by decide : 5 + 0 ≤ _), (by decide : 40 + 0 ≤ _)⟩)
        dsimp only [Pt.U, Pt.locs, Pt.cells, Pt.slots] at X73 l73 y73 z73 st73 hQ73
        subst l73 y73 z73
        obtain ⟨hp73, e73⟩ : ∃ z, T73.heap = z := ⟨_, rfl⟩
        rw [e73] at hQ73
        obtain ⟨rfl, Nq73, K73, P73_0, P73_1, P73_2, P73_3, P73_4, P73_5, P73_6, P73_7, P73_8⟩ := hQ73
        have Z73 : n0 ≤ hp73.size := Nat.le_trans Z72 K73.1
        have N73 := Fr.app N72 Nq73
        replace K : OGo p e below A0 T73 (mkF m 39 #[iv p1, iv p2, iv a, iv b, .val (.long ((a.toInt64) * (b.toInt64))), .second, rv b70, .unset, .unset, .unset, .unset] [(.int 1)]) := fun t k => K t (st73 t k)
        replace K : OGo p e below A0 T73 (mkF m 41 #[iv p1, iv p2, iv a, iv b, .val (.long ((a.toInt64) * (b.toInt64))), .second, rv b70, iv 1, .unset, .unset, .unset] []) := fun t k => K t (XS.istore X73.here hx rfl (hb hby at_39) rfl (l' := #[iv p1, iv p2, iv a, iv b, .val (.long ((a.toInt64) * (b.toInt64))), .second, rv b70, iv 1, .unset, .unset, .unset]) rfl k)
        replace K : OGo p e below A0 T73 (mkF m 43 #[iv p1, iv p2, iv a, iv b, .val (.long ((a.toInt64) * (b.toInt64))), .second, rv b70, iv 1, .unset, .unset, .unset] [(.ref b70)]) := fun t k => K t (XS.aload X73.here hx rfl (hb hby at_41) rfl rfl k)
        obtain ⟨cq76, kq76, qv76a, qv76b, qv76c⟩ := isOf hZ e73 P73_0
        obtain ⟨_, _, ⟨T76, L76, k76, n76⟩, -, X76, ⟨Lc76, hQ76, l76, y76, z76⟩, st76⟩ := X73.virtualBack hx (y := mN7) (z := mN7) hown (mvT hZ (ow hw 46 rfl)) (mvT hZ (ow hw 47 rfl)) (notFace_of_selects (args := #[]) (mvT hZ (ow hw 49 rfl))) (mvT hZ (ow hw 49 rfl)) (mvT hZ (ow hw 48 rfl)) (by decide) (backOf (W := 0) (rm_nx_D_s23 l Z a0 hw [] b70 ta_71 ca_71 kt_71 kc_71 a b hp73 n0 Z73 P73_0 P73_1 P73_2 P73_3 P73_4 P73_5 P73_6 P73_7 P73_8 g_b70 g_ta_71 g_ca_71 ne_b70_ta_71 ne_b70_ca_71 P71_2 hna hnb) hZ (ow hw 50 rfl) (ow hw 7 rfl) (by decide) (by decide)) qv76a qv76c (g := (mkF m 43 #[iv p1, iv p2, iv a, iv b, .val (.long ((a.toInt64) * (b.toInt64))), .second, rv b70, iv 1, .unset, .unset, .unset] [(.ref b70)])) rfl (by rw [hml]; rfl) (Steps.refl _) (argsL := []) (rest := []) (lenOf pd___Z rfl) rfl (by show 2 * 0 + _ ≤ _; exact Nat.le_of_eq rfl) (hb hby at_43) (fun _ _ => ⟨rfl, e73, (by decide : 5 + 0 ≤ _), (by decide : 40 + 0 ≤ _)⟩)
        dsimp only [Pt.U, Pt.locs, Pt.cells, Pt.slots] at X76 l76 y76 z76 st76 hQ76
        subst l76 y76 z76
        obtain ⟨hp76, e76⟩ : ∃ z, T76.heap = z := ⟨_, rfl⟩
        rw [e76] at hQ76
        obtain ⟨rfl, Nq76, K76, P76_0, P76_1, P76_2, P76_3, P76_4, P76_5, P76_6, P76_7, P76_8⟩ := hQ76
        have Z76 : n0 ≤ hp76.size := Nat.le_trans Z73 K76.1
        have N76 := Fr.app N73 Nq76
        replace K : OGo p e below A0 T76 (mkF m 46 #[iv p1, iv p2, iv a, iv b, .val (.long ((a.toInt64) * (b.toInt64))), .second, rv b70, iv 1, .unset, .unset, .unset] [(.int 1)]) := fun t k => K t (st76.trans k)
        replace K : OGo p e below A0 T76 (mkF m 48 #[iv p1, iv p2, iv a, iv b, .val (.long ((a.toInt64) * (b.toInt64))), .second, rv b70, iv 1, iv 1, .unset, .unset] []) := fun t k => K t (XS.istore X76.here hx rfl (hb hby at_46) rfl (l' := #[iv p1, iv p2, iv a, iv b, .val (.long ((a.toInt64) * (b.toInt64))), .second, rv b70, iv 1, iv 1, .unset, .unset]) rfl k)
        replace K : OGo p e below A0 T76 (mkF m 50 #[iv p1, iv p2, iv a, iv b, .val (.long ((a.toInt64) * (b.toInt64))), .second, rv b70, iv 1, iv 1, .unset, .unset] [(.int 1)]) := fun t k => K t (XS.iload X76.here hx rfl (hb hby at_48) rfl k)
        replace K : OGo p e below A0 T76 (mkF m 53 #[iv p1, iv p2, iv a, iv b, .val (.long ((a.toInt64) * (b.toInt64))), .second, rv b70, iv 1, iv 1, .unset, .unset] []) := fun t k => K t (XS.ifNo X76.here hx rfl (hb hby at_50) rfl ((if0 _ _).trans (feq ((by decide : ¬ ((1 : Int32) = (0 : Int32))) : ¬ ((1 : Int32) = (0 : Int32)))).1) k)
        replace K : OGo p e below A0 T76 (mkF m 55 #[iv p1, iv p2, iv a, iv b, .val (.long ((a.toInt64) * (b.toInt64))), .second, rv b70, iv 1, iv 1, .unset, .unset] [(.int 1)]) := fun t k => K t (XS.iload X76.here hx rfl (hb hby at_53) rfl k)
        replace K : OGo p e below A0 T76 (mkF m 56 #[iv p1, iv p2, iv a, iv b, .val (.long ((a.toInt64) * (b.toInt64))), .second, rv b70, iv 1, iv 1, .unset, .unset] [(.long 1), (.int 1)]) := fun t k => K t (XS.lconst X76.here hx rfl (hb hby at_55) k)
        replace K : OGo p e below A0 T76 (mkF m 58 #[iv p1, iv p2, iv a, iv b, .val (.long ((a.toInt64) * (b.toInt64))), .second, rv b70, iv 1, iv 1, .unset, .unset] [(.long ((a.toInt64) * (b.toInt64))), (.long 1), (.int 1)]) := fun t k => K t (XS.lload X76.here hx rfl (hb hby at_56) rfl k)
        replace K : OGo p e below A0 T76 (mkF m 59 #[iv p1, iv p2, iv a, iv b, .val (.long ((a.toInt64) * (b.toInt64))), .second, rv b70, iv 1, iv 1, .unset, .unset] [(.int (lcmpW (1 : Int64) ((a.toInt64) * (b.toInt64)))), (.int 1)]) := fun t k => K t (XS.lcmp X76.here hx rfl (hb hby at_58) rfl k)
        replace K : OGo p e below A0 T76 (mkF m 62 #[iv p1, iv p2, iv a, iv b, .val (.long ((a.toInt64) * (b.toInt64))), .second, rv b70, iv 1, iv 1, .unset, .unset] [(.int 1)]) := fun t k => K t (XS.ifNo X76.here hx rfl (hb hby at_59) rfl ((if0 _ _).trans (tlt ((lw_lt (1 : Int64) ((a.toInt64) * (b.toInt64))).mpr ((own_tot hna hnb (by decide) (by decide) (by decide)) : (1 : Int64) < ((a.toInt64) * (b.toInt64))))).2.1) k)
        replace K : OGo p e below A0 T76 (mkF m 63 #[iv p1, iv p2, iv a, iv b, .val (.long ((a.toInt64) * (b.toInt64))), .second, rv b70, iv 1, iv 1, .unset, .unset] [(.int 1), (.int 1)]) := fun t k => K t (XS.iconst X76.here hx rfl (hb hby at_62) k)
        replace K : OGo p e below A0 T76 (mkF m 67 #[iv p1, iv p2, iv a, iv b, .val (.long ((a.toInt64) * (b.toInt64))), .second, rv b70, iv 1, iv 1, .unset, .unset] [(.int 1), (.int 1)]) := fun t k => K t (XS.goto X76.here hx rfl (pc0 := 63) (pc' := 67) rfl (hb hby at_63) (by decide) (by decide) k)
        replace K : OGo p e below A0 T76 (mkF m 70 #[iv p1, iv p2, iv a, iv b, .val (.long ((a.toInt64) * (b.toInt64))), .second, rv b70, iv 1, iv 1, .unset, .unset] []) := fun t k => K t (XS.icmpNo X76.here hx rfl (hb hby at_67) rfl (teq ((by decide : (1 : Int32) = (1 : Int32)) : (1 : Int32) = (1 : Int32))).2 k)
        replace K : OGo p e below A0 T76 (mkF m 71 #[iv p1, iv p2, iv a, iv b, .val (.long ((a.toInt64) * (b.toInt64))), .second, rv b70, iv 1, iv 1, .unset, .unset] [(.int 1)]) := fun t k => K t (XS.iconst X76.here hx rfl (hb hby at_70) k)
        replace K : OGo p e below A0 T76 (mkF m 75 #[iv p1, iv p2, iv a, iv b, .val (.long ((a.toInt64) * (b.toInt64))), .second, rv b70, iv 1, iv 1, .unset, .unset] [(.int 1)]) := fun t k => K t (XS.goto X76.here hx rfl (pc0 := 71) (pc' := 75) rfl (hb hby at_71) (by decide) (by decide) k)
        replace K : OGo p e below A0 T76 (mkF m 77 #[iv p1, iv p2, iv a, iv b, .val (.long ((a.toInt64) * (b.toInt64))), .second, rv b70, iv 1, iv 1, .unset, .unset] []) := fun t k => K t (XS.istore X76.here hx rfl (hb hby at_75) rfl (l' := #[iv p1, iv p2, iv a, iv b, .val (.long ((a.toInt64) * (b.toInt64))), .second, rv b70, iv 1, iv 1, .unset, .unset]) rfl k)
        replace K : OGo p e below A0 T76 (mkF m 78 #[iv p1, iv p2, iv a, iv b, .val (.long ((a.toInt64) * (b.toInt64))), .second, rv b70, iv 1, iv 1, .unset, .unset] [(.int 1)]) := fun t k => K t (XS.iconst X76.here hx rfl (hb hby at_77) k)
        replace K : OGo p e below A0 T76 (mkF m 80 #[iv p1, iv p2, iv a, iv b, .val (.long ((a.toInt64) * (b.toInt64))), .second, rv b70, iv 1, iv 1, iv 1, .unset] []) := fun t k => K t (XS.istore X76.here hx rfl (hb hby at_78) rfl (l' := #[iv p1, iv p2, iv a, iv b, .val (.long ((a.toInt64) * (b.toInt64))), .second, rv b70, iv 1, iv 1, iv 1, .unset]) rfl k)
        replace K : OGo p e below A0 T76 (mkF m 82 #[iv p1, iv p2, iv a, iv b, .val (.long ((a.toInt64) * (b.toInt64))), .second, rv b70, iv 1, iv 1, iv 1, .unset] [(.int 1)]) := fun t k => K t (XS.iload X76.here hx rfl (hb hby at_80) rfl k)
        replace K : OGo p e below A0 T76 (mkF m 85 #[iv p1, iv p2, iv a, iv b, .val (.long ((a.toInt64) * (b.toInt64))), .second, rv b70, iv 1, iv 1, iv 1, .unset] []) := fun t k => K t (XS.ifNo X76.here hx rfl (hb hby at_82) rfl ((if0 _ _).trans (feq ((by decide : ¬ ((1 : Int32) = (0 : Int32))) : ¬ ((1 : Int32) = (0 : Int32)))).1) k)
        replace K : OGo p e below A0 T76 (mkF m 87 #[iv p1, iv p2, iv a, iv b, .val (.long ((a.toInt64) * (b.toInt64))), .second, rv b70, iv 1, iv 1, iv 1, .unset] [(.int 1)]) := fun t k => K t (XS.iload X76.here hx rfl (hb hby at_85) rfl k)
        replace K : OGo p e below A0 T76 (mkF m 90 #[iv p1, iv p2, iv a, iv b, .val (.long ((a.toInt64) * (b.toInt64))), .second, rv b70, iv 1, iv 1, iv 1, .unset] []) := fun t k => K t (XS.ifNo X76.here hx rfl (hb hby at_87) rfl ((if0 _ _).trans (feq ((by decide : ¬ ((1 : Int32) = (0 : Int32))) : ¬ ((1 : Int32) = (0 : Int32)))).1) k)
        replace K : OGo p e below A0 T76 (mkF m 92 #[iv p1, iv p2, iv a, iv b, .val (.long ((a.toInt64) * (b.toInt64))), .second, rv b70, iv 1, iv 1, iv 1, .unset] [(.ref b70)]) := fun t k => K t (XS.aload X76.here hx rfl (hb hby at_90) rfl rfl k)
        replace K : OGo p e below A0 T76 (mkF m 93 #[iv p1, iv p2, iv a, iv b, .val (.long ((a.toInt64) * (b.toInt64))), .second, rv b70, iv 1, iv 1, iv 1, .unset] [(.int a), (.ref b70)]) := fun t k => K t (XS.iloadN X76.here hx rfl (hb hby at_92) rfl k)
        replace K : OGo p e below A0 T76 (mkF m 94 #[iv p1, iv p2, iv a, iv b, .val (.long ((a.toInt64) * (b.toInt64))), .second, rv b70, iv 1, iv 1, iv 1, .unset] [(.int b), (.int a), (.ref b70)]) := fun t k => K t (XS.iloadN X76.here hx rfl (hb hby at_93) rfl k)
        replace K : OGo p e below A0 T76 (mkF m 95 #[iv p1, iv p2, iv a, iv b, .val (.long ((a.toInt64) * (b.toInt64))), .second, rv b70, iv 1, iv 1, iv 1, .unset] [(.int 1), (.int b), (.int a), (.ref b70)]) := fun t k => K t (XS.iconst X76.here hx rfl (hb hby at_94) k)
        obtain ⟨_, _, ⟨T77, L77, k77, n77⟩, -, X77, ⟨Lc77, hQ77, l77, y77, z77⟩, st77⟩ := Jvm.LawKit.callS X76 hx (y := mN6) hown (mvT hZ (ow hw 38 rfl)) (mvT hZ (ow hw 39 rfl)) (mvT hZ (ow hw 2 rfl)) (mvT hZ (ow hw 40 rfl)) (by decide) (backOf (W := 0) (rm_bok_s23_1 l Z a0 hw [] b70 a b ta_71 ca_71 kt_71 kc_71 hp76 n0 Z76 P76_0 P76_1 P76_2 P76_3 P76_4 P76_5 P76_6 P76_7 P76_8 g_b70 g_ta_71 g_ca_71 ne_b70_ta_71 ne_b70_ca_71 P71_2 hna hnb) hZ (ow hw 40 rfl) (ow hw 2 rfl) (by decide) (by decide)) (g := (mkF m 95 #[iv p1, iv p2, iv a, iv b, .val (.long ((a.toInt64) * (b.toInt64))), .second, rv b70, iv 1, iv 1, iv 1, .unset] [(.int 1), (.int b), (.int a), (.ref b70)])) rfl (by rw [hml]; rfl) (argsL := [(.ref b70), (.int a), (.int b), (.int (1 : Int32))]) (rest := []) (lenOf pd__Lcom_example_flote_flote_program_Choices_III_Z rfl) rfl (by show 2 * 0 + _ ≤ _; exact Nat.le_of_eq rfl) (hb hby at_95) (fun _ _ => ⟨rfl, e76, (by decide : 5 + 0 ≤ _), (by decide : 40 + 0 ≤ _)⟩)
        dsimp only [Pt.U, Pt.locs, Pt.cells, Pt.slots] at X77 l77 y77 z77 st77 hQ77
        subst l77 y77 z77
        obtain ⟨hp77, e77⟩ : ∃ z, T77.heap = z := ⟨_, rfl⟩
        rw [e77] at hQ77
        obtain ⟨rfl, Nq77, K77, P77_0, P77_1, P77_2, P77_3, P77_4, P77_5, P77_6, P77_7, P77_8⟩ := hQ77
        have Z77 : n0 ≤ hp77.size := Nat.le_trans Z76 K77.1
        have N77 := Fr.app N76 Nq77
        replace K : OGo p e below A0 T77 (mkF m 98 #[iv p1, iv p2, iv a, iv b, .val (.long ((a.toInt64) * (b.toInt64))), .second, rv b70, iv 1, iv 1, iv 1, .unset] [(.int 1)]) := fun t k => K t (st77 t k)
        replace K : OGo p e below A0 T77 (mkF m 101 #[iv p1, iv p2, iv a, iv b, .val (.long ((a.toInt64) * (b.toInt64))), .second, rv b70, iv 1, iv 1, iv 1, .unset] []) := fun t k => K t (XS.ifNo X77.here hx rfl (hb hby at_98) rfl ((if0 _ _).trans (feq ((by decide : ¬ ((1 : Int32) = (0 : Int32))) : ¬ ((1 : Int32) = (0 : Int32)))).1) k)
        replace K : OGo p e below A0 T77 (mkF m 102 #[iv p1, iv p2, iv a, iv b, .val (.long ((a.toInt64) * (b.toInt64))), .second, rv b70, iv 1, iv 1, iv 1, .unset] [(.int 1)]) := fun t k => K t (XS.iconst X77.here hx rfl (hb hby at_101) k)
        replace K : OGo p e below A0 T77 (mkF m 106 #[iv p1, iv p2, iv a, iv b, .val (.long ((a.toInt64) * (b.toInt64))), .second, rv b70, iv 1, iv 1, iv 1, .unset] [(.int 1)]) := fun t k => K t (XS.goto X77.here hx rfl (pc0 := 102) (pc' := 106) rfl (hb hby at_102) (by decide) (by decide) k)
        replace K : OGo p e below A0 T77 (mkF m 108 #[iv p1, iv p2, iv a, iv b, .val (.long ((a.toInt64) * (b.toInt64))), .second, rv b70, iv 1, iv 1, iv 1, .unset] []) := fun t k => K t (XS.istore X77.here hx rfl (hb hby at_106) rfl (l' := #[iv p1, iv p2, iv a, iv b, .val (.long ((a.toInt64) * (b.toInt64))), .second, rv b70, iv 1, iv 1, iv 1, .unset]) rfl k)
        replace K : OGo p e below A0 T77 (mkF m 110 #[iv p1, iv p2, iv a, iv b, .val (.long ((a.toInt64) * (b.toInt64))), .second, rv b70, iv 1, iv 1, iv 1, .unset] [(.ref b70)]) := fun t k => K t (XS.aload X77.here hx rfl (hb hby at_108) rfl rfl k)
        obtain ⟨cq78, kq78, qv78a, qv78b, qv78c⟩ := isOf hZ e77 P77_0
        obtain ⟨_, _, ⟨T78, L78, k78, n78⟩, -, X78, ⟨Lc78, hQ78, l78, y78, z78⟩, st78⟩ := X77.virtualBack hx (y := mN7) (z := mN7) hown (mvT hZ (ow hw 46 rfl)) (mvT hZ (ow hw 47 rfl)) (notFace_of_selects (args := #[]) (mvT hZ (ow hw 49 rfl))) (mvT hZ (ow hw 49 rfl)) (mvT hZ (ow hw 48 rfl)) (by decide) (backOf (W := 0) (rm_nx_E_s23 l Z a0 hw [] b70 ta_71 ca_71 kt_71 kc_71 a b hp77 n0 Z77 P77_0 P77_1 P77_2 P77_3 P77_4 P77_5 P77_6 P77_7 P77_8 g_b70 g_ta_71 g_ca_71 ne_b70_ta_71 ne_b70_ca_71 P71_2 hna hnb) hZ (ow hw 50 rfl) (ow hw 7 rfl) (by decide) (by decide)) qv78a qv78c (g := (mkF m 110 #[iv p1, iv p2, iv a, iv b, .val (.long ((a.toInt64) * (b.toInt64))), .second, rv b70, iv 1, iv 1, iv 1, .unset] [(.ref b70)])) rfl (by rw [hml]; rfl) (Steps.refl _) (argsL := []) (rest := []) (lenOf pd___Z rfl) rfl (by show 2 * 0 + _ ≤ _; exact Nat.le_of_eq rfl) (hb hby at_110) (fun _ _ => ⟨rfl, e77, (by decide : 5 + 0 ≤ _), (by decide : 40 + 0 ≤ _)⟩)
        dsimp only [Pt.U, Pt.locs, Pt.cells, Pt.slots] at X78 l78 y78 z78 st78 hQ78
        subst l78 y78 z78
        obtain ⟨hp78, e78⟩ : ∃ z, T78.heap = z := ⟨_, rfl⟩
        rw [e78] at hQ78
        obtain ⟨rfl, Nq78, K78, P78_0, P78_1, P78_2, P78_3, P78_4, P78_5, P78_6, P78_7, P78_8⟩ := hQ78
        have Z78 : n0 ≤ hp78.size := Nat.le_trans Z77 K78.1
        have N78 := Fr.app N77 Nq78
        replace K : OGo p e below A0 T78 (mkF m 113 #[iv p1, iv p2, iv a, iv b, .val (.long ((a.toInt64) * (b.toInt64))), .second, rv b70, iv 1, iv 1, iv 1, .unset] [(.int 1)]) := fun t k => K t (st78.trans k)
        replace K : OGo p e below A0 T78 (mkF m 115 #[iv p1, iv p2, iv a, iv b, .val (.long ((a.toInt64) * (b.toInt64))), .second, rv b70, iv 1, iv 1, iv 1, iv 1] []) := fun t k => K t (XS.istore X78.here hx rfl (hb hby at_113) rfl (l' := #[iv p1, iv p2, iv a, iv b, .val (.long ((a.toInt64) * (b.toInt64))), .second, rv b70, iv 1, iv 1, iv 1, iv 1]) rfl k)
        replace K : OGo p e below A0 T78 (mkF m 117 #[iv p1, iv p2, iv a, iv b, .val (.long ((a.toInt64) * (b.toInt64))), .second, rv b70, iv 1, iv 1, iv 1, iv 1] [(.int 1)]) := fun t k => K t (XS.iload X78.here hx rfl (hb hby at_115) rfl k)
        replace K : OGo p e below A0 T78 (mkF m 120 #[iv p1, iv p2, iv a, iv b, .val (.long ((a.toInt64) * (b.toInt64))), .second, rv b70, iv 1, iv 1, iv 1, iv 1] []) := fun t k => K t (XS.ifNo X78.here hx rfl (hb hby at_117) rfl ((if0 _ _).trans (feq ((by decide : ¬ ((1 : Int32) = (0 : Int32))) : ¬ ((1 : Int32) = (0 : Int32)))).1) k)
        replace K : OGo p e below A0 T78 (mkF m 122 #[iv p1, iv p2, iv a, iv b, .val (.long ((a.toInt64) * (b.toInt64))), .second, rv b70, iv 1, iv 1, iv 1, iv 1] [(.int 1)]) := fun t k => K t (XS.iload X78.here hx rfl (hb hby at_120) rfl k)
        replace K : OGo p e below A0 T78 (mkF m 125 #[iv p1, iv p2, iv a, iv b, .val (.long ((a.toInt64) * (b.toInt64))), .second, rv b70, iv 1, iv 1, iv 1, iv 1] [(.long 2), (.int 1)]) := fun t k => K t (X78.ldc2Long hx hown (mvT hZ (ow hw 51 rfl)) (g := (mkF m 122 #[iv p1, iv p2, iv a, iv b, .val (.long ((a.toInt64) * (b.toInt64))), .second, rv b70, iv 1, iv 1, iv 1, iv 1] [(.int 1)])) rfl (hb hby at_122) t k)
        replace K : OGo p e below A0 T78 (mkF m 127 #[iv p1, iv p2, iv a, iv b, .val (.long ((a.toInt64) * (b.toInt64))), .second, rv b70, iv 1, iv 1, iv 1, iv 1] [(.long ((a.toInt64) * (b.toInt64))), (.long 2), (.int 1)]) := fun t k => K t (XS.lload X78.here hx rfl (hb hby at_125) rfl k)
        replace K : OGo p e below A0 T78 (mkF m 128 #[iv p1, iv p2, iv a, iv b, .val (.long ((a.toInt64) * (b.toInt64))), .second, rv b70, iv 1, iv 1, iv 1, iv 1] [(.int (lcmpW (2 : Int64) ((a.toInt64) * (b.toInt64)))), (.int 1)]) := fun t k => K t (XS.lcmp X78.here hx rfl (hb hby at_127) rfl k)
        replace K : OGo p e below A0 T78 (mkF m 131 #[iv p1, iv p2, iv a, iv b, .val (.long ((a.toInt64) * (b.toInt64))), .second, rv b70, iv 1, iv 1, iv 1, iv 1] [(.int 1)]) := fun t k => K t (XS.ifNo X78.here hx rfl (hb hby at_128) rfl ((if0 _ _).trans (tlt ((lw_lt (2 : Int64) ((a.toInt64) * (b.toInt64))).mpr ((own_tot hna hnb (by decide) (by decide) (by decide)) : (2 : Int64) < ((a.toInt64) * (b.toInt64))))).2.1) k)
        replace K : OGo p e below A0 T78 (mkF m 132 #[iv p1, iv p2, iv a, iv b, .val (.long ((a.toInt64) * (b.toInt64))), .second, rv b70, iv 1, iv 1, iv 1, iv 1] [(.int 1), (.int 1)]) := fun t k => K t (XS.iconst X78.here hx rfl (hb hby at_131) k)
        replace K : OGo p e below A0 T78 (mkF m 136 #[iv p1, iv p2, iv a, iv b, .val (.long ((a.toInt64) * (b.toInt64))), .second, rv b70, iv 1, iv 1, iv 1, iv 1] [(.int 1), (.int 1)]) := fun t k => K t (XS.goto X78.here hx rfl (pc0 := 132) (pc' := 136) rfl (hb hby at_132) (by decide) (by decide) k)
        replace K : OGo p e below A0 T78 (mkF m 139 #[iv p1, iv p2, iv a, iv b, .val (.long ((a.toInt64) * (b.toInt64))), .second, rv b70, iv 1, iv 1, iv 1, iv 1] []) := fun t k => K t (XS.icmpNo X78.here hx rfl (hb hby at_136) rfl (teq ((by decide : (1 : Int32) = (1 : Int32)) : (1 : Int32) = (1 : Int32))).2 k)
        replace K : OGo p e below A0 T78 (mkF m 140 #[iv p1, iv p2, iv a, iv b, .val (.long ((a.toInt64) * (b.toInt64))), .second, rv b70, iv 1, iv 1, iv 1, iv 1] [(.int 1)]) := fun t k => K t (XS.iconst X78.here hx rfl (hb hby at_139) k)
        replace K : OGo p e below A0 T78 (mkF m 144 #[iv p1, iv p2, iv a, iv b, .val (.long ((a.toInt64) * (b.toInt64))), .second, rv b70, iv 1, iv 1, iv 1, iv 1] [(.int 1)]) := fun t k => K t (XS.goto X78.here hx rfl (pc0 := 140) (pc' := 144) rfl (hb hby at_140) (by decide) (by decide) k)
        replace K : OGo p e below A0 T78 (mkF m 146 #[iv p1, iv p2, iv a, iv b, .val (.long ((a.toInt64) * (b.toInt64))), .second, rv b70, iv 1, iv 1, iv 1, iv 1] []) := fun t k => K t (XS.istore X78.here hx rfl (hb hby at_144) rfl (l' := #[iv p1, iv p2, iv a, iv b, .val (.long ((a.toInt64) * (b.toInt64))), .second, rv b70, iv 1, iv 1, iv 1, iv 1]) rfl k)
        replace K : OGo p e below A0 T78 (mkF m 147 #[iv p1, iv p2, iv a, iv b, .val (.long ((a.toInt64) * (b.toInt64))), .second, rv b70, iv 1, iv 1, iv 1, iv 1] [(.int 2)]) := fun t k => K t (XS.iconst X78.here hx rfl (hb hby at_146) k)
        replace K : OGo p e below A0 T78 (mkF m 149 #[iv p1, iv p2, iv a, iv b, .val (.long ((a.toInt64) * (b.toInt64))), .second, rv b70, iv 1, iv 1, iv 2, iv 1] []) := fun t k => K t (XS.istore X78.here hx rfl (hb hby at_147) rfl (l' := #[iv p1, iv p2, iv a, iv b, .val (.long ((a.toInt64) * (b.toInt64))), .second, rv b70, iv 1, iv 1, iv 2, iv 1]) rfl k)
        replace K : OGo p e below A0 T78 (mkF m 151 #[iv p1, iv p2, iv a, iv b, .val (.long ((a.toInt64) * (b.toInt64))), .second, rv b70, iv 1, iv 1, iv 2, iv 1] [(.int 1)]) := fun t k => K t (XS.iload X78.here hx rfl (hb hby at_149) rfl k)
        replace K : OGo p e below A0 T78 (mkF m 154 #[iv p1, iv p2, iv a, iv b, .val (.long ((a.toInt64) * (b.toInt64))), .second, rv b70, iv 1, iv 1, iv 2, iv 1] []) := fun t k => K t (XS.ifNo X78.here hx rfl (hb hby at_151) rfl ((if0 _ _).trans (feq ((by decide : ¬ ((1 : Int32) = (0 : Int32))) : ¬ ((1 : Int32) = (0 : Int32)))).1) k)
        replace K : OGo p e below A0 T78 (mkF m 156 #[iv p1, iv p2, iv a, iv b, .val (.long ((a.toInt64) * (b.toInt64))), .second, rv b70, iv 1, iv 1, iv 2, iv 1] [(.int 1)]) := fun t k => K t (XS.iload X78.here hx rfl (hb hby at_154) rfl k)
        replace K : OGo p e below A0 T78 (mkF m 159 #[iv p1, iv p2, iv a, iv b, .val (.long ((a.toInt64) * (b.toInt64))), .second, rv b70, iv 1, iv 1, iv 2, iv 1] []) := fun t k => K t (XS.ifNo X78.here hx rfl (hb hby at_156) rfl ((if0 _ _).trans (feq ((by decide : ¬ ((1 : Int32) = (0 : Int32))) : ¬ ((1 : Int32) = (0 : Int32)))).1) k)
        replace K : OGo p e below A0 T78 (mkF m 161 #[iv p1, iv p2, iv a, iv b, .val (.long ((a.toInt64) * (b.toInt64))), .second, rv b70, iv 1, iv 1, iv 2, iv 1] [(.ref b70)]) := fun t k => K t (XS.aload X78.here hx rfl (hb hby at_159) rfl rfl k)
        replace K : OGo p e below A0 T78 (mkF m 162 #[iv p1, iv p2, iv a, iv b, .val (.long ((a.toInt64) * (b.toInt64))), .second, rv b70, iv 1, iv 1, iv 2, iv 1] [(.int a), (.ref b70)]) := fun t k => K t (XS.iloadN X78.here hx rfl (hb hby at_161) rfl k)
        replace K : OGo p e below A0 T78 (mkF m 163 #[iv p1, iv p2, iv a, iv b, .val (.long ((a.toInt64) * (b.toInt64))), .second, rv b70, iv 1, iv 1, iv 2, iv 1] [(.int b), (.int a), (.ref b70)]) := fun t k => K t (XS.iloadN X78.here hx rfl (hb hby at_162) rfl k)
        replace K : OGo p e below A0 T78 (mkF m 164 #[iv p1, iv p2, iv a, iv b, .val (.long ((a.toInt64) * (b.toInt64))), .second, rv b70, iv 1, iv 1, iv 2, iv 1] [(.int 2), (.int b), (.int a), (.ref b70)]) := fun t k => K t (XS.iconst X78.here hx rfl (hb hby at_163) k)
        obtain ⟨_, _, ⟨T79, L79, k79, n79⟩, -, X79, ⟨Lc79, hQ79, l79, y79, z79⟩, st79⟩ := Jvm.LawKit.callS X78 hx (y := mN6) hown (mvT hZ (ow hw 38 rfl)) (mvT hZ (ow hw 39 rfl)) (mvT hZ (ow hw 2 rfl)) (mvT hZ (ow hw 40 rfl)) (by decide) (backOf (W := 0) (rm_bok_s23_2 l Z a0 hw [] b70 a b ta_71 ca_71 kt_71 kc_71 hp78 n0 Z78 P78_0 P78_1 P78_2 P78_3 P78_4 P78_5 P78_6 P78_7 P78_8 g_b70 g_ta_71 g_ca_71 ne_b70_ta_71 ne_b70_ca_71 P71_2 hna hnb) hZ (ow hw 40 rfl) (ow hw 2 rfl) (by decide) (by decide)) (g := (mkF m 164 #[iv p1, iv p2, iv a, iv b, .val (.long ((a.toInt64) * (b.toInt64))), .second, rv b70, iv 1, iv 1, iv 2, iv 1] [(.int 2), (.int b), (.int a), (.ref b70)])) rfl (by rw [hml]; rfl) (argsL := [(.ref b70), (.int a), (.int b), (.int (2 : Int32))]) (rest := []) (lenOf pd__Lcom_example_flote_flote_program_Choices_III_Z rfl) rfl (by show 2 * 0 + _ ≤ _; exact Nat.le_of_eq rfl) (hb hby at_164) (fun _ _ => ⟨rfl, e78, (by decide : 5 + 0 ≤ _), (by decide : 40 + 0 ≤ _)⟩)
        dsimp only [Pt.U, Pt.locs, Pt.cells, Pt.slots] at X79 l79 y79 z79 st79 hQ79
        subst l79 y79 z79
        obtain ⟨hp79, e79⟩ : ∃ z, T79.heap = z := ⟨_, rfl⟩
        rw [e79] at hQ79
        obtain ⟨rfl, Nq79, K79, P79_0, P79_1, P79_2, P79_3, P79_4, P79_5, P79_6, P79_7, P79_8⟩ := hQ79
        have Z79 : n0 ≤ hp79.size := Nat.le_trans Z78 K79.1
        have N79 := Fr.app N78 Nq79
        replace K : OGo p e below A0 T79 (mkF m 167 #[iv p1, iv p2, iv a, iv b, .val (.long ((a.toInt64) * (b.toInt64))), .second, rv b70, iv 1, iv 1, iv 2, iv 1] [(.int 1)]) := fun t k => K t (st79 t k)
        replace K : OGo p e below A0 T79 (mkF m 170 #[iv p1, iv p2, iv a, iv b, .val (.long ((a.toInt64) * (b.toInt64))), .second, rv b70, iv 1, iv 1, iv 2, iv 1] []) := fun t k => K t (XS.ifNo X79.here hx rfl (hb hby at_167) rfl ((if0 _ _).trans (feq ((by decide : ¬ ((1 : Int32) = (0 : Int32))) : ¬ ((1 : Int32) = (0 : Int32)))).1) k)
        replace K : OGo p e below A0 T79 (mkF m 171 #[iv p1, iv p2, iv a, iv b, .val (.long ((a.toInt64) * (b.toInt64))), .second, rv b70, iv 1, iv 1, iv 2, iv 1] [(.int 1)]) := fun t k => K t (XS.iconst X79.here hx rfl (hb hby at_170) k)
        replace K : OGo p e below A0 T79 (mkF m 175 #[iv p1, iv p2, iv a, iv b, .val (.long ((a.toInt64) * (b.toInt64))), .second, rv b70, iv 1, iv 1, iv 2, iv 1] [(.int 1)]) := fun t k => K t (XS.goto X79.here hx rfl (pc0 := 171) (pc' := 175) rfl (hb hby at_171) (by decide) (by decide) k)
        replace K : OGo p e below A0 T79 (mkF m 177 #[iv p1, iv p2, iv a, iv b, .val (.long ((a.toInt64) * (b.toInt64))), .second, rv b70, iv 1, iv 1, iv 2, iv 1] []) := fun t k => K t (XS.istore X79.here hx rfl (hb hby at_175) rfl (l' := #[iv p1, iv p2, iv a, iv b, .val (.long ((a.toInt64) * (b.toInt64))), .second, rv b70, iv 1, iv 1, iv 2, iv 1]) rfl k)
        replace K : OGo p e below A0 T79 (mkF m 178 #[iv p1, iv p2, iv a, iv b, .val (.long ((a.toInt64) * (b.toInt64))), .second, rv b70, iv 1, iv 1, iv 2, iv 1] [(.int 3)]) := fun t k => K t (XS.iconst X79.here hx rfl (hb hby at_177) k)
        replace K : OGo p e below A0 T79 (mkF m 180 #[iv p1, iv p2, iv a, iv b, .val (.long ((a.toInt64) * (b.toInt64))), .second, rv b70, iv 1, iv 1, iv 3, iv 1] []) := fun t k => K t (XS.istore X79.here hx rfl (hb hby at_178) rfl (l' := #[iv p1, iv p2, iv a, iv b, .val (.long ((a.toInt64) * (b.toInt64))), .second, rv b70, iv 1, iv 1, iv 3, iv 1]) rfl k)
        replace K : OGo p e below A0 T79 (mkF m 181 #[iv p1, iv p2, iv a, iv b, .val (.long ((a.toInt64) * (b.toInt64))), .second, rv b70, iv 1, iv 1, iv 3, iv 1] [(.int a)]) := fun t k => K t (XS.iloadN X79.here hx rfl (hb hby at_180) rfl k)
        replace K : OGo p e below A0 T79 (mkF m 182 #[iv p1, iv p2, iv a, iv b, .val (.long ((a.toInt64) * (b.toInt64))), .second, rv b70, iv 1, iv 1, iv 3, iv 1] [(.int 1), (.int a)]) := fun t k => K t (XS.iconst X79.here hx rfl (hb hby at_181) k)
        replace K : OGo p e below A0 T79 (mkF m 185 #[iv p1, iv p2, iv a, iv b, .val (.long ((a.toInt64) * (b.toInt64))), .second, rv b70, iv 1, iv 1, iv 3, iv 1] []) := fun t k => K t (XS.icmpNo X79.here hx rfl (hb hby at_182) rfl (tlt ((own_gt (by omega)) : (1 : Int32) < a)).2.2.2 k)
        replace K : OGo p e below A0 T79 (mkF m 186 #[iv p1, iv p2, iv a, iv b, .val (.long ((a.toInt64) * (b.toInt64))), .second, rv b70, iv 1, iv 1, iv 3, iv 1] [(.int 1)]) := fun t k => K t (XS.iconst X79.here hx rfl (hb hby at_185) k)
        replace K : OGo p e below A0 T79 (mkF m 190 #[iv p1, iv p2, iv a, iv b, .val (.long ((a.toInt64) * (b.toInt64))), .second, rv b70, iv 1, iv 1, iv 3, iv 1] [(.int 1)]) := fun t k => K t (XS.goto X79.here hx rfl (pc0 := 186) (pc' := 190) rfl (hb hby at_186) (by decide) (by decide) k)
        replace K : OGo p e below A0 T79 (mkF m 191 #[iv p1, iv p2, iv a, iv b, .val (.long ((a.toInt64) * (b.toInt64))), .second, rv b70, iv 1, iv 1, iv 3, iv 1] [(.int b), (.int 1)]) := fun t k => K t (XS.iloadN X79.here hx rfl (hb hby at_190) rfl k)
        replace K : OGo p e below A0 T79 (mkF m 192 #[iv p1, iv p2, iv a, iv b, .val (.long ((a.toInt64) * (b.toInt64))), .second, rv b70, iv 1, iv 1, iv 3, iv 1] [(.int 1), (.int b), (.int 1)]) := fun t k => K t (XS.iconst X79.here hx rfl (hb hby at_191) k)
        replace K : OGo p e below A0 T79 (mkF m 195 #[iv p1, iv p2, iv a, iv b, .val (.long ((a.toInt64) * (b.toInt64))), .second, rv b70, iv 1, iv 1, iv 3, iv 1] [(.int 1)]) := fun t k => K t (XS.icmpNo X79.here hx rfl (hb hby at_192) rfl (tlt ((own_gt (by omega)) : (1 : Int32) < b)).2.2.2 k)
        replace K : OGo p e below A0 T79 (mkF m 196 #[iv p1, iv p2, iv a, iv b, .val (.long ((a.toInt64) * (b.toInt64))), .second, rv b70, iv 1, iv 1, iv 3, iv 1] [(.int 1), (.int 1)]) := fun t k => K t (XS.iconst X79.here hx rfl (hb hby at_195) k)
        replace K : OGo p e below A0 T79 (mkF m 200 #[iv p1, iv p2, iv a, iv b, .val (.long ((a.toInt64) * (b.toInt64))), .second, rv b70, iv 1, iv 1, iv 3, iv 1] [(.int 1), (.int 1)]) := fun t k => K t (XS.goto X79.here hx rfl (pc0 := 196) (pc' := 200) rfl (hb hby at_196) (by decide) (by decide) k)
        replace K : OGo p e below A0 T79 (mkF m 201 #[iv p1, iv p2, iv a, iv b, .val (.long ((a.toInt64) * (b.toInt64))), .second, rv b70, iv 1, iv 1, iv 3, iv 1] [(.int 2)]) := fun t k => K t (XS.iadd X79.here hx rfl (hb hby at_200) rfl k)
        replace K : OGo p e below A0 T79 (mkF m 203 #[iv p1, iv p2, iv a, iv b, .val (.long ((a.toInt64) * (b.toInt64))), .second, rv b70, iv 1, iv 1, iv 3, iv 2] []) := fun t k => K t (XS.istore X79.here hx rfl (hb hby at_201) rfl (l' := #[iv p1, iv p2, iv a, iv b, .val (.long ((a.toInt64) * (b.toInt64))), .second, rv b70, iv 1, iv 1, iv 3, iv 2]) rfl k)
        replace K : OGo p e below A0 T79 (mkF m 205 #[iv p1, iv p2, iv a, iv b, .val (.long ((a.toInt64) * (b.toInt64))), .second, rv b70, iv 1, iv 1, iv 3, iv 2] [(.int 1)]) := fun t k => K t (XS.iload X79.here hx rfl (hb hby at_203) rfl k)
        replace K : OGo p e below A0 T79 (mkF m 208 #[iv p1, iv p2, iv a, iv b, .val (.long ((a.toInt64) * (b.toInt64))), .second, rv b70, iv 1, iv 1, iv 3, iv 2] []) := fun t k => K t (XS.ifNo X79.here hx rfl (hb hby at_205) rfl ((if0 _ _).trans (feq ((by decide : ¬ ((1 : Int32) = (0 : Int32))) : ¬ ((1 : Int32) = (0 : Int32)))).1) k)
        replace K : OGo p e below A0 T79 (mkF m 210 #[iv p1, iv p2, iv a, iv b, .val (.long ((a.toInt64) * (b.toInt64))), .second, rv b70, iv 1, iv 1, iv 3, iv 2] [(.ref b70)]) := fun t k => K t (XS.aload X79.here hx rfl (hb hby at_208) rfl rfl k)
        obtain ⟨cq80, kq80, qv80a, qv80b, qv80c⟩ := isOf hZ e79 P79_0
        obtain ⟨_, _, ⟨T80, L80, k80, n80⟩, -, X80, ⟨Lc80, hQ80, l80, y80, z80⟩, st80⟩ := X79.virtualBack hx (y := mN5) (z := mN5) hown (mvT hZ (ow hw 52 rfl)) (mvT hZ (ow hw 53 rfl)) (notFace_of_selects (args := #[]) (mvT hZ (ow hw 55 rfl))) (mvT hZ (ow hw 55 rfl)) (mvT hZ (ow hw 54 rfl)) (by decide) (backOf (W := 0) (rm_fewest l Z a0 hw [] b70 (3 : Int32) (2 : Int32) hp79 n0 Z79 P79_5 P79_3) hZ (ow hw 56 rfl) (ow hw 7 rfl) (by decide) (by decide)) qv80a qv80c (g := (mkF m 210 #[iv p1, iv p2, iv a, iv b, .val (.long ((a.toInt64) * (b.toInt64))), .second, rv b70, iv 1, iv 1, iv 3, iv 2] [(.ref b70)])) rfl (by rw [hml]; rfl) (Steps.refl _) (argsL := []) (rest := []) (lenOf pd___I rfl) rfl (by show 2 * 0 + _ ≤ _; exact Nat.le_of_eq rfl) (hb hby at_210) (fun _ _ => ⟨rfl, e79, (by decide : 5 + 0 ≤ _), (by decide : 40 + 0 ≤ _)⟩)
        dsimp only [Pt.U, Pt.locs, Pt.cells, Pt.slots] at X80 l80 y80 z80 st80 hQ80
        subst l80 y80 z80
        obtain ⟨rfl, Nq80, e80⟩ := hQ80
        have N80 := Fr.app N79 Nq80
        replace K : OGo p e below A0 T80 (mkF m 213 #[iv p1, iv p2, iv a, iv b, .val (.long ((a.toInt64) * (b.toInt64))), .second, rv b70, iv 1, iv 1, iv 3, iv 2] [(.int (own_max (3 : Int32) ((2 : Int32) + (1 : Int32))))]) := fun t k => K t (st80.trans k)
        replace K : OGo p e below A0 T80 (mkF m 215 #[iv p1, iv p2, iv a, iv b, .val (.long ((a.toInt64) * (b.toInt64))), .second, rv b70, iv 1, iv 1, iv 3, iv 2] [(.int 3), (.int (own_max (3 : Int32) ((2 : Int32) + (1 : Int32))))]) := fun t k => K t (XS.iload X80.here hx rfl (hb hby at_213) rfl k)
        replace K : OGo p e below A0 T80 (mkF m 217 #[iv p1, iv p2, iv a, iv b, .val (.long ((a.toInt64) * (b.toInt64))), .second, rv b70, iv 1, iv 1, iv 3, iv 2] [(.int 2), (.int 3), (.int (own_max (3 : Int32) ((2 : Int32) + (1 : Int32))))]) := fun t k => K t (XS.iload X80.here hx rfl (hb hby at_215) rfl k)
        replace K : OGo p e below A0 T80 (mkF m 218 #[iv p1, iv p2, iv a, iv b, .val (.long ((a.toInt64) * (b.toInt64))), .second, rv b70, iv 1, iv 1, iv 3, iv 2] [(.int 1), (.int 2), (.int 3), (.int (own_max (3 : Int32) ((2 : Int32) + (1 : Int32))))]) := fun t k => K t (XS.iconst X80.here hx rfl (hb hby at_217) k)
        replace K : OGo p e below A0 T80 (mkF m 219 #[iv p1, iv p2, iv a, iv b, .val (.long ((a.toInt64) * (b.toInt64))), .second, rv b70, iv 1, iv 1, iv 3, iv 2] [(.int 3), (.int 3), (.int (own_max (3 : Int32) ((2 : Int32) + (1 : Int32))))]) := fun t k => K t (XS.iadd X80.here hx rfl (hb hby at_218) rfl k)
        obtain ⟨_, _, ⟨T81, L81, k81, n81⟩, -, X81, ⟨Lc81, hQ81, l81, y81, z81⟩, st81⟩ := Jvm.LawKit.callS X80 hx (y := mN1) hown (mvT hZ (ow hw 61 rfl)) (mvT hZ (ow hw 58 rfl)) (mvT hZ (ow hw 59 rfl)) (mvT hZ (ow hw 60 rfl)) (by decide) (backOf (W := 1) (rm_max l Z a0 hw [] (3 : Int32) (3 : Int32) hp79 n0 Z79 ) hZ (ow hw 60 rfl) (ow hw 59 rfl) (by decide) (by decide)) (g := (mkF m 219 #[iv p1, iv p2, iv a, iv b, .val (.long ((a.toInt64) * (b.toInt64))), .second, rv b70, iv 1, iv 1, iv 3, iv 2] [(.int 3), (.int 3), (.int (own_max (3 : Int32) ((2 : Int32) + (1 : Int32))))])) rfl (by rw [hml]; rfl) (argsL := [(.int (3 : Int32)), (.int (3 : Int32))]) (rest := [(.int (own_max (3 : Int32) ((2 : Int32) + (1 : Int32))))]) (lenOf pd__II_I rfl) rfl (by show 2 * 0 + _ ≤ _; exact Nat.le_of_eq rfl) (hb hby at_219) (fun _ _ => ⟨rfl, e80, (by decide : 5 + 0 ≤ _), (by decide : 40 + 0 ≤ _)⟩)
        dsimp only [Pt.U, Pt.locs, Pt.cells, Pt.slots] at X81 l81 y81 z81 st81 hQ81
        subst l81 y81 z81
        obtain ⟨rfl, Nq81, e81⟩ := hQ81
        have N81 := Fr.app N80 Nq81
        replace K : OGo p e below A0 T81 (mkF m 222 #[iv p1, iv p2, iv a, iv b, .val (.long ((a.toInt64) * (b.toInt64))), .second, rv b70, iv 1, iv 1, iv 3, iv 2] [(.int (own_max (3 : Int32) (3 : Int32))), (.int (own_max (3 : Int32) ((2 : Int32) + (1 : Int32))))]) := fun t k => K t (st81 t k)
        replace K : OGo p e below A0 T81 (mkF m 225 #[iv p1, iv p2, iv a, iv b, .val (.long ((a.toInt64) * (b.toInt64))), .second, rv b70, iv 1, iv 1, iv 3, iv 2] []) := fun t k => K t (XS.icmpNo X81.here hx rfl (hb hby at_222) rfl (teq ((by decide) : (own_max (3 : Int32) ((2 : Int32) + (1 : Int32))) = (own_max (3 : Int32) (3 : Int32)))).2 k)
        replace K : OGo p e below A0 T81 (mkF m 226 #[iv p1, iv p2, iv a, iv b, .val (.long ((a.toInt64) * (b.toInt64))), .second, rv b70, iv 1, iv 1, iv 3, iv 2] [(.int 1)]) := fun t k => K t (XS.iconst X81.here hx rfl (hb hby at_225) k)
        replace K : OGo p e below A0 T81 (mkF m 230 #[iv p1, iv p2, iv a, iv b, .val (.long ((a.toInt64) * (b.toInt64))), .second, rv b70, iv 1, iv 1, iv 3, iv 2] [(.int 1)]) := fun t k => K t (XS.goto X81.here hx rfl (pc0 := 226) (pc' := 230) rfl (hb hby at_226) (by decide) (by decide) k)
        replace K : OGo p e below A0 T81 (mkF m 232 #[iv p1, iv p2, iv a, iv b, .val (.long ((a.toInt64) * (b.toInt64))), .second, rv b70, iv 1, iv 1, iv 3, iv 2] []) := fun t k => K t (XS.istore X81.here hx rfl (hb hby at_230) rfl (l' := #[iv p1, iv p2, iv a, iv b, .val (.long ((a.toInt64) * (b.toInt64))), .second, rv b70, iv 1, iv 1, iv 3, iv 2]) rfl k)
        replace K : OGo p e below A0 T81 (mkF m 234 #[iv p1, iv p2, iv a, iv b, .val (.long ((a.toInt64) * (b.toInt64))), .second, rv b70, iv 1, iv 1, iv 3, iv 2] [(.int 1)]) := fun t k => K t (XS.iload X81.here hx rfl (hb hby at_232) rfl k)
        obtain ⟨fs, hr, hrun, hended, hW, hsame⟩ := X81.leave (v := some (.int (1 : Int32))) (fun h => by rw [Bd.returns] at h; cases h)
        subst hA0
        refine ⟨_, _, K _ (retN X81 hx (t := .boolean) Bd.returns (by simp) (hb hby at_234) hr), hrun, hended, _, _, rfl, ?_, ⟨_, rfl⟩, hW, hsame.mono (by decide) (by decide)⟩
        show Q_law Z p1 p2 h0 n0 _ T81.heap _
        rw [e81]
        exact ⟨rfl, N81⟩
set_option maxRecDepth 65536 in
set_option maxHeartbeats 40000000 in
theorem comes_1 {Post : Tables → Env → Array Value → State → Outcome → State → Prop} (hpost : ∀ tb e args s v u, (limb_1_1.after args s (.returned v) u = true ∧ limb_1_2.after args s (.returned v) u = true ∧ True) → FrameEnd s (.returned v) u (Jvm.fieldLocs frame_1_writes args s ++ Jvm.arrayLocs frame_1_arrays args s ++ Jvm.staticLocs frame_1_statics s) 24 192 → Post tb e args s (.returned v) u) :
    ArmFor flags0 classFile x code maxLocals ret World_1 tables_1 room_1 Calls_1 rest_1 Pre_1 Post := by
  intro l hfl _ _ p e ha hc hk s m args below hf hA hF happ hP
  obtain ⟨hcalls, hrest, hpre⟩ := hP
  obtain ⟨-, -, -, hnamed, -, -, -, hat⟩ := (Spec.applies_iff hf).mp happ
  obtain ⟨hg, hn⟩ := and_e (Cond.before_iff.mp (show (Jvm.Cond.and given_1 narrow_1).before args s = true from hpre))
  obtain ⟨gv1, gv2⟩ := and_e hg
  obtain ⟨gv3, gv4⟩ := and_e gv2
  obtain ⟨w0, w1, rfl⟩ : ∃ w0 w1 : Value, args = #[w0, w1] := by
    have hs : args.size = 2 := by simpa [Cond.value, given_1] using gv1
    obtain ⟨L⟩ := args
    match L, hs with
    | [w0, w1], _ => exact ⟨w0, w1, rfl⟩
  have hw := fun d (hd : d ∈ tables_1) => atoms_spec (ws := Jvm.Cond.code x code maxLocals ret :: tables_1) hat d (List.mem_cons_of_mem _ hd)
  have hfit : Fit s := fun {y c} hc i hi => by
    obtain ⟨ha, rfl⟩ := Array.getElem?_eq_some_iff.mp hc
    have q := List.all_eq_true.mp ((Array.all_eq_true_iff_forall_mem.mp hF) _ (Array.getElem_mem ha)) i (List.mem_range.mpr hi)
    simpa [Array.getElem?_eq_getElem hi] using q
  obtain ⟨i0, ei0⟩ := is_v gv3
  obtain rfl : w0 = (.int i0) := Option.some.inj ei0
  obtain ⟨i1, ei1⟩ := is_v gv4
  obtain rfl : w1 = (.int i1) := Option.some.inj ei1
  obtain ⟨n, o, h1, h2, h3, _, L, rfl, ⟨rfl, N⟩, hq⟩ := rm_law l s _ hw tables_1 i0 i1 s.heap s.heap.size (Nat.le_refl _)  p e ha hc hk s m _ below hf ((Spec.applies_iff_loose hf).mp happ).1 ⟨rfl, State.Warmed39.refl s, rfl⟩ trivial
  refine ⟨n, _, h1, h2, h3, hpost _ _ _ _ _ _ ⟨Cond.after_iff.mpr rfl, Cond.after_iff.mpr (eq_i res_at (Term.int_eval (1)) rfl), trivial⟩ ⟨hq.1, hq.2.1, (hq.2.2.sift fun y hy => Or.inr (N y hy)).mono (by decide) (by decide)⟩⟩
theorem main_1_1 : Claimed_1_1 := comes_1 fun _ _ _ _ _ _ h hF => ⟨h.1, hF⟩
theorem main_1_2 : Claimed_1_2 := comes_1 fun _ _ _ _ _ _ h hF => ⟨h.2.1, hF⟩
end Jvm.Pilot.@@N@@
namespace Jvm.Pilot.@@N@@
open Jvm Jvm.ClassFile Sem Op Lib Jvm.Free Jvm.Stand Jvm.Pilot.@@N@@.Jvm.D
/-! MADE BY PROGRAM (witnessworld.py) out of the Statement's table words and the real class files: 12 classes; the members and pool entries that the words name. The judged class is class 1, her method 1. -/
namespace start1
open Jvm.ClassFile
def u (s : String) : CpInfo := .utf8 (stringToUtf16 s)
/-- a pool by its gaps: so many unusable entries, then the entry; so many at the end -/
def gap : Nat → List CpInfo → List CpInfo
  | 0, r => r
  | n + 1, r => .unusable :: gap n r
def poolList (es : List (Nat × CpInfo)) (last : Nat) : List CpInfo := es.foldr (fun e r => gap e.1 (e.2 :: r)) (gap last [])
def pool (es : List (Nat × CpInfo)) (last : Nat) : Array CpInfo := ⟨poolList es last⟩
def fileOf (pool : Array CpInfo) (this : Nat) (attrs : Array Attribute := #[]) (ms : Array MethodInfo := #[]) (fl : Nat := 33) (sup : Nat := 0) (ifs : Array Nat := #[]) (fds : Array FieldInfo := #[]) : ClassFile where
  minorVersion := 0
  majorVersion := 65
  constantPool := pool
  accessFlags := fl
  thisClass := this
  superClass := sup
  interfaces := ifs
  fields := fds
  methods := ms
  attributes := attrs
def plain (name : String) (sup : Option ClassId) : Class where
  name := name
  kind := .ordinary
  loader := none
  accessFlags := 33
  super := sup
  interfaces := #[]
  cf := none
  fields := #[]
  methods := #[]
  instanceTypes := #[]
  staticTypes := #[]
  resolved := #[]
  callSites := []
  init := .initialized
  statics := none
  mirror := none

def pool0 : Array CpInfo := pool [(5, u "<init>"), (0, u "()V"), (1, .class_ 10), (1, u "java/lang/Object")] 113

def k0c0 : Code := { maxStack := 0, maxLocals := 1, code := object_method_1_code, exceptionTable := #[], attributes := #[] }
def k0m0 : Method := { name := "<init>", desc := "()V", sig := { parameters := [], returnType := none }, accessFlags := 1, code := some k0c0 }
/-- java/lang/Object -/
def k0 : Class := { plain "java/lang/Object" none with
  accessFlags := 33
  interfaces := #[]
  cf := some (fileOf pool0 8 #[] #[{ accessFlags := 1, nameIndex := 5, descriptorIndex := 6, attributes := #[] }] 33 0 #[] #[])
  fields := #[]
  methods := #[k0m0]
  instanceTypes := #[]
  staticTypes := #[]
  resolved := Array.replicate 124 none
  statics := none }

def pool1 : Array CpInfo := pool [(2, .class_ 4), (0, .nameAndType 5 6), (0, u "java/lang/Object"), (0, u "<init>"), (0, u "()V"), (0, .methodref 8 9), (0, .class_ 10), (0, .nameAndType 11 12), (0, u "com/example/flote/flote/program/ChoicesNextPinLaw"), (0, u "count"), (0, u "(I)I"), (0, .class_ 14), (0, u "com/example/flote/flote/program/Choices"), (0, .methodref 13 3), (0, .methodref 13 17), (0, .nameAndType 18 6), (0, u "begin"), (0, .methodref 8 20), (0, .nameAndType 21 22), (0, u "branchOk"), (0, u "(Lcom/example/flote/flote/program/Choices;III)Z"), (0, .methodref 13 24), (0, .nameAndType 25 26), (0, u "next"), (0, u "()Z"), (0, .long 2), (1, .methodref 13 30), (0, .nameAndType 31 32), (0, u "fewestBranches"), (0, u "()I"), (0, .methodref 34 35), (0, .class_ 36), (0, .nameAndType 37 38), (0, u "java/lang/Math"), (0, u "max"), (0, u "(II)I"), (0, .integer 1073741823), (0, .methodref 13 41), (0, .nameAndType 42 12), (0, u "choose"), (2, u "law"), (0, u "(II)Z")] 3

def k1m0 : Method := { name := "<init>", desc := "()V", sig := { parameters := [], returnType := none }, accessFlags := 1, code := none }
def k1c1 : Code := { maxStack := 5, maxLocals := 11, code := code, exceptionTable := #[], attributes := #[] }
def k1m1 : Method := { name := "law", desc := "(II)Z", sig := { parameters := [.int, .int], returnType := some .boolean }, accessFlags := 9, code := some k1c1 }
def k1c2 : Code := { maxStack := 3, maxLocals := 1, code := method_3_code, exceptionTable := #[], attributes := #[] }
def k1m2 : Method := { name := "count", desc := "(I)I", sig := { parameters := [.int], returnType := some .int }, accessFlags := 10, code := some k1c2 }
def k1c3 : Code := { maxStack := 3, maxLocals := 6, code := method_4_code, exceptionTable := #[], attributes := #[] }
def k1m3 : Method := { name := "branchOk", desc := "(Lcom/example/flote/flote/program/Choices;III)Z", sig := { parameters := [(.object "com/example/flote/flote/program/Choices"), .int, .int, .int], returnType := some .boolean }, accessFlags := 10, code := some k1c3 }
/-- com/example/flote/flote/program/ChoicesNextPinLaw -/
def k1 : Class := { plain "com/example/flote/flote/program/ChoicesNextPinLaw" (some 0) with
  accessFlags := 49
  interfaces := #[]
  cf := some (fileOf pool1 8 #[] #[{ accessFlags := 1, nameIndex := 5, descriptorIndex := 6, attributes := #[] }, { accessFlags := 9, nameIndex := 45, descriptorIndex := 46, attributes := #[] }, { accessFlags := 10, nameIndex := 11, descriptorIndex := 12, attributes := #[] }, { accessFlags := 10, nameIndex := 21, descriptorIndex := 22, attributes := #[] }] 49 2 #[] #[])
  fields := #[]
  methods := #[k1m0, k1m1, k1m2, k1m3]
  instanceTypes := #[]
  staticTypes := #[]
  resolved := Array.replicate 50 none
  statics := none }

def pool2 : Array CpInfo := pool [(1, .methodref 2 3), (0, .class_ 4), (0, .nameAndType 5 6), (0, u "java/lang/Object"), (0, u "<init>"), (0, u "()V"), (0, .fieldref 8 9), (0, .class_ 10), (0, .nameAndType 11 12), (0, u "com/example/flote/flote/program/Choices"), (0, u "taken"), (0, u "[I"), (0, .fieldref 8 14), (0, .nameAndType 15 12), (0, u "counts"), (0, .fieldref 8 17), (0, .nameAndType 18 12), (0, u "values"), (0, .class_ 20), (0, u "com/example/flote/flote/program/Type"), (0, .fieldref 8 22), (0, .nameAndType 23 24), (0, u "types"), (0, u "[Lcom/example/flote/flote/program/Type;"), (0, .fieldref 8 26), (0, .nameAndType 27 28), (0, u "met"), (0, u "I"), (0, .fieldref 8 30), (0, .nameAndType 31 28), (0, u "repeated"), (0, .fieldref 8 33), (0, .nameAndType 34 28), (0, u "branches"), (0, .fieldref 8 36), (0, .nameAndType 37 28), (0, u "computed"), (35, .methodref 74 75), (0, .class_ 76), (0, .nameAndType 77 78), (0, u "java/lang/Math"), (0, u "max"), (0, u "(II)I"), (2, u "begin"), (0, u "choose"), (0, u "(I)I"), (2, u "()Z"), (2, u "next"), (6, u "fewestBranches"), (0, u "()I")] 2

def k2c0 : Code := { maxStack := 2, maxLocals := 1, code := prog_72_method_1_code, exceptionTable := #[], attributes := #[] }
def k2m0 : Method := { name := "<init>", desc := "()V", sig := { parameters := [], returnType := none }, accessFlags := 0, code := some k2c0 }
def k2c1 : Code := { maxStack := 2, maxLocals := 1, code := prog_72_method_2_code, exceptionTable := #[], attributes := #[] }
def k2m1 : Method := { name := "begin", desc := "()V", sig := { parameters := [], returnType := none }, accessFlags := 0, code := some k2c1 }
def k2c2 : Code := { maxStack := 5, maxLocals := 2, code := prog_72_method_3_code, exceptionTable := #[], attributes := #[] }
def k2m2 : Method := { name := "choose", desc := "(I)I", sig := { parameters := [.int], returnType := some .int }, accessFlags := 0, code := some k2c2 }
def k2c3 : Code := { maxStack := 4, maxLocals := 3, code := prog_72_method_6_code, exceptionTable := #[], attributes := #[] }
def k2m3 : Method := { name := "next", desc := "()Z", sig := { parameters := [], returnType := some .boolean }, accessFlags := 0, code := some k2c3 }
def k2c4 : Code := { maxStack := 3, maxLocals := 1, code := prog_72_method_10_code, exceptionTable := #[], attributes := #[] }
def k2m4 : Method := { name := "fewestBranches", desc := "()I", sig := { parameters := [], returnType := some .int }, accessFlags := 0, code := some k2c4 }
/-- com/example/flote/flote/program/Choices -/
def k2 : Class := { plain "com/example/flote/flote/program/Choices" (some 0) with
  accessFlags := 48
  interfaces := #[]
  cf := some (fileOf pool2 8 #[] #[{ accessFlags := 0, nameIndex := 5, descriptorIndex := 6, attributes := #[] }, { accessFlags := 0, nameIndex := 81, descriptorIndex := 6, attributes := #[] }, { accessFlags := 0, nameIndex := 82, descriptorIndex := 83, attributes := #[] }, { accessFlags := 0, nameIndex := 89, descriptorIndex := 86, attributes := #[] }, { accessFlags := 0, nameIndex := 96, descriptorIndex := 97, attributes := #[] }] 48 2 #[] #[{ accessFlags := 2, nameIndex := 11, descriptorIndex := 12, attributes := #[] }, { accessFlags := 2, nameIndex := 15, descriptorIndex := 12, attributes := #[] }, { accessFlags := 2, nameIndex := 27, descriptorIndex := 28, attributes := #[] }, { accessFlags := 2, nameIndex := 31, descriptorIndex := 28, attributes := #[] }, { accessFlags := 2, nameIndex := 34, descriptorIndex := 28, attributes := #[] }, { accessFlags := 2, nameIndex := 18, descriptorIndex := 12, attributes := #[] }, { accessFlags := 2, nameIndex := 23, descriptorIndex := 24, attributes := #[] }, { accessFlags := 2, nameIndex := 37, descriptorIndex := 28, attributes := #[] }])
  fields := #[{ name := "taken", type := (.array .int), accessFlags := 2, slot := 0, constantValue := 0 }, { name := "counts", type := (.array .int), accessFlags := 2, slot := 1, constantValue := 0 }, { name := "met", type := .int, accessFlags := 2, slot := 2, constantValue := 0 }, { name := "repeated", type := .int, accessFlags := 2, slot := 3, constantValue := 0 }, { name := "branches", type := .int, accessFlags := 2, slot := 4, constantValue := 0 }, { name := "values", type := (.array .int), accessFlags := 2, slot := 5, constantValue := 0 }, { name := "types", type := (.array (.object "com/example/flote/flote/program/Type")), accessFlags := 2, slot := 6, constantValue := 0 }, { name := "computed", type := .int, accessFlags := 2, slot := 7, constantValue := 0 }]
  methods := #[k2m0, k2m1, k2m2, k2m3, k2m4]
  instanceTypes := #[(.array .int), (.array .int), .int, .int, .int, (.array .int), (.array (.object "com/example/flote/flote/program/Type")), .int]
  staticTypes := #[]
  resolved := Array.replicate 100 none
  statics := none }

def pool3 : Array CpInfo := pool [(2, .class_ 4), (1, u "java/lang/Object"), (3, .class_ 10), (1, u "com/example/flote/flote/program/Type"), (0, u "kind"), (0, u "Lcom/example/flote/flote/program/Type$Kind;"), (2, u "bits"), (0, u "I"), (2, u "classNumber"), (2, u "name"), (0, u "Ljava/lang/String;"), (1, .class_ 27), (1, u "com/example/flote/flote/program/Type$Kind"), (19, u "BOOLEAN"), (70, u "NULL"), (8, u "Lcom/example/flote/flote/program/Type;"), (4, u "BYTE"), (4, u "SHORT"), (4, u "INT"), (3, u "ACTOR"), (4, u "ANY_CLASS")] 21

/-- com/example/flote/flote/program/Type -/
def k3 : Class := { plain "com/example/flote/flote/program/Type" (some 0) with
  accessFlags := 49
  interfaces := #[]
  cf := some (fileOf pool3 8 #[.nestMembers #[25]] #[] 49 2 #[] #[{ accessFlags := 26, nameIndex := 151, descriptorIndex := 16, attributes := #[] }, { accessFlags := 25, nameIndex := 47, descriptorIndex := 127, attributes := #[] }, { accessFlags := 25, nameIndex := 132, descriptorIndex := 127, attributes := #[] }, { accessFlags := 25, nameIndex := 137, descriptorIndex := 127, attributes := #[] }, { accessFlags := 25, nameIndex := 142, descriptorIndex := 127, attributes := #[] }, { accessFlags := 25, nameIndex := 146, descriptorIndex := 127, attributes := #[] }, { accessFlags := 25, nameIndex := 118, descriptorIndex := 127, attributes := #[] }, { accessFlags := 18, nameIndex := 11, descriptorIndex := 12, attributes := #[] }, { accessFlags := 18, nameIndex := 15, descriptorIndex := 16, attributes := #[] }, { accessFlags := 18, nameIndex := 19, descriptorIndex := 16, attributes := #[] }, { accessFlags := 18, nameIndex := 22, descriptorIndex := 23, attributes := #[] }])
  fields := #[{ name := "ANY_CLASS", type := .int, accessFlags := 26, slot := 0, constantValue := 0 }, { name := "BOOLEAN", type := (.object "com/example/flote/flote/program/Type"), accessFlags := 25, slot := 1, constantValue := 0 }, { name := "BYTE", type := (.object "com/example/flote/flote/program/Type"), accessFlags := 25, slot := 2, constantValue := 0 }, { name := "SHORT", type := (.object "com/example/flote/flote/program/Type"), accessFlags := 25, slot := 3, constantValue := 0 }, { name := "INT", type := (.object "com/example/flote/flote/program/Type"), accessFlags := 25, slot := 4, constantValue := 0 }, { name := "ACTOR", type := (.object "com/example/flote/flote/program/Type"), accessFlags := 25, slot := 5, constantValue := 0 }, { name := "NULL", type := (.object "com/example/flote/flote/program/Type"), accessFlags := 25, slot := 6, constantValue := 0 }, { name := "kind", type := (.object "com/example/flote/flote/program/Type$Kind"), accessFlags := 18, slot := 0, constantValue := 0 }, { name := "bits", type := .int, accessFlags := 18, slot := 1, constantValue := 0 }, { name := "classNumber", type := .int, accessFlags := 18, slot := 2, constantValue := 0 }, { name := "name", type := (.object "java/lang/String"), accessFlags := 18, slot := 3, constantValue := 0 }]
  methods := #[]
  instanceTypes := #[(.object "com/example/flote/flote/program/Type$Kind"), .int, .int, (.object "java/lang/String")]
  staticTypes := #[.int, (.object "com/example/flote/flote/program/Type"), (.object "com/example/flote/flote/program/Type"), (.object "com/example/flote/flote/program/Type"), (.object "com/example/flote/flote/program/Type"), (.object "com/example/flote/flote/program/Type"), (.object "com/example/flote/flote/program/Type")]
  resolved := Array.replicate 173 none
  statics := none }

def pool4 : Array CpInfo := pool [(1, .class_ 2), (0, u "java/lang/Math"), (1, .class_ 6), (1, u "java/lang/Object"), (0, u "<init>"), (0, u "()V"), (89, .class_ 100), (1, u "java/lang/Math$RandomNumberGeneratorHolder"), (71, u "negativeZeroFloatBits"), (0, u "J"), (2, u "negativeZeroDoubleBits"), (21, u "max"), (46, u "$assertionsDisabled"), (0, u "Z"), (88, u "(II)I"), (2, u "twoToTheDoubleScaleDown"), (0, u "D"), (4, u "twoToTheDoubleScaleUp"), (9, u "E"), (3, u "PI"), (2, u "TAU"), (2, u "DEGREES_TO_RADIANS"), (0, u "RADIANS_TO_DEGREES")] 94

def k4m0 : Method := { name := "<init>", desc := "()V", sig := { parameters := [], returnType := none }, accessFlags := 2, code := none }
def k4c1 : Code := { maxStack := 2, maxLocals := 2, code := jdk_29_method_65_code, exceptionTable := #[], attributes := #[] }
def k4m1 : Method := { name := "max", desc := "(II)I", sig := { parameters := [.int, .int], returnType := some .int }, accessFlags := 9, code := some k4c1 }
/-- java/lang/Math -/
def k4 : Class := { plain "java/lang/Math" (some 0) with
  accessFlags := 49
  interfaces := #[]
  cf := some (fileOf pool4 1 #[.nestMembers #[98]] #[{ accessFlags := 2, nameIndex := 7, descriptorIndex := 8, attributes := #[] }, { accessFlags := 9, nameIndex := 198, descriptorIndex := 335, attributes := #[] }] 49 4 #[] #[{ accessFlags := 25, nameIndex := 354, descriptorIndex := 339, attributes := #[] }, { accessFlags := 25, nameIndex := 358, descriptorIndex := 339, attributes := #[] }, { accessFlags := 25, nameIndex := 361, descriptorIndex := 339, attributes := #[] }, { accessFlags := 26, nameIndex := 364, descriptorIndex := 339, attributes := #[] }, { accessFlags := 26, nameIndex := 365, descriptorIndex := 339, attributes := #[] }, { accessFlags := 26, nameIndex := 172, descriptorIndex := 173, attributes := #[] }, { accessFlags := 26, nameIndex := 176, descriptorIndex := 173, attributes := #[] }, { accessFlags := 8, nameIndex := 344, descriptorIndex := 339, attributes := #[] }, { accessFlags := 8, nameIndex := 338, descriptorIndex := 339, attributes := #[] }, { accessFlags := 4120, nameIndex := 245, descriptorIndex := 246, attributes := #[] }])
  fields := #[{ name := "E", type := .double, accessFlags := 25, slot := 0, constantValue := 0 }, { name := "PI", type := .double, accessFlags := 25, slot := 1, constantValue := 0 }, { name := "TAU", type := .double, accessFlags := 25, slot := 2, constantValue := 0 }, { name := "DEGREES_TO_RADIANS", type := .double, accessFlags := 26, slot := 3, constantValue := 0 }, { name := "RADIANS_TO_DEGREES", type := .double, accessFlags := 26, slot := 4, constantValue := 0 }, { name := "negativeZeroFloatBits", type := .long, accessFlags := 26, slot := 5, constantValue := 0 }, { name := "negativeZeroDoubleBits", type := .long, accessFlags := 26, slot := 6, constantValue := 0 }, { name := "twoToTheDoubleScaleUp", type := .double, accessFlags := 8, slot := 7, constantValue := 0 }, { name := "twoToTheDoubleScaleDown", type := .double, accessFlags := 8, slot := 8, constantValue := 0 }, { name := "$assertionsDisabled", type := .boolean, accessFlags := 4120, slot := 9, constantValue := 0 }]
  methods := #[k4m0, k4m1]
  instanceTypes := #[]
  staticTypes := #[.double, .double, .double, .double, .double, .long, .long, .double, .double, .boolean]
  resolved := Array.replicate 460 none
  statics := none }

def pool5 : Array CpInfo := pool [(1, u "java/lang/Cloneable"), (0, .class_ 1), (0, u "java/lang/Object"), (0, .class_ 3)] 3

/-- java/lang/Cloneable -/
def k5 : Class := { plain "java/lang/Cloneable" (some 0) with
  accessFlags := 1537
  interfaces := #[]
  cf := some (fileOf pool5 2 #[] #[] 1537 4 #[] #[])
  fields := #[]
  methods := #[]
  instanceTypes := #[]
  staticTypes := #[]
  resolved := Array.replicate 8 none
  statics := none }

def pool6 : Array CpInfo := pool [(1, u "java/io/Serializable"), (0, .class_ 1), (0, u "java/lang/Object"), (0, .class_ 3)] 3

/-- java/io/Serializable -/
def k6 : Class := { plain "java/io/Serializable" (some 0) with
  accessFlags := 1537
  interfaces := #[]
  cf := some (fileOf pool6 2 #[] #[] 1537 4 #[] #[])
  fields := #[]
  methods := #[]
  instanceTypes := #[]
  staticTypes := #[]
  resolved := Array.replicate 8 none
  statics := none }

/-- the primitive byte -/
def k7 : Class := { plain "byte" none with kind := .primitive 'B', accessFlags := 0x411 }
/-- [B -/
def k8 : Class := { plain "[B" (some 0) with kind := .array 7 .byte, interfaces := #[5, 6], accessFlags := 1041 }

/-- the primitive int -/
def k9 : Class := { plain "int" none with kind := .primitive 'I', accessFlags := 0x411 }
/-- [I -/
def k10 : Class := { plain "[I" (some 0) with kind := .array 9 .int, interfaces := #[5, 6], accessFlags := 1041 }

/-- [Lcom/example/flote/flote/program/Type; -/
def k11 : Class := { plain "[Lcom/example/flote/flote/program/Type;" (some 0) with kind := .array 3 (.object "com/example/flote/flote/program/Type"), interfaces := #[5, 6], accessFlags := 1041 }

def heap : Heap := #[]
def classes : Array Class := #[k0, k1, k2, k3, k4, k5, k6, k7, k8, k9, k10, k11]
def interned : List (Array UInt16 × Addr) := []
def slotsUsed : Nat := 0
def theMethod : MethodId := ⟨1, 1⟩
def args0 : Array Value := #[.int 5, .int 7]
def aboutOver (below : List Frame) : State where
  vm := { classes := classes, interned := interned.toArray }
  heap := heap
  slotsUsed := slotsUsed
  threads := #[{ frames := .invoking theMethod args0 :: below }]
def below0 : List Frame := [.native { method := ⟨0, 0⟩, args := #[] }]
def about1 : State := aboutOver below0
def p0 : Program := .bare "" "" ""
def e0 : Env := launch0.env 0 0 0
theorem w_frames : about1.frames = Frame.invoking theMethod args0 :: below0 := rfl
set_option maxRecDepth 65536 in
theorem w_args : argsFit about1.vm theMethod args0 = true := by decide +kernel
set_option maxRecDepth 65536 in
theorem w_heap : heapFits about1 = true := by decide +kernel
set_option maxRecDepth 65536 in
theorem w_runnable : about1.curStatus? = some .runnable := by decide +kernel
set_option maxRecDepth 65536 in
theorem w_alone : about1.alone = true := by decide +kernel
set_option maxRecDepth 65536 in
theorem w_named : about1.methodNamed? x = some theMethod := by decide +kernel
set_option maxRecDepth 65536 in
theorem w_hears : about1.hears theMethod below0 = true := by decide +kernel
set_option maxRecDepth 65536 in
theorem w_ripe : about1.ripe theMethod args0 below0 = true := by decide +kernel
theorem w_running : about1.status = .running := rfl
set_option maxRecDepth 65536 in
theorem w_room : about1.hasRoom e0.platform room_1 = true :=
  launch0.hasRoom_least _ room_1 (by decide +kernel) (by decide +kernel) (by decide +kernel) (by decide +kernel) (by decide +kernel) (by decide +kernel)
theorem allAtoms_all (ts : List Jvm.Cond) (a : Array Jvm.Value) (st : Jvm.State) : (allAtoms ts).before a st = ts.all (fun c => c.before a st) := by
  induction ts with
  | nil => rfl
  | cons c t ih =>
    show (Jvm.Cond.and c (allAtoms t)).before a st = _
    rw [Jvm.Cond.before_and, ih, List.all_cons]
def words1 : List Jvm.Cond := Jvm.Cond.code x code maxLocals ret :: tables_1
/-- a 'code' word, met by the world's own term for the bytes: nothing is compared byte by byte -/
theorem code_word {y : MethodName} {bytes : ByteArray} {mx : Nat} {rt : Option FieldType} {a : Array Value} {s : State} {m : MethodId} {meth : Method} {c : Code} (h1 : s.methodNamed? y = some m) (h2 : s.vm.method? m = some meth) (h3 : meth.code = some c) (h4 : c.code = bytes)
    (h5 : (c.maxLocals == mx && c.exceptionTable.isEmpty && decide (c.maxStack ≤ mostOperands) && decide (meth.sig.returnType = rt) && !meth.locks && decide (parseMethodDescriptor y.desc = some meth.sig)) = true) : (Jvm.Cond.code y bytes mx rt).before a s = true := by
  simp only [Bool.and_eq_true, beq_iff_eq, Bool.not_eq_true', decide_eq_true_eq] at h5
  obtain ⟨⟨⟨⟨⟨g1, g2⟩, g3⟩, g4⟩, g5⟩, g6⟩ := h5
  simp [Cond.before, Cond.holds, Cond.value, h1, h2, h3, h4, g1, g2, g3, g4, g5, g6]
def isCode : Jvm.Cond → Bool
  | .code _ _ _ _ => true
  | _ => false
theorem all_split {L : List Jvm.Cond} {P : Jvm.Cond → Bool} (h1 : L.all (fun c => isCode c || P c) = true) (h2 : ∀ c ∈ L.filter isCode, P c = true) : L.all P = true := by
  refine List.all_eq_true.mpr fun c hc => ?_
  have h := List.all_eq_true.mp h1 c hc
  rcases Bool.eq_false_or_eq_true (isCode c) with hi | hi
  · exact h2 c (List.mem_filter.mpr ⟨hc, hi⟩)
  · simpa [hi] using h
set_option maxRecDepth 65536 in
theorem w_c0 : (Jvm.Cond.code x code maxLocals ret).before args0 about1 = true := code_word (m := ⟨1, 1⟩) (meth := k1m1) (c := k1c1) (by decide +kernel) rfl rfl rfl (by decide +kernel)
set_option maxRecDepth 65536 in
theorem w_c1 : (Jvm.Cond.code ({ cls := "com/example/flote/flote/program/ChoicesNextPinLaw", name := "count", desc := "(I)I" } : Jvm.MethodName) method_3_code (1 : Nat) (Option.some Jvm.ClassFile.FieldType.int)).before args0 about1 = true := code_word (m := ⟨1, 2⟩) (meth := k1m2) (c := k1c2) (by decide +kernel) rfl rfl rfl (by decide +kernel)
set_option maxRecDepth 65536 in
theorem w_c2 : (Jvm.Cond.code ({ cls := "com/example/flote/flote/program/Choices", name := "<init>", desc := "()V" } : Jvm.MethodName) prog_72_method_1_code (1 : Nat) (Option.none : Option Jvm.ClassFile.FieldType)).before args0 about1 = true := code_word (m := ⟨2, 0⟩) (meth := k2m0) (c := k2c0) (by decide +kernel) rfl rfl rfl (by decide +kernel)
set_option maxRecDepth 65536 in
theorem w_c3 : (Jvm.Cond.code ({ cls := "java/lang/Object", name := "<init>", desc := "()V" } : Jvm.MethodName) object_method_1_code (1 : Nat) (Option.none : Option Jvm.ClassFile.FieldType)).before args0 about1 = true := code_word (m := ⟨0, 0⟩) (meth := k0m0) (c := k0c0) (by decide +kernel) rfl rfl rfl (by decide +kernel)
set_option maxRecDepth 65536 in
theorem w_c4 : (Jvm.Cond.code ({ cls := "com/example/flote/flote/program/Choices", name := "begin", desc := "()V" } : Jvm.MethodName) prog_72_method_2_code (1 : Nat) (Option.none : Option Jvm.ClassFile.FieldType)).before args0 about1 = true := code_word (m := ⟨2, 1⟩) (meth := k2m1) (c := k2c1) (by decide +kernel) rfl rfl rfl (by decide +kernel)
set_option maxRecDepth 65536 in
theorem w_c5 : (Jvm.Cond.code ({ cls := "com/example/flote/flote/program/ChoicesNextPinLaw", name := "branchOk", desc := "(Lcom/example/flote/flote/program/Choices;III)Z" } : Jvm.MethodName) method_4_code (6 : Nat) (Option.some Jvm.ClassFile.FieldType.boolean)).before args0 about1 = true := code_word (m := ⟨1, 3⟩) (meth := k1m3) (c := k1c3) (by decide +kernel) rfl rfl rfl (by decide +kernel)
set_option maxRecDepth 65536 in
theorem w_c6 : (Jvm.Cond.code ({ cls := "com/example/flote/flote/program/Choices", name := "choose", desc := "(I)I" } : Jvm.MethodName) prog_72_method_3_code (2 : Nat) (Option.some Jvm.ClassFile.FieldType.int)).before args0 about1 = true := code_word (m := ⟨2, 2⟩) (meth := k2m2) (c := k2c2) (by decide +kernel) rfl rfl rfl (by decide +kernel)
set_option maxRecDepth 65536 in
theorem w_c7 : (Jvm.Cond.code ({ cls := "com/example/flote/flote/program/Choices", name := "next", desc := "()Z" } : Jvm.MethodName) prog_72_method_6_code (3 : Nat) (Option.some Jvm.ClassFile.FieldType.boolean)).before args0 about1 = true := code_word (m := ⟨2, 3⟩) (meth := k2m3) (c := k2c3) (by decide +kernel) rfl rfl rfl (by decide +kernel)
set_option maxRecDepth 65536 in
theorem w_c8 : (Jvm.Cond.code ({ cls := "com/example/flote/flote/program/Choices", name := "fewestBranches", desc := "()I" } : Jvm.MethodName) prog_72_method_10_code (1 : Nat) (Option.some Jvm.ClassFile.FieldType.int)).before args0 about1 = true := code_word (m := ⟨2, 4⟩) (meth := k2m4) (c := k2c4) (by decide +kernel) rfl rfl rfl (by decide +kernel)
set_option maxRecDepth 65536 in
theorem w_c9 : (Jvm.Cond.code ({ cls := "java/lang/Math", name := "max", desc := "(II)I" } : Jvm.MethodName) jdk_29_method_65_code (2 : Nat) (Option.some Jvm.ClassFile.FieldType.int)).before args0 about1 = true := code_word (m := ⟨4, 1⟩) (meth := k4m1) (c := k4c1) (by decide +kernel) rfl rfl rfl (by decide +kernel)
def codes1 : List Jvm.Cond := [Jvm.Cond.code x code maxLocals ret, Jvm.Cond.code ({ cls := "com/example/flote/flote/program/ChoicesNextPinLaw", name := "count", desc := "(I)I" } : Jvm.MethodName) method_3_code (1 : Nat) (Option.some Jvm.ClassFile.FieldType.int), Jvm.Cond.code ({ cls := "com/example/flote/flote/program/Choices", name := "<init>", desc := "()V" } : Jvm.MethodName) prog_72_method_1_code (1 : Nat) (Option.none : Option Jvm.ClassFile.FieldType), Jvm.Cond.code ({ cls := "java/lang/Object", name := "<init>", desc := "()V" } : Jvm.MethodName) object_method_1_code (1 : Nat) (Option.none : Option Jvm.ClassFile.FieldType), Jvm.Cond.code ({ cls := "com/example/flote/flote/program/Choices", name := "begin", desc := "()V" } : Jvm.MethodName) prog_72_method_2_code (1 : Nat) (Option.none : Option Jvm.ClassFile.FieldType), Jvm.Cond.code ({ cls := "com/example/flote/flote/program/ChoicesNextPinLaw", name := "branchOk", desc := "(Lcom/example/flote/flote/program/Choices;III)Z" } : Jvm.MethodName) method_4_code (6 : Nat) (Option.some Jvm.ClassFile.FieldType.boolean), Jvm.Cond.code ({ cls := "com/example/flote/flote/program/Choices", name := "choose", desc := "(I)I" } : Jvm.MethodName) prog_72_method_3_code (2 : Nat) (Option.some Jvm.ClassFile.FieldType.int), Jvm.Cond.code ({ cls := "com/example/flote/flote/program/Choices", name := "next", desc := "()Z" } : Jvm.MethodName) prog_72_method_6_code (3 : Nat) (Option.some Jvm.ClassFile.FieldType.boolean), Jvm.Cond.code ({ cls := "com/example/flote/flote/program/Choices", name := "fewestBranches", desc := "()I" } : Jvm.MethodName) prog_72_method_10_code (1 : Nat) (Option.some Jvm.ClassFile.FieldType.int), Jvm.Cond.code ({ cls := "java/lang/Math", name := "max", desc := "(II)I" } : Jvm.MethodName) jdk_29_method_65_code (2 : Nat) (Option.some Jvm.ClassFile.FieldType.int)]
set_option maxRecDepth 65536 in
theorem codes_eq : words1.filter isCode = codes1 := rfl
theorem w_codes : ∀ c ∈ words1.filter isCode, c.before args0 about1 = true := by
  rw [codes_eq]
  intro c hc
  simp only [codes1, List.mem_cons, List.not_mem_nil, or_false] at hc
  rcases hc with rfl | rfl | rfl | rfl | rfl | rfl | rfl | rfl | rfl | rfl
  · exact w_c0
  · exact w_c1
  · exact w_c2
  · exact w_c3
  · exact w_c4
  · exact w_c5
  · exact w_c6
  · exact w_c7
  · exact w_c8
  · exact w_c9
set_option maxRecDepth 65536 in
theorem w_t1 : (words1.take 24).all (fun c => isCode c || c.before args0 about1) = true := by decide +kernel
set_option maxRecDepth 65536 in
theorem w_t2 : ((words1.drop 24).take 24).all (fun c => isCode c || c.before args0 about1) = true := by decide +kernel
set_option maxRecDepth 65536 in
theorem w_t3 : ((words1.drop 24).drop 24).all (fun c => isCode c || c.before args0 about1) = true := by decide +kernel
theorem w_tables : (allAtoms (Jvm.Cond.code x code maxLocals ret :: tables_1)).before args0 about1 = true := by
  rw [allAtoms_all]
  show words1.all (fun c => c.before args0 about1) = true
  refine all_split ?_ w_codes
  rw [← List.take_append_drop 24 words1, List.all_append, w_t1, ← List.take_append_drop 24 (words1.drop 24), List.all_append, w_t2, w_t3]
  rfl
set_option maxRecDepth 65536 in
theorem w_case : (Jvm.Cond.and given_1 narrow_1).before args0 about1 = true := by decide +kernel
theorem w_applies : (headSpec (Jvm.Cond.code x code maxLocals ret :: tables_1) room_1).applies x e0.platform about1 = true :=
  (Spec.applies_iff w_frames).mpr ⟨w_running, w_runnable, w_alone, w_named, w_hears, w_ripe, w_room, w_tables⟩
theorem atStart : AtStart classFile x code maxLocals ret World_1 tables_1 room_1 Calls_1 rest_1 Pre_1 launch0 p0 e0 about1 theMethod args0 below0 :=
  ⟨lists_1, trivial, launch0.admits_env _ _ _, launch0.least_env, fairChoices_fair.cas, fairChoices_fair.clock, w_frames, w_args, w_heap, w_applies, trivial, trivial, w_case⟩
end start1
theorem witness_1 : WitnessClaimed_1 := ⟨start1.p0, start1.e0, start1.about1, start1.theMethod, start1.args0, start1.below0, start1.atStart⟩
end Jvm.Pilot.@@N@@
