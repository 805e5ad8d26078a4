import JvmDerived
import JvmDerived.Pilot.@@N@@Statement
import JvmDerived.Pilot.@@N@@Code
set_option linter.unusedVariables false
set_option linter.unusedSimpArgs false
namespace Jvm.RoadKit
open Sem ClassFile Op Lib Jvm.Stand Jvm.Free Jvm.LawKit
section OwnKit
variable {p : Program} {l : Launch} {e : Env} {R : Room} {s : State} {m : MethodId} {args : Array Value} {below : List Frame} {meth : Method} {c : Code} {T : State} {locs : List Loc} {cells slots : Nat} {Z : State} {a0 : Array Value} {h h' : Heap}
/-- the run has come from A to T with the frame g on top -/
def OGo (p : Program) (e : Env) (below : List Frame) (A T : State) (g : JFrame) : Prop := ∀ t, Steps p.tables e below (T.setTop g) t → Steps p.tables e below A t
/-- the array at a holds just these values -/
def OAr (Z : State) (h : Heap) (a : Addr) (k : ClassId) (ty : FieldType) (vs : List Value) : Prop := ∃ c : Cell, Arr Z h a c ty ∧ c.cls = k ∧ c.slots = vs.toArray
variable {a b : Addr} {k : ClassId} {ty : FieldType} {vs ws : List Value} {v w : Value} {sl : Nat} {wl : List Addr}
theorem OAr.lt (F : OAr Z h a k ty vs) : a < h.size := by obtain ⟨c, A, -⟩ := F; exact A.lt
theorem OAr.ext (F : OAr Z h a k ty vs) (E : Ext h h') : OAr Z h' a k ty vs := by obtain ⟨c, A, r⟩ := F; exact ⟨c, A.ext E, r⟩
theorem OAr.other (F : OAr Z h b k ty vs) (W : Wr h h' a sl v) (q : b ≠ a) : OAr Z h' b k ty vs := by obtain ⟨c, A, r⟩ := F; exact ⟨c, A.other W q, r⟩
theorem OAr.keep (F : OAr Z h a k ty vs) (K : Keep h h' wl) (q : a ∉ wl) : OAr Z h' a k ty vs := by obtain ⟨c, A, r⟩ := F; exact ⟨c, ⟨K.2.1 a c A.1 q, A.2⟩, r⟩
theorem OAr.new {n : Int32} (A : Arr Z h a (newA k ty n) ty) : OAr Z h a k ty (List.replicate n.toNatClampNeg (defaultValue ty)) := ⟨_, A, rfl, by simp [newA]⟩
theorem OAr.same (F : OAr Z h a k ty vs) (W : Wr h h' a sl v) : OAr Z h' a k ty (vs.set sl v) := by
  obtain ⟨c, A, r1, r2⟩ := F
  exact ⟨_, A.same W, r1, by simp only [Cell.setSlot]; rw [r2]; simp⟩
theorem OAr.cast (F : OAr Z h a k ty vs) (q : vs = ws) : OAr Z h a k ty ws := q ▸ F
theorem OAr.plain (F : OAr Z h a k ty vs) : ∀ cell : Cell, h[a]? = some cell → cell.vm.isStatics = false := fun cell hc => by
  obtain ⟨c, A, -⟩ := F
  cases A.1.symm.trans hc
  exact A.plain
theorem own_in {j : Int32} (h0 : ¬ j < 0) (hv : vs[j.toNatClampNeg]? = some v) {c : Cell} (q : c.slots = vs.toArray) : ¬ (j < 0 ∨ c.slots.size ≤ j.toNatClampNeg) ∧ c.slots[j.toNatClampNeg]? = some v := by
  have h1 := (List.getElem?_eq_some_iff.mp hv).1
  rw [q]
  refine ⟨fun r => r.elim h0 fun r => ?_, by simpa using hv⟩
  simp at r
  omega
theorem own_ldI (X : Stand p l e R s m args below meth c T locs cells slots) (hx : p.tables.exec = Jvm.exec) (hZ : Z.Warmed39 s.vm) (eT : T.heap = h) (F : OAr Z h a k .int vs) {j : Int32} (h0 : ¬ j < 0) (hv : vs[j.toNatClampNeg]? = some v) {g : JFrame} (hg : g.method = m) {rest : List Value} (hs : g.stack = .int j :: .ref a :: rest) (hd : decode c.code g.pc = .ok (.iaload, 1)) (t : State)
    (hr : Steps p.tables e below (T.setTop { g with pc := g.pc + 1, stack := v :: rest }) t) : Steps p.tables e below (T.setTop g) t := by
  obtain ⟨cl, A, -, r⟩ := F
  obtain ⟨q1, q2⟩ := own_in h0 hv r
  exact X.iaload hx (by rw [eT]; exact A.1) (State.isArrayOf_alike hZ.alike A.2.1) A.2.2 q1 q2 hg hs hd t hr
theorem own_ldJ (X : Stand p l e R s m args below meth c T locs cells slots) (hx : p.tables.exec = Jvm.exec) (hZ : Z.Warmed39 s.vm) (eT : T.heap = h) (F : OAr Z h a k .long vs) {j : Int32} (h0 : ¬ j < 0) (hv : vs[j.toNatClampNeg]? = some v) {g : JFrame} (hg : g.method = m) {rest : List Value} (hs : g.stack = .int j :: .ref a :: rest) (hd : decode c.code g.pc = .ok (.laload, 1)) (t : State)
    (hr : Steps p.tables e below (T.setTop { g with pc := g.pc + 1, stack := v :: rest }) t) : Steps p.tables e below (T.setTop g) t := by
  obtain ⟨cl, A, -, r⟩ := F
  obtain ⟨q1, q2⟩ := own_in h0 hv r
  exact X.laload hx (by rw [eT]; exact A.1) (State.isArrayOf_alike hZ.alike A.2.1) A.2.2 q1 q2 hg hs hd t hr
theorem own_ldC (X : Stand p l e R s m args below meth c T locs cells slots) (hx : p.tables.exec = Jvm.exec) (hZ : Z.Warmed39 s.vm) (eT : T.heap = h) (F : OAr Z h a k .char vs) {j : Int32} (h0 : ¬ j < 0) (hv : vs[j.toNatClampNeg]? = some v) {g : JFrame} (hg : g.method = m) {rest : List Value} (hs : g.stack = .int j :: .ref a :: rest) (hd : decode c.code g.pc = .ok (.caload, 1)) (t : State)
    (hr : Steps p.tables e below (T.setTop { g with pc := g.pc + 1, stack := v :: rest }) t) : Steps p.tables e below (T.setTop g) t := by
  obtain ⟨cl, A, -, r⟩ := F
  obtain ⟨q1, q2⟩ := own_in h0 hv r
  exact X.caload hx (by rw [eT]; exact A.1) (State.isArrayOf_alike hZ.alike A.2.1) A.2.2 q1 q2 hg hs hd t hr
theorem own_ldB (X : Stand p l e R s m args below meth c T locs cells slots) (hx : p.tables.exec = Jvm.exec) (hZ : Z.Warmed39 s.vm) (eT : T.heap = h) (F : OAr Z h a k .byte vs) {j : Int32} (h0 : ¬ j < 0) (hv : vs[j.toNatClampNeg]? = some v) {g : JFrame} (hg : g.method = m) {rest : List Value} (hs : g.stack = .int j :: .ref a :: rest) (hd : decode c.code g.pc = .ok (.baload, 1)) (t : State)
    (hr : Steps p.tables e below (T.setTop { g with pc := g.pc + 1, stack := v :: rest }) t) : Steps p.tables e below (T.setTop g) t := by
  obtain ⟨cl, A, -, r⟩ := F
  obtain ⟨q1, q2⟩ := own_in h0 hv r
  exact X.baloadBytes hx (by rw [eT]; exact A.1) (State.isArrayOf_alike hZ.alike A.2.1) A.2.2 q1 q2 hg hs hd t hr
theorem own_ldZ (X : Stand p l e R s m args below meth c T locs cells slots) (hx : p.tables.exec = Jvm.exec) (hZ : Z.Warmed39 s.vm) (eT : T.heap = h) (F : OAr Z h a k .boolean vs) {j : Int32} (h0 : ¬ j < 0) (hv : vs[j.toNatClampNeg]? = some v) {g : JFrame} (hg : g.method = m) {rest : List Value} (hs : g.stack = .int j :: .ref a :: rest) (hd : decode c.code g.pc = .ok (.baload, 1)) (t : State)
    (hr : Steps p.tables e below (T.setTop { g with pc := g.pc + 1, stack := v :: rest }) t) : Steps p.tables e below (T.setTop g) t := by
  obtain ⟨cl, A, -, r⟩ := F
  obtain ⟨q1, q2⟩ := own_in h0 hv r
  exact X.baloadBooleans hx (by rw [eT]; exact A.1) (State.isArrayOf_alike hZ.alike A.2.1) A.2.2 q1 q2 hg hs hd t hr
theorem own_ldA (X : Stand p l e R s m args below meth c T locs cells slots) (hx : p.tables.exec = Jvm.exec) (hZ : Z.Warmed39 s.vm) (eT : T.heap = h) (F : OAr Z h a k ty vs) (ht : ty.isReference = true) {j : Int32} (h0 : ¬ j < 0) (hv : vs[j.toNatClampNeg]? = some v) {g : JFrame} (hg : g.method = m) {rest : List Value} (hs : g.stack = .int j :: .ref a :: rest) (hd : decode c.code g.pc = .ok (.aaload, 1)) (t : State)
    (hr : Steps p.tables e below (T.setTop { g with pc := g.pc + 1, stack := v :: rest }) t) : Steps p.tables e below (T.setTop g) t := by
  obtain ⟨cl, A, -, r⟩ := F
  obtain ⟨q1, q2⟩ := own_in h0 hv r
  exact X.aaload hx (by rw [eT]; exact A.1) (State.isArrayOf_alike hZ.alike A.2.1) ht A.2.2 q1 q2 hg hs hd t hr
theorem own_len (X : Stand p l e R s m args below meth c T locs cells slots) (hx : p.tables.exec = Jvm.exec) (hZ : Z.Warmed39 s.vm) (eT : T.heap = h) (F : OAr Z h a k ty vs) {n : Int32} (hn : vs.length.toInt32 = n) {g : JFrame} (hg : g.method = m) {rest : List Value} (hs : g.stack = .ref a :: rest) (hd : decode c.code g.pc = .ok (.arraylength, 1)) (t : State)
    (hr : Steps p.tables e below (T.setTop { g with pc := g.pc + 1, stack := .int n :: rest }) t) : Steps p.tables e below (T.setTop g) t := by
  obtain ⟨cl, A, -, r⟩ := F
  refine X.arraylength hx (by rw [eT]; exact A.1) (State.isArrayOf_alike hZ.alike A.2.1) hg hs hd t ?_
  rw [show cl.slots.size = vs.length by rw [r]; simp, hn]
  exact hr
theorem own_in2 {j : Int32} (h0 : ¬ j < 0) (h1 : j.toNatClampNeg < vs.length) {c : Cell} (q : c.slots = vs.toArray) : ¬ (j < 0 ∨ c.slots.size ≤ j.toNatClampNeg) := by
  rw [q]
  refine fun r => r.elim h0 fun r => ?_
  simp at r
  omega
theorem own_stI (X : Stand p l e R s m args below meth c T locs cells slots) (hx : p.tables.exec = Jvm.exec) (hZ : Z.Warmed39 s.vm) (eT : T.heap = h) (F : OAr Z h a k .int vs) {j : Int32} {x : Int32} (h0 : ¬ j < 0) (h1 : j.toNatClampNeg < vs.length) {g : JFrame} (hg : g.method = m) {rest : List Value} (hs : g.stack = .int x :: .int j :: .ref a :: rest) (hd : decode c.code g.pc = .ok (.iastore, 1)) :
    ∃ T' h', Stand p l e R s m args below meth c T' (locs ++ [⟨a, j.toNatClampNeg⟩]) cells slots ∧ T'.heap = h' ∧ Wr h h' a j.toNatClampNeg (.int x) ∧ OAr Z h' a k .int (vs.set j.toNatClampNeg (.int x)) ∧ ∀ target, Steps p.tables e below (T'.setTop { g with pc := g.pc + 1, stack := rest }) target → Steps p.tables e below (T.setTop g) target := by
  have F' := F
  obtain ⟨cl, A, -, r⟩ := F'
  obtain ⟨T', h', X', e', W', st⟩ := stI X hx hZ eT A (own_in2 h0 h1 r) hg hs hd
  exact ⟨T', h', X', e', W', F.same W', st⟩
theorem own_stJ (X : Stand p l e R s m args below meth c T locs cells slots) (hx : p.tables.exec = Jvm.exec) (hZ : Z.Warmed39 s.vm) (eT : T.heap = h) (F : OAr Z h a k .long vs) {j : Int32} {x : Int64} (h0 : ¬ j < 0) (h1 : j.toNatClampNeg < vs.length) {g : JFrame} (hg : g.method = m) {rest : List Value} (hs : g.stack = .long x :: .int j :: .ref a :: rest) (hd : decode c.code g.pc = .ok (.lastore, 1)) :
    ∃ T' h', Stand p l e R s m args below meth c T' (locs ++ [⟨a, j.toNatClampNeg⟩]) cells slots ∧ T'.heap = h' ∧ Wr h h' a j.toNatClampNeg (.long x) ∧ OAr Z h' a k .long (vs.set j.toNatClampNeg (.long x)) ∧ ∀ target, Steps p.tables e below (T'.setTop { g with pc := g.pc + 1, stack := rest }) target → Steps p.tables e below (T.setTop g) target := by
  have F' := F
  obtain ⟨cl, A, -, r⟩ := F'
  obtain ⟨T', h', X', e', W', st⟩ := stJ X hx hZ eT A (own_in2 h0 h1 r) hg hs hd
  exact ⟨T', h', X', e', W', F.same W', st⟩
theorem own_stC (X : Stand p l e R s m args below meth c T locs cells slots) (hx : p.tables.exec = Jvm.exec) (hZ : Z.Warmed39 s.vm) (eT : T.heap = h) (F : OAr Z h a k .char vs) {j : Int32} {x : Int32} (h0 : ¬ j < 0) (h1 : j.toNatClampNeg < vs.length) {g : JFrame} (hg : g.method = m) {rest : List Value} (hs : g.stack = .int x :: .int j :: .ref a :: rest) (hd : decode c.code g.pc = .ok (.castore, 1)) :
    ∃ T' h', Stand p l e R s m args below meth c T' (locs ++ [⟨a, j.toNatClampNeg⟩]) cells slots ∧ T'.heap = h' ∧ Wr h h' a j.toNatClampNeg (.int (nar .char x)) ∧ OAr Z h' a k .char (vs.set j.toNatClampNeg (.int (nar .char x))) ∧ ∀ target, Steps p.tables e below (T'.setTop { g with pc := g.pc + 1, stack := rest }) target → Steps p.tables e below (T.setTop g) target := by
  have F' := F
  obtain ⟨cl, A, -, r⟩ := F'
  obtain ⟨T', h', X', e', W', st⟩ := stC X hx hZ eT A (own_in2 h0 h1 r) hg hs hd
  exact ⟨T', h', X', e', W', F.same W', st⟩
theorem own_stB (X : Stand p l e R s m args below meth c T locs cells slots) (hx : p.tables.exec = Jvm.exec) (hZ : Z.Warmed39 s.vm) (eT : T.heap = h) (F : OAr Z h a k .byte vs) {j : Int32} {x : Int32} (h0 : ¬ j < 0) (h1 : j.toNatClampNeg < vs.length) {g : JFrame} (hg : g.method = m) {rest : List Value} (hs : g.stack = .int x :: .int j :: .ref a :: rest) (hd : decode c.code g.pc = .ok (.bastore, 1)) :
    ∃ T' h', Stand p l e R s m args below meth c T' (locs ++ [⟨a, j.toNatClampNeg⟩]) cells slots ∧ T'.heap = h' ∧ Wr h h' a j.toNatClampNeg (.int (nar .byte x)) ∧ OAr Z h' a k .byte (vs.set j.toNatClampNeg (.int (nar .byte x))) ∧ ∀ target, Steps p.tables e below (T'.setTop { g with pc := g.pc + 1, stack := rest }) target → Steps p.tables e below (T.setTop g) target := by
  have F' := F
  obtain ⟨cl, A, -, r⟩ := F'
  obtain ⟨T', h', X', e', W', st⟩ := stB X hx hZ eT A (own_in2 h0 h1 r) hg hs hd
  exact ⟨T', h', X', e', W', F.same W', st⟩
theorem own_stZ (X : Stand p l e R s m args below meth c T locs cells slots) (hx : p.tables.exec = Jvm.exec) (hZ : Z.Warmed39 s.vm) (eT : T.heap = h) (F : OAr Z h a k .boolean vs) {j : Int32} {x : Int32} (h0 : ¬ j < 0) (h1 : j.toNatClampNeg < vs.length) {g : JFrame} (hg : g.method = m) {rest : List Value} (hs : g.stack = .int x :: .int j :: .ref a :: rest) (hd : decode c.code g.pc = .ok (.bastore, 1)) :
    ∃ T' h', Stand p l e R s m args below meth c T' (locs ++ [⟨a, j.toNatClampNeg⟩]) cells slots ∧ T'.heap = h' ∧ Wr h h' a j.toNatClampNeg (.int (nar .boolean x)) ∧ OAr Z h' a k .boolean (vs.set j.toNatClampNeg (.int (nar .boolean x))) ∧ ∀ target, Steps p.tables e below (T'.setTop { g with pc := g.pc + 1, stack := rest }) target → Steps p.tables e below (T.setTop g) target := by
  have F' := F
  obtain ⟨cl, A, -, r⟩ := F'
  obtain ⟨T', h', X', e', W', st⟩ := stZ X hx hZ eT A (own_in2 h0 h1 r) hg hs hd
  exact ⟨T', h', X', e', W', F.same W', st⟩
theorem own_stR (X : Stand p l e R s m args below meth c T locs cells slots) (hx : p.tables.exec = Jvm.exec) (hZ : Z.Warmed39 s.vm) (eT : T.heap = h) (F : OAr Z h a k ty vs) (ht : ty.isReference = true) {j : Int32} {x : Value} (h0 : ¬ j < 0) (h1 : j.toNatClampNeg < vs.length) (S : Sto Z h a x) {g : JFrame} (hg : g.method = m) {rest : List Value} (hs : g.stack = x :: .int j :: .ref a :: rest) (hd : decode c.code g.pc = .ok (.aastore, 1)) :
    ∃ T' h', Stand p l e R s m args below meth c T' (locs ++ [⟨a, j.toNatClampNeg⟩]) cells slots ∧ T'.heap = h' ∧ Wr h h' a j.toNatClampNeg x ∧ OAr Z h' a k ty (vs.set j.toNatClampNeg x) ∧ ∀ target, Steps p.tables e below (T'.setTop { g with pc := g.pc + 1, stack := rest }) target → Steps p.tables e below (T.setTop g) target := by
  have F' := F
  obtain ⟨cl, A, -, r⟩ := F'
  obtain ⟨T', h', X', e', W', st⟩ := stR X hx hZ eT A (own_in2 h0 h1 r) ht S hg hs hd
  exact ⟨T', h', X', e', W', F.same W', st⟩
theorem own_sto {y : Addr} {t0 : FieldType} {C : String} (F : OAr Z h a k ty vs) (O : OvrA Z k t0 C) (I : Ins Z h y C true) : Sto Z h a (.ref y) := by
  obtain ⟨cl, A, q, -⟩ := F
  exact Sto.ofVA A q O I
/-- the addresses are unlike each other -/
def OND (L : List Addr) : Prop := L.Pairwise (· ≠ ·)
theorem ond0 : OND [] := List.Pairwise.nil
theorem ondS {x : Addr} {L : List Addr} (q : ∀ y ∈ L, x ≠ y) (r : OND L) : OND (x :: L) := List.Pairwise.cons q r
theorem own_pw {L : List Addr} (q : OND L) (i j : Nat) (hij : i < j) {x y : Addr} (hi : L[i]? = some x) (hj : L[j]? = some y) : x ≠ y := by
  obtain ⟨i1, rfl⟩ := List.getElem?_eq_some_iff.mp hi
  obtain ⟨j1, rfl⟩ := List.getElem?_eq_some_iff.mp hj
  exact List.pairwise_iff_getElem.mp q i j i1 j1 hij
theorem own_selp (hZ : Z.Warmed39 s.vm) {y : MethodName} {k : Nat} (wi : (Cond.instantiable y.cls k).before a0 Z = true) (wp : (Cond.privateMethod y).before a0 Z = true) (wm : (Cond.instanceMethod y).before a0 Z = true) (hy : y.cls ≠ "java/lang/invoke/MethodHandle" ∧ y.cls ≠ "java/lang/invoke/VarHandle" := by decide) : (Cond.selects y.cls y y).before args s = true := by
  obtain ⟨c2, k2, i1, i2, i3, i4, -⟩ := Cond.instantiable_spec (mv (args := args) hZ wi)
  exact selects_self_of_private i1 i2 (Bool.or_eq_false_iff.mp i4).1 (Cond.privateMethod_at (mvP hZ wp (args := args))) (mv hZ wm) hy
theorem own_arv {z : Int32} {d : Value} (F : OAr Z h a k ty vs) (hf : ∀ v ∈ vs, fits ty v = true) (hz : ¬ z < 0) (hl : vs.length = z.toNatClampNeg) : Arv Z h a k ty z vs d := by
  obtain ⟨c, A, q1, q2⟩ := F
  have hs : c.slots.size = vs.length := by rw [q2]; simp
  refine ⟨c, A, q1, by rw [hs, hl], hz, fun i hi => ?_, fun i hi => ?_⟩
  · rw [hs] at hi
    rw [q2]
    simp [List.getD_eq_getElem?_getD, hi]
  · rw [hs] at hi
    rw [List.getD_eq_getElem?_getD, List.getElem?_eq_getElem hi]
    exact hf _ (List.getElem_mem hi)
theorem own_unarv {z : Int32} {d : Value} (F : Arv Z h a k ty z vs d) (hl : vs.length = z.toNatClampNeg) : OAr Z h a k ty vs := by
  obtain ⟨c, A, q1, q2, q3, H, -⟩ := F
  refine ⟨c, A, q1, ?_⟩
  apply Array.ext (by rw [q2, ← hl]; simp)
  intro i h1 h2
  have e := H i h1
  have h3 : i < vs.length := by simpa using h2
  rw [Array.getElem?_eq_getElem h1, List.getD_eq_getElem?_getD, List.getElem?_eq_getElem h3] at e
  simpa using Option.some.inj e
end OwnKit
end Jvm.RoadKit

namespace Jvm.Pilot.@@N@@
open Jvm Jvm.ClassFile Sem Op Lib Jvm.Free Jvm.Stand Jvm.LawKit Jvm.RoadKit Bundle Jvm.Pilot.@@N@@.Jvm.D
theorem ow {a0 : Array Value} {Z : State} (hw : ∀ d ∈ tables_1, d.before a0 Z = true) (i : Nat) {d : Jvm.Cond} (h : tables_1[i]? = some d) : d.before a0 Z = true := hw _ (List.mem_of_getElem? h)
abbrev mN0 : MethodName := ⟨"com/example/bytecrane/bytecrane/classfile/ClassFileVersion", "requireU2", "(Ljava/lang/String;I)I"⟩
abbrev mN1 : MethodName := ⟨"com/example/bytecrane/bytecrane/classfile/ClassFileVersion", "<init>", "(II)V"⟩
abbrev cN0 : String := "com/example/bytecrane/bytecrane/classfile/ClassFileVersion"
abbrev mN2 : MethodName := ⟨"com/example/bytecrane/bytecrane/classfile/ClassFileVersionIsSupportedPinLaw", "expectedSupported", "(II)Z"⟩
abbrev mN3 : MethodName := ⟨"com/example/bytecrane/bytecrane/classfile/ClassFileVersion", "isSupported", "()Z"⟩
def own_sup (mj mn : Int32) : Int32 := if mj < 45 then 0 else if 63 < mj then 0 else if mj < 56 then 1 else if mn = 0 then 1 else 0
theorem own_lt56 {a : Int32} : a < (56 : Int32) ↔ ¬ (55 : Int32) < a := by
  rw [Int32.lt_iff_toInt_lt, Int32.lt_iff_toInt_lt]
  have r1 : (55 : Int32).toInt = 55 := by decide
  have r2 : (56 : Int32).toInt = 56 := by decide
  omega
def own_u2 (a : Int32) : Prop := ¬ a < 0 ∧ ¬ (65535 : Int32) < a
theorem own_u2_of {a : Int32} (h0 : 0 ≤ a.toInt) (h1 : a.toInt ≤ 65535) : own_u2 a := by
  unfold own_u2
  rw [Int32.lt_iff_toInt_lt, Int32.lt_iff_toInt_lt]
  have r1 : (0 : Int32).toInt = 0 := by decide
  have r2 : (65535 : Int32).toInt = 65535 := by decide
  omega
theorem own_u2_16 (a : Int32) : own_u2 (a &&& (65535 : Int32)) := by
  have h := c_and a (65535 : Int32) (by decide)
  have r2 : (65535 : Int32).toInt = 65535 := by decide
  exact own_u2_of h.1 (by omega)
theorem own_u2_3 (a : Int32) : own_u2 (a &&& (3 : Int32)) := by
  have h := c_and a (3 : Int32) (by decide)
  have r2 : (3 : Int32).toInt = 3 := by decide
  exact own_u2_of h.1 (by omega)
theorem own_u2_40 (a : Int32) : own_u2 ((40 : Int32) + (a &&& (31 : Int32))) := by
  have h := c_and a (31 : Int32) (by decide)
  have r2 : (31 : Int32).toInt = 31 := by decide
  have r3 : (40 : Int32).toInt = 40 := by decide
  have b := c_iadd (40 : Int32) (a &&& (31 : Int32))
  have d := rng32 ((40 : Int32) + (a &&& (31 : Int32)))
  exact own_u2_of (by omega) (by omega)
theorem pn_com_example_bytecrane_bytecrane_classfile_ClassFileVersion : plainName "com/example/bytecrane/bytecrane/classfile/ClassFileVersion" = true := by first | (simp [plainName, overriddenIn]; done) | decide +kernel
theorem ef_3 (m : MethodId) (x0 : Addr) (x1 : Int32) : entryFrame m #[(.ref x0), (.int x1)] 2 = mkF m 0 #[.val (.ref x0), .val (.int x1)] [] := by first | (simp [entryFrame, mkF, argsToLocals, Value.category]; done) | rfl
theorem d3_0 : decode prog_12_method_2_code 0 = .ok (.iload_n 1, 1) := by decide +kernel
theorem d3_1 : decode prog_12_method_2_code 1 = .ok (.ifCond .lt 9, 3) := by decide +kernel
theorem d3_4 : decode prog_12_method_2_code 4 = .ok (.iload_n 1, 1) := by decide +kernel
theorem d3_5 : decode prog_12_method_2_code 5 = .ok (.ldc 24, 2) := by decide +kernel
theorem d3_7 : decode prog_12_method_2_code 7 = .ok (.if_icmp .le 18, 3) := by decide +kernel
theorem d3_25 : decode prog_12_method_2_code 25 = .ok (.iload_n 1, 1) := by decide +kernel
theorem d3_26 : decode prog_12_method_2_code 26 = .ok (.ireturn, 1) := by decide +kernel
def Q_req (Z : State) (a1 : Addr) (p1 : Int32) (h0 : Heap) (n0 : Nat) (v : Option Value) (h : Heap) (L : List Loc) : Prop := v = some (.int p1) ∧ Fr n0 L ∧ h = h0
set_option maxRecDepth 65536 in
set_option maxHeartbeats 40000000 in
theorem rm_req (l : Launch) (Z : State) (a0 : Array Value) (hw : ∀ d ∈ tables_1, d.before a0 Z = true) (ws : List Jvm.Cond) (a1 : Addr) (p1 : Int32) (h0 : Heap) (n0 : Nat) (Z0 : n0 ≤ h0.size) (hu : own_u2 p1) :
    MetFree l mN0 (head1 (Jvm.Cond.code mN0 prog_12_method_2_code 2 (some .int) :: ws) ({ frames := 0, cells := 0, slots := 0, locals := 0 } : Room)) (fun a U => a = #[(.ref a1), (.int p1)] ∧ Z.Warmed39 U.vm ∧ U.heap = h0) (fun _ _ _ _ _ => True) (fun _ U o U' => ∃ v L, o = .returned v ∧ Q_req Z a1 p1 h0 n0 v U'.heap L ∧ FrameEnd U o U' L ({ frames := 0, cells := 0, slots := 0, locals := 0 } : Room).cells ({ frames := 0, cells := 0, slots := 0, locals := 0 } : Room).slots) := by
  refine MetFree.of_bodySF (plainFor_of_name pn_com_example_bytecrane_bytecrane_classfile_ClassFileVersion) hisR ?_
  intro p e s m args below meth c s₁ Bd hml0 hP hK
  obtain ⟨rfl, hZ, hh⟩ := hP
  have hx := Bd.exec
  have hby := Bd.bytes
  have hml : c.maxLocals = 2 := hml0
  have hown : s.vm.findClass "com/example/bytecrane/bytecrane/classfile/ClassFileVersion" = some m.cls := findClass_of_methodNamed Bd.named
  have hnm := (name_of_methodNamed Bd.named Bd.method).1
  have X0 : Stand p l e ({ frames := 0, cells := 0, slots := 0, locals := 0 } : Room) s m #[(.ref a1), (.int p1)] below meth c s₁ [] 0 0 := Stand.of_body Bd
  have e0 : s₁.heap = h0 := by rw [← hh, Bd.state]; rfl
  have N0 := Fr.nil n0
  obtain ⟨A0, hA0⟩ : ∃ z, z = s₁.setTop (entryFrame m #[(.ref a1), (.int p1)] 2) := ⟨_, rfl⟩
  have K : OGo p e below A0 s₁ (mkF m 0 #[rv a1, iv p1] []) := fun t k => hA0 ▸ castTop (ef_3 m a1 p1) k
  replace K : OGo p e below A0 s₁ (mkF m 1 #[rv a1, iv p1] [(.int p1)]) := fun t k => K t (XS.iloadN X0.here hx rfl (hb hby d3_0) rfl k)
  replace K : OGo p e below A0 s₁ (mkF m 4 #[rv a1, iv p1] []) := fun t k => K t (XS.ifNo X0.here hx rfl (hb hby d3_1) rfl ((if0 _ _).trans (flt hu.1).1) k)
  replace K : OGo p e below A0 s₁ (mkF m 5 #[rv a1, iv p1] [(.int p1)]) := fun t k => K t (XS.iloadN X0.here hx rfl (hb hby d3_4) rfl k)
  replace K : OGo p e below A0 s₁ (mkF m 7 #[rv a1, iv p1] [(.int 65535), (.int p1)]) := fun t k => K t (X0.ldcInt hx hown (mvT hZ (ow hw 21 rfl)) (g := (mkF m 5 #[rv a1, iv p1] [(.int p1)])) rfl (hb hby d3_5) t k)
  replace K : OGo p e below A0 s₁ (mkF m 25 #[rv a1, iv p1] []) := fun t k => K t (XS.icmpYes X0.here hx rfl (pc0 := 7) (pc' := 25) rfl (hb hby d3_7) rfl (flt hu.2).2.2.2 (by decide) (by decide) k)
  replace K : OGo p e below A0 s₁ (mkF m 26 #[rv a1, iv p1] [(.int p1)]) := fun t k => K t (XS.iloadN X0.here hx rfl (hb hby d3_25) rfl k)
  obtain ⟨fs, hr, hrun, hended, hW, hsame⟩ := X0.leave (v := some (.int p1)) (fun h => by rw [Bd.returns] at h; cases h)
  subst hA0
  refine ⟨_, _, K _ (retOut X0 hx Bd.returns rfl (Or.inl ⟨rfl, Or.inl rfl, _, rfl⟩) (hb hby d3_26) hr), hrun, hended, _, _, rfl, ?_, ⟨_, rfl⟩, hW, hsame.mono (by decide) (by decide)⟩
  show Q_req Z a1 p1 h0 n0 _ s₁.heap _
  rw [e0]
  exact ⟨rfl, N0, rfl⟩
theorem ef_1 (m : MethodId) (x0 : Addr) (x1 : Int32) (x2 : Int32) : entryFrame m #[(.ref x0), (.int x1), (.int x2)] 3 = mkF m 0 #[.val (.ref x0), .val (.int x1), .val (.int x2)] [] := by first | (simp [entryFrame, mkF, argsToLocals, Value.category]; done) | rfl
theorem d1_0 : decode prog_12_method_1_code 0 = .ok (.aload_n 0, 1) := by decide +kernel
theorem d1_1 : decode prog_12_method_1_code 1 = .ok (.invokespecial 3, 3) := by decide +kernel
theorem d1_4 : decode prog_12_method_1_code 4 = .ok (.aload_n 0, 1) := by decide +kernel
theorem d1_5 : decode prog_12_method_1_code 5 = .ok (.ldc 9, 2) := by decide +kernel
theorem own_strw {a0 : Array Value} {Z : State} (hw : ∀ d ∈ tables_1, d.before a0 Z = true) : ∀ a ∈ Bundle.stringAtoms, a.before a0 Z = true := by
  intro a ha
  simp only [Bundle.stringAtoms, List.mem_cons, List.not_mem_nil, or_false] at ha
  rcases ha with rfl | rfl | rfl | rfl | rfl | rfl | rfl
  all_goals first | exact (ow hw 11 rfl) | exact (ow hw 12 rfl) | exact (ow hw 13 rfl) | exact (ow hw 14 rfl) | exact (ow hw 15 rfl) | exact (ow hw 16 rfl) | exact (ow hw 17 rfl)
theorem d1_7 : decode prog_12_method_1_code 7 = .ok (.iload_n 1, 1) := by decide +kernel
theorem d1_8 : decode prog_12_method_1_code 8 = .ok (.invokestatic 11, 3) := by decide +kernel
theorem pd__Ljava_lang_String_I_I : parseMethodDescriptor "(Ljava/lang/String;I)I" = some ⟨[(.object "java/lang/String"), .int], some .int⟩ := by decide +kernel
theorem d1_11 : decode prog_12_method_1_code 11 = .ok (.putfield 15, 3) := by decide +kernel
theorem d1_14 : decode prog_12_method_1_code 14 = .ok (.aload_n 0, 1) := by decide +kernel
theorem d1_15 : decode prog_12_method_1_code 15 = .ok (.ldc 19, 2) := by decide +kernel
theorem d1_17 : decode prog_12_method_1_code 17 = .ok (.iload_n 2, 1) := by decide +kernel
theorem d1_18 : decode prog_12_method_1_code 18 = .ok (.invokestatic 11, 3) := by decide +kernel
theorem d1_21 : decode prog_12_method_1_code 21 = .ok (.putfield 21, 3) := by decide +kernel
theorem sn_cN0_minor_major {a0 : Array Value} {Z : State} (hw : ∀ d ∈ tables_1, d.before a0 Z = true) : Jvm.RoadKit.slotOf Z cN0 "minor" "I" ≠ Jvm.RoadKit.slotOf Z cN0 "major" "I" := slot_ne (Or.inr (ow hw 26 rfl)) (Or.inr (ow hw 23 rfl)) (by decide) (t := .int) (t' := .int) (by decide) (by decide)
theorem d1_24 : decode prog_12_method_1_code 24 = .ok (.return_, 1) := by decide +kernel
theorem sn_cN0_major_minor {a0 : Array Value} {Z : State} (hw : ∀ d ∈ tables_1, d.before a0 Z = true) : Jvm.RoadKit.slotOf Z cN0 "major" "I" ≠ Jvm.RoadKit.slotOf Z cN0 "minor" "I" := slot_ne (Or.inr (ow hw 23 rfl)) (Or.inr (ow hw 26 rfl)) (by decide) (t := .int) (t' := .int) (by decide) (by decide)
def Q_init (Z : State) (a1 : Addr) (p1 : Int32) (p2 : Int32) (h0 : Heap) (n0 : Nat) (v : Option Value) (h : Heap) (L : List Loc) : Prop := v = none ∧ Fr n0 L ∧ Keep h0 h [a1] ∧ Fld Z h a1 cN0 "major" "I" (.int p1) ∧ Fld Z h a1 cN0 "minor" "I" (.int p2)
set_option maxRecDepth 65536 in
set_option maxHeartbeats 40000000 in
theorem rm_init (l : Launch) (Z : State) (a0 : Array Value) (hw : ∀ d ∈ tables_1, d.before a0 Z = true) (ws : List Jvm.Cond) (a1 : Addr) (p1 : Int32) (p2 : Int32) (h0 : Heap) (n0 : Nat) (Z0 : n0 ≤ h0.size) (E_a1 : Exa Z h0 a1 cN0) (F_major_a1 : Fld Z h0 a1 cN0 "major" "I" (.int (0 : Int32))) (F_minor_a1 : Fld Z h0 a1 cN0 "minor" "I" (.int (0 : Int32))) (g_a1 : n0 ≤ a1) (hu1 : own_u2 p1) (hu2 : own_u2 p2) :
    MetFree l mN1 (head1 (Jvm.Cond.code mN1 prog_12_method_1_code 3 none :: ws) ({ frames := 1, cells := 4, slots := 112, locals := 14 } : Room)) (fun a U => a = #[(.ref a1), (.int p1), (.int p2)] ∧ Z.Warmed39 U.vm ∧ U.heap = h0) (fun _ _ _ _ _ => True) (fun _ U o U' => ∃ v L, o = .returned v ∧ Q_init Z a1 p1 p2 h0 n0 v U'.heap L ∧ ReturnedEndW U o U' L ({ frames := 1, cells := 4, slots := 112, locals := 14 } : Room).cells ({ frames := 1, cells := 4, slots := 112, locals := 14 } : Room).slots) := by
  refine MetFree.of_bodySF (plainFor_of_name pn_com_example_bytecrane_bytecrane_classfile_ClassFileVersion) hisR ?_
  intro p e s m args below meth c s₁ Bd hml0 hP hK
  obtain ⟨rfl, hZ, hh⟩ := hP
  have hx := Bd.exec
  have hby := Bd.bytes
  have hml : c.maxLocals = 3 := hml0
  have hown : s.vm.findClass "com/example/bytecrane/bytecrane/classfile/ClassFileVersion" = some m.cls := findClass_of_methodNamed Bd.named
  have hnm := (name_of_methodNamed Bd.named Bd.method).1
  have X0 : Stand p l e ({ frames := 1, cells := 4, slots := 112, locals := 14 } : Room) (s.setVm s.vm) m #[(.ref a1), (.int p1), (.int p2)] below meth c s₁ [] 0 0 := Stand.of_body Bd
  have e0 : s₁.heap = h0 := by rw [← hh, Bd.state]; rfl
  have N0 := Fr.nil n0
  obtain ⟨A0, hA0⟩ : ∃ z, z = s₁.setTop (entryFrame m #[(.ref a1), (.int p1), (.int p2)] 3) := ⟨_, rfl⟩
  have K : OGo p e below A0 s₁ (mkF m 0 #[rv a1, iv p1, iv p2] []) := fun t k => hA0 ▸ castTop (ef_1 m a1 p1 p2) k
  have hS0 : s.Since s.vm 0 := (State.WarmedH.refl s).since 0
  have hk0 : 0 ≤ h0.size := Nat.zero_le _
  replace K : OGo p e below A0 s₁ (mkF m 1 #[rv a1, iv p1, iv p2] [(.ref a1)]) := fun t k => K t (XS.aloadN X0.here hx rfl (hb hby d1_0) rfl rfl k)
  obtain ⟨T1, X1, e1, st1⟩ := initO X0 hx hZ hown (ow hw 7 rfl) (ow hw 8 rfl) (ow hw 9 rfl) e0 (g := (mkF m 1 #[rv a1, iv p1, iv p2] [(.ref a1)])) rfl (by rw [hml]; rfl) rfl (hb hby d1_1) (by decide) (W := 0) (by show 2 * 0 + _ ≤ _; exact Nat.le_of_eq rfl) (by decide)
  replace K : OGo p e below A0 T1 (mkF m 4 #[rv a1, iv p1, iv p2] []) := fun t k => K t (st1 t k)
  replace K : OGo p e below A0 T1 (mkF m 5 #[rv a1, iv p1, iv p2] [(.ref a1)]) := fun t k => K t (XS.aloadN X1.here hx rfl (hb hby d1_4) rfl rfl k)
  obtain ⟨r2, T2, h2, kk2, X2, e2, E2, hS2, hkk2, hZ, hown, st2⟩ := ldcS X1 hx hZ hown (ow hw 10 rfl) (own_strw hw) e1 hS0 hk0 (g := (mkF m 5 #[rv a1, iv p1, iv p2] [(.ref a1)])) rfl (hb hby d1_5) (n := 52) (by decide) (by decide) (by decide) (by decide)
  have Z2 : n0 ≤ h2.size := Nat.le_trans Z0 E2.1
  have hk2 := Nat.le_trans hk0 E2.1
  have Kp2 : Keep h0 h2 [a1] := (Keep.refl h0 [a1]).ext E2
  replace K : OGo p e below A0 T2 (mkF m 7 #[rv a1, iv p1, iv p2] [(.ref r2), (.ref a1)]) := fun t k => K t (st2 t k)
  replace K : OGo p e below A0 T2 (mkF m 8 #[rv a1, iv p1, iv p2] [(.int p1), (.ref r2), (.ref a1)]) := fun t k => K t (XS.iloadN X2.here hx rfl (hb hby d1_7) rfl k)
  obtain ⟨_, _, ⟨T3, L3, k3, n3⟩, -, X3, ⟨Lc3, hQ3, l3, y3, z3⟩, st3⟩ := Jvm.LawKit.callS X2 hx (y := mN0) hown (mvT hZ (ow hw 18 rfl)) (mvT hZ (ow hw 19 rfl)) (mvT hZ (ow hw 3 rfl)) (mvT hZ (ow hw 20 rfl)) (by decide) (backOf (W := 1) (rm_req l Z a0 hw [] r2 p1 h2 n0 Z2 hu1) hZ (ow hw 20 rfl) (ow hw 3 rfl) (by decide) (by decide)) (g := (mkF m 8 #[rv a1, iv p1, iv p2] [(.int p1), (.ref r2), (.ref a1)])) rfl (by rw [hml]; rfl) (argsL := [(.ref r2), (.int p1)]) (rest := [(.ref a1)]) (lenOf pd__Ljava_lang_String_I_I rfl) rfl (by show 2 * 0 + _ ≤ _; exact Nat.le_of_eq rfl) (hb hby d1_8) (fun _ _ => ⟨rfl, e2, (by decide : 2 + 0 ≤ _), (by decide : 56 + 0 ≤ _)⟩)
  dsimp only [Pt.U, Pt.locs, Pt.cells, Pt.slots] at X3 l3 y3 z3 st3 hQ3
  subst l3 y3 z3
  obtain ⟨rfl, Nq3, e3⟩ := hQ3
  have N3 := Fr.app N0 Nq3
  replace K : OGo p e below A0 T3 (mkF m 11 #[rv a1, iv p1, iv p2] [(.int p1), (.ref a1)]) := fun t k => K t (st3 t k)
  have F_major_a1_4 := (F_major_a1.ext E2)
  have E_a1_5 := (E_a1.ext E2)
  obtain ⟨T6, h6, X6, e6, W6, st6⟩ := putF X3 hx hZ hown (host := "") (Or.inl (ow hw 22 rfl)) Via.refl e3 F_major_a1_4 E_a1_5 (Or.inr ⟨(ow hw 23 rfl), rfl, hnm⟩) (ow hw 2 rfl) (ty := .int) (by decide) rfl rfl (g := (mkF m 11 #[rv a1, iv p1, iv p2] [(.int p1), (.ref a1)])) rfl rfl (hb hby d1_11)
  have Z6 : n0 ≤ h6.size := Nat.le_trans Z2 (Keep.of_wr W6).1
  have hk6 := Nat.le_trans hkk2 (Keep.of_wr W6).1
  have Kp6 : Keep h0 h6 [a1] := Kp2.wr W6 (Or.inl (List.mem_of_getElem? (i := 0) rfl))
  have F_major_a1_6 := F_major_a1_4.same W6
  have N6 := Fr.snoc X6 N3 g_a1
  replace K : OGo p e below A0 T6 (mkF m 14 #[rv a1, iv p1, iv p2] []) := fun t k => K t (st6 t k)
  replace K : OGo p e below A0 T6 (mkF m 15 #[rv a1, iv p1, iv p2] [(.ref a1)]) := fun t k => K t (XS.aloadN X6.here hx rfl (hb hby d1_14) rfl rfl k)
  obtain ⟨r7, T7, h7, kk7, X7, e7, E7, hS7, hkk7, hZ, hown, st7⟩ := ldcS X6 hx hZ hown (ow hw 24 rfl) (own_strw hw) e6 hS2 hk6 (g := (mkF m 15 #[rv a1, iv p1, iv p2] [(.ref a1)])) rfl (hb hby d1_15) (n := 52) (by decide) (by decide) (by decide) (by decide)
  have Z7 : n0 ≤ h7.size := Nat.le_trans Z6 E7.1
  have hk7 := Nat.le_trans hk6 E7.1
  have Kp7 : Keep h0 h7 [a1] := Kp6.ext E7
  replace K : OGo p e below A0 T7 (mkF m 17 #[rv a1, iv p1, iv p2] [(.ref r7), (.ref a1)]) := fun t k => K t (st7 t k)
  replace K : OGo p e below A0 T7 (mkF m 18 #[rv a1, iv p1, iv p2] [(.int p2), (.ref r7), (.ref a1)]) := fun t k => K t (XS.iloadN X7.here hx rfl (hb hby d1_17) rfl k)
  obtain ⟨_, _, ⟨T8, L8, k8, n8⟩, -, X8, ⟨Lc8, hQ8, l8, y8, z8⟩, st8⟩ := Jvm.LawKit.callS X7 hx (y := mN0) hown (mvT hZ (ow hw 18 rfl)) (mvT hZ (ow hw 19 rfl)) (mvT hZ (ow hw 3 rfl)) (mvT hZ (ow hw 20 rfl)) (by decide) (backOf (W := 1) (rm_req l Z a0 hw [] r7 p2 h7 n0 Z7 hu2) hZ (ow hw 20 rfl) (ow hw 3 rfl) (by decide) (by decide)) (g := (mkF m 18 #[rv a1, iv p1, iv p2] [(.int p2), (.ref r7), (.ref a1)])) rfl (by rw [hml]; rfl) (argsL := [(.ref r7), (.int p2)]) (rest := [(.ref a1)]) (lenOf pd__Ljava_lang_String_I_I rfl) rfl (by show 2 * 0 + _ ≤ _; exact Nat.le_of_eq rfl) (hb hby d1_18) (fun _ _ => ⟨rfl, e7, (by decide : 4 + 0 ≤ _), (by decide : 112 + 0 ≤ _)⟩)
  dsimp only [Pt.U, Pt.locs, Pt.cells, Pt.slots] at X8 l8 y8 z8 st8 hQ8
  subst l8 y8 z8
  obtain ⟨rfl, Nq8, e8⟩ := hQ8
  have N8 := Fr.app N6 Nq8
  replace K : OGo p e below A0 T8 (mkF m 21 #[rv a1, iv p1, iv p2] [(.int p2), (.ref a1)]) := fun t k => K t (st8 t k)
  have F_minor_a1_9 := (((F_minor_a1.ext E2).other W6 (Or.inr (sn_cN0_minor_major hw))).ext E7)
  have E_a1_10 := ((E_a1_5.wr W6).ext E7)
  obtain ⟨T11, h11, X11, e11, W11, st11⟩ := putF X8 hx hZ hown (host := "") (Or.inl (ow hw 25 rfl)) Via.refl e8 F_minor_a1_9 E_a1_10 (Or.inr ⟨(ow hw 26 rfl), rfl, hnm⟩) (ow hw 2 rfl) (ty := .int) (by decide) rfl rfl (g := (mkF m 21 #[rv a1, iv p1, iv p2] [(.int p2), (.ref a1)])) rfl rfl (hb hby d1_21)
  have Z11 : n0 ≤ h11.size := Nat.le_trans Z7 (Keep.of_wr W11).1
  have hk11 := Nat.le_trans hkk7 (Keep.of_wr W11).1
  have Kp11 : Keep h0 h11 [a1] := Kp7.wr W11 (Or.inl (List.mem_of_getElem? (i := 0) rfl))
  have F_minor_a1_11 := F_minor_a1_9.same W11
  have N11 := Fr.snoc X11 N8 g_a1
  replace K : OGo p e below A0 T11 (mkF m 24 #[rv a1, iv p1, iv p2] []) := fun t k => K t (st11 t k)
  have F_major_a1_12 := ((F_major_a1_6.ext E7).other W11 (Or.inr (sn_cN0_major_minor hw)))
  obtain ⟨fs, hr, hrun, hended, hRW⟩ := X11.leaveW hS7 (by rw [e11]; exact hk11) (v := none) (fun _ => rfl)
  subst hA0
  refine ⟨_, _, K _ (X11.returnOut hx Bd.returns (hb hby d1_24) hr), hrun, hended, _, _, rfl, ?_, hRW.1, hRW.2.1, hRW.2.2.1, hRW.2.2.2.mono (by decide) (by decide)⟩
  show Q_init Z a1 p1 p2 h0 n0 _ T11.heap _
  rw [e11]
  exact ⟨rfl, N11, Kp11, F_major_a1_12, F_minor_a1_11⟩
theorem pn_com_example_bytecrane_bytecrane_classfile_ClassFileVersionIsSupportedPinLaw : plainName "com/example/bytecrane/bytecrane/classfile/ClassFileVersionIsSupportedPinLaw" = true := by first | (simp [plainName, overriddenIn]; done) | decide +kernel
theorem ef_4 (m : MethodId) (x0 : Int32) (x1 : Int32) : entryFrame m #[(.int x0), (.int x1)] 2 = mkF m 0 #[.val (.int x0), .val (.int x1)] [] := by first | (simp [entryFrame, mkF, argsToLocals, Value.category]; done) | rfl
theorem d4_0 : decode method_3_code 0 = .ok (.iload_n 0, 1) := by decide +kernel
theorem d4_1 : decode method_3_code 1 = .ok (.bipush 45, 2) := by decide +kernel
theorem d4_3 : decode method_3_code 3 = .ok (.if_icmp .ge 5, 3) := by decide +kernel
theorem d4_6 : decode method_3_code 6 = .ok (.iconst 0, 1) := by decide +kernel
theorem d4_7 : decode method_3_code 7 = .ok (.ireturn, 1) := by decide +kernel
theorem d4_8 : decode method_3_code 8 = .ok (.iload_n 0, 1) := by decide +kernel
theorem d4_9 : decode method_3_code 9 = .ok (.bipush 63, 2) := by decide +kernel
theorem d4_11 : decode method_3_code 11 = .ok (.if_icmp .le 5, 3) := by decide +kernel
theorem d4_14 : decode method_3_code 14 = .ok (.iconst 0, 1) := by decide +kernel
theorem d4_15 : decode method_3_code 15 = .ok (.ireturn, 1) := by decide +kernel
theorem d4_16 : decode method_3_code 16 = .ok (.iload_n 0, 1) := by decide +kernel
theorem d4_17 : decode method_3_code 17 = .ok (.bipush 56, 2) := by decide +kernel
theorem d4_19 : decode method_3_code 19 = .ok (.if_icmp .ge 5, 3) := by decide +kernel
theorem d4_22 : decode method_3_code 22 = .ok (.iconst 1, 1) := by decide +kernel
theorem d4_23 : decode method_3_code 23 = .ok (.ireturn, 1) := by decide +kernel
theorem d4_24 : decode method_3_code 24 = .ok (.iload_n 1, 1) := by decide +kernel
theorem d4_25 : decode method_3_code 25 = .ok (.ifCond .ne 7, 3) := by decide +kernel
theorem d4_28 : decode method_3_code 28 = .ok (.iconst 1, 1) := by decide +kernel
theorem d4_29 : decode method_3_code 29 = .ok (.goto 4, 3) := by decide +kernel
theorem d4_33 : decode method_3_code 33 = .ok (.ireturn, 1) := by decide +kernel
theorem d4_32 : decode method_3_code 32 = .ok (.iconst 0, 1) := by decide +kernel
def Q_exp (Z : State) (p1 : Int32) (p2 : Int32) (h0 : Heap) (n0 : Nat) (v : Option Value) (h : Heap) (L : List Loc) : Prop := v = some (.int (own_sup p1 p2)) ∧ Fr n0 L ∧ h = h0
set_option maxRecDepth 65536 in
set_option maxHeartbeats 40000000 in
theorem rm_exp (l : Launch) (Z : State) (a0 : Array Value) (hw : ∀ d ∈ tables_1, d.before a0 Z = true) (ws : List Jvm.Cond) (p1 : Int32) (p2 : Int32) (h0 : Heap) (n0 : Nat) (Z0 : n0 ≤ h0.size) :
    MetFree l mN2 (head1 (Jvm.Cond.code mN2 method_3_code 2 (some .boolean) :: ws) ({ frames := 0, cells := 0, slots := 0, locals := 0 } : Room)) (fun a U => a = #[(.int p1), (.int p2)] ∧ Z.Warmed39 U.vm ∧ U.heap = h0) (fun _ _ _ _ _ => True) (fun _ U o U' => ∃ v L, o = .returned v ∧ Q_exp Z p1 p2 h0 n0 v U'.heap L ∧ FrameEnd U o U' L ({ frames := 0, cells := 0, slots := 0, locals := 0 } : Room).cells ({ frames := 0, cells := 0, slots := 0, locals := 0 } : Room).slots) := by
  refine MetFree.of_bodySF (plainFor_of_name pn_com_example_bytecrane_bytecrane_classfile_ClassFileVersionIsSupportedPinLaw) hisR ?_
  intro p e s m args below meth c s₁ Bd hml0 hP hK
  obtain ⟨rfl, hZ, hh⟩ := hP
  have hx := Bd.exec
  have hby := Bd.bytes
  have hml : c.maxLocals = 2 := hml0
  have hown : s.vm.findClass "com/example/bytecrane/bytecrane/classfile/ClassFileVersionIsSupportedPinLaw" = some m.cls := findClass_of_methodNamed Bd.named
  have hnm := (name_of_methodNamed Bd.named Bd.method).1
  have X0 : Stand p l e ({ frames := 0, cells := 0, slots := 0, locals := 0 } : Room) s m #[(.int p1), (.int p2)] below meth c s₁ [] 0 0 := Stand.of_body Bd
  have e0 : s₁.heap = h0 := by rw [← hh, Bd.state]; rfl
  have N0 := Fr.nil n0
  obtain ⟨A0, hA0⟩ : ∃ z, z = s₁.setTop (entryFrame m #[(.int p1), (.int p2)] 2) := ⟨_, rfl⟩
  have K : OGo p e below A0 s₁ (mkF m 0 #[iv p1, iv p2] []) := fun t k => hA0 ▸ castTop (ef_4 m p1 p2) k
  replace K : OGo p e below A0 s₁ (mkF m 1 #[iv p1, iv p2] [(.int p1)]) := fun t k => K t (XS.iloadN X0.here hx rfl (hb hby d4_0) rfl k)
  replace K : OGo p e below A0 s₁ (mkF m 3 #[iv p1, iv p2] [(.int 45), (.int p1)]) := fun t k => K t (XS.bipush X0.here hx rfl (hb hby d4_1) k)
  by_cases hc3 : p1 < (45 : Int32)
  · replace K : OGo p e below A0 s₁ (mkF m 6 #[iv p1, iv p2] []) := fun t k => K t (XS.icmpNo X0.here hx rfl (hb hby d4_3) rfl (tlt hc3).2.1 k)
    replace K : OGo p e below A0 s₁ (mkF m 7 #[iv p1, iv p2] [(.int 0)]) := fun t k => K t (XS.iconst X0.here hx rfl (hb hby d4_6) k)
    obtain ⟨fs, hr, hrun, hended, hW, hsame⟩ := X0.leave (v := some (.int (0 : Int32))) (fun h => by rw [Bd.returns] at h; cases h)
    subst hA0
    refine ⟨_, _, K _ (retN X0 hx (t := .boolean) Bd.returns (by simp) (hb hby d4_7) hr), hrun, hended, _, _, rfl, ?_, ⟨_, rfl⟩, hW, hsame.mono (by decide) (by decide)⟩
    show Q_exp Z p1 p2 h0 n0 _ s₁.heap _
    rw [e0]
    exact ⟨(by simp [own_sup, hc3]), N0, rfl⟩
  · replace K : OGo p e below A0 s₁ (mkF m 8 #[iv p1, iv p2] []) := fun t k => K t (XS.icmpYes X0.here hx rfl (pc0 := 3) (pc' := 8) rfl (hb hby d4_3) rfl (flt hc3).2.1 (by decide) (by decide) k)
    replace K : OGo p e below A0 s₁ (mkF m 9 #[iv p1, iv p2] [(.int p1)]) := fun t k => K t (XS.iloadN X0.here hx rfl (hb hby d4_8) rfl k)
    replace K : OGo p e below A0 s₁ (mkF m 11 #[iv p1, iv p2] [(.int 63), (.int p1)]) := fun t k => K t (XS.bipush X0.here hx rfl (hb hby d4_9) k)
    by_cases hc11 : (63 : Int32) < p1
    · replace K : OGo p e below A0 s₁ (mkF m 14 #[iv p1, iv p2] []) := fun t k => K t (XS.icmpNo X0.here hx rfl (hb hby d4_11) rfl (tlt hc11).2.2.2 k)
      replace K : OGo p e below A0 s₁ (mkF m 15 #[iv p1, iv p2] [(.int 0)]) := fun t k => K t (XS.iconst X0.here hx rfl (hb hby d4_14) k)
      obtain ⟨fs, hr, hrun, hended, hW, hsame⟩ := X0.leave (v := some (.int (0 : Int32))) (fun h => by rw [Bd.returns] at h; cases h)
      subst hA0
      refine ⟨_, _, K _ (retN X0 hx (t := .boolean) Bd.returns (by simp) (hb hby d4_15) hr), hrun, hended, _, _, rfl, ?_, ⟨_, rfl⟩, hW, hsame.mono (by decide) (by decide)⟩
      show Q_exp Z p1 p2 h0 n0 _ s₁.heap _
      rw [e0]
      exact ⟨(by simp [own_sup, hc3, hc11]), N0, rfl⟩
    · replace K : OGo p e below A0 s₁ (mkF m 16 #[iv p1, iv p2] []) := fun t k => K t (XS.icmpYes X0.here hx rfl (pc0 := 11) (pc' := 16) rfl (hb hby d4_11) rfl (flt hc11).2.2.2 (by decide) (by decide) k)
      replace K : OGo p e below A0 s₁ (mkF m 17 #[iv p1, iv p2] [(.int p1)]) := fun t k => K t (XS.iloadN X0.here hx rfl (hb hby d4_16) rfl k)
      replace K : OGo p e below A0 s₁ (mkF m 19 #[iv p1, iv p2] [(.int 56), (.int p1)]) := fun t k => K t (XS.bipush X0.here hx rfl (hb hby d4_17) k)
      by_cases hc19 : p1 < (56 : Int32)
      · replace K : OGo p e below A0 s₁ (mkF m 22 #[iv p1, iv p2] []) := fun t k => K t (XS.icmpNo X0.here hx rfl (hb hby d4_19) rfl (tlt hc19).2.1 k)
        replace K : OGo p e below A0 s₁ (mkF m 23 #[iv p1, iv p2] [(.int 1)]) := fun t k => K t (XS.iconst X0.here hx rfl (hb hby d4_22) k)
        obtain ⟨fs, hr, hrun, hended, hW, hsame⟩ := X0.leave (v := some (.int (1 : Int32))) (fun h => by rw [Bd.returns] at h; cases h)
        subst hA0
        refine ⟨_, _, K _ (retN X0 hx (t := .boolean) Bd.returns (by simp) (hb hby d4_23) hr), hrun, hended, _, _, rfl, ?_, ⟨_, rfl⟩, hW, hsame.mono (by decide) (by decide)⟩
        show Q_exp Z p1 p2 h0 n0 _ s₁.heap _
        rw [e0]
        exact ⟨(by simp [own_sup, hc3, hc11, hc19]), N0, rfl⟩
      · replace K : OGo p e below A0 s₁ (mkF m 24 #[iv p1, iv p2] []) := fun t k => K t (XS.icmpYes X0.here hx rfl (pc0 := 19) (pc' := 24) rfl (hb hby d4_19) rfl (flt hc19).2.1 (by decide) (by decide) k)
        replace K : OGo p e below A0 s₁ (mkF m 25 #[iv p1, iv p2] [(.int p2)]) := fun t k => K t (XS.iloadN X0.here hx rfl (hb hby d4_24) rfl k)
        by_cases hc25 : p2 = (0 : Int32)
        · replace K : OGo p e below A0 s₁ (mkF m 28 #[iv p1, iv p2] []) := fun t k => K t (XS.ifNo X0.here hx rfl (hb hby d4_25) rfl ((if0 _ _).trans (teq hc25).2) k)
          replace K : OGo p e below A0 s₁ (mkF m 29 #[iv p1, iv p2] [(.int 1)]) := fun t k => K t (XS.iconst X0.here hx rfl (hb hby d4_28) k)
          replace K : OGo p e below A0 s₁ (mkF m 33 #[iv p1, iv p2] [(.int 1)]) := fun t k => K t (XS.goto X0.here hx rfl (pc0 := 29) (pc' := 33) rfl (hb hby d4_29) (by decide) (by decide) k)
          obtain ⟨fs, hr, hrun, hended, hW, hsame⟩ := X0.leave (v := some (.int (1 : Int32))) (fun h => by rw [Bd.returns] at h; cases h)
          subst hA0
          refine ⟨_, _, K _ (retN X0 hx (t := .boolean) Bd.returns (by simp) (hb hby d4_33) hr), hrun, hended, _, _, rfl, ?_, ⟨_, rfl⟩, hW, hsame.mono (by decide) (by decide)⟩
          show Q_exp Z p1 p2 h0 n0 _ s₁.heap _
          rw [e0]
          exact ⟨(by simp [own_sup, hc3, hc11, hc19, hc25]), N0, rfl⟩
        · replace K : OGo p e below A0 s₁ (mkF m 32 #[iv p1, iv p2] []) := fun t k => K t (XS.ifYes X0.here hx rfl (pc0 := 25) (pc' := 32) rfl (hb hby d4_25) rfl ((if0 _ _).trans (feq hc25).2) (by decide) (by decide) k)
          replace K : OGo p e below A0 s₁ (mkF m 33 #[iv p1, iv p2] [(.int 0)]) := fun t k => K t (XS.iconst X0.here hx rfl (hb hby d4_32) k)
          obtain ⟨fs, hr, hrun, hended, hW, hsame⟩ := X0.leave (v := some (.int (0 : Int32))) (fun h => by rw [Bd.returns] at h; cases h)
          subst hA0
          refine ⟨_, _, K _ (retN X0 hx (t := .boolean) Bd.returns (by simp) (hb hby d4_33) hr), hrun, hended, _, _, rfl, ?_, ⟨_, rfl⟩, hW, hsame.mono (by decide) (by decide)⟩
          show Q_exp Z p1 p2 h0 n0 _ s₁.heap _
          rw [e0]
          exact ⟨(by simp [own_sup, hc3, hc11, hc19, hc25]), N0, rfl⟩
theorem ef_5 (m : MethodId) (x0 : Addr) : entryFrame m #[(.ref x0)] 2 = mkF m 0 #[.val (.ref x0), .unset] [] := by first | (simp [entryFrame, mkF, argsToLocals, Value.category]; done) | rfl
theorem d5_0 : decode prog_12_method_6_code 0 = .ok (.aload_n 0, 1) := by decide +kernel
theorem d5_1 : decode prog_12_method_6_code 1 = .ok (.getfield 15, 3) := by decide +kernel
theorem d5_4 : decode prog_12_method_6_code 4 = .ok (.bipush 45, 2) := by decide +kernel
theorem d5_6 : decode prog_12_method_6_code 6 = .ok (.if_icmp .lt 12, 3) := by decide +kernel
theorem d5_18 : decode prog_12_method_6_code 18 = .ok (.iconst 0, 1) := by decide +kernel
theorem d5_19 : decode prog_12_method_6_code 19 = .ok (.istore_n 1, 1) := by decide +kernel
theorem d5_20 : decode prog_12_method_6_code 20 = .ok (.goto 30, 3) := by decide +kernel
theorem d5_50 : decode prog_12_method_6_code 50 = .ok (.iload_n 1, 1) := by decide +kernel
theorem d5_51 : decode prog_12_method_6_code 51 = .ok (.ireturn, 1) := by decide +kernel
theorem d5_9 : decode prog_12_method_6_code 9 = .ok (.aload_n 0, 1) := by decide +kernel
theorem d5_10 : decode prog_12_method_6_code 10 = .ok (.getfield 15, 3) := by decide +kernel
theorem d5_13 : decode prog_12_method_6_code 13 = .ok (.bipush 63, 2) := by decide +kernel
theorem d5_15 : decode prog_12_method_6_code 15 = .ok (.if_icmp .le 8, 3) := by decide +kernel
theorem d5_23 : decode prog_12_method_6_code 23 = .ok (.aload_n 0, 1) := by decide +kernel
theorem d5_24 : decode prog_12_method_6_code 24 = .ok (.getfield 15, 3) := by decide +kernel
theorem d5_27 : decode prog_12_method_6_code 27 = .ok (.bipush 55, 2) := by decide +kernel
theorem d5_29 : decode prog_12_method_6_code 29 = .ok (.if_icmp .gt 8, 3) := by decide +kernel
theorem d5_37 : decode prog_12_method_6_code 37 = .ok (.aload_n 0, 1) := by decide +kernel
theorem d5_38 : decode prog_12_method_6_code 38 = .ok (.getfield 21, 3) := by decide +kernel
theorem d5_41 : decode prog_12_method_6_code 41 = .ok (.ifCond .ne 7, 3) := by decide +kernel
theorem d5_44 : decode prog_12_method_6_code 44 = .ok (.iconst 1, 1) := by decide +kernel
theorem d5_45 : decode prog_12_method_6_code 45 = .ok (.goto 4, 3) := by decide +kernel
theorem d5_49 : decode prog_12_method_6_code 49 = .ok (.istore_n 1, 1) := by decide +kernel
theorem d5_48 : decode prog_12_method_6_code 48 = .ok (.iconst 0, 1) := by decide +kernel
theorem d5_32 : decode prog_12_method_6_code 32 = .ok (.iconst 1, 1) := by decide +kernel
theorem d5_33 : decode prog_12_method_6_code 33 = .ok (.istore_n 1, 1) := by decide +kernel
theorem d5_34 : decode prog_12_method_6_code 34 = .ok (.goto 16, 3) := by decide +kernel
def Q_sup (Z : State) (a1 : Addr) (mj : Int32) (mn : Int32) (h0 : Heap) (n0 : Nat) (v : Option Value) (h : Heap) (L : List Loc) : Prop := v = some (.int (own_sup mj mn)) ∧ Fr n0 L ∧ h = h0
set_option maxRecDepth 65536 in
set_option maxHeartbeats 40000000 in
theorem rm_sup (l : Launch) (Z : State) (a0 : Array Value) (hw : ∀ d ∈ tables_1, d.before a0 Z = true) (ws : List Jvm.Cond) (a1 : Addr) (mj : Int32) (mn : Int32) (h0 : Heap) (n0 : Nat) (Z0 : n0 ≤ h0.size) (F_major_a1 : Fld Z h0 a1 cN0 "major" "I" (.int mj)) (F_minor_a1 : Fld Z h0 a1 cN0 "minor" "I" (.int mn)) :
    MetFree l mN3 (head1 (Jvm.Cond.code mN3 prog_12_method_6_code 2 (some .boolean) :: ws) ({ frames := 0, cells := 0, slots := 0, locals := 0 } : Room)) (fun a U => a = #[(.ref a1)] ∧ Z.Warmed39 U.vm ∧ U.heap = h0) (fun _ _ _ _ _ => True) (fun _ U o U' => ∃ v L, o = .returned v ∧ Q_sup Z a1 mj mn h0 n0 v U'.heap L ∧ FrameEnd U o U' L ({ frames := 0, cells := 0, slots := 0, locals := 0 } : Room).cells ({ frames := 0, cells := 0, slots := 0, locals := 0 } : Room).slots) := by
  refine MetFree.of_bodySF (plainFor_of_name pn_com_example_bytecrane_bytecrane_classfile_ClassFileVersion) hisR ?_
  intro p e s m args below meth c s₁ Bd hml0 hP hK
  obtain ⟨rfl, hZ, hh⟩ := hP
  have hx := Bd.exec
  have hby := Bd.bytes
  have hml : c.maxLocals = 2 := hml0
  have hown : s.vm.findClass "com/example/bytecrane/bytecrane/classfile/ClassFileVersion" = some m.cls := findClass_of_methodNamed Bd.named
  have hnm := (name_of_methodNamed Bd.named Bd.method).1
  have X0 : Stand p l e ({ frames := 0, cells := 0, slots := 0, locals := 0 } : Room) s m #[(.ref a1)] below meth c s₁ [] 0 0 := Stand.of_body Bd
  have e0 : s₁.heap = h0 := by rw [← hh, Bd.state]; rfl
  have N0 := Fr.nil n0
  obtain ⟨A0, hA0⟩ : ∃ z, z = s₁.setTop (entryFrame m #[(.ref a1)] 2) := ⟨_, rfl⟩
  have K : OGo p e below A0 s₁ (mkF m 0 #[rv a1, .unset] []) := fun t k => hA0 ▸ castTop (ef_5 m a1) k
  replace K : OGo p e below A0 s₁ (mkF m 1 #[rv a1, .unset] [(.ref a1)]) := fun t k => K t (XS.aloadN X0.here hx rfl (hb hby d5_0) rfl rfl k)
  obtain ⟨T1, X1, e1, st1⟩ := getF X0 hx hZ hown (host := "") (Or.inl (ow hw 22 rfl)) Via.refl e0 F_major_a1 (g := (mkF m 1 #[rv a1, .unset] [(.ref a1)])) rfl rfl (hb hby d5_1)
  replace K : OGo p e below A0 T1 (mkF m 4 #[rv a1, .unset] [(.int mj)]) := fun t k => K t (st1 t k)
  replace K : OGo p e below A0 T1 (mkF m 6 #[rv a1, .unset] [(.int 45), (.int mj)]) := fun t k => K t (XS.bipush X1.here hx rfl (hb hby d5_4) k)
  by_cases hc6 : mj < (45 : Int32)
  · replace K : OGo p e below A0 T1 (mkF m 18 #[rv a1, .unset] []) := fun t k => K t (XS.icmpYes X1.here hx rfl (pc0 := 6) (pc' := 18) rfl (hb hby d5_6) rfl (tlt hc6).1 (by decide) (by decide) k)
    replace K : OGo p e below A0 T1 (mkF m 19 #[rv a1, .unset] [(.int 0)]) := fun t k => K t (XS.iconst X1.here hx rfl (hb hby d5_18) k)
    replace K : OGo p e below A0 T1 (mkF m 20 #[rv a1, iv 0] []) := fun t k => K t (XS.istoreN X1.here hx rfl (hb hby d5_19) rfl (l' := #[rv a1, iv 0]) rfl k)
    replace K : OGo p e below A0 T1 (mkF m 50 #[rv a1, iv 0] []) := fun t k => K t (XS.goto X1.here hx rfl (pc0 := 20) (pc' := 50) rfl (hb hby d5_20) (by decide) (by decide) k)
    replace K : OGo p e below A0 T1 (mkF m 51 #[rv a1, iv 0] [(.int 0)]) := fun t k => K t (XS.iloadN X1.here hx rfl (hb hby d5_50) rfl k)
    obtain ⟨fs, hr, hrun, hended, hW, hsame⟩ := X1.leave (v := some (.int (0 : Int32))) (fun h => by rw [Bd.returns] at h; cases h)
    subst hA0
    refine ⟨_, _, K _ (retN X1 hx (t := .boolean) Bd.returns (by simp) (hb hby d5_51) hr), hrun, hended, _, _, rfl, ?_, ⟨_, rfl⟩, hW, hsame.mono (by decide) (by decide)⟩
    show Q_sup Z a1 mj mn h0 n0 _ T1.heap _
    rw [e1]
    exact ⟨(by simp [own_sup, own_lt56, hc6]), N0, rfl⟩
  · replace K : OGo p e below A0 T1 (mkF m 9 #[rv a1, .unset] []) := fun t k => K t (XS.icmpNo X1.here hx rfl (hb hby d5_6) rfl (flt hc6).1 k)
    replace K : OGo p e below A0 T1 (mkF m 10 #[rv a1, .unset] [(.ref a1)]) := fun t k => K t (XS.aloadN X1.here hx rfl (hb hby d5_9) rfl rfl k)
    obtain ⟨T2, X2, e2, st2⟩ := getF X1 hx hZ hown (host := "") (Or.inl (ow hw 22 rfl)) Via.refl e1 F_major_a1 (g := (mkF m 10 #[rv a1, .unset] [(.ref a1)])) rfl rfl (hb hby d5_10)
    replace K : OGo p e below A0 T2 (mkF m 13 #[rv a1, .unset] [(.int mj)]) := fun t k => K t (st2 t k)
    replace K : OGo p e below A0 T2 (mkF m 15 #[rv a1, .unset] [(.int 63), (.int mj)]) := fun t k => K t (XS.bipush X2.here hx rfl (hb hby d5_13) k)
    by_cases hc15 : (63 : Int32) < mj
    · replace K : OGo p e below A0 T2 (mkF m 18 #[rv a1, .unset] []) := fun t k => K t (XS.icmpNo X2.here hx rfl (hb hby d5_15) rfl (tlt hc15).2.2.2 k)
      replace K : OGo p e below A0 T2 (mkF m 19 #[rv a1, .unset] [(.int 0)]) := fun t k => K t (XS.iconst X2.here hx rfl (hb hby d5_18) k)
      replace K : OGo p e below A0 T2 (mkF m 20 #[rv a1, iv 0] []) := fun t k => K t (XS.istoreN X2.here hx rfl (hb hby d5_19) rfl (l' := #[rv a1, iv 0]) rfl k)
      replace K : OGo p e below A0 T2 (mkF m 50 #[rv a1, iv 0] []) := fun t k => K t (XS.goto X2.here hx rfl (pc0 := 20) (pc' := 50) rfl (hb hby d5_20) (by decide) (by decide) k)
      replace K : OGo p e below A0 T2 (mkF m 51 #[rv a1, iv 0] [(.int 0)]) := fun t k => K t (XS.iloadN X2.here hx rfl (hb hby d5_50) rfl k)
      obtain ⟨fs, hr, hrun, hended, hW, hsame⟩ := X2.leave (v := some (.int (0 : Int32))) (fun h => by rw [Bd.returns] at h; cases h)
      subst hA0
      refine ⟨_, _, K _ (retN X2 hx (t := .boolean) Bd.returns (by simp) (hb hby d5_51) hr), hrun, hended, _, _, rfl, ?_, ⟨_, rfl⟩, hW, hsame.mono (by decide) (by decide)⟩
      show Q_sup Z a1 mj mn h0 n0 _ T2.heap _
      rw [e2]
      exact ⟨(by simp [own_sup, own_lt56, hc6, hc15]), N0, rfl⟩
    · replace K : OGo p e below A0 T2 (mkF m 23 #[rv a1, .unset] []) := fun t k => K t (XS.icmpYes X2.here hx rfl (pc0 := 15) (pc' := 23) rfl (hb hby d5_15) rfl (flt hc15).2.2.2 (by decide) (by decide) k)
      replace K : OGo p e below A0 T2 (mkF m 24 #[rv a1, .unset] [(.ref a1)]) := fun t k => K t (XS.aloadN X2.here hx rfl (hb hby d5_23) rfl rfl k)
      obtain ⟨T3, X3, e3, st3⟩ := getF X2 hx hZ hown (host := "") (Or.inl (ow hw 22 rfl)) Via.refl e2 F_major_a1 (g := (mkF m 24 #[rv a1, .unset] [(.ref a1)])) rfl rfl (hb hby d5_24)
      replace K : OGo p e below A0 T3 (mkF m 27 #[rv a1, .unset] [(.int mj)]) := fun t k => K t (st3 t k)
      replace K : OGo p e below A0 T3 (mkF m 29 #[rv a1, .unset] [(.int 55), (.int mj)]) := fun t k => K t (XS.bipush X3.here hx rfl (hb hby d5_27) k)
      by_cases hc29 : (55 : Int32) < mj
      · replace K : OGo p e below A0 T3 (mkF m 37 #[rv a1, .unset] []) := fun t k => K t (XS.icmpYes X3.here hx rfl (pc0 := 29) (pc' := 37) rfl (hb hby d5_29) rfl (tlt hc29).2.2.1 (by decide) (by decide) k)
        replace K : OGo p e below A0 T3 (mkF m 38 #[rv a1, .unset] [(.ref a1)]) := fun t k => K t (XS.aloadN X3.here hx rfl (hb hby d5_37) rfl rfl k)
        obtain ⟨T4, X4, e4, st4⟩ := getF X3 hx hZ hown (host := "") (Or.inl (ow hw 25 rfl)) Via.refl e3 F_minor_a1 (g := (mkF m 38 #[rv a1, .unset] [(.ref a1)])) rfl rfl (hb hby d5_38)
        replace K : OGo p e below A0 T4 (mkF m 41 #[rv a1, .unset] [(.int mn)]) := fun t k => K t (st4 t k)
        by_cases hc41 : mn = (0 : Int32)
        · replace K : OGo p e below A0 T4 (mkF m 44 #[rv a1, .unset] []) := fun t k => K t (XS.ifNo X4.here hx rfl (hb hby d5_41) rfl ((if0 _ _).trans (teq hc41).2) k)
          replace K : OGo p e below A0 T4 (mkF m 45 #[rv a1, .unset] [(.int 1)]) := fun t k => K t (XS.iconst X4.here hx rfl (hb hby d5_44) k)
          replace K : OGo p e below A0 T4 (mkF m 49 #[rv a1, .unset] [(.int 1)]) := fun t k => K t (XS.goto X4.here hx rfl (pc0 := 45) (pc' := 49) rfl (hb hby d5_45) (by decide) (by decide) k)
          replace K : OGo p e below A0 T4 (mkF m 50 #[rv a1, iv 1] []) := fun t k => K t (XS.istoreN X4.here hx rfl (hb hby d5_49) rfl (l' := #[rv a1, iv 1]) rfl k)
          replace K : OGo p e below A0 T4 (mkF m 51 #[rv a1, iv 1] [(.int 1)]) := fun t k => K t (XS.iloadN X4.here hx rfl (hb hby d5_50) rfl k)
          obtain ⟨fs, hr, hrun, hended, hW, hsame⟩ := X4.leave (v := some (.int (1 : Int32))) (fun h => by rw [Bd.returns] at h; cases h)
          subst hA0
          refine ⟨_, _, K _ (retN X4 hx (t := .boolean) Bd.returns (by simp) (hb hby d5_51) hr), hrun, hended, _, _, rfl, ?_, ⟨_, rfl⟩, hW, hsame.mono (by decide) (by decide)⟩
          show Q_sup Z a1 mj mn h0 n0 _ T4.heap _
          rw [e4]
          exact ⟨(by simp [own_sup, own_lt56, hc6, hc15, hc29, hc41]), N0, rfl⟩
        · replace K : OGo p e below A0 T4 (mkF m 48 #[rv a1, .unset] []) := fun t k => K t (XS.ifYes X4.here hx rfl (pc0 := 41) (pc' := 48) rfl (hb hby d5_41) rfl ((if0 _ _).trans (feq hc41).2) (by decide) (by decide) k)
          replace K : OGo p e below A0 T4 (mkF m 49 #[rv a1, .unset] [(.int 0)]) := fun t k => K t (XS.iconst X4.here hx rfl (hb hby d5_48) k)
          replace K : OGo p e below A0 T4 (mkF m 50 #[rv a1, iv 0] []) := fun t k => K t (XS.istoreN X4.here hx rfl (hb hby d5_49) rfl (l' := #[rv a1, iv 0]) rfl k)
          replace K : OGo p e below A0 T4 (mkF m 51 #[rv a1, iv 0] [(.int 0)]) := fun t k => K t (XS.iloadN X4.here hx rfl (hb hby d5_50) rfl k)
          obtain ⟨fs, hr, hrun, hended, hW, hsame⟩ := X4.leave (v := some (.int (0 : Int32))) (fun h => by rw [Bd.returns] at h; cases h)
          subst hA0
          refine ⟨_, _, K _ (retN X4 hx (t := .boolean) Bd.returns (by simp) (hb hby d5_51) hr), hrun, hended, _, _, rfl, ?_, ⟨_, rfl⟩, hW, hsame.mono (by decide) (by decide)⟩
          show Q_sup Z a1 mj mn h0 n0 _ T4.heap _
          rw [e4]
          exact ⟨(by simp [own_sup, own_lt56, hc6, hc15, hc29, hc41]), N0, rfl⟩
      · replace K : OGo p e below A0 T3 (mkF m 32 #[rv a1, .unset] []) := fun t k => K t (XS.icmpNo X3.here hx rfl (hb hby d5_29) rfl (flt hc29).2.2.1 k)
        replace K : OGo p e below A0 T3 (mkF m 33 #[rv a1, .unset] [(.int 1)]) := fun t k => K t (XS.iconst X3.here hx rfl (hb hby d5_32) k)
        replace K : OGo p e below A0 T3 (mkF m 34 #[rv a1, iv 1] []) := fun t k => K t (XS.istoreN X3.here hx rfl (hb hby d5_33) rfl (l' := #[rv a1, iv 1]) rfl k)
        replace K : OGo p e below A0 T3 (mkF m 50 #[rv a1, iv 1] []) := fun t k => K t (XS.goto X3.here hx rfl (pc0 := 34) (pc' := 50) rfl (hb hby d5_34) (by decide) (by decide) k)
        replace K : OGo p e below A0 T3 (mkF m 51 #[rv a1, iv 1] [(.int 1)]) := fun t k => K t (XS.iloadN X3.here hx rfl (hb hby d5_50) rfl k)
        obtain ⟨fs, hr, hrun, hended, hW, hsame⟩ := X3.leave (v := some (.int (1 : Int32))) (fun h => by rw [Bd.returns] at h; cases h)
        subst hA0
        refine ⟨_, _, K _ (retN X3 hx (t := .boolean) Bd.returns (by simp) (hb hby d5_51) hr), hrun, hended, _, _, rfl, ?_, ⟨_, rfl⟩, hW, hsame.mono (by decide) (by decide)⟩
        show Q_sup Z a1 mj mn h0 n0 _ T3.heap _
        rw [e3]
        exact ⟨(by simp [own_sup, own_lt56, hc6, hc15, hc29]), N0, rfl⟩
theorem ef_0 (m : MethodId) (x0 : Int32) (x1 : Int32) (x2 : Int32) : entryFrame m #[(.int x0), (.int x1), (.int x2)] maxLocals = mkF m 0 #[.val (.int x0), .val (.int x1), .val (.int x2), .unset, .unset, .unset, .unset] [] := by first | (simp [entryFrame, mkF, argsToLocals, Value.category, maxLocals]; done) | rfl
theorem pd__II_V : parseMethodDescriptor "(II)V" = some ⟨[.int, .int], none⟩ := by decide +kernel
theorem pd__II_Z : parseMethodDescriptor "(II)Z" = some ⟨[.int, .int], some .boolean⟩ := by decide +kernel
theorem pd___Z : parseMethodDescriptor "()Z" = some ⟨[], some .boolean⟩ := by decide +kernel
def Q_law (Z : State) (p1 : Int32) (p2 : Int32) (p3 : Int32) (h0 : Heap) (n0 : Nat) (v : Option Value) (h : Heap) (L : List Loc) : Prop := v = some (.int (1 : Int32)) ∧ Fr n0 L
set_option maxRecDepth 65536 in
set_option maxHeartbeats 40000000 in
theorem rm_law (l : Launch) (Z : State) (a0 : Array Value) (hw : ∀ d ∈ tables_1, d.before a0 Z = true) (ws : List Jvm.Cond) (p1 : Int32) (p2 : Int32) (p3 : Int32) (h0 : Heap) (n0 : Nat) (Z0 : n0 ≤ h0.size) :
    MetFree l x (head1 (Jvm.Cond.code x code maxLocals ret :: ws) room_1) (fun a U => a = #[(.int p1), (.int p2), (.int p3)] ∧ Z.Warmed39 U.vm ∧ U.heap = h0) (fun _ _ _ _ _ => True) (fun _ U o U' => ∃ v L, o = .returned v ∧ Q_law Z p1 p2 p3 h0 n0 v U'.heap L ∧ ReturnedEndW U o U' L room_1.cells room_1.slots) := by
  refine MetFree.of_bodySF (plainFor_of_name pn_com_example_bytecrane_bytecrane_classfile_ClassFileVersionIsSupportedPinLaw) hisR ?_
  intro p e s m args below meth c s₁ Bd hml0 hP hK
  obtain ⟨rfl, hZ, hh⟩ := hP
  have hx := Bd.exec
  have hby := Bd.bytes
  have hml : c.maxLocals = 7 := hml0
  have hown : s.vm.findClass "com/example/bytecrane/bytecrane/classfile/ClassFileVersionIsSupportedPinLaw" = some m.cls := findClass_of_methodNamed Bd.named
  have hnm := (name_of_methodNamed Bd.named Bd.method).1
  have X0 : Stand p l e room_1 (s.setVm s.vm) m #[(.int p1), (.int p2), (.int p3)] below meth c s₁ [] 0 0 := Stand.of_body Bd
  have e0 : s₁.heap = h0 := by rw [← hh, Bd.state]; rfl
  have N0 := Fr.nil n0
  obtain ⟨A0, hA0⟩ : ∃ z, z = s₁.setTop (entryFrame m #[(.int p1), (.int p2), (.int p3)] maxLocals) := ⟨_, rfl⟩
  have K : OGo p e below A0 s₁ (mkF m 0 #[iv p1, iv p2, iv p3, .unset, .unset, .unset, .unset] []) := fun t k => hA0 ▸ castTop (ef_0 m p1 p2 p3) k
  have hS0 : s.Since s.vm 0 := (State.WarmedH.refl s).since 0
  have hk0 : 0 ≤ h0.size := Nat.zero_le _
  replace K : OGo p e below A0 s₁ (mkF m 1 #[iv p1, iv p2, iv p3, .unset, .unset, .unset, .unset] [(.int p3)]) := fun t k => K t (XS.iloadN X0.here hx rfl (hb hby at_0) rfl k)
  replace K : OGo p e below A0 s₁ (mkF m 2 #[iv p1, iv p2, iv p3, .unset, .unset, .unset, .unset] [(.int 1), (.int p3)]) := fun t k => K t (XS.iconst X0.here hx rfl (hb hby at_1) k)
  replace K : OGo p e below A0 s₁ (mkF m 3 #[iv p1, iv p2, iv p3, .unset, .unset, .unset, .unset] [(.int (p3 &&& (1 : Int32)))]) := fun t k => K t (XS.iand X0.here hx rfl (hb hby at_2) rfl k)
  by_cases hc3 : (p3 &&& (1 : Int32)) = (0 : Int32)
  · replace K : OGo p e below A0 s₁ (mkF m 17 #[iv p1, iv p2, iv p3, .unset, .unset, .unset, .unset] []) := fun t k => K t (XS.ifYes X0.here hx rfl (pc0 := 3) (pc' := 17) rfl (hb hby at_3) rfl ((if0 _ _).trans (teq hc3).1) (by decide) (by decide) k)
    replace K : OGo p e below A0 s₁ (mkF m 18 #[iv p1, iv p2, iv p3, .unset, .unset, .unset, .unset] [(.int p1)]) := fun t k => K t (XS.iloadN X0.here hx rfl (hb hby at_17) rfl k)
    replace K : OGo p e below A0 s₁ (mkF m 20 #[iv p1, iv p2, iv p3, .unset, .unset, .unset, .unset] [(.int 65535), (.int p1)]) := fun t k => K t (X0.ldcInt hx hown (mvT hZ (ow hw 0 rfl)) (g := (mkF m 18 #[iv p1, iv p2, iv p3, .unset, .unset, .unset, .unset] [(.int p1)])) rfl (hb hby at_18) t k)
    replace K : OGo p e below A0 s₁ (mkF m 21 #[iv p1, iv p2, iv p3, .unset, .unset, .unset, .unset] [(.int (p1 &&& (65535 : Int32)))]) := fun t k => K t (XS.iand X0.here hx rfl (hb hby at_20) rfl k)
    replace K : OGo p e below A0 s₁ (mkF m 22 #[iv p1, iv p2, iv p3, iv (p1 &&& (65535 : Int32)), .unset, .unset, .unset] []) := fun t k => K t (XS.istoreN X0.here hx rfl (hb hby at_21) rfl (l' := #[iv p1, iv p2, iv p3, iv (p1 &&& (65535 : Int32)), .unset, .unset, .unset]) rfl k)
    replace K : OGo p e below A0 s₁ (mkF m 23 #[iv p1, iv p2, iv p3, iv (p1 &&& (65535 : Int32)), .unset, .unset, .unset] [(.int p3)]) := fun t k => K t (XS.iloadN X0.here hx rfl (hb hby at_22) rfl k)
    replace K : OGo p e below A0 s₁ (mkF m 24 #[iv p1, iv p2, iv p3, iv (p1 &&& (65535 : Int32)), .unset, .unset, .unset] [(.int 2), (.int p3)]) := fun t k => K t (XS.iconst X0.here hx rfl (hb hby at_23) k)
    replace K : OGo p e below A0 s₁ (mkF m 25 #[iv p1, iv p2, iv p3, iv (p1 &&& (65535 : Int32)), .unset, .unset, .unset] [(.int (p3 &&& (2 : Int32)))]) := fun t k => K t (XS.iand X0.here hx rfl (hb hby at_24) rfl k)
    by_cases hc25 : (p3 &&& (2 : Int32)) = (0 : Int32)
    · replace K : OGo p e below A0 s₁ (mkF m 34 #[iv p1, iv p2, iv p3, iv (p1 &&& (65535 : Int32)), .unset, .unset, .unset] []) := fun t k => K t (XS.ifYes X0.here hx rfl (pc0 := 25) (pc' := 34) rfl (hb hby at_25) rfl ((if0 _ _).trans (teq hc25).1) (by decide) (by decide) k)
      replace K : OGo p e below A0 s₁ (mkF m 35 #[iv p1, iv p2, iv p3, iv (p1 &&& (65535 : Int32)), .unset, .unset, .unset] [(.int p3)]) := fun t k => K t (XS.iloadN X0.here hx rfl (hb hby at_34) rfl k)
      replace K : OGo p e below A0 s₁ (mkF m 36 #[iv p1, iv p2, iv p3, iv (p1 &&& (65535 : Int32)), .unset, .unset, .unset] [(.int 4), (.int p3)]) := fun t k => K t (XS.iconst X0.here hx rfl (hb hby at_35) k)
      replace K : OGo p e below A0 s₁ (mkF m 37 #[iv p1, iv p2, iv p3, iv (p1 &&& (65535 : Int32)), .unset, .unset, .unset] [(.int (p3 &&& (4 : Int32)))]) := fun t k => K t (XS.iand X0.here hx rfl (hb hby at_36) rfl k)
      by_cases hc37 : (p3 &&& (4 : Int32)) = (0 : Int32)
      · replace K : OGo p e below A0 s₁ (mkF m 47 #[iv p1, iv p2, iv p3, iv (p1 &&& (65535 : Int32)), .unset, .unset, .unset] []) := fun t k => K t (XS.ifYes X0.here hx rfl (pc0 := 37) (pc' := 47) rfl (hb hby at_37) rfl ((if0 _ _).trans (teq hc37).1) (by decide) (by decide) k)
        replace K : OGo p e below A0 s₁ (mkF m 48 #[iv p1, iv p2, iv p3, iv (p1 &&& (65535 : Int32)), .unset, .unset, .unset] [(.int p3)]) := fun t k => K t (XS.iloadN X0.here hx rfl (hb hby at_47) rfl k)
        replace K : OGo p e below A0 s₁ (mkF m 50 #[iv p1, iv p2, iv p3, iv (p1 &&& (65535 : Int32)), .unset, .unset, .unset] [(.int 8), (.int p3)]) := fun t k => K t (XS.bipush X0.here hx rfl (hb hby at_48) k)
        replace K : OGo p e below A0 s₁ (mkF m 51 #[iv p1, iv p2, iv p3, iv (p1 &&& (65535 : Int32)), .unset, .unset, .unset] [(.int (p3 &&& (8 : Int32)))]) := fun t k => K t (XS.iand X0.here hx rfl (hb hby at_50) rfl k)
        by_cases hc51 : (p3 &&& (8 : Int32)) = (0 : Int32)
        · replace K : OGo p e below A0 s₁ (mkF m 62 #[iv p1, iv p2, iv p3, iv (p1 &&& (65535 : Int32)), .unset, .unset, .unset] []) := fun t k => K t (XS.ifYes X0.here hx rfl (pc0 := 51) (pc' := 62) rfl (hb hby at_51) rfl ((if0 _ _).trans (teq hc51).1) (by decide) (by decide) k)
          replace K : OGo p e below A0 s₁ (mkF m 63 #[iv p1, iv p2, iv p3, iv (p1 &&& (65535 : Int32)), .unset, .unset, .unset] [(.int p2)]) := fun t k => K t (XS.iloadN X0.here hx rfl (hb hby at_62) rfl k)
          replace K : OGo p e below A0 s₁ (mkF m 65 #[iv p1, iv p2, iv p3, iv (p1 &&& (65535 : Int32)), .unset, .unset, .unset] [(.int 65535), (.int p2)]) := fun t k => K t (X0.ldcInt hx hown (mvT hZ (ow hw 0 rfl)) (g := (mkF m 63 #[iv p1, iv p2, iv p3, iv (p1 &&& (65535 : Int32)), .unset, .unset, .unset] [(.int p2)])) rfl (hb hby at_63) t k)
          replace K : OGo p e below A0 s₁ (mkF m 66 #[iv p1, iv p2, iv p3, iv (p1 &&& (65535 : Int32)), .unset, .unset, .unset] [(.int (p2 &&& (65535 : Int32)))]) := fun t k => K t (XS.iand X0.here hx rfl (hb hby at_65) rfl k)
          replace K : OGo p e below A0 s₁ (mkF m 68 #[iv p1, iv p2, iv p3, iv (p1 &&& (65535 : Int32)), iv (p2 &&& (65535 : Int32)), .unset, .unset] []) := fun t k => K t (XS.istore X0.here hx rfl (hb hby at_66) rfl (l' := #[iv p1, iv p2, iv p3, iv (p1 &&& (65535 : Int32)), iv (p2 &&& (65535 : Int32)), .unset, .unset]) rfl k)
          obtain ⟨T1, h1, X1, e1, E1, A1, D1, -, st1⟩ := newO X0 hx hZ hown (ow hw 1 rfl) (ow hw 2 rfl) (ow hw 3 rfl) e0 (g := (mkF m 68 #[iv p1, iv p2, iv p3, iv (p1 &&& (65535 : Int32)), iv (p2 &&& (65535 : Int32)), .unset, .unset] [])) rfl (hb hby at_68) (by decide) (by decide)
          obtain ⟨b1, gz1⟩ : ∃ z, z = h0.size := ⟨_, rfl⟩
          rw [← gz1] at A1 D1 st1
          have g_b1 : n0 ≤ b1 := Nat.le_trans Z0 (Nat.le_of_eq gz1.symm)
          have Z1 : n0 ≤ h1.size := Nat.le_trans Z0 E1.1
          have hk1 := Nat.le_trans hk0 E1.1
          have F_major_b1 : Fld Z h1 b1 cN0 "major" "I" (.int (0 : Int32)) := D1 (Or.inr (ow hw 23 rfl)) (ty := .int) (by decide)
          have F_minor_b1 : Fld Z h1 b1 cN0 "minor" "I" (.int (0 : Int32)) := D1 (Or.inr (ow hw 26 rfl)) (ty := .int) (by decide)
          replace K : OGo p e below A0 T1 (mkF m 71 #[iv p1, iv p2, iv p3, iv (p1 &&& (65535 : Int32)), iv (p2 &&& (65535 : Int32)), .unset, .unset] [(.ref b1)]) := fun t k => K t (st1 t k)
          replace K : OGo p e below A0 T1 (mkF m 72 #[iv p1, iv p2, iv p3, iv (p1 &&& (65535 : Int32)), iv (p2 &&& (65535 : Int32)), .unset, .unset] [(.ref b1), (.ref b1)]) := fun t k => K t (XS.dup X1.here hx rfl (hb hby at_71) rfl rfl k)
          replace K : OGo p e below A0 T1 (mkF m 73 #[iv p1, iv p2, iv p3, iv (p1 &&& (65535 : Int32)), iv (p2 &&& (65535 : Int32)), .unset, .unset] [(.int (p1 &&& (65535 : Int32))), (.ref b1), (.ref b1)]) := fun t k => K t (XS.iloadN X1.here hx rfl (hb hby at_72) rfl k)
          replace K : OGo p e below A0 T1 (mkF m 75 #[iv p1, iv p2, iv p3, iv (p1 &&& (65535 : Int32)), iv (p2 &&& (65535 : Int32)), .unset, .unset] [(.int (p2 &&& (65535 : Int32))), (.int (p1 &&& (65535 : Int32))), (.ref b1), (.ref b1)]) := fun t k => K t (XS.iload X1.here hx rfl (hb hby at_73) rfl k)
          obtain ⟨_, _, ⟨T2, L2, k2, n2⟩, -, X2, hSn2, hgr2, ⟨Lc2, hQ2, l2, y2, z2⟩, st2⟩ := X1.specialBackS hx (y := mN1) rfl hown (mvT hZ (ow hw 4 rfl)) (mvT hZ (ow hw 5 rfl)) (mvT hZ (ow hw 6 rfl)) (by decide) (backOfS (W := 1) (rm_init l Z a0 hw [] b1 (p1 &&& (65535 : Int32)) (p2 &&& (65535 : Int32)) h1 n0 Z1 A1 F_major_b1 F_minor_b1 g_b1 (own_u2_16 _) (own_u2_16 _)) hZ (ow hw 6 rfl) (ow hw 3 rfl) (by decide) (by decide)) (g := (mkF m 75 #[iv p1, iv p2, iv p3, iv (p1 &&& (65535 : Int32)), iv (p2 &&& (65535 : Int32)), .unset, .unset] [(.int (p2 &&& (65535 : Int32))), (.int (p1 &&& (65535 : Int32))), (.ref b1), (.ref b1)])) rfl (by rw [hml]; rfl) (Steps.refl _) (a := b1) (argsL := [(.int (p1 &&& (65535 : Int32))), (.int (p2 &&& (65535 : Int32)))]) (rest := [(.ref b1)]) (lenOf pd__II_V rfl) rfl (by show 2 * 0 + _ ≤ _; exact Nat.le_of_eq rfl) (hb hby at_75) (fun _ _ => ⟨rfl, e1, (by decide : 1 + 4 ≤ _), (by decide : 2 + 112 ≤ _)⟩)
          dsimp only [Pt.U, Pt.locs, Pt.cells, Pt.slots] at X2 l2 y2 z2 st2 hQ2 hSn2 hgr2
          subst l2 y2 z2
          have hS2 := foldS (T := T1) hS0 (by rw [e1]; exact hk1) hSn2 hgr2
          replace hown := (hSn2.1.alike.findClass _ _).trans hown
          replace hZ := State.Warmed39.trans hZ hSn2.1
          obtain ⟨hp2, e2⟩ : ∃ z, T2.heap = z := ⟨_, rfl⟩
          rw [e2] at hQ2
          obtain ⟨rfl, Nq2, K2, P2_0, P2_1⟩ := hQ2
          have Z2 : n0 ≤ hp2.size := Nat.le_trans Z1 K2.1
          have hk2 := Nat.le_trans hk1 K2.1
          have hkS2 : T2.heap.size ≤ hp2.size := Nat.le_of_eq (congrArg Array.size e2)
          have N2 := Fr.app N0 Nq2
          replace K : OGo p e below A0 T2 (mkF m 78 #[iv p1, iv p2, iv p3, iv (p1 &&& (65535 : Int32)), iv (p2 &&& (65535 : Int32)), .unset, .unset] [(.ref b1)]) := fun t k => K t (st2.trans k)
          replace K : OGo p e below A0 T2 (mkF m 80 #[iv p1, iv p2, iv p3, iv (p1 &&& (65535 : Int32)), iv (p2 &&& (65535 : Int32)), rv b1, .unset] []) := fun t k => K t (XS.astore X2.here hx rfl (hb hby at_78) rfl rfl (l' := #[iv p1, iv p2, iv p3, iv (p1 &&& (65535 : Int32)), iv (p2 &&& (65535 : Int32)), rv b1, .unset]) rfl k)
          replace K : OGo p e below A0 T2 (mkF m 81 #[iv p1, iv p2, iv p3, iv (p1 &&& (65535 : Int32)), iv (p2 &&& (65535 : Int32)), rv b1, .unset] [(.int (p1 &&& (65535 : Int32)))]) := fun t k => K t (XS.iloadN X2.here hx rfl (hb hby at_80) rfl k)
          replace K : OGo p e below A0 T2 (mkF m 83 #[iv p1, iv p2, iv p3, iv (p1 &&& (65535 : Int32)), iv (p2 &&& (65535 : Int32)), rv b1, .unset] [(.int (p2 &&& (65535 : Int32))), (.int (p1 &&& (65535 : Int32)))]) := fun t k => K t (XS.iload X2.here hx rfl (hb hby at_81) rfl k)
          obtain ⟨_, _, ⟨T3, L3, k3, n3⟩, -, X3, ⟨Lc3, hQ3, l3, y3, z3⟩, st3⟩ := Jvm.LawKit.callS X2 hx (y := mN2) hown (mvT hZ (ow hw 27 rfl)) (mvT hZ (ow hw 28 rfl)) (mvT hZ (ow hw 29 rfl)) (mvT hZ (ow hw 30 rfl)) (by decide) (backOf (W := 0) (rm_exp l Z a0 hw [] (p1 &&& (65535 : Int32)) (p2 &&& (65535 : Int32)) hp2 n0 Z2 ) hZ (ow hw 30 rfl) (ow hw 29 rfl) (by decide) (by decide)) (g := (mkF m 83 #[iv p1, iv p2, iv p3, iv (p1 &&& (65535 : Int32)), iv (p2 &&& (65535 : Int32)), rv b1, .unset] [(.int (p2 &&& (65535 : Int32))), (.int (p1 &&& (65535 : Int32)))])) rfl (by rw [hml]; rfl) (argsL := [(.int (p1 &&& (65535 : Int32))), (.int (p2 &&& (65535 : Int32)))]) (rest := []) (lenOf pd__II_Z rfl) rfl (by show 2 * 0 + _ ≤ _; exact Nat.le_of_eq rfl) (hb hby at_83) (fun _ _ => ⟨rfl, e2, (by decide : 5 + 0 ≤ _), (by decide : 114 + 0 ≤ _)⟩)
          dsimp only [Pt.U, Pt.locs, Pt.cells, Pt.slots] at X3 l3 y3 z3 st3 hQ3
          subst l3 y3 z3
          obtain ⟨rfl, Nq3, e3⟩ := hQ3
          have N3 := Fr.app N2 Nq3
          replace K : OGo p e below A0 T3 (mkF m 86 #[iv p1, iv p2, iv p3, iv (p1 &&& (65535 : Int32)), iv (p2 &&& (65535 : Int32)), rv b1, .unset] [(.int (own_sup (p1 &&& (65535 : Int32)) (p2 &&& (65535 : Int32))))]) := fun t k => K t (st3 t k)
          replace K : OGo p e below A0 T3 (mkF m 88 #[iv p1, iv p2, iv p3, iv (p1 &&& (65535 : Int32)), iv (p2 &&& (65535 : Int32)), rv b1, iv (own_sup (p1 &&& (65535 : Int32)) (p2 &&& (65535 : Int32)))] []) := fun t k => K t (XS.istore X3.here hx rfl (hb hby at_86) rfl (l' := #[iv p1, iv p2, iv p3, iv (p1 &&& (65535 : Int32)), iv (p2 &&& (65535 : Int32)), rv b1, iv (own_sup (p1 &&& (65535 : Int32)) (p2 &&& (65535 : Int32)))]) rfl k)
          replace K : OGo p e below A0 T3 (mkF m 90 #[iv p1, iv p2, iv p3, iv (p1 &&& (65535 : Int32)), iv (p2 &&& (65535 : Int32)), rv b1, iv (own_sup (p1 &&& (65535 : Int32)) (p2 &&& (65535 : Int32)))] [(.ref b1)]) := fun t k => K t (XS.aload X3.here hx rfl (hb hby at_88) rfl rfl k)
          have A1_5 := (A1.keep K2)
          obtain ⟨cq4, kq4, q4a, q4b, q4c⟩ := isOf hZ e3 A1_5
          obtain ⟨_, _, ⟨T4, L4, k4, n4⟩, -, X4, ⟨Lc4, hQ4, l4, y4, z4⟩, st4⟩ := X3.virtualBack hx (y := mN3) (z := mN3) hown (mvT hZ (ow hw 31 rfl)) (mvT hZ (ow hw 32 rfl)) (notFace_of_selects (args := #[]) (mvT hZ (ow hw 34 rfl))) (mvT hZ (ow hw 34 rfl)) (mvT hZ (ow hw 33 rfl)) (by decide) (backOf (W := 0) (rm_sup l Z a0 hw [] b1 (p1 &&& (65535 : Int32)) (p2 &&& (65535 : Int32)) hp2 n0 Z2 P2_0 P2_1) hZ (ow hw 35 rfl) (ow hw 3 rfl) (by decide) (by decide)) q4a q4c (g := (mkF m 90 #[iv p1, iv p2, iv p3, iv (p1 &&& (65535 : Int32)), iv (p2 &&& (65535 : Int32)), rv b1, iv (own_sup (p1 &&& (65535 : Int32)) (p2 &&& (65535 : Int32)))] [(.ref b1)])) rfl (by rw [hml]; rfl) (Steps.refl _) (argsL := []) (rest := []) (lenOf pd___Z rfl) rfl (by show 2 * 0 + _ ≤ _; exact Nat.le_of_eq rfl) (hb hby at_90) (fun _ _ => ⟨rfl, e3, (by decide : 5 + 0 ≤ _), (by decide : 114 + 0 ≤ _)⟩)
          dsimp only [Pt.U, Pt.locs, Pt.cells, Pt.slots] at X4 l4 y4 z4 st4 hQ4
          subst l4 y4 z4
          obtain ⟨rfl, Nq4, e4⟩ := hQ4
          have N4 := Fr.app N3 Nq4
          replace K : OGo p e below A0 T4 (mkF m 93 #[iv p1, iv p2, iv p3, iv (p1 &&& (65535 : Int32)), iv (p2 &&& (65535 : Int32)), rv b1, iv (own_sup (p1 &&& (65535 : Int32)) (p2 &&& (65535 : Int32)))] [(.int (own_sup (p1 &&& (65535 : Int32)) (p2 &&& (65535 : Int32))))]) := fun t k => K t (st4.trans k)
          replace K : OGo p e below A0 T4 (mkF m 95 #[iv p1, iv p2, iv p3, iv (p1 &&& (65535 : Int32)), iv (p2 &&& (65535 : Int32)), rv b1, iv (own_sup (p1 &&& (65535 : Int32)) (p2 &&& (65535 : Int32)))] [(.int (own_sup (p1 &&& (65535 : Int32)) (p2 &&& (65535 : Int32)))), (.int (own_sup (p1 &&& (65535 : Int32)) (p2 &&& (65535 : Int32))))]) := fun t k => K t (XS.iload X4.here hx rfl (hb hby at_93) rfl k)
          replace K : OGo p e below A0 T4 (mkF m 98 #[iv p1, iv p2, iv p3, iv (p1 &&& (65535 : Int32)), iv (p2 &&& (65535 : Int32)), rv b1, iv (own_sup (p1 &&& (65535 : Int32)) (p2 &&& (65535 : Int32)))] []) := fun t k => K t (XS.icmpNo X4.here hx rfl (hb hby at_95) rfl (teq (rfl : (own_sup (p1 &&& (65535 : Int32)) (p2 &&& (65535 : Int32))) = (own_sup (p1 &&& (65535 : Int32)) (p2 &&& (65535 : Int32))))).2 k)
          replace K : OGo p e below A0 T4 (mkF m 99 #[iv p1, iv p2, iv p3, iv (p1 &&& (65535 : Int32)), iv (p2 &&& (65535 : Int32)), rv b1, iv (own_sup (p1 &&& (65535 : Int32)) (p2 &&& (65535 : Int32)))] [(.int 1)]) := fun t k => K t (XS.iconst X4.here hx rfl (hb hby at_98) k)
          replace K : OGo p e below A0 T4 (mkF m 103 #[iv p1, iv p2, iv p3, iv (p1 &&& (65535 : Int32)), iv (p2 &&& (65535 : Int32)), rv b1, iv (own_sup (p1 &&& (65535 : Int32)) (p2 &&& (65535 : Int32)))] [(.int 1)]) := fun t k => K t (XS.goto X4.here hx rfl (pc0 := 99) (pc' := 103) rfl (hb hby at_99) (by decide) (by decide) k)
          obtain ⟨fs, hr, hrun, hended, hRW⟩ := X4.leaveW hS2 (by rw [e4]; exact hkS2) (v := some (.int (1 : Int32))) (fun h => by rw [Bd.returns] at h; cases h)
          subst hA0
          refine ⟨_, _, K _ (retN X4 hx (t := .boolean) Bd.returns (by simp) (hb hby at_103) hr), hrun, hended, _, _, rfl, ?_, hRW.1, hRW.2.1, hRW.2.2.1, hRW.2.2.2.mono (by decide) (by decide)⟩
          show Q_law Z p1 p2 p3 h0 n0 _ T4.heap _
          rw [e4]
          exact ⟨rfl, N4⟩
        · replace K : OGo p e below A0 s₁ (mkF m 54 #[iv p1, iv p2, iv p3, iv (p1 &&& (65535 : Int32)), .unset, .unset, .unset] []) := fun t k => K t (XS.ifNo X0.here hx rfl (hb hby at_51) rfl ((if0 _ _).trans (feq hc51).1) k)
          replace K : OGo p e below A0 s₁ (mkF m 55 #[iv p1, iv p2, iv p3, iv (p1 &&& (65535 : Int32)), .unset, .unset, .unset] [(.int p2)]) := fun t k => K t (XS.iloadN X0.here hx rfl (hb hby at_54) rfl k)
          replace K : OGo p e below A0 s₁ (mkF m 56 #[iv p1, iv p2, iv p3, iv (p1 &&& (65535 : Int32)), .unset, .unset, .unset] [(.int 3), (.int p2)]) := fun t k => K t (XS.iconst X0.here hx rfl (hb hby at_55) k)
          replace K : OGo p e below A0 s₁ (mkF m 57 #[iv p1, iv p2, iv p3, iv (p1 &&& (65535 : Int32)), .unset, .unset, .unset] [(.int (p2 &&& (3 : Int32)))]) := fun t k => K t (XS.iand X0.here hx rfl (hb hby at_56) rfl k)
          replace K : OGo p e below A0 s₁ (mkF m 59 #[iv p1, iv p2, iv p3, iv (p1 &&& (65535 : Int32)), iv (p2 &&& (3 : Int32)), .unset, .unset] []) := fun t k => K t (XS.istore X0.here hx rfl (hb hby at_57) rfl (l' := #[iv p1, iv p2, iv p3, iv (p1 &&& (65535 : Int32)), iv (p2 &&& (3 : Int32)), .unset, .unset]) rfl k)
          replace K : OGo p e below A0 s₁ (mkF m 68 #[iv p1, iv p2, iv p3, iv (p1 &&& (65535 : Int32)), iv (p2 &&& (3 : Int32)), .unset, .unset] []) := fun t k => K t (XS.goto X0.here hx rfl (pc0 := 59) (pc' := 68) rfl (hb hby at_59) (by decide) (by decide) k)
          obtain ⟨T6, h6, X6, e6, E6, A6, D6, -, st6⟩ := newO X0 hx hZ hown (ow hw 1 rfl) (ow hw 2 rfl) (ow hw 3 rfl) e0 (g := (mkF m 68 #[iv p1, iv p2, iv p3, iv (p1 &&& (65535 : Int32)), iv (p2 &&& (3 : Int32)), .unset, .unset] [])) rfl (hb hby at_68) (by decide) (by decide)
          obtain ⟨b6, gz6⟩ : ∃ z, z = h0.size := ⟨_, rfl⟩
          rw [← gz6] at A6 D6 st6
          have g_b6 : n0 ≤ b6 := Nat.le_trans Z0 (Nat.le_of_eq gz6.symm)
          have Z6 : n0 ≤ h6.size := Nat.le_trans Z0 E6.1
          have hk6 := Nat.le_trans hk0 E6.1
          have F_major_b6 : Fld Z h6 b6 cN0 "major" "I" (.int (0 : Int32)) := D6 (Or.inr (ow hw 23 rfl)) (ty := .int) (by decide)
          have F_minor_b6 : Fld Z h6 b6 cN0 "minor" "I" (.int (0 : Int32)) := D6 (Or.inr (ow hw 26 rfl)) (ty := .int) (by decide)
          replace K : OGo p e below A0 T6 (mkF m 71 #[iv p1, iv p2, iv p3, iv (p1 &&& (65535 : Int32)), iv (p2 &&& (3 : Int32)), .unset, .unset] [(.ref b6)]) := fun t k => K t (st6 t k)
          replace K : OGo p e below A0 T6 (mkF m 72 #[iv p1, iv p2, iv p3, iv (p1 &&& (65535 : Int32)), iv (p2 &&& (3 : Int32)), .unset, .unset] [(.ref b6), (.ref b6)]) := fun t k => K t (XS.dup X6.here hx rfl (hb hby at_71) rfl rfl k)
          replace K : OGo p e below A0 T6 (mkF m 73 #[iv p1, iv p2, iv p3, iv (p1 &&& (65535 : Int32)), iv (p2 &&& (3 : Int32)), .unset, .unset] [(.int (p1 &&& (65535 : Int32))), (.ref b6), (.ref b6)]) := fun t k => K t (XS.iloadN X6.here hx rfl (hb hby at_72) rfl k)
          replace K : OGo p e below A0 T6 (mkF m 75 #[iv p1, iv p2, iv p3, iv (p1 &&& (65535 : Int32)), iv (p2 &&& (3 : Int32)), .unset, .unset] [(.int (p2 &&& (3 : Int32))), (.int (p1 &&& (65535 : Int32))), (.ref b6), (.ref b6)]) := fun t k => K t (XS.iload X6.here hx rfl (hb hby at_73) rfl k)
          obtain ⟨_, _, ⟨T7, L7, k7, n7⟩, -, X7, hSn7, hgr7, ⟨Lc7, hQ7, l7, y7, z7⟩, st7⟩ := X6.specialBackS hx (y := mN1) rfl hown (mvT hZ (ow hw 4 rfl)) (mvT hZ (ow hw 5 rfl)) (mvT hZ (ow hw 6 rfl)) (by decide) (backOfS (W := 1) (rm_init l Z a0 hw [] b6 (p1 &&& (65535 : Int32)) (p2 &&& (3 : Int32)) h6 n0 Z6 A6 F_major_b6 F_minor_b6 g_b6 (own_u2_16 _) (own_u2_3 _)) hZ (ow hw 6 rfl) (ow hw 3 rfl) (by decide) (by decide)) (g := (mkF m 75 #[iv p1, iv p2, iv p3, iv (p1 &&& (65535 : Int32)), iv (p2 &&& (3 : Int32)), .unset, .unset] [(.int (p2 &&& (3 : Int32))), (.int (p1 &&& (65535 : Int32))), (.ref b6), (.ref b6)])) rfl (by rw [hml]; rfl) (Steps.refl _) (a := b6) (argsL := [(.int (p1 &&& (65535 : Int32))), (.int (p2 &&& (3 : Int32)))]) (rest := [(.ref b6)]) (lenOf pd__II_V rfl) rfl (by show 2 * 0 + _ ≤ _; exact Nat.le_of_eq rfl) (hb hby at_75) (fun _ _ => ⟨rfl, e6, (by decide : 1 + 4 ≤ _), (by decide : 2 + 112 ≤ _)⟩)
          dsimp only [Pt.U, Pt.locs, Pt.cells, Pt.slots] at X7 l7 y7 z7 st7 hQ7 hSn7 hgr7
          subst l7 y7 z7
          have hS7 := foldS (T := T6) hS0 (by rw [e6]; exact hk6) hSn7 hgr7
          replace hown := (hSn7.1.alike.findClass _ _).trans hown
          replace hZ := State.Warmed39.trans hZ hSn7.1
          obtain ⟨hp7, e7⟩ : ∃ z, T7.heap = z := ⟨_, rfl⟩
          rw [e7] at hQ7
          obtain ⟨rfl, Nq7, K7, P7_0, P7_1⟩ := hQ7
          have Z7 : n0 ≤ hp7.size := Nat.le_trans Z6 K7.1
          have hk7 := Nat.le_trans hk6 K7.1
          have hkS7 : T7.heap.size ≤ hp7.size := Nat.le_of_eq (congrArg Array.size e7)
          have N7 := Fr.app N0 Nq7
          replace K : OGo p e below A0 T7 (mkF m 78 #[iv p1, iv p2, iv p3, iv (p1 &&& (65535 : Int32)), iv (p2 &&& (3 : Int32)), .unset, .unset] [(.ref b6)]) := fun t k => K t (st7.trans k)
          replace K : OGo p e below A0 T7 (mkF m 80 #[iv p1, iv p2, iv p3, iv (p1 &&& (65535 : Int32)), iv (p2 &&& (3 : Int32)), rv b6, .unset] []) := fun t k => K t (XS.astore X7.here hx rfl (hb hby at_78) rfl rfl (l' := #[iv p1, iv p2, iv p3, iv (p1 &&& (65535 : Int32)), iv (p2 &&& (3 : Int32)), rv b6, .unset]) rfl k)
          replace K : OGo p e below A0 T7 (mkF m 81 #[iv p1, iv p2, iv p3, iv (p1 &&& (65535 : Int32)), iv (p2 &&& (3 : Int32)), rv b6, .unset] [(.int (p1 &&& (65535 : Int32)))]) := fun t k => K t (XS.iloadN X7.here hx rfl (hb hby at_80) rfl k)
          replace K : OGo p e below A0 T7 (mkF m 83 #[iv p1, iv p2, iv p3, iv (p1 &&& (65535 : Int32)), iv (p2 &&& (3 : Int32)), rv b6, .unset] [(.int (p2 &&& (3 : Int32))), (.int (p1 &&& (65535 : Int32)))]) := fun t k => K t (XS.iload X7.here hx rfl (hb hby at_81) rfl k)
          obtain ⟨_, _, ⟨T8, L8, k8, n8⟩, -, X8, ⟨Lc8, hQ8, l8, y8, z8⟩, st8⟩ := Jvm.LawKit.callS X7 hx (y := mN2) hown (mvT hZ (ow hw 27 rfl)) (mvT hZ (ow hw 28 rfl)) (mvT hZ (ow hw 29 rfl)) (mvT hZ (ow hw 30 rfl)) (by decide) (backOf (W := 0) (rm_exp l Z a0 hw [] (p1 &&& (65535 : Int32)) (p2 &&& (3 : Int32)) hp7 n0 Z7 ) hZ (ow hw 30 rfl) (ow hw 29 rfl) (by decide) (by decide)) (g := (mkF m 83 #[iv p1, iv p2, iv p3, iv (p1 &&& (65535 : Int32)), iv (p2 &&& (3 : Int32)), rv b6, .unset] [(.int (p2 &&& (3 : Int32))), (.int (p1 &&& (65535 : Int32)))])) rfl (by rw [hml]; rfl) (argsL := [(.int (p1 &&& (65535 : Int32))), (.int (p2 &&& (3 : Int32)))]) (rest := []) (lenOf pd__II_Z rfl) rfl (by show 2 * 0 + _ ≤ _; exact Nat.le_of_eq rfl) (hb hby at_83) (fun _ _ => ⟨rfl, e7, (by decide : 5 + 0 ≤ _), (by decide : 114 + 0 ≤ _)⟩)
          dsimp only [Pt.U, Pt.locs, Pt.cells, Pt.slots] at X8 l8 y8 z8 st8 hQ8
          subst l8 y8 z8
          obtain ⟨rfl, Nq8, e8⟩ := hQ8
          have N8 := Fr.app N7 Nq8
          replace K : OGo p e below A0 T8 (mkF m 86 #[iv p1, iv p2, iv p3, iv (p1 &&& (65535 : Int32)), iv (p2 &&& (3 : Int32)), rv b6, .unset] [(.int (own_sup (p1 &&& (65535 : Int32)) (p2 &&& (3 : Int32))))]) := fun t k => K t (st8 t k)
          replace K : OGo p e below A0 T8 (mkF m 88 #[iv p1, iv p2, iv p3, iv (p1 &&& (65535 : Int32)), iv (p2 &&& (3 : Int32)), rv b6, iv (own_sup (p1 &&& (65535 : Int32)) (p2 &&& (3 : Int32)))] []) := fun t k => K t (XS.istore X8.here hx rfl (hb hby at_86) rfl (l' := #[iv p1, iv p2, iv p3, iv (p1 &&& (65535 : Int32)), iv (p2 &&& (3 : Int32)), rv b6, iv (own_sup (p1 &&& (65535 : Int32)) (p2 &&& (3 : Int32)))]) rfl k)
          replace K : OGo p e below A0 T8 (mkF m 90 #[iv p1, iv p2, iv p3, iv (p1 &&& (65535 : Int32)), iv (p2 &&& (3 : Int32)), rv b6, iv (own_sup (p1 &&& (65535 : Int32)) (p2 &&& (3 : Int32)))] [(.ref b6)]) := fun t k => K t (XS.aload X8.here hx rfl (hb hby at_88) rfl rfl k)
          have A6_10 := (A6.keep K7)
          obtain ⟨cq9, kq9, q9a, q9b, q9c⟩ := isOf hZ e8 A6_10
          obtain ⟨_, _, ⟨T9, L9, k9, n9⟩, -, X9, ⟨Lc9, hQ9, l9, y9, z9⟩, st9⟩ := X8.virtualBack hx (y := mN3) (z := mN3) hown (mvT hZ (ow hw 31 rfl)) (mvT hZ (ow hw 32 rfl)) (notFace_of_selects (args := #[]) (mvT hZ (ow hw 34 rfl))) (mvT hZ (ow hw 34 rfl)) (mvT hZ (ow hw 33 rfl)) (by decide) (backOf (W := 0) (rm_sup l Z a0 hw [] b6 (p1 &&& (65535 : Int32)) (p2 &&& (3 : Int32)) hp7 n0 Z7 P7_0 P7_1) hZ (ow hw 35 rfl) (ow hw 3 rfl) (by decide) (by decide)) q9a q9c (g := (mkF m 90 #[iv p1, iv p2, iv p3, iv (p1 &&& (65535 : Int32)), iv (p2 &&& (3 : Int32)), rv b6, iv (own_sup (p1 &&& (65535 : Int32)) (p2 &&& (3 : Int32)))] [(.ref b6)])) rfl (by rw [hml]; rfl) (Steps.refl _) (argsL := []) (rest := []) (lenOf pd___Z rfl) rfl (by show 2 * 0 + _ ≤ _; exact Nat.le_of_eq rfl) (hb hby at_90) (fun _ _ => ⟨rfl, e8, (by decide : 5 + 0 ≤ _), (by decide : 114 + 0 ≤ _)⟩)
          dsimp only [Pt.U, Pt.locs, Pt.cells, Pt.slots] at X9 l9 y9 z9 st9 hQ9
          subst l9 y9 z9
          obtain ⟨rfl, Nq9, e9⟩ := hQ9
          have N9 := Fr.app N8 Nq9
          replace K : OGo p e below A0 T9 (mkF m 93 #[iv p1, iv p2, iv p3, iv (p1 &&& (65535 : Int32)), iv (p2 &&& (3 : Int32)), rv b6, iv (own_sup (p1 &&& (65535 : Int32)) (p2 &&& (3 : Int32)))] [(.int (own_sup (p1 &&& (65535 : Int32)) (p2 &&& (3 : Int32))))]) := fun t k => K t (st9.trans k)
          replace K : OGo p e below A0 T9 (mkF m 95 #[iv p1, iv p2, iv p3, iv (p1 &&& (65535 : Int32)), iv (p2 &&& (3 : Int32)), rv b6, iv (own_sup (p1 &&& (65535 : Int32)) (p2 &&& (3 : Int32)))] [(.int (own_sup (p1 &&& (65535 : Int32)) (p2 &&& (3 : Int32)))), (.int (own_sup (p1 &&& (65535 : Int32)) (p2 &&& (3 : Int32))))]) := fun t k => K t (XS.iload X9.here hx rfl (hb hby at_93) rfl k)
          replace K : OGo p e below A0 T9 (mkF m 98 #[iv p1, iv p2, iv p3, iv (p1 &&& (65535 : Int32)), iv (p2 &&& (3 : Int32)), rv b6, iv (own_sup (p1 &&& (65535 : Int32)) (p2 &&& (3 : Int32)))] []) := fun t k => K t (XS.icmpNo X9.here hx rfl (hb hby at_95) rfl (teq (rfl : (own_sup (p1 &&& (65535 : Int32)) (p2 &&& (3 : Int32))) = (own_sup (p1 &&& (65535 : Int32)) (p2 &&& (3 : Int32))))).2 k)
          replace K : OGo p e below A0 T9 (mkF m 99 #[iv p1, iv p2, iv p3, iv (p1 &&& (65535 : Int32)), iv (p2 &&& (3 : Int32)), rv b6, iv (own_sup (p1 &&& (65535 : Int32)) (p2 &&& (3 : Int32)))] [(.int 1)]) := fun t k => K t (XS.iconst X9.here hx rfl (hb hby at_98) k)
          replace K : OGo p e below A0 T9 (mkF m 103 #[iv p1, iv p2, iv p3, iv (p1 &&& (65535 : Int32)), iv (p2 &&& (3 : Int32)), rv b6, iv (own_sup (p1 &&& (65535 : Int32)) (p2 &&& (3 : Int32)))] [(.int 1)]) := fun t k => K t (XS.goto X9.here hx rfl (pc0 := 99) (pc' := 103) rfl (hb hby at_99) (by decide) (by decide) k)
          obtain ⟨fs, hr, hrun, hended, hRW⟩ := X9.leaveW hS7 (by rw [e9]; exact hkS7) (v := some (.int (1 : Int32))) (fun h => by rw [Bd.returns] at h; cases h)
          subst hA0
          refine ⟨_, _, K _ (retN X9 hx (t := .boolean) Bd.returns (by simp) (hb hby at_103) hr), hrun, hended, _, _, rfl, ?_, hRW.1, hRW.2.1, hRW.2.2.1, hRW.2.2.2.mono (by decide) (by decide)⟩
          show Q_law Z p1 p2 p3 h0 n0 _ T9.heap _
          rw [e9]
          exact ⟨rfl, N9⟩
      · replace K : OGo p e below A0 s₁ (mkF m 40 #[iv p1, iv p2, iv p3, iv (p1 &&& (65535 : Int32)), .unset, .unset, .unset] []) := fun t k => K t (XS.ifNo X0.here hx rfl (hb hby at_37) rfl ((if0 _ _).trans (feq hc37).1) k)
        replace K : OGo p e below A0 s₁ (mkF m 42 #[iv p1, iv p2, iv p3, iv (p1 &&& (65535 : Int32)), .unset, .unset, .unset] [(.int 65535)]) := fun t k => K t (X0.ldcInt hx hown (mvT hZ (ow hw 0 rfl)) (g := (mkF m 40 #[iv p1, iv p2, iv p3, iv (p1 &&& (65535 : Int32)), .unset, .unset, .unset] [])) rfl (hb hby at_40) t k)
        replace K : OGo p e below A0 s₁ (mkF m 44 #[iv p1, iv p2, iv p3, iv (p1 &&& (65535 : Int32)), iv 65535, .unset, .unset] []) := fun t k => K t (XS.istore X0.here hx rfl (hb hby at_42) rfl (l' := #[iv p1, iv p2, iv p3, iv (p1 &&& (65535 : Int32)), iv 65535, .unset, .unset]) rfl k)
        replace K : OGo p e below A0 s₁ (mkF m 68 #[iv p1, iv p2, iv p3, iv (p1 &&& (65535 : Int32)), iv 65535, .unset, .unset] []) := fun t k => K t (XS.goto X0.here hx rfl (pc0 := 44) (pc' := 68) rfl (hb hby at_44) (by decide) (by decide) k)
        obtain ⟨T11, h11, X11, e11, E11, A11, D11, -, st11⟩ := newO X0 hx hZ hown (ow hw 1 rfl) (ow hw 2 rfl) (ow hw 3 rfl) e0 (g := (mkF m 68 #[iv p1, iv p2, iv p3, iv (p1 &&& (65535 : Int32)), iv 65535, .unset, .unset] [])) rfl (hb hby at_68) (by decide) (by decide)
        obtain ⟨b11, gz11⟩ : ∃ z, z = h0.size := ⟨_, rfl⟩
        rw [← gz11] at A11 D11 st11
        have g_b11 : n0 ≤ b11 := Nat.le_trans Z0 (Nat.le_of_eq gz11.symm)
        have Z11 : n0 ≤ h11.size := Nat.le_trans Z0 E11.1
        have hk11 := Nat.le_trans hk0 E11.1
        have F_major_b11 : Fld Z h11 b11 cN0 "major" "I" (.int (0 : Int32)) := D11 (Or.inr (ow hw 23 rfl)) (ty := .int) (by decide)
        have F_minor_b11 : Fld Z h11 b11 cN0 "minor" "I" (.int (0 : Int32)) := D11 (Or.inr (ow hw 26 rfl)) (ty := .int) (by decide)
        replace K : OGo p e below A0 T11 (mkF m 71 #[iv p1, iv p2, iv p3, iv (p1 &&& (65535 : Int32)), iv 65535, .unset, .unset] [(.ref b11)]) := fun t k => K t (st11 t k)
        replace K : OGo p e below A0 T11 (mkF m 72 #[iv p1, iv p2, iv p3, iv (p1 &&& (65535 : Int32)), iv 65535, .unset, .unset] [(.ref b11), (.ref b11)]) := fun t k => K t (XS.dup X11.here hx rfl (hb hby at_71) rfl rfl k)
        replace K : OGo p e below A0 T11 (mkF m 73 #[iv p1, iv p2, iv p3, iv (p1 &&& (65535 : Int32)), iv 65535, .unset, .unset] [(.int (p1 &&& (65535 : Int32))), (.ref b11), (.ref b11)]) := fun t k => K t (XS.iloadN X11.here hx rfl (hb hby at_72) rfl k)
        replace K : OGo p e below A0 T11 (mkF m 75 #[iv p1, iv p2, iv p3, iv (p1 &&& (65535 : Int32)), iv 65535, .unset, .unset] [(.int 65535), (.int (p1 &&& (65535 : Int32))), (.ref b11), (.ref b11)]) := fun t k => K t (XS.iload X11.here hx rfl (hb hby at_73) rfl k)
        obtain ⟨_, _, ⟨T12, L12, k12, n12⟩, -, X12, hSn12, hgr12, ⟨Lc12, hQ12, l12, y12, z12⟩, st12⟩ := X11.specialBackS hx (y := mN1) rfl hown (mvT hZ (ow hw 4 rfl)) (mvT hZ (ow hw 5 rfl)) (mvT hZ (ow hw 6 rfl)) (by decide) (backOfS (W := 1) (rm_init l Z a0 hw [] b11 (p1 &&& (65535 : Int32)) (65535 : Int32) h11 n0 Z11 A11 F_major_b11 F_minor_b11 g_b11 (own_u2_16 _) (by unfold own_u2; decide)) hZ (ow hw 6 rfl) (ow hw 3 rfl) (by decide) (by decide)) (g := (mkF m 75 #[iv p1, iv p2, iv p3, iv (p1 &&& (65535 : Int32)), iv 65535, .unset, .unset] [(.int 65535), (.int (p1 &&& (65535 : Int32))), (.ref b11), (.ref b11)])) rfl (by rw [hml]; rfl) (Steps.refl _) (a := b11) (argsL := [(.int (p1 &&& (65535 : Int32))), (.int (65535 : Int32))]) (rest := [(.ref b11)]) (lenOf pd__II_V rfl) rfl (by show 2 * 0 + _ ≤ _; exact Nat.le_of_eq rfl) (hb hby at_75) (fun _ _ => ⟨rfl, e11, (by decide : 1 + 4 ≤ _), (by decide : 2 + 112 ≤ _)⟩)
        dsimp only [Pt.U, Pt.locs, Pt.cells, Pt.slots] at X12 l12 y12 z12 st12 hQ12 hSn12 hgr12
        subst l12 y12 z12
        have hS12 := foldS (T := T11) hS0 (by rw [e11]; exact hk11) hSn12 hgr12
        replace hown := (hSn12.1.alike.findClass _ _).trans hown
        replace hZ := State.Warmed39.trans hZ hSn12.1
        obtain ⟨hp12, e12⟩ : ∃ z, T12.heap = z := ⟨_, rfl⟩
        rw [e12] at hQ12
        obtain ⟨rfl, Nq12, K12, P12_0, P12_1⟩ := hQ12
        have Z12 : n0 ≤ hp12.size := Nat.le_trans Z11 K12.1
        have hk12 := Nat.le_trans hk11 K12.1
        have hkS12 : T12.heap.size ≤ hp12.size := Nat.le_of_eq (congrArg Array.size e12)
        have N12 := Fr.app N0 Nq12
        replace K : OGo p e below A0 T12 (mkF m 78 #[iv p1, iv p2, iv p3, iv (p1 &&& (65535 : Int32)), iv 65535, .unset, .unset] [(.ref b11)]) := fun t k => K t (st12.trans k)
        replace K : OGo p e below A0 T12 (mkF m 80 #[iv p1, iv p2, iv p3, iv (p1 &&& (65535 : Int32)), iv 65535, rv b11, .unset] []) := fun t k => K t (XS.astore X12.here hx rfl (hb hby at_78) rfl rfl (l' := #[iv p1, iv p2, iv p3, iv (p1 &&& (65535 : Int32)), iv 65535, rv b11, .unset]) rfl k)
        replace K : OGo p e below A0 T12 (mkF m 81 #[iv p1, iv p2, iv p3, iv (p1 &&& (65535 : Int32)), iv 65535, rv b11, .unset] [(.int (p1 &&& (65535 : Int32)))]) := fun t k => K t (XS.iloadN X12.here hx rfl (hb hby at_80) rfl k)
        replace K : OGo p e below A0 T12 (mkF m 83 #[iv p1, iv p2, iv p3, iv (p1 &&& (65535 : Int32)), iv 65535, rv b11, .unset] [(.int 65535), (.int (p1 &&& (65535 : Int32)))]) := fun t k => K t (XS.iload X12.here hx rfl (hb hby at_81) rfl k)
        obtain ⟨_, _, ⟨T13, L13, k13, n13⟩, -, X13, ⟨Lc13, hQ13, l13, y13, z13⟩, st13⟩ := Jvm.LawKit.callS X12 hx (y := mN2) hown (mvT hZ (ow hw 27 rfl)) (mvT hZ (ow hw 28 rfl)) (mvT hZ (ow hw 29 rfl)) (mvT hZ (ow hw 30 rfl)) (by decide) (backOf (W := 0) (rm_exp l Z a0 hw [] (p1 &&& (65535 : Int32)) (65535 : Int32) hp12 n0 Z12 ) hZ (ow hw 30 rfl) (ow hw 29 rfl) (by decide) (by decide)) (g := (mkF m 83 #[iv p1, iv p2, iv p3, iv (p1 &&& (65535 : Int32)), iv 65535, rv b11, .unset] [(.int 65535), (.int (p1 &&& (65535 : Int32)))])) rfl (by rw [hml]; rfl) (argsL := [(.int (p1 &&& (65535 : Int32))), (.int (65535 : Int32))]) (rest := []) (lenOf pd__II_Z rfl) rfl (by show 2 * 0 + _ ≤ _; exact Nat.le_of_eq rfl) (hb hby at_83) (fun _ _ => ⟨rfl, e12, (by decide : 5 + 0 ≤ _), (by decide : 114 + 0 ≤ _)⟩)
        dsimp only [Pt.U, Pt.locs, Pt.cells, Pt.slots] at X13 l13 y13 z13 st13 hQ13
        subst l13 y13 z13
        obtain ⟨rfl, Nq13, e13⟩ := hQ13
        have N13 := Fr.app N12 Nq13
        replace K : OGo p e below A0 T13 (mkF m 86 #[iv p1, iv p2, iv p3, iv (p1 &&& (65535 : Int32)), iv 65535, rv b11, .unset] [(.int (own_sup (p1 &&& (65535 : Int32)) (65535 : Int32)))]) := fun t k => K t (st13 t k)
        replace K : OGo p e below A0 T13 (mkF m 88 #[iv p1, iv p2, iv p3, iv (p1 &&& (65535 : Int32)), iv 65535, rv b11, iv (own_sup (p1 &&& (65535 : Int32)) (65535 : Int32))] []) := fun t k => K t (XS.istore X13.here hx rfl (hb hby at_86) rfl (l' := #[iv p1, iv p2, iv p3, iv (p1 &&& (65535 : Int32)), iv 65535, rv b11, iv (own_sup (p1 &&& (65535 : Int32)) (65535 : Int32))]) rfl k)
        replace K : OGo p e below A0 T13 (mkF m 90 #[iv p1, iv p2, iv p3, iv (p1 &&& (65535 : Int32)), iv 65535, rv b11, iv (own_sup (p1 &&& (65535 : Int32)) (65535 : Int32))] [(.ref b11)]) := fun t k => K t (XS.aload X13.here hx rfl (hb hby at_88) rfl rfl k)
        have A11_15 := (A11.keep K12)
        obtain ⟨cq14, kq14, q14a, q14b, q14c⟩ := isOf hZ e13 A11_15
        obtain ⟨_, _, ⟨T14, L14, k14, n14⟩, -, X14, ⟨Lc14, hQ14, l14, y14, z14⟩, st14⟩ := X13.virtualBack hx (y := mN3) (z := mN3) hown (mvT hZ (ow hw 31 rfl)) (mvT hZ (ow hw 32 rfl)) (notFace_of_selects (args := #[]) (mvT hZ (ow hw 34 rfl))) (mvT hZ (ow hw 34 rfl)) (mvT hZ (ow hw 33 rfl)) (by decide) (backOf (W := 0) (rm_sup l Z a0 hw [] b11 (p1 &&& (65535 : Int32)) (65535 : Int32) hp12 n0 Z12 P12_0 P12_1) hZ (ow hw 35 rfl) (ow hw 3 rfl) (by decide) (by decide)) q14a q14c (g := (mkF m 90 #[iv p1, iv p2, iv p3, iv (p1 &&& (65535 : Int32)), iv 65535, rv b11, iv (own_sup (p1 &&& (65535 : Int32)) (65535 : Int32))] [(.ref b11)])) rfl (by rw [hml]; rfl) (Steps.refl _) (argsL := []) (rest := []) (lenOf pd___Z rfl) rfl (by show 2 * 0 + _ ≤ _; exact Nat.le_of_eq rfl) (hb hby at_90) (fun _ _ => ⟨rfl, e13, (by decide : 5 + 0 ≤ _), (by decide : 114 + 0 ≤ _)⟩)
        dsimp only [Pt.U, Pt.locs, Pt.cells, Pt.slots] at X14 l14 y14 z14 st14 hQ14
        subst l14 y14 z14
        obtain ⟨rfl, Nq14, e14⟩ := hQ14
        have N14 := Fr.app N13 Nq14
        replace K : OGo p e below A0 T14 (mkF m 93 #[iv p1, iv p2, iv p3, iv (p1 &&& (65535 : Int32)), iv 65535, rv b11, iv (own_sup (p1 &&& (65535 : Int32)) (65535 : Int32))] [(.int (own_sup (p1 &&& (65535 : Int32)) (65535 : Int32)))]) := fun t k => K t (st14.trans k)
        replace K : OGo p e below A0 T14 (mkF m 95 #[iv p1, iv p2, iv p3, iv (p1 &&& (65535 : Int32)), iv 65535, rv b11, iv (own_sup (p1 &&& (65535 : Int32)) (65535 : Int32))] [(.int (own_sup (p1 &&& (65535 : Int32)) (65535 : Int32))), (.int (own_sup (p1 &&& (65535 : Int32)) (65535 : Int32)))]) := fun t k => K t (XS.iload X14.here hx rfl (hb hby at_93) rfl k)
        replace K : OGo p e below A0 T14 (mkF m 98 #[iv p1, iv p2, iv p3, iv (p1 &&& (65535 : Int32)), iv 65535, rv b11, iv (own_sup (p1 &&& (65535 : Int32)) (65535 : Int32))] []) := fun t k => K t (XS.icmpNo X14.here hx rfl (hb hby at_95) rfl (teq (rfl : (own_sup (p1 &&& (65535 : Int32)) (65535 : Int32)) = (own_sup (p1 &&& (65535 : Int32)) (65535 : Int32)))).2 k)
        replace K : OGo p e below A0 T14 (mkF m 99 #[iv p1, iv p2, iv p3, iv (p1 &&& (65535 : Int32)), iv 65535, rv b11, iv (own_sup (p1 &&& (65535 : Int32)) (65535 : Int32))] [(.int 1)]) := fun t k => K t (XS.iconst X14.here hx rfl (hb hby at_98) k)
        replace K : OGo p e below A0 T14 (mkF m 103 #[iv p1, iv p2, iv p3, iv (p1 &&& (65535 : Int32)), iv 65535, rv b11, iv (own_sup (p1 &&& (65535 : Int32)) (65535 : Int32))] [(.int 1)]) := fun t k => K t (XS.goto X14.here hx rfl (pc0 := 99) (pc' := 103) rfl (hb hby at_99) (by decide) (by decide) k)
        obtain ⟨fs, hr, hrun, hended, hRW⟩ := X14.leaveW hS12 (by rw [e14]; exact hkS12) (v := some (.int (1 : Int32))) (fun h => by rw [Bd.returns] at h; cases h)
        subst hA0
        refine ⟨_, _, K _ (retN X14 hx (t := .boolean) Bd.returns (by simp) (hb hby at_103) hr), hrun, hended, _, _, rfl, ?_, hRW.1, hRW.2.1, hRW.2.2.1, hRW.2.2.2.mono (by decide) (by decide)⟩
        show Q_law Z p1 p2 p3 h0 n0 _ T14.heap _
        rw [e14]
        exact ⟨rfl, N14⟩
    · replace K : OGo p e below A0 s₁ (mkF m 28 #[iv p1, iv p2, iv p3, iv (p1 &&& (65535 : Int32)), .unset, .unset, .unset] []) := fun t k => K t (XS.ifNo X0.here hx rfl (hb hby at_25) rfl ((if0 _ _).trans (feq hc25).1) k)
      replace K : OGo p e below A0 s₁ (mkF m 29 #[iv p1, iv p2, iv p3, iv (p1 &&& (65535 : Int32)), .unset, .unset, .unset] [(.int 0)]) := fun t k => K t (XS.iconst X0.here hx rfl (hb hby at_28) k)
      replace K : OGo p e below A0 s₁ (mkF m 31 #[iv p1, iv p2, iv p3, iv (p1 &&& (65535 : Int32)), iv 0, .unset, .unset] []) := fun t k => K t (XS.istore X0.here hx rfl (hb hby at_29) rfl (l' := #[iv p1, iv p2, iv p3, iv (p1 &&& (65535 : Int32)), iv 0, .unset, .unset]) rfl k)
      replace K : OGo p e below A0 s₁ (mkF m 68 #[iv p1, iv p2, iv p3, iv (p1 &&& (65535 : Int32)), iv 0, .unset, .unset] []) := fun t k => K t (XS.goto X0.here hx rfl (pc0 := 31) (pc' := 68) rfl (hb hby at_31) (by decide) (by decide) k)
      obtain ⟨T16, h16, X16, e16, E16, A16, D16, -, st16⟩ := newO X0 hx hZ hown (ow hw 1 rfl) (ow hw 2 rfl) (ow hw 3 rfl) e0 (g := (mkF m 68 #[iv p1, iv p2, iv p3, iv (p1 &&& (65535 : Int32)), iv 0, .unset, .unset] [])) rfl (hb hby at_68) (by decide) (by decide)
      obtain ⟨b16, gz16⟩ : ∃ z, z = h0.size := ⟨_, rfl⟩
      rw [← gz16] at A16 D16 st16
      have g_b16 : n0 ≤ b16 := Nat.le_trans Z0 (Nat.le_of_eq gz16.symm)
      have Z16 : n0 ≤ h16.size := Nat.le_trans Z0 E16.1
      have hk16 := Nat.le_trans hk0 E16.1
      have F_major_b16 : Fld Z h16 b16 cN0 "major" "I" (.int (0 : Int32)) := D16 (Or.inr (ow hw 23 rfl)) (ty := .int) (by decide)
      have F_minor_b16 : Fld Z h16 b16 cN0 "minor" "I" (.int (0 : Int32)) := D16 (Or.inr (ow hw 26 rfl)) (ty := .int) (by decide)
      replace K : OGo p e below A0 T16 (mkF m 71 #[iv p1, iv p2, iv p3, iv (p1 &&& (65535 : Int32)), iv 0, .unset, .unset] [(.ref b16)]) := fun t k => K t (st16 t k)
      replace K : OGo p e below A0 T16 (mkF m 72 #[iv p1, iv p2, iv p3, iv (p1 &&& (65535 : Int32)), iv 0, .unset, .unset] [(.ref b16), (.ref b16)]) := fun t k => K t (XS.dup X16.here hx rfl (hb hby at_71) rfl rfl k)
      replace K : OGo p e below A0 T16 (mkF m 73 #[iv p1, iv p2, iv p3, iv (p1 &&& (65535 : Int32)), iv 0, .unset, .unset] [(.int (p1 &&& (65535 : Int32))), (.ref b16), (.ref b16)]) := fun t k => K t (XS.iloadN X16.here hx rfl (hb hby at_72) rfl k)
      replace K : OGo p e below A0 T16 (mkF m 75 #[iv p1, iv p2, iv p3, iv (p1 &&& (65535 : Int32)), iv 0, .unset, .unset] [(.int 0), (.int (p1 &&& (65535 : Int32))), (.ref b16), (.ref b16)]) := fun t k => K t (XS.iload X16.here hx rfl (hb hby at_73) rfl k)
      obtain ⟨_, _, ⟨T17, L17, k17, n17⟩, -, X17, hSn17, hgr17, ⟨Lc17, hQ17, l17, y17, z17⟩, st17⟩ := X16.specialBackS hx (y := mN1) rfl hown (mvT hZ (ow hw 4 rfl)) (mvT hZ (ow hw 5 rfl)) (mvT hZ (ow hw 6 rfl)) (by decide) (backOfS (W := 1) (rm_init l Z a0 hw [] b16 (p1 &&& (65535 : Int32)) (0 : Int32) h16 n0 Z16 A16 F_major_b16 F_minor_b16 g_b16 (own_u2_16 _) (by unfold own_u2; decide)) hZ (ow hw 6 rfl) (ow hw 3 rfl) (by decide) (by decide)) (g := (mkF m 75 #[iv p1, iv p2, iv p3, iv (p1 &&& (65535 : Int32)), iv 0, .unset, .unset] [(.int 0), (.int (p1 &&& (65535 : Int32))), (.ref b16), (.ref b16)])) rfl (by rw [hml]; rfl) (Steps.refl _) (a := b16) (argsL := [(.int (p1 &&& (65535 : Int32))), (.int (0 : Int32))]) (rest := [(.ref b16)]) (lenOf pd__II_V rfl) rfl (by show 2 * 0 + _ ≤ _; exact Nat.le_of_eq rfl) (hb hby at_75) (fun _ _ => ⟨rfl, e16, (by decide : 1 + 4 ≤ _), (by decide : 2 + 112 ≤ _)⟩)
      dsimp only [Pt.U, Pt.locs, Pt.cells, Pt.slots] at X17 l17 y17 z17 st17 hQ17 hSn17 hgr17
      subst l17 y17 z17
      have hS17 := foldS (T := T16) hS0 (by rw [e16]; exact hk16) hSn17 hgr17
      replace hown := (hSn17.1.alike.findClass _ _).trans hown
      replace hZ := State.Warmed39.trans hZ hSn17.1
      obtain ⟨hp17, e17⟩ : ∃ z, T17.heap = z := ⟨_, rfl⟩
      rw [e17] at hQ17
      obtain ⟨rfl, Nq17, K17, P17_0, P17_1⟩ := hQ17
      have Z17 : n0 ≤ hp17.size := Nat.le_trans Z16 K17.1
      have hk17 := Nat.le_trans hk16 K17.1
      have hkS17 : T17.heap.size ≤ hp17.size := Nat.le_of_eq (congrArg Array.size e17)
      have N17 := Fr.app N0 Nq17
      replace K : OGo p e below A0 T17 (mkF m 78 #[iv p1, iv p2, iv p3, iv (p1 &&& (65535 : Int32)), iv 0, .unset, .unset] [(.ref b16)]) := fun t k => K t (st17.trans k)
      replace K : OGo p e below A0 T17 (mkF m 80 #[iv p1, iv p2, iv p3, iv (p1 &&& (65535 : Int32)), iv 0, rv b16, .unset] []) := fun t k => K t (XS.astore X17.here hx rfl (hb hby at_78) rfl rfl (l' := #[iv p1, iv p2, iv p3, iv (p1 &&& (65535 : Int32)), iv 0, rv b16, .unset]) rfl k)
      replace K : OGo p e below A0 T17 (mkF m 81 #[iv p1, iv p2, iv p3, iv (p1 &&& (65535 : Int32)), iv 0, rv b16, .unset] [(.int (p1 &&& (65535 : Int32)))]) := fun t k => K t (XS.iloadN X17.here hx rfl (hb hby at_80) rfl k)
      replace K : OGo p e below A0 T17 (mkF m 83 #[iv p1, iv p2, iv p3, iv (p1 &&& (65535 : Int32)), iv 0, rv b16, .unset] [(.int 0), (.int (p1 &&& (65535 : Int32)))]) := fun t k => K t (XS.iload X17.here hx rfl (hb hby at_81) rfl k)
      obtain ⟨_, _, ⟨T18, L18, k18, n18⟩, -, X18, ⟨Lc18, hQ18, l18, y18, z18⟩, st18⟩ := Jvm.LawKit.callS X17 hx (y := mN2) hown (mvT hZ (ow hw 27 rfl)) (mvT hZ (ow hw 28 rfl)) (mvT hZ (ow hw 29 rfl)) (mvT hZ (ow hw 30 rfl)) (by decide) (backOf (W := 0) (rm_exp l Z a0 hw [] (p1 &&& (65535 : Int32)) (0 : Int32) hp17 n0 Z17 ) hZ (ow hw 30 rfl) (ow hw 29 rfl) (by decide) (by decide)) (g := (mkF m 83 #[iv p1, iv p2, iv p3, iv (p1 &&& (65535 : Int32)), iv 0, rv b16, .unset] [(.int 0), (.int (p1 &&& (65535 : Int32)))])) rfl (by rw [hml]; rfl) (argsL := [(.int (p1 &&& (65535 : Int32))), (.int (0 : Int32))]) (rest := []) (lenOf pd__II_Z rfl) rfl (by show 2 * 0 + _ ≤ _; exact Nat.le_of_eq rfl) (hb hby at_83) (fun _ _ => ⟨rfl, e17, (by decide : 5 + 0 ≤ _), (by decide : 114 + 0 ≤ _)⟩)
      dsimp only [Pt.U, Pt.locs, Pt.cells, Pt.slots] at X18 l18 y18 z18 st18 hQ18
      subst l18 y18 z18
      obtain ⟨rfl, Nq18, e18⟩ := hQ18
      have N18 := Fr.app N17 Nq18
      replace K : OGo p e below A0 T18 (mkF m 86 #[iv p1, iv p2, iv p3, iv (p1 &&& (65535 : Int32)), iv 0, rv b16, .unset] [(.int (own_sup (p1 &&& (65535 : Int32)) (0 : Int32)))]) := fun t k => K t (st18 t k)
      replace K : OGo p e below A0 T18 (mkF m 88 #[iv p1, iv p2, iv p3, iv (p1 &&& (65535 : Int32)), iv 0, rv b16, iv (own_sup (p1 &&& (65535 : Int32)) (0 : Int32))] []) := fun t k => K t (XS.istore X18.here hx rfl (hb hby at_86) rfl (l' := #[iv p1, iv p2, iv p3, iv (p1 &&& (65535 : Int32)), iv 0, rv b16, iv (own_sup (p1 &&& (65535 : Int32)) (0 : Int32))]) rfl k)
      replace K : OGo p e below A0 T18 (mkF m 90 #[iv p1, iv p2, iv p3, iv (p1 &&& (65535 : Int32)), iv 0, rv b16, iv (own_sup (p1 &&& (65535 : Int32)) (0 : Int32))] [(.ref b16)]) := fun t k => K t (XS.aload X18.here hx rfl (hb hby at_88) rfl rfl k)
      have A16_20 := (A16.keep K17)
      obtain ⟨cq19, kq19, q19a, q19b, q19c⟩ := isOf hZ e18 A16_20
      obtain ⟨_, _, ⟨T19, L19, k19, n19⟩, -, X19, ⟨Lc19, hQ19, l19, y19, z19⟩, st19⟩ := X18.virtualBack hx (y := mN3) (z := mN3) hown (mvT hZ (ow hw 31 rfl)) (mvT hZ (ow hw 32 rfl)) (notFace_of_selects (args := #[]) (mvT hZ (ow hw 34 rfl))) (mvT hZ (ow hw 34 rfl)) (mvT hZ (ow hw 33 rfl)) (by decide) (backOf (W := 0) (rm_sup l Z a0 hw [] b16 (p1 &&& (65535 : Int32)) (0 : Int32) hp17 n0 Z17 P17_0 P17_1) hZ (ow hw 35 rfl) (ow hw 3 rfl) (by decide) (by decide)) q19a q19c (g := (mkF m 90 #[iv p1, iv p2, iv p3, iv (p1 &&& (65535 : Int32)), iv 0, rv b16, iv (own_sup (p1 &&& (65535 : Int32)) (0 : Int32))] [(.ref b16)])) rfl (by rw [hml]; rfl) (Steps.refl _) (argsL := []) (rest := []) (lenOf pd___Z rfl) rfl (by show 2 * 0 + _ ≤ _; exact Nat.le_of_eq rfl) (hb hby at_90) (fun _ _ => ⟨rfl, e18, (by decide : 5 + 0 ≤ _), (by decide : 114 + 0 ≤ _)⟩)
      dsimp only [Pt.U, Pt.locs, Pt.cells, Pt.slots] at X19 l19 y19 z19 st19 hQ19
      subst l19 y19 z19
      obtain ⟨rfl, Nq19, e19⟩ := hQ19
      have N19 := Fr.app N18 Nq19
      replace K : OGo p e below A0 T19 (mkF m 93 #[iv p1, iv p2, iv p3, iv (p1 &&& (65535 : Int32)), iv 0, rv b16, iv (own_sup (p1 &&& (65535 : Int32)) (0 : Int32))] [(.int (own_sup (p1 &&& (65535 : Int32)) (0 : Int32)))]) := fun t k => K t (st19.trans k)
      replace K : OGo p e below A0 T19 (mkF m 95 #[iv p1, iv p2, iv p3, iv (p1 &&& (65535 : Int32)), iv 0, rv b16, iv (own_sup (p1 &&& (65535 : Int32)) (0 : Int32))] [(.int (own_sup (p1 &&& (65535 : Int32)) (0 : Int32))), (.int (own_sup (p1 &&& (65535 : Int32)) (0 : Int32)))]) := fun t k => K t (XS.iload X19.here hx rfl (hb hby at_93) rfl k)
      replace K : OGo p e below A0 T19 (mkF m 98 #[iv p1, iv p2, iv p3, iv (p1 &&& (65535 : Int32)), iv 0, rv b16, iv (own_sup (p1 &&& (65535 : Int32)) (0 : Int32))] []) := fun t k => K t (XS.icmpNo X19.here hx rfl (hb hby at_95) rfl (teq (rfl : (own_sup (p1 &&& (65535 : Int32)) (0 : Int32)) = (own_sup (p1 &&& (65535 : Int32)) (0 : Int32)))).2 k)
      replace K : OGo p e below A0 T19 (mkF m 99 #[iv p1, iv p2, iv p3, iv (p1 &&& (65535 : Int32)), iv 0, rv b16, iv (own_sup (p1 &&& (65535 : Int32)) (0 : Int32))] [(.int 1)]) := fun t k => K t (XS.iconst X19.here hx rfl (hb hby at_98) k)
      replace K : OGo p e below A0 T19 (mkF m 103 #[iv p1, iv p2, iv p3, iv (p1 &&& (65535 : Int32)), iv 0, rv b16, iv (own_sup (p1 &&& (65535 : Int32)) (0 : Int32))] [(.int 1)]) := fun t k => K t (XS.goto X19.here hx rfl (pc0 := 99) (pc' := 103) rfl (hb hby at_99) (by decide) (by decide) k)
      obtain ⟨fs, hr, hrun, hended, hRW⟩ := X19.leaveW hS17 (by rw [e19]; exact hkS17) (v := some (.int (1 : Int32))) (fun h => by rw [Bd.returns] at h; cases h)
      subst hA0
      refine ⟨_, _, K _ (retN X19 hx (t := .boolean) Bd.returns (by simp) (hb hby at_103) hr), hrun, hended, _, _, rfl, ?_, hRW.1, hRW.2.1, hRW.2.2.1, hRW.2.2.2.mono (by decide) (by decide)⟩
      show Q_law Z p1 p2 p3 h0 n0 _ T19.heap _
      rw [e19]
      exact ⟨rfl, N19⟩
  · replace K : OGo p e below A0 s₁ (mkF m 6 #[iv p1, iv p2, iv p3, .unset, .unset, .unset, .unset] []) := fun t k => K t (XS.ifNo X0.here hx rfl (hb hby at_3) rfl ((if0 _ _).trans (feq hc3).1) k)
    replace K : OGo p e below A0 s₁ (mkF m 8 #[iv p1, iv p2, iv p3, .unset, .unset, .unset, .unset] [(.int 40)]) := fun t k => K t (XS.bipush X0.here hx rfl (hb hby at_6) k)
    replace K : OGo p e below A0 s₁ (mkF m 9 #[iv p1, iv p2, iv p3, .unset, .unset, .unset, .unset] [(.int p1), (.int 40)]) := fun t k => K t (XS.iloadN X0.here hx rfl (hb hby at_8) rfl k)
    replace K : OGo p e below A0 s₁ (mkF m 11 #[iv p1, iv p2, iv p3, .unset, .unset, .unset, .unset] [(.int 31), (.int p1), (.int 40)]) := fun t k => K t (XS.bipush X0.here hx rfl (hb hby at_9) k)
    replace K : OGo p e below A0 s₁ (mkF m 12 #[iv p1, iv p2, iv p3, .unset, .unset, .unset, .unset] [(.int (p1 &&& (31 : Int32))), (.int 40)]) := fun t k => K t (XS.iand X0.here hx rfl (hb hby at_11) rfl k)
    replace K : OGo p e below A0 s₁ (mkF m 13 #[iv p1, iv p2, iv p3, .unset, .unset, .unset, .unset] [(.int ((40 : Int32) + (p1 &&& (31 : Int32))))]) := fun t k => K t (XS.iadd X0.here hx rfl (hb hby at_12) rfl k)
    replace K : OGo p e below A0 s₁ (mkF m 14 #[iv p1, iv p2, iv p3, iv ((40 : Int32) + (p1 &&& (31 : Int32))), .unset, .unset, .unset] []) := fun t k => K t (XS.istoreN X0.here hx rfl (hb hby at_13) rfl (l' := #[iv p1, iv p2, iv p3, iv ((40 : Int32) + (p1 &&& (31 : Int32))), .unset, .unset, .unset]) rfl k)
    replace K : OGo p e below A0 s₁ (mkF m 22 #[iv p1, iv p2, iv p3, iv ((40 : Int32) + (p1 &&& (31 : Int32))), .unset, .unset, .unset] []) := fun t k => K t (XS.goto X0.here hx rfl (pc0 := 14) (pc' := 22) rfl (hb hby at_14) (by decide) (by decide) k)
    replace K : OGo p e below A0 s₁ (mkF m 23 #[iv p1, iv p2, iv p3, iv ((40 : Int32) + (p1 &&& (31 : Int32))), .unset, .unset, .unset] [(.int p3)]) := fun t k => K t (XS.iloadN X0.here hx rfl (hb hby at_22) rfl k)
    replace K : OGo p e below A0 s₁ (mkF m 24 #[iv p1, iv p2, iv p3, iv ((40 : Int32) + (p1 &&& (31 : Int32))), .unset, .unset, .unset] [(.int 2), (.int p3)]) := fun t k => K t (XS.iconst X0.here hx rfl (hb hby at_23) k)
    replace K : OGo p e below A0 s₁ (mkF m 25 #[iv p1, iv p2, iv p3, iv ((40 : Int32) + (p1 &&& (31 : Int32))), .unset, .unset, .unset] [(.int (p3 &&& (2 : Int32)))]) := fun t k => K t (XS.iand X0.here hx rfl (hb hby at_24) rfl k)
    by_cases hc25 : (p3 &&& (2 : Int32)) = (0 : Int32)
    · replace K : OGo p e below A0 s₁ (mkF m 34 #[iv p1, iv p2, iv p3, iv ((40 : Int32) + (p1 &&& (31 : Int32))), .unset, .unset, .unset] []) := fun t k => K t (XS.ifYes X0.here hx rfl (pc0 := 25) (pc' := 34) rfl (hb hby at_25) rfl ((if0 _ _).trans (teq hc25).1) (by decide) (by decide) k)
      replace K : OGo p e below A0 s₁ (mkF m 35 #[iv p1, iv p2, iv p3, iv ((40 : Int32) + (p1 &&& (31 : Int32))), .unset, .unset, .unset] [(.int p3)]) := fun t k => K t (XS.iloadN X0.here hx rfl (hb hby at_34) rfl k)
      replace K : OGo p e below A0 s₁ (mkF m 36 #[iv p1, iv p2, iv p3, iv ((40 : Int32) + (p1 &&& (31 : Int32))), .unset, .unset, .unset] [(.int 4), (.int p3)]) := fun t k => K t (XS.iconst X0.here hx rfl (hb hby at_35) k)
      replace K : OGo p e below A0 s₁ (mkF m 37 #[iv p1, iv p2, iv p3, iv ((40 : Int32) + (p1 &&& (31 : Int32))), .unset, .unset, .unset] [(.int (p3 &&& (4 : Int32)))]) := fun t k => K t (XS.iand X0.here hx rfl (hb hby at_36) rfl k)
      by_cases hc37 : (p3 &&& (4 : Int32)) = (0 : Int32)
      · replace K : OGo p e below A0 s₁ (mkF m 47 #[iv p1, iv p2, iv p3, iv ((40 : Int32) + (p1 &&& (31 : Int32))), .unset, .unset, .unset] []) := fun t k => K t (XS.ifYes X0.here hx rfl (pc0 := 37) (pc' := 47) rfl (hb hby at_37) rfl ((if0 _ _).trans (teq hc37).1) (by decide) (by decide) k)
        replace K : OGo p e below A0 s₁ (mkF m 48 #[iv p1, iv p2, iv p3, iv ((40 : Int32) + (p1 &&& (31 : Int32))), .unset, .unset, .unset] [(.int p3)]) := fun t k => K t (XS.iloadN X0.here hx rfl (hb hby at_47) rfl k)
        replace K : OGo p e below A0 s₁ (mkF m 50 #[iv p1, iv p2, iv p3, iv ((40 : Int32) + (p1 &&& (31 : Int32))), .unset, .unset, .unset] [(.int 8), (.int p3)]) := fun t k => K t (XS.bipush X0.here hx rfl (hb hby at_48) k)
        replace K : OGo p e below A0 s₁ (mkF m 51 #[iv p1, iv p2, iv p3, iv ((40 : Int32) + (p1 &&& (31 : Int32))), .unset, .unset, .unset] [(.int (p3 &&& (8 : Int32)))]) := fun t k => K t (XS.iand X0.here hx rfl (hb hby at_50) rfl k)
        by_cases hc51 : (p3 &&& (8 : Int32)) = (0 : Int32)
        · replace K : OGo p e below A0 s₁ (mkF m 62 #[iv p1, iv p2, iv p3, iv ((40 : Int32) + (p1 &&& (31 : Int32))), .unset, .unset, .unset] []) := fun t k => K t (XS.ifYes X0.here hx rfl (pc0 := 51) (pc' := 62) rfl (hb hby at_51) rfl ((if0 _ _).trans (teq hc51).1) (by decide) (by decide) k)
          replace K : OGo p e below A0 s₁ (mkF m 63 #[iv p1, iv p2, iv p3, iv ((40 : Int32) + (p1 &&& (31 : Int32))), .unset, .unset, .unset] [(.int p2)]) := fun t k => K t (XS.iloadN X0.here hx rfl (hb hby at_62) rfl k)
          replace K : OGo p e below A0 s₁ (mkF m 65 #[iv p1, iv p2, iv p3, iv ((40 : Int32) + (p1 &&& (31 : Int32))), .unset, .unset, .unset] [(.int 65535), (.int p2)]) := fun t k => K t (X0.ldcInt hx hown (mvT hZ (ow hw 0 rfl)) (g := (mkF m 63 #[iv p1, iv p2, iv p3, iv ((40 : Int32) + (p1 &&& (31 : Int32))), .unset, .unset, .unset] [(.int p2)])) rfl (hb hby at_63) t k)
          replace K : OGo p e below A0 s₁ (mkF m 66 #[iv p1, iv p2, iv p3, iv ((40 : Int32) + (p1 &&& (31 : Int32))), .unset, .unset, .unset] [(.int (p2 &&& (65535 : Int32)))]) := fun t k => K t (XS.iand X0.here hx rfl (hb hby at_65) rfl k)
          replace K : OGo p e below A0 s₁ (mkF m 68 #[iv p1, iv p2, iv p3, iv ((40 : Int32) + (p1 &&& (31 : Int32))), iv (p2 &&& (65535 : Int32)), .unset, .unset] []) := fun t k => K t (XS.istore X0.here hx rfl (hb hby at_66) rfl (l' := #[iv p1, iv p2, iv p3, iv ((40 : Int32) + (p1 &&& (31 : Int32))), iv (p2 &&& (65535 : Int32)), .unset, .unset]) rfl k)
          obtain ⟨T21, h21, X21, e21, E21, A21, D21, -, st21⟩ := newO X0 hx hZ hown (ow hw 1 rfl) (ow hw 2 rfl) (ow hw 3 rfl) e0 (g := (mkF m 68 #[iv p1, iv p2, iv p3, iv ((40 : Int32) + (p1 &&& (31 : Int32))), iv (p2 &&& (65535 : Int32)), .unset, .unset] [])) rfl (hb hby at_68) (by decide) (by decide)
          obtain ⟨b21, gz21⟩ : ∃ z, z = h0.size := ⟨_, rfl⟩
          rw [← gz21] at A21 D21 st21
          have g_b21 : n0 ≤ b21 := Nat.le_trans Z0 (Nat.le_of_eq gz21.symm)
          have Z21 : n0 ≤ h21.size := Nat.le_trans Z0 E21.1
          have hk21 := Nat.le_trans hk0 E21.1
          have F_major_b21 : Fld Z h21 b21 cN0 "major" "I" (.int (0 : Int32)) := D21 (Or.inr (ow hw 23 rfl)) (ty := .int) (by decide)
          have F_minor_b21 : Fld Z h21 b21 cN0 "minor" "I" (.int (0 : Int32)) := D21 (Or.inr (ow hw 26 rfl)) (ty := .int) (by decide)
          replace K : OGo p e below A0 T21 (mkF m 71 #[iv p1, iv p2, iv p3, iv ((40 : Int32) + (p1 &&& (31 : Int32))), iv (p2 &&& (65535 : Int32)), .unset, .unset] [(.ref b21)]) := fun t k => K t (st21 t k)
          replace K : OGo p e below A0 T21 (mkF m 72 #[iv p1, iv p2, iv p3, iv ((40 : Int32) + (p1 &&& (31 : Int32))), iv (p2 &&& (65535 : Int32)), .unset, .unset] [(.ref b21), (.ref b21)]) := fun t k => K t (XS.dup X21.here hx rfl (hb hby at_71) rfl rfl k)
          replace K : OGo p e below A0 T21 (mkF m 73 #[iv p1, iv p2, iv p3, iv ((40 : Int32) + (p1 &&& (31 : Int32))), iv (p2 &&& (65535 : Int32)), .unset, .unset] [(.int ((40 : Int32) + (p1 &&& (31 : Int32)))), (.ref b21), (.ref b21)]) := fun t k => K t (XS.iloadN X21.here hx rfl (hb hby at_72) rfl k)
          replace K : OGo p e below A0 T21 (mkF m 75 #[iv p1, iv p2, iv p3, iv ((40 : Int32) + (p1 &&& (31 : Int32))), iv (p2 &&& (65535 : Int32)), .unset, .unset] [(.int (p2 &&& (65535 : Int32))), (.int ((40 : Int32) + (p1 &&& (31 : Int32)))), (.ref b21), (.ref b21)]) := fun t k => K t (XS.iload X21.here hx rfl (hb hby at_73) rfl k)
          obtain ⟨_, _, ⟨T22, L22, k22, n22⟩, -, X22, hSn22, hgr22, ⟨Lc22, hQ22, l22, y22, z22⟩, st22⟩ := X21.specialBackS hx (y := mN1) rfl hown (mvT hZ (ow hw 4 rfl)) (mvT hZ (ow hw 5 rfl)) (mvT hZ (ow hw 6 rfl)) (by decide) (backOfS (W := 1) (rm_init l Z a0 hw [] b21 ((40 : Int32) + (p1 &&& (31 : Int32))) (p2 &&& (65535 : Int32)) h21 n0 Z21 A21 F_major_b21 F_minor_b21 g_b21 (own_u2_40 _) (own_u2_16 _)) hZ (ow hw 6 rfl) (ow hw 3 rfl) (by decide) (by decide)) (g := (mkF m 75 #[iv p1, iv p2, iv p3, iv ((40 : Int32) + (p1 &&& (31 : Int32))), iv (p2 &&& (65535 : Int32)), .unset, .unset] [(.int (p2 &&& (65535 : Int32))), (.int ((40 : Int32) + (p1 &&& (31 : Int32)))), (.ref b21), (.ref b21)])) rfl (by rw [hml]; rfl) (Steps.refl _) (a := b21) (argsL := [(.int ((40 : Int32) + (p1 &&& (31 : Int32)))), (.int (p2 &&& (65535 : Int32)))]) (rest := [(.ref b21)]) (lenOf pd__II_V rfl) rfl (by show 2 * 0 + _ ≤ _; exact Nat.le_of_eq rfl) (hb hby at_75) (fun _ _ => ⟨rfl, e21, (by decide : 1 + 4 ≤ _), (by decide : 2 + 112 ≤ _)⟩)
          dsimp only [Pt.U, Pt.locs, Pt.cells, Pt.slots] at X22 l22 y22 z22 st22 hQ22 hSn22 hgr22
          subst l22 y22 z22
          have hS22 := foldS (T := T21) hS0 (by rw [e21]; exact hk21) hSn22 hgr22
          replace hown := (hSn22.1.alike.findClass _ _).trans hown
          replace hZ := State.Warmed39.trans hZ hSn22.1
          obtain ⟨hp22, e22⟩ : ∃ z, T22.heap = z := ⟨_, rfl⟩
          rw [e22] at hQ22
          obtain ⟨rfl, Nq22, K22, P22_0, P22_1⟩ := hQ22
          have Z22 : n0 ≤ hp22.size := Nat.le_trans Z21 K22.1
          have hk22 := Nat.le_trans hk21 K22.1
          have hkS22 : T22.heap.size ≤ hp22.size := Nat.le_of_eq (congrArg Array.size e22)
          have N22 := Fr.app N0 Nq22
          replace K : OGo p e below A0 T22 (mkF m 78 #[iv p1, iv p2, iv p3, iv ((40 : Int32) + (p1 &&& (31 : Int32))), iv (p2 &&& (65535 : Int32)), .unset, .unset] [(.ref b21)]) := fun t k => K t (st22.trans k)
          replace K : OGo p e below A0 T22 (mkF m 80 #[iv p1, iv p2, iv p3, iv ((40 : Int32) + (p1 &&& (31 : Int32))), iv (p2 &&& (65535 : Int32)), rv b21, .unset] []) := fun t k => K t (XS.astore X22.here hx rfl (hb hby at_78) rfl rfl (l' := #[iv p1, iv p2, iv p3, iv ((40 : Int32) + (p1 &&& (31 : Int32))), iv (p2 &&& (65535 : Int32)), rv b21, .unset]) rfl k)
          replace K : OGo p e below A0 T22 (mkF m 81 #[iv p1, iv p2, iv p3, iv ((40 : Int32) + (p1 &&& (31 : Int32))), iv (p2 &&& (65535 : Int32)), rv b21, .unset] [(.int ((40 : Int32) + (p1 &&& (31 : Int32))))]) := fun t k => K t (XS.iloadN X22.here hx rfl (hb hby at_80) rfl k)
          replace K : OGo p e below A0 T22 (mkF m 83 #[iv p1, iv p2, iv p3, iv ((40 : Int32) + (p1 &&& (31 : Int32))), iv (p2 &&& (65535 : Int32)), rv b21, .unset] [(.int (p2 &&& (65535 : Int32))), (.int ((40 : Int32) + (p1 &&& (31 : Int32))))]) := fun t k => K t (XS.iload X22.here hx rfl (hb hby at_81) rfl k)
          obtain ⟨_, _, ⟨T23, L23, k23, n23⟩, -, X23, ⟨Lc23, hQ23, l23, y23, z23⟩, st23⟩ := Jvm.LawKit.callS X22 hx (y := mN2) hown (mvT hZ (ow hw 27 rfl)) (mvT hZ (ow hw 28 rfl)) (mvT hZ (ow hw 29 rfl)) (mvT hZ (ow hw 30 rfl)) (by decide) (backOf (W := 0) (rm_exp l Z a0 hw [] ((40 : Int32) + (p1 &&& (31 : Int32))) (p2 &&& (65535 : Int32)) hp22 n0 Z22 ) hZ (ow hw 30 rfl) (ow hw 29 rfl) (by decide) (by decide)) (g := (mkF m 83 #[iv p1, iv p2, iv p3, iv ((40 : Int32) + (p1 &&& (31 : Int32))), iv (p2 &&& (65535 : Int32)), rv b21, .unset] [(.int (p2 &&& (65535 : Int32))), (.int ((40 : Int32) + (p1 &&& (31 : Int32))))])) rfl (by rw [hml]; rfl) (argsL := [(.int ((40 : Int32) + (p1 &&& (31 : Int32)))), (.int (p2 &&& (65535 : Int32)))]) (rest := []) (lenOf pd__II_Z rfl) rfl (by show 2 * 0 + _ ≤ _; exact Nat.le_of_eq rfl) (hb hby at_83) (fun _ _ => ⟨rfl, e22, (by decide : 5 + 0 ≤ _), (by decide : 114 + 0 ≤ _)⟩)
          dsimp only [Pt.U, Pt.locs, Pt.cells, Pt.slots] at X23 l23 y23 z23 st23 hQ23
          subst l23 y23 z23
          obtain ⟨rfl, Nq23, e23⟩ := hQ23
          have N23 := Fr.app N22 Nq23
          replace K : OGo p e below A0 T23 (mkF m 86 #[iv p1, iv p2, iv p3, iv ((40 : Int32) + (p1 &&& (31 : Int32))), iv (p2 &&& (65535 : Int32)), rv b21, .unset] [(.int (own_sup ((40 : Int32) + (p1 &&& (31 : Int32))) (p2 &&& (65535 : Int32))))]) := fun t k => K t (st23 t k)
          replace K : OGo p e below A0 T23 (mkF m 88 #[iv p1, iv p2, iv p3, iv ((40 : Int32) + (p1 &&& (31 : Int32))), iv (p2 &&& (65535 : Int32)), rv b21, iv (own_sup ((40 : Int32) + (p1 &&& (31 : Int32))) (p2 &&& (65535 : Int32)))] []) := fun t k => K t (XS.istore X23.here hx rfl (hb hby at_86) rfl (l' := #[iv p1, iv p2, iv p3, iv ((40 : Int32) + (p1 &&& (31 : Int32))), iv (p2 &&& (65535 : Int32)), rv b21, iv (own_sup ((40 : Int32) + (p1 &&& (31 : Int32))) (p2 &&& (65535 : Int32)))]) rfl k)
          replace K : OGo p e below A0 T23 (mkF m 90 #[iv p1, iv p2, iv p3, iv ((40 : Int32) + (p1 &&& (31 : Int32))), iv (p2 &&& (65535 : Int32)), rv b21, iv (own_sup ((40 : Int32) + (p1 &&& (31 : Int32))) (p2 &&& (65535 : Int32)))] [(.ref b21)]) := fun t k => K t (XS.aload X23.here hx rfl (hb hby at_88) rfl rfl k)
          have A21_25 := (A21.keep K22)
          obtain ⟨cq24, kq24, q24a, q24b, q24c⟩ := isOf hZ e23 A21_25
          obtain ⟨_, _, ⟨T24, L24, k24, n24⟩, -, X24, ⟨Lc24, hQ24, l24, y24, z24⟩, st24⟩ := X23.virtualBack hx (y := mN3) (z := mN3) hown (mvT hZ (ow hw 31 rfl)) (mvT hZ (ow hw 32 rfl)) (notFace_of_selects (args := #[]) (mvT hZ (ow hw 34 rfl))) (mvT hZ (ow hw 34 rfl)) (mvT hZ (ow hw 33 rfl)) (by decide) (backOf (W := 0) (rm_sup l Z a0 hw [] b21 ((40 : Int32) + (p1 &&& (31 : Int32))) (p2 &&& (65535 : Int32)) hp22 n0 Z22 P22_0 P22_1) hZ (ow hw 35 rfl) (ow hw 3 rfl) (by decide) (by decide)) q24a q24c (g := (mkF m 90 #[iv p1, iv p2, iv p3, iv ((40 : Int32) + (p1 &&& (31 : Int32))), iv (p2 &&& (65535 : Int32)), rv b21, iv (own_sup ((40 : Int32) + (p1 &&& (31 : Int32))) (p2 &&& (65535 : Int32)))] [(.ref b21)])) rfl (by rw [hml]; rfl) (Steps.refl _) (argsL := []) (rest := []) (lenOf pd___Z rfl) rfl (by show 2 * 0 + _ ≤ _; exact Nat.le_of_eq rfl) (hb hby at_90) (fun _ _ => ⟨rfl, e23, (by decide : 5 + 0 ≤ _), (by decide : 114 + 0 ≤ _)⟩)
          dsimp only [Pt.U, Pt.locs, Pt.cells, Pt.slots] at X24 l24 y24 z24 st24 hQ24
          subst l24 y24 z24
          obtain ⟨rfl, Nq24, e24⟩ := hQ24
          have N24 := Fr.app N23 Nq24
          replace K : OGo p e below A0 T24 (mkF m 93 #[iv p1, iv p2, iv p3, iv ((40 : Int32) + (p1 &&& (31 : Int32))), iv (p2 &&& (65535 : Int32)), rv b21, iv (own_sup ((40 : Int32) + (p1 &&& (31 : Int32))) (p2 &&& (65535 : Int32)))] [(.int (own_sup ((40 : Int32) + (p1 &&& (31 : Int32))) (p2 &&& (65535 : Int32))))]) := fun t k => K t (st24.trans k)
          replace K : OGo p e below A0 T24 (mkF m 95 #[iv p1, iv p2, iv p3, iv ((40 : Int32) + (p1 &&& (31 : Int32))), iv (p2 &&& (65535 : Int32)), rv b21, iv (own_sup ((40 : Int32) + (p1 &&& (31 : Int32))) (p2 &&& (65535 : Int32)))] [(.int (own_sup ((40 : Int32) + (p1 &&& (31 : Int32))) (p2 &&& (65535 : Int32)))), (.int (own_sup ((40 : Int32) + (p1 &&& (31 : Int32))) (p2 &&& (65535 : Int32))))]) := fun t k => K t (XS.iload X24.here hx rfl (hb hby at_93) rfl k)
          replace K : OGo p e below A0 T24 (mkF m 98 #[iv p1, iv p2, iv p3, iv ((40 : Int32) + (p1 &&& (31 : Int32))), iv (p2 &&& (65535 : Int32)), rv b21, iv (own_sup ((40 : Int32) + (p1 &&& (31 : Int32))) (p2 &&& (65535 : Int32)))] []) := fun t k => K t (XS.icmpNo X24.here hx rfl (hb hby at_95) rfl (teq (rfl : (own_sup ((40 : Int32) + (p1 &&& (31 : Int32))) (p2 &&& (65535 : Int32))) = (own_sup ((40 : Int32) + (p1 &&& (31 : Int32))) (p2 &&& (65535 : Int32))))).2 k)
          replace K : OGo p e below A0 T24 (mkF m 99 #[iv p1, iv p2, iv p3, iv ((40 : Int32) + (p1 &&& (31 : Int32))), iv (p2 &&& (65535 : Int32)), rv b21, iv (own_sup ((40 : Int32) + (p1 &&& (31 : Int32))) (p2 &&& (65535 : Int32)))] [(.int 1)]) := fun t k => K t (XS.iconst X24.here hx rfl (hb hby at_98) k)
          replace K : OGo p e below A0 T24 (mkF m 103 #[iv p1, iv p2, iv p3, iv ((40 : Int32) + (p1 &&& (31 : Int32))), iv (p2 &&& (65535 : Int32)), rv b21, iv (own_sup ((40 : Int32) + (p1 &&& (31 : Int32))) (p2 &&& (65535 : Int32)))] [(.int 1)]) := fun t k => K t (XS.goto X24.here hx rfl (pc0 := 99) (pc' := 103) rfl (hb hby at_99) (by decide) (by decide) k)
          obtain ⟨fs, hr, hrun, hended, hRW⟩ := X24.leaveW hS22 (by rw [e24]; exact hkS22) (v := some (.int (1 : Int32))) (fun h => by rw [Bd.returns] at h; cases h)
          subst hA0
          refine ⟨_, _, K _ (retN X24 hx (t := .boolean) Bd.returns (by simp) (hb hby at_103) hr), hrun, hended, _, _, rfl, ?_, hRW.1, hRW.2.1, hRW.2.2.1, hRW.2.2.2.mono (by decide) (by decide)⟩
          show Q_law Z p1 p2 p3 h0 n0 _ T24.heap _
          rw [e24]
          exact ⟨rfl, N24⟩
        · replace K : OGo p e below A0 s₁ (mkF m 54 #[iv p1, iv p2, iv p3, iv ((40 : Int32) + (p1 &&& (31 : Int32))), .unset, .unset, .unset] []) := fun t k => K t (XS.ifNo X0.here hx rfl (hb hby at_51) rfl ((if0 _ _).trans (feq hc51).1) k)
          replace K : OGo p e below A0 s₁ (mkF m 55 #[iv p1, iv p2, iv p3, iv ((40 : Int32) + (p1 &&& (31 : Int32))), .unset, .unset, .unset] [(.int p2)]) := fun t k => K t (XS.iloadN X0.here hx rfl (hb hby at_54) rfl k)
          replace K : OGo p e below A0 s₁ (mkF m 56 #[iv p1, iv p2, iv p3, iv ((40 : Int32) + (p1 &&& (31 : Int32))), .unset, .unset, .unset] [(.int 3), (.int p2)]) := fun t k => K t (XS.iconst X0.here hx rfl (hb hby at_55) k)
          replace K : OGo p e below A0 s₁ (mkF m 57 #[iv p1, iv p2, iv p3, iv ((40 : Int32) + (p1 &&& (31 : Int32))), .unset, .unset, .unset] [(.int (p2 &&& (3 : Int32)))]) := fun t k => K t (XS.iand X0.here hx rfl (hb hby at_56) rfl k)
          replace K : OGo p e below A0 s₁ (mkF m 59 #[iv p1, iv p2, iv p3, iv ((40 : Int32) + (p1 &&& (31 : Int32))), iv (p2 &&& (3 : Int32)), .unset, .unset] []) := fun t k => K t (XS.istore X0.here hx rfl (hb hby at_57) rfl (l' := #[iv p1, iv p2, iv p3, iv ((40 : Int32) + (p1 &&& (31 : Int32))), iv (p2 &&& (3 : Int32)), .unset, .unset]) rfl k)
          replace K : OGo p e below A0 s₁ (mkF m 68 #[iv p1, iv p2, iv p3, iv ((40 : Int32) + (p1 &&& (31 : Int32))), iv (p2 &&& (3 : Int32)), .unset, .unset] []) := fun t k => K t (XS.goto X0.here hx rfl (pc0 := 59) (pc' := 68) rfl (hb hby at_59) (by decide) (by decide) k)
          obtain ⟨T26, h26, X26, e26, E26, A26, D26, -, st26⟩ := newO X0 hx hZ hown (ow hw 1 rfl) (ow hw 2 rfl) (ow hw 3 rfl) e0 (g := (mkF m 68 #[iv p1, iv p2, iv p3, iv ((40 : Int32) + (p1 &&& (31 : Int32))), iv (p2 &&& (3 : Int32)), .unset, .unset] [])) rfl (hb hby at_68) (by decide) (by decide)
          obtain ⟨b26, gz26⟩ : ∃ z, z = h0.size := ⟨_, rfl⟩
          rw [← gz26] at A26 D26 st26
          have g_b26 : n0 ≤ b26 := Nat.le_trans Z0 (Nat.le_of_eq gz26.symm)
          have Z26 : n0 ≤ h26.size := Nat.le_trans Z0 E26.1
          have hk26 := Nat.le_trans hk0 E26.1
          have F_major_b26 : Fld Z h26 b26 cN0 "major" "I" (.int (0 : Int32)) := D26 (Or.inr (ow hw 23 rfl)) (ty := .int) (by decide)
          have F_minor_b26 : Fld Z h26 b26 cN0 "minor" "I" (.int (0 : Int32)) := D26 (Or.inr (ow hw 26 rfl)) (ty := .int) (by decide)
          replace K : OGo p e below A0 T26 (mkF m 71 #[iv p1, iv p2, iv p3, iv ((40 : Int32) + (p1 &&& (31 : Int32))), iv (p2 &&& (3 : Int32)), .unset, .unset] [(.ref b26)]) := fun t k => K t (st26 t k)
          replace K : OGo p e below A0 T26 (mkF m 72 #[iv p1, iv p2, iv p3, iv ((40 : Int32) + (p1 &&& (31 : Int32))), iv (p2 &&& (3 : Int32)), .unset, .unset] [(.ref b26), (.ref b26)]) := fun t k => K t (XS.dup X26.here hx rfl (hb hby at_71) rfl rfl k)
          replace K : OGo p e below A0 T26 (mkF m 73 #[iv p1, iv p2, iv p3, iv ((40 : Int32) + (p1 &&& (31 : Int32))), iv (p2 &&& (3 : Int32)), .unset, .unset] [(.int ((40 : Int32) + (p1 &&& (31 : Int32)))), (.ref b26), (.ref b26)]) := fun t k => K t (XS.iloadN X26.here hx rfl (hb hby at_72) rfl k)
          replace K : OGo p e below A0 T26 (mkF m 75 #[iv p1, iv p2, iv p3, iv ((40 : Int32) + (p1 &&& (31 : Int32))), iv (p2 &&& (3 : Int32)), .unset, .unset] [(.int (p2 &&& (3 : Int32))), (.int ((40 : Int32) + (p1 &&& (31 : Int32)))), (.ref b26), (.ref b26)]) := fun t k => K t (XS.iload X26.here hx rfl (hb hby at_73) rfl k)
          obtain ⟨_, _, ⟨T27, L27, k27, n27⟩, -, X27, hSn27, hgr27, ⟨Lc27, hQ27, l27, y27, z27⟩, st27⟩ := X26.specialBackS hx (y := mN1) rfl hown (mvT hZ (ow hw 4 rfl)) (mvT hZ (ow hw 5 rfl)) (mvT hZ (ow hw 6 rfl)) (by decide) (backOfS (W := 1) (rm_init l Z a0 hw [] b26 ((40 : Int32) + (p1 &&& (31 : Int32))) (p2 &&& (3 : Int32)) h26 n0 Z26 A26 F_major_b26 F_minor_b26 g_b26 (own_u2_40 _) (own_u2_3 _)) hZ (ow hw 6 rfl) (ow hw 3 rfl) (by decide) (by decide)) (g := (mkF m 75 #[iv p1, iv p2, iv p3, iv ((40 : Int32) + (p1 &&& (31 : Int32))), iv (p2 &&& (3 : Int32)), .unset, .unset] [(.int (p2 &&& (3 : Int32))), (.int ((40 : Int32) + (p1 &&& (31 : Int32)))), (.ref b26), (.ref b26)])) rfl (by rw [hml]; rfl) (Steps.refl _) (a := b26) (argsL := [(.int ((40 : Int32) + (p1 &&& (31 : Int32)))), (.int (p2 &&& (3 : Int32)))]) (rest := [(.ref b26)]) (lenOf pd__II_V rfl) rfl (by show 2 * 0 + _ ≤ _; exact Nat.le_of_eq rfl) (hb hby at_75) (fun _ _ => ⟨rfl, e26, (by decide : 1 + 4 ≤ _), (by decide : 2 + 112 ≤ _)⟩)
          dsimp only [Pt.U, Pt.locs, Pt.cells, Pt.slots] at X27 l27 y27 z27 st27 hQ27 hSn27 hgr27
          subst l27 y27 z27
          have hS27 := foldS (T := T26) hS0 (by rw [e26]; exact hk26) hSn27 hgr27
          replace hown := (hSn27.1.alike.findClass _ _).trans hown
          replace hZ := State.Warmed39.trans hZ hSn27.1
          obtain ⟨hp27, e27⟩ : ∃ z, T27.heap = z := ⟨_, rfl⟩
          rw [e27] at hQ27
          obtain ⟨rfl, Nq27, K27, P27_0, P27_1⟩ := hQ27
          have Z27 : n0 ≤ hp27.size := Nat.le_trans Z26 K27.1
          have hk27 := Nat.le_trans hk26 K27.1
          have hkS27 : T27.heap.size ≤ hp27.size := Nat.le_of_eq (congrArg Array.size e27)
          have N27 := Fr.app N0 Nq27
          replace K : OGo p e below A0 T27 (mkF m 78 #[iv p1, iv p2, iv p3, iv ((40 : Int32) + (p1 &&& (31 : Int32))), iv (p2 &&& (3 : Int32)), .unset, .unset] [(.ref b26)]) := fun t k => K t (st27.trans k)
          replace K : OGo p e below A0 T27 (mkF m 80 #[iv p1, iv p2, iv p3, iv ((40 : Int32) + (p1 &&& (31 : Int32))), iv (p2 &&& (3 : Int32)), rv b26, .unset] []) := fun t k => K t (XS.astore X27.here hx rfl (hb hby at_78) rfl rfl (l' := #[iv p1, iv p2, iv p3, iv ((40 : Int32) + (p1 &&& (31 : Int32))), iv (p2 &&& (3 : Int32)), rv b26, .unset]) rfl k)
          replace K : OGo p e below A0 T27 (mkF m 81 #[iv p1, iv p2, iv p3, iv ((40 : Int32) + (p1 &&& (31 : Int32))), iv (p2 &&& (3 : Int32)), rv b26, .unset] [(.int ((40 : Int32) + (p1 &&& (31 : Int32))))]) := fun t k => K t (XS.iloadN X27.here hx rfl (hb hby at_80) rfl k)
          replace K : OGo p e below A0 T27 (mkF m 83 #[iv p1, iv p2, iv p3, iv ((40 : Int32) + (p1 &&& (31 : Int32))), iv (p2 &&& (3 : Int32)), rv b26, .unset] [(.int (p2 &&& (3 : Int32))), (.int ((40 : Int32) + (p1 &&& (31 : Int32))))]) := fun t k => K t (XS.iload X27.here hx rfl (hb hby at_81) rfl k)
          obtain ⟨_, _, ⟨T28, L28, k28, n28⟩, -, X28, ⟨Lc28, hQ28, l28, y28, z28⟩, st28⟩ := Jvm.LawKit.callS X27 hx (y := mN2) hown (mvT hZ (ow hw 27 rfl)) (mvT hZ (ow hw 28 rfl)) (mvT hZ (ow hw 29 rfl)) (mvT hZ (ow hw 30 rfl)) (by decide) (backOf (W := 0) (rm_exp l Z a0 hw [] ((40 : Int32) + (p1 &&& (31 : Int32))) (p2 &&& (3 : Int32)) hp27 n0 Z27 ) hZ (ow hw 30 rfl) (ow hw 29 rfl) (by decide) (by decide)) (g := (mkF m 83 #[iv p1, iv p2, iv p3, iv ((40 : Int32) + (p1 &&& (31 : Int32))), iv (p2 &&& (3 : Int32)), rv b26, .unset] [(.int (p2 &&& (3 : Int32))), (.int ((40 : Int32) + (p1 &&& (31 : Int32))))])) rfl (by rw [hml]; rfl) (argsL := [(.int ((40 : Int32) + (p1 &&& (31 : Int32)))), (.int (p2 &&& (3 : Int32)))]) (rest := []) (lenOf pd__II_Z rfl) rfl (by show 2 * 0 + _ ≤ _; exact Nat.le_of_eq rfl) (hb hby at_83) (fun _ _ => ⟨rfl, e27, (by decide : 5 + 0 ≤ _), (by decide : 114 + 0 ≤ _)⟩)
          dsimp only [Pt.U, Pt.locs, Pt.cells, Pt.slots] at X28 l28 y28 z28 st28 hQ28
          subst l28 y28 z28
          obtain ⟨rfl, Nq28, e28⟩ := hQ28
          have N28 := Fr.app N27 Nq28
          replace K : OGo p e below A0 T28 (mkF m 86 #[iv p1, iv p2, iv p3, iv ((40 : Int32) + (p1 &&& (31 : Int32))), iv (p2 &&& (3 : Int32)), rv b26, .unset] [(.int (own_sup ((40 : Int32) + (p1 &&& (31 : Int32))) (p2 &&& (3 : Int32))))]) := fun t k => K t (st28 t k)
          replace K : OGo p e below A0 T28 (mkF m 88 #[iv p1, iv p2, iv p3, iv ((40 : Int32) + (p1 &&& (31 : Int32))), iv (p2 &&& (3 : Int32)), rv b26, iv (own_sup ((40 : Int32) + (p1 &&& (31 : Int32))) (p2 &&& (3 : Int32)))] []) := fun t k => K t (XS.istore X28.here hx rfl (hb hby at_86) rfl (l' := #[iv p1, iv p2, iv p3, iv ((40 : Int32) + (p1 &&& (31 : Int32))), iv (p2 &&& (3 : Int32)), rv b26, iv (own_sup ((40 : Int32) + (p1 &&& (31 : Int32))) (p2 &&& (3 : Int32)))]) rfl k)
          replace K : OGo p e below A0 T28 (mkF m 90 #[iv p1, iv p2, iv p3, iv ((40 : Int32) + (p1 &&& (31 : Int32))), iv (p2 &&& (3 : Int32)), rv b26, iv (own_sup ((40 : Int32) + (p1 &&& (31 : Int32))) (p2 &&& (3 : Int32)))] [(.ref b26)]) := fun t k => K t (XS.aload X28.here hx rfl (hb hby at_88) rfl rfl k)
          have A26_30 := (A26.keep K27)
          obtain ⟨cq29, kq29, q29a, q29b, q29c⟩ := isOf hZ e28 A26_30
          obtain ⟨_, _, ⟨T29, L29, k29, n29⟩, -, X29, ⟨Lc29, hQ29, l29, y29, z29⟩, st29⟩ := X28.virtualBack hx (y := mN3) (z := mN3) hown (mvT hZ (ow hw 31 rfl)) (mvT hZ (ow hw 32 rfl)) (notFace_of_selects (args := #[]) (mvT hZ (ow hw 34 rfl))) (mvT hZ (ow hw 34 rfl)) (mvT hZ (ow hw 33 rfl)) (by decide) (backOf (W := 0) (rm_sup l Z a0 hw [] b26 ((40 : Int32) + (p1 &&& (31 : Int32))) (p2 &&& (3 : Int32)) hp27 n0 Z27 P27_0 P27_1) hZ (ow hw 35 rfl) (ow hw 3 rfl) (by decide) (by decide)) q29a q29c (g := (mkF m 90 #[iv p1, iv p2, iv p3, iv ((40 : Int32) + (p1 &&& (31 : Int32))), iv (p2 &&& (3 : Int32)), rv b26, iv (own_sup ((40 : Int32) + (p1 &&& (31 : Int32))) (p2 &&& (3 : Int32)))] [(.ref b26)])) rfl (by rw [hml]; rfl) (Steps.refl _) (argsL := []) (rest := []) (lenOf pd___Z rfl) rfl (by show 2 * 0 + _ ≤ _; exact Nat.le_of_eq rfl) (hb hby at_90) (fun _ _ => ⟨rfl, e28, (by decide : 5 + 0 ≤ _), (by decide : 114 + 0 ≤ _)⟩)
          dsimp only [Pt.U, Pt.locs, Pt.cells, Pt.slots] at X29 l29 y29 z29 st29 hQ29
          subst l29 y29 z29
          obtain ⟨rfl, Nq29, e29⟩ := hQ29
          have N29 := Fr.app N28 Nq29
          replace K : OGo p e below A0 T29 (mkF m 93 #[iv p1, iv p2, iv p3, iv ((40 : Int32) + (p1 &&& (31 : Int32))), iv (p2 &&& (3 : Int32)), rv b26, iv (own_sup ((40 : Int32) + (p1 &&& (31 : Int32))) (p2 &&& (3 : Int32)))] [(.int (own_sup ((40 : Int32) + (p1 &&& (31 : Int32))) (p2 &&& (3 : Int32))))]) := fun t k => K t (st29.trans k)
          replace K : OGo p e below A0 T29 (mkF m 95 #[iv p1, iv p2, iv p3, iv ((40 : Int32) + (p1 &&& (31 : Int32))), iv (p2 &&& (3 : Int32)), rv b26, iv (own_sup ((40 : Int32) + (p1 &&& (31 : Int32))) (p2 &&& (3 : Int32)))] [(.int (own_sup ((40 : Int32) + (p1 &&& (31 : Int32))) (p2 &&& (3 : Int32)))), (.int (own_sup ((40 : Int32) + (p1 &&& (31 : Int32))) (p2 &&& (3 : Int32))))]) := fun t k => K t (XS.iload X29.here hx rfl (hb hby at_93) rfl k)
          replace K : OGo p e below A0 T29 (mkF m 98 #[iv p1, iv p2, iv p3, iv ((40 : Int32) + (p1 &&& (31 : Int32))), iv (p2 &&& (3 : Int32)), rv b26, iv (own_sup ((40 : Int32) + (p1 &&& (31 : Int32))) (p2 &&& (3 : Int32)))] []) := fun t k => K t (XS.icmpNo X29.here hx rfl (hb hby at_95) rfl (teq (rfl : (own_sup ((40 : Int32) + (p1 &&& (31 : Int32))) (p2 &&& (3 : Int32))) = (own_sup ((40 : Int32) + (p1 &&& (31 : Int32))) (p2 &&& (3 : Int32))))).2 k)
          replace K : OGo p e below A0 T29 (mkF m 99 #[iv p1, iv p2, iv p3, iv ((40 : Int32) + (p1 &&& (31 : Int32))), iv (p2 &&& (3 : Int32)), rv b26, iv (own_sup ((40 : Int32) + (p1 &&& (31 : Int32))) (p2 &&& (3 : Int32)))] [(.int 1)]) := fun t k => K t (XS.iconst X29.here hx rfl (hb hby at_98) k)
          replace K : OGo p e below A0 T29 (mkF m 103 #[iv p1, iv p2, iv p3, iv ((40 : Int32) + (p1 &&& (31 : Int32))), iv (p2 &&& (3 : Int32)), rv b26, iv (own_sup ((40 : Int32) + (p1 &&& (31 : Int32))) (p2 &&& (3 : Int32)))] [(.int 1)]) := fun t k => K t (XS.goto X29.here hx rfl (pc0 := 99) (pc' := 103) rfl (hb hby at_99) (by decide) (by decide) k)
          obtain ⟨fs, hr, hrun, hended, hRW⟩ := X29.leaveW hS27 (by rw [e29]; exact hkS27) (v := some (.int (1 : Int32))) (fun h => by rw [Bd.returns] at h; cases h)
          subst hA0
          refine ⟨_, _, K _ (retN X29 hx (t := .boolean) Bd.returns (by simp) (hb hby at_103) hr), hrun, hended, _, _, rfl, ?_, hRW.1, hRW.2.1, hRW.2.2.1, hRW.2.2.2.mono (by decide) (by decide)⟩
          show Q_law Z p1 p2 p3 h0 n0 _ T29.heap _
          rw [e29]
          exact ⟨rfl, N29⟩
      · replace K : OGo p e below A0 s₁ (mkF m 40 #[iv p1, iv p2, iv p3, iv ((40 : Int32) + (p1 &&& (31 : Int32))), .unset, .unset, .unset] []) := fun t k => K t (XS.ifNo X0.here hx rfl (hb hby at_37) rfl ((if0 _ _).trans (feq hc37).1) k)
        replace K : OGo p e below A0 s₁ (mkF m 42 #[iv p1, iv p2, iv p3, iv ((40 : Int32) + (p1 &&& (31 : Int32))), .unset, .unset, .unset] [(.int 65535)]) := fun t k => K t (X0.ldcInt hx hown (mvT hZ (ow hw 0 rfl)) (g := (mkF m 40 #[iv p1, iv p2, iv p3, iv ((40 : Int32) + (p1 &&& (31 : Int32))), .unset, .unset, .unset] [])) rfl (hb hby at_40) t k)
        replace K : OGo p e below A0 s₁ (mkF m 44 #[iv p1, iv p2, iv p3, iv ((40 : Int32) + (p1 &&& (31 : Int32))), iv 65535, .unset, .unset] []) := fun t k => K t (XS.istore X0.here hx rfl (hb hby at_42) rfl (l' := #[iv p1, iv p2, iv p3, iv ((40 : Int32) + (p1 &&& (31 : Int32))), iv 65535, .unset, .unset]) rfl k)
        replace K : OGo p e below A0 s₁ (mkF m 68 #[iv p1, iv p2, iv p3, iv ((40 : Int32) + (p1 &&& (31 : Int32))), iv 65535, .unset, .unset] []) := fun t k => K t (XS.goto X0.here hx rfl (pc0 := 44) (pc' := 68) rfl (hb hby at_44) (by decide) (by decide) k)
        obtain ⟨T31, h31, X31, e31, E31, A31, D31, -, st31⟩ := newO X0 hx hZ hown (ow hw 1 rfl) (ow hw 2 rfl) (ow hw 3 rfl) e0 (g := (mkF m 68 #[iv p1, iv p2, iv p3, iv ((40 : Int32) + (p1 &&& (31 : Int32))), iv 65535, .unset, .unset] [])) rfl (hb hby at_68) (by decide) (by decide)
        obtain ⟨b31, gz31⟩ : ∃ z, z = h0.size := ⟨_, rfl⟩
        rw [← gz31] at A31 D31 st31
        have g_b31 : n0 ≤ b31 := Nat.le_trans Z0 (Nat.le_of_eq gz31.symm)
        have Z31 : n0 ≤ h31.size := Nat.le_trans Z0 E31.1
        have hk31 := Nat.le_trans hk0 E31.1
        have F_major_b31 : Fld Z h31 b31 cN0 "major" "I" (.int (0 : Int32)) := D31 (Or.inr (ow hw 23 rfl)) (ty := .int) (by decide)
        have F_minor_b31 : Fld Z h31 b31 cN0 "minor" "I" (.int (0 : Int32)) := D31 (Or.inr (ow hw 26 rfl)) (ty := .int) (by decide)
        replace K : OGo p e below A0 T31 (mkF m 71 #[iv p1, iv p2, iv p3, iv ((40 : Int32) + (p1 &&& (31 : Int32))), iv 65535, .unset, .unset] [(.ref b31)]) := fun t k => K t (st31 t k)
        replace K : OGo p e below A0 T31 (mkF m 72 #[iv p1, iv p2, iv p3, iv ((40 : Int32) + (p1 &&& (31 : Int32))), iv 65535, .unset, .unset] [(.ref b31), (.ref b31)]) := fun t k => K t (XS.dup X31.here hx rfl (hb hby at_71) rfl rfl k)
        replace K : OGo p e below A0 T31 (mkF m 73 #[iv p1, iv p2, iv p3, iv ((40 : Int32) + (p1 &&& (31 : Int32))), iv 65535, .unset, .unset] [(.int ((40 : Int32) + (p1 &&& (31 : Int32)))), (.ref b31), (.ref b31)]) := fun t k => K t (XS.iloadN X31.here hx rfl (hb hby at_72) rfl k)
        replace K : OGo p e below A0 T31 (mkF m 75 #[iv p1, iv p2, iv p3, iv ((40 : Int32) + (p1 &&& (31 : Int32))), iv 65535, .unset, .unset] [(.int 65535), (.int ((40 : Int32) + (p1 &&& (31 : Int32)))), (.ref b31), (.ref b31)]) := fun t k => K t (XS.iload X31.here hx rfl (hb hby at_73) rfl k)
        obtain ⟨_, _, ⟨T32, L32, k32, n32⟩, -, X32, hSn32, hgr32, ⟨Lc32, hQ32, l32, y32, z32⟩, st32⟩ := X31.specialBackS hx (y := mN1) rfl hown (mvT hZ (ow hw 4 rfl)) (mvT hZ (ow hw 5 rfl)) (mvT hZ (ow hw 6 rfl)) (by decide) (backOfS (W := 1) (rm_init l Z a0 hw [] b31 ((40 : Int32) + (p1 &&& (31 : Int32))) (65535 : Int32) h31 n0 Z31 A31 F_major_b31 F_minor_b31 g_b31 (own_u2_40 _) (by unfold own_u2; decide)) hZ (ow hw 6 rfl) (ow hw 3 rfl) (by decide) (by decide)) (g := (mkF m 75 #[iv p1, iv p2, iv p3, iv ((40 : Int32) + (p1 &&& (31 : Int32))), iv 65535, .unset, .unset] [(.int 65535), (.int ((40 : Int32) + (p1 &&& (31 : Int32)))), (.ref b31), (.ref b31)])) rfl (by rw [hml]; rfl) (Steps.refl _) (a := b31) (argsL := [(.int ((40 : Int32) + (p1 &&& (31 : Int32)))), (.int (65535 : Int32))]) (rest := [(.ref b31)]) (lenOf pd__II_V rfl) rfl (by show 2 * 0 + _ ≤ _; exact Nat.le_of_eq rfl) (hb hby at_75) (fun _ _ => ⟨rfl, e31, (by decide : 1 + 4 ≤ _), (by decide : 2 + 112 ≤ _)⟩)
        dsimp only [Pt.U, Pt.locs, Pt.cells, Pt.slots] at X32 l32 y32 z32 st32 hQ32 hSn32 hgr32
        subst l32 y32 z32
        have hS32 := foldS (T := T31) hS0 (by rw [e31]; exact hk31) hSn32 hgr32
        replace hown := (hSn32.1.alike.findClass _ _).trans hown
        replace hZ := State.Warmed39.trans hZ hSn32.1
        obtain ⟨hp32, e32⟩ : ∃ z, T32.heap = z := ⟨_, rfl⟩
        rw [e32] at hQ32
        obtain ⟨rfl, Nq32, K32, P32_0, P32_1⟩ := hQ32
        have Z32 : n0 ≤ hp32.size := Nat.le_trans Z31 K32.1
        have hk32 := Nat.le_trans hk31 K32.1
        have hkS32 : T32.heap.size ≤ hp32.size := Nat.le_of_eq (congrArg Array.size e32)
        have N32 := Fr.app N0 Nq32
        replace K : OGo p e below A0 T32 (mkF m 78 #[iv p1, iv p2, iv p3, iv ((40 : Int32) + (p1 &&& (31 : Int32))), iv 65535, .unset, .unset] [(.ref b31)]) := fun t k => K t (st32.trans k)
        replace K : OGo p e below A0 T32 (mkF m 80 #[iv p1, iv p2, iv p3, iv ((40 : Int32) + (p1 &&& (31 : Int32))), iv 65535, rv b31, .unset] []) := fun t k => K t (XS.astore X32.here hx rfl (hb hby at_78) rfl rfl (l' := #[iv p1, iv p2, iv p3, iv ((40 : Int32) + (p1 &&& (31 : Int32))), iv 65535, rv b31, .unset]) rfl k)
        replace K : OGo p e below A0 T32 (mkF m 81 #[iv p1, iv p2, iv p3, iv ((40 : Int32) + (p1 &&& (31 : Int32))), iv 65535, rv b31, .unset] [(.int ((40 : Int32) + (p1 &&& (31 : Int32))))]) := fun t k => K t (XS.iloadN X32.here hx rfl (hb hby at_80) rfl k)
        replace K : OGo p e below A0 T32 (mkF m 83 #[iv p1, iv p2, iv p3, iv ((40 : Int32) + (p1 &&& (31 : Int32))), iv 65535, rv b31, .unset] [(.int 65535), (.int ((40 : Int32) + (p1 &&& (31 : Int32))))]) := fun t k => K t (XS.iload X32.here hx rfl (hb hby at_81) rfl k)
        obtain ⟨_, _, ⟨T33, L33, k33, n33⟩, -, X33, ⟨Lc33, hQ33, l33, y33, z33⟩, st33⟩ := Jvm.LawKit.callS X32 hx (y := mN2) hown (mvT hZ (ow hw 27 rfl)) (mvT hZ (ow hw 28 rfl)) (mvT hZ (ow hw 29 rfl)) (mvT hZ (ow hw 30 rfl)) (by decide) (backOf (W := 0) (rm_exp l Z a0 hw [] ((40 : Int32) + (p1 &&& (31 : Int32))) (65535 : Int32) hp32 n0 Z32 ) hZ (ow hw 30 rfl) (ow hw 29 rfl) (by decide) (by decide)) (g := (mkF m 83 #[iv p1, iv p2, iv p3, iv ((40 : Int32) + (p1 &&& (31 : Int32))), iv 65535, rv b31, .unset] [(.int 65535), (.int ((40 : Int32) + (p1 &&& (31 : Int32))))])) rfl (by rw [hml]; rfl) (argsL := [(.int ((40 : Int32) + (p1 &&& (31 : Int32)))), (.int (65535 : Int32))]) (rest := []) (lenOf pd__II_Z rfl) rfl (by show 2 * 0 + _ ≤ _; exact Nat.le_of_eq rfl) (hb hby at_83) (fun _ _ => ⟨rfl, e32, (by decide : 5 + 0 ≤ _), (by decide : 114 + 0 ≤ _)⟩)
        dsimp only [Pt.U, Pt.locs, Pt.cells, Pt.slots] at X33 l33 y33 z33 st33 hQ33
        subst l33 y33 z33
        obtain ⟨rfl, Nq33, e33⟩ := hQ33
        have N33 := Fr.app N32 Nq33
        replace K : OGo p e below A0 T33 (mkF m 86 #[iv p1, iv p2, iv p3, iv ((40 : Int32) + (p1 &&& (31 : Int32))), iv 65535, rv b31, .unset] [(.int (own_sup ((40 : Int32) + (p1 &&& (31 : Int32))) (65535 : Int32)))]) := fun t k => K t (st33 t k)
        replace K : OGo p e below A0 T33 (mkF m 88 #[iv p1, iv p2, iv p3, iv ((40 : Int32) + (p1 &&& (31 : Int32))), iv 65535, rv b31, iv (own_sup ((40 : Int32) + (p1 &&& (31 : Int32))) (65535 : Int32))] []) := fun t k => K t (XS.istore X33.here hx rfl (hb hby at_86) rfl (l' := #[iv p1, iv p2, iv p3, iv ((40 : Int32) + (p1 &&& (31 : Int32))), iv 65535, rv b31, iv (own_sup ((40 : Int32) + (p1 &&& (31 : Int32))) (65535 : Int32))]) rfl k)
        replace K : OGo p e below A0 T33 (mkF m 90 #[iv p1, iv p2, iv p3, iv ((40 : Int32) + (p1 &&& (31 : Int32))), iv 65535, rv b31, iv (own_sup ((40 : Int32) + (p1 &&& (31 : Int32))) (65535 : Int32))] [(.ref b31)]) := fun t k => K t (XS.aload X33.here hx rfl (hb hby at_88) rfl rfl k)
        have A31_35 := (A31.keep K32)
        obtain ⟨cq34, kq34, q34a, q34b, q34c⟩ := isOf hZ e33 A31_35
        obtain ⟨_, _, ⟨T34, L34, k34, n34⟩, -, X34, ⟨Lc34, hQ34, l34, y34, z34⟩, st34⟩ := X33.virtualBack hx (y := mN3) (z := mN3) hown (mvT hZ (ow hw 31 rfl)) (mvT hZ (ow hw 32 rfl)) (notFace_of_selects (args := #[]) (mvT hZ (ow hw 34 rfl))) (mvT hZ (ow hw 34 rfl)) (mvT hZ (ow hw 33 rfl)) (by decide) (backOf (W := 0) (rm_sup l Z a0 hw [] b31 ((40 : Int32) + (p1 &&& (31 : Int32))) (65535 : Int32) hp32 n0 Z32 P32_0 P32_1) hZ (ow hw 35 rfl) (ow hw 3 rfl) (by decide) (by decide)) q34a q34c (g := (mkF m 90 #[iv p1, iv p2, iv p3, iv ((40 : Int32) + (p1 &&& (31 : Int32))), iv 65535, rv b31, iv (own_sup ((40 : Int32) + (p1 &&& (31 : Int32))) (65535 : Int32))] [(.ref b31)])) rfl (by rw [hml]; rfl) (Steps.refl _) (argsL := []) (rest := []) (lenOf pd___Z rfl) rfl (by show 2 * 0 + _ ≤ _; exact Nat.le_of_eq rfl) (hb hby at_90) (fun _ _ => ⟨rfl, e33, (by decide : 5 + 0 ≤ _), (by decide : 114 + 0 ≤ _)⟩)
        dsimp only [Pt.U, Pt.locs, Pt.cells, Pt.slots] at X34 l34 y34 z34 st34 hQ34
        subst l34 y34 z34
        obtain ⟨rfl, Nq34, e34⟩ := hQ34
        have N34 := Fr.app N33 Nq34
        replace K : OGo p e below A0 T34 (mkF m 93 #[iv p1, iv p2, iv p3, iv ((40 : Int32) + (p1 &&& (31 : Int32))), iv 65535, rv b31, iv (own_sup ((40 : Int32) + (p1 &&& (31 : Int32))) (65535 : Int32))] [(.int (own_sup ((40 : Int32) + (p1 &&& (31 : Int32))) (65535 : Int32)))]) := fun t k => K t (st34.trans k)
        replace K : OGo p e below A0 T34 (mkF m 95 #[iv p1, iv p2, iv p3, iv ((40 : Int32) + (p1 &&& (31 : Int32))), iv 65535, rv b31, iv (own_sup ((40 : Int32) + (p1 &&& (31 : Int32))) (65535 : Int32))] [(.int (own_sup ((40 : Int32) + (p1 &&& (31 : Int32))) (65535 : Int32))), (.int (own_sup ((40 : Int32) + (p1 &&& (31 : Int32))) (65535 : Int32)))]) := fun t k => K t (XS.iload X34.here hx rfl (hb hby at_93) rfl k)
        replace K : OGo p e below A0 T34 (mkF m 98 #[iv p1, iv p2, iv p3, iv ((40 : Int32) + (p1 &&& (31 : Int32))), iv 65535, rv b31, iv (own_sup ((40 : Int32) + (p1 &&& (31 : Int32))) (65535 : Int32))] []) := fun t k => K t (XS.icmpNo X34.here hx rfl (hb hby at_95) rfl (teq (rfl : (own_sup ((40 : Int32) + (p1 &&& (31 : Int32))) (65535 : Int32)) = (own_sup ((40 : Int32) + (p1 &&& (31 : Int32))) (65535 : Int32)))).2 k)
        replace K : OGo p e below A0 T34 (mkF m 99 #[iv p1, iv p2, iv p3, iv ((40 : Int32) + (p1 &&& (31 : Int32))), iv 65535, rv b31, iv (own_sup ((40 : Int32) + (p1 &&& (31 : Int32))) (65535 : Int32))] [(.int 1)]) := fun t k => K t (XS.iconst X34.here hx rfl (hb hby at_98) k)
        replace K : OGo p e below A0 T34 (mkF m 103 #[iv p1, iv p2, iv p3, iv ((40 : Int32) + (p1 &&& (31 : Int32))), iv 65535, rv b31, iv (own_sup ((40 : Int32) + (p1 &&& (31 : Int32))) (65535 : Int32))] [(.int 1)]) := fun t k => K t (XS.goto X34.here hx rfl (pc0 := 99) (pc' := 103) rfl (hb hby at_99) (by decide) (by decide) k)
        obtain ⟨fs, hr, hrun, hended, hRW⟩ := X34.leaveW hS32 (by rw [e34]; exact hkS32) (v := some (.int (1 : Int32))) (fun h => by rw [Bd.returns] at h; cases h)
        subst hA0
        refine ⟨_, _, K _ (retN X34 hx (t := .boolean) Bd.returns (by simp) (hb hby at_103) hr), hrun, hended, _, _, rfl, ?_, hRW.1, hRW.2.1, hRW.2.2.1, hRW.2.2.2.mono (by decide) (by decide)⟩
        show Q_law Z p1 p2 p3 h0 n0 _ T34.heap _
        rw [e34]
        exact ⟨rfl, N34⟩
    · replace K : OGo p e below A0 s₁ (mkF m 28 #[iv p1, iv p2, iv p3, iv ((40 : Int32) + (p1 &&& (31 : Int32))), .unset, .unset, .unset] []) := fun t k => K t (XS.ifNo X0.here hx rfl (hb hby at_25) rfl ((if0 _ _).trans (feq hc25).1) k)
      replace K : OGo p e below A0 s₁ (mkF m 29 #[iv p1, iv p2, iv p3, iv ((40 : Int32) + (p1 &&& (31 : Int32))), .unset, .unset, .unset] [(.int 0)]) := fun t k => K t (XS.iconst X0.here hx rfl (hb hby at_28) k)
      replace K : OGo p e below A0 s₁ (mkF m 31 #[iv p1, iv p2, iv p3, iv ((40 : Int32) + (p1 &&& (31 : Int32))), iv 0, .unset, .unset] []) := fun t k => K t (XS.istore X0.here hx rfl (hb hby at_29) rfl (l' := #[iv p1, iv p2, iv p3, iv ((40 : Int32) + (p1 &&& (31 : Int32))), iv 0, .unset, .unset]) rfl k)
      replace K : OGo p e below A0 s₁ (mkF m 68 #[iv p1, iv p2, iv p3, iv ((40 : Int32) + (p1 &&& (31 : Int32))), iv 0, .unset, .unset] []) := fun t k => K t (XS.goto X0.here hx rfl (pc0 := 31) (pc' := 68) rfl (hb hby at_31) (by decide) (by decide) k)
      obtain ⟨T36, h36, X36, e36, E36, A36, D36, -, st36⟩ := newO X0 hx hZ hown (ow hw 1 rfl) (ow hw 2 rfl) (ow hw 3 rfl) e0 (g := (mkF m 68 #[iv p1, iv p2, iv p3, iv ((40 : Int32) + (p1 &&& (31 : Int32))), iv 0, .unset, .unset] [])) rfl (hb hby at_68) (by decide) (by decide)
      obtain ⟨b36, gz36⟩ : ∃ z, z = h0.size := ⟨_, rfl⟩
      rw [← gz36] at A36 D36 st36
      have g_b36 : n0 ≤ b36 := Nat.le_trans Z0 (Nat.le_of_eq gz36.symm)
      have Z36 : n0 ≤ h36.size := Nat.le_trans Z0 E36.1
      have hk36 := Nat.le_trans hk0 E36.1
      have F_major_b36 : Fld Z h36 b36 cN0 "major" "I" (.int (0 : Int32)) := D36 (Or.inr (ow hw 23 rfl)) (ty := .int) (by decide)
      have F_minor_b36 : Fld Z h36 b36 cN0 "minor" "I" (.int (0 : Int32)) := D36 (Or.inr (ow hw 26 rfl)) (ty := .int) (by decide)
      replace K : OGo p e below A0 T36 (mkF m 71 #[iv p1, iv p2, iv p3, iv ((40 : Int32) + (p1 &&& (31 : Int32))), iv 0, .unset, .unset] [(.ref b36)]) := fun t k => K t (st36 t k)
      replace K : OGo p e below A0 T36 (mkF m 72 #[iv p1, iv p2, iv p3, iv ((40 : Int32) + (p1 &&& (31 : Int32))), iv 0, .unset, .unset] [(.ref b36), (.ref b36)]) := fun t k => K t (XS.dup X36.here hx rfl (hb hby at_71) rfl rfl k)
      replace K : OGo p e below A0 T36 (mkF m 73 #[iv p1, iv p2, iv p3, iv ((40 : Int32) + (p1 &&& (31 : Int32))), iv 0, .unset, .unset] [(.int ((40 : Int32) + (p1 &&& (31 : Int32)))), (.ref b36), (.ref b36)]) := fun t k => K t (XS.iloadN X36.here hx rfl (hb hby at_72) rfl k)
      replace K : OGo p e below A0 T36 (mkF m 75 #[iv p1, iv p2, iv p3, iv ((40 : Int32) + (p1 &&& (31 : Int32))), iv 0, .unset, .unset] [(.int 0), (.int ((40 : Int32) + (p1 &&& (31 : Int32)))), (.ref b36), (.ref b36)]) := fun t k => K t (XS.iload X36.here hx rfl (hb hby at_73) rfl k)
      obtain ⟨_, _, ⟨T37, L37, k37, n37⟩, -, X37, hSn37, hgr37, ⟨Lc37, hQ37, l37, y37, z37⟩, st37⟩ := X36.specialBackS hx (y := mN1) rfl hown (mvT hZ (ow hw 4 rfl)) (mvT hZ (ow hw 5 rfl)) (mvT hZ (ow hw 6 rfl)) (by decide) (backOfS (W := 1) (rm_init l Z a0 hw [] b36 ((40 : Int32) + (p1 &&& (31 : Int32))) (0 : Int32) h36 n0 Z36 A36 F_major_b36 F_minor_b36 g_b36 (own_u2_40 _) (by unfold own_u2; decide)) hZ (ow hw 6 rfl) (ow hw 3 rfl) (by decide) (by decide)) (g := (mkF m 75 #[iv p1, iv p2, iv p3, iv ((40 : Int32) + (p1 &&& (31 : Int32))), iv 0, .unset, .unset] [(.int 0), (.int ((40 : Int32) + (p1 &&& (31 : Int32)))), (.ref b36), (.ref b36)])) rfl (by rw [hml]; rfl) (Steps.refl _) (a := b36) (argsL := [(.int ((40 : Int32) + (p1 &&& (31 : Int32)))), (.int (0 : Int32))]) (rest := [(.ref b36)]) (lenOf pd__II_V rfl) rfl (by show 2 * 0 + _ ≤ _; exact Nat.le_of_eq rfl) (hb hby at_75) (fun _ _ => ⟨rfl, e36, (by decide : 1 + 4 ≤ _), (by decide : 2 + 112 ≤ _)⟩)
      dsimp only [Pt.U, Pt.locs, Pt.cells, Pt.slots] at X37 l37 y37 z37 st37 hQ37 hSn37 hgr37
      subst l37 y37 z37
      have hS37 := foldS (T := T36) hS0 (by rw [e36]; exact hk36) hSn37 hgr37
      replace hown := (hSn37.1.alike.findClass _ _).trans hown
      replace hZ := State.Warmed39.trans hZ hSn37.1
      obtain ⟨hp37, e37⟩ : ∃ z, T37.heap = z := ⟨_, rfl⟩
      rw [e37] at hQ37
      obtain ⟨rfl, Nq37, K37, P37_0, P37_1⟩ := hQ37
      have Z37 : n0 ≤ hp37.size := Nat.le_trans Z36 K37.1
      have hk37 := Nat.le_trans hk36 K37.1
      have hkS37 : T37.heap.size ≤ hp37.size := Nat.le_of_eq (congrArg Array.size e37)
      have N37 := Fr.app N0 Nq37
      replace K : OGo p e below A0 T37 (mkF m 78 #[iv p1, iv p2, iv p3, iv ((40 : Int32) + (p1 &&& (31 : Int32))), iv 0, .unset, .unset] [(.ref b36)]) := fun t k => K t (st37.trans k)
      replace K : OGo p e below A0 T37 (mkF m 80 #[iv p1, iv p2, iv p3, iv ((40 : Int32) + (p1 &&& (31 : Int32))), iv 0, rv b36, .unset] []) := fun t k => K t (XS.astore X37.here hx rfl (hb hby at_78) rfl rfl (l' := #[iv p1, iv p2, iv p3, iv ((40 : Int32) + (p1 &&& (31 : Int32))), iv 0, rv b36, .unset]) rfl k)
      replace K : OGo p e below A0 T37 (mkF m 81 #[iv p1, iv p2, iv p3, iv ((40 : Int32) + (p1 &&& (31 : Int32))), iv 0, rv b36, .unset] [(.int ((40 : Int32) + (p1 &&& (31 : Int32))))]) := fun t k => K t (XS.iloadN X37.here hx rfl (hb hby at_80) rfl k)
      replace K : OGo p e below A0 T37 (mkF m 83 #[iv p1, iv p2, iv p3, iv ((40 : Int32) + (p1 &&& (31 : Int32))), iv 0, rv b36, .unset] [(.int 0), (.int ((40 : Int32) + (p1 &&& (31 : Int32))))]) := fun t k => K t (XS.iload X37.here hx rfl (hb hby at_81) rfl k)
      obtain ⟨_, _, ⟨T38, L38, k38, n38⟩, -, X38, ⟨Lc38, hQ38, l38, y38, z38⟩, st38⟩ := Jvm.LawKit.callS X37 hx (y := mN2) hown (mvT hZ (ow hw 27 rfl)) (mvT hZ (ow hw 28 rfl)) (mvT hZ (ow hw 29 rfl)) (mvT hZ (ow hw 30 rfl)) (by decide) (backOf (W := 0) (rm_exp l Z a0 hw [] ((40 : Int32) + (p1 &&& (31 : Int32))) (0 : Int32) hp37 n0 Z37 ) hZ (ow hw 30 rfl) (ow hw 29 rfl) (by decide) (by decide)) (g := (mkF m 83 #[iv p1, iv p2, iv p3, iv ((40 : Int32) + (p1 &&& (31 : Int32))), iv 0, rv b36, .unset] [(.int 0), (.int ((40 : Int32) + (p1 &&& (31 : Int32))))])) rfl (by rw [hml]; rfl) (argsL := [(.int ((40 : Int32) + (p1 &&& (31 : Int32)))), (.int (0 : Int32))]) (rest := []) (lenOf pd__II_Z rfl) rfl (by show 2 * 0 + _ ≤ _; exact Nat.le_of_eq rfl) (hb hby at_83) (fun _ _ => ⟨rfl, e37, (by decide : 5 + 0 ≤ _), (by decide : 114 + 0 ≤ _)⟩)
      dsimp only [Pt.U, Pt.locs, Pt.cells, Pt.slots] at X38 l38 y38 z38 st38 hQ38
      subst l38 y38 z38
      obtain ⟨rfl, Nq38, e38⟩ := hQ38
      have N38 := Fr.app N37 Nq38
      replace K : OGo p e below A0 T38 (mkF m 86 #[iv p1, iv p2, iv p3, iv ((40 : Int32) + (p1 &&& (31 : Int32))), iv 0, rv b36, .unset] [(.int (own_sup ((40 : Int32) + (p1 &&& (31 : Int32))) (0 : Int32)))]) := fun t k => K t (st38 t k)
      replace K : OGo p e below A0 T38 (mkF m 88 #[iv p1, iv p2, iv p3, iv ((40 : Int32) + (p1 &&& (31 : Int32))), iv 0, rv b36, iv (own_sup ((40 : Int32) + (p1 &&& (31 : Int32))) (0 : Int32))] []) := fun t k => K t (XS.istore X38.here hx rfl (hb hby at_86) rfl (l' := #[iv p1, iv p2, iv p3, iv ((40 : Int32) + (p1 &&& (31 : Int32))), iv 0, rv b36, iv (own_sup ((40 : Int32) + (p1 &&& (31 : Int32))) (0 : Int32))]) rfl k)
      replace K : OGo p e below A0 T38 (mkF m 90 #[iv p1, iv p2, iv p3, iv ((40 : Int32) + (p1 &&& (31 : Int32))), iv 0, rv b36, iv (own_sup ((40 : Int32) + (p1 &&& (31 : Int32))) (0 : Int32))] [(.ref b36)]) := fun t k => K t (XS.aload X38.here hx rfl (hb hby at_88) rfl rfl k)
      have A36_40 := (A36.keep K37)
      obtain ⟨cq39, kq39, q39a, q39b, q39c⟩ := isOf hZ e38 A36_40
      obtain ⟨_, _, ⟨T39, L39, k39, n39⟩, -, X39, ⟨Lc39, hQ39, l39, y39, z39⟩, st39⟩ := X38.virtualBack hx (y := mN3) (z := mN3) hown (mvT hZ (ow hw 31 rfl)) (mvT hZ (ow hw 32 rfl)) (notFace_of_selects (args := #[]) (mvT hZ (ow hw 34 rfl))) (mvT hZ (ow hw 34 rfl)) (mvT hZ (ow hw 33 rfl)) (by decide) (backOf (W := 0) (rm_sup l Z a0 hw [] b36 ((40 : Int32) + (p1 &&& (31 : Int32))) (0 : Int32) hp37 n0 Z37 P37_0 P37_1) hZ (ow hw 35 rfl) (ow hw 3 rfl) (by decide) (by decide)) q39a q39c (g := (mkF m 90 #[iv p1, iv p2, iv p3, iv ((40 : Int32) + (p1 &&& (31 : Int32))), iv 0, rv b36, iv (own_sup ((40 : Int32) + (p1 &&& (31 : Int32))) (0 : Int32))] [(.ref b36)])) rfl (by rw [hml]; rfl) (Steps.refl _) (argsL := []) (rest := []) (lenOf pd___Z rfl) rfl (by show 2 * 0 + _ ≤ _; exact Nat.le_of_eq rfl) (hb hby at_90) (fun _ _ => ⟨rfl, e38, (by decide : 5 + 0 ≤ _), (by decide : 114 + 0 ≤ _)⟩)
      dsimp only [Pt.U, Pt.locs, Pt.cells, Pt.slots] at X39 l39 y39 z39 st39 hQ39
      subst l39 y39 z39
      obtain ⟨rfl, Nq39, e39⟩ := hQ39
      have N39 := Fr.app N38 Nq39
      replace K : OGo p e below A0 T39 (mkF m 93 #[iv p1, iv p2, iv p3, iv ((40 : Int32) + (p1 &&& (31 : Int32))), iv 0, rv b36, iv (own_sup ((40 : Int32) + (p1 &&& (31 : Int32))) (0 : Int32))] [(.int (own_sup ((40 : Int32) + (p1 &&& (31 : Int32))) (0 : Int32)))]) := fun t k => K t (st39.trans k)
      replace K : OGo p e below A0 T39 (mkF m 95 #[iv p1, iv p2, iv p3, iv ((40 : Int32) + (p1 &&& (31 : Int32))), iv 0, rv b36, iv (own_sup ((40 : Int32) + (p1 &&& (31 : Int32))) (0 : Int32))] [(.int (own_sup ((40 : Int32) + (p1 &&& (31 : Int32))) (0 : Int32))), (.int (own_sup ((40 : Int32) + (p1 &&& (31 : Int32))) (0 : Int32)))]) := fun t k => K t (XS.iload X39.here hx rfl (hb hby at_93) rfl k)
      replace K : OGo p e below A0 T39 (mkF m 98 #[iv p1, iv p2, iv p3, iv ((40 : Int32) + (p1 &&& (31 : Int32))), iv 0, rv b36, iv (own_sup ((40 : Int32) + (p1 &&& (31 : Int32))) (0 : Int32))] []) := fun t k => K t (XS.icmpNo X39.here hx rfl (hb hby at_95) rfl (teq (rfl : (own_sup ((40 : Int32) + (p1 &&& (31 : Int32))) (0 : Int32)) = (own_sup ((40 : Int32) + (p1 &&& (31 : Int32))) (0 : Int32)))).2 k)
      replace K : OGo p e below A0 T39 (mkF m 99 #[iv p1, iv p2, iv p3, iv ((40 : Int32) + (p1 &&& (31 : Int32))), iv 0, rv b36, iv (own_sup ((40 : Int32) + (p1 &&& (31 : Int32))) (0 : Int32))] [(.int 1)]) := fun t k => K t (XS.iconst X39.here hx rfl (hb hby at_98) k)
      replace K : OGo p e below A0 T39 (mkF m 103 #[iv p1, iv p2, iv p3, iv ((40 : Int32) + (p1 &&& (31 : Int32))), iv 0, rv b36, iv (own_sup ((40 : Int32) + (p1 &&& (31 : Int32))) (0 : Int32))] [(.int 1)]) := fun t k => K t (XS.goto X39.here hx rfl (pc0 := 99) (pc' := 103) rfl (hb hby at_99) (by decide) (by decide) k)
      obtain ⟨fs, hr, hrun, hended, hRW⟩ := X39.leaveW hS37 (by rw [e39]; exact hkS37) (v := some (.int (1 : Int32))) (fun h => by rw [Bd.returns] at h; cases h)
      subst hA0
      refine ⟨_, _, K _ (retN X39 hx (t := .boolean) Bd.returns (by simp) (hb hby at_103) hr), hrun, hended, _, _, rfl, ?_, hRW.1, hRW.2.1, hRW.2.2.1, hRW.2.2.2.mono (by decide) (by decide)⟩
      show Q_law Z p1 p2 p3 h0 n0 _ T39.heap _
      rw [e39]
      exact ⟨rfl, N39⟩
set_option maxRecDepth 65536 in
set_option maxHeartbeats 40000000 in
theorem comes_1 {Post : Tables → Env → Array Value → State → Outcome → State → Prop} (hpost : ∀ tb e args s v u, (limb_1_1.after args s (.returned v) u = true ∧ limb_1_2.after args s (.returned v) u = true ∧ True) → ReturnedEndW s (.returned v) u (Jvm.fieldLocs frame_1_writes args s ++ Jvm.arrayLocs frame_1_arrays args s ++ Jvm.staticLocs frame_1_statics s) 16 2176 → Post tb e args s (.returned v) u) :
    ArmFor flags0 classFile x code maxLocals ret World_1 tables_1 room_1 Calls_1 rest_1 Pre_1 Post := by
  intro l hfl _ _ p e ha hc hk s m args below hf hA hF happ hP
  obtain ⟨hcalls, hrest, hpre⟩ := hP
  obtain ⟨-, -, -, hnamed, -, -, -, hat⟩ := (Spec.applies_iff hf).mp happ
  obtain ⟨hg, hn⟩ := and_e (Cond.before_iff.mp (show (Jvm.Cond.and given_1 narrow_1).before args s = true from hpre))
  obtain ⟨gv1, gv2⟩ := and_e hg
  obtain ⟨gv3, gv4⟩ := and_e gv2
  obtain ⟨gv5, gv6⟩ := and_e gv4
  obtain ⟨w0, w1, w2, rfl⟩ : ∃ w0 w1 w2 : Value, args = #[w0, w1, w2] := by
    have hs : args.size = 3 := by simpa [Cond.value, given_1] using gv1
    obtain ⟨L⟩ := args
    match L, hs with
    | [w0, w1, w2], _ => exact ⟨w0, w1, w2, rfl⟩
  have hw := fun d (hd : d ∈ tables_1) => atoms_spec (ws := Jvm.Cond.code x code maxLocals ret :: tables_1) hat d (List.mem_cons_of_mem _ hd)
  have hfit : Fit s := fun {y c} hc i hi => by
    obtain ⟨ha, rfl⟩ := Array.getElem?_eq_some_iff.mp hc
    have q := List.all_eq_true.mp ((Array.all_eq_true_iff_forall_mem.mp hF) _ (Array.getElem_mem ha)) i (List.mem_range.mpr hi)
    simpa [Array.getElem?_eq_getElem hi] using q
  obtain ⟨i0, ei0⟩ := is_v gv3
  obtain rfl : w0 = (.int i0) := Option.some.inj ei0
  obtain ⟨i1, ei1⟩ := is_v gv5
  obtain rfl : w1 = (.int i1) := Option.some.inj ei1
  obtain ⟨i2, ei2⟩ := is_v gv6
  obtain rfl : w2 = (.int i2) := Option.some.inj ei2
  obtain ⟨n, o, h1, h2, h3, _, L, rfl, ⟨rfl, N⟩, hq⟩ := rm_law l s _ hw tables_1 i0 i1 i2 s.heap s.heap.size (Nat.le_refl _)  p e ha hc hk s m _ below hf ((Spec.applies_iff_loose hf).mp happ).1 ⟨rfl, State.Warmed39.refl s, rfl⟩ trivial
  refine ⟨n, _, h1, h2, h3, hpost _ _ _ _ _ _ ⟨Cond.after_iff.mpr rfl, Cond.after_iff.mpr (eq_i res_at (Term.int_eval (1)) rfl), trivial⟩ ⟨hq.1, hq.2.1, hq.2.2.1, (hq.2.2.2.sift fun y hy => Or.inr (N y hy)).mono (by decide) (by decide)⟩⟩
theorem main_1_1 : Claimed_1_1 := comes_1 fun _ _ _ _ _ _ h hF => ⟨h.1, hF⟩
theorem main_1_2 : Claimed_1_2 := comes_1 fun _ _ _ _ _ _ h hF => ⟨h.2.1, hF⟩
end Jvm.Pilot.@@N@@
namespace Jvm.Pilot.@@N@@
open Jvm Jvm.ClassFile Sem Op Lib Jvm.Free Jvm.Stand Jvm.Pilot.@@N@@.Jvm.D
/-! MADE BY PROGRAM (witnessworld.py) out of the Statement's table words and the real class files: 14 classes; the members and pool entries that the words name. The judged class is class 1, her method 1. -/
namespace start1
open Jvm.ClassFile
def u (s : String) : CpInfo := .utf8 (stringToUtf16 s)
/-- a pool by its gaps: so many unusable entries, then the entry; so many at the end -/
def gap : Nat → List CpInfo → List CpInfo
  | 0, r => r
  | n + 1, r => .unusable :: gap n r
def poolList (es : List (Nat × CpInfo)) (last : Nat) : List CpInfo := es.foldr (fun e r => gap e.1 (e.2 :: r)) (gap last [])
def pool (es : List (Nat × CpInfo)) (last : Nat) : Array CpInfo := ⟨poolList es last⟩
def fileOf (pool : Array CpInfo) (this : Nat) (attrs : Array Attribute := #[]) (ms : Array MethodInfo := #[]) (fl : Nat := 33) (sup : Nat := 0) (ifs : Array Nat := #[]) (fds : Array FieldInfo := #[]) : ClassFile where
  minorVersion := 0
  majorVersion := 65
  constantPool := pool
  accessFlags := fl
  thisClass := this
  superClass := sup
  interfaces := ifs
  fields := fds
  methods := ms
  attributes := attrs
def plain (name : String) (sup : Option ClassId) : Class where
  name := name
  kind := .ordinary
  loader := none
  accessFlags := 33
  super := sup
  interfaces := #[]
  cf := none
  fields := #[]
  methods := #[]
  instanceTypes := #[]
  staticTypes := #[]
  resolved := #[]
  callSites := []
  init := .initialized
  statics := none
  mirror := none

def pool0 : Array CpInfo := pool [(5, u "<init>"), (0, u "()V"), (1, .class_ 10), (1, u "java/lang/Object")] 113

def k0c0 : Code := { maxStack := 0, maxLocals := 1, code := object_method_1_code, exceptionTable := #[], attributes := #[] }
def k0m0 : Method := { name := "<init>", desc := "()V", sig := { parameters := [], returnType := none }, accessFlags := 1, code := some k0c0 }
/-- java/lang/Object -/
def k0 : Class := { plain "java/lang/Object" none with
  accessFlags := 33
  interfaces := #[]
  cf := some (fileOf pool0 8 #[] #[{ accessFlags := 1, nameIndex := 5, descriptorIndex := 6, attributes := #[] }] 33 0 #[] #[])
  fields := #[]
  methods := #[k0m0]
  instanceTypes := #[]
  staticTypes := #[]
  resolved := Array.replicate 124 none
  statics := none }

def pool1 : Array CpInfo := pool [(2, .class_ 4), (1, u "java/lang/Object"), (0, u "<init>"), (0, u "()V"), (0, .integer 65535), (0, .class_ 9), (0, u "com/example/bytecrane/bytecrane/classfile/ClassFileVersion"), (0, .methodref 8 11), (0, .nameAndType 5 12), (0, u "(II)V"), (0, .methodref 14 15), (0, .class_ 16), (0, .nameAndType 17 18), (0, u "com/example/bytecrane/bytecrane/classfile/ClassFileVersionIsSupportedPinLaw"), (0, u "expectedSupported"), (0, u "(II)Z"), (0, .methodref 8 20), (0, .nameAndType 21 22), (0, u "isSupported"), (0, u "()Z"), (2, u "law"), (0, u "(III)Z")] 3

def k1m0 : Method := { name := "<init>", desc := "()V", sig := { parameters := [], returnType := none }, accessFlags := 2, code := none }
def k1c1 : Code := { maxStack := 4, maxLocals := 7, code := code, exceptionTable := #[], attributes := #[] }
def k1m1 : Method := { name := "law", desc := "(III)Z", sig := { parameters := [.int, .int, .int], returnType := some .boolean }, accessFlags := 9, code := some k1c1 }
def k1c2 : Code := { maxStack := 2, maxLocals := 2, code := method_3_code, exceptionTable := #[], attributes := #[] }
def k1m2 : Method := { name := "expectedSupported", desc := "(II)Z", sig := { parameters := [.int, .int], returnType := some .boolean }, accessFlags := 10, code := some k1c2 }
/-- com/example/bytecrane/bytecrane/classfile/ClassFileVersionIsSupportedPinLaw -/
def k1 : Class := { plain "com/example/bytecrane/bytecrane/classfile/ClassFileVersionIsSupportedPinLaw" (some 0) with
  accessFlags := 49
  interfaces := #[]
  cf := some (fileOf pool1 14 #[] #[{ accessFlags := 2, nameIndex := 5, descriptorIndex := 6, attributes := #[] }, { accessFlags := 9, nameIndex := 25, descriptorIndex := 26, attributes := #[] }, { accessFlags := 10, nameIndex := 17, descriptorIndex := 18, attributes := #[] }] 49 2 #[] #[])
  fields := #[]
  methods := #[k1m0, k1m1, k1m2]
  instanceTypes := #[]
  staticTypes := #[]
  resolved := Array.replicate 30 none
  statics := none }

def pool2 : Array CpInfo := pool [(1, .class_ 2), (0, u "com/example/bytecrane/bytecrane/classfile/ClassFileVersion"), (0, .methodref 4 5), (0, .class_ 6), (0, .nameAndType 7 8), (0, u "java/lang/Object"), (0, u "<init>"), (0, u "()V"), (0, .string 10), (0, u "major_version"), (0, .methodref 1 12), (0, .nameAndType 13 14), (0, u "requireU2"), (0, u "(Ljava/lang/String;I)I"), (0, .fieldref 1 16), (0, .nameAndType 17 18), (0, u "major"), (0, u "I"), (0, .string 20), (0, u "minor_version"), (0, .fieldref 1 22), (0, .nameAndType 23 18), (0, u "minor"), (0, .integer 65535), (12, u "()Z"), (8, u "isSupported"), (21, u "OLDEST_MAJOR"), (2, u "NEWEST_MAJOR"), (1, u "LAST_MAJOR_WITH_ANY_MINOR"), (1, u "PREVIEW_MINOR"), (0, u "U2_MAX"), (0, u "SUPPORTED_VERSIONS"), (0, u "Ljava/lang/String;"), (2, u "(II)V")] 29

def k2c0 : Code := { maxStack := 3, maxLocals := 3, code := prog_12_method_1_code, exceptionTable := #[], attributes := #[] }
def k2m0 : Method := { name := "<init>", desc := "(II)V", sig := { parameters := [.int, .int], returnType := none }, accessFlags := 1, code := some k2c0 }
def k2c1 : Code := { maxStack := 4, maxLocals := 2, code := prog_12_method_2_code, exceptionTable := #[], attributes := #[] }
def k2m1 : Method := { name := "requireU2", desc := "(Ljava/lang/String;I)I", sig := { parameters := [(.object "java/lang/String"), .int], returnType := some .int }, accessFlags := 10, code := some k2c1 }
def k2c2 : Code := { maxStack := 2, maxLocals := 2, code := prog_12_method_6_code, exceptionTable := #[], attributes := #[] }
def k2m2 : Method := { name := "isSupported", desc := "()Z", sig := { parameters := [], returnType := some .boolean }, accessFlags := 1, code := some k2c2 }
/-- com/example/bytecrane/bytecrane/classfile/ClassFileVersion -/
def k2 : Class := { plain "com/example/bytecrane/bytecrane/classfile/ClassFileVersion" (some 0) with
  accessFlags := 49
  interfaces := #[]
  cf := some (fileOf pool2 1 #[] #[{ accessFlags := 1, nameIndex := 7, descriptorIndex := 81, attributes := #[] }, { accessFlags := 10, nameIndex := 13, descriptorIndex := 14, attributes := #[] }, { accessFlags := 1, nameIndex := 46, descriptorIndex := 37, attributes := #[] }] 49 4 #[] #[{ accessFlags := 25, nameIndex := 68, descriptorIndex := 18, attributes := #[] }, { accessFlags := 25, nameIndex := 71, descriptorIndex := 18, attributes := #[] }, { accessFlags := 26, nameIndex := 73, descriptorIndex := 18, attributes := #[] }, { accessFlags := 26, nameIndex := 75, descriptorIndex := 18, attributes := #[] }, { accessFlags := 26, nameIndex := 76, descriptorIndex := 18, attributes := #[] }, { accessFlags := 26, nameIndex := 77, descriptorIndex := 78, attributes := #[] }, { accessFlags := 18, nameIndex := 17, descriptorIndex := 18, attributes := #[] }, { accessFlags := 18, nameIndex := 23, descriptorIndex := 18, attributes := #[] }])
  fields := #[{ name := "OLDEST_MAJOR", type := .int, accessFlags := 25, slot := 0, constantValue := 0 }, { name := "NEWEST_MAJOR", type := .int, accessFlags := 25, slot := 1, constantValue := 0 }, { name := "LAST_MAJOR_WITH_ANY_MINOR", type := .int, accessFlags := 26, slot := 2, constantValue := 0 }, { name := "PREVIEW_MINOR", type := .int, accessFlags := 26, slot := 3, constantValue := 0 }, { name := "U2_MAX", type := .int, accessFlags := 26, slot := 4, constantValue := 0 }, { name := "SUPPORTED_VERSIONS", type := (.object "java/lang/String"), accessFlags := 26, slot := 5, constantValue := 0 }, { name := "major", type := .int, accessFlags := 18, slot := 0, constantValue := 0 }, { name := "minor", type := .int, accessFlags := 18, slot := 1, constantValue := 0 }]
  methods := #[k2m0, k2m1, k2m2]
  instanceTypes := #[.int, .int]
  staticTypes := #[.int, .int, .int, .int, .int, (.object "java/lang/String")]
  resolved := Array.replicate 111 none
  statics := none }

def pool3 : Array CpInfo := pool [(1, .class_ 2), (0, u "java/io/Serializable"), (0, .class_ 4), (0, u "java/lang/Object")] 2

/-- java/io/Serializable -/
def k3 : Class := { plain "java/io/Serializable" (some 0) with
  accessFlags := 1537
  interfaces := #[]
  cf := some (fileOf pool3 1 #[] #[] 1537 3 #[] #[])
  fields := #[]
  methods := #[]
  instanceTypes := #[]
  staticTypes := #[]
  resolved := Array.replicate 7 none
  statics := none }

def pool4 : Array CpInfo := pool [(1, .class_ 2), (0, u "java/lang/Comparable"), (0, .class_ 4), (0, u "java/lang/Object")] 7

/-- java/lang/Comparable -/
def k4 : Class := { plain "java/lang/Comparable" (some 0) with
  accessFlags := 1537
  interfaces := #[]
  cf := some (fileOf pool4 1 #[] #[] 1537 3 #[] #[])
  fields := #[]
  methods := #[]
  instanceTypes := #[]
  staticTypes := #[]
  resolved := Array.replicate 12 none
  statics := none }

def pool5 : Array CpInfo := pool [(2, .class_ 4), (1, u "java/lang/CharSequence"), (42, .class_ 48), (0, u "java/lang/CharSequence$1CodePointIterator"), (10, .class_ 60), (0, u "java/lang/CharSequence$1CharIterator"), (5, .class_ 67), (0, u "java/lang/Object")] 63

/-- java/lang/CharSequence -/
def k5 : Class := { plain "java/lang/CharSequence" (some 0) with
  accessFlags := 1537
  interfaces := #[]
  cf := some (fileOf pool5 2 #[.nestMembers #[47, 59]] #[] 1537 66 #[] #[])
  fields := #[]
  methods := #[]
  instanceTypes := #[]
  staticTypes := #[]
  resolved := Array.replicate 131 none
  statics := none }

def pool6 : Array CpInfo := pool [(1, .class_ 2), (0, u "java/lang/constant/Constable"), (0, .class_ 4), (0, u "java/lang/Object")] 6

/-- java/lang/constant/Constable -/
def k6 : Class := { plain "java/lang/constant/Constable" (some 0) with
  accessFlags := 1537
  interfaces := #[]
  cf := some (fileOf pool6 1 #[] #[] 1537 3 #[] #[])
  fields := #[]
  methods := #[]
  instanceTypes := #[]
  staticTypes := #[]
  resolved := Array.replicate 11 none
  statics := none }

def pool7 : Array CpInfo := pool [(1, .class_ 2), (0, u "java/lang/constant/ConstantDesc"), (0, .class_ 4), (0, u "java/lang/Object")] 32

/-- java/lang/constant/ConstantDesc -/
def k7 : Class := { plain "java/lang/constant/ConstantDesc" (some 0) with
  accessFlags := 1537
  interfaces := #[]
  cf := some (fileOf pool7 1 #[] #[] 1537 3 #[] #[])
  fields := #[]
  methods := #[]
  instanceTypes := #[]
  staticTypes := #[]
  resolved := Array.replicate 37 none
  statics := none }

def pool8 : Array CpInfo := pool [(2, .class_ 4), (1, u "java/lang/Object"), (0, u "<init>"), (0, u "()V"), (3, .class_ 12), (1, u "java/lang/String"), (0, u "value"), (0, u "[B"), (2, u "coder"), (0, u "B"), (2, u "hash"), (0, u "I"), (2, u "hashIsZero"), (0, u "Z"), (13, u "COMPACT_STRINGS"), (534, .class_ 576), (0, u "java/lang/CharSequence"), (22, u "CASE_INSENSITIVE_ORDER"), (0, u "Ljava/util/Comparator;"), (500, u "serialPersistentFields"), (0, u "[Ljava/io/ObjectStreamField;"), (0, .class_ 1104), (0, u "java/lang/String$CaseInsensitiveComparator"), (1, .class_ 1107), (0, u "java/io/Serializable"), (0, .class_ 1109), (0, u "java/lang/Comparable"), (0, .class_ 1111), (0, u "java/lang/constant/Constable"), (0, .class_ 1113), (0, u "java/lang/constant/ConstantDesc"), (2, u "serialVersionUID"), (0, u "J"), (3, u "REPL"), (0, u "C"), (2, u "LATIN1"), (1, u "UTF16")] 323

def k8m0 : Method := { name := "<init>", desc := "()V", sig := { parameters := [], returnType := none }, accessFlags := 1, code := none }
/-- java/lang/String -/
def k8 : Class := { plain "java/lang/String" (some 0) with
  accessFlags := 49
  interfaces := #[3, 4, 5, 6, 7]
  cf := some (fileOf pool8 10 #[.nestMembers #[1103]] #[{ accessFlags := 1, nameIndex := 5, descriptorIndex := 6, attributes := #[] }] 49 2 #[1106, 1108, 575, 1110, 1112] #[{ accessFlags := 18, nameIndex := 13, descriptorIndex := 14, attributes := #[] }, { accessFlags := 18, nameIndex := 17, descriptorIndex := 18, attributes := #[] }, { accessFlags := 2, nameIndex := 21, descriptorIndex := 22, attributes := #[] }, { accessFlags := 2, nameIndex := 25, descriptorIndex := 26, attributes := #[] }, { accessFlags := 26, nameIndex := 1116, descriptorIndex := 1117, attributes := #[] }, { accessFlags := 24, nameIndex := 40, descriptorIndex := 26, attributes := #[] }, { accessFlags := 26, nameIndex := 1101, descriptorIndex := 1102, attributes := #[] }, { accessFlags := 26, nameIndex := 1121, descriptorIndex := 1122, attributes := #[] }, { accessFlags := 25, nameIndex := 599, descriptorIndex := 600, attributes := #[] }, { accessFlags := 24, nameIndex := 1125, descriptorIndex := 18, attributes := #[] }, { accessFlags := 24, nameIndex := 1127, descriptorIndex := 18, attributes := #[] }])
  fields := #[{ name := "value", type := (.array .byte), accessFlags := 18, slot := 0, constantValue := 0 }, { name := "coder", type := .byte, accessFlags := 18, slot := 1, constantValue := 0 }, { name := "hash", type := .int, accessFlags := 2, slot := 2, constantValue := 0 }, { name := "hashIsZero", type := .boolean, accessFlags := 2, slot := 3, constantValue := 0 }, { name := "serialVersionUID", type := .long, accessFlags := 26, slot := 0, constantValue := 0 }, { name := "COMPACT_STRINGS", type := .boolean, accessFlags := 24, slot := 1, constantValue := 0 }, { name := "serialPersistentFields", type := (.array (.object "java/io/ObjectStreamField")), accessFlags := 26, slot := 2, constantValue := 0 }, { name := "REPL", type := .char, accessFlags := 26, slot := 3, constantValue := 0 }, { name := "CASE_INSENSITIVE_ORDER", type := (.object "java/util/Comparator"), accessFlags := 25, slot := 4, constantValue := 0 }, { name := "LATIN1", type := .byte, accessFlags := 24, slot := 5, constantValue := 0 }, { name := "UTF16", type := .byte, accessFlags := 24, slot := 6, constantValue := 0 }]
  methods := #[k8m0]
  instanceTypes := #[(.array .byte), .byte, .int, .boolean]
  staticTypes := #[.long, .boolean, (.array (.object "java/io/ObjectStreamField")), .char, (.object "java/util/Comparator"), .byte, .byte]
  resolved := Array.replicate 1451 none
  statics := none }

def pool9 : Array CpInfo := pool [(1, u "java/lang/Cloneable"), (0, .class_ 1), (0, u "java/lang/Object"), (0, .class_ 3)] 3

/-- java/lang/Cloneable -/
def k9 : Class := { plain "java/lang/Cloneable" (some 0) with
  accessFlags := 1537
  interfaces := #[]
  cf := some (fileOf pool9 2 #[] #[] 1537 4 #[] #[])
  fields := #[]
  methods := #[]
  instanceTypes := #[]
  staticTypes := #[]
  resolved := Array.replicate 8 none
  statics := none }

/-- the primitive byte -/
def k10 : Class := { plain "byte" none with kind := .primitive 'B', accessFlags := 0x411 }
/-- [B -/
def k11 : Class := { plain "[B" (some 0) with kind := .array 10 .byte, interfaces := #[9, 3], accessFlags := 1041 }

/-- the primitive int -/
def k12 : Class := { plain "int" none with kind := .primitive 'I', accessFlags := 0x411 }
/-- [I -/
def k13 : Class := { plain "[I" (some 0) with kind := .array 12 .int, interfaces := #[9, 3], accessFlags := 1041 }

def heap : Heap := #[]
def classes : Array Class := #[k0, k1, k2, k3, k4, k5, k6, k7, k8, k9, k10, k11, k12, k13]
def interned : List (Array UInt16 × Addr) := []
def slotsUsed : Nat := 0
def theMethod : MethodId := ⟨1, 1⟩
def args0 : Array Value := #[.int 5, .int 7, .int 3]
def aboutOver (below : List Frame) : State where
  vm := { classes := classes, interned := interned.toArray }
  heap := heap
  slotsUsed := slotsUsed
  threads := #[{ frames := .invoking theMethod args0 :: below }]
def below0 : List Frame := [.native { method := ⟨0, 0⟩, args := #[] }]
def about1 : State := aboutOver below0
def p0 : Program := .bare "" "" ""
def e0 : Env := launch0.env 0 0 0
theorem w_frames : about1.frames = Frame.invoking theMethod args0 :: below0 := rfl
set_option maxRecDepth 65536 in
theorem w_args : argsFit about1.vm theMethod args0 = true := by decide +kernel
set_option maxRecDepth 65536 in
theorem w_heap : heapFits about1 = true := by decide +kernel
set_option maxRecDepth 65536 in
theorem w_runnable : about1.curStatus? = some .runnable := by decide +kernel
set_option maxRecDepth 65536 in
theorem w_alone : about1.alone = true := by decide +kernel
set_option maxRecDepth 65536 in
theorem w_named : about1.methodNamed? x = some theMethod := by decide +kernel
set_option maxRecDepth 65536 in
theorem w_hears : about1.hears theMethod below0 = true := by decide +kernel
set_option maxRecDepth 65536 in
theorem w_ripe : about1.ripe theMethod args0 below0 = true := by decide +kernel
theorem w_running : about1.status = .running := rfl
set_option maxRecDepth 65536 in
theorem w_room : about1.hasRoom e0.platform room_1 = true :=
  launch0.hasRoom_least _ room_1 (by decide +kernel) (by decide +kernel) (by decide +kernel) (by decide +kernel) (by decide +kernel) (by decide +kernel)
theorem allAtoms_all (ts : List Jvm.Cond) (a : Array Jvm.Value) (st : Jvm.State) : (allAtoms ts).before a st = ts.all (fun c => c.before a st) := by
  induction ts with
  | nil => rfl
  | cons c t ih =>
    show (Jvm.Cond.and c (allAtoms t)).before a st = _
    rw [Jvm.Cond.before_and, ih, List.all_cons]
def words1 : List Jvm.Cond := Jvm.Cond.code x code maxLocals ret :: tables_1
/-- a 'code' word, met by the world's own term for the bytes: nothing is compared byte by byte -/
theorem code_word {y : MethodName} {bytes : ByteArray} {mx : Nat} {rt : Option FieldType} {a : Array Value} {s : State} {m : MethodId} {meth : Method} {c : Code} (h1 : s.methodNamed? y = some m) (h2 : s.vm.method? m = some meth) (h3 : meth.code = some c) (h4 : c.code = bytes)
    (h5 : (c.maxLocals == mx && c.exceptionTable.isEmpty && decide (c.maxStack ≤ mostOperands) && decide (meth.sig.returnType = rt) && !meth.locks && decide (parseMethodDescriptor y.desc = some meth.sig)) = true) : (Jvm.Cond.code y bytes mx rt).before a s = true := by
  simp only [Bool.and_eq_true, beq_iff_eq, Bool.not_eq_true', decide_eq_true_eq] at h5
  obtain ⟨⟨⟨⟨⟨g1, g2⟩, g3⟩, g4⟩, g5⟩, g6⟩ := h5
  simp [Cond.before, Cond.holds, Cond.value, h1, h2, h3, h4, g1, g2, g3, g4, g5, g6]
def isCode : Jvm.Cond → Bool
  | .code _ _ _ _ => true
  | _ => false
theorem all_split {L : List Jvm.Cond} {P : Jvm.Cond → Bool} (h1 : L.all (fun c => isCode c || P c) = true) (h2 : ∀ c ∈ L.filter isCode, P c = true) : L.all P = true := by
  refine List.all_eq_true.mpr fun c hc => ?_
  have h := List.all_eq_true.mp h1 c hc
  rcases Bool.eq_false_or_eq_true (isCode c) with hi | hi
  · exact h2 c (List.mem_filter.mpr ⟨hc, hi⟩)
  · simpa [hi] using h
set_option maxRecDepth 65536 in
theorem w_c0 : (Jvm.Cond.code x code maxLocals ret).before args0 about1 = true := code_word (m := ⟨1, 1⟩) (meth := k1m1) (c := k1c1) (by decide +kernel) rfl rfl rfl (by decide +kernel)
set_option maxRecDepth 65536 in
theorem w_c1 : (Jvm.Cond.code ({ cls := "com/example/bytecrane/bytecrane/classfile/ClassFileVersion", name := "<init>", desc := "(II)V" } : Jvm.MethodName) prog_12_method_1_code (3 : Nat) (Option.none : Option Jvm.ClassFile.FieldType)).before args0 about1 = true := code_word (m := ⟨2, 0⟩) (meth := k2m0) (c := k2c0) (by decide +kernel) rfl rfl rfl (by decide +kernel)
set_option maxRecDepth 65536 in
theorem w_c2 : (Jvm.Cond.code ({ cls := "java/lang/Object", name := "<init>", desc := "()V" } : Jvm.MethodName) object_method_1_code (1 : Nat) (Option.none : Option Jvm.ClassFile.FieldType)).before args0 about1 = true := code_word (m := ⟨0, 0⟩) (meth := k0m0) (c := k0c0) (by decide +kernel) rfl rfl rfl (by decide +kernel)
set_option maxRecDepth 65536 in
theorem w_c3 : (Jvm.Cond.code ({ cls := "com/example/bytecrane/bytecrane/classfile/ClassFileVersion", name := "requireU2", desc := "(Ljava/lang/String;I)I" } : Jvm.MethodName) prog_12_method_2_code (2 : Nat) (Option.some Jvm.ClassFile.FieldType.int)).before args0 about1 = true := code_word (m := ⟨2, 1⟩) (meth := k2m1) (c := k2c1) (by decide +kernel) rfl rfl rfl (by decide +kernel)
set_option maxRecDepth 65536 in
theorem w_c4 : (Jvm.Cond.code ({ cls := "com/example/bytecrane/bytecrane/classfile/ClassFileVersionIsSupportedPinLaw", name := "expectedSupported", desc := "(II)Z" } : Jvm.MethodName) method_3_code (2 : Nat) (Option.some Jvm.ClassFile.FieldType.boolean)).before args0 about1 = true := code_word (m := ⟨1, 2⟩) (meth := k1m2) (c := k1c2) (by decide +kernel) rfl rfl rfl (by decide +kernel)
set_option maxRecDepth 65536 in
theorem w_c5 : (Jvm.Cond.code ({ cls := "com/example/bytecrane/bytecrane/classfile/ClassFileVersion", name := "isSupported", desc := "()Z" } : Jvm.MethodName) prog_12_method_6_code (2 : Nat) (Option.some Jvm.ClassFile.FieldType.boolean)).before args0 about1 = true := code_word (m := ⟨2, 2⟩) (meth := k2m2) (c := k2c2) (by decide +kernel) rfl rfl rfl (by decide +kernel)
def codes1 : List Jvm.Cond := [Jvm.Cond.code x code maxLocals ret, Jvm.Cond.code ({ cls := "com/example/bytecrane/bytecrane/classfile/ClassFileVersion", name := "<init>", desc := "(II)V" } : Jvm.MethodName) prog_12_method_1_code (3 : Nat) (Option.none : Option Jvm.ClassFile.FieldType), Jvm.Cond.code ({ cls := "java/lang/Object", name := "<init>", desc := "()V" } : Jvm.MethodName) object_method_1_code (1 : Nat) (Option.none : Option Jvm.ClassFile.FieldType), Jvm.Cond.code ({ cls := "com/example/bytecrane/bytecrane/classfile/ClassFileVersion", name := "requireU2", desc := "(Ljava/lang/String;I)I" } : Jvm.MethodName) prog_12_method_2_code (2 : Nat) (Option.some Jvm.ClassFile.FieldType.int), Jvm.Cond.code ({ cls := "com/example/bytecrane/bytecrane/classfile/ClassFileVersionIsSupportedPinLaw", name := "expectedSupported", desc := "(II)Z" } : Jvm.MethodName) method_3_code (2 : Nat) (Option.some Jvm.ClassFile.FieldType.boolean), Jvm.Cond.code ({ cls := "com/example/bytecrane/bytecrane/classfile/ClassFileVersion", name := "isSupported", desc := "()Z" } : Jvm.MethodName) prog_12_method_6_code (2 : Nat) (Option.some Jvm.ClassFile.FieldType.boolean)]
set_option maxRecDepth 65536 in
theorem codes_eq : words1.filter isCode = codes1 := rfl
theorem w_codes : ∀ c ∈ words1.filter isCode, c.before args0 about1 = true := by
  rw [codes_eq]
  intro c hc
  simp only [codes1, List.mem_cons, List.not_mem_nil, or_false] at hc
  rcases hc with rfl | rfl | rfl | rfl | rfl | rfl
  · exact w_c0
  · exact w_c1
  · exact w_c2
  · exact w_c3
  · exact w_c4
  · exact w_c5
set_option maxRecDepth 65536 in
theorem w_t1 : (words1.take 24).all (fun c => isCode c || c.before args0 about1) = true := by decide +kernel
set_option maxRecDepth 65536 in
theorem w_t2 : (words1.drop 24).all (fun c => isCode c || c.before args0 about1) = true := by decide +kernel
theorem w_tables : (allAtoms (Jvm.Cond.code x code maxLocals ret :: tables_1)).before args0 about1 = true := by
  rw [allAtoms_all]
  show words1.all (fun c => c.before args0 about1) = true
  refine all_split ?_ w_codes
  rw [← List.take_append_drop 24 words1, List.all_append, w_t1, w_t2]
  rfl
set_option maxRecDepth 65536 in
theorem w_case : (Jvm.Cond.and given_1 narrow_1).before args0 about1 = true := by decide +kernel
theorem w_applies : (headSpec (Jvm.Cond.code x code maxLocals ret :: tables_1) room_1).applies x e0.platform about1 = true :=
  (Spec.applies_iff w_frames).mpr ⟨w_running, w_runnable, w_alone, w_named, w_hears, w_ripe, w_room, w_tables⟩
theorem atStart : AtStart classFile x code maxLocals ret World_1 tables_1 room_1 Calls_1 rest_1 Pre_1 launch0 p0 e0 about1 theMethod args0 below0 :=
  ⟨lists_1, trivial, launch0.admits_env _ _ _, launch0.least_env, fairChoices_fair.cas, fairChoices_fair.clock, w_frames, w_args, w_heap, w_applies, trivial, trivial, w_case⟩
end start1
theorem witness_1 : WitnessClaimed_1 := ⟨start1.p0, start1.e0, start1.about1, start1.theMethod, start1.args0, start1.below0, start1.atStart⟩
end Jvm.Pilot.@@N@@
