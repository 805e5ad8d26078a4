import JvmDerived
import JvmDerived.Pilot.@@N@@Statement
import JvmDerived.Pilot.@@N@@Code
set_option linter.unusedVariables false
set_option linter.unusedSimpArgs false
namespace Jvm.RoadKit
open Sem ClassFile Op Lib Jvm.Stand Jvm.Free Jvm.LawKit
section OwnKit
variable {p : Program} {l : Launch} {e : Env} {R : Room} {s : State} {m : MethodId} {args : Array Value} {below : List Frame} {meth : Method} {c : Code} {T : State} {locs : List Loc} {cells slots : Nat} {Z : State} {a0 : Array Value} {h h' : Heap}
/-- the run has come from A to T with the frame g on top -/
def OGo (p : Program) (e : Env) (below : List Frame) (A T : State) (g : JFrame) : Prop := ∀ t, Steps p.tables e below (T.setTop g) t → Steps p.tables e below A t
/-- the array at a holds just these values -/
def OAr (Z : State) (h : Heap) (a : Addr) (k : ClassId) (ty : FieldType) (vs : List Value) : Prop := ∃ c : Cell, Arr Z h a c ty ∧ c.cls = k ∧ c.slots = vs.toArray
variable {a b : Addr} {k : ClassId} {ty : FieldType} {vs ws : List Value} {v w : Value} {sl : Nat} {wl : List Addr}
theorem OAr.lt (F : OAr Z h a k ty vs) : a < h.size := by obtain ⟨c, A, -⟩ := F; exact A.lt
theorem OAr.ext (F : OAr Z h a k ty vs) (E : Ext h h') : OAr Z h' a k ty vs := by obtain ⟨c, A, r⟩ := F; exact ⟨c, A.ext E, r⟩
theorem OAr.other (F : OAr Z h b k ty vs) (W : Wr h h' a sl v) (q : b ≠ a) : OAr Z h' b k ty vs := by obtain ⟨c, A, r⟩ := F; exact ⟨c, A.other W q, r⟩
theorem OAr.keep (F : OAr Z h a k ty vs) (K : Keep h h' wl) (q : a ∉ wl) : OAr Z h' a k ty vs := by obtain ⟨c, A, r⟩ := F; exact ⟨c, ⟨K.2.1 a c A.1 q, A.2⟩, r⟩
theorem OAr.new {n : Int32} (A : Arr Z h a (newA k ty n) ty) : OAr Z h a k ty (List.replicate n.toNatClampNeg (defaultValue ty)) := ⟨_, A, rfl, by simp [newA]⟩
theorem OAr.same (F : OAr Z h a k ty vs) (W : Wr h h' a sl v) : OAr Z h' a k ty (vs.set sl v) := by
  obtain ⟨c, A, r1, r2⟩ := F
  exact ⟨_, A.same W, r1, by simp only [Cell.setSlot]; rw [r2]; simp⟩
theorem OAr.cast (F : OAr Z h a k ty vs) (q : vs = ws) : OAr Z h a k ty ws := q ▸ F
theorem OAr.plain (F : OAr Z h a k ty vs) : ∀ cell : Cell, h[a]? = some cell → cell.vm.isStatics = false := fun cell hc => by
  obtain ⟨c, A, -⟩ := F
  cases A.1.symm.trans hc
  exact A.plain
theorem own_in {j : Int32} (h0 : ¬ j < 0) (hv : vs[j.toNatClampNeg]? = some v) {c : Cell} (q : c.slots = vs.toArray) : ¬ (j < 0 ∨ c.slots.size ≤ j.toNatClampNeg) ∧ c.slots[j.toNatClampNeg]? = some v := by
  have h1 := (List.getElem?_eq_some_iff.mp hv).1
  rw [q]
  refine ⟨fun r => r.elim h0 fun r => ?_, by simpa using hv⟩
  simp at r
  omega
theorem own_ldI (X : Stand p l e R s m args below meth c T locs cells slots) (hx : p.tables.exec = Jvm.exec) (hZ : Z.Warmed39 s.vm) (eT : T.heap = h) (F : OAr Z h a k .int vs) {j : Int32} (h0 : ¬ j < 0) (hv : vs[j.toNatClampNeg]? = some v) {g : JFrame} (hg : g.method = m) {rest : List Value} (hs : g.stack = .int j :: .ref a :: rest) (hd : decode c.code g.pc = .ok (.iaload, 1)) (t : State)
    (hr : Steps p.tables e below (T.setTop { g with pc := g.pc + 1, stack := v :: rest }) t) : Steps p.tables e below (T.setTop g) t := by
  obtain ⟨cl, A, -, r⟩ := F
  obtain ⟨q1, q2⟩ := own_in h0 hv r
  exact X.iaload hx (by rw [eT]; exact A.1) (State.isArrayOf_alike hZ.alike A.2.1) A.2.2 q1 q2 hg hs hd t hr
theorem own_ldJ (X : Stand p l e R s m args below meth c T locs cells slots) (hx : p.tables.exec = Jvm.exec) (hZ : Z.Warmed39 s.vm) (eT : T.heap = h) (F : OAr Z h a k .long vs) {j : Int32} (h0 : ¬ j < 0) (hv : vs[j.toNatClampNeg]? = some v) {g : JFrame} (hg : g.method = m) {rest : List Value} (hs : g.stack = .int j :: .ref a :: rest) (hd : decode c.code g.pc = .ok (.laload, 1)) (t : State)
    (hr : Steps p.tables e below (T.setTop { g with pc := g.pc + 1, stack := v :: rest }) t) : Steps p.tables e below (T.setTop g) t := by
  obtain ⟨cl, A, -, r⟩ := F
  obtain ⟨q1, q2⟩ := own_in h0 hv r
  exact X.laload hx (by rw [eT]; exact A.1) (State.isArrayOf_alike hZ.alike A.2.1) A.2.2 q1 q2 hg hs hd t hr
theorem own_ldC (X : Stand p l e R s m args below meth c T locs cells slots) (hx : p.tables.exec = Jvm.exec) (hZ : Z.Warmed39 s.vm) (eT : T.heap = h) (F : OAr Z h a k .char vs) {j : Int32} (h0 : ¬ j < 0) (hv : vs[j.toNatClampNeg]? = some v) {g : JFrame} (hg : g.method = m) {rest : List Value} (hs : g.stack = .int j :: .ref a :: rest) (hd : decode c.code g.pc = .ok (.caload, 1)) (t : State)
    (hr : Steps p.tables e below (T.setTop { g with pc := g.pc + 1, stack := v :: rest }) t) : Steps p.tables e below (T.setTop g) t := by
  obtain ⟨cl, A, -, r⟩ := F
  obtain ⟨q1, q2⟩ := own_in h0 hv r
  exact X.caload hx (by rw [eT]; exact A.1) (State.isArrayOf_alike hZ.alike A.2.1) A.2.2 q1 q2 hg hs hd t hr
theorem own_ldB (X : Stand p l e R s m args below meth c T locs cells slots) (hx : p.tables.exec = Jvm.exec) (hZ : Z.Warmed39 s.vm) (eT : T.heap = h) (F : OAr Z h a k .byte vs) {j : Int32} (h0 : ¬ j < 0) (hv : vs[j.toNatClampNeg]? = some v) {g : JFrame} (hg : g.method = m) {rest : List Value} (hs : g.stack = .int j :: .ref a :: rest) (hd : decode c.code g.pc = .ok (.baload, 1)) (t : State)
    (hr : Steps p.tables e below (T.setTop { g with pc := g.pc + 1, stack := v :: rest }) t) : Steps p.tables e below (T.setTop g) t := by
  obtain ⟨cl, A, -, r⟩ := F
  obtain ⟨q1, q2⟩ := own_in h0 hv r
  exact X.baloadBytes hx (by rw [eT]; exact A.1) (State.isArrayOf_alike hZ.alike A.2.1) A.2.2 q1 q2 hg hs hd t hr
theorem own_ldZ (X : Stand p l e R s m args below meth c T locs cells slots) (hx : p.tables.exec = Jvm.exec) (hZ : Z.Warmed39 s.vm) (eT : T.heap = h) (F : OAr Z h a k .boolean vs) {j : Int32} (h0 : ¬ j < 0) (hv : vs[j.toNatClampNeg]? = some v) {g : JFrame} (hg : g.method = m) {rest : List Value} (hs : g.stack = .int j :: .ref a :: rest) (hd : decode c.code g.pc = .ok (.baload, 1)) (t : State)
    (hr : Steps p.tables e below (T.setTop { g with pc := g.pc + 1, stack := v :: rest }) t) : Steps p.tables e below (T.setTop g) t := by
  obtain ⟨cl, A, -, r⟩ := F
  obtain ⟨q1, q2⟩ := own_in h0 hv r
  exact X.baloadBooleans hx (by rw [eT]; exact A.1) (State.isArrayOf_alike hZ.alike A.2.1) A.2.2 q1 q2 hg hs hd t hr
theorem own_ldA (X : Stand p l e R s m args below meth c T locs cells slots) (hx : p.tables.exec = Jvm.exec) (hZ : Z.Warmed39 s.vm) (eT : T.heap = h) (F : OAr Z h a k ty vs) (ht : ty.isReference = true) {j : Int32} (h0 : ¬ j < 0) (hv : vs[j.toNatClampNeg]? = some v) {g : JFrame} (hg : g.method = m) {rest : List Value} (hs : g.stack = .int j :: .ref a :: rest) (hd : decode c.code g.pc = .ok (.aaload, 1)) (t : State)
    (hr : Steps p.tables e below (T.setTop { g with pc := g.pc + 1, stack := v :: rest }) t) : Steps p.tables e below (T.setTop g) t := by
  obtain ⟨cl, A, -, r⟩ := F
  obtain ⟨q1, q2⟩ := own_in h0 hv r
  exact X.aaload hx (by rw [eT]; exact A.1) (State.isArrayOf_alike hZ.alike A.2.1) ht A.2.2 q1 q2 hg hs hd t hr
theorem own_len (X : Stand p l e R s m args below meth c T locs cells slots) (hx : p.tables.exec = Jvm.exec) (hZ : Z.Warmed39 s.vm) (eT : T.heap = h) (F : OAr Z h a k ty vs) {n : Int32} (hn : vs.length.toInt32 = n) {g : JFrame} (hg : g.method = m) {rest : List Value} (hs : g.stack = .ref a :: rest) (hd : decode c.code g.pc = .ok (.arraylength, 1)) (t : State)
    (hr : Steps p.tables e below (T.setTop { g with pc := g.pc + 1, stack := .int n :: rest }) t) : Steps p.tables e below (T.setTop g) t := by
  obtain ⟨cl, A, -, r⟩ := F
  refine X.arraylength hx (by rw [eT]; exact A.1) (State.isArrayOf_alike hZ.alike A.2.1) hg hs hd t ?_
  rw [show cl.slots.size = vs.length by rw [r]; simp, hn]
  exact hr
theorem own_in2 {j : Int32} (h0 : ¬ j < 0) (h1 : j.toNatClampNeg < vs.length) {c : Cell} (q : c.slots = vs.toArray) : ¬ (j < 0 ∨ c.slots.size ≤ j.toNatClampNeg) := by
  rw [q]
  refine fun r => r.elim h0 fun r => ?_
  simp at r
  omega
theorem own_stI (X : Stand p l e R s m args below meth c T locs cells slots) (hx : p.tables.exec = Jvm.exec) (hZ : Z.Warmed39 s.vm) (eT : T.heap = h) (F : OAr Z h a k .int vs) {j : Int32} {x : Int32} (h0 : ¬ j < 0) (h1 : j.toNatClampNeg < vs.length) {g : JFrame} (hg : g.method = m) {rest : List Value} (hs : g.stack = .int x :: .int j :: .ref a :: rest) (hd : decode c.code g.pc = .ok (.iastore, 1)) :
    ∃ T' h', Stand p l e R s m args below meth c T' (locs ++ [⟨a, j.toNatClampNeg⟩]) cells slots ∧ T'.heap = h' ∧ Wr h h' a j.toNatClampNeg (.int x) ∧ OAr Z h' a k .int (vs.set j.toNatClampNeg (.int x)) ∧ ∀ target, Steps p.tables e below (T'.setTop { g with pc := g.pc + 1, stack := rest }) target → Steps p.tables e below (T.setTop g) target := by
  have F' := F
  obtain ⟨cl, A, -, r⟩ := F'
  obtain ⟨T', h', X', e', W', st⟩ := stI X hx hZ eT A (own_in2 h0 h1 r) hg hs hd
  exact ⟨T', h', X', e', W', F.same W', st⟩
theorem own_stJ (X : Stand p l e R s m args below meth c T locs cells slots) (hx : p.tables.exec = Jvm.exec) (hZ : Z.Warmed39 s.vm) (eT : T.heap = h) (F : OAr Z h a k .long vs) {j : Int32} {x : Int64} (h0 : ¬ j < 0) (h1 : j.toNatClampNeg < vs.length) {g : JFrame} (hg : g.method = m) {rest : List Value} (hs : g.stack = .long x :: .int j :: .ref a :: rest) (hd : decode c.code g.pc = .ok (.lastore, 1)) :
    ∃ T' h', Stand p l e R s m args below meth c T' (locs ++ [⟨a, j.toNatClampNeg⟩]) cells slots ∧ T'.heap = h' ∧ Wr h h' a j.toNatClampNeg (.long x) ∧ OAr Z h' a k .long (vs.set j.toNatClampNeg (.long x)) ∧ ∀ target, Steps p.tables e below (T'.setTop { g with pc := g.pc + 1, stack := rest }) target → Steps p.tables e below (T.setTop g) target := by
  have F' := F
  obtain ⟨cl, A, -, r⟩ := F'
  obtain ⟨T', h', X', e', W', st⟩ := stJ X hx hZ eT A (own_in2 h0 h1 r) hg hs hd
  exact ⟨T', h', X', e', W', F.same W', st⟩
theorem own_stC (X : Stand p l e R s m args below meth c T locs cells slots) (hx : p.tables.exec = Jvm.exec) (hZ : Z.Warmed39 s.vm) (eT : T.heap = h) (F : OAr Z h a k .char vs) {j : Int32} {x : Int32} (h0 : ¬ j < 0) (h1 : j.toNatClampNeg < vs.length) {g : JFrame} (hg : g.method = m) {rest : List Value} (hs : g.stack = .int x :: .int j :: .ref a :: rest) (hd : decode c.code g.pc = .ok (.castore, 1)) :
    ∃ T' h', Stand p l e R s m args below meth c T' (locs ++ [⟨a, j.toNatClampNeg⟩]) cells slots ∧ T'.heap = h' ∧ Wr h h' a j.toNatClampNeg (.int (nar .char x)) ∧ OAr Z h' a k .char (vs.set j.toNatClampNeg (.int (nar .char x))) ∧ ∀ target, Steps p.tables e below (T'.setTop { g with pc := g.pc + 1, stack := rest }) target → Steps p.tables e below (T.setTop g) target := by
  have F' := F
  obtain ⟨cl, A, -, r⟩ := F'
  obtain ⟨T', h', X', e', W', st⟩ := stC X hx hZ eT A (own_in2 h0 h1 r) hg hs hd
  exact ⟨T', h', X', e', W', F.same W', st⟩
theorem own_stB (X : Stand p l e R s m args below meth c T locs cells slots) (hx : p.tables.exec = Jvm.exec) (hZ : Z.Warmed39 s.vm) (eT : T.heap = h) (F : OAr Z h a k .byte vs) {j : Int32} {x : Int32} (h0 : ¬ j < 0) (h1 : j.toNatClampNeg < vs.length) {g : JFrame} (hg : g.method = m) {rest : List Value} (hs : g.stack = .int x :: .int j :: .ref a :: rest) (hd : decode c.code g.pc = .ok (.bastore, 1)) :
    ∃ T' h', Stand p l e R s m args below meth c T' (locs ++ [⟨a, j.toNatClampNeg⟩]) cells slots ∧ T'.heap = h' ∧ Wr h h' a j.toNatClampNeg (.int (nar .byte x)) ∧ OAr Z h' a k .byte (vs.set j.toNatClampNeg (.int (nar .byte x))) ∧ ∀ target, Steps p.tables e below (T'.setTop { g with pc := g.pc + 1, stack := rest }) target → Steps p.tables e below (T.setTop g) target := by
  have F' := F
  obtain ⟨cl, A, -, r⟩ := F'
  obtain ⟨T', h', X', e', W', st⟩ := stB X hx hZ eT A (own_in2 h0 h1 r) hg hs hd
  exact ⟨T', h', X', e', W', F.same W', st⟩
theorem own_stZ (X : Stand p l e R s m args below meth c T locs cells slots) (hx : p.tables.exec = Jvm.exec) (hZ : Z.Warmed39 s.vm) (eT : T.heap = h) (F : OAr Z h a k .boolean vs) {j : Int32} {x : Int32} (h0 : ¬ j < 0) (h1 : j.toNatClampNeg < vs.length) {g : JFrame} (hg : g.method = m) {rest : List Value} (hs : g.stack = .int x :: .int j :: .ref a :: rest) (hd : decode c.code g.pc = .ok (.bastore, 1)) :
    ∃ T' h', Stand p l e R s m args below meth c T' (locs ++ [⟨a, j.toNatClampNeg⟩]) cells slots ∧ T'.heap = h' ∧ Wr h h' a j.toNatClampNeg (.int (nar .boolean x)) ∧ OAr Z h' a k .boolean (vs.set j.toNatClampNeg (.int (nar .boolean x))) ∧ ∀ target, Steps p.tables e below (T'.setTop { g with pc := g.pc + 1, stack := rest }) target → Steps p.tables e below (T.setTop g) target := by
  have F' := F
  obtain ⟨cl, A, -, r⟩ := F'
  obtain ⟨T', h', X', e', W', st⟩ := stZ X hx hZ eT A (own_in2 h0 h1 r) hg hs hd
  exact ⟨T', h', X', e', W', F.same W', st⟩
theorem own_stR (X : Stand p l e R s m args below meth c T locs cells slots) (hx : p.tables.exec = Jvm.exec) (hZ : Z.Warmed39 s.vm) (eT : T.heap = h) (F : OAr Z h a k ty vs) (ht : ty.isReference = true) {j : Int32} {x : Value} (h0 : ¬ j < 0) (h1 : j.toNatClampNeg < vs.length) (S : Sto Z h a x) {g : JFrame} (hg : g.method = m) {rest : List Value} (hs : g.stack = x :: .int j :: .ref a :: rest) (hd : decode c.code g.pc = .ok (.aastore, 1)) :
    ∃ T' h', Stand p l e R s m args below meth c T' (locs ++ [⟨a, j.toNatClampNeg⟩]) cells slots ∧ T'.heap = h' ∧ Wr h h' a j.toNatClampNeg x ∧ OAr Z h' a k ty (vs.set j.toNatClampNeg x) ∧ ∀ target, Steps p.tables e below (T'.setTop { g with pc := g.pc + 1, stack := rest }) target → Steps p.tables e below (T.setTop g) target := by
  have F' := F
  obtain ⟨cl, A, -, r⟩ := F'
  obtain ⟨T', h', X', e', W', st⟩ := stR X hx hZ eT A (own_in2 h0 h1 r) ht S hg hs hd
  exact ⟨T', h', X', e', W', F.same W', st⟩
theorem own_sto {y : Addr} {t0 : FieldType} {C : String} (F : OAr Z h a k ty vs) (O : OvrA Z k t0 C) (I : Ins Z h y C true) : Sto Z h a (.ref y) := by
  obtain ⟨cl, A, q, -⟩ := F
  exact Sto.ofVA A q O I
/-- the addresses are unlike each other -/
def OND (L : List Addr) : Prop := L.Pairwise (· ≠ ·)
theorem ond0 : OND [] := List.Pairwise.nil
theorem ondS {x : Addr} {L : List Addr} (q : ∀ y ∈ L, x ≠ y) (r : OND L) : OND (x :: L) := List.Pairwise.cons q r
theorem own_pw {L : List Addr} (q : OND L) (i j : Nat) (hij : i < j) {x y : Addr} (hi : L[i]? = some x) (hj : L[j]? = some y) : x ≠ y := by
  obtain ⟨i1, rfl⟩ := List.getElem?_eq_some_iff.mp hi
  obtain ⟨j1, rfl⟩ := List.getElem?_eq_some_iff.mp hj
  exact List.pairwise_iff_getElem.mp q i j i1 j1 hij
theorem own_selp (hZ : Z.Warmed39 s.vm) {y : MethodName} {k : Nat} (wi : (Cond.instantiable y.cls k).before a0 Z = true) (wp : (Cond.privateMethod y).before a0 Z = true) (wm : (Cond.instanceMethod y).before a0 Z = true) (hy : y.cls ≠ "java/lang/invoke/MethodHandle" ∧ y.cls ≠ "java/lang/invoke/VarHandle" := by decide) : (Cond.selects y.cls y y).before args s = true := by
  obtain ⟨c2, k2, i1, i2, i3, i4, -⟩ := Cond.instantiable_spec (mv (args := args) hZ wi)
  exact selects_self_of_private i1 i2 (Bool.or_eq_false_iff.mp i4).1 (Cond.privateMethod_at (mvP hZ wp (args := args))) (mv hZ wm) hy
theorem own_arv {z : Int32} {d : Value} (F : OAr Z h a k ty vs) (hf : ∀ v ∈ vs, fits ty v = true) (hz : ¬ z < 0) (hl : vs.length = z.toNatClampNeg) : Arv Z h a k ty z vs d := by
  obtain ⟨c, A, q1, q2⟩ := F
  have hs : c.slots.size = vs.length := by rw [q2]; simp
  refine ⟨c, A, q1, by rw [hs, hl], hz, fun i hi => ?_, fun i hi => ?_⟩
  · rw [hs] at hi
    rw [q2]
    simp [List.getD_eq_getElem?_getD, hi]
  · rw [hs] at hi
    rw [List.getD_eq_getElem?_getD, List.getElem?_eq_getElem hi]
    exact hf _ (List.getElem_mem hi)
theorem own_unarv {z : Int32} {d : Value} (F : Arv Z h a k ty z vs d) (hl : vs.length = z.toNatClampNeg) : OAr Z h a k ty vs := by
  obtain ⟨c, A, q1, q2, q3, H, -⟩ := F
  refine ⟨c, A, q1, ?_⟩
  apply Array.ext (by rw [q2, ← hl]; simp)
  intro i h1 h2
  have e := H i h1
  have h3 : i < vs.length := by simpa using h2
  rw [Array.getElem?_eq_getElem h1, List.getD_eq_getElem?_getD, List.getElem?_eq_getElem h3] at e
  simpa using Option.some.inj e
end OwnKit
end Jvm.RoadKit

namespace Jvm.Pilot.@@N@@
open Jvm Jvm.ClassFile Sem Op Lib Jvm.Free Jvm.Stand Jvm.LawKit Jvm.RoadKit Bundle Jvm.Pilot.@@N@@.Jvm.D
theorem ow {a0 : Array Value} {Z : State} (hw : ∀ d ∈ tables_1, d.before a0 Z = true) (i : Nat) {d : Jvm.Cond} (h : tables_1[i]? = some d) : d.before a0 Z = true := hw _ (List.mem_of_getElem? h)
abbrev mN0 : MethodName := ⟨"com/example/bytecrane/bytecrane/classfile/AccessFlags", "ofMethod", "(II)I"⟩
def own_of (a m : Int32) : Int32 := if m < 46 then a &&& 5631 else if 60 < m then a &&& 5631 else a &&& 7679
theorem own_mask (a : Int32) : (a &&& (7679 : Int32)) &&& (-2049 : Int32) = a &&& 5631 := by
  rw [Int32.and_assoc]
  have h : (7679 : Int32) &&& (-2049 : Int32) = 5631 := by decide
  rw [h]
theorem pn_com_example_bytecrane_bytecrane_classfile_AccessFlags : plainName "com/example/bytecrane/bytecrane/classfile/AccessFlags" = true := by first | (simp [plainName, overriddenIn]; done) | decide +kernel
theorem ef_1 (m : MethodId) (x0 : Int32) (x1 : Int32) : entryFrame m #[(.int x0), (.int x1)] 3 = mkF m 0 #[.val (.int x0), .val (.int x1), .unset] [] := by first | (simp [entryFrame, mkF, argsToLocals, Value.category]; done) | rfl
theorem d1_0 : decode prog_1_method_4_code 0 = .ok (.iload_n 0, 1) := by decide +kernel
theorem d1_1 : decode prog_1_method_4_code 1 = .ok (.sipush 7679, 3) := by decide +kernel
theorem d1_4 : decode prog_1_method_4_code 4 = .ok (.iand, 1) := by decide +kernel
theorem d1_5 : decode prog_1_method_4_code 5 = .ok (.istore_n 2, 1) := by decide +kernel
theorem d1_6 : decode prog_1_method_4_code 6 = .ok (.iload_n 1, 1) := by decide +kernel
theorem d1_7 : decode prog_1_method_4_code 7 = .ok (.bipush 46, 2) := by decide +kernel
theorem d1_9 : decode prog_1_method_4_code 9 = .ok (.if_icmp .lt 9, 3) := by decide +kernel
theorem d1_18 : decode prog_1_method_4_code 18 = .ok (.iload_n 2, 1) := by decide +kernel
theorem d1_19 : decode prog_1_method_4_code 19 = .ok (.sipush (-2049), 3) := by decide +kernel
theorem d1_22 : decode prog_1_method_4_code 22 = .ok (.iand, 1) := by decide +kernel
theorem d1_23 : decode prog_1_method_4_code 23 = .ok (.istore_n 2, 1) := by decide +kernel
theorem d1_24 : decode prog_1_method_4_code 24 = .ok (.iload_n 2, 1) := by decide +kernel
theorem d1_25 : decode prog_1_method_4_code 25 = .ok (.ireturn, 1) := by decide +kernel
theorem d1_12 : decode prog_1_method_4_code 12 = .ok (.iload_n 1, 1) := by decide +kernel
theorem d1_13 : decode prog_1_method_4_code 13 = .ok (.bipush 60, 2) := by decide +kernel
theorem d1_15 : decode prog_1_method_4_code 15 = .ok (.if_icmp .le 9, 3) := by decide +kernel
def Q_ofm (Z : State) (p1 : Int32) (p2 : Int32) (h0 : Heap) (n0 : Nat) (v : Option Value) (h : Heap) (L : List Loc) : Prop := v = some (.int (own_of p1 p2)) ∧ Fr n0 L ∧ h = h0
set_option maxRecDepth 65536 in
set_option maxHeartbeats 40000000 in
theorem rm_ofm (l : Launch) (Z : State) (a0 : Array Value) (hw : ∀ d ∈ tables_1, d.before a0 Z = true) (ws : List Jvm.Cond) (p1 : Int32) (p2 : Int32) (h0 : Heap) (n0 : Nat) (Z0 : n0 ≤ h0.size) :
    MetFree l mN0 (head1 (Jvm.Cond.code mN0 prog_1_method_4_code 3 (some .int) :: ws) ({ frames := 0, cells := 0, slots := 0, locals := 0 } : Room)) (fun a U => a = #[(.int p1), (.int p2)] ∧ Z.Warmed39 U.vm ∧ U.heap = h0) (fun _ _ _ _ _ => True) (fun _ U o U' => ∃ v L, o = .returned v ∧ Q_ofm Z p1 p2 h0 n0 v U'.heap L ∧ FrameEnd U o U' L ({ frames := 0, cells := 0, slots := 0, locals := 0 } : Room).cells ({ frames := 0, cells := 0, slots := 0, locals := 0 } : Room).slots) := by
  refine MetFree.of_bodySF (plainFor_of_name pn_com_example_bytecrane_bytecrane_classfile_AccessFlags) hisR ?_
  intro p e s m args below meth c s₁ Bd hml0 hP hK
  obtain ⟨rfl, hZ, hh⟩ := hP
  have hx := Bd.exec
  have hby := Bd.bytes
  have hml : c.maxLocals = 3 := hml0
  have hown : s.vm.findClass "com/example/bytecrane/bytecrane/classfile/AccessFlags" = some m.cls := findClass_of_methodNamed Bd.named
  have hnm := (name_of_methodNamed Bd.named Bd.method).1
  have X0 : Stand p l e ({ frames := 0, cells := 0, slots := 0, locals := 0 } : Room) s m #[(.int p1), (.int p2)] below meth c s₁ [] 0 0 := Stand.of_body Bd
  have e0 : s₁.heap = h0 := by rw [← hh, Bd.state]; rfl
  have N0 := Fr.nil n0
  obtain ⟨A0, hA0⟩ : ∃ z, z = s₁.setTop (entryFrame m #[(.int p1), (.int p2)] 3) := ⟨_, rfl⟩
  have K : OGo p e below A0 s₁ (mkF m 0 #[iv p1, iv p2, .unset] []) := fun t k => hA0 ▸ castTop (ef_1 m p1 p2) k
  replace K : OGo p e below A0 s₁ (mkF m 1 #[iv p1, iv p2, .unset] [(.int p1)]) := fun t k => K t (XS.iloadN X0.here hx rfl (hb hby d1_0) rfl k)
  replace K : OGo p e below A0 s₁ (mkF m 4 #[iv p1, iv p2, .unset] [(.int 7679), (.int p1)]) := fun t k => K t (XS.sipush X0.here hx rfl (hb hby d1_1) k)
  replace K : OGo p e below A0 s₁ (mkF m 5 #[iv p1, iv p2, .unset] [(.int (p1 &&& (7679 : Int32)))]) := fun t k => K t (XS.iand X0.here hx rfl (hb hby d1_4) rfl k)
  replace K : OGo p e below A0 s₁ (mkF m 6 #[iv p1, iv p2, iv (p1 &&& (7679 : Int32))] []) := fun t k => K t (XS.istoreN X0.here hx rfl (hb hby d1_5) rfl (l' := #[iv p1, iv p2, iv (p1 &&& (7679 : Int32))]) rfl k)
  replace K : OGo p e below A0 s₁ (mkF m 7 #[iv p1, iv p2, iv (p1 &&& (7679 : Int32))] [(.int p2)]) := fun t k => K t (XS.iloadN X0.here hx rfl (hb hby d1_6) rfl k)
  replace K : OGo p e below A0 s₁ (mkF m 9 #[iv p1, iv p2, iv (p1 &&& (7679 : Int32))] [(.int 46), (.int p2)]) := fun t k => K t (XS.bipush X0.here hx rfl (hb hby d1_7) k)
  by_cases hc9 : p2 < (46 : Int32)
  · replace K : OGo p e below A0 s₁ (mkF m 18 #[iv p1, iv p2, iv (p1 &&& (7679 : Int32))] []) := fun t k => K t (XS.icmpYes X0.here hx rfl (pc0 := 9) (pc' := 18) rfl (hb hby d1_9) rfl (tlt hc9).1 (by decide) (by decide) k)
    replace K : OGo p e below A0 s₁ (mkF m 19 #[iv p1, iv p2, iv (p1 &&& (7679 : Int32))] [(.int (p1 &&& (7679 : Int32)))]) := fun t k => K t (XS.iloadN X0.here hx rfl (hb hby d1_18) rfl k)
    replace K : OGo p e below A0 s₁ (mkF m 22 #[iv p1, iv p2, iv (p1 &&& (7679 : Int32))] [(.int (-2049)), (.int (p1 &&& (7679 : Int32)))]) := fun t k => K t (XS.sipush X0.here hx rfl (hb hby d1_19) k)
    replace K : OGo p e below A0 s₁ (mkF m 23 #[iv p1, iv p2, iv (p1 &&& (7679 : Int32))] [(.int ((p1 &&& (7679 : Int32)) &&& (-2049 : Int32)))]) := fun t k => K t (XS.iand X0.here hx rfl (hb hby d1_22) rfl k)
    replace K : OGo p e below A0 s₁ (mkF m 24 #[iv p1, iv p2, iv ((p1 &&& (7679 : Int32)) &&& (-2049 : Int32))] []) := fun t k => K t (XS.istoreN X0.here hx rfl (hb hby d1_23) rfl (l' := #[iv p1, iv p2, iv ((p1 &&& (7679 : Int32)) &&& (-2049 : Int32))]) rfl k)
    replace K : OGo p e below A0 s₁ (mkF m 25 #[iv p1, iv p2, iv ((p1 &&& (7679 : Int32)) &&& (-2049 : Int32))] [(.int ((p1 &&& (7679 : Int32)) &&& (-2049 : Int32)))]) := fun t k => K t (XS.iloadN X0.here hx rfl (hb hby d1_24) rfl k)
    obtain ⟨fs, hr, hrun, hended, hW, hsame⟩ := X0.leave (v := some (.int ((p1 &&& (7679 : Int32)) &&& (-2049 : Int32)))) (fun h => by rw [Bd.returns] at h; cases h)
    subst hA0
    refine ⟨_, _, K _ (retOut X0 hx Bd.returns rfl (Or.inl ⟨rfl, Or.inl rfl, _, rfl⟩) (hb hby d1_25) hr), hrun, hended, _, _, rfl, ?_, ⟨_, rfl⟩, hW, hsame.mono (by decide) (by decide)⟩
    show Q_ofm Z p1 p2 h0 n0 _ s₁.heap _
    rw [e0]
    exact ⟨(by simp [own_of, own_mask, hc9]), N0, rfl⟩
  · replace K : OGo p e below A0 s₁ (mkF m 12 #[iv p1, iv p2, iv (p1 &&& (7679 : Int32))] []) := fun t k => K t (XS.icmpNo X0.here hx rfl (hb hby d1_9) rfl (flt hc9).1 k)
    replace K : OGo p e below A0 s₁ (mkF m 13 #[iv p1, iv p2, iv (p1 &&& (7679 : Int32))] [(.int p2)]) := fun t k => K t (XS.iloadN X0.here hx rfl (hb hby d1_12) rfl k)
    replace K : OGo p e below A0 s₁ (mkF m 15 #[iv p1, iv p2, iv (p1 &&& (7679 : Int32))] [(.int 60), (.int p2)]) := fun t k => K t (XS.bipush X0.here hx rfl (hb hby d1_13) k)
    by_cases hc15 : (60 : Int32) < p2
    · replace K : OGo p e below A0 s₁ (mkF m 18 #[iv p1, iv p2, iv (p1 &&& (7679 : Int32))] []) := fun t k => K t (XS.icmpNo X0.here hx rfl (hb hby d1_15) rfl (tlt hc15).2.2.2 k)
      replace K : OGo p e below A0 s₁ (mkF m 19 #[iv p1, iv p2, iv (p1 &&& (7679 : Int32))] [(.int (p1 &&& (7679 : Int32)))]) := fun t k => K t (XS.iloadN X0.here hx rfl (hb hby d1_18) rfl k)
      replace K : OGo p e below A0 s₁ (mkF m 22 #[iv p1, iv p2, iv (p1 &&& (7679 : Int32))] [(.int (-2049)), (.int (p1 &&& (7679 : Int32)))]) := fun t k => K t (XS.sipush X0.here hx rfl (hb hby d1_19) k)
      replace K : OGo p e below A0 s₁ (mkF m 23 #[iv p1, iv p2, iv (p1 &&& (7679 : Int32))] [(.int ((p1 &&& (7679 : Int32)) &&& (-2049 : Int32)))]) := fun t k => K t (XS.iand X0.here hx rfl (hb hby d1_22) rfl k)
      replace K : OGo p e below A0 s₁ (mkF m 24 #[iv p1, iv p2, iv ((p1 &&& (7679 : Int32)) &&& (-2049 : Int32))] []) := fun t k => K t (XS.istoreN X0.here hx rfl (hb hby d1_23) rfl (l' := #[iv p1, iv p2, iv ((p1 &&& (7679 : Int32)) &&& (-2049 : Int32))]) rfl k)
      replace K : OGo p e below A0 s₁ (mkF m 25 #[iv p1, iv p2, iv ((p1 &&& (7679 : Int32)) &&& (-2049 : Int32))] [(.int ((p1 &&& (7679 : Int32)) &&& (-2049 : Int32)))]) := fun t k => K t (XS.iloadN X0.here hx rfl (hb hby d1_24) rfl k)
      obtain ⟨fs, hr, hrun, hended, hW, hsame⟩ := X0.leave (v := some (.int ((p1 &&& (7679 : Int32)) &&& (-2049 : Int32)))) (fun h => by rw [Bd.returns] at h; cases h)
      subst hA0
      refine ⟨_, _, K _ (retOut X0 hx Bd.returns rfl (Or.inl ⟨rfl, Or.inl rfl, _, rfl⟩) (hb hby d1_25) hr), hrun, hended, _, _, rfl, ?_, ⟨_, rfl⟩, hW, hsame.mono (by decide) (by decide)⟩
      show Q_ofm Z p1 p2 h0 n0 _ s₁.heap _
      rw [e0]
      exact ⟨(by simp [own_of, own_mask, hc9, hc15]), N0, rfl⟩
    · replace K : OGo p e below A0 s₁ (mkF m 24 #[iv p1, iv p2, iv (p1 &&& (7679 : Int32))] []) := fun t k => K t (XS.icmpYes X0.here hx rfl (pc0 := 15) (pc' := 24) rfl (hb hby d1_15) rfl (flt hc15).2.2.2 (by decide) (by decide) k)
      replace K : OGo p e below A0 s₁ (mkF m 25 #[iv p1, iv p2, iv (p1 &&& (7679 : Int32))] [(.int (p1 &&& (7679 : Int32)))]) := fun t k => K t (XS.iloadN X0.here hx rfl (hb hby d1_24) rfl k)
      obtain ⟨fs, hr, hrun, hended, hW, hsame⟩ := X0.leave (v := some (.int (p1 &&& (7679 : Int32)))) (fun h => by rw [Bd.returns] at h; cases h)
      subst hA0
      refine ⟨_, _, K _ (retOut X0 hx Bd.returns rfl (Or.inl ⟨rfl, Or.inl rfl, _, rfl⟩) (hb hby d1_25) hr), hrun, hended, _, _, rfl, ?_, ⟨_, rfl⟩, hW, hsame.mono (by decide) (by decide)⟩
      show Q_ofm Z p1 p2 h0 n0 _ s₁.heap _
      rw [e0]
      exact ⟨(by simp [own_of, own_mask, hc9, hc15]), N0, rfl⟩
theorem pn_com_example_bytecrane_bytecrane_classfile_AccessFlagsOfMethodPinLaw : plainName "com/example/bytecrane/bytecrane/classfile/AccessFlagsOfMethodPinLaw" = true := by first | (simp [plainName, overriddenIn]; done) | decide +kernel
theorem ef_0 (m : MethodId) (x0 : Int32) (x1 : Int32) (x2 : Int32) : entryFrame m #[(.int x0), (.int x1), (.int x2)] maxLocals = mkF m 0 #[.val (.int x0), .val (.int x1), .val (.int x2), .unset, .unset, .unset, .unset] [] := by first | (simp [entryFrame, mkF, argsToLocals, Value.category, maxLocals]; done) | rfl
theorem pd__II_I : parseMethodDescriptor "(II)I" = some ⟨[.int, .int], some .int⟩ := by decide +kernel
def Q_law (Z : State) (p1 : Int32) (p2 : Int32) (p3 : Int32) (h0 : Heap) (n0 : Nat) (v : Option Value) (h : Heap) (L : List Loc) : Prop := v = some (.int (1 : Int32)) ∧ Fr n0 L
set_option maxRecDepth 65536 in
set_option maxHeartbeats 40000000 in
theorem rm_law (l : Launch) (Z : State) (a0 : Array Value) (hw : ∀ d ∈ tables_1, d.before a0 Z = true) (ws : List Jvm.Cond) (p1 : Int32) (p2 : Int32) (p3 : Int32) (h0 : Heap) (n0 : Nat) (Z0 : n0 ≤ h0.size) :
    MetFree l x (head1 (Jvm.Cond.code x code maxLocals ret :: ws) room_1) (fun a U => a = #[(.int p1), (.int p2), (.int p3)] ∧ Z.Warmed39 U.vm ∧ U.heap = h0) (fun _ _ _ _ _ => True) (fun _ U o U' => ∃ v L, o = .returned v ∧ Q_law Z p1 p2 p3 h0 n0 v U'.heap L ∧ FrameEnd U o U' L room_1.cells room_1.slots) := by
  refine MetFree.of_bodySF (plainFor_of_name pn_com_example_bytecrane_bytecrane_classfile_AccessFlagsOfMethodPinLaw) hisR ?_
  intro p e s m args below meth c s₁ Bd hml0 hP hK
  obtain ⟨rfl, hZ, hh⟩ := hP
  have hx := Bd.exec
  have hby := Bd.bytes
  have hml : c.maxLocals = 7 := hml0
  have hown : s.vm.findClass "com/example/bytecrane/bytecrane/classfile/AccessFlagsOfMethodPinLaw" = some m.cls := findClass_of_methodNamed Bd.named
  have hnm := (name_of_methodNamed Bd.named Bd.method).1
  have X0 : Stand p l e room_1 s m #[(.int p1), (.int p2), (.int p3)] below meth c s₁ [] 0 0 := Stand.of_body Bd
  have e0 : s₁.heap = h0 := by rw [← hh, Bd.state]; rfl
  have N0 := Fr.nil n0
  obtain ⟨A0, hA0⟩ : ∃ z, z = s₁.setTop (entryFrame m #[(.int p1), (.int p2), (.int p3)] maxLocals) := ⟨_, rfl⟩
  have K : OGo p e below A0 s₁ (mkF m 0 #[iv p1, iv p2, iv p3, .unset, .unset, .unset, .unset] []) := fun t k => hA0 ▸ castTop (ef_0 m p1 p2 p3) k
  replace K : OGo p e below A0 s₁ (mkF m 1 #[iv p1, iv p2, iv p3, .unset, .unset, .unset, .unset] [(.int p3)]) := fun t k => K t (XS.iloadN X0.here hx rfl (hb hby at_0) rfl k)
  replace K : OGo p e below A0 s₁ (mkF m 2 #[iv p1, iv p2, iv p3, .unset, .unset, .unset, .unset] [(.int 1), (.int p3)]) := fun t k => K t (XS.iconst X0.here hx rfl (hb hby at_1) k)
  replace K : OGo p e below A0 s₁ (mkF m 3 #[iv p1, iv p2, iv p3, .unset, .unset, .unset, .unset] [(.int (p3 &&& (1 : Int32)))]) := fun t k => K t (XS.iand X0.here hx rfl (hb hby at_2) rfl k)
  by_cases hc3 : (p3 &&& (1 : Int32)) = (0 : Int32)
  · replace K : OGo p e below A0 s₁ (mkF m 16 #[iv p1, iv p2, iv p3, .unset, .unset, .unset, .unset] []) := fun t k => K t (XS.ifYes X0.here hx rfl (pc0 := 3) (pc' := 16) rfl (hb hby at_3) rfl ((if0 _ _).trans (teq hc3).1) (by decide) (by decide) k)
    replace K : OGo p e below A0 s₁ (mkF m 17 #[iv p1, iv p2, iv p3, .unset, .unset, .unset, .unset] [(.int p2)]) := fun t k => K t (XS.iloadN X0.here hx rfl (hb hby at_16) rfl k)
    replace K : OGo p e below A0 s₁ (mkF m 18 #[iv p1, iv p2, iv p3, iv p2, .unset, .unset, .unset] []) := fun t k => K t (XS.istoreN X0.here hx rfl (hb hby at_17) rfl (l' := #[iv p1, iv p2, iv p3, iv p2, .unset, .unset, .unset]) rfl k)
    replace K : OGo p e below A0 s₁ (mkF m 19 #[iv p1, iv p2, iv p3, iv p2, .unset, .unset, .unset] [(.int p2)]) := fun t k => K t (XS.iloadN X0.here hx rfl (hb hby at_18) rfl k)
    replace K : OGo p e below A0 s₁ (mkF m 21 #[iv p1, iv p2, iv p3, iv p2, .unset, .unset, .unset] [(.int 46), (.int p2)]) := fun t k => K t (XS.bipush X0.here hx rfl (hb hby at_19) k)
    by_cases hc21 : p2 < (46 : Int32)
    · replace K : OGo p e below A0 s₁ (mkF m 34 #[iv p1, iv p2, iv p3, iv p2, .unset, .unset, .unset] []) := fun t k => K t (XS.icmpYes X0.here hx rfl (pc0 := 21) (pc' := 34) rfl (hb hby at_21) rfl (tlt hc21).1 (by decide) (by decide) k)
      replace K : OGo p e below A0 s₁ (mkF m 35 #[iv p1, iv p2, iv p3, iv p2, .unset, .unset, .unset] [(.int 0)]) := fun t k => K t (XS.iconst X0.here hx rfl (hb hby at_34) k)
      replace K : OGo p e below A0 s₁ (mkF m 37 #[iv p1, iv p2, iv p3, iv p2, iv 0, .unset, .unset] []) := fun t k => K t (XS.istore X0.here hx rfl (hb hby at_35) rfl (l' := #[iv p1, iv p2, iv p3, iv p2, iv 0, .unset, .unset]) rfl k)
      replace K : OGo p e below A0 s₁ (mkF m 39 #[iv p1, iv p2, iv p3, iv p2, iv 0, .unset, .unset] [(.int 0)]) := fun t k => K t (XS.iload X0.here hx rfl (hb hby at_37) rfl k)
      replace K : OGo p e below A0 s₁ (mkF m 52 #[iv p1, iv p2, iv p3, iv p2, iv 0, .unset, .unset] []) := fun t k => K t (XS.ifYes X0.here hx rfl (pc0 := 39) (pc' := 52) rfl (hb hby at_39) rfl ((if0 _ _).trans (teq (by decide : (0 : Int32) = (0 : Int32))).1) (by decide) (by decide) k)
      replace K : OGo p e below A0 s₁ (mkF m 53 #[iv p1, iv p2, iv p3, iv p2, iv 0, .unset, .unset] [(.int p1)]) := fun t k => K t (XS.iloadN X0.here hx rfl (hb hby at_52) rfl k)
      replace K : OGo p e below A0 s₁ (mkF m 56 #[iv p1, iv p2, iv p3, iv p2, iv 0, .unset, .unset] [(.int 5631), (.int p1)]) := fun t k => K t (XS.sipush X0.here hx rfl (hb hby at_53) k)
      replace K : OGo p e below A0 s₁ (mkF m 57 #[iv p1, iv p2, iv p3, iv p2, iv 0, .unset, .unset] [(.int (p1 &&& (5631 : Int32)))]) := fun t k => K t (XS.iand X0.here hx rfl (hb hby at_56) rfl k)
      replace K : OGo p e below A0 s₁ (mkF m 59 #[iv p1, iv p2, iv p3, iv p2, iv 0, iv (p1 &&& (5631 : Int32)), .unset] []) := fun t k => K t (XS.istore X0.here hx rfl (hb hby at_57) rfl (l' := #[iv p1, iv p2, iv p3, iv p2, iv 0, iv (p1 &&& (5631 : Int32)), .unset]) rfl k)
      replace K : OGo p e below A0 s₁ (mkF m 60 #[iv p1, iv p2, iv p3, iv p2, iv 0, iv (p1 &&& (5631 : Int32)), .unset] [(.int p1)]) := fun t k => K t (XS.iloadN X0.here hx rfl (hb hby at_59) rfl k)
      replace K : OGo p e below A0 s₁ (mkF m 61 #[iv p1, iv p2, iv p3, iv p2, iv 0, iv (p1 &&& (5631 : Int32)), .unset] [(.int p2), (.int p1)]) := fun t k => K t (XS.iloadN X0.here hx rfl (hb hby at_60) rfl k)
      obtain ⟨_, _, ⟨T1, L1, k1, n1⟩, -, X1, ⟨Lc1, hQ1, l1, y1, z1⟩, st1⟩ := Jvm.LawKit.callS X0 hx (y := mN0) hown (mvT hZ (ow hw 0 rfl)) (mvT hZ (ow hw 1 rfl)) (mvT hZ (ow hw 2 rfl)) (mvT hZ (ow hw 3 rfl)) (by decide) (backOf (W := 0) (rm_ofm l Z a0 hw [] p1 p2 h0 n0 Z0 ) hZ (ow hw 3 rfl) (ow hw 2 rfl) (by decide) (by decide)) (g := (mkF m 61 #[iv p1, iv p2, iv p3, iv p2, iv 0, iv (p1 &&& (5631 : Int32)), .unset] [(.int p2), (.int p1)])) rfl (by rw [hml]; rfl) (argsL := [(.int p1), (.int p2)]) (rest := []) (lenOf pd__II_I rfl) rfl (by show 2 * 0 + _ ≤ _; exact Nat.le_of_eq rfl) (hb hby at_61) (fun _ _ => ⟨rfl, e0, (by decide : 0 + 0 ≤ _), (by decide : 0 + 0 ≤ _)⟩)
      dsimp only [Pt.U, Pt.locs, Pt.cells, Pt.slots] at X1 l1 y1 z1 st1 hQ1
      subst l1 y1 z1
      obtain ⟨rfl, Nq1, e1⟩ := hQ1
      have N1 := Fr.app N0 Nq1
      replace K : OGo p e below A0 T1 (mkF m 64 #[iv p1, iv p2, iv p3, iv p2, iv 0, iv (p1 &&& (5631 : Int32)), .unset] [(.int (own_of p1 p2))]) := fun t k => K t (st1 t k)
      replace K : OGo p e below A0 T1 (mkF m 66 #[iv p1, iv p2, iv p3, iv p2, iv 0, iv (p1 &&& (5631 : Int32)), iv (own_of p1 p2)] []) := fun t k => K t (XS.istore X1.here hx rfl (hb hby at_64) rfl (l' := #[iv p1, iv p2, iv p3, iv p2, iv 0, iv (p1 &&& (5631 : Int32)), iv (own_of p1 p2)]) rfl k)
      replace K : OGo p e below A0 T1 (mkF m 68 #[iv p1, iv p2, iv p3, iv p2, iv 0, iv (p1 &&& (5631 : Int32)), iv (own_of p1 p2)] [(.int (own_of p1 p2))]) := fun t k => K t (XS.iload X1.here hx rfl (hb hby at_66) rfl k)
      replace K : OGo p e below A0 T1 (mkF m 70 #[iv p1, iv p2, iv p3, iv p2, iv 0, iv (p1 &&& (5631 : Int32)), iv (own_of p1 p2)] [(.int (p1 &&& (5631 : Int32))), (.int (own_of p1 p2))]) := fun t k => K t (XS.iload X1.here hx rfl (hb hby at_68) rfl k)
      replace K : OGo p e below A0 T1 (mkF m 73 #[iv p1, iv p2, iv p3, iv p2, iv 0, iv (p1 &&& (5631 : Int32)), iv (own_of p1 p2)] []) := fun t k => K t (XS.icmpNo X1.here hx rfl (hb hby at_70) rfl (teq (show (own_of p1 p2) = (p1 &&& (5631 : Int32)) by simp only [own_of, hc21, if_true, if_false])).2 k)
      replace K : OGo p e below A0 T1 (mkF m 74 #[iv p1, iv p2, iv p3, iv p2, iv 0, iv (p1 &&& (5631 : Int32)), iv (own_of p1 p2)] [(.int 1)]) := fun t k => K t (XS.iconst X1.here hx rfl (hb hby at_73) k)
      replace K : OGo p e below A0 T1 (mkF m 78 #[iv p1, iv p2, iv p3, iv p2, iv 0, iv (p1 &&& (5631 : Int32)), iv (own_of p1 p2)] [(.int 1)]) := fun t k => K t (XS.goto X1.here hx rfl (pc0 := 74) (pc' := 78) rfl (hb hby at_74) (by decide) (by decide) k)
      obtain ⟨fs, hr, hrun, hended, hW, hsame⟩ := X1.leave (v := some (.int (1 : Int32))) (fun h => by rw [Bd.returns] at h; cases h)
      subst hA0
      refine ⟨_, _, K _ (retN X1 hx (t := .boolean) Bd.returns (by simp) (hb hby at_78) hr), hrun, hended, _, _, rfl, ?_, ⟨_, rfl⟩, hW, hsame.mono (by decide) (by decide)⟩
      show Q_law Z p1 p2 p3 h0 n0 _ T1.heap _
      rw [e1]
      exact ⟨rfl, N1⟩
    · replace K : OGo p e below A0 s₁ (mkF m 24 #[iv p1, iv p2, iv p3, iv p2, .unset, .unset, .unset] []) := fun t k => K t (XS.icmpNo X0.here hx rfl (hb hby at_21) rfl (flt hc21).1 k)
      replace K : OGo p e below A0 s₁ (mkF m 25 #[iv p1, iv p2, iv p3, iv p2, .unset, .unset, .unset] [(.int p2)]) := fun t k => K t (XS.iloadN X0.here hx rfl (hb hby at_24) rfl k)
      replace K : OGo p e below A0 s₁ (mkF m 27 #[iv p1, iv p2, iv p3, iv p2, .unset, .unset, .unset] [(.int 60), (.int p2)]) := fun t k => K t (XS.bipush X0.here hx rfl (hb hby at_25) k)
      by_cases hc27 : (60 : Int32) < p2
      · replace K : OGo p e below A0 s₁ (mkF m 34 #[iv p1, iv p2, iv p3, iv p2, .unset, .unset, .unset] []) := fun t k => K t (XS.icmpYes X0.here hx rfl (pc0 := 27) (pc' := 34) rfl (hb hby at_27) rfl (tlt hc27).2.2.1 (by decide) (by decide) k)
        replace K : OGo p e below A0 s₁ (mkF m 35 #[iv p1, iv p2, iv p3, iv p2, .unset, .unset, .unset] [(.int 0)]) := fun t k => K t (XS.iconst X0.here hx rfl (hb hby at_34) k)
        replace K : OGo p e below A0 s₁ (mkF m 37 #[iv p1, iv p2, iv p3, iv p2, iv 0, .unset, .unset] []) := fun t k => K t (XS.istore X0.here hx rfl (hb hby at_35) rfl (l' := #[iv p1, iv p2, iv p3, iv p2, iv 0, .unset, .unset]) rfl k)
        replace K : OGo p e below A0 s₁ (mkF m 39 #[iv p1, iv p2, iv p3, iv p2, iv 0, .unset, .unset] [(.int 0)]) := fun t k => K t (XS.iload X0.here hx rfl (hb hby at_37) rfl k)
        replace K : OGo p e below A0 s₁ (mkF m 52 #[iv p1, iv p2, iv p3, iv p2, iv 0, .unset, .unset] []) := fun t k => K t (XS.ifYes X0.here hx rfl (pc0 := 39) (pc' := 52) rfl (hb hby at_39) rfl ((if0 _ _).trans (teq (by decide : (0 : Int32) = (0 : Int32))).1) (by decide) (by decide) k)
        replace K : OGo p e below A0 s₁ (mkF m 53 #[iv p1, iv p2, iv p3, iv p2, iv 0, .unset, .unset] [(.int p1)]) := fun t k => K t (XS.iloadN X0.here hx rfl (hb hby at_52) rfl k)
        replace K : OGo p e below A0 s₁ (mkF m 56 #[iv p1, iv p2, iv p3, iv p2, iv 0, .unset, .unset] [(.int 5631), (.int p1)]) := fun t k => K t (XS.sipush X0.here hx rfl (hb hby at_53) k)
        replace K : OGo p e below A0 s₁ (mkF m 57 #[iv p1, iv p2, iv p3, iv p2, iv 0, .unset, .unset] [(.int (p1 &&& (5631 : Int32)))]) := fun t k => K t (XS.iand X0.here hx rfl (hb hby at_56) rfl k)
        replace K : OGo p e below A0 s₁ (mkF m 59 #[iv p1, iv p2, iv p3, iv p2, iv 0, iv (p1 &&& (5631 : Int32)), .unset] []) := fun t k => K t (XS.istore X0.here hx rfl (hb hby at_57) rfl (l' := #[iv p1, iv p2, iv p3, iv p2, iv 0, iv (p1 &&& (5631 : Int32)), .unset]) rfl k)
        replace K : OGo p e below A0 s₁ (mkF m 60 #[iv p1, iv p2, iv p3, iv p2, iv 0, iv (p1 &&& (5631 : Int32)), .unset] [(.int p1)]) := fun t k => K t (XS.iloadN X0.here hx rfl (hb hby at_59) rfl k)
        replace K : OGo p e below A0 s₁ (mkF m 61 #[iv p1, iv p2, iv p3, iv p2, iv 0, iv (p1 &&& (5631 : Int32)), .unset] [(.int p2), (.int p1)]) := fun t k => K t (XS.iloadN X0.here hx rfl (hb hby at_60) rfl k)
        obtain ⟨_, _, ⟨T2, L2, k2, n2⟩, -, X2, ⟨Lc2, hQ2, l2, y2, z2⟩, st2⟩ := Jvm.LawKit.callS X0 hx (y := mN0) hown (mvT hZ (ow hw 0 rfl)) (mvT hZ (ow hw 1 rfl)) (mvT hZ (ow hw 2 rfl)) (mvT hZ (ow hw 3 rfl)) (by decide) (backOf (W := 0) (rm_ofm l Z a0 hw [] p1 p2 h0 n0 Z0 ) hZ (ow hw 3 rfl) (ow hw 2 rfl) (by decide) (by decide)) (g := (mkF m 61 #[iv p1, iv p2, iv p3, iv p2, iv 0, iv (p1 &&& (5631 : Int32)), .unset] [(.int p2), (.int p1)])) rfl (by rw [hml]; rfl) (argsL := [(.int p1), (.int p2)]) (rest := []) (lenOf pd__II_I rfl) rfl (by show 2 * 0 + _ ≤ _; exact Nat.le_of_eq rfl) (hb hby at_61) (fun _ _ => ⟨rfl, e0, (by decide : 0 + 0 ≤ _), (by decide : 0 + 0 ≤ _)⟩)
        dsimp only [Pt.U, Pt.locs, Pt.cells, Pt.slots] at X2 l2 y2 z2 st2 hQ2
        subst l2 y2 z2
        obtain ⟨rfl, Nq2, e2⟩ := hQ2
        have N2 := Fr.app N0 Nq2
        replace K : OGo p e below A0 T2 (mkF m 64 #[iv p1, iv p2, iv p3, iv p2, iv 0, iv (p1 &&& (5631 : Int32)), .unset] [(.int (own_of p1 p2))]) := fun t k => K t (st2 t k)
        replace K : OGo p e below A0 T2 (mkF m 66 #[iv p1, iv p2, iv p3, iv p2, iv 0, iv (p1 &&& (5631 : Int32)), iv (own_of p1 p2)] []) := fun t k => K t (XS.istore X2.here hx rfl (hb hby at_64) rfl (l' := #[iv p1, iv p2, iv p3, iv p2, iv 0, iv (p1 &&& (5631 : Int32)), iv (own_of p1 p2)]) rfl k)
        replace K : OGo p e below A0 T2 (mkF m 68 #[iv p1, iv p2, iv p3, iv p2, iv 0, iv (p1 &&& (5631 : Int32)), iv (own_of p1 p2)] [(.int (own_of p1 p2))]) := fun t k => K t (XS.iload X2.here hx rfl (hb hby at_66) rfl k)
        replace K : OGo p e below A0 T2 (mkF m 70 #[iv p1, iv p2, iv p3, iv p2, iv 0, iv (p1 &&& (5631 : Int32)), iv (own_of p1 p2)] [(.int (p1 &&& (5631 : Int32))), (.int (own_of p1 p2))]) := fun t k => K t (XS.iload X2.here hx rfl (hb hby at_68) rfl k)
        replace K : OGo p e below A0 T2 (mkF m 73 #[iv p1, iv p2, iv p3, iv p2, iv 0, iv (p1 &&& (5631 : Int32)), iv (own_of p1 p2)] []) := fun t k => K t (XS.icmpNo X2.here hx rfl (hb hby at_70) rfl (teq (show (own_of p1 p2) = (p1 &&& (5631 : Int32)) by simp only [own_of, hc21, hc27, if_true, if_false])).2 k)
        replace K : OGo p e below A0 T2 (mkF m 74 #[iv p1, iv p2, iv p3, iv p2, iv 0, iv (p1 &&& (5631 : Int32)), iv (own_of p1 p2)] [(.int 1)]) := fun t k => K t (XS.iconst X2.here hx rfl (hb hby at_73) k)
        replace K : OGo p e below A0 T2 (mkF m 78 #[iv p1, iv p2, iv p3, iv p2, iv 0, iv (p1 &&& (5631 : Int32)), iv (own_of p1 p2)] [(.int 1)]) := fun t k => K t (XS.goto X2.here hx rfl (pc0 := 74) (pc' := 78) rfl (hb hby at_74) (by decide) (by decide) k)
        obtain ⟨fs, hr, hrun, hended, hW, hsame⟩ := X2.leave (v := some (.int (1 : Int32))) (fun h => by rw [Bd.returns] at h; cases h)
        subst hA0
        refine ⟨_, _, K _ (retN X2 hx (t := .boolean) Bd.returns (by simp) (hb hby at_78) hr), hrun, hended, _, _, rfl, ?_, ⟨_, rfl⟩, hW, hsame.mono (by decide) (by decide)⟩
        show Q_law Z p1 p2 p3 h0 n0 _ T2.heap _
        rw [e2]
        exact ⟨rfl, N2⟩
      · replace K : OGo p e below A0 s₁ (mkF m 30 #[iv p1, iv p2, iv p3, iv p2, .unset, .unset, .unset] []) := fun t k => K t (XS.icmpNo X0.here hx rfl (hb hby at_27) rfl (flt hc27).2.2.1 k)
        replace K : OGo p e below A0 s₁ (mkF m 31 #[iv p1, iv p2, iv p3, iv p2, .unset, .unset, .unset] [(.int 1)]) := fun t k => K t (XS.iconst X0.here hx rfl (hb hby at_30) k)
        replace K : OGo p e below A0 s₁ (mkF m 35 #[iv p1, iv p2, iv p3, iv p2, .unset, .unset, .unset] [(.int 1)]) := fun t k => K t (XS.goto X0.here hx rfl (pc0 := 31) (pc' := 35) rfl (hb hby at_31) (by decide) (by decide) k)
        replace K : OGo p e below A0 s₁ (mkF m 37 #[iv p1, iv p2, iv p3, iv p2, iv 1, .unset, .unset] []) := fun t k => K t (XS.istore X0.here hx rfl (hb hby at_35) rfl (l' := #[iv p1, iv p2, iv p3, iv p2, iv 1, .unset, .unset]) rfl k)
        replace K : OGo p e below A0 s₁ (mkF m 39 #[iv p1, iv p2, iv p3, iv p2, iv 1, .unset, .unset] [(.int 1)]) := fun t k => K t (XS.iload X0.here hx rfl (hb hby at_37) rfl k)
        replace K : OGo p e below A0 s₁ (mkF m 42 #[iv p1, iv p2, iv p3, iv p2, iv 1, .unset, .unset] []) := fun t k => K t (XS.ifNo X0.here hx rfl (hb hby at_39) rfl ((if0 _ _).trans (feq (by decide : ¬ ((1 : Int32) = (0 : Int32)))).1) k)
        replace K : OGo p e below A0 s₁ (mkF m 43 #[iv p1, iv p2, iv p3, iv p2, iv 1, .unset, .unset] [(.int p1)]) := fun t k => K t (XS.iloadN X0.here hx rfl (hb hby at_42) rfl k)
        replace K : OGo p e below A0 s₁ (mkF m 46 #[iv p1, iv p2, iv p3, iv p2, iv 1, .unset, .unset] [(.int 7679), (.int p1)]) := fun t k => K t (XS.sipush X0.here hx rfl (hb hby at_43) k)
        replace K : OGo p e below A0 s₁ (mkF m 47 #[iv p1, iv p2, iv p3, iv p2, iv 1, .unset, .unset] [(.int (p1 &&& (7679 : Int32)))]) := fun t k => K t (XS.iand X0.here hx rfl (hb hby at_46) rfl k)
        replace K : OGo p e below A0 s₁ (mkF m 49 #[iv p1, iv p2, iv p3, iv p2, iv 1, iv (p1 &&& (7679 : Int32)), .unset] []) := fun t k => K t (XS.istore X0.here hx rfl (hb hby at_47) rfl (l' := #[iv p1, iv p2, iv p3, iv p2, iv 1, iv (p1 &&& (7679 : Int32)), .unset]) rfl k)
        replace K : OGo p e below A0 s₁ (mkF m 59 #[iv p1, iv p2, iv p3, iv p2, iv 1, iv (p1 &&& (7679 : Int32)), .unset] []) := fun t k => K t (XS.goto X0.here hx rfl (pc0 := 49) (pc' := 59) rfl (hb hby at_49) (by decide) (by decide) k)
        replace K : OGo p e below A0 s₁ (mkF m 60 #[iv p1, iv p2, iv p3, iv p2, iv 1, iv (p1 &&& (7679 : Int32)), .unset] [(.int p1)]) := fun t k => K t (XS.iloadN X0.here hx rfl (hb hby at_59) rfl k)
        replace K : OGo p e below A0 s₁ (mkF m 61 #[iv p1, iv p2, iv p3, iv p2, iv 1, iv (p1 &&& (7679 : Int32)), .unset] [(.int p2), (.int p1)]) := fun t k => K t (XS.iloadN X0.here hx rfl (hb hby at_60) rfl k)
        obtain ⟨_, _, ⟨T3, L3, k3, n3⟩, -, X3, ⟨Lc3, hQ3, l3, y3, z3⟩, st3⟩ := Jvm.LawKit.callS X0 hx (y := mN0) hown (mvT hZ (ow hw 0 rfl)) (mvT hZ (ow hw 1 rfl)) (mvT hZ (ow hw 2 rfl)) (mvT hZ (ow hw 3 rfl)) (by decide) (backOf (W := 0) (rm_ofm l Z a0 hw [] p1 p2 h0 n0 Z0 ) hZ (ow hw 3 rfl) (ow hw 2 rfl) (by decide) (by decide)) (g := (mkF m 61 #[iv p1, iv p2, iv p3, iv p2, iv 1, iv (p1 &&& (7679 : Int32)), .unset] [(.int p2), (.int p1)])) rfl (by rw [hml]; rfl) (argsL := [(.int p1), (.int p2)]) (rest := []) (lenOf pd__II_I rfl) rfl (by show 2 * 0 + _ ≤ _; exact Nat.le_of_eq rfl) (hb hby at_61) (fun _ _ => ⟨rfl, e0, (by decide : 0 + 0 ≤ _), (by decide : 0 + 0 ≤ _)⟩)
        dsimp only [Pt.U, Pt.locs, Pt.cells, Pt.slots] at X3 l3 y3 z3 st3 hQ3
        subst l3 y3 z3
        obtain ⟨rfl, Nq3, e3⟩ := hQ3
        have N3 := Fr.app N0 Nq3
        replace K : OGo p e below A0 T3 (mkF m 64 #[iv p1, iv p2, iv p3, iv p2, iv 1, iv (p1 &&& (7679 : Int32)), .unset] [(.int (own_of p1 p2))]) := fun t k => K t (st3 t k)
        replace K : OGo p e below A0 T3 (mkF m 66 #[iv p1, iv p2, iv p3, iv p2, iv 1, iv (p1 &&& (7679 : Int32)), iv (own_of p1 p2)] []) := fun t k => K t (XS.istore X3.here hx rfl (hb hby at_64) rfl (l' := #[iv p1, iv p2, iv p3, iv p2, iv 1, iv (p1 &&& (7679 : Int32)), iv (own_of p1 p2)]) rfl k)
        replace K : OGo p e below A0 T3 (mkF m 68 #[iv p1, iv p2, iv p3, iv p2, iv 1, iv (p1 &&& (7679 : Int32)), iv (own_of p1 p2)] [(.int (own_of p1 p2))]) := fun t k => K t (XS.iload X3.here hx rfl (hb hby at_66) rfl k)
        replace K : OGo p e below A0 T3 (mkF m 70 #[iv p1, iv p2, iv p3, iv p2, iv 1, iv (p1 &&& (7679 : Int32)), iv (own_of p1 p2)] [(.int (p1 &&& (7679 : Int32))), (.int (own_of p1 p2))]) := fun t k => K t (XS.iload X3.here hx rfl (hb hby at_68) rfl k)
        replace K : OGo p e below A0 T3 (mkF m 73 #[iv p1, iv p2, iv p3, iv p2, iv 1, iv (p1 &&& (7679 : Int32)), iv (own_of p1 p2)] []) := fun t k => K t (XS.icmpNo X3.here hx rfl (hb hby at_70) rfl (teq (show (own_of p1 p2) = (p1 &&& (7679 : Int32)) by simp only [own_of, hc21, hc27, if_true, if_false])).2 k)
        replace K : OGo p e below A0 T3 (mkF m 74 #[iv p1, iv p2, iv p3, iv p2, iv 1, iv (p1 &&& (7679 : Int32)), iv (own_of p1 p2)] [(.int 1)]) := fun t k => K t (XS.iconst X3.here hx rfl (hb hby at_73) k)
        replace K : OGo p e below A0 T3 (mkF m 78 #[iv p1, iv p2, iv p3, iv p2, iv 1, iv (p1 &&& (7679 : Int32)), iv (own_of p1 p2)] [(.int 1)]) := fun t k => K t (XS.goto X3.here hx rfl (pc0 := 74) (pc' := 78) rfl (hb hby at_74) (by decide) (by decide) k)
        obtain ⟨fs, hr, hrun, hended, hW, hsame⟩ := X3.leave (v := some (.int (1 : Int32))) (fun h => by rw [Bd.returns] at h; cases h)
        subst hA0
        refine ⟨_, _, K _ (retN X3 hx (t := .boolean) Bd.returns (by simp) (hb hby at_78) hr), hrun, hended, _, _, rfl, ?_, ⟨_, rfl⟩, hW, hsame.mono (by decide) (by decide)⟩
        show Q_law Z p1 p2 p3 h0 n0 _ T3.heap _
        rw [e3]
        exact ⟨rfl, N3⟩
  · replace K : OGo p e below A0 s₁ (mkF m 6 #[iv p1, iv p2, iv p3, .unset, .unset, .unset, .unset] []) := fun t k => K t (XS.ifNo X0.here hx rfl (hb hby at_3) rfl ((if0 _ _).trans (feq hc3).1) k)
    replace K : OGo p e below A0 s₁ (mkF m 8 #[iv p1, iv p2, iv p3, .unset, .unset, .unset, .unset] [(.int 44)]) := fun t k => K t (XS.bipush X0.here hx rfl (hb hby at_6) k)
    replace K : OGo p e below A0 s₁ (mkF m 9 #[iv p1, iv p2, iv p3, .unset, .unset, .unset, .unset] [(.int p2), (.int 44)]) := fun t k => K t (XS.iloadN X0.here hx rfl (hb hby at_8) rfl k)
    replace K : OGo p e below A0 s₁ (mkF m 11 #[iv p1, iv p2, iv p3, .unset, .unset, .unset, .unset] [(.int 31), (.int p2), (.int 44)]) := fun t k => K t (XS.bipush X0.here hx rfl (hb hby at_9) k)
    replace K : OGo p e below A0 s₁ (mkF m 12 #[iv p1, iv p2, iv p3, .unset, .unset, .unset, .unset] [(.int (p2 &&& (31 : Int32))), (.int 44)]) := fun t k => K t (XS.iand X0.here hx rfl (hb hby at_11) rfl k)
    replace K : OGo p e below A0 s₁ (mkF m 13 #[iv p1, iv p2, iv p3, .unset, .unset, .unset, .unset] [(.int ((44 : Int32) + (p2 &&& (31 : Int32))))]) := fun t k => K t (XS.iadd X0.here hx rfl (hb hby at_12) rfl k)
    replace K : OGo p e below A0 s₁ (mkF m 17 #[iv p1, iv p2, iv p3, .unset, .unset, .unset, .unset] [(.int ((44 : Int32) + (p2 &&& (31 : Int32))))]) := fun t k => K t (XS.goto X0.here hx rfl (pc0 := 13) (pc' := 17) rfl (hb hby at_13) (by decide) (by decide) k)
    replace K : OGo p e below A0 s₁ (mkF m 18 #[iv p1, iv p2, iv p3, iv ((44 : Int32) + (p2 &&& (31 : Int32))), .unset, .unset, .unset] []) := fun t k => K t (XS.istoreN X0.here hx rfl (hb hby at_17) rfl (l' := #[iv p1, iv p2, iv p3, iv ((44 : Int32) + (p2 &&& (31 : Int32))), .unset, .unset, .unset]) rfl k)
    replace K : OGo p e below A0 s₁ (mkF m 19 #[iv p1, iv p2, iv p3, iv ((44 : Int32) + (p2 &&& (31 : Int32))), .unset, .unset, .unset] [(.int ((44 : Int32) + (p2 &&& (31 : Int32))))]) := fun t k => K t (XS.iloadN X0.here hx rfl (hb hby at_18) rfl k)
    replace K : OGo p e below A0 s₁ (mkF m 21 #[iv p1, iv p2, iv p3, iv ((44 : Int32) + (p2 &&& (31 : Int32))), .unset, .unset, .unset] [(.int 46), (.int ((44 : Int32) + (p2 &&& (31 : Int32))))]) := fun t k => K t (XS.bipush X0.here hx rfl (hb hby at_19) k)
    by_cases hc21 : ((44 : Int32) + (p2 &&& (31 : Int32))) < (46 : Int32)
    · replace K : OGo p e below A0 s₁ (mkF m 34 #[iv p1, iv p2, iv p3, iv ((44 : Int32) + (p2 &&& (31 : Int32))), .unset, .unset, .unset] []) := fun t k => K t (XS.icmpYes X0.here hx rfl (pc0 := 21) (pc' := 34) rfl (hb hby at_21) rfl (tlt hc21).1 (by decide) (by decide) k)
      replace K : OGo p e below A0 s₁ (mkF m 35 #[iv p1, iv p2, iv p3, iv ((44 : Int32) + (p2 &&& (31 : Int32))), .unset, .unset, .unset] [(.int 0)]) := fun t k => K t (XS.iconst X0.here hx rfl (hb hby at_34) k)
      replace K : OGo p e below A0 s₁ (mkF m 37 #[iv p1, iv p2, iv p3, iv ((44 : Int32) + (p2 &&& (31 : Int32))), iv 0, .unset, .unset] []) := fun t k => K t (XS.istore X0.here hx rfl (hb hby at_35) rfl (l' := #[iv p1, iv p2, iv p3, iv ((44 : Int32) + (p2 &&& (31 : Int32))), iv 0, .unset, .unset]) rfl k)
      replace K : OGo p e below A0 s₁ (mkF m 39 #[iv p1, iv p2, iv p3, iv ((44 : Int32) + (p2 &&& (31 : Int32))), iv 0, .unset, .unset] [(.int 0)]) := fun t k => K t (XS.iload X0.here hx rfl (hb hby at_37) rfl k)
      replace K : OGo p e below A0 s₁ (mkF m 52 #[iv p1, iv p2, iv p3, iv ((44 : Int32) + (p2 &&& (31 : Int32))), iv 0, .unset, .unset] []) := fun t k => K t (XS.ifYes X0.here hx rfl (pc0 := 39) (pc' := 52) rfl (hb hby at_39) rfl ((if0 _ _).trans (teq (by decide : (0 : Int32) = (0 : Int32))).1) (by decide) (by decide) k)
      replace K : OGo p e below A0 s₁ (mkF m 53 #[iv p1, iv p2, iv p3, iv ((44 : Int32) + (p2 &&& (31 : Int32))), iv 0, .unset, .unset] [(.int p1)]) := fun t k => K t (XS.iloadN X0.here hx rfl (hb hby at_52) rfl k)
      replace K : OGo p e below A0 s₁ (mkF m 56 #[iv p1, iv p2, iv p3, iv ((44 : Int32) + (p2 &&& (31 : Int32))), iv 0, .unset, .unset] [(.int 5631), (.int p1)]) := fun t k => K t (XS.sipush X0.here hx rfl (hb hby at_53) k)
      replace K : OGo p e below A0 s₁ (mkF m 57 #[iv p1, iv p2, iv p3, iv ((44 : Int32) + (p2 &&& (31 : Int32))), iv 0, .unset, .unset] [(.int (p1 &&& (5631 : Int32)))]) := fun t k => K t (XS.iand X0.here hx rfl (hb hby at_56) rfl k)
      replace K : OGo p e below A0 s₁ (mkF m 59 #[iv p1, iv p2, iv p3, iv ((44 : Int32) + (p2 &&& (31 : Int32))), iv 0, iv (p1 &&& (5631 : Int32)), .unset] []) := fun t k => K t (XS.istore X0.here hx rfl (hb hby at_57) rfl (l' := #[iv p1, iv p2, iv p3, iv ((44 : Int32) + (p2 &&& (31 : Int32))), iv 0, iv (p1 &&& (5631 : Int32)), .unset]) rfl k)
      replace K : OGo p e below A0 s₁ (mkF m 60 #[iv p1, iv p2, iv p3, iv ((44 : Int32) + (p2 &&& (31 : Int32))), iv 0, iv (p1 &&& (5631 : Int32)), .unset] [(.int p1)]) := fun t k => K t (XS.iloadN X0.here hx rfl (hb hby at_59) rfl k)
      replace K : OGo p e below A0 s₁ (mkF m 61 #[iv p1, iv p2, iv p3, iv ((44 : Int32) + (p2 &&& (31 : Int32))), iv 0, iv (p1 &&& (5631 : Int32)), .unset] [(.int ((44 : Int32) + (p2 &&& (31 : Int32)))), (.int p1)]) := fun t k => K t (XS.iloadN X0.here hx rfl (hb hby at_60) rfl k)
      obtain ⟨_, _, ⟨T4, L4, k4, n4⟩, -, X4, ⟨Lc4, hQ4, l4, y4, z4⟩, st4⟩ := Jvm.LawKit.callS X0 hx (y := mN0) hown (mvT hZ (ow hw 0 rfl)) (mvT hZ (ow hw 1 rfl)) (mvT hZ (ow hw 2 rfl)) (mvT hZ (ow hw 3 rfl)) (by decide) (backOf (W := 0) (rm_ofm l Z a0 hw [] p1 ((44 : Int32) + (p2 &&& (31 : Int32))) h0 n0 Z0 ) hZ (ow hw 3 rfl) (ow hw 2 rfl) (by decide) (by decide)) (g := (mkF m 61 #[iv p1, iv p2, iv p3, iv ((44 : Int32) + (p2 &&& (31 : Int32))), iv 0, iv (p1 &&& (5631 : Int32)), .unset] [(.int ((44 : Int32) + (p2 &&& (31 : Int32)))), (.int p1)])) rfl (by rw [hml]; rfl) (argsL := [(.int p1), (.int ((44 : Int32) + (p2 &&& (31 : Int32))))]) (rest := []) (lenOf pd__II_I rfl) rfl (by show 2 * 0 + _ ≤ _; exact Nat.le_of_eq rfl) (hb hby at_61) (fun _ _ => ⟨rfl, e0, (by decide : 0 + 0 ≤ _), (by decide : 0 + 0 ≤ _)⟩)
      dsimp only [Pt.U, Pt.locs, Pt.cells, Pt.slots] at X4 l4 y4 z4 st4 hQ4
      subst l4 y4 z4
      obtain ⟨rfl, Nq4, e4⟩ := hQ4
      have N4 := Fr.app N0 Nq4
      replace K : OGo p e below A0 T4 (mkF m 64 #[iv p1, iv p2, iv p3, iv ((44 : Int32) + (p2 &&& (31 : Int32))), iv 0, iv (p1 &&& (5631 : Int32)), .unset] [(.int (own_of p1 ((44 : Int32) + (p2 &&& (31 : Int32)))))]) := fun t k => K t (st4 t k)
      replace K : OGo p e below A0 T4 (mkF m 66 #[iv p1, iv p2, iv p3, iv ((44 : Int32) + (p2 &&& (31 : Int32))), iv 0, iv (p1 &&& (5631 : Int32)), iv (own_of p1 ((44 : Int32) + (p2 &&& (31 : Int32))))] []) := fun t k => K t (XS.istore X4.here hx rfl (hb hby at_64) rfl (l' := #[iv p1, iv p2, iv p3, iv ((44 : Int32) + (p2 &&& (31 : Int32))), iv 0, iv (p1 &&& (5631 : Int32)), iv (own_of p1 ((44 : Int32) + (p2 &&& (31 : Int32))))]) rfl k)
      replace K : OGo p e below A0 T4 (mkF m 68 #[iv p1, iv p2, iv p3, iv ((44 : Int32) + (p2 &&& (31 : Int32))), iv 0, iv (p1 &&& (5631 : Int32)), iv (own_of p1 ((44 : Int32) + (p2 &&& (31 : Int32))))] [(.int (own_of p1 ((44 : Int32) + (p2 &&& (31 : Int32)))))]) := fun t k => K t (XS.iload X4.here hx rfl (hb hby at_66) rfl k)
      replace K : OGo p e below A0 T4 (mkF m 70 #[iv p1, iv p2, iv p3, iv ((44 : Int32) + (p2 &&& (31 : Int32))), iv 0, iv (p1 &&& (5631 : Int32)), iv (own_of p1 ((44 : Int32) + (p2 &&& (31 : Int32))))] [(.int (p1 &&& (5631 : Int32))), (.int (own_of p1 ((44 : Int32) + (p2 &&& (31 : Int32)))))]) := fun t k => K t (XS.iload X4.here hx rfl (hb hby at_68) rfl k)
      replace K : OGo p e below A0 T4 (mkF m 73 #[iv p1, iv p2, iv p3, iv ((44 : Int32) + (p2 &&& (31 : Int32))), iv 0, iv (p1 &&& (5631 : Int32)), iv (own_of p1 ((44 : Int32) + (p2 &&& (31 : Int32))))] []) := fun t k => K t (XS.icmpNo X4.here hx rfl (hb hby at_70) rfl (teq (show (own_of p1 ((44 : Int32) + (p2 &&& (31 : Int32)))) = (p1 &&& (5631 : Int32)) by simp only [own_of, hc21, if_true, if_false])).2 k)
      replace K : OGo p e below A0 T4 (mkF m 74 #[iv p1, iv p2, iv p3, iv ((44 : Int32) + (p2 &&& (31 : Int32))), iv 0, iv (p1 &&& (5631 : Int32)), iv (own_of p1 ((44 : Int32) + (p2 &&& (31 : Int32))))] [(.int 1)]) := fun t k => K t (XS.iconst X4.here hx rfl (hb hby at_73) k)
      replace K : OGo p e below A0 T4 (mkF m 78 #[iv p1, iv p2, iv p3, iv ((44 : Int32) + (p2 &&& (31 : Int32))), iv 0, iv (p1 &&& (5631 : Int32)), iv (own_of p1 ((44 : Int32) + (p2 &&& (31 : Int32))))] [(.int 1)]) := fun t k => K t (XS.goto X4.here hx rfl (pc0 := 74) (pc' := 78) rfl (hb hby at_74) (by decide) (by decide) k)
      obtain ⟨fs, hr, hrun, hended, hW, hsame⟩ := X4.leave (v := some (.int (1 : Int32))) (fun h => by rw [Bd.returns] at h; cases h)
      subst hA0
      refine ⟨_, _, K _ (retN X4 hx (t := .boolean) Bd.returns (by simp) (hb hby at_78) hr), hrun, hended, _, _, rfl, ?_, ⟨_, rfl⟩, hW, hsame.mono (by decide) (by decide)⟩
      show Q_law Z p1 p2 p3 h0 n0 _ T4.heap _
      rw [e4]
      exact ⟨rfl, N4⟩
    · replace K : OGo p e below A0 s₁ (mkF m 24 #[iv p1, iv p2, iv p3, iv ((44 : Int32) + (p2 &&& (31 : Int32))), .unset, .unset, .unset] []) := fun t k => K t (XS.icmpNo X0.here hx rfl (hb hby at_21) rfl (flt hc21).1 k)
      replace K : OGo p e below A0 s₁ (mkF m 25 #[iv p1, iv p2, iv p3, iv ((44 : Int32) + (p2 &&& (31 : Int32))), .unset, .unset, .unset] [(.int ((44 : Int32) + (p2 &&& (31 : Int32))))]) := fun t k => K t (XS.iloadN X0.here hx rfl (hb hby at_24) rfl k)
      replace K : OGo p e below A0 s₁ (mkF m 27 #[iv p1, iv p2, iv p3, iv ((44 : Int32) + (p2 &&& (31 : Int32))), .unset, .unset, .unset] [(.int 60), (.int ((44 : Int32) + (p2 &&& (31 : Int32))))]) := fun t k => K t (XS.bipush X0.here hx rfl (hb hby at_25) k)
      by_cases hc27 : (60 : Int32) < ((44 : Int32) + (p2 &&& (31 : Int32)))
      · replace K : OGo p e below A0 s₁ (mkF m 34 #[iv p1, iv p2, iv p3, iv ((44 : Int32) + (p2 &&& (31 : Int32))), .unset, .unset, .unset] []) := fun t k => K t (XS.icmpYes X0.here hx rfl (pc0 := 27) (pc' := 34) rfl (hb hby at_27) rfl (tlt hc27).2.2.1 (by decide) (by decide) k)
        replace K : OGo p e below A0 s₁ (mkF m 35 #[iv p1, iv p2, iv p3, iv ((44 : Int32) + (p2 &&& (31 : Int32))), .unset, .unset, .unset] [(.int 0)]) := fun t k => K t (XS.iconst X0.here hx rfl (hb hby at_34) k)
        replace K : OGo p e below A0 s₁ (mkF m 37 #[iv p1, iv p2, iv p3, iv ((44 : Int32) + (p2 &&& (31 : Int32))), iv 0, .unset, .unset] []) := fun t k => K t (XS.istore X0.here hx rfl (hb hby at_35) rfl (l' := #[iv p1, iv p2, iv p3, iv ((44 : Int32) + (p2 &&& (31 : Int32))), iv 0, .unset, .unset]) rfl k)
        replace K : OGo p e below A0 s₁ (mkF m 39 #[iv p1, iv p2, iv p3, iv ((44 : Int32) + (p2 &&& (31 : Int32))), iv 0, .unset, .unset] [(.int 0)]) := fun t k => K t (XS.iload X0.here hx rfl (hb hby at_37) rfl k)
        replace K : OGo p e below A0 s₁ (mkF m 52 #[iv p1, iv p2, iv p3, iv ((44 : Int32) + (p2 &&& (31 : Int32))), iv 0, .unset, .unset] []) := fun t k => K t (XS.ifYes X0.here hx rfl (pc0 := 39) (pc' := 52) rfl (hb hby at_39) rfl ((if0 _ _).trans (teq (by decide : (0 : Int32) = (0 : Int32))).1) (by decide) (by decide) k)
        replace K : OGo p e below A0 s₁ (mkF m 53 #[iv p1, iv p2, iv p3, iv ((44 : Int32) + (p2 &&& (31 : Int32))), iv 0, .unset, .unset] [(.int p1)]) := fun t k => K t (XS.iloadN X0.here hx rfl (hb hby at_52) rfl k)
        replace K : OGo p e below A0 s₁ (mkF m 56 #[iv p1, iv p2, iv p3, iv ((44 : Int32) + (p2 &&& (31 : Int32))), iv 0, .unset, .unset] [(.int 5631), (.int p1)]) := fun t k => K t (XS.sipush X0.here hx rfl (hb hby at_53) k)
        replace K : OGo p e below A0 s₁ (mkF m 57 #[iv p1, iv p2, iv p3, iv ((44 : Int32) + (p2 &&& (31 : Int32))), iv 0, .unset, .unset] [(.int (p1 &&& (5631 : Int32)))]) := fun t k => K t (XS.iand X0.here hx rfl (hb hby at_56) rfl k)
        replace K : OGo p e below A0 s₁ (mkF m 59 #[iv p1, iv p2, iv p3, iv ((44 : Int32) + (p2 &&& (31 : Int32))), iv 0, iv (p1 &&& (5631 : Int32)), .unset] []) := fun t k => K t (XS.istore X0.here hx rfl (hb hby at_57) rfl (l' := #[iv p1, iv p2, iv p3, iv ((44 : Int32) + (p2 &&& (31 : Int32))), iv 0, iv (p1 &&& (5631 : Int32)), .unset]) rfl k)
        replace K : OGo p e below A0 s₁ (mkF m 60 #[iv p1, iv p2, iv p3, iv ((44 : Int32) + (p2 &&& (31 : Int32))), iv 0, iv (p1 &&& (5631 : Int32)), .unset] [(.int p1)]) := fun t k => K t (XS.iloadN X0.here hx rfl (hb hby at_59) rfl k)
        replace K : OGo p e below A0 s₁ (mkF m 61 #[iv p1, iv p2, iv p3, iv ((44 : Int32) + (p2 &&& (31 : Int32))), iv 0, iv (p1 &&& (5631 : Int32)), .unset] [(.int ((44 : Int32) + (p2 &&& (31 : Int32)))), (.int p1)]) := fun t k => K t (XS.iloadN X0.here hx rfl (hb hby at_60) rfl k)
        obtain ⟨_, _, ⟨T5, L5, k5, n5⟩, -, X5, ⟨Lc5, hQ5, l5, y5, z5⟩, st5⟩ := Jvm.LawKit.callS X0 hx (y := mN0) hown (mvT hZ (ow hw 0 rfl)) (mvT hZ (ow hw 1 rfl)) (mvT hZ (ow hw 2 rfl)) (mvT hZ (ow hw 3 rfl)) (by decide) (backOf (W := 0) (rm_ofm l Z a0 hw [] p1 ((44 : Int32) + (p2 &&& (31 : Int32))) h0 n0 Z0 ) hZ (ow hw 3 rfl) (ow hw 2 rfl) (by decide) (by decide)) (g := (mkF m 61 #[iv p1, iv p2, iv p3, iv ((44 : Int32) + (p2 &&& (31 : Int32))), iv 0, iv (p1 &&& (5631 : Int32)), .unset] [(.int ((44 : Int32) + (p2 &&& (31 : Int32)))), (.int p1)])) rfl (by rw [hml]; rfl) (argsL := [(.int p1), (.int ((44 : Int32) + (p2 &&& (31 : Int32))))]) (rest := []) (lenOf pd__II_I rfl) rfl (by show 2 * 0 + _ ≤ _; exact Nat.le_of_eq rfl) (hb hby at_61) (fun _ _ => ⟨rfl, e0, (by decide : 0 + 0 ≤ _), (by decide : 0 + 0 ≤ _)⟩)
        dsimp only [Pt.U, Pt.locs, Pt.cells, Pt.slots] at X5 l5 y5 z5 st5 hQ5
        subst l5 y5 z5
        obtain ⟨rfl, Nq5, e5⟩ := hQ5
        have N5 := Fr.app N0 Nq5
        replace K : OGo p e below A0 T5 (mkF m 64 #[iv p1, iv p2, iv p3, iv ((44 : Int32) + (p2 &&& (31 : Int32))), iv 0, iv (p1 &&& (5631 : Int32)), .unset] [(.int (own_of p1 ((44 : Int32) + (p2 &&& (31 : Int32)))))]) := fun t k => K t (st5 t k)
        replace K : OGo p e below A0 T5 (mkF m 66 #[iv p1, iv p2, iv p3, iv ((44 : Int32) + (p2 &&& (31 : Int32))), iv 0, iv (p1 &&& (5631 : Int32)), iv (own_of p1 ((44 : Int32) + (p2 &&& (31 : Int32))))] []) := fun t k => K t (XS.istore X5.here hx rfl (hb hby at_64) rfl (l' := #[iv p1, iv p2, iv p3, iv ((44 : Int32) + (p2 &&& (31 : Int32))), iv 0, iv (p1 &&& (5631 : Int32)), iv (own_of p1 ((44 : Int32) + (p2 &&& (31 : Int32))))]) rfl k)
        replace K : OGo p e below A0 T5 (mkF m 68 #[iv p1, iv p2, iv p3, iv ((44 : Int32) + (p2 &&& (31 : Int32))), iv 0, iv (p1 &&& (5631 : Int32)), iv (own_of p1 ((44 : Int32) + (p2 &&& (31 : Int32))))] [(.int (own_of p1 ((44 : Int32) + (p2 &&& (31 : Int32)))))]) := fun t k => K t (XS.iload X5.here hx rfl (hb hby at_66) rfl k)
        replace K : OGo p e below A0 T5 (mkF m 70 #[iv p1, iv p2, iv p3, iv ((44 : Int32) + (p2 &&& (31 : Int32))), iv 0, iv (p1 &&& (5631 : Int32)), iv (own_of p1 ((44 : Int32) + (p2 &&& (31 : Int32))))] [(.int (p1 &&& (5631 : Int32))), (.int (own_of p1 ((44 : Int32) + (p2 &&& (31 : Int32)))))]) := fun t k => K t (XS.iload X5.here hx rfl (hb hby at_68) rfl k)
        replace K : OGo p e below A0 T5 (mkF m 73 #[iv p1, iv p2, iv p3, iv ((44 : Int32) + (p2 &&& (31 : Int32))), iv 0, iv (p1 &&& (5631 : Int32)), iv (own_of p1 ((44 : Int32) + (p2 &&& (31 : Int32))))] []) := fun t k => K t (XS.icmpNo X5.here hx rfl (hb hby at_70) rfl (teq (show (own_of p1 ((44 : Int32) + (p2 &&& (31 : Int32)))) = (p1 &&& (5631 : Int32)) by simp only [own_of, hc21, hc27, if_true, if_false])).2 k)
        replace K : OGo p e below A0 T5 (mkF m 74 #[iv p1, iv p2, iv p3, iv ((44 : Int32) + (p2 &&& (31 : Int32))), iv 0, iv (p1 &&& (5631 : Int32)), iv (own_of p1 ((44 : Int32) + (p2 &&& (31 : Int32))))] [(.int 1)]) := fun t k => K t (XS.iconst X5.here hx rfl (hb hby at_73) k)
        replace K : OGo p e below A0 T5 (mkF m 78 #[iv p1, iv p2, iv p3, iv ((44 : Int32) + (p2 &&& (31 : Int32))), iv 0, iv (p1 &&& (5631 : Int32)), iv (own_of p1 ((44 : Int32) + (p2 &&& (31 : Int32))))] [(.int 1)]) := fun t k => K t (XS.goto X5.here hx rfl (pc0 := 74) (pc' := 78) rfl (hb hby at_74) (by decide) (by decide) k)
        obtain ⟨fs, hr, hrun, hended, hW, hsame⟩ := X5.leave (v := some (.int (1 : Int32))) (fun h => by rw [Bd.returns] at h; cases h)
        subst hA0
        refine ⟨_, _, K _ (retN X5 hx (t := .boolean) Bd.returns (by simp) (hb hby at_78) hr), hrun, hended, _, _, rfl, ?_, ⟨_, rfl⟩, hW, hsame.mono (by decide) (by decide)⟩
        show Q_law Z p1 p2 p3 h0 n0 _ T5.heap _
        rw [e5]
        exact ⟨rfl, N5⟩
      · replace K : OGo p e below A0 s₁ (mkF m 30 #[iv p1, iv p2, iv p3, iv ((44 : Int32) + (p2 &&& (31 : Int32))), .unset, .unset, .unset] []) := fun t k => K t (XS.icmpNo X0.here hx rfl (hb hby at_27) rfl (flt hc27).2.2.1 k)
        replace K : OGo p e below A0 s₁ (mkF m 31 #[iv p1, iv p2, iv p3, iv ((44 : Int32) + (p2 &&& (31 : Int32))), .unset, .unset, .unset] [(.int 1)]) := fun t k => K t (XS.iconst X0.here hx rfl (hb hby at_30) k)
        replace K : OGo p e below A0 s₁ (mkF m 35 #[iv p1, iv p2, iv p3, iv ((44 : Int32) + (p2 &&& (31 : Int32))), .unset, .unset, .unset] [(.int 1)]) := fun t k => K t (XS.goto X0.here hx rfl (pc0 := 31) (pc' := 35) rfl (hb hby at_31) (by decide) (by decide) k)
        replace K : OGo p e below A0 s₁ (mkF m 37 #[iv p1, iv p2, iv p3, iv ((44 : Int32) + (p2 &&& (31 : Int32))), iv 1, .unset, .unset] []) := fun t k => K t (XS.istore X0.here hx rfl (hb hby at_35) rfl (l' := #[iv p1, iv p2, iv p3, iv ((44 : Int32) + (p2 &&& (31 : Int32))), iv 1, .unset, .unset]) rfl k)
        replace K : OGo p e below A0 s₁ (mkF m 39 #[iv p1, iv p2, iv p3, iv ((44 : Int32) + (p2 &&& (31 : Int32))), iv 1, .unset, .unset] [(.int 1)]) := fun t k => K t (XS.iload X0.here hx rfl (hb hby at_37) rfl k)
        replace K : OGo p e below A0 s₁ (mkF m 42 #[iv p1, iv p2, iv p3, iv ((44 : Int32) + (p2 &&& (31 : Int32))), iv 1, .unset, .unset] []) := fun t k => K t (XS.ifNo X0.here hx rfl (hb hby at_39) rfl ((if0 _ _).trans (feq (by decide : ¬ ((1 : Int32) = (0 : Int32)))).1) k)
        replace K : OGo p e below A0 s₁ (mkF m 43 #[iv p1, iv p2, iv p3, iv ((44 : Int32) + (p2 &&& (31 : Int32))), iv 1, .unset, .unset] [(.int p1)]) := fun t k => K t (XS.iloadN X0.here hx rfl (hb hby at_42) rfl k)
        replace K : OGo p e below A0 s₁ (mkF m 46 #[iv p1, iv p2, iv p3, iv ((44 : Int32) + (p2 &&& (31 : Int32))), iv 1, .unset, .unset] [(.int 7679), (.int p1)]) := fun t k => K t (XS.sipush X0.here hx rfl (hb hby at_43) k)
        replace K : OGo p e below A0 s₁ (mkF m 47 #[iv p1, iv p2, iv p3, iv ((44 : Int32) + (p2 &&& (31 : Int32))), iv 1, .unset, .unset] [(.int (p1 &&& (7679 : Int32)))]) := fun t k => K t (XS.iand X0.here hx rfl (hb hby at_46) rfl k)
        replace K : OGo p e below A0 s₁ (mkF m 49 #[iv p1, iv p2, iv p3, iv ((44 : Int32) + (p2 &&& (31 : Int32))), iv 1, iv (p1 &&& (7679 : Int32)), .unset] []) := fun t k => K t (XS.istore X0.here hx rfl (hb hby at_47) rfl (l' := #[iv p1, iv p2, iv p3, iv ((44 : Int32) + (p2 &&& (31 : Int32))), iv 1, iv (p1 &&& (7679 : Int32)), .unset]) rfl k)
        replace K : OGo p e below A0 s₁ (mkF m 59 #[iv p1, iv p2, iv p3, iv ((44 : Int32) + (p2 &&& (31 : Int32))), iv 1, iv (p1 &&& (7679 : Int32)), .unset] []) := fun t k => K t (XS.goto X0.here hx rfl (pc0 := 49) (pc' := 59) rfl (hb hby at_49) (by decide) (by decide) k)
        replace K : OGo p e below A0 s₁ (mkF m 60 #[iv p1, iv p2, iv p3, iv ((44 : Int32) + (p2 &&& (31 : Int32))), iv 1, iv (p1 &&& (7679 : Int32)), .unset] [(.int p1)]) := fun t k => K t (XS.iloadN X0.here hx rfl (hb hby at_59) rfl k)
        replace K : OGo p e below A0 s₁ (mkF m 61 #[iv p1, iv p2, iv p3, iv ((44 : Int32) + (p2 &&& (31 : Int32))), iv 1, iv (p1 &&& (7679 : Int32)), .unset] [(.int ((44 : Int32) + (p2 &&& (31 : Int32)))), (.int p1)]) := fun t k => K t (XS.iloadN X0.here hx rfl (hb hby at_60) rfl k)
        obtain ⟨_, _, ⟨T6, L6, k6, n6⟩, -, X6, ⟨Lc6, hQ6, l6, y6, z6⟩, st6⟩ := Jvm.LawKit.callS X0 hx (y := mN0) hown (mvT hZ (ow hw 0 rfl)) (mvT hZ (ow hw 1 rfl)) (mvT hZ (ow hw 2 rfl)) (mvT hZ (ow hw 3 rfl)) (by decide) (backOf (W := 0) (rm_ofm l Z a0 hw [] p1 ((44 : Int32) + (p2 &&& (31 : Int32))) h0 n0 Z0 ) hZ (ow hw 3 rfl) (ow hw 2 rfl) (by decide) (by decide)) (g := (mkF m 61 #[iv p1, iv p2, iv p3, iv ((44 : Int32) + (p2 &&& (31 : Int32))), iv 1, iv (p1 &&& (7679 : Int32)), .unset] [(.int ((44 : Int32) + (p2 &&& (31 : Int32)))), (.int p1)])) rfl (by rw [hml]; rfl) (argsL := [(.int p1), (.int ((44 : Int32) + (p2 &&& (31 : Int32))))]) (rest := []) (lenOf pd__II_I rfl) rfl (by show 2 * 0 + _ ≤ _; exact Nat.le_of_eq rfl) (hb hby at_61) (fun _ _ => ⟨rfl, e0, (by decide : 0 + 0 ≤ _), (by decide : 0 + 0 ≤ _)⟩)
        dsimp only [Pt.U, Pt.locs, Pt.cells, Pt.slots] at X6 l6 y6 z6 st6 hQ6
        subst l6 y6 z6
        obtain ⟨rfl, Nq6, e6⟩ := hQ6
        have N6 := Fr.app N0 Nq6
        replace K : OGo p e below A0 T6 (mkF m 64 #[iv p1, iv p2, iv p3, iv ((44 : Int32) + (p2 &&& (31 : Int32))), iv 1, iv (p1 &&& (7679 : Int32)), .unset] [(.int (own_of p1 ((44 : Int32) + (p2 &&& (31 : Int32)))))]) := fun t k => K t (st6 t k)
        replace K : OGo p e below A0 T6 (mkF m 66 #[iv p1, iv p2, iv p3, iv ((44 : Int32) + (p2 &&& (31 : Int32))), iv 1, iv (p1 &&& (7679 : Int32)), iv (own_of p1 ((44 : Int32) + (p2 &&& (31 : Int32))))] []) := fun t k => K t (XS.istore X6.here hx rfl (hb hby at_64) rfl (l' := #[iv p1, iv p2, iv p3, iv ((44 : Int32) + (p2 &&& (31 : Int32))), iv 1, iv (p1 &&& (7679 : Int32)), iv (own_of p1 ((44 : Int32) + (p2 &&& (31 : Int32))))]) rfl k)
        replace K : OGo p e below A0 T6 (mkF m 68 #[iv p1, iv p2, iv p3, iv ((44 : Int32) + (p2 &&& (31 : Int32))), iv 1, iv (p1 &&& (7679 : Int32)), iv (own_of p1 ((44 : Int32) + (p2 &&& (31 : Int32))))] [(.int (own_of p1 ((44 : Int32) + (p2 &&& (31 : Int32)))))]) := fun t k => K t (XS.iload X6.here hx rfl (hb hby at_66) rfl k)
        replace K : OGo p e below A0 T6 (mkF m 70 #[iv p1, iv p2, iv p3, iv ((44 : Int32) + (p2 &&& (31 : Int32))), iv 1, iv (p1 &&& (7679 : Int32)), iv (own_of p1 ((44 : Int32) + (p2 &&& (31 : Int32))))] [(.int (p1 &&& (7679 : Int32))), (.int (own_of p1 ((44 : Int32) + (p2 &&& (31 : Int32)))))]) := fun t k => K t (XS.iload X6.here hx rfl (hb hby at_68) rfl k)
        replace K : OGo p e below A0 T6 (mkF m 73 #[iv p1, iv p2, iv p3, iv ((44 : Int32) + (p2 &&& (31 : Int32))), iv 1, iv (p1 &&& (7679 : Int32)), iv (own_of p1 ((44 : Int32) + (p2 &&& (31 : Int32))))] []) := fun t k => K t (XS.icmpNo X6.here hx rfl (hb hby at_70) rfl (teq (show (own_of p1 ((44 : Int32) + (p2 &&& (31 : Int32)))) = (p1 &&& (7679 : Int32)) by simp only [own_of, hc21, hc27, if_true, if_false])).2 k)
        replace K : OGo p e below A0 T6 (mkF m 74 #[iv p1, iv p2, iv p3, iv ((44 : Int32) + (p2 &&& (31 : Int32))), iv 1, iv (p1 &&& (7679 : Int32)), iv (own_of p1 ((44 : Int32) + (p2 &&& (31 : Int32))))] [(.int 1)]) := fun t k => K t (XS.iconst X6.here hx rfl (hb hby at_73) k)
        replace K : OGo p e below A0 T6 (mkF m 78 #[iv p1, iv p2, iv p3, iv ((44 : Int32) + (p2 &&& (31 : Int32))), iv 1, iv (p1 &&& (7679 : Int32)), iv (own_of p1 ((44 : Int32) + (p2 &&& (31 : Int32))))] [(.int 1)]) := fun t k => K t (XS.goto X6.here hx rfl (pc0 := 74) (pc' := 78) rfl (hb hby at_74) (by decide) (by decide) k)
        obtain ⟨fs, hr, hrun, hended, hW, hsame⟩ := X6.leave (v := some (.int (1 : Int32))) (fun h => by rw [Bd.returns] at h; cases h)
        subst hA0
        refine ⟨_, _, K _ (retN X6 hx (t := .boolean) Bd.returns (by simp) (hb hby at_78) hr), hrun, hended, _, _, rfl, ?_, ⟨_, rfl⟩, hW, hsame.mono (by decide) (by decide)⟩
        show Q_law Z p1 p2 p3 h0 n0 _ T6.heap _
        rw [e6]
        exact ⟨rfl, N6⟩
set_option maxRecDepth 65536 in
set_option maxHeartbeats 40000000 in
theorem comes_1 {Post : Tables → Env → Array Value → State → Outcome → State → Prop} (hpost : ∀ tb e args s v u, (limb_1_1.after args s (.returned v) u = true ∧ limb_1_2.after args s (.returned v) u = true ∧ True) → FrameEnd s (.returned v) u (Jvm.fieldLocs frame_1_writes args s ++ Jvm.arrayLocs frame_1_arrays args s ++ Jvm.staticLocs frame_1_statics s) 0 0 → Post tb e args s (.returned v) u) :
    ArmFor flags0 classFile x code maxLocals ret World_1 tables_1 room_1 Calls_1 rest_1 Pre_1 Post := by
  intro l hfl _ _ p e ha hc hk s m args below hf hA hF happ hP
  obtain ⟨hcalls, hrest, hpre⟩ := hP
  obtain ⟨-, -, -, hnamed, -, -, -, hat⟩ := (Spec.applies_iff hf).mp happ
  obtain ⟨hg, hn⟩ := and_e (Cond.before_iff.mp (show (Jvm.Cond.and given_1 narrow_1).before args s = true from hpre))
  obtain ⟨gv1, gv2⟩ := and_e hg
  obtain ⟨gv3, gv4⟩ := and_e gv2
  obtain ⟨gv5, gv6⟩ := and_e gv4
  obtain ⟨w0, w1, w2, rfl⟩ : ∃ w0 w1 w2 : Value, args = #[w0, w1, w2] := by
    have hs : args.size = 3 := by simpa [Cond.value, given_1] using gv1
    obtain ⟨L⟩ := args
    match L, hs with
    | [w0, w1, w2], _ => exact ⟨w0, w1, w2, rfl⟩
  have hw := fun d (hd : d ∈ tables_1) => atoms_spec (ws := Jvm.Cond.code x code maxLocals ret :: tables_1) hat d (List.mem_cons_of_mem _ hd)
  have hfit : Fit s := fun {y c} hc i hi => by
    obtain ⟨ha, rfl⟩ := Array.getElem?_eq_some_iff.mp hc
    have q := List.all_eq_true.mp ((Array.all_eq_true_iff_forall_mem.mp hF) _ (Array.getElem_mem ha)) i (List.mem_range.mpr hi)
    simpa [Array.getElem?_eq_getElem hi] using q
  obtain ⟨i0, ei0⟩ := is_v gv3
  obtain rfl : w0 = (.int i0) := Option.some.inj ei0
  obtain ⟨i1, ei1⟩ := is_v gv5
  obtain rfl : w1 = (.int i1) := Option.some.inj ei1
  obtain ⟨i2, ei2⟩ := is_v gv6
  obtain rfl : w2 = (.int i2) := Option.some.inj ei2
  obtain ⟨n, o, h1, h2, h3, _, L, rfl, ⟨rfl, N⟩, hq⟩ := rm_law l s _ hw tables_1 i0 i1 i2 s.heap s.heap.size (Nat.le_refl _)  p e ha hc hk s m _ below hf ((Spec.applies_iff_loose hf).mp happ).1 ⟨rfl, State.Warmed39.refl s, rfl⟩ trivial
  refine ⟨n, _, h1, h2, h3, hpost _ _ _ _ _ _ ⟨Cond.after_iff.mpr rfl, Cond.after_iff.mpr (eq_i res_at (Term.int_eval (1)) rfl), trivial⟩ ⟨hq.1, hq.2.1, (hq.2.2.sift fun y hy => Or.inr (N y hy)).mono (by decide) (by decide)⟩⟩
theorem main_1_1 : Claimed_1_1 := comes_1 fun _ _ _ _ _ _ h hF => ⟨h.1, hF⟩
theorem main_1_2 : Claimed_1_2 := comes_1 fun _ _ _ _ _ _ h hF => ⟨h.2.1, hF⟩
end Jvm.Pilot.@@N@@
namespace Jvm.Pilot.@@N@@
open Jvm Jvm.ClassFile Sem Op Lib Jvm.Free Jvm.Stand Jvm.Pilot.@@N@@.Jvm.D
/-! MADE BY PROGRAM (witnessworld.py) out of the Statement's table words and the real class files: 9 classes; the members and pool entries that the words name. The judged class is class 1, her method 1. -/
namespace start1
open Jvm.ClassFile
def u (s : String) : CpInfo := .utf8 (stringToUtf16 s)
/-- a pool by its gaps: so many unusable entries, then the entry; so many at the end -/
def gap : Nat → List CpInfo → List CpInfo
  | 0, r => r
  | n + 1, r => .unusable :: gap n r
def poolList (es : List (Nat × CpInfo)) (last : Nat) : List CpInfo := es.foldr (fun e r => gap e.1 (e.2 :: r)) (gap last [])
def pool (es : List (Nat × CpInfo)) (last : Nat) : Array CpInfo := ⟨poolList es last⟩
def fileOf (pool : Array CpInfo) (this : Nat) (attrs : Array Attribute := #[]) (ms : Array MethodInfo := #[]) (fl : Nat := 33) (sup : Nat := 0) (ifs : Array Nat := #[]) (fds : Array FieldInfo := #[]) : ClassFile where
  minorVersion := 0
  majorVersion := 65
  constantPool := pool
  accessFlags := fl
  thisClass := this
  superClass := sup
  interfaces := ifs
  fields := fds
  methods := ms
  attributes := attrs
def plain (name : String) (sup : Option ClassId) : Class where
  name := name
  kind := .ordinary
  loader := none
  accessFlags := 33
  super := sup
  interfaces := #[]
  cf := none
  fields := #[]
  methods := #[]
  instanceTypes := #[]
  staticTypes := #[]
  resolved := #[]
  callSites := []
  init := .initialized
  statics := none
  mirror := none

def pool0 : Array CpInfo := pool [(5, u "<init>"), (0, u "()V"), (1, .class_ 10), (1, u "java/lang/Object")] 113

def k0m0 : Method := { name := "<init>", desc := "()V", sig := { parameters := [], returnType := none }, accessFlags := 1, code := none }
/-- java/lang/Object -/
def k0 : Class := { plain "java/lang/Object" none with
  accessFlags := 33
  interfaces := #[]
  cf := some (fileOf pool0 8 #[] #[{ accessFlags := 1, nameIndex := 5, descriptorIndex := 6, attributes := #[] }] 33 0 #[] #[])
  fields := #[]
  methods := #[k0m0]
  instanceTypes := #[]
  staticTypes := #[]
  resolved := Array.replicate 124 none
  statics := none }

def pool1 : Array CpInfo := pool [(2, .class_ 4), (1, u "java/lang/Object"), (0, u "<init>"), (0, u "()V"), (0, .methodref 8 9), (0, .class_ 10), (0, .nameAndType 11 12), (0, u "com/example/bytecrane/bytecrane/classfile/AccessFlags"), (0, u "ofMethod"), (0, u "(II)I"), (0, .class_ 14), (0, u "com/example/bytecrane/bytecrane/classfile/AccessFlagsOfMethodPinLaw"), (2, u "law"), (0, u "(III)Z")] 3

def k1m0 : Method := { name := "<init>", desc := "()V", sig := { parameters := [], returnType := none }, accessFlags := 2, code := none }
def k1c1 : Code := { maxStack := 3, maxLocals := 7, code := code, exceptionTable := #[], attributes := #[] }
def k1m1 : Method := { name := "law", desc := "(III)Z", sig := { parameters := [.int, .int, .int], returnType := some .boolean }, accessFlags := 9, code := some k1c1 }
/-- com/example/bytecrane/bytecrane/classfile/AccessFlagsOfMethodPinLaw -/
def k1 : Class := { plain "com/example/bytecrane/bytecrane/classfile/AccessFlagsOfMethodPinLaw" (some 0) with
  accessFlags := 49
  interfaces := #[]
  cf := some (fileOf pool1 13 #[] #[{ accessFlags := 2, nameIndex := 5, descriptorIndex := 6, attributes := #[] }, { accessFlags := 9, nameIndex := 17, descriptorIndex := 18, attributes := #[] }] 49 2 #[] #[])
  fields := #[]
  methods := #[k1m0, k1m1]
  instanceTypes := #[]
  staticTypes := #[]
  resolved := Array.replicate 22 none
  statics := none }

def pool2 : Array CpInfo := pool [(1, .class_ 2), (0, u "com/example/bytecrane/bytecrane/classfile/AccessFlags"), (1, .class_ 6), (1, u "java/lang/Object"), (0, u "<init>"), (0, u "()V"), (45, u "ofMethod"), (0, u "(II)I"), (31, u "PUBLIC"), (0, u "I"), (2, u "PRIVATE"), (1, u "PROTECTED"), (1, u "STATIC"), (1, u "FINAL"), (1, u "SUPER"), (1, u "SYNCHRONIZED"), (0, u "VOLATILE"), (1, u "BRIDGE"), (0, u "TRANSIENT"), (1, u "VARARGS"), (0, u "NATIVE"), (1, u "INTERFACE"), (1, u "ABSTRACT"), (1, u "STRICT"), (1, u "SYNTHETIC"), (1, u "ANNOTATION"), (1, u "ENUM"), (1, u "MODULE"), (0, u "CLASS_FLAGS"), (0, u "FIELD_FLAGS"), (1, u "METHOD_FLAGS"), (1, u "NESTED_CLASS_FLAGS"), (1, u "ACCESS"), (1, u "FIRST_MAJOR_WITH_STRICT"), (1, u "LAST_MAJOR_WITH_STRICT"), (1, u "FIRST_MAJOR_WITH_PRIVATE_INTERFACE_METHODS"), (1, u "TWO_ACCESSES"), (0, u "Ljava/lang/String;")] 30

def k2m0 : Method := { name := "<init>", desc := "()V", sig := { parameters := [], returnType := none }, accessFlags := 2, code := none }
def k2c1 : Code := { maxStack := 2, maxLocals := 3, code := prog_1_method_4_code, exceptionTable := #[], attributes := #[] }
def k2m1 : Method := { name := "ofMethod", desc := "(II)I", sig := { parameters := [.int, .int], returnType := some .int }, accessFlags := 9, code := some k2c1 }
/-- com/example/bytecrane/bytecrane/classfile/AccessFlags -/
def k2 : Class := { plain "com/example/bytecrane/bytecrane/classfile/AccessFlags" (some 0) with
  accessFlags := 49
  interfaces := #[]
  cf := some (fileOf pool2 1 #[] #[{ accessFlags := 2, nameIndex := 7, descriptorIndex := 8, attributes := #[] }, { accessFlags := 9, nameIndex := 54, descriptorIndex := 55, attributes := #[] }] 49 4 #[] #[{ accessFlags := 25, nameIndex := 87, descriptorIndex := 88, attributes := #[] }, { accessFlags := 25, nameIndex := 91, descriptorIndex := 88, attributes := #[] }, { accessFlags := 25, nameIndex := 93, descriptorIndex := 88, attributes := #[] }, { accessFlags := 25, nameIndex := 95, descriptorIndex := 88, attributes := #[] }, { accessFlags := 25, nameIndex := 97, descriptorIndex := 88, attributes := #[] }, { accessFlags := 25, nameIndex := 99, descriptorIndex := 88, attributes := #[] }, { accessFlags := 25, nameIndex := 101, descriptorIndex := 88, attributes := #[] }, { accessFlags := 25, nameIndex := 102, descriptorIndex := 88, attributes := #[] }, { accessFlags := 25, nameIndex := 104, descriptorIndex := 88, attributes := #[] }, { accessFlags := 25, nameIndex := 105, descriptorIndex := 88, attributes := #[] }, { accessFlags := 25, nameIndex := 107, descriptorIndex := 88, attributes := #[] }, { accessFlags := 25, nameIndex := 108, descriptorIndex := 88, attributes := #[] }, { accessFlags := 25, nameIndex := 110, descriptorIndex := 88, attributes := #[] }, { accessFlags := 25, nameIndex := 112, descriptorIndex := 88, attributes := #[] }, { accessFlags := 25, nameIndex := 114, descriptorIndex := 88, attributes := #[] }, { accessFlags := 25, nameIndex := 116, descriptorIndex := 88, attributes := #[] }, { accessFlags := 25, nameIndex := 118, descriptorIndex := 88, attributes := #[] }, { accessFlags := 25, nameIndex := 120, descriptorIndex := 88, attributes := #[] }, { accessFlags := 25, nameIndex := 122, descriptorIndex := 88, attributes := #[] }, { accessFlags := 26, nameIndex := 123, descriptorIndex := 88, attributes := #[] }, { accessFlags := 26, nameIndex := 124, descriptorIndex := 88, attributes := #[] }, { accessFlags := 26, nameIndex := 126, descriptorIndex := 88, attributes := #[] }, { accessFlags := 26, nameIndex := 128, descriptorIndex := 88, attributes := #[] }, { accessFlags := 26, nameIndex := 130, descriptorIndex := 88, attributes := #[] }, { accessFlags := 26, nameIndex := 132, descriptorIndex := 88, attributes := #[] }, { accessFlags := 26, nameIndex := 134, descriptorIndex := 88, attributes := #[] }, { accessFlags := 26, nameIndex := 136, descriptorIndex := 88, attributes := #[] }, { accessFlags := 26, nameIndex := 138, descriptorIndex := 139, attributes := #[] }])
  fields := #[{ name := "PUBLIC", type := .int, accessFlags := 25, slot := 0, constantValue := 0 }, { name := "PRIVATE", type := .int, accessFlags := 25, slot := 1, constantValue := 0 }, { name := "PROTECTED", type := .int, accessFlags := 25, slot := 2, constantValue := 0 }, { name := "STATIC", type := .int, accessFlags := 25, slot := 3, constantValue := 0 }, { name := "FINAL", type := .int, accessFlags := 25, slot := 4, constantValue := 0 }, { name := "SUPER", type := .int, accessFlags := 25, slot := 5, constantValue := 0 }, { name := "SYNCHRONIZED", type := .int, accessFlags := 25, slot := 6, constantValue := 0 }, { name := "VOLATILE", type := .int, accessFlags := 25, slot := 7, constantValue := 0 }, { name := "BRIDGE", type := .int, accessFlags := 25, slot := 8, constantValue := 0 }, { name := "TRANSIENT", type := .int, accessFlags := 25, slot := 9, constantValue := 0 }, { name := "VARARGS", type := .int, accessFlags := 25, slot := 10, constantValue := 0 }, { name := "NATIVE", type := .int, accessFlags := 25, slot := 11, constantValue := 0 }, { name := "INTERFACE", type := .int, accessFlags := 25, slot := 12, constantValue := 0 }, { name := "ABSTRACT", type := .int, accessFlags := 25, slot := 13, constantValue := 0 }, { name := "STRICT", type := .int, accessFlags := 25, slot := 14, constantValue := 0 }, { name := "SYNTHETIC", type := .int, accessFlags := 25, slot := 15, constantValue := 0 }, { name := "ANNOTATION", type := .int, accessFlags := 25, slot := 16, constantValue := 0 }, { name := "ENUM", type := .int, accessFlags := 25, slot := 17, constantValue := 0 }, { name := "MODULE", type := .int, accessFlags := 25, slot := 18, constantValue := 0 }, { name := "CLASS_FLAGS", type := .int, accessFlags := 26, slot := 19, constantValue := 0 }, { name := "FIELD_FLAGS", type := .int, accessFlags := 26, slot := 20, constantValue := 0 }, { name := "METHOD_FLAGS", type := .int, accessFlags := 26, slot := 21, constantValue := 0 }, { name := "NESTED_CLASS_FLAGS", type := .int, accessFlags := 26, slot := 22, constantValue := 0 }, { name := "ACCESS", type := .int, accessFlags := 26, slot := 23, constantValue := 0 }, { name := "FIRST_MAJOR_WITH_STRICT", type := .int, accessFlags := 26, slot := 24, constantValue := 0 }, { name := "LAST_MAJOR_WITH_STRICT", type := .int, accessFlags := 26, slot := 25, constantValue := 0 }, { name := "FIRST_MAJOR_WITH_PRIVATE_INTERFACE_METHODS", type := .int, accessFlags := 26, slot := 26, constantValue := 0 }, { name := "TWO_ACCESSES", type := (.object "java/lang/String"), accessFlags := 26, slot := 27, constantValue := 0 }]
  methods := #[k2m0, k2m1]
  instanceTypes := #[]
  staticTypes := #[.int, .int, .int, .int, .int, .int, .int, .int, .int, .int, .int, .int, .int, .int, .int, .int, .int, .int, .int, .int, .int, .int, .int, .int, .int, .int, .int, (.object "java/lang/String")]
  resolved := Array.replicate 170 none
  statics := none }

def pool3 : Array CpInfo := pool [(1, u "java/lang/Cloneable"), (0, .class_ 1), (0, u "java/lang/Object"), (0, .class_ 3)] 3

/-- java/lang/Cloneable -/
def k3 : Class := { plain "java/lang/Cloneable" (some 0) with
  accessFlags := 1537
  interfaces := #[]
  cf := some (fileOf pool3 2 #[] #[] 1537 4 #[] #[])
  fields := #[]
  methods := #[]
  instanceTypes := #[]
  staticTypes := #[]
  resolved := Array.replicate 8 none
  statics := none }

def pool4 : Array CpInfo := pool [(1, u "java/io/Serializable"), (0, .class_ 1), (0, u "java/lang/Object"), (0, .class_ 3)] 3

/-- java/io/Serializable -/
def k4 : Class := { plain "java/io/Serializable" (some 0) with
  accessFlags := 1537
  interfaces := #[]
  cf := some (fileOf pool4 2 #[] #[] 1537 4 #[] #[])
  fields := #[]
  methods := #[]
  instanceTypes := #[]
  staticTypes := #[]
  resolved := Array.replicate 8 none
  statics := none }

/-- the primitive byte -/
def k5 : Class := { plain "byte" none with kind := .primitive 'B', accessFlags := 0x411 }
/-- [B -/
def k6 : Class := { plain "[B" (some 0) with kind := .array 5 .byte, interfaces := #[3, 4], accessFlags := 1041 }

/-- the primitive int -/
def k7 : Class := { plain "int" none with kind := .primitive 'I', accessFlags := 0x411 }
/-- [I -/
def k8 : Class := { plain "[I" (some 0) with kind := .array 7 .int, interfaces := #[3, 4], accessFlags := 1041 }

def heap : Heap := #[]
def classes : Array Class := #[k0, k1, k2, k3, k4, k5, k6, k7, k8]
def interned : List (Array UInt16 × Addr) := []
def slotsUsed : Nat := 0
def theMethod : MethodId := ⟨1, 1⟩
def args0 : Array Value := #[.int 5, .int 7, .int 3]
def aboutOver (below : List Frame) : State where
  vm := { classes := classes, interned := interned.toArray }
  heap := heap
  slotsUsed := slotsUsed
  threads := #[{ frames := .invoking theMethod args0 :: below }]
def below0 : List Frame := [.native { method := ⟨0, 0⟩, args := #[] }]
def about1 : State := aboutOver below0
def p0 : Program := .bare "" "" ""
def e0 : Env := launch0.env 0 0 0
theorem w_frames : about1.frames = Frame.invoking theMethod args0 :: below0 := rfl
set_option maxRecDepth 65536 in
theorem w_args : argsFit about1.vm theMethod args0 = true := by decide +kernel
set_option maxRecDepth 65536 in
theorem w_heap : heapFits about1 = true := by decide +kernel
set_option maxRecDepth 65536 in
theorem w_runnable : about1.curStatus? = some .runnable := by decide +kernel
set_option maxRecDepth 65536 in
theorem w_alone : about1.alone = true := by decide +kernel
set_option maxRecDepth 65536 in
theorem w_named : about1.methodNamed? x = some theMethod := by decide +kernel
set_option maxRecDepth 65536 in
theorem w_hears : about1.hears theMethod below0 = true := by decide +kernel
set_option maxRecDepth 65536 in
theorem w_ripe : about1.ripe theMethod args0 below0 = true := by decide +kernel
theorem w_running : about1.status = .running := rfl
set_option maxRecDepth 65536 in
theorem w_room : about1.hasRoom e0.platform room_1 = true :=
  launch0.hasRoom_least _ room_1 (by decide +kernel) (by decide +kernel) (by decide +kernel) (by decide +kernel) (by decide +kernel) (by decide +kernel)
theorem allAtoms_all (ts : List Jvm.Cond) (a : Array Jvm.Value) (st : Jvm.State) : (allAtoms ts).before a st = ts.all (fun c => c.before a st) := by
  induction ts with
  | nil => rfl
  | cons c t ih =>
    show (Jvm.Cond.and c (allAtoms t)).before a st = _
    rw [Jvm.Cond.before_and, ih, List.all_cons]
def words1 : List Jvm.Cond := Jvm.Cond.code x code maxLocals ret :: tables_1
/-- a 'code' word, met by the world's own term for the bytes: nothing is compared byte by byte -/
theorem code_word {y : MethodName} {bytes : ByteArray} {mx : Nat} {rt : Option FieldType} {a : Array Value} {s : State} {m : MethodId} {meth : Method} {c : Code} (h1 : s.methodNamed? y = some m) (h2 : s.vm.method? m = some meth) (h3 : meth.code = some c) (h4 : c.code = bytes)
    (h5 : (c.maxLocals == mx && c.exceptionTable.isEmpty && decide (c.maxStack ≤ mostOperands) && decide (meth.sig.returnType = rt) && !meth.locks && decide (parseMethodDescriptor y.desc = some meth.sig)) = true) : (Jvm.Cond.code y bytes mx rt).before a s = true := by
  simp only [Bool.and_eq_true, beq_iff_eq, Bool.not_eq_true', decide_eq_true_eq] at h5
  obtain ⟨⟨⟨⟨⟨g1, g2⟩, g3⟩, g4⟩, g5⟩, g6⟩ := h5
  simp [Cond.before, Cond.holds, Cond.value, h1, h2, h3, h4, g1, g2, g3, g4, g5, g6]
def isCode : Jvm.Cond → Bool
  | .code _ _ _ _ => true
  | _ => false
theorem all_split {L : List Jvm.Cond} {P : Jvm.Cond → Bool} (h1 : L.all (fun c => isCode c || P c) = true) (h2 : ∀ c ∈ L.filter isCode, P c = true) : L.all P = true := by
  refine List.all_eq_true.mpr fun c hc => ?_
  have h := List.all_eq_true.mp h1 c hc
  rcases Bool.eq_false_or_eq_true (isCode c) with hi | hi
  · exact h2 c (List.mem_filter.mpr ⟨hc, hi⟩)
  · simpa [hi] using h
set_option maxRecDepth 65536 in
theorem w_c0 : (Jvm.Cond.code x code maxLocals ret).before args0 about1 = true := code_word (m := ⟨1, 1⟩) (meth := k1m1) (c := k1c1) (by decide +kernel) rfl rfl rfl (by decide +kernel)
set_option maxRecDepth 65536 in
theorem w_c1 : (Jvm.Cond.code ({ cls := "com/example/bytecrane/bytecrane/classfile/AccessFlags", name := "ofMethod", desc := "(II)I" } : Jvm.MethodName) prog_1_method_4_code (3 : Nat) (Option.some Jvm.ClassFile.FieldType.int)).before args0 about1 = true := code_word (m := ⟨2, 1⟩) (meth := k2m1) (c := k2c1) (by decide +kernel) rfl rfl rfl (by decide +kernel)
def codes1 : List Jvm.Cond := [Jvm.Cond.code x code maxLocals ret, Jvm.Cond.code ({ cls := "com/example/bytecrane/bytecrane/classfile/AccessFlags", name := "ofMethod", desc := "(II)I" } : Jvm.MethodName) prog_1_method_4_code (3 : Nat) (Option.some Jvm.ClassFile.FieldType.int)]
set_option maxRecDepth 65536 in
theorem codes_eq : words1.filter isCode = codes1 := rfl
theorem w_codes : ∀ c ∈ words1.filter isCode, c.before args0 about1 = true := by
  rw [codes_eq]
  intro c hc
  simp only [codes1, List.mem_cons, List.not_mem_nil, or_false] at hc
  rcases hc with rfl | rfl
  · exact w_c0
  · exact w_c1
set_option maxRecDepth 65536 in
theorem w_t1 : words1.all (fun c => isCode c || c.before args0 about1) = true := by decide +kernel
theorem w_tables : (allAtoms (Jvm.Cond.code x code maxLocals ret :: tables_1)).before args0 about1 = true := by
  rw [allAtoms_all]
  show words1.all (fun c => c.before args0 about1) = true
  refine all_split ?_ w_codes
  rw [w_t1]
set_option maxRecDepth 65536 in
theorem w_case : (Jvm.Cond.and given_1 narrow_1).before args0 about1 = true := by decide +kernel
theorem w_applies : (headSpec (Jvm.Cond.code x code maxLocals ret :: tables_1) room_1).applies x e0.platform about1 = true :=
  (Spec.applies_iff w_frames).mpr ⟨w_running, w_runnable, w_alone, w_named, w_hears, w_ripe, w_room, w_tables⟩
theorem atStart : AtStart classFile x code maxLocals ret World_1 tables_1 room_1 Calls_1 rest_1 Pre_1 launch0 p0 e0 about1 theMethod args0 below0 :=
  ⟨lists_1, trivial, launch0.admits_env _ _ _, launch0.least_env, fairChoices_fair.cas, fairChoices_fair.clock, w_frames, w_args, w_heap, w_applies, trivial, trivial, w_case⟩
end start1
theorem witness_1 : WitnessClaimed_1 := ⟨start1.p0, start1.e0, start1.about1, start1.theMethod, start1.args0, start1.below0, start1.atStart⟩
end Jvm.Pilot.@@N@@
