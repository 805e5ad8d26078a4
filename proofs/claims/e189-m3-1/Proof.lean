import JvmDerived
import JvmDerived.Pilot.@@N@@Statement
import JvmDerived.Pilot.@@N@@Code
set_option linter.unusedVariables false
set_option linter.unusedSimpArgs false
namespace Jvm.RoadKit
open Sem ClassFile Op Lib Jvm.Stand Jvm.Free Jvm.LawKit
section OwnKit
variable {p : Program} {l : Launch} {e : Env} {R : Room} {s : State} {m : MethodId} {args : Array Value} {below : List Frame} {meth : Method} {c : Code} {T : State} {locs : List Loc} {cells slots : Nat} {Z : State} {a0 : Array Value} {h h' : Heap}
/-- the run has come from A to T with the frame g on top -/
def OGo (p : Program) (e : Env) (below : List Frame) (A T : State) (g : JFrame) : Prop := ∀ t, Steps p.tables e below (T.setTop g) t → Steps p.tables e below A t
/-- the array at a holds just these values -/
def OAr (Z : State) (h : Heap) (a : Addr) (k : ClassId) (ty : FieldType) (vs : List Value) : Prop := ∃ c : Cell, Arr Z h a c ty ∧ c.cls = k ∧ c.slots = vs.toArray
variable {a b : Addr} {k : ClassId} {ty : FieldType} {vs ws : List Value} {v w : Value} {sl : Nat} {wl : List Addr}
theorem OAr.lt (F : OAr Z h a k ty vs) : a < h.size := by obtain ⟨c, A, -⟩ := F; exact A.lt
theorem OAr.ext (F : OAr Z h a k ty vs) (E : Ext h h') : OAr Z h' a k ty vs := by obtain ⟨c, A, r⟩ := F; exact ⟨c, A.ext E, r⟩
theorem OAr.other (F : OAr Z h b k ty vs) (W : Wr h h' a sl v) (q : b ≠ a) : OAr Z h' b k ty vs := by obtain ⟨c, A, r⟩ := F; exact ⟨c, A.other W q, r⟩
theorem OAr.keep (F : OAr Z h a k ty vs) (K : Keep h h' wl) (q : a ∉ wl) : OAr Z h' a k ty vs := by obtain ⟨c, A, r⟩ := F; exact ⟨c, ⟨K.2.1 a c A.1 q, A.2⟩, r⟩
theorem OAr.new {n : Int32} (A : Arr Z h a (newA k ty n) ty) : OAr Z h a k ty (List.replicate n.toNatClampNeg (defaultValue ty)) := ⟨_, A, rfl, by simp [newA]⟩
theorem OAr.same (F : OAr Z h a k ty vs) (W : Wr h h' a sl v) : OAr Z h' a k ty (vs.set sl v) := by
  obtain ⟨c, A, r1, r2⟩ := F
  exact ⟨_, A.same W, r1, by simp only [Cell.setSlot]; rw [r2]; simp⟩
theorem OAr.cast (F : OAr Z h a k ty vs) (q : vs = ws) : OAr Z h a k ty ws := q ▸ F
theorem OAr.plain (F : OAr Z h a k ty vs) : ∀ cell : Cell, h[a]? = some cell → cell.vm.isStatics = false := fun cell hc => by
  obtain ⟨c, A, -⟩ := F
  cases A.1.symm.trans hc
  exact A.plain
theorem own_in {j : Int32} (h0 : ¬ j < 0) (hv : vs[j.toNatClampNeg]? = some v) {c : Cell} (q : c.slots = vs.toArray) : ¬ (j < 0 ∨ c.slots.size ≤ j.toNatClampNeg) ∧ c.slots[j.toNatClampNeg]? = some v := by
  have h1 := (List.getElem?_eq_some_iff.mp hv).1
  rw [q]
  refine ⟨fun r => r.elim h0 fun r => ?_, by simpa using hv⟩
  simp at r
  omega
theorem own_ldI (X : Stand p l e R s m args below meth c T locs cells slots) (hx : p.tables.exec = Jvm.exec) (hZ : Z.Warmed39 s.vm) (eT : T.heap = h) (F : OAr Z h a k .int vs) {j : Int32} (h0 : ¬ j < 0) (hv : vs[j.toNatClampNeg]? = some v) {g : JFrame} (hg : g.method = m) {rest : List Value} (hs : g.stack = .int j :: .ref a :: rest) (hd : decode c.code g.pc = .ok (.iaload, 1)) (t : State)
    (hr : Steps p.tables e below (T.setTop { g with pc := g.pc + 1, stack := v :: rest }) t) : Steps p.tables e below (T.setTop g) t := by
  obtain ⟨cl, A, -, r⟩ := F
  obtain ⟨q1, q2⟩ := own_in h0 hv r
  exact X.iaload hx (by rw [eT]; exact A.1) (State.isArrayOf_alike hZ.alike A.2.1) A.2.2 q1 q2 hg hs hd t hr
theorem own_ldJ (X : Stand p l e R s m args below meth c T locs cells slots) (hx : p.tables.exec = Jvm.exec) (hZ : Z.Warmed39 s.vm) (eT : T.heap = h) (F : OAr Z h a k .long vs) {j : Int32} (h0 : ¬ j < 0) (hv : vs[j.toNatClampNeg]? = some v) {g : JFrame} (hg : g.method = m) {rest : List Value} (hs : g.stack = .int j :: .ref a :: rest) (hd : decode c.code g.pc = .ok (.laload, 1)) (t : State)
    (hr : Steps p.tables e below (T.setTop { g with pc := g.pc + 1, stack := v :: rest }) t) : Steps p.tables e below (T.setTop g) t := by
  obtain ⟨cl, A, -, r⟩ := F
  obtain ⟨q1, q2⟩ := own_in h0 hv r
  exact X.laload hx (by rw [eT]; exact A.1) (State.isArrayOf_alike hZ.alike A.2.1) A.2.2 q1 q2 hg hs hd t hr
theorem own_ldC (X : Stand p l e R s m args below meth c T locs cells slots) (hx : p.tables.exec = Jvm.exec) (hZ : Z.Warmed39 s.vm) (eT : T.heap = h) (F : OAr Z h a k .char vs) {j : Int32} (h0 : ¬ j < 0) (hv : vs[j.toNatClampNeg]? = some v) {g : JFrame} (hg : g.method = m) {rest : List Value} (hs : g.stack = .int j :: .ref a :: rest) (hd : decode c.code g.pc = .ok (.caload, 1)) (t : State)
    (hr : Steps p.tables e below (T.setTop { g with pc := g.pc + 1, stack := v :: rest }) t) : Steps p.tables e below (T.setTop g) t := by
  obtain ⟨cl, A, -, r⟩ := F
  obtain ⟨q1, q2⟩ := own_in h0 hv r
  exact X.caload hx (by rw [eT]; exact A.1) (State.isArrayOf_alike hZ.alike A.2.1) A.2.2 q1 q2 hg hs hd t hr
theorem own_ldB (X : Stand p l e R s m args below meth c T locs cells slots) (hx : p.tables.exec = Jvm.exec) (hZ : Z.Warmed39 s.vm) (eT : T.heap = h) (F : OAr Z h a k .byte vs) {j : Int32} (h0 : ¬ j < 0) (hv : vs[j.toNatClampNeg]? = some v) {g : JFrame} (hg : g.method = m) {rest : List Value} (hs : g.stack = .int j :: .ref a :: rest) (hd : decode c.code g.pc = .ok (.baload, 1)) (t : State)
    (hr : Steps p.tables e below (T.setTop { g with pc := g.pc + 1, stack := v :: rest }) t) : Steps p.tables e below (T.setTop g) t := by
  obtain ⟨cl, A, -, r⟩ := F
  obtain ⟨q1, q2⟩ := own_in h0 hv r
  exact X.baloadBytes hx (by rw [eT]; exact A.1) (State.isArrayOf_alike hZ.alike A.2.1) A.2.2 q1 q2 hg hs hd t hr
theorem own_ldZ (X : Stand p l e R s m args below meth c T locs cells slots) (hx : p.tables.exec = Jvm.exec) (hZ : Z.Warmed39 s.vm) (eT : T.heap = h) (F : OAr Z h a k .boolean vs) {j : Int32} (h0 : ¬ j < 0) (hv : vs[j.toNatClampNeg]? = some v) {g : JFrame} (hg : g.method = m) {rest : List Value} (hs : g.stack = .int j :: .ref a :: rest) (hd : decode c.code g.pc = .ok (.baload, 1)) (t : State)
    (hr : Steps p.tables e below (T.setTop { g with pc := g.pc + 1, stack := v :: rest }) t) : Steps p.tables e below (T.setTop g) t := by
  obtain ⟨cl, A, -, r⟩ := F
  obtain ⟨q1, q2⟩ := own_in h0 hv r
  exact X.baloadBooleans hx (by rw [eT]; exact A.1) (State.isArrayOf_alike hZ.alike A.2.1) A.2.2 q1 q2 hg hs hd t hr
theorem own_ldA (X : Stand p l e R s m args below meth c T locs cells slots) (hx : p.tables.exec = Jvm.exec) (hZ : Z.Warmed39 s.vm) (eT : T.heap = h) (F : OAr Z h a k ty vs) (ht : ty.isReference = true) {j : Int32} (h0 : ¬ j < 0) (hv : vs[j.toNatClampNeg]? = some v) {g : JFrame} (hg : g.method = m) {rest : List Value} (hs : g.stack = .int j :: .ref a :: rest) (hd : decode c.code g.pc = .ok (.aaload, 1)) (t : State)
    (hr : Steps p.tables e below (T.setTop { g with pc := g.pc + 1, stack := v :: rest }) t) : Steps p.tables e below (T.setTop g) t := by
  obtain ⟨cl, A, -, r⟩ := F
  obtain ⟨q1, q2⟩ := own_in h0 hv r
  exact X.aaload hx (by rw [eT]; exact A.1) (State.isArrayOf_alike hZ.alike A.2.1) ht A.2.2 q1 q2 hg hs hd t hr
theorem own_len (X : Stand p l e R s m args below meth c T locs cells slots) (hx : p.tables.exec = Jvm.exec) (hZ : Z.Warmed39 s.vm) (eT : T.heap = h) (F : OAr Z h a k ty vs) {n : Int32} (hn : vs.length.toInt32 = n) {g : JFrame} (hg : g.method = m) {rest : List Value} (hs : g.stack = .ref a :: rest) (hd : decode c.code g.pc = .ok (.arraylength, 1)) (t : State)
    (hr : Steps p.tables e below (T.setTop { g with pc := g.pc + 1, stack := .int n :: rest }) t) : Steps p.tables e below (T.setTop g) t := by
  obtain ⟨cl, A, -, r⟩ := F
  refine X.arraylength hx (by rw [eT]; exact A.1) (State.isArrayOf_alike hZ.alike A.2.1) hg hs hd t ?_
  rw [show cl.slots.size = vs.length by rw [r]; simp, hn]
  exact hr
theorem own_in2 {j : Int32} (h0 : ¬ j < 0) (h1 : j.toNatClampNeg < vs.length) {c : Cell} (q : c.slots = vs.toArray) : ¬ (j < 0 ∨ c.slots.size ≤ j.toNatClampNeg) := by
  rw [q]
  refine fun r => r.elim h0 fun r => ?_
  simp at r
  omega
theorem own_stI (X : Stand p l e R s m args below meth c T locs cells slots) (hx : p.tables.exec = Jvm.exec) (hZ : Z.Warmed39 s.vm) (eT : T.heap = h) (F : OAr Z h a k .int vs) {j : Int32} {x : Int32} (h0 : ¬ j < 0) (h1 : j.toNatClampNeg < vs.length) {g : JFrame} (hg : g.method = m) {rest : List Value} (hs : g.stack = .int x :: .int j :: .ref a :: rest) (hd : decode c.code g.pc = .ok (.iastore, 1)) :
    ∃ T' h', Stand p l e R s m args below meth c T' (locs ++ [⟨a, j.toNatClampNeg⟩]) cells slots ∧ T'.heap = h' ∧ Wr h h' a j.toNatClampNeg (.int x) ∧ OAr Z h' a k .int (vs.set j.toNatClampNeg (.int x)) ∧ ∀ target, Steps p.tables e below (T'.setTop { g with pc := g.pc + 1, stack := rest }) target → Steps p.tables e below (T.setTop g) target := by
  have F' := F
  obtain ⟨cl, A, -, r⟩ := F'
  obtain ⟨T', h', X', e', W', st⟩ := stI X hx hZ eT A (own_in2 h0 h1 r) hg hs hd
  exact ⟨T', h', X', e', W', F.same W', st⟩
theorem own_stJ (X : Stand p l e R s m args below meth c T locs cells slots) (hx : p.tables.exec = Jvm.exec) (hZ : Z.Warmed39 s.vm) (eT : T.heap = h) (F : OAr Z h a k .long vs) {j : Int32} {x : Int64} (h0 : ¬ j < 0) (h1 : j.toNatClampNeg < vs.length) {g : JFrame} (hg : g.method = m) {rest : List Value} (hs : g.stack = .long x :: .int j :: .ref a :: rest) (hd : decode c.code g.pc = .ok (.lastore, 1)) :
    ∃ T' h', Stand p l e R s m args below meth c T' (locs ++ [⟨a, j.toNatClampNeg⟩]) cells slots ∧ T'.heap = h' ∧ Wr h h' a j.toNatClampNeg (.long x) ∧ OAr Z h' a k .long (vs.set j.toNatClampNeg (.long x)) ∧ ∀ target, Steps p.tables e below (T'.setTop { g with pc := g.pc + 1, stack := rest }) target → Steps p.tables e below (T.setTop g) target := by
  have F' := F
  obtain ⟨cl, A, -, r⟩ := F'
  obtain ⟨T', h', X', e', W', st⟩ := stJ X hx hZ eT A (own_in2 h0 h1 r) hg hs hd
  exact ⟨T', h', X', e', W', F.same W', st⟩
theorem own_stC (X : Stand p l e R s m args below meth c T locs cells slots) (hx : p.tables.exec = Jvm.exec) (hZ : Z.Warmed39 s.vm) (eT : T.heap = h) (F : OAr Z h a k .char vs) {j : Int32} {x : Int32} (h0 : ¬ j < 0) (h1 : j.toNatClampNeg < vs.length) {g : JFrame} (hg : g.method = m) {rest : List Value} (hs : g.stack = .int x :: .int j :: .ref a :: rest) (hd : decode c.code g.pc = .ok (.castore, 1)) :
    ∃ T' h', Stand p l e R s m args below meth c T' (locs ++ [⟨a, j.toNatClampNeg⟩]) cells slots ∧ T'.heap = h' ∧ Wr h h' a j.toNatClampNeg (.int (nar .char x)) ∧ OAr Z h' a k .char (vs.set j.toNatClampNeg (.int (nar .char x))) ∧ ∀ target, Steps p.tables e below (T'.setTop { g with pc := g.pc + 1, stack := rest }) target → Steps p.tables e below (T.setTop g) target := by
  have F' := F
  obtain ⟨cl, A, -, r⟩ := F'
  obtain ⟨T', h', X', e', W', st⟩ := stC X hx hZ eT A (own_in2 h0 h1 r) hg hs hd
  exact ⟨T', h', X', e', W', F.same W', st⟩
theorem own_stB (X : Stand p l e R s m args below meth c T locs cells slots) (hx : p.tables.exec = Jvm.exec) (hZ : Z.Warmed39 s.vm) (eT : T.heap = h) (F : OAr Z h a k .byte vs) {j : Int32} {x : Int32} (h0 : ¬ j < 0) (h1 : j.toNatClampNeg < vs.length) {g : JFrame} (hg : g.method = m) {rest : List Value} (hs : g.stack = .int x :: .int j :: .ref a :: rest) (hd : decode c.code g.pc = .ok (.bastore, 1)) :
    ∃ T' h', Stand p l e R s m args below meth c T' (locs ++ [⟨a, j.toNatClampNeg⟩]) cells slots ∧ T'.heap = h' ∧ Wr h h' a j.toNatClampNeg (.int (nar .byte x)) ∧ OAr Z h' a k .byte (vs.set j.toNatClampNeg (.int (nar .byte x))) ∧ ∀ target, Steps p.tables e below (T'.setTop { g with pc := g.pc + 1, stack := rest }) target → Steps p.tables e below (T.setTop g) target := by
  have F' := F
  obtain ⟨cl, A, -, r⟩ := F'
  obtain ⟨T', h', X', e', W', st⟩ := stB X hx hZ eT A (own_in2 h0 h1 r) hg hs hd
  exact ⟨T', h', X', e', W', F.same W', st⟩
theorem own_stZ (X : Stand p l e R s m args below meth c T locs cells slots) (hx : p.tables.exec = Jvm.exec) (hZ : Z.Warmed39 s.vm) (eT : T.heap = h) (F : OAr Z h a k .boolean vs) {j : Int32} {x : Int32} (h0 : ¬ j < 0) (h1 : j.toNatClampNeg < vs.length) {g : JFrame} (hg : g.method = m) {rest : List Value} (hs : g.stack = .int x :: .int j :: .ref a :: rest) (hd : decode c.code g.pc = .ok (.bastore, 1)) :
    ∃ T' h', Stand p l e R s m args below meth c T' (locs ++ [⟨a, j.toNatClampNeg⟩]) cells slots ∧ T'.heap = h' ∧ Wr h h' a j.toNatClampNeg (.int (nar .boolean x)) ∧ OAr Z h' a k .boolean (vs.set j.toNatClampNeg (.int (nar .boolean x))) ∧ ∀ target, Steps p.tables e below (T'.setTop { g with pc := g.pc + 1, stack := rest }) target → Steps p.tables e below (T.setTop g) target := by
  have F' := F
  obtain ⟨cl, A, -, r⟩ := F'
  obtain ⟨T', h', X', e', W', st⟩ := stZ X hx hZ eT A (own_in2 h0 h1 r) hg hs hd
  exact ⟨T', h', X', e', W', F.same W', st⟩
theorem own_stR (X : Stand p l e R s m args below meth c T locs cells slots) (hx : p.tables.exec = Jvm.exec) (hZ : Z.Warmed39 s.vm) (eT : T.heap = h) (F : OAr Z h a k ty vs) (ht : ty.isReference = true) {j : Int32} {x : Value} (h0 : ¬ j < 0) (h1 : j.toNatClampNeg < vs.length) (S : Sto Z h a x) {g : JFrame} (hg : g.method = m) {rest : List Value} (hs : g.stack = x :: .int j :: .ref a :: rest) (hd : decode c.code g.pc = .ok (.aastore, 1)) :
    ∃ T' h', Stand p l e R s m args below meth c T' (locs ++ [⟨a, j.toNatClampNeg⟩]) cells slots ∧ T'.heap = h' ∧ Wr h h' a j.toNatClampNeg x ∧ OAr Z h' a k ty (vs.set j.toNatClampNeg x) ∧ ∀ target, Steps p.tables e below (T'.setTop { g with pc := g.pc + 1, stack := rest }) target → Steps p.tables e below (T.setTop g) target := by
  have F' := F
  obtain ⟨cl, A, -, r⟩ := F'
  obtain ⟨T', h', X', e', W', st⟩ := stR X hx hZ eT A (own_in2 h0 h1 r) ht S hg hs hd
  exact ⟨T', h', X', e', W', F.same W', st⟩
theorem own_sto {y : Addr} {t0 : FieldType} {C : String} (F : OAr Z h a k ty vs) (O : OvrA Z k t0 C) (I : Ins Z h y C true) : Sto Z h a (.ref y) := by
  obtain ⟨cl, A, q, -⟩ := F
  exact Sto.ofVA A q O I
/-- the addresses are unlike each other -/
def OND (L : List Addr) : Prop := L.Pairwise (· ≠ ·)
theorem ond0 : OND [] := List.Pairwise.nil
theorem ondS {x : Addr} {L : List Addr} (q : ∀ y ∈ L, x ≠ y) (r : OND L) : OND (x :: L) := List.Pairwise.cons q r
theorem own_pw {L : List Addr} (q : OND L) (i j : Nat) (hij : i < j) {x y : Addr} (hi : L[i]? = some x) (hj : L[j]? = some y) : x ≠ y := by
  obtain ⟨i1, rfl⟩ := List.getElem?_eq_some_iff.mp hi
  obtain ⟨j1, rfl⟩ := List.getElem?_eq_some_iff.mp hj
  exact List.pairwise_iff_getElem.mp q i j i1 j1 hij
theorem own_selp (hZ : Z.Warmed39 s.vm) {y : MethodName} {k : Nat} (wi : (Cond.instantiable y.cls k).before a0 Z = true) (wp : (Cond.privateMethod y).before a0 Z = true) (wm : (Cond.instanceMethod y).before a0 Z = true) (hy : y.cls ≠ "java/lang/invoke/MethodHandle" ∧ y.cls ≠ "java/lang/invoke/VarHandle" := by decide) : (Cond.selects y.cls y y).before args s = true := by
  obtain ⟨c2, k2, i1, i2, i3, i4, -⟩ := Cond.instantiable_spec (mv (args := args) hZ wi)
  exact selects_self_of_private i1 i2 (Bool.or_eq_false_iff.mp i4).1 (Cond.privateMethod_at (mvP hZ wp (args := args))) (mv hZ wm) hy
theorem own_arv {z : Int32} {d : Value} (F : OAr Z h a k ty vs) (hf : ∀ v ∈ vs, fits ty v = true) (hz : ¬ z < 0) (hl : vs.length = z.toNatClampNeg) : Arv Z h a k ty z vs d := by
  obtain ⟨c, A, q1, q2⟩ := F
  have hs : c.slots.size = vs.length := by rw [q2]; simp
  refine ⟨c, A, q1, by rw [hs, hl], hz, fun i hi => ?_, fun i hi => ?_⟩
  · rw [hs] at hi
    rw [q2]
    simp [List.getD_eq_getElem?_getD, hi]
  · rw [hs] at hi
    rw [List.getD_eq_getElem?_getD, List.getElem?_eq_getElem hi]
    exact hf _ (List.getElem_mem hi)
theorem own_unarv {z : Int32} {d : Value} (F : Arv Z h a k ty z vs d) (hl : vs.length = z.toNatClampNeg) : OAr Z h a k ty vs := by
  obtain ⟨c, A, q1, q2, q3, H, -⟩ := F
  refine ⟨c, A, q1, ?_⟩
  apply Array.ext (by rw [q2, ← hl]; simp)
  intro i h1 h2
  have e := H i h1
  have h3 : i < vs.length := by simpa using h2
  rw [Array.getElem?_eq_getElem h1, List.getD_eq_getElem?_getD, List.getElem?_eq_getElem h3] at e
  simpa using Option.some.inj e
end OwnKit
end Jvm.RoadKit

namespace Jvm.Pilot.@@N@@
open Jvm Jvm.ClassFile Sem Op Lib Jvm.Free Jvm.Stand Jvm.LawKit Jvm.RoadKit Bundle Jvm.Pilot.@@N@@.Jvm.D
theorem ow {a0 : Array Value} {Z : State} (hw : ∀ d ∈ tables_1, d.before a0 Z = true) (i : Nat) {d : Jvm.Cond} (h : tables_1[i]? = some d) : d.before a0 Z = true := hw _ (List.mem_of_getElem? h)
abbrev mN0 : MethodName := ⟨"com/example/flote/flote/search/Key$Writer", "<init>", "()V"⟩
abbrev cN0 : String := "com/example/flote/flote/search/Key$Writer"
abbrev mN1 : MethodName := ⟨"com/example/flote/flote/search/Key$Writer", "putLong", "(J)V"⟩
abbrev mN2 : MethodName := ⟨"com/example/flote/flote/search/Key$Writer", "putInt", "(I)V"⟩
abbrev mN3 : MethodName := ⟨"java/lang/Math", "min", "(II)I"⟩
abbrev mN4 : MethodName := ⟨"java/util/Arrays", "copyOf", "([BI)[B"⟩
abbrev mN5 : MethodName := ⟨"com/example/flote/flote/search/Key$Writer", "key", "()[B"⟩
abbrev mN6 : MethodName := ⟨"com/example/flote/flote/search/Key$Reader", "<init>", "([B)V"⟩
abbrev cN1 : String := "com/example/flote/flote/search/Key$Reader"
abbrev mN7 : MethodName := ⟨"com/example/flote/flote/search/Key$Reader", "nextLong", "()J"⟩
theorem own_shl (x : Int64) (q : Int32) (k : Nat) (hk : q.toBitVec.toNat % 64 = k) : (x <<< (q &&& 0x3f).toInt64).toBitVec = x.toBitVec <<< k := by
  show x.toBitVec <<< ((q &&& 0x3f).toInt64.toBitVec.smod 64) = _
  rw [BitVec.shiftLeft_eq', (sm64 q k hk).1, smod64 k (sm64 q k hk).2]
theorem own_ushr (x : Int64) (q : Int32) (k : Nat) (hk : q.toBitVec.toNat % 64 = k) : ((x.toUInt64 >>> (q &&& 0x3f).toInt64.toUInt64).toInt64).toBitVec = x.toBitVec >>> k := by
  show x.toBitVec >>> ((q &&& 0x3f).toInt64.toBitVec % 64) = _
  have h := (sm64 q k hk).2
  rw [BitVec.ushiftRight_eq', BitVec.toNat_umod, (sm64 q k hk).1, BitVec.toNat_ofNat]
  congr 1
  show k % 2 ^ 64 % 64 = k
  omega
theorem own_sshr (x : Int64) (q : Int32) (k : Nat) (hk : q.toBitVec.toNat % 64 = k) : (x >>> (q &&& 0x3f).toInt64).toBitVec = x.toBitVec.sshiftRight k := by
  show x.toBitVec.sshiftRight ((q &&& 0x3f).toInt64.toBitVec.smod 64).toNat = _
  rw [(sm64 q k hk).1, smod64 k (sm64 q k hk).2]
def own_zig (x : Int64) : Int64 := (x <<< ((1 : Int32) &&& 0x3f).toInt64) ^^^ (x >>> ((63 : Int32) &&& 0x3f).toInt64)
def own_unz (r : Int64) : Int64 := ((r.toUInt64 >>> ((1 : Int32) &&& 0x3f).toInt64.toUInt64).toInt64) ^^^ (-(r &&& (1 : Int64)))
theorem own_s63 (x : BitVec 64) : x.sshiftRight 63 = if x.msb then BitVec.allOnes 64 else 0#64 := by
  apply BitVec.eq_of_getLsbD_eq
  intro i hi
  rw [BitVec.getLsbD_sshiftRight]
  have e : x.msb = x.getLsbD 63 := by rw [BitVec.msb_eq_getLsbD_last]
  rcases Nat.eq_zero_or_pos i with rfl | h
  · rw [Nat.add_zero, if_pos (by decide : 63 < 64), ← e]
    cases hm : x.msb
    · simp only [Bool.false_eq_true, if_false, BitVec.getLsbD_zero]; rfl
    · simp only [if_true, BitVec.getLsbD_allOnes]; rfl
  · have : ¬ (63 + i < 64) := by omega
    rw [if_neg this]
    cases hm : x.msb
    · simp only [Bool.false_eq_true, if_false, BitVec.getLsbD_zero, Bool.and_false]
    · simp only [if_true, BitVec.getLsbD_allOnes, Bool.and_true]
      have : decide (64 ≤ i) = false := by simp; omega
      simp [this, hi]
theorem own_bit1 (i : Nat) : (1#64).getLsbD i = decide (i = 0) := by simp [BitVec.getLsbD_one]
theorem own_zz (x : BitVec 64) : (((x <<< 1) ^^^ x.sshiftRight 63) >>> 1) ^^^ (-(((x <<< 1) ^^^ x.sshiftRight 63) &&& 1#64)) = x := by
  have e : x.msb = x.getLsbD 63 := by rw [BitVec.msb_eq_getLsbD_last]
  rw [own_s63]
  cases hm : x.msb
  · have h1 : ((x <<< 1) ^^^ (if false = true then BitVec.allOnes 64 else 0#64)) &&& 1#64 = 0#64 := by
      apply BitVec.eq_of_getLsbD_eq
      intro i hi
      rcases Nat.eq_zero_or_pos i with rfl | h
      · simp
      · simp [own_bit1]; omega
    rw [h1, BitVec.neg_zero, BitVec.xor_zero]
    simp only [Bool.false_eq_true, if_false, BitVec.xor_zero]
    apply BitVec.eq_of_getLsbD_eq
    intro i hi
    rw [BitVec.getLsbD_ushiftRight, BitVec.getLsbD_shiftLeft]
    by_cases h : i = 63
    · subst h
      rw [← e, hm]; decide
    · have q1 : decide (1 + i < 64) = true := by simp; omega
      have q2 : decide (1 + i < 1) = false := by simp
      have q3 : 1 + i - 1 = i := by omega
      rw [q1, q2, q3]; rfl
  · have h1 : ((x <<< 1) ^^^ (if true = true then BitVec.allOnes 64 else 0#64)) &&& 1#64 = 1#64 := by
      apply BitVec.eq_of_getLsbD_eq
      intro i hi
      rcases Nat.eq_zero_or_pos i with rfl | h
      · simp
      · simp [own_bit1]; omega
    rw [h1, show -(1#64) = BitVec.allOnes 64 by decide]
    simp only [if_true]
    apply BitVec.eq_of_getLsbD_eq
    intro i hi
    rw [BitVec.getLsbD_xor, BitVec.getLsbD_ushiftRight, BitVec.getLsbD_xor, BitVec.getLsbD_shiftLeft, BitVec.getLsbD_allOnes, BitVec.getLsbD_allOnes]
    have q0 : decide (i < 64) = true := by simp; omega
    by_cases h : i = 63
    · subst h
      rw [← e, hm]; decide
    · have q1 : decide (1 + i < 64) = true := by simp; omega
      have q2 : decide (1 + i < 1) = false := by simp
      have q3 : 1 + i - 1 = i := by omega
      rw [q0, q1, q2, q3]
      cases x.getLsbD i <;> rfl
theorem own_unzig (x : Int64) : own_unz (own_zig x) = x := by
  apply Int64.toBitVec_inj.mp
  have h1 : (own_zig x).toBitVec = (x.toBitVec <<< 1) ^^^ x.toBitVec.sshiftRight 63 := by
    show (x <<< ((1 : Int32) &&& 0x3f).toInt64).toBitVec ^^^ (x >>> ((63 : Int32) &&& 0x3f).toInt64).toBitVec = _
    rw [own_shl x 1 1 (by decide), own_sshr x 63 63 (by decide)]
  show ((own_zig x).toUInt64 >>> ((1 : Int32) &&& 0x3f).toInt64.toUInt64).toInt64.toBitVec ^^^ (-((own_zig x).toBitVec &&& (1 : Int64).toBitVec)) = _
  rw [own_ushr _ 1 1 (by decide), h1]
  exact own_zz _
def own_lo (r : Int64) : Int32 := r.toInt32.toInt8.toInt32
def own_hi (r : Int64) : Int32 := (r ||| (128 : Int64)).toInt32.toInt8.toInt32
def own_sr (r : Int64) : Int64 := (r.toUInt64 >>> ((7 : Int32) &&& 0x3f).toInt64.toUInt64).toInt64
def own_hd : Nat → Int64 → Int32
  | 0, r => own_lo r
  | _ + 1, r => if r &&& (-128 : Int64) = 0 then own_lo r else own_hi r
def own_enc : Nat → Int64 → List Int32
  | 0, r => [own_lo r]
  | n + 1, r => if r &&& (-128 : Int64) = 0 then [own_lo r] else own_hi r :: own_enc n (own_sr r)
def own_fit (n : Nat) (r : Int64) : Prop := r.toBitVec.toNat < 2 ^ (7 * (n + 1))
theorem own_fit9 (r : Int64) : own_fit 9 r := Nat.lt_of_lt_of_le r.toBitVec.isLt (by decide)
theorem own_srb (r : Int64) : (own_sr r).toBitVec = r.toBitVec >>> 7 := own_ushr r 7 7 (by decide)
theorem own_fitS {n : Nat} {r : Int64} (h : own_fit (n + 1) r) : own_fit n (own_sr r) := by
  unfold own_fit at *
  rw [own_srb, BitVec.toNat_ushiftRight, Nat.shiftRight_eq_div_pow]
  rw [Nat.div_lt_iff_lt_mul (by decide), ← Nat.pow_add]
  exact h
theorem own_m128 (i : Nat) (hi : i < 64) : (-128 : Int64).toBitVec.getLsbD i = decide (7 ≤ i) := by
  have : ∀ i : Fin 64, (-128 : Int64).toBitVec.getLsbD i.val = decide (7 ≤ i.val) := by decide +kernel
  exact this ⟨i, hi⟩
theorem own_127 (i : Nat) (hi : i < 64) : (127 : Int64).toBitVec.getLsbD i = decide (i < 7) := by
  have : ∀ i : Fin 64, (127 : Int64).toBitVec.getLsbD i.val = decide (i.val < 7) := by decide +kernel
  exact this ⟨i, hi⟩
theorem own_128 (i : Nat) (hi : i < 64) : (128 : Int64).toBitVec.getLsbD i = decide (i = 7) := by
  have : ∀ i : Fin 64, (128 : Int64).toBitVec.getLsbD i.val = decide (i.val = 7) := by decide +kernel
  exact this ⟨i, hi⟩
theorem own_fit0 {r : Int64} (h : own_fit 0 r) : r &&& (-128 : Int64) = 0 := by
  apply Int64.toBitVec_inj.mp
  show r.toBitVec &&& (-128 : Int64).toBitVec = 0#64
  apply BitVec.eq_of_getLsbD_eq
  intro i hi
  rw [BitVec.getLsbD_and, own_m128 i hi]
  by_cases q : 7 ≤ i
  · have : r.toBitVec.getLsbD i = false := by
      show r.toBitVec.toNat.testBit i = false
      exact Nat.testBit_lt_two_pow (Nat.lt_of_lt_of_le h (Nat.pow_le_pow_right (by decide) q))
    simp [this]
  · simp [q]
theorem own_and0 {r : Int64} (h : r &&& (-128 : Int64) = 0) (i : Nat) (hi : i < 64) (q : 7 ≤ i) : r.toBitVec.getLsbD i = false := by
  have e := congrArg (fun z : Int64 => z.toBitVec.getLsbD i) h
  have e' : (r.toBitVec &&& (-128 : Int64).toBitVec).getLsbD i = (0 : Int64).toBitVec.getLsbD i := e
  rw [BitVec.getLsbD_and, own_m128 i hi] at e'
  simpa [q] using e'
theorem own_byte (x : Int64) (i : Nat) (hi : i < 64) : (x.toInt32.toInt8.toInt32.toInt64).toBitVec.getLsbD i = if i < 7 then x.toBitVec.getLsbD i else x.toBitVec.getLsbD 7 := by
  rw [Int32.toBitVec_toInt64, Int8.toBitVec_toInt32, Int32.toBitVec_toInt8, Int64.toBitVec_toInt32]
  simp only [BitVec.getLsbD_signExtend, BitVec.msb_eq_getLsbD_last]
  by_cases q : i < 7
  · have h1 : i < 8 := by omega
    have h2 : i < 32 := by omega
    simp only [q, h1, h2, hi, decide_true, Bool.true_and, if_true]
  · by_cases r : i = 7
    · subst r
      simp
    · have h1 : ¬ i < 8 := by omega
      by_cases h2 : i < 32
      · simp only [q, h1, h2, hi, decide_true, Bool.true_and, if_true, if_false]; simp
      · simp only [q, h1, h2, hi, decide_true, Bool.true_and, if_true, if_false]; simp
theorem own_hi127 (r : Int64) : (own_hi r).toInt64 &&& (127 : Int64) = r &&& (127 : Int64) := by
  apply Int64.toBitVec_inj.mp
  show (own_hi r).toInt64.toBitVec &&& (127 : Int64).toBitVec = r.toBitVec &&& (127 : Int64).toBitVec
  apply BitVec.eq_of_getLsbD_eq
  intro i hi
  rw [BitVec.getLsbD_and, BitVec.getLsbD_and, own_127 i hi]
  unfold own_hi
  rw [own_byte _ i hi]
  by_cases q : i < 7
  · have e : (r ||| (128 : Int64)).toBitVec.getLsbD i = (r.toBitVec.getLsbD i || (128 : Int64).toBitVec.getLsbD i) := BitVec.getLsbD_or
    rw [if_pos q, e, own_128 i hi]
    have : ¬ i = 7 := by omega
    simp [this]
  · simp [q]
theorem own_lo127 {r : Int64} (h : r &&& (-128 : Int64) = 0) : (own_lo r).toInt64 &&& (127 : Int64) = r := by
  apply Int64.toBitVec_inj.mp
  show (own_lo r).toInt64.toBitVec &&& (127 : Int64).toBitVec = r.toBitVec
  apply BitVec.eq_of_getLsbD_eq
  intro i hi
  rw [BitVec.getLsbD_and, own_127 i hi]
  unfold own_lo
  rw [own_byte _ i hi]
  by_cases q : i < 7
  · simp [q]
  · rw [own_and0 h i hi (by omega)]; simp [q]
theorem own_msb (x : Int64) : x.toInt32.toInt8.toInt32 < 0 ↔ x.toBitVec.getLsbD 7 = true := by
  rw [Jvm.Free.XT.neg32, BitVec.msb_eq_getLsbD_last, Int8.toBitVec_toInt32, Int32.toBitVec_toInt8, Int64.toBitVec_toInt32]
  simp only [BitVec.getLsbD_signExtend, BitVec.msb_eq_getLsbD_last]
  simp
theorem own_hineg (r : Int64) : own_hi r < 0 := by
  unfold own_hi
  rw [own_msb]
  have e : (r ||| (128 : Int64)).toBitVec.getLsbD 7 = (r.toBitVec.getLsbD 7 || (128 : Int64).toBitVec.getLsbD 7) := BitVec.getLsbD_or
  rw [e, own_128 7 (by decide)]; simp
theorem own_lonn {r : Int64} (h : r &&& (-128 : Int64) = 0) : ¬ own_lo r < 0 := by
  unfold own_lo
  rw [own_msb, own_and0 h 7 (by decide) (by decide)]; simp
theorem own_joinb (r : BitVec 64) (s : Nat) : ((r &&& (127 : Int64).toBitVec) <<< s) ||| ((r >>> 7) <<< (s + 7)) = r <<< s := by
  apply BitVec.eq_of_getLsbD_eq
  intro i hi
  simp only [BitVec.getLsbD_or, BitVec.getLsbD_shiftLeft, BitVec.getLsbD_and, BitVec.getLsbD_ushiftRight, hi, decide_true, Bool.true_and]
  by_cases q : i < s
  · have : i < s + 7 := by omega
    simp [q, this]
  · rw [own_127 (i - s) (by omega)]
    by_cases t : i < s + 7
    · have : i - s < 7 := by omega
      simp [q, t, this]
    · have : ¬ i - s < 7 := by omega
      have e : 7 + (i - (s + 7)) = i - s := by omega
      simp [q, t, this, e]
theorem own_toN (s : Nat) (h : s < 64) : s.toInt32.toBitVec.toNat % 64 = s := by
  show (BitVec.ofNat 32 s).toNat % 64 = s
  rw [BitVec.toNat_ofNat]; omega
theorem own_last {acc r r0 : Int64} {s : Nat} (h : acc ||| (r <<< (s.toInt32 &&& 0x3f).toInt64) = r0) (q : r &&& (-128 : Int64) = 0) : acc ||| (((own_lo r).toInt64 &&& (127 : Int64)) <<< (s.toInt32 &&& 0x3f).toInt64) = r0 := by rw [own_lo127 q]; exact h
theorem own_more {acc r r0 : Int64} {s : Nat} (hs : s + 7 < 64) (h : acc ||| (r <<< (s.toInt32 &&& 0x3f).toInt64) = r0) :
    (acc ||| (((own_hi r).toInt64 &&& (127 : Int64)) <<< (s.toInt32 &&& 0x3f).toInt64)) ||| (own_sr r <<< ((s + 7).toInt32 &&& 0x3f).toInt64) = r0 := by
  rw [own_hi127, ← h]
  apply Int64.toBitVec_inj.mp
  show (acc.toBitVec ||| ((r &&& (127 : Int64)) <<< (s.toInt32 &&& 0x3f).toInt64).toBitVec) ||| (own_sr r <<< ((s + 7).toInt32 &&& 0x3f).toInt64).toBitVec = acc.toBitVec ||| (r <<< (s.toInt32 &&& 0x3f).toInt64).toBitVec
  rw [own_shl _ _ s (own_toN s (by omega)), own_shl _ _ (s + 7) (own_toN (s + 7) hs), own_shl _ _ s (own_toN s (by omega)), own_srb, BitVec.or_assoc]
  rw [show (r &&& (127 : Int64)).toBitVec = r.toBitVec &&& (127 : Int64).toBitVec from rfl, own_joinb]
theorem own_encL (n : Nat) (r : Int64) : 1 ≤ (own_enc n r).length ∧ (own_enc n r).length ≤ n + 1 := by
  induction n generalizing r with
  | zero => simp [own_enc]
  | succ n ih =>
    unfold own_enc
    split
    · simp
    · have := ih (own_sr r); simp; omega
theorem own_enc1 {n : Nat} {r : Int64} (h : r &&& (-128 : Int64) = 0) : own_enc n r = [own_lo r] := by cases n <;> simp [own_enc, h]
theorem own_encS {n : Nat} {r : Int64} (h : ¬ r &&& (-128 : Int64) = 0) : own_enc (n + 1) r = own_hi r :: own_enc n (own_sr r) := by simp [own_enc, h]
abbrev own_bs (n : Nat) (r : Int64) : List Value := (own_enc n r).map Value.int
theorem own_take {lv : List Value} {k : Nat} {v : Value} (h : k < lv.length) : (lv.set k v).take (k + 1) = lv.take k ++ [v] := by
  rw [List.take_succ_eq_append_getElem (by simpa using h), List.getElem_set_self, List.take_set_of_le (Nat.le_refl _)]
theorem own_p1 {len : Int32} {k : Int} (h0 : 0 ≤ len.toInt) (h1 : len.toInt ≤ 1000) : (len + (1 : Int32)).toInt = len.toInt + 1 := by
  have a := c_iadd len (1 : Int32)
  have b := rng32 (len + (1 : Int32))
  have r : (1 : Int32).toInt = 1 := by decide
  omega
theorem own_nnI {len : Int32} (h0 : 0 ≤ len.toInt) : ¬ len < 0 := by rw [Int32.lt_iff_toInt_lt]; have r : (0 : Int32).toInt = 0 := (by decide); omega
theorem own_nat {len : Int32} (h0 : 0 ≤ len.toInt) : (len.toNatClampNeg : Int) = len.toInt := (nat_of (own_nnI h0)).symm

def own_wr (lv : List Value) (len : Int32) (lv2 : List Value) (len2 : Int32) (r : Int64) : Prop := lv2.length = 256 ∧ (∀ v ∈ lv2, fits .byte v = true) ∧ lv2.take len2.toNatClampNeg = lv.take len.toNatClampNeg ++ own_bs 9 r ∧ len2.toInt = len.toInt + (own_enc 9 r).length
theorem own_nb (x : Int32) : nar .byte (x.toInt8.toInt32) = x.toInt8.toInt32 := by
  show (x.toInt8.toInt32).toInt8.toInt32 = _
  simp
theorem own_fset {lv : List Value} {k : Nat} {x : Int32} (h : ∀ v ∈ lv, fits .byte v = true) : ∀ v ∈ lv.set k (.int x.toInt8.toInt32), fits .byte v = true := fun v hv => by
  rcases List.mem_or_eq_of_mem_set hv with q | q
  · exact h v q
  · rw [q]; exact fits_nar_byte x
def own_min (p q : Int32) : Int32 := if q < p then q else p
theorem own_minp {p : Int32} (h : 0 ≤ p.toInt ∧ p.toInt ≤ 100) : own_min (256 : Int32) p = p := by
  unfold own_min
  rw [if_pos]
  rw [Int32.lt_iff_toInt_lt]
  have r : (256 : Int32).toInt = 256 := by decide
  omega
theorem own_l256 {lv : List Value} (h : lv.length = 256) : lv.length.toInt32 = (256 : Int32) := by rw [h]; rfl
theorem own_room {len : Int32} (h : 0 ≤ len.toInt ∧ len.toInt ≤ 100) : ¬ ((256 : Int32) - len) < (10 : Int32) := by
  rw [Int32.lt_iff_toInt_lt]
  have a := c_isub (256 : Int32) len
  have b := rng32 ((256 : Int32) - len)
  have r : (256 : Int32).toInt = 256 := by decide
  have r2 : (10 : Int32).toInt = 10 := by decide
  omega
theorem own_ne256 {len : Int32} (h : 0 ≤ len.toInt ∧ len.toInt ≤ 100) : ¬ len = (256 : Int32) := fun q => by
  rw [q] at h
  have r : (256 : Int32).toInt = 256 := by decide
  omega
theorem own_inb {n : Nat} {r : Int64} {ln : Int32} {rl : List Value} {len : Int32} {r0 : Int64} (hlen : rl.length = 256) (hl : 0 ≤ len.toInt ∧ len.toInt ≤ 100) (hb : 0 ≤ ln.toInt ∧ ln.toInt + (own_enc n r).length = len.toInt + (own_enc 9 r0).length) : ln.toNatClampNeg < rl.length ∧ ln.toInt ≤ 200 := by
  have a := own_encL n r
  have b := own_encL 9 r0
  have c := own_nat hb.1
  omega
theorem own_wfin {n : Nat} {r : Int64} {ln : Int32} {rl lv : List Value} {len : Int32} {r0 x : Int64} (hl : 0 ≤ len.toInt ∧ len.toInt ≤ 100) (hlen : rl.length = 256) (hfi : ∀ v ∈ rl, fits .byte v = true) (hb : 0 ≤ ln.toInt ∧ ln.toInt + (own_enc n r).length = len.toInt + (own_enc 9 r0).length)
    (htk : rl.take ln.toNatClampNeg ++ own_bs n r = lv.take len.toNatClampNeg ++ own_bs 9 r0) (hq : r &&& (-128 : Int64) = 0) (e : r0 = x) : own_wr lv len (rl.set ln.toNatClampNeg (.int (own_lo r))) (ln + (1 : Int32)) x := by
  subst e
  obtain ⟨q1, q2⟩ := own_inb hlen hl hb
  have e1 : (ln + (1 : Int32)).toInt = ln.toInt + 1 := own_p1 (k := 0) hb.1 (by omega)
  have e2 : (ln + (1 : Int32)).toNatClampNeg = ln.toNatClampNeg + 1 := by
    have a := own_nat hb.1
    have b := own_nat (len := ln + (1 : Int32)) (by omega)
    omega
  refine ⟨by simpa using hlen, own_fset hfi, ?_, ?_⟩
  · rw [e2, own_take q1, ← htk, own_bs, own_enc1 hq]; rfl
  · rw [e1]
    have a := hb.2
    rw [own_enc1 hq] at a
    simpa using a
theorem own_wstep {n : Nat} {r : Int64} {ln : Int32} {rl lv : List Value} {len : Int32} {r0 : Int64} (hl : 0 ≤ len.toInt ∧ len.toInt ≤ 100) (hlen : rl.length = 256) (hb : 0 ≤ ln.toInt ∧ ln.toInt + (own_enc (n + 1) r).length = len.toInt + (own_enc 9 r0).length)
    (htk : rl.take ln.toNatClampNeg ++ own_bs (n + 1) r = lv.take len.toNatClampNeg ++ own_bs 9 r0) (hq : ¬ r &&& (-128 : Int64) = 0) :
    (0 ≤ (ln + (1 : Int32)).toInt ∧ (ln + (1 : Int32)).toInt + (own_enc n (own_sr r)).length = len.toInt + (own_enc 9 r0).length) ∧
    (rl.set ln.toNatClampNeg (.int (own_hi r))).take (ln + (1 : Int32)).toNatClampNeg ++ own_bs n (own_sr r) = lv.take len.toNatClampNeg ++ own_bs 9 r0 := by
  obtain ⟨q1, q2⟩ := own_inb hlen hl hb
  have e1 : (ln + (1 : Int32)).toInt = ln.toInt + 1 := own_p1 (k := 0) hb.1 (by omega)
  have e2 : (ln + (1 : Int32)).toNatClampNeg = ln.toNatClampNeg + 1 := by
    have a := own_nat hb.1
    have b := own_nat (len := ln + (1 : Int32)) (by omega)
    omega
  refine ⟨⟨by omega, ?_⟩, ?_⟩
  · rw [e1, ← hb.2, own_encS hq]; simp; omega
  · rw [e2, own_take q1, ← htk, own_bs, own_bs, own_encS hq]; simp
theorem pn_com_example_flote_flote_search_Key_Writer : plainName "com/example/flote/flote/search/Key$Writer" = true := by first | (simp [plainName, overriddenIn]; done) | decide +kernel
theorem ef_1 (m : MethodId) (x0 : Addr) : entryFrame m #[(.ref x0)] 1 = mkF m 0 #[.val (.ref x0)] [] := by first | (simp [entryFrame, mkF, argsToLocals, Value.category]; done) | rfl
theorem d1_0 : decode prog_106_method_1_code 0 = .ok (.aload_n 0, 1) := by decide +kernel
theorem d1_1 : decode prog_106_method_1_code 1 = .ok (.invokespecial 3, 3) := by decide +kernel
theorem d1_4 : decode prog_106_method_1_code 4 = .ok (.aload_n 0, 1) := by decide +kernel
theorem d1_5 : decode prog_106_method_1_code 5 = .ok (.sipush 256, 3) := by decide +kernel
theorem d1_8 : decode prog_106_method_1_code 8 = .ok (.newarray .byte, 2) := by decide +kernel
theorem d1_10 : decode prog_106_method_1_code 10 = .ok (.putfield 9, 3) := by decide +kernel
theorem d1_13 : decode prog_106_method_1_code 13 = .ok (.return_, 1) := by decide +kernel
theorem sn_cN0_length_room {a0 : Array Value} {Z : State} (hw : ∀ d ∈ tables_1, d.before a0 Z = true) : Jvm.RoadKit.slotOf Z cN0 "length" "I" ≠ Jvm.RoadKit.slotOf Z cN0 "room" "[B" := slot_ne (Or.inl (ow hw 18 rfl)) (Or.inl (ow hw 11 rfl)) (by decide) (t := .int) (t' := (.array .byte)) (by decide) (by decide)
def Q_winit (Z : State) (a1 : Addr) (h0 : Heap) (n0 : Nat) (v : Option Value) (h : Heap) (L : List Loc) : Prop := v = none ∧ Fr n0 L ∧ ∃ (rm : Addr) (kk : ClassId), Keep h0 h [a1] ∧ h0.size ≤ rm ∧ Fld Z h a1 cN0 "room" "[B" (.ref rm) ∧ Fld Z h a1 cN0 "length" "I" (.int (0 : Int32)) ∧ OAr Z h rm kk .byte (List.replicate 256 (.int (0 : Int32)))
set_option maxRecDepth 65536 in
set_option maxHeartbeats 40000000 in
theorem rm_winit (l : Launch) (Z : State) (a0 : Array Value) (hw : ∀ d ∈ tables_1, d.before a0 Z = true) (ws : List Jvm.Cond) (a1 : Addr) (h0 : Heap) (n0 : Nat) (Z0 : n0 ≤ h0.size) (E_a1 : Exa Z h0 a1 cN0) (F_room_a1 : Fld Z h0 a1 cN0 "room" "[B" .null) (F_length_a1 : Fld Z h0 a1 cN0 "length" "I" (.int (0 : Int32))) (g_a1 : n0 ≤ a1) :
    MetFree l mN0 (head1 (Jvm.Cond.code mN0 prog_106_method_1_code 1 none :: ws) ({ frames := 1, cells := 1, slots := 256, locals := 12 } : Room)) (fun a U => a = #[(.ref a1)] ∧ Z.Warmed39 U.vm ∧ U.heap = h0) (fun _ _ _ _ _ => True) (fun _ U o U' => ∃ v L, o = .returned v ∧ Q_winit Z a1 h0 n0 v U'.heap L ∧ FrameEnd U o U' L ({ frames := 1, cells := 1, slots := 256, locals := 12 } : Room).cells ({ frames := 1, cells := 1, slots := 256, locals := 12 } : Room).slots) := by
  refine MetFree.of_bodySF (plainFor_of_name pn_com_example_flote_flote_search_Key_Writer) hisR ?_
  intro p e s m args below meth c s₁ Bd hml0 hP hK
  obtain ⟨rfl, hZ, hh⟩ := hP
  have hx := Bd.exec
  have hby := Bd.bytes
  have hml : c.maxLocals = 1 := hml0
  have hown : s.vm.findClass "com/example/flote/flote/search/Key$Writer" = some m.cls := findClass_of_methodNamed Bd.named
  have hnm := (name_of_methodNamed Bd.named Bd.method).1
  have X0 : Stand p l e ({ frames := 1, cells := 1, slots := 256, locals := 12 } : Room) s m #[(.ref a1)] below meth c s₁ [] 0 0 := Stand.of_body Bd
  have e0 : s₁.heap = h0 := by rw [← hh, Bd.state]; rfl
  have N0 := Fr.nil n0
  obtain ⟨A0, hA0⟩ : ∃ z, z = s₁.setTop (entryFrame m #[(.ref a1)] 1) := ⟨_, rfl⟩
  have K : OGo p e below A0 s₁ (mkF m 0 #[rv a1] []) := fun t k => hA0 ▸ castTop (ef_1 m a1) k
  replace K : OGo p e below A0 s₁ (mkF m 1 #[rv a1] [(.ref a1)]) := fun t k => K t (XS.aloadN X0.here hx rfl (hb hby d1_0) rfl rfl k)
  obtain ⟨T1, X1, e1, st1⟩ := initO X0 hx hZ hown (ow hw 6 rfl) (ow hw 7 rfl) (ow hw 8 rfl) e0 (g := (mkF m 1 #[rv a1] [(.ref a1)])) rfl (by rw [hml]; rfl) rfl (hb hby d1_1) (by decide) (W := 0) (by show 2 * 0 + _ ≤ _; exact Nat.le_of_eq rfl) (by decide)
  replace K : OGo p e below A0 T1 (mkF m 4 #[rv a1] []) := fun t k => K t (st1 t k)
  replace K : OGo p e below A0 T1 (mkF m 5 #[rv a1] [(.ref a1)]) := fun t k => K t (XS.aloadN X1.here hx rfl (hb hby d1_4) rfl rfl k)
  replace K : OGo p e below A0 T1 (mkF m 8 #[rv a1] [(.int 256), (.ref a1)]) := fun t k => K t (XS.sipush X1.here hx rfl (hb hby d1_5) k)
  obtain ⟨T2, h2, k2, X2, e2, E2, A2, Q2, st2⟩ := newPE X1 hx hZ (ow hw 9 rfl) e1 (g := (mkF m 8 #[rv a1] [(.int 256), (.ref a1)])) rfl (hb hby d1_8) rfl (by decide) (cap := 256) (by decide) (by decide) (by decide) (by decide) (ad := "[B") (by decide)
  obtain ⟨b2, gz2⟩ : ∃ z, z = h0.size := ⟨_, rfl⟩
  rw [← gz2] at A2 Q2 st2
  have ne_a1_b2 : a1 ≠ b2 := Nat.ne_of_lt (Nat.lt_of_lt_of_le E_a1.lt (Nat.le_of_eq gz2.symm))
  have g_b2 : n0 ≤ b2 := Nat.le_trans Z0 (Nat.le_of_eq gz2.symm)
  have sz_b2 : h0.size ≤ b2 := Nat.le_trans (Keep.refl h0 [a1]).1 (Nat.le_of_eq gz2.symm)
  have Z2 : n0 ≤ h2.size := Nat.le_trans Z0 E2.1
  have Kp2 : Keep h0 h2 [a1] := (Keep.refl h0 [a1]).ext E2
  have V_b2 : OAr Z h2 b2 k2 .byte (List.replicate (256 : Int32).toNatClampNeg (.int (0 : Int32))) := OAr.new A2
  replace K : OGo p e below A0 T2 (mkF m 10 #[rv a1] [(.ref b2), (.ref a1)]) := fun t k => K t (st2 t k)
  have F_room_a1_3 := (F_room_a1.ext E2)
  have E_a1_4 := (E_a1.ext E2)
  obtain ⟨T5, h5, X5, e5, W5, st5⟩ := putF X2 hx hZ hown (host := "") (Or.inl (ow hw 10 rfl)) Via.refl e2 F_room_a1_3 E_a1_4 (Or.inl (ow hw 11 rfl)) (ow hw 1 rfl) (ty := (.array .byte)) (by decide) rfl rfl (g := (mkF m 10 #[rv a1] [(.ref b2), (.ref a1)])) rfl rfl (hb hby d1_10)
  have Z5 : n0 ≤ h5.size := Nat.le_trans Z2 (Keep.of_wr W5).1
  have Kp5 : Keep h0 h5 [a1] := Kp2.wr W5 (Or.inl (List.mem_of_getElem? (i := 0) rfl))
  have F_room_a1_5 := F_room_a1_3.same W5
  have N5 := Fr.snoc X5 N0 g_a1
  replace K : OGo p e below A0 T5 (mkF m 13 #[rv a1] []) := fun t k => K t (st5 t k)
  have F_length_a1_6 := ((F_length_a1.ext E2).other W5 (Or.inr (sn_cN0_length_room hw)))
  have V_b2_7 := (V_b2.other W5 (Ne.symm ne_a1_b2))
  obtain ⟨fs, hr, hrun, hended, hW, hsame⟩ := X5.leave (v := none) (fun _ => rfl)
  subst hA0
  refine ⟨_, _, K _ (X5.returnOut hx Bd.returns (hb hby d1_13) hr), hrun, hended, _, _, rfl, ?_, ⟨_, rfl⟩, hW, hsame.mono (by decide) (by decide)⟩
  show Q_winit Z a1 h0 n0 _ T5.heap _
  rw [e5]
  exact ⟨rfl, N5, b2, k2, Kp5, sz_b2, F_room_a1_5, F_length_a1_6, V_b2_7⟩
theorem ef_3 (m : MethodId) (x0 : Addr) (x1 : Int64) : entryFrame m #[(.ref x0), (.long x1)] 5 = mkF m 0 #[.val (.ref x0), .val (.long x1), .second, .unset, .unset] [] := by first | (simp [entryFrame, mkF, argsToLocals, Value.category]; done) | rfl
theorem d3_0 : decode prog_106_method_3_code 0 = .ok (.aload_n 0, 1) := by decide +kernel
theorem d3_1 : decode prog_106_method_3_code 1 = .ok (.getfield 9, 3) := by decide +kernel
theorem d3_4 : decode prog_106_method_3_code 4 = .ok (.arraylength, 1) := by decide +kernel
theorem d3_5 : decode prog_106_method_3_code 5 = .ok (.aload_n 0, 1) := by decide +kernel
theorem d3_6 : decode prog_106_method_3_code 6 = .ok (.getfield 19, 3) := by decide +kernel
theorem d3_9 : decode prog_106_method_3_code 9 = .ok (.isub, 1) := by decide +kernel
theorem d3_10 : decode prog_106_method_3_code 10 = .ok (.bipush 10, 2) := by decide +kernel
theorem d3_12 : decode prog_106_method_3_code 12 = .ok (.if_icmp .ge 9, 3) := by decide +kernel
theorem d3_21 : decode prog_106_method_3_code 21 = .ok (.lload_n 1, 1) := by decide +kernel
theorem d3_22 : decode prog_106_method_3_code 22 = .ok (.iconst 1, 1) := by decide +kernel
theorem d3_23 : decode prog_106_method_3_code 23 = .ok (.lshl, 1) := by decide +kernel
theorem d3_24 : decode prog_106_method_3_code 24 = .ok (.lload_n 1, 1) := by decide +kernel
theorem d3_25 : decode prog_106_method_3_code 25 = .ok (.bipush 63, 2) := by decide +kernel
theorem d3_27 : decode prog_106_method_3_code 27 = .ok (.lshr, 1) := by decide +kernel
theorem d3_28 : decode prog_106_method_3_code 28 = .ok (.lxor, 1) := by decide +kernel
theorem d3_29 : decode prog_106_method_3_code 29 = .ok (.lstore_n 3, 1) := by decide +kernel
theorem d3_30 : decode prog_106_method_3_code 30 = .ok (.lload_n 3, 1) := by decide +kernel
theorem d3_31 : decode prog_106_method_3_code 31 = .ok (.ldc2_w 27, 3) := by decide +kernel
theorem d3_34 : decode prog_106_method_3_code 34 = .ok (.land, 1) := by decide +kernel
theorem d3_35 : decode prog_106_method_3_code 35 = .ok (.lconst 0, 1) := by decide +kernel
theorem d3_36 : decode prog_106_method_3_code 36 = .ok (.lcmp, 1) := by decide +kernel
theorem d3_37 : decode prog_106_method_3_code 37 = .ok (.ifCond .eq 34, 3) := by decide +kernel
theorem d3_71 : decode prog_106_method_3_code 71 = .ok (.aload_n 0, 1) := by decide +kernel
theorem d3_72 : decode prog_106_method_3_code 72 = .ok (.getfield 9, 3) := by decide +kernel
theorem d3_75 : decode prog_106_method_3_code 75 = .ok (.aload_n 0, 1) := by decide +kernel
theorem d3_76 : decode prog_106_method_3_code 76 = .ok (.dup, 1) := by decide +kernel
theorem d3_77 : decode prog_106_method_3_code 77 = .ok (.getfield 19, 3) := by decide +kernel
theorem d3_80 : decode prog_106_method_3_code 80 = .ok (.dup_x1, 1) := by decide +kernel
theorem d3_81 : decode prog_106_method_3_code 81 = .ok (.iconst 1, 1) := by decide +kernel
theorem d3_82 : decode prog_106_method_3_code 82 = .ok (.iadd, 1) := by decide +kernel
theorem d3_83 : decode prog_106_method_3_code 83 = .ok (.putfield 19, 3) := by decide +kernel
theorem d3_86 : decode prog_106_method_3_code 86 = .ok (.lload_n 3, 1) := by decide +kernel
theorem d3_87 : decode prog_106_method_3_code 87 = .ok (.l2i, 1) := by decide +kernel
theorem d3_88 : decode prog_106_method_3_code 88 = .ok (.i2b, 1) := by decide +kernel
theorem d3_89 : decode prog_106_method_3_code 89 = .ok (.bastore, 1) := by decide +kernel
theorem d3_90 : decode prog_106_method_3_code 90 = .ok (.return_, 1) := by decide +kernel
theorem sn_cN0_room_length {a0 : Array Value} {Z : State} (hw : ∀ d ∈ tables_1, d.before a0 Z = true) : Jvm.RoadKit.slotOf Z cN0 "room" "[B" ≠ Jvm.RoadKit.slotOf Z cN0 "length" "I" := slot_ne (Or.inl (ow hw 11 rfl)) (Or.inl (ow hw 18 rfl)) (by decide) (t := (.array .byte)) (t' := .int) (by decide) (by decide)
theorem d3_40 : decode prog_106_method_3_code 40 = .ok (.aload_n 0, 1) := by decide +kernel
theorem d3_41 : decode prog_106_method_3_code 41 = .ok (.getfield 9, 3) := by decide +kernel
theorem d3_44 : decode prog_106_method_3_code 44 = .ok (.aload_n 0, 1) := by decide +kernel
theorem d3_45 : decode prog_106_method_3_code 45 = .ok (.dup, 1) := by decide +kernel
theorem d3_46 : decode prog_106_method_3_code 46 = .ok (.getfield 19, 3) := by decide +kernel
theorem d3_49 : decode prog_106_method_3_code 49 = .ok (.dup_x1, 1) := by decide +kernel
theorem d3_50 : decode prog_106_method_3_code 50 = .ok (.iconst 1, 1) := by decide +kernel
theorem d3_51 : decode prog_106_method_3_code 51 = .ok (.iadd, 1) := by decide +kernel
theorem d3_52 : decode prog_106_method_3_code 52 = .ok (.putfield 19, 3) := by decide +kernel
theorem d3_55 : decode prog_106_method_3_code 55 = .ok (.lload_n 3, 1) := by decide +kernel
theorem d3_56 : decode prog_106_method_3_code 56 = .ok (.ldc2_w 29, 3) := by decide +kernel
theorem d3_59 : decode prog_106_method_3_code 59 = .ok (.lor, 1) := by decide +kernel
theorem d3_60 : decode prog_106_method_3_code 60 = .ok (.l2i, 1) := by decide +kernel
theorem d3_61 : decode prog_106_method_3_code 61 = .ok (.i2b, 1) := by decide +kernel
theorem d3_62 : decode prog_106_method_3_code 62 = .ok (.bastore, 1) := by decide +kernel
theorem d3_63 : decode prog_106_method_3_code 63 = .ok (.lload_n 3, 1) := by decide +kernel
theorem d3_64 : decode prog_106_method_3_code 64 = .ok (.bipush 7, 2) := by decide +kernel
theorem d3_66 : decode prog_106_method_3_code 66 = .ok (.lushr, 1) := by decide +kernel
theorem d3_67 : decode prog_106_method_3_code 67 = .ok (.lstore_n 3, 1) := by decide +kernel
theorem d3_68 : decode prog_106_method_3_code 68 = .ok (.goto (-38), 3) := by decide +kernel
def Q_put (Z : State) (a1 : Addr) (q1 : Int64) (rm : Addr) (kk : ClassId) (len : Int32) (lv : List Value) (h0 : Heap) (n0 : Nat) (v : Option Value) (h : Heap) (L : List Loc) : Prop := v = none ∧ Fr n0 L ∧ ∃ (lv2 : List Value) (len2 : Int32), Keep h0 h [a1, rm] ∧ Fld Z h a1 cN0 "room" "[B" (.ref rm) ∧ Fld Z h a1 cN0 "length" "I" (.int len2) ∧ OAr Z h rm kk .byte lv2 ∧ own_wr lv len lv2 len2 (own_zig q1)
set_option maxRecDepth 65536 in
set_option maxHeartbeats 40000000 in
theorem rm_put (l : Launch) (Z : State) (a0 : Array Value) (hw : ∀ d ∈ tables_1, d.before a0 Z = true) (ws : List Jvm.Cond) (a1 : Addr) (q1 : Int64) (rm : Addr) (kk : ClassId) (len : Int32) (lv : List Value) (h0 : Heap) (n0 : Nat) (Z0 : n0 ≤ h0.size) (E_a1 : Exa Z h0 a1 cN0) (F_room_a1 : Fld Z h0 a1 cN0 "room" "[B" (.ref rm)) (F_length_a1 : Fld Z h0 a1 cN0 "length" "I" (.int len)) (V_rm : OAr Z h0 rm kk .byte lv) (g_a1 : n0 ≤ a1) (g_rm : n0 ≤ rm) (ne_a1_rm : a1 ≠ rm) (hr : lv.length = 256) (hf : ∀ v ∈ lv, fits .byte v = true) (hl : 0 ≤ len.toInt ∧ len.toInt ≤ 100) :
    MetFree l mN1 (head1 (Jvm.Cond.code mN1 prog_106_method_3_code 5 none :: ws) ({ frames := 0, cells := 0, slots := 0, locals := 0 } : Room)) (fun a U => a = #[(.ref a1), (.long q1)] ∧ Z.Warmed39 U.vm ∧ U.heap = h0) (fun _ _ _ _ _ => True) (fun _ U o U' => ∃ v L, o = .returned v ∧ Q_put Z a1 q1 rm kk len lv h0 n0 v U'.heap L ∧ FrameEnd U o U' L ({ frames := 0, cells := 0, slots := 0, locals := 0 } : Room).cells ({ frames := 0, cells := 0, slots := 0, locals := 0 } : Room).slots) := by
  refine MetFree.of_bodySF (plainFor_of_name pn_com_example_flote_flote_search_Key_Writer) hisR ?_
  intro p e s m args below meth c s₁ Bd hml0 hP hK
  obtain ⟨rfl, hZ, hh⟩ := hP
  have hx := Bd.exec
  have hby := Bd.bytes
  have hml : c.maxLocals = 5 := hml0
  have hown : s.vm.findClass "com/example/flote/flote/search/Key$Writer" = some m.cls := findClass_of_methodNamed Bd.named
  have hnm := (name_of_methodNamed Bd.named Bd.method).1
  have X0 : Stand p l e ({ frames := 0, cells := 0, slots := 0, locals := 0 } : Room) s m #[(.ref a1), (.long q1)] below meth c s₁ [] 0 0 := Stand.of_body Bd
  have e0 : s₁.heap = h0 := by rw [← hh, Bd.state]; rfl
  have N0 := Fr.nil n0
  obtain ⟨A0, hA0⟩ : ∃ z, z = s₁.setTop (entryFrame m #[(.ref a1), (.long q1)] 5) := ⟨_, rfl⟩
  have K : OGo p e below A0 s₁ (mkF m 0 #[rv a1, .val (.long q1), .second, .unset, .unset] []) := fun t k => hA0 ▸ castTop (ef_3 m a1 q1) k
  replace K : OGo p e below A0 s₁ (mkF m 1 #[rv a1, .val (.long q1), .second, .unset, .unset] [(.ref a1)]) := fun t k => K t (XS.aloadN X0.here hx rfl (hb hby d3_0) rfl rfl k)
  obtain ⟨T1, X1, e1, st1⟩ := getF X0 hx hZ hown (host := "") (Or.inl (ow hw 10 rfl)) Via.refl e0 F_room_a1 (g := (mkF m 1 #[rv a1, .val (.long q1), .second, .unset, .unset] [(.ref a1)])) rfl rfl (hb hby d3_1)
  replace K : OGo p e below A0 T1 (mkF m 4 #[rv a1, .val (.long q1), .second, .unset, .unset] [(.ref rm)]) := fun t k => K t (st1 t k)
  replace K : OGo p e below A0 T1 (mkF m 5 #[rv a1, .val (.long q1), .second, .unset, .unset] [(.int 256)]) := fun t k => K t (own_len X1 hx hZ e1 V_rm (n := (256 : Int32)) (own_l256 hr) (g := (mkF m 4 #[rv a1, .val (.long q1), .second, .unset, .unset] [(.ref rm)])) rfl rfl (hb hby d3_4) t k)
  replace K : OGo p e below A0 T1 (mkF m 6 #[rv a1, .val (.long q1), .second, .unset, .unset] [(.ref a1), (.int 256)]) := fun t k => K t (XS.aloadN X1.here hx rfl (hb hby d3_5) rfl rfl k)
  obtain ⟨T2, X2, e2, st2⟩ := getF X1 hx hZ hown (host := "") (Or.inl (ow hw 17 rfl)) Via.refl e1 F_length_a1 (g := (mkF m 6 #[rv a1, .val (.long q1), .second, .unset, .unset] [(.ref a1), (.int 256)])) rfl rfl (hb hby d3_6)
  replace K : OGo p e below A0 T2 (mkF m 9 #[rv a1, .val (.long q1), .second, .unset, .unset] [(.int len), (.int 256)]) := fun t k => K t (st2 t k)
  replace K : OGo p e below A0 T2 (mkF m 10 #[rv a1, .val (.long q1), .second, .unset, .unset] [(.int ((256 : Int32) - len))]) := fun t k => K t (XS.isub X2.here hx rfl (hb hby d3_9) rfl k)
  replace K : OGo p e below A0 T2 (mkF m 12 #[rv a1, .val (.long q1), .second, .unset, .unset] [(.int 10), (.int ((256 : Int32) - len))]) := fun t k => K t (XS.bipush X2.here hx rfl (hb hby d3_10) k)
  replace K : OGo p e below A0 T2 (mkF m 21 #[rv a1, .val (.long q1), .second, .unset, .unset] []) := fun t k => K t (XS.icmpYes X2.here hx rfl (pc0 := 12) (pc' := 21) rfl (hb hby d3_12) rfl (flt ((own_room hl))).2.1 (by decide) (by decide) k)
  replace K : OGo p e below A0 T2 (mkF m 22 #[rv a1, .val (.long q1), .second, .unset, .unset] [(.long q1)]) := fun t k => K t (XS.lloadN X2.here hx rfl (hb hby d3_21) rfl k)
  replace K : OGo p e below A0 T2 (mkF m 23 #[rv a1, .val (.long q1), .second, .unset, .unset] [(.int 1), (.long q1)]) := fun t k => K t (XS.iconst X2.here hx rfl (hb hby d3_22) k)
  replace K : OGo p e below A0 T2 (mkF m 24 #[rv a1, .val (.long q1), .second, .unset, .unset] [(.long (q1 <<< ((1 : Int32) &&& 0x3f).toInt64))]) := fun t k => K t (XS.lshl X2.here hx rfl (hb hby d3_23) rfl k)
  replace K : OGo p e below A0 T2 (mkF m 25 #[rv a1, .val (.long q1), .second, .unset, .unset] [(.long q1), (.long (q1 <<< ((1 : Int32) &&& 0x3f).toInt64))]) := fun t k => K t (XS.lloadN X2.here hx rfl (hb hby d3_24) rfl k)
  replace K : OGo p e below A0 T2 (mkF m 27 #[rv a1, .val (.long q1), .second, .unset, .unset] [(.int 63), (.long q1), (.long (q1 <<< ((1 : Int32) &&& 0x3f).toInt64))]) := fun t k => K t (XS.bipush X2.here hx rfl (hb hby d3_25) k)
  replace K : OGo p e below A0 T2 (mkF m 28 #[rv a1, .val (.long q1), .second, .unset, .unset] [(.long (q1 >>> ((63 : Int32) &&& 0x3f).toInt64)), (.long (q1 <<< ((1 : Int32) &&& 0x3f).toInt64))]) := fun t k => K t (XS.lshr X2.here hx rfl (hb hby d3_27) rfl k)
  replace K : OGo p e below A0 T2 (mkF m 29 #[rv a1, .val (.long q1), .second, .unset, .unset] [(.long ((q1 <<< ((1 : Int32) &&& 0x3f).toInt64) ^^^ (q1 >>> ((63 : Int32) &&& 0x3f).toInt64)))]) := fun t k => K t (XS.lxor X2.here hx rfl (hb hby d3_28) rfl k)
  obtain ⟨r0, hv_r0⟩ : ∃ z : Int64, z = ((q1 <<< ((1 : Int32) &&& 0x3f).toInt64) ^^^ (q1 >>> ((63 : Int32) &&& 0x3f).toInt64)) := ⟨_, rfl⟩
  rw [← hv_r0] at K
  replace K : OGo p e below A0 T2 (mkF m 30 #[rv a1, .val (.long q1), .second, .val (.long r0), .second] []) := fun t k => K t (XS.lstoreN X2.here hx rfl (hb hby d3_29) rfl (l' := #[rv a1, .val (.long q1), .second, .val (.long r0), .second]) rfl k)
  obtain ⟨nF3, r, ln, rl, Tl3, hl3, ll3, hI3⟩ : ∃ (nF3 : Nat) (r : Int64) (ln : Int32) (rl : List Value) (Tl3 : State) (hl3 : Heap) (ll3 : List Loc), Stand p l e ({ frames := 0, cells := 0, slots := 0, locals := 0 } : Room) s m #[(.ref a1), (.long q1)] below meth c Tl3 ll3 0 0 ∧ Tl3.heap = hl3 ∧ Fr n0 ll3 ∧ n0 ≤ hl3.size ∧ Keep h0 hl3 [a1, rm] ∧ Exa Z hl3 a1 cN0 ∧ Fld Z hl3 a1 cN0 "room" "[B" (.ref rm) ∧ Fld Z hl3 a1 cN0 "length" "I" (.int ln) ∧ OAr Z hl3 rm kk .byte rl ∧ own_fit nF3 r ∧ rl.length = 256 ∧ (∀ v ∈ rl, fits .byte v = true) ∧ (0 ≤ ln.toInt ∧ ln.toInt + (own_enc nF3 r).length = len.toInt + (own_enc 9 r0).length) ∧ rl.take ln.toNatClampNeg ++ own_bs nF3 r = lv.take len.toNatClampNeg ++ own_bs 9 r0 ∧ OGo p e below A0 Tl3 (mkF m 30 #[rv a1, .val (.long q1), .second, .val (.long r), .second] []) := ⟨9, r0, len, lv, _, _, _, X2, e2, N0, Z0, (Keep.refl h0 [a1, rm]), E_a1, F_room_a1, F_length_a1, V_rm, (own_fit9 _), hr, hf, ⟨hl.1, rfl⟩, rfl, K⟩
  clear K
  induction nF3 generalizing r ln rl Tl3 hl3 ll3 with
  | zero =>
    obtain ⟨Xl3, el3, Nl3, Zl3, Kl3, E_a1_l3, F_room_a1_l3, F_length_a1_l3, V_rm_l3, hfit, hlen, hfi, hbd, htk, K⟩ := hI3
    obtain ⟨hib, hin⟩ := own_inb hlen hl hbd
    replace K : OGo p e below A0 Tl3 (mkF m 31 #[rv a1, .val (.long q1), .second, .val (.long r), .second] [(.long r)]) := fun t k => K t (XS.lloadN Xl3.here hx rfl (hb hby d3_30) rfl k)
    replace K : OGo p e below A0 Tl3 (mkF m 34 #[rv a1, .val (.long q1), .second, .val (.long r), .second] [(.long (-128)), (.long r)]) := fun t k => K t (Xl3.ldc2Long hx hown (mvT hZ (ow hw 19 rfl)) (g := (mkF m 31 #[rv a1, .val (.long q1), .second, .val (.long r), .second] [(.long r)])) rfl (hb hby d3_31) t k)
    replace K : OGo p e below A0 Tl3 (mkF m 35 #[rv a1, .val (.long q1), .second, .val (.long r), .second] [(.long (r &&& (-128 : Int64)))]) := fun t k => K t (XS.land Xl3.here hx rfl (hb hby d3_34) rfl k)
    replace K : OGo p e below A0 Tl3 (mkF m 36 #[rv a1, .val (.long q1), .second, .val (.long r), .second] [(.long 0), (.long (r &&& (-128 : Int64)))]) := fun t k => K t (XS.lconst Xl3.here hx rfl (hb hby d3_35) k)
    replace K : OGo p e below A0 Tl3 (mkF m 37 #[rv a1, .val (.long q1), .second, .val (.long r), .second] [(.int (lcmpW (r &&& (-128 : Int64)) (0 : Int64)))]) := fun t k => K t (XS.lcmp Xl3.here hx rfl (hb hby d3_36) rfl k)
    replace K : OGo p e below A0 Tl3 (mkF m 71 #[rv a1, .val (.long q1), .second, .val (.long r), .second] []) := fun t k => K t (XS.ifYes Xl3.here hx rfl (pc0 := 37) (pc' := 71) rfl (hb hby d3_37) rfl ((if0 _ _).trans (teq ((lw_eq (r &&& (-128 : Int64)) (0 : Int64)).mpr ((own_fit0 hfit)))).1) (by decide) (by decide) k)
    replace K : OGo p e below A0 Tl3 (mkF m 72 #[rv a1, .val (.long q1), .second, .val (.long r), .second] [(.ref a1)]) := fun t k => K t (XS.aloadN Xl3.here hx rfl (hb hby d3_71) rfl rfl k)
    obtain ⟨T4, X4, e4, st4⟩ := getF Xl3 hx hZ hown (host := "") (Or.inl (ow hw 10 rfl)) Via.refl el3 F_room_a1_l3 (g := (mkF m 72 #[rv a1, .val (.long q1), .second, .val (.long r), .second] [(.ref a1)])) rfl rfl (hb hby d3_72)
    replace K : OGo p e below A0 T4 (mkF m 75 #[rv a1, .val (.long q1), .second, .val (.long r), .second] [(.ref rm)]) := fun t k => K t (st4 t k)
    replace K : OGo p e below A0 T4 (mkF m 76 #[rv a1, .val (.long q1), .second, .val (.long r), .second] [(.ref a1), (.ref rm)]) := fun t k => K t (XS.aloadN X4.here hx rfl (hb hby d3_75) rfl rfl k)
    replace K : OGo p e below A0 T4 (mkF m 77 #[rv a1, .val (.long q1), .second, .val (.long r), .second] [(.ref a1), (.ref a1), (.ref rm)]) := fun t k => K t (XS.dup X4.here hx rfl (hb hby d3_76) rfl rfl k)
    obtain ⟨T5, X5, e5, st5⟩ := getF X4 hx hZ hown (host := "") (Or.inl (ow hw 17 rfl)) Via.refl e4 F_length_a1_l3 (g := (mkF m 77 #[rv a1, .val (.long q1), .second, .val (.long r), .second] [(.ref a1), (.ref a1), (.ref rm)])) rfl rfl (hb hby d3_77)
    replace K : OGo p e below A0 T5 (mkF m 80 #[rv a1, .val (.long q1), .second, .val (.long r), .second] [(.int ln), (.ref a1), (.ref rm)]) := fun t k => K t (st5 t k)
    replace K : OGo p e below A0 T5 (mkF m 81 #[rv a1, .val (.long q1), .second, .val (.long r), .second] [(.int ln), (.ref a1), (.int ln), (.ref rm)]) := fun t k => K t (XS.dupX1 X5.here hx rfl (hb hby d3_80) rfl rfl rfl k)
    replace K : OGo p e below A0 T5 (mkF m 82 #[rv a1, .val (.long q1), .second, .val (.long r), .second] [(.int 1), (.int ln), (.ref a1), (.int ln), (.ref rm)]) := fun t k => K t (XS.iconst X5.here hx rfl (hb hby d3_81) k)
    replace K : OGo p e below A0 T5 (mkF m 83 #[rv a1, .val (.long q1), .second, .val (.long r), .second] [(.int (ln + (1 : Int32))), (.ref a1), (.int ln), (.ref rm)]) := fun t k => K t (XS.iadd X5.here hx rfl (hb hby d3_82) rfl k)
    obtain ⟨T6, h6, X6, e6, W6, st6⟩ := putF X5 hx hZ hown (host := "") (Or.inl (ow hw 17 rfl)) Via.refl e5 F_length_a1_l3 E_a1_l3 (Or.inl (ow hw 18 rfl)) (ow hw 1 rfl) (ty := .int) (by decide) rfl rfl (g := (mkF m 83 #[rv a1, .val (.long q1), .second, .val (.long r), .second] [(.int (ln + (1 : Int32))), (.ref a1), (.int ln), (.ref rm)])) rfl rfl (hb hby d3_83)
    have Z6 : n0 ≤ h6.size := Nat.le_trans Zl3 (Keep.of_wr W6).1
    have Kp6 : Keep h0 h6 [a1, rm] := Kl3.wr W6 (Or.inl (List.mem_of_getElem? (i := 0) rfl))
    have F_length_a1_6 := F_length_a1_l3.same W6
    have N6 := Fr.snoc X6 Nl3 g_a1
    replace K : OGo p e below A0 T6 (mkF m 86 #[rv a1, .val (.long q1), .second, .val (.long r), .second] [(.int ln), (.ref rm)]) := fun t k => K t (st6 t k)
    replace K : OGo p e below A0 T6 (mkF m 87 #[rv a1, .val (.long q1), .second, .val (.long r), .second] [(.long r), (.int ln), (.ref rm)]) := fun t k => K t (XS.lloadN X6.here hx rfl (hb hby d3_86) rfl k)
    replace K : OGo p e below A0 T6 (mkF m 88 #[rv a1, .val (.long q1), .second, .val (.long r), .second] [(.int (r.toInt32)), (.int ln), (.ref rm)]) := fun t k => K t (XS.l2i X6.here hx rfl (hb hby d3_87) rfl k)
    replace K : OGo p e below A0 T6 (mkF m 89 #[rv a1, .val (.long q1), .second, .val (.long r), .second] [(.int ((r.toInt32).toInt8.toInt32)), (.int ln), (.ref rm)]) := fun t k => K t (XS.i2b X6.here hx rfl (hb hby d3_88) rfl k)
    have V_rm_l3_7 := (V_rm_l3.other W6 (Ne.symm ne_a1_rm))
    obtain ⟨T8, h8, X8, e8, W8, V8, st8⟩ := own_stB X6 hx hZ e6 V_rm_l3_7 (j := ln) (own_nnI hbd.1) hib (g := (mkF m 89 #[rv a1, .val (.long q1), .second, .val (.long r), .second] [(.int ((r.toInt32).toInt8.toInt32)), (.int ln), (.ref rm)])) rfl rfl (hb hby d3_89)
    have Z8 : n0 ≤ h8.size := Nat.le_trans Z6 (Keep.of_wr W8).1
    have Kp8 : Keep h0 h8 [a1, rm] := Kp6.wr W8 (Or.inl (List.mem_of_getElem? (i := 1) rfl))
    have V_rm_8 : OAr Z h8 rm kk .byte (rl.set ln.toNatClampNeg (.int (own_lo r))) := V8.cast (by rw [own_nb]; rfl)
    have N8 := Fr.snoc X8 N6 g_rm
    replace K : OGo p e below A0 T8 (mkF m 90 #[rv a1, .val (.long q1), .second, .val (.long r), .second] []) := fun t k => K t (st8 t k)
    have F_room_a1_l3_9 := ((F_room_a1_l3.other W6 (Or.inr (sn_cN0_room_length hw))).other W8 (Or.inl ne_a1_rm))
    have F_length_a1_10 := (F_length_a1_6.other W8 (Or.inl ne_a1_rm))
    obtain ⟨fs, hr, hrun, hended, hW, hsame⟩ := X8.leave (v := none) (fun _ => rfl)
    subst hA0
    refine ⟨_, _, K _ (X8.returnOut hx Bd.returns (hb hby d3_90) hr), hrun, hended, _, _, rfl, ?_, ⟨_, rfl⟩, hW, hsame.mono (by decide) (by decide)⟩
    show Q_put Z a1 q1 rm kk len lv h0 n0 _ T8.heap _
    rw [e8]
    exact ⟨rfl, N8, (rl.set ln.toNatClampNeg (.int (own_lo r))), (ln + (1 : Int32)), Kp8, F_room_a1_l3_9, F_length_a1_10, V_rm_8, (own_wfin hl hlen hfi hbd htk (own_fit0 hfit) hv_r0)⟩
  | succ nF3 ih3 =>
    obtain ⟨Xl3, el3, Nl3, Zl3, Kl3, E_a1_l3, F_room_a1_l3, F_length_a1_l3, V_rm_l3, hfit, hlen, hfi, hbd, htk, K⟩ := hI3
    obtain ⟨hib, hin⟩ := own_inb hlen hl hbd
    replace K : OGo p e below A0 Tl3 (mkF m 31 #[rv a1, .val (.long q1), .second, .val (.long r), .second] [(.long r)]) := fun t k => K t (XS.lloadN Xl3.here hx rfl (hb hby d3_30) rfl k)
    replace K : OGo p e below A0 Tl3 (mkF m 34 #[rv a1, .val (.long q1), .second, .val (.long r), .second] [(.long (-128)), (.long r)]) := fun t k => K t (Xl3.ldc2Long hx hown (mvT hZ (ow hw 19 rfl)) (g := (mkF m 31 #[rv a1, .val (.long q1), .second, .val (.long r), .second] [(.long r)])) rfl (hb hby d3_31) t k)
    replace K : OGo p e below A0 Tl3 (mkF m 35 #[rv a1, .val (.long q1), .second, .val (.long r), .second] [(.long (r &&& (-128 : Int64)))]) := fun t k => K t (XS.land Xl3.here hx rfl (hb hby d3_34) rfl k)
    replace K : OGo p e below A0 Tl3 (mkF m 36 #[rv a1, .val (.long q1), .second, .val (.long r), .second] [(.long 0), (.long (r &&& (-128 : Int64)))]) := fun t k => K t (XS.lconst Xl3.here hx rfl (hb hby d3_35) k)
    replace K : OGo p e below A0 Tl3 (mkF m 37 #[rv a1, .val (.long q1), .second, .val (.long r), .second] [(.int (lcmpW (r &&& (-128 : Int64)) (0 : Int64)))]) := fun t k => K t (XS.lcmp Xl3.here hx rfl (hb hby d3_36) rfl k)
    by_cases hc37 : (r &&& (-128 : Int64)) = (0 : Int64)
    · replace K : OGo p e below A0 Tl3 (mkF m 71 #[rv a1, .val (.long q1), .second, .val (.long r), .second] []) := fun t k => K t (XS.ifYes Xl3.here hx rfl (pc0 := 37) (pc' := 71) rfl (hb hby d3_37) rfl ((if0 _ _).trans (teq ((lw_eq (r &&& (-128 : Int64)) (0 : Int64)).mpr hc37)).1) (by decide) (by decide) k)
      replace K : OGo p e below A0 Tl3 (mkF m 72 #[rv a1, .val (.long q1), .second, .val (.long r), .second] [(.ref a1)]) := fun t k => K t (XS.aloadN Xl3.here hx rfl (hb hby d3_71) rfl rfl k)
      obtain ⟨T11, X11, e11, st11⟩ := getF Xl3 hx hZ hown (host := "") (Or.inl (ow hw 10 rfl)) Via.refl el3 F_room_a1_l3 (g := (mkF m 72 #[rv a1, .val (.long q1), .second, .val (.long r), .second] [(.ref a1)])) rfl rfl (hb hby d3_72)
      replace K : OGo p e below A0 T11 (mkF m 75 #[rv a1, .val (.long q1), .second, .val (.long r), .second] [(.ref rm)]) := fun t k => K t (st11 t k)
      replace K : OGo p e below A0 T11 (mkF m 76 #[rv a1, .val (.long q1), .second, .val (.long r), .second] [(.ref a1), (.ref rm)]) := fun t k => K t (XS.aloadN X11.here hx rfl (hb hby d3_75) rfl rfl k)
      replace K : OGo p e below A0 T11 (mkF m 77 #[rv a1, .val (.long q1), .second, .val (.long r), .second] [(.ref a1), (.ref a1), (.ref rm)]) := fun t k => K t (XS.dup X11.here hx rfl (hb hby d3_76) rfl rfl k)
      obtain ⟨T12, X12, e12, st12⟩ := getF X11 hx hZ hown (host := "") (Or.inl (ow hw 17 rfl)) Via.refl e11 F_length_a1_l3 (g := (mkF m 77 #[rv a1, .val (.long q1), .second, .val (.long r), .second] [(.ref a1), (.ref a1), (.ref rm)])) rfl rfl (hb hby d3_77)
      replace K : OGo p e below A0 T12 (mkF m 80 #[rv a1, .val (.long q1), .second, .val (.long r), .second] [(.int ln), (.ref a1), (.ref rm)]) := fun t k => K t (st12 t k)
      replace K : OGo p e below A0 T12 (mkF m 81 #[rv a1, .val (.long q1), .second, .val (.long r), .second] [(.int ln), (.ref a1), (.int ln), (.ref rm)]) := fun t k => K t (XS.dupX1 X12.here hx rfl (hb hby d3_80) rfl rfl rfl k)
      replace K : OGo p e below A0 T12 (mkF m 82 #[rv a1, .val (.long q1), .second, .val (.long r), .second] [(.int 1), (.int ln), (.ref a1), (.int ln), (.ref rm)]) := fun t k => K t (XS.iconst X12.here hx rfl (hb hby d3_81) k)
      replace K : OGo p e below A0 T12 (mkF m 83 #[rv a1, .val (.long q1), .second, .val (.long r), .second] [(.int (ln + (1 : Int32))), (.ref a1), (.int ln), (.ref rm)]) := fun t k => K t (XS.iadd X12.here hx rfl (hb hby d3_82) rfl k)
      obtain ⟨T13, h13, X13, e13, W13, st13⟩ := putF X12 hx hZ hown (host := "") (Or.inl (ow hw 17 rfl)) Via.refl e12 F_length_a1_l3 E_a1_l3 (Or.inl (ow hw 18 rfl)) (ow hw 1 rfl) (ty := .int) (by decide) rfl rfl (g := (mkF m 83 #[rv a1, .val (.long q1), .second, .val (.long r), .second] [(.int (ln + (1 : Int32))), (.ref a1), (.int ln), (.ref rm)])) rfl rfl (hb hby d3_83)
      have Z13 : n0 ≤ h13.size := Nat.le_trans Zl3 (Keep.of_wr W13).1
      have Kp13 : Keep h0 h13 [a1, rm] := Kl3.wr W13 (Or.inl (List.mem_of_getElem? (i := 0) rfl))
      have F_length_a1_13 := F_length_a1_l3.same W13
      have N13 := Fr.snoc X13 Nl3 g_a1
      replace K : OGo p e below A0 T13 (mkF m 86 #[rv a1, .val (.long q1), .second, .val (.long r), .second] [(.int ln), (.ref rm)]) := fun t k => K t (st13 t k)
      replace K : OGo p e below A0 T13 (mkF m 87 #[rv a1, .val (.long q1), .second, .val (.long r), .second] [(.long r), (.int ln), (.ref rm)]) := fun t k => K t (XS.lloadN X13.here hx rfl (hb hby d3_86) rfl k)
      replace K : OGo p e below A0 T13 (mkF m 88 #[rv a1, .val (.long q1), .second, .val (.long r), .second] [(.int (r.toInt32)), (.int ln), (.ref rm)]) := fun t k => K t (XS.l2i X13.here hx rfl (hb hby d3_87) rfl k)
      replace K : OGo p e below A0 T13 (mkF m 89 #[rv a1, .val (.long q1), .second, .val (.long r), .second] [(.int ((r.toInt32).toInt8.toInt32)), (.int ln), (.ref rm)]) := fun t k => K t (XS.i2b X13.here hx rfl (hb hby d3_88) rfl k)
      have V_rm_l3_14 := (V_rm_l3.other W13 (Ne.symm ne_a1_rm))
      obtain ⟨T15, h15, X15, e15, W15, V15, st15⟩ := own_stB X13 hx hZ e13 V_rm_l3_14 (j := ln) (own_nnI hbd.1) hib (g := (mkF m 89 #[rv a1, .val (.long q1), .second, .val (.long r), .second] [(.int ((r.toInt32).toInt8.toInt32)), (.int ln), (.ref rm)])) rfl rfl (hb hby d3_89)
      have Z15 : n0 ≤ h15.size := Nat.le_trans Z13 (Keep.of_wr W15).1
      have Kp15 : Keep h0 h15 [a1, rm] := Kp13.wr W15 (Or.inl (List.mem_of_getElem? (i := 1) rfl))
      have V_rm_15 : OAr Z h15 rm kk .byte (rl.set ln.toNatClampNeg (.int (own_lo r))) := V15.cast (by rw [own_nb]; rfl)
      have N15 := Fr.snoc X15 N13 g_rm
      replace K : OGo p e below A0 T15 (mkF m 90 #[rv a1, .val (.long q1), .second, .val (.long r), .second] []) := fun t k => K t (st15 t k)
      have F_room_a1_l3_16 := ((F_room_a1_l3.other W13 (Or.inr (sn_cN0_room_length hw))).other W15 (Or.inl ne_a1_rm))
      have F_length_a1_17 := (F_length_a1_13.other W15 (Or.inl ne_a1_rm))
      obtain ⟨fs, hr, hrun, hended, hW, hsame⟩ := X15.leave (v := none) (fun _ => rfl)
      subst hA0
      refine ⟨_, _, K _ (X15.returnOut hx Bd.returns (hb hby d3_90) hr), hrun, hended, _, _, rfl, ?_, ⟨_, rfl⟩, hW, hsame.mono (by decide) (by decide)⟩
      show Q_put Z a1 q1 rm kk len lv h0 n0 _ T15.heap _
      rw [e15]
      exact ⟨rfl, N15, (rl.set ln.toNatClampNeg (.int (own_lo r))), (ln + (1 : Int32)), Kp15, F_room_a1_l3_16, F_length_a1_17, V_rm_15, (own_wfin hl hlen hfi hbd htk hc37 hv_r0)⟩
    · replace K : OGo p e below A0 Tl3 (mkF m 40 #[rv a1, .val (.long q1), .second, .val (.long r), .second] []) := fun t k => K t (XS.ifNo Xl3.here hx rfl (hb hby d3_37) rfl ((if0 _ _).trans (feq (fun q => hc37 ((lw_eq (r &&& (-128 : Int64)) (0 : Int64)).mp q))).1) k)
      replace K : OGo p e below A0 Tl3 (mkF m 41 #[rv a1, .val (.long q1), .second, .val (.long r), .second] [(.ref a1)]) := fun t k => K t (XS.aloadN Xl3.here hx rfl (hb hby d3_40) rfl rfl k)
      obtain ⟨T18, X18, e18, st18⟩ := getF Xl3 hx hZ hown (host := "") (Or.inl (ow hw 10 rfl)) Via.refl el3 F_room_a1_l3 (g := (mkF m 41 #[rv a1, .val (.long q1), .second, .val (.long r), .second] [(.ref a1)])) rfl rfl (hb hby d3_41)
      replace K : OGo p e below A0 T18 (mkF m 44 #[rv a1, .val (.long q1), .second, .val (.long r), .second] [(.ref rm)]) := fun t k => K t (st18 t k)
      replace K : OGo p e below A0 T18 (mkF m 45 #[rv a1, .val (.long q1), .second, .val (.long r), .second] [(.ref a1), (.ref rm)]) := fun t k => K t (XS.aloadN X18.here hx rfl (hb hby d3_44) rfl rfl k)
      replace K : OGo p e below A0 T18 (mkF m 46 #[rv a1, .val (.long q1), .second, .val (.long r), .second] [(.ref a1), (.ref a1), (.ref rm)]) := fun t k => K t (XS.dup X18.here hx rfl (hb hby d3_45) rfl rfl k)
      obtain ⟨T19, X19, e19, st19⟩ := getF X18 hx hZ hown (host := "") (Or.inl (ow hw 17 rfl)) Via.refl e18 F_length_a1_l3 (g := (mkF m 46 #[rv a1, .val (.long q1), .second, .val (.long r), .second] [(.ref a1), (.ref a1), (.ref rm)])) rfl rfl (hb hby d3_46)
      replace K : OGo p e below A0 T19 (mkF m 49 #[rv a1, .val (.long q1), .second, .val (.long r), .second] [(.int ln), (.ref a1), (.ref rm)]) := fun t k => K t (st19 t k)
      replace K : OGo p e below A0 T19 (mkF m 50 #[rv a1, .val (.long q1), .second, .val (.long r), .second] [(.int ln), (.ref a1), (.int ln), (.ref rm)]) := fun t k => K t (XS.dupX1 X19.here hx rfl (hb hby d3_49) rfl rfl rfl k)
      replace K : OGo p e below A0 T19 (mkF m 51 #[rv a1, .val (.long q1), .second, .val (.long r), .second] [(.int 1), (.int ln), (.ref a1), (.int ln), (.ref rm)]) := fun t k => K t (XS.iconst X19.here hx rfl (hb hby d3_50) k)
      replace K : OGo p e below A0 T19 (mkF m 52 #[rv a1, .val (.long q1), .second, .val (.long r), .second] [(.int (ln + (1 : Int32))), (.ref a1), (.int ln), (.ref rm)]) := fun t k => K t (XS.iadd X19.here hx rfl (hb hby d3_51) rfl k)
      obtain ⟨T20, h20, X20, e20, W20, st20⟩ := putF X19 hx hZ hown (host := "") (Or.inl (ow hw 17 rfl)) Via.refl e19 F_length_a1_l3 E_a1_l3 (Or.inl (ow hw 18 rfl)) (ow hw 1 rfl) (ty := .int) (by decide) rfl rfl (g := (mkF m 52 #[rv a1, .val (.long q1), .second, .val (.long r), .second] [(.int (ln + (1 : Int32))), (.ref a1), (.int ln), (.ref rm)])) rfl rfl (hb hby d3_52)
      have Z20 : n0 ≤ h20.size := Nat.le_trans Zl3 (Keep.of_wr W20).1
      have Kp20 : Keep h0 h20 [a1, rm] := Kl3.wr W20 (Or.inl (List.mem_of_getElem? (i := 0) rfl))
      have F_length_a1_20 := F_length_a1_l3.same W20
      have N20 := Fr.snoc X20 Nl3 g_a1
      replace K : OGo p e below A0 T20 (mkF m 55 #[rv a1, .val (.long q1), .second, .val (.long r), .second] [(.int ln), (.ref rm)]) := fun t k => K t (st20 t k)
      replace K : OGo p e below A0 T20 (mkF m 56 #[rv a1, .val (.long q1), .second, .val (.long r), .second] [(.long r), (.int ln), (.ref rm)]) := fun t k => K t (XS.lloadN X20.here hx rfl (hb hby d3_55) rfl k)
      replace K : OGo p e below A0 T20 (mkF m 59 #[rv a1, .val (.long q1), .second, .val (.long r), .second] [(.long 128), (.long r), (.int ln), (.ref rm)]) := fun t k => K t (X20.ldc2Long hx hown (mvT hZ (ow hw 61 rfl)) (g := (mkF m 56 #[rv a1, .val (.long q1), .second, .val (.long r), .second] [(.long r), (.int ln), (.ref rm)])) rfl (hb hby d3_56) t k)
      replace K : OGo p e below A0 T20 (mkF m 60 #[rv a1, .val (.long q1), .second, .val (.long r), .second] [(.long (r ||| (128 : Int64))), (.int ln), (.ref rm)]) := fun t k => K t (XS.lor X20.here hx rfl (hb hby d3_59) rfl k)
      replace K : OGo p e below A0 T20 (mkF m 61 #[rv a1, .val (.long q1), .second, .val (.long r), .second] [(.int ((r ||| (128 : Int64)).toInt32)), (.int ln), (.ref rm)]) := fun t k => K t (XS.l2i X20.here hx rfl (hb hby d3_60) rfl k)
      replace K : OGo p e below A0 T20 (mkF m 62 #[rv a1, .val (.long q1), .second, .val (.long r), .second] [(.int (((r ||| (128 : Int64)).toInt32).toInt8.toInt32)), (.int ln), (.ref rm)]) := fun t k => K t (XS.i2b X20.here hx rfl (hb hby d3_61) rfl k)
      have V_rm_l3_21 := (V_rm_l3.other W20 (Ne.symm ne_a1_rm))
      obtain ⟨T22, h22, X22, e22, W22, V22, st22⟩ := own_stB X20 hx hZ e20 V_rm_l3_21 (j := ln) (own_nnI hbd.1) hib (g := (mkF m 62 #[rv a1, .val (.long q1), .second, .val (.long r), .second] [(.int (((r ||| (128 : Int64)).toInt32).toInt8.toInt32)), (.int ln), (.ref rm)])) rfl rfl (hb hby d3_62)
      have Z22 : n0 ≤ h22.size := Nat.le_trans Z20 (Keep.of_wr W22).1
      have Kp22 : Keep h0 h22 [a1, rm] := Kp20.wr W22 (Or.inl (List.mem_of_getElem? (i := 1) rfl))
      have V_rm_22 : OAr Z h22 rm kk .byte (rl.set ln.toNatClampNeg (.int (own_hi r))) := V22.cast (by rw [own_nb]; rfl)
      have N22 := Fr.snoc X22 N20 g_rm
      replace K : OGo p e below A0 T22 (mkF m 63 #[rv a1, .val (.long q1), .second, .val (.long r), .second] []) := fun t k => K t (st22 t k)
      replace K : OGo p e below A0 T22 (mkF m 64 #[rv a1, .val (.long q1), .second, .val (.long r), .second] [(.long r)]) := fun t k => K t (XS.lloadN X22.here hx rfl (hb hby d3_63) rfl k)
      replace K : OGo p e below A0 T22 (mkF m 66 #[rv a1, .val (.long q1), .second, .val (.long r), .second] [(.int 7), (.long r)]) := fun t k => K t (XS.bipush X22.here hx rfl (hb hby d3_64) k)
      replace K : OGo p e below A0 T22 (mkF m 67 #[rv a1, .val (.long q1), .second, .val (.long r), .second] [(.long ((r.toUInt64 >>> ((7 : Int32) &&& 0x3f).toInt64.toUInt64).toInt64))]) := fun t k => K t (XS.lushr X22.here hx rfl (hb hby d3_66) rfl k)
      replace K : OGo p e below A0 T22 (mkF m 68 #[rv a1, .val (.long q1), .second, .val (.long ((r.toUInt64 >>> ((7 : Int32) &&& 0x3f).toInt64.toUInt64).toInt64)), .second] []) := fun t k => K t (XS.lstoreN X22.here hx rfl (hb hby d3_67) rfl (l' := #[rv a1, .val (.long q1), .second, .val (.long ((r.toUInt64 >>> ((7 : Int32) &&& 0x3f).toInt64.toUInt64).toInt64)), .second]) rfl k)
      replace K : OGo p e below A0 T22 (mkF m 30 #[rv a1, .val (.long q1), .second, .val (.long ((r.toUInt64 >>> ((7 : Int32) &&& 0x3f).toInt64.toUInt64).toInt64)), .second] []) := fun t k => K t (XS.goto X22.here hx rfl (pc0 := 68) (pc' := 30) rfl (hb hby d3_68) (by decide) (by decide) k)
      have E_a1_l3_23 := ((E_a1_l3.wr W20).wr W22)
      have F_room_a1_l3_24 := ((F_room_a1_l3.other W20 (Or.inr (sn_cN0_room_length hw))).other W22 (Or.inl ne_a1_rm))
      have F_length_a1_25 := (F_length_a1_20.other W22 (Or.inl ne_a1_rm))
      exact ih3 (own_sr r) (ln + (1 : Int32)) (rl.set ln.toNatClampNeg (.int (own_hi r))) _ _ _ ⟨X22, e22, N22, Z22, Kp22, E_a1_l3_23, F_room_a1_l3_24, F_length_a1_25, V_rm_22, (own_fitS hfit), (by simpa using hlen), (own_fset hfi), (own_wstep hl hlen hbd htk hc37).1, (own_wstep hl hlen hbd htk hc37).2, K⟩
theorem ef_4 (m : MethodId) (x0 : Addr) (x1 : Int32) : entryFrame m #[(.ref x0), (.int x1)] 2 = mkF m 0 #[.val (.ref x0), .val (.int x1)] [] := by first | (simp [entryFrame, mkF, argsToLocals, Value.category]; done) | rfl
theorem d4_0 : decode prog_106_method_2_code 0 = .ok (.aload_n 0, 1) := by decide +kernel
theorem d4_1 : decode prog_106_method_2_code 1 = .ok (.iload_n 1, 1) := by decide +kernel
theorem d4_2 : decode prog_106_method_2_code 2 = .ok (.i2l, 1) := by decide +kernel
theorem d4_3 : decode prog_106_method_2_code 3 = .ok (.invokevirtual 15, 3) := by decide +kernel
theorem pd__J_V : parseMethodDescriptor "(J)V" = some ⟨[.long], none⟩ := by decide +kernel
theorem d4_6 : decode prog_106_method_2_code 6 = .ok (.return_, 1) := by decide +kernel
def Q_puti (Z : State) (a1 : Addr) (p1 : Int32) (rm : Addr) (kk : ClassId) (len : Int32) (lv : List Value) (h0 : Heap) (n0 : Nat) (v : Option Value) (h : Heap) (L : List Loc) : Prop := v = none ∧ Fr n0 L ∧ ∃ (lv2 : List Value) (len2 : Int32), Keep h0 h [a1, rm] ∧ Fld Z h a1 cN0 "room" "[B" (.ref rm) ∧ Fld Z h a1 cN0 "length" "I" (.int len2) ∧ OAr Z h rm kk .byte lv2 ∧ own_wr lv len lv2 len2 (own_zig p1.toInt64)
set_option maxRecDepth 65536 in
set_option maxHeartbeats 40000000 in
theorem rm_puti (l : Launch) (Z : State) (a0 : Array Value) (hw : ∀ d ∈ tables_1, d.before a0 Z = true) (ws : List Jvm.Cond) (a1 : Addr) (p1 : Int32) (rm : Addr) (kk : ClassId) (len : Int32) (lv : List Value) (h0 : Heap) (n0 : Nat) (Z0 : n0 ≤ h0.size) (E_a1 : Exa Z h0 a1 cN0) (F_room_a1 : Fld Z h0 a1 cN0 "room" "[B" (.ref rm)) (F_length_a1 : Fld Z h0 a1 cN0 "length" "I" (.int len)) (V_rm : OAr Z h0 rm kk .byte lv) (g_a1 : n0 ≤ a1) (g_rm : n0 ≤ rm) (ne_a1_rm : a1 ≠ rm) (hr : lv.length = 256) (hf : ∀ v ∈ lv, fits .byte v = true) (hl : 0 ≤ len.toInt ∧ len.toInt ≤ 100) :
    MetFree l mN2 (head1 (Jvm.Cond.code mN2 prog_106_method_2_code 2 none :: ws) ({ frames := 1, cells := 0, slots := 0, locals := 16 } : Room)) (fun a U => a = #[(.ref a1), (.int p1)] ∧ Z.Warmed39 U.vm ∧ U.heap = h0) (fun _ _ _ _ _ => True) (fun _ U o U' => ∃ v L, o = .returned v ∧ Q_puti Z a1 p1 rm kk len lv h0 n0 v U'.heap L ∧ FrameEnd U o U' L ({ frames := 1, cells := 0, slots := 0, locals := 16 } : Room).cells ({ frames := 1, cells := 0, slots := 0, locals := 16 } : Room).slots) := by
  refine MetFree.of_bodySF (plainFor_of_name pn_com_example_flote_flote_search_Key_Writer) hisR ?_
  intro p e s m args below meth c s₁ Bd hml0 hP hK
  obtain ⟨rfl, hZ, hh⟩ := hP
  have hx := Bd.exec
  have hby := Bd.bytes
  have hml : c.maxLocals = 2 := hml0
  have hown : s.vm.findClass "com/example/flote/flote/search/Key$Writer" = some m.cls := findClass_of_methodNamed Bd.named
  have hnm := (name_of_methodNamed Bd.named Bd.method).1
  have X0 : Stand p l e ({ frames := 1, cells := 0, slots := 0, locals := 16 } : Room) s m #[(.ref a1), (.int p1)] below meth c s₁ [] 0 0 := Stand.of_body Bd
  have e0 : s₁.heap = h0 := by rw [← hh, Bd.state]; rfl
  have N0 := Fr.nil n0
  obtain ⟨A0, hA0⟩ : ∃ z, z = s₁.setTop (entryFrame m #[(.ref a1), (.int p1)] 2) := ⟨_, rfl⟩
  have K : OGo p e below A0 s₁ (mkF m 0 #[rv a1, iv p1] []) := fun t k => hA0 ▸ castTop (ef_4 m a1 p1) k
  replace K : OGo p e below A0 s₁ (mkF m 1 #[rv a1, iv p1] [(.ref a1)]) := fun t k => K t (XS.aloadN X0.here hx rfl (hb hby d4_0) rfl rfl k)
  replace K : OGo p e below A0 s₁ (mkF m 2 #[rv a1, iv p1] [(.int p1), (.ref a1)]) := fun t k => K t (XS.iloadN X0.here hx rfl (hb hby d4_1) rfl k)
  replace K : OGo p e below A0 s₁ (mkF m 3 #[rv a1, iv p1] [(.long (p1.toInt64)), (.ref a1)]) := fun t k => K t (XS.i2l X0.here hx rfl (hb hby d4_2) rfl k)
  obtain ⟨cq1, kq1, qv1a, qv1b, qv1c⟩ := isOf hZ e0 E_a1
  obtain ⟨_, _, ⟨T1, L1, k1, n1⟩, -, X1, ⟨Lc1, hQ1, l1, y1, z1⟩, st1⟩ := X0.virtualBack hx (y := mN1) (z := mN1) hown (mvT hZ (ow hw 25 rfl)) (mvT hZ (ow hw 13 rfl)) (notFace_of_selects (args := #[]) (mvT hZ (ow hw 15 rfl))) (mvT hZ (ow hw 15 rfl)) (mvT hZ (ow hw 14 rfl)) (by decide) (backOf (W := 0) (rm_put l Z a0 hw [] a1 (p1.toInt64) rm kk len lv h0 n0 Z0 E_a1 F_room_a1 F_length_a1 V_rm g_a1 g_rm ne_a1_rm hr hf hl) hZ (ow hw 16 rfl) (ow hw 2 rfl) (by decide) (by decide)) qv1a qv1c (g := (mkF m 3 #[rv a1, iv p1] [(.long (p1.toInt64)), (.ref a1)])) rfl (by rw [hml]; rfl) (Steps.refl _) (argsL := [(.long (p1.toInt64))]) (rest := []) (lenOf pd__J_V rfl) rfl (by show 2 * 0 + _ ≤ _; exact Nat.le_of_eq rfl) (hb hby d4_3) (fun _ _ => ⟨rfl, e0, (by decide : 0 + 0 ≤ _), (by decide : 0 + 0 ≤ _)⟩)
  dsimp only [Pt.U, Pt.locs, Pt.cells, Pt.slots] at X1 l1 y1 z1 st1 hQ1
  subst l1 y1 z1
  obtain ⟨hp1, e1⟩ : ∃ z, T1.heap = z := ⟨_, rfl⟩
  rw [e1] at hQ1
  obtain ⟨rfl, Nq1, lv2_1, len2_1, K1, P1_0, P1_1, P1_2, P1_3⟩ := hQ1
  have Z1 : n0 ≤ hp1.size := Nat.le_trans Z0 K1.1
  have Kp1 : Keep h0 hp1 [a1, rm] := (Keep.refl h0 [a1, rm]).trans K1 (allS (Or.inl (List.mem_of_getElem? (i := 0) rfl)) (allS (Or.inl (List.mem_of_getElem? (i := 1) rfl)) all0))
  have N1 := Fr.app N0 Nq1
  replace K : OGo p e below A0 T1 (mkF m 6 #[rv a1, iv p1] []) := fun t k => K t (st1.trans k)
  obtain ⟨fs, hr, hrun, hended, hW, hsame⟩ := X1.leave (v := none) (fun _ => rfl)
  subst hA0
  refine ⟨_, _, K _ (X1.returnOut hx Bd.returns (hb hby d4_6) hr), hrun, hended, _, _, rfl, ?_, ⟨_, rfl⟩, hW, hsame.mono (by decide) (by decide)⟩
  show Q_puti Z a1 p1 rm kk len lv h0 n0 _ T1.heap _
  rw [e1]
  exact ⟨rfl, N1, lv2_1, len2_1, Kp1, P1_0, P1_1, P1_2, P1_3⟩
theorem ef_7 (m : MethodId) (x0 : Int32) (x1 : Int32) : entryFrame m #[(.int x0), (.int x1)] 2 = mkF m 0 #[.val (.int x0), .val (.int x1)] [] := by first | (simp [entryFrame, mkF, argsToLocals, Value.category]; done) | rfl
theorem d7_0 : decode jdk_29_method_69_code 0 = .ok (.iload_n 0, 1) := by decide +kernel
theorem d7_1 : decode jdk_29_method_69_code 1 = .ok (.iload_n 1, 1) := by decide +kernel
theorem d7_2 : decode jdk_29_method_69_code 2 = .ok (.if_icmp .gt 7, 3) := by decide +kernel
theorem d7_9 : decode jdk_29_method_69_code 9 = .ok (.iload_n 1, 1) := by decide +kernel
theorem d7_10 : decode jdk_29_method_69_code 10 = .ok (.ireturn, 1) := by decide +kernel
theorem d7_5 : decode jdk_29_method_69_code 5 = .ok (.iload_n 0, 1) := by decide +kernel
theorem d7_6 : decode jdk_29_method_69_code 6 = .ok (.goto 4, 3) := by decide +kernel
def Q_min (Z : State) (p1 : Int32) (p2 : Int32) (h0 : Heap) (n0 : Nat) (v : Option Value) (h : Heap) (L : List Loc) : Prop := v = some (.int (own_min p1 p2)) ∧ Fr n0 L ∧ h = h0
set_option maxRecDepth 65536 in
set_option maxHeartbeats 40000000 in
theorem rm_min (l : Launch) (Z : State) (a0 : Array Value) (hw : ∀ d ∈ tables_1, d.before a0 Z = true) (ws : List Jvm.Cond) (p1 : Int32) (p2 : Int32) (h0 : Heap) (n0 : Nat) (Z0 : n0 ≤ h0.size) :
    MetFree l mN3 (head1 (Jvm.Cond.code mN3 jdk_29_method_69_code 2 (some .int) :: ws) ({ frames := 0, cells := 0, slots := 0, locals := 0 } : Room)) (fun a U => a = #[(.int p1), (.int p2)] ∧ Z.Warmed39 U.vm ∧ U.heap = h0) (fun _ _ _ _ _ => True) (fun _ U o U' => ∃ v L, o = .returned v ∧ Q_min Z p1 p2 h0 n0 v U'.heap L ∧ FrameEnd U o U' L ({ frames := 0, cells := 0, slots := 0, locals := 0 } : Room).cells ({ frames := 0, cells := 0, slots := 0, locals := 0 } : Room).slots) := by
  refine MetFree.of_bodySF (Jvm.Free.JP.mathPlain rfl (by decide +kernel)) hisR ?_
  intro p e s m args below meth c s₁ Bd hml0 hP hK
  obtain ⟨rfl, hZ, hh⟩ := hP
  have hx := Bd.exec
  have hby := Bd.bytes
  have hml : c.maxLocals = 2 := hml0
  have hown : s.vm.findClass "java/lang/Math" = some m.cls := findClass_of_methodNamed Bd.named
  have hnm := (name_of_methodNamed Bd.named Bd.method).1
  have X0 : Stand p l e ({ frames := 0, cells := 0, slots := 0, locals := 0 } : Room) s m #[(.int p1), (.int p2)] below meth c s₁ [] 0 0 := Stand.of_body Bd
  have e0 : s₁.heap = h0 := by rw [← hh, Bd.state]; rfl
  have N0 := Fr.nil n0
  obtain ⟨A0, hA0⟩ : ∃ z, z = s₁.setTop (entryFrame m #[(.int p1), (.int p2)] 2) := ⟨_, rfl⟩
  have K : OGo p e below A0 s₁ (mkF m 0 #[iv p1, iv p2] []) := fun t k => hA0 ▸ castTop (ef_7 m p1 p2) k
  replace K : OGo p e below A0 s₁ (mkF m 1 #[iv p1, iv p2] [(.int p1)]) := fun t k => K t (XS.iloadN X0.here hx rfl (hb hby d7_0) rfl k)
  replace K : OGo p e below A0 s₁ (mkF m 2 #[iv p1, iv p2] [(.int p2), (.int p1)]) := fun t k => K t (XS.iloadN X0.here hx rfl (hb hby d7_1) rfl k)
  by_cases hc2 : p2 < p1
  · replace K : OGo p e below A0 s₁ (mkF m 9 #[iv p1, iv p2] []) := fun t k => K t (XS.icmpYes X0.here hx rfl (pc0 := 2) (pc' := 9) rfl (hb hby d7_2) rfl (tlt hc2).2.2.1 (by decide) (by decide) k)
    replace K : OGo p e below A0 s₁ (mkF m 10 #[iv p1, iv p2] [(.int p2)]) := fun t k => K t (XS.iloadN X0.here hx rfl (hb hby d7_9) rfl k)
    obtain ⟨fs, hr, hrun, hended, hW, hsame⟩ := X0.leave (v := some (.int p2)) (fun h => by rw [Bd.returns] at h; cases h)
    subst hA0
    refine ⟨_, _, K _ (retOut X0 hx Bd.returns rfl (Or.inl ⟨rfl, Or.inl rfl, _, rfl⟩) (hb hby d7_10) hr), hrun, hended, _, _, rfl, ?_, ⟨_, rfl⟩, hW, hsame.mono (by decide) (by decide)⟩
    show Q_min Z p1 p2 h0 n0 _ s₁.heap _
    rw [e0]
    exact ⟨(by simp [own_min, hc2]), N0, rfl⟩
  · replace K : OGo p e below A0 s₁ (mkF m 5 #[iv p1, iv p2] []) := fun t k => K t (XS.icmpNo X0.here hx rfl (hb hby d7_2) rfl (flt hc2).2.2.1 k)
    replace K : OGo p e below A0 s₁ (mkF m 6 #[iv p1, iv p2] [(.int p1)]) := fun t k => K t (XS.iloadN X0.here hx rfl (hb hby d7_5) rfl k)
    replace K : OGo p e below A0 s₁ (mkF m 10 #[iv p1, iv p2] [(.int p1)]) := fun t k => K t (XS.goto X0.here hx rfl (pc0 := 6) (pc' := 10) rfl (hb hby d7_6) (by decide) (by decide) k)
    obtain ⟨fs, hr, hrun, hended, hW, hsame⟩ := X0.leave (v := some (.int p1)) (fun h => by rw [Bd.returns] at h; cases h)
    subst hA0
    refine ⟨_, _, K _ (retOut X0 hx Bd.returns rfl (Or.inl ⟨rfl, Or.inl rfl, _, rfl⟩) (hb hby d7_10) hr), hrun, hended, _, _, rfl, ?_, ⟨_, rfl⟩, hW, hsame.mono (by decide) (by decide)⟩
    show Q_min Z p1 p2 h0 n0 _ s₁.heap _
    rw [e0]
    exact ⟨(by simp [own_min, hc2]), N0, rfl⟩
theorem own_frep (n : Nat) : ∀ v ∈ List.replicate n (Value.int (0 : Int32)), fits .byte v = true := fun v hv => by rw [List.eq_of_mem_replicate hv]; rfl
theorem own_c1 {p : Int32} (h : 0 ≤ p.toInt ∧ p.toInt ≤ 100) : (0 : Int32).toNatClampNeg + p.toNatClampNeg ≤ (256 : Int32).toNatClampNeg := by
  have a := own_nat h.1
  have b : (256 : Int32).toNatClampNeg = 256 := by decide
  have c : (0 : Int32).toNatClampNeg = 0 := by decide
  omega
theorem own_c2 (p : Int32) : (0 : Int32).toNatClampNeg + p.toNatClampNeg ≤ p.toNatClampNeg := by
  have c : (0 : Int32).toNatClampNeg = 0 := by decide
  omega
theorem own_c3 (p : Int32) : (0 : Int32).toNatClampNeg + p.toNatClampNeg ≤ (List.replicate p.toNatClampNeg (Value.int (0 : Int32))).length := by
  have c : (0 : Int32).toNatClampNeg = 0 := by decide
  rw [List.length_replicate]; omega
theorem own_cpv {Z : State} {h : Heap} {b : Addr} {k : ClassId} {p : Int32} {lv : List Value} {d d' : Value} (hr : lv.length = 256) (hl : 0 ≤ p.toInt ∧ p.toInt ≤ 100)
    (B : Arv Z h b k .byte p ((List.replicate p.toNatClampNeg (Value.int (0 : Int32))).take (0 : Int32).toNatClampNeg ++ (List.range p.toNatClampNeg).map (fun i => lv.getD ((0 : Int32).toNatClampNeg + i) d') ++ (List.replicate p.toNatClampNeg (Value.int (0 : Int32))).drop ((0 : Int32).toNatClampNeg + p.toNatClampNeg)) d) : OAr Z h b k .byte (lv.take p.toNatClampNeg) := by
  have a := own_nat hl.1
  have c : (0 : Int32).toNatClampNeg = 0 := by decide
  have e : (List.replicate p.toNatClampNeg (Value.int (0 : Int32))).take (0 : Int32).toNatClampNeg ++ (List.range p.toNatClampNeg).map (fun i => lv.getD ((0 : Int32).toNatClampNeg + i) d') ++ (List.replicate p.toNatClampNeg (Value.int (0 : Int32))).drop ((0 : Int32).toNatClampNeg + p.toNatClampNeg) = lv.take p.toNatClampNeg := by
    rw [c]
    apply List.ext_getElem
    · simp; omega
    · intro i h1 h2
      have h3 : i < lv.length := by simp at h2; omega
      simp [List.getD_eq_getElem?_getD, h3]
  rw [e] at B
  exact own_unarv B (by simp; omega)
theorem pn_java_util_Arrays : plainName "java/util/Arrays" = true := by first | (simp [plainName, overriddenIn]; done) | decide +kernel
theorem ef_6 (m : MethodId) (x0 : Addr) (x1 : Int32) : entryFrame m #[(.ref x0), (.int x1)] 3 = mkF m 0 #[.val (.ref x0), .val (.int x1), .unset] [] := by first | (simp [entryFrame, mkF, argsToLocals, Value.category]; done) | rfl
theorem d6_0 : decode jdk_65_method_121_code 0 = .ok (.iload_n 1, 1) := by decide +kernel
theorem d6_1 : decode jdk_65_method_121_code 1 = .ok (.aload_n 0, 1) := by decide +kernel
theorem d6_2 : decode jdk_65_method_121_code 2 = .ok (.arraylength, 1) := by decide +kernel
theorem d6_3 : decode jdk_65_method_121_code 3 = .ok (.if_icmp .ne 11, 3) := by decide +kernel
theorem d6_14 : decode jdk_65_method_121_code 14 = .ok (.iload_n 1, 1) := by decide +kernel
theorem d6_15 : decode jdk_65_method_121_code 15 = .ok (.newarray .byte, 2) := by decide +kernel
theorem d6_17 : decode jdk_65_method_121_code 17 = .ok (.astore_n 2, 1) := by decide +kernel
theorem d6_18 : decode jdk_65_method_121_code 18 = .ok (.aload_n 0, 1) := by decide +kernel
theorem d6_19 : decode jdk_65_method_121_code 19 = .ok (.iconst 0, 1) := by decide +kernel
theorem d6_20 : decode jdk_65_method_121_code 20 = .ok (.aload_n 2, 1) := by decide +kernel
theorem d6_21 : decode jdk_65_method_121_code 21 = .ok (.iconst 0, 1) := by decide +kernel
theorem d6_22 : decode jdk_65_method_121_code 22 = .ok (.aload_n 0, 1) := by decide +kernel
theorem d6_23 : decode jdk_65_method_121_code 23 = .ok (.arraylength, 1) := by decide +kernel
theorem d6_24 : decode jdk_65_method_121_code 24 = .ok (.iload_n 1, 1) := by decide +kernel
theorem d6_25 : decode jdk_65_method_121_code 25 = .ok (.invokestatic 304, 3) := by decide +kernel
theorem pd__II_I : parseMethodDescriptor "(II)I" = some ⟨[.int, .int], some .int⟩ := by decide +kernel
theorem d6_28 : decode jdk_65_method_121_code 28 = .ok (.invokestatic 150, 3) := by decide +kernel
theorem d6_31 : decode jdk_65_method_121_code 31 = .ok (.aload_n 2, 1) := by decide +kernel
theorem d6_32 : decode jdk_65_method_121_code 32 = .ok (.areturn, 1) := by decide +kernel
def Q_cpy (Z : State) (a1 : Addr) (p1 : Int32) (kk : ClassId) (lv : List Value) (h0 : Heap) (n0 : Nat) (v : Option Value) (h : Heap) (L : List Loc) : Prop := ∃ (kb : Addr) (kc : ClassId), v = some (.ref kb) ∧ Fr n0 L ∧ Keep h0 h [] ∧ h0.size ≤ kb ∧ OAr Z h kb kc .byte (lv.take p1.toNatClampNeg)
set_option maxRecDepth 65536 in
set_option maxHeartbeats 40000000 in
theorem rm_cpy (l : Launch) (Z : State) (a0 : Array Value) (hw : ∀ d ∈ tables_1, d.before a0 Z = true) (ws : List Jvm.Cond) (a1 : Addr) (p1 : Int32) (kk : ClassId) (lv : List Value) (h0 : Heap) (n0 : Nat) (Z0 : n0 ≤ h0.size) (V_a1 : OAr Z h0 a1 kk .byte lv) (hr : lv.length = 256) (hf : ∀ v ∈ lv, fits .byte v = true) (hl : 0 ≤ p1.toInt ∧ p1.toInt ≤ 100) :
    MetFree l mN4 (head1 (Jvm.Cond.code mN4 jdk_65_method_121_code 3 (some (.array .byte)) :: ws) ({ frames := 1, cells := 1, slots := 256, locals := 20 } : Room)) (fun a U => a = #[(.ref a1), (.int p1)] ∧ Z.Warmed39 U.vm ∧ U.heap = h0) (fun _ _ _ _ _ => True) (fun _ U o U' => ∃ v L, o = .returned v ∧ Q_cpy Z a1 p1 kk lv h0 n0 v U'.heap L ∧ FrameEnd U o U' L ({ frames := 1, cells := 1, slots := 256, locals := 20 } : Room).cells ({ frames := 1, cells := 1, slots := 256, locals := 20 } : Room).slots) := by
  refine MetFree.of_bodySF (plainFor_of_name pn_java_util_Arrays) hisR ?_
  intro p e s m args below meth c s₁ Bd hml0 hP hK
  obtain ⟨rfl, hZ, hh⟩ := hP
  have hx := Bd.exec
  have hby := Bd.bytes
  have hml : c.maxLocals = 3 := hml0
  have hown : s.vm.findClass "java/util/Arrays" = some m.cls := findClass_of_methodNamed Bd.named
  have hnm := (name_of_methodNamed Bd.named Bd.method).1
  have X0 : Stand p l e ({ frames := 1, cells := 1, slots := 256, locals := 20 } : Room) s m #[(.ref a1), (.int p1)] below meth c s₁ [] 0 0 := Stand.of_body Bd
  have e0 : s₁.heap = h0 := by rw [← hh, Bd.state]; rfl
  have N0 := Fr.nil n0
  obtain ⟨A0, hA0⟩ : ∃ z, z = s₁.setTop (entryFrame m #[(.ref a1), (.int p1)] 3) := ⟨_, rfl⟩
  have K : OGo p e below A0 s₁ (mkF m 0 #[rv a1, iv p1, .unset] []) := fun t k => hA0 ▸ castTop (ef_6 m a1 p1) k
  replace K : OGo p e below A0 s₁ (mkF m 1 #[rv a1, iv p1, .unset] [(.int p1)]) := fun t k => K t (XS.iloadN X0.here hx rfl (hb hby d6_0) rfl k)
  replace K : OGo p e below A0 s₁ (mkF m 2 #[rv a1, iv p1, .unset] [(.ref a1), (.int p1)]) := fun t k => K t (XS.aloadN X0.here hx rfl (hb hby d6_1) rfl rfl k)
  replace K : OGo p e below A0 s₁ (mkF m 3 #[rv a1, iv p1, .unset] [(.int 256), (.int p1)]) := fun t k => K t (own_len X0 hx hZ e0 V_a1 (n := (256 : Int32)) (own_l256 hr) (g := (mkF m 2 #[rv a1, iv p1, .unset] [(.ref a1), (.int p1)])) rfl rfl (hb hby d6_2) t k)
  replace K : OGo p e below A0 s₁ (mkF m 14 #[rv a1, iv p1, .unset] []) := fun t k => K t (XS.icmpYes X0.here hx rfl (pc0 := 3) (pc' := 14) rfl (hb hby d6_3) rfl (feq ((own_ne256 hl))).2 (by decide) (by decide) k)
  replace K : OGo p e below A0 s₁ (mkF m 15 #[rv a1, iv p1, .unset] [(.int p1)]) := fun t k => K t (XS.iloadN X0.here hx rfl (hb hby d6_14) rfl k)
  obtain ⟨T1, h1, k1, X1, e1, E1, A1, Q1, st1⟩ := newPE X0 hx hZ (ow hw 9 rfl) e0 (g := (mkF m 15 #[rv a1, iv p1, .unset] [(.int p1)])) rfl (hb hby d6_15) rfl (own_nnI hl.1) (cap := 256) (by have := own_nat hl.1; omega) (by decide) (by decide) (by decide) (ad := "[B") (by decide)
  obtain ⟨b1, gz1⟩ : ∃ z, z = h0.size := ⟨_, rfl⟩
  rw [← gz1] at A1 Q1 st1
  have ne_a1_b1 : a1 ≠ b1 := Nat.ne_of_lt (Nat.lt_of_lt_of_le V_a1.lt (Nat.le_of_eq gz1.symm))
  have g_b1 : n0 ≤ b1 := Nat.le_trans Z0 (Nat.le_of_eq gz1.symm)
  have sz_b1 : h0.size ≤ b1 := Nat.le_trans (Keep.refl h0 []).1 (Nat.le_of_eq gz1.symm)
  have Z1 : n0 ≤ h1.size := Nat.le_trans Z0 E1.1
  have Kp1 : Keep h0 h1 [] := (Keep.refl h0 []).ext E1
  have V_b1 : OAr Z h1 b1 k1 .byte (List.replicate p1.toNatClampNeg (.int (0 : Int32))) := OAr.new A1
  replace K : OGo p e below A0 T1 (mkF m 17 #[rv a1, iv p1, .unset] [(.ref b1)]) := fun t k => K t (st1 t k)
  replace K : OGo p e below A0 T1 (mkF m 18 #[rv a1, iv p1, rv b1] []) := fun t k => K t (XS.astoreN X1.here hx rfl (hb hby d6_17) rfl rfl (l' := #[rv a1, iv p1, rv b1]) rfl k)
  replace K : OGo p e below A0 T1 (mkF m 19 #[rv a1, iv p1, rv b1] [(.ref a1)]) := fun t k => K t (XS.aloadN X1.here hx rfl (hb hby d6_18) rfl rfl k)
  replace K : OGo p e below A0 T1 (mkF m 20 #[rv a1, iv p1, rv b1] [(.int 0), (.ref a1)]) := fun t k => K t (XS.iconst X1.here hx rfl (hb hby d6_19) k)
  replace K : OGo p e below A0 T1 (mkF m 21 #[rv a1, iv p1, rv b1] [(.ref b1), (.int 0), (.ref a1)]) := fun t k => K t (XS.aloadN X1.here hx rfl (hb hby d6_20) rfl rfl k)
  replace K : OGo p e below A0 T1 (mkF m 22 #[rv a1, iv p1, rv b1] [(.int 0), (.ref b1), (.int 0), (.ref a1)]) := fun t k => K t (XS.iconst X1.here hx rfl (hb hby d6_21) k)
  replace K : OGo p e below A0 T1 (mkF m 23 #[rv a1, iv p1, rv b1] [(.ref a1), (.int 0), (.ref b1), (.int 0), (.ref a1)]) := fun t k => K t (XS.aloadN X1.here hx rfl (hb hby d6_22) rfl rfl k)
  have V_a1_2 := (V_a1.ext E1)
  replace K : OGo p e below A0 T1 (mkF m 24 #[rv a1, iv p1, rv b1] [(.int 256), (.int 0), (.ref b1), (.int 0), (.ref a1)]) := fun t k => K t (own_len X1 hx hZ e1 V_a1_2 (n := (256 : Int32)) (own_l256 hr) (g := (mkF m 23 #[rv a1, iv p1, rv b1] [(.ref a1), (.int 0), (.ref b1), (.int 0), (.ref a1)])) rfl rfl (hb hby d6_23) t k)
  replace K : OGo p e below A0 T1 (mkF m 25 #[rv a1, iv p1, rv b1] [(.int p1), (.int 256), (.int 0), (.ref b1), (.int 0), (.ref a1)]) := fun t k => K t (XS.iloadN X1.here hx rfl (hb hby d6_24) rfl k)
  obtain ⟨_, _, ⟨T3, L3, k3, n3⟩, -, X3, ⟨Lc3, hQ3, l3, y3, z3⟩, st3⟩ := Jvm.LawKit.callS X1 hx (y := mN3) hown (mvT hZ (ow hw 35 rfl)) (mvT hZ (ow hw 36 rfl)) (mvT hZ (ow hw 37 rfl)) (mvT hZ (ow hw 38 rfl)) (by decide) (backOf (W := 4) (rm_min l Z a0 hw [] (256 : Int32) p1 h1 n0 Z1 ) hZ (ow hw 38 rfl) (ow hw 37 rfl) (by decide) (by decide)) (g := (mkF m 25 #[rv a1, iv p1, rv b1] [(.int p1), (.int 256), (.int 0), (.ref b1), (.int 0), (.ref a1)])) rfl (by rw [hml]; rfl) (argsL := [(.int (256 : Int32)), (.int p1)]) (rest := [(.int (0 : Int32)), (.ref b1), (.int (0 : Int32)), (.ref a1)]) (lenOf pd__II_I rfl) rfl (by show 2 * 0 + _ ≤ _; exact Nat.le_of_eq rfl) (hb hby d6_25) (fun _ _ => ⟨rfl, e1, (by decide : 1 + 0 ≤ _), (by decide : 256 + 0 ≤ _)⟩)
  dsimp only [Pt.U, Pt.locs, Pt.cells, Pt.slots] at X3 l3 y3 z3 st3 hQ3
  subst l3 y3 z3
  obtain ⟨rfl, Nq3, e3⟩ := hQ3
  have N3 := Fr.app N0 Nq3
  replace K : OGo p e below A0 T3 (mkF m 28 #[rv a1, iv p1, rv b1] [(.int (own_min (256 : Int32) p1)), (.int 0), (.ref b1), (.int 0), (.ref a1)]) := fun t k => K t (st3 t k)
  rw [own_minp hl] at K
  obtain ⟨T4, h4, L4, X4, e4, N4, K4, B4, st4⟩ := cpA X3 hx hZ hown (ow hw 39 rfl) (ow hw 42 rfl) (ow hw 40 rfl) (ow hw 41 rfl) e3 (own_arv (z := (256 : Int32)) (d := (.int 0)) V_a1_2 hf (by decide) hr) (own_arv (z := p1) (d := (.int 0)) V_b1 (own_frep _) (own_nnI hl.1) (by simp)) (Or.inl ⟨rfl, rfl⟩) (sp := 0) (dp := 0) (nn := p1) (by decide) (by decide) (own_nnI hl.1) (own_c1 hl) (own_c2 p1) rfl (own_c3 p1) N3 g_b1 (g := (mkF m 28 #[rv a1, iv p1, rv b1] [(.int p1), (.int 0), (.ref b1), (.int 0), (.ref a1)])) rfl (by rw [hml]; rfl) rfl (hb hby d6_28) (by decide) (W := 0) (by show 2 * 0 + _ ≤ _; exact Nat.le_of_eq rfl) (by decide)
  have Z4 : n0 ≤ h4.size := Nat.le_trans Z1 K4.1
  have Kp4 : Keep h0 h4 [] := Kp1.trans K4 (allS (Or.inr sz_b1) all0)
  have V_b1_4 : OAr Z h4 b1 k1 .byte (lv.take p1.toNatClampNeg) := own_cpv hr hl B4
  replace K : OGo p e below A0 T4 (mkF m 31 #[rv a1, iv p1, rv b1] []) := fun t k => K t (st4 t k)
  replace K : OGo p e below A0 T4 (mkF m 32 #[rv a1, iv p1, rv b1] [(.ref b1)]) := fun t k => K t (XS.aloadN X4.here hx rfl (hb hby d6_31) rfl rfl k)
  obtain ⟨fs, hr, hrun, hended, hW, hsame⟩ := X4.leave (v := some (.ref b1)) (fun h => by rw [Bd.returns] at h; cases h)
  subst hA0
  refine ⟨_, _, K _ (retOut X4 hx Bd.returns rfl (Or.inr (Or.inr (Or.inr (Or.inr ⟨rfl, rfl, rfl⟩)))) (hb hby d6_32) hr), hrun, hended, _, _, rfl, ?_, ⟨_, rfl⟩, hW, hsame.mono (by decide) (by decide)⟩
  show Q_cpy Z a1 p1 kk lv h0 n0 _ T4.heap _
  rw [e4]
  exact ⟨b1, k1, rfl, N4, Kp4, sz_b1, V_b1_4⟩
theorem ef_5 (m : MethodId) (x0 : Addr) : entryFrame m #[(.ref x0)] 2 = mkF m 0 #[.val (.ref x0), .unset] [] := by first | (simp [entryFrame, mkF, argsToLocals, Value.category]; done) | rfl
theorem d5_0 : decode prog_106_method_5_code 0 = .ok (.aload_n 0, 1) := by decide +kernel
theorem d5_1 : decode prog_106_method_5_code 1 = .ok (.getfield 9, 3) := by decide +kernel
theorem d5_4 : decode prog_106_method_5_code 4 = .ok (.aload_n 0, 1) := by decide +kernel
theorem d5_5 : decode prog_106_method_5_code 5 = .ok (.getfield 19, 3) := by decide +kernel
theorem d5_8 : decode prog_106_method_5_code 8 = .ok (.invokestatic 34, 3) := by decide +kernel
theorem pd___BI__B : parseMethodDescriptor "([BI)[B" = some ⟨[(.array .byte), .int], some (.array .byte)⟩ := by decide +kernel
theorem d5_11 : decode prog_106_method_5_code 11 = .ok (.astore_n 1, 1) := by decide +kernel
theorem d5_12 : decode prog_106_method_5_code 12 = .ok (.aload_n 0, 1) := by decide +kernel
theorem d5_13 : decode prog_106_method_5_code 13 = .ok (.iconst 0, 1) := by decide +kernel
theorem d5_14 : decode prog_106_method_5_code 14 = .ok (.putfield 19, 3) := by decide +kernel
theorem d5_17 : decode prog_106_method_5_code 17 = .ok (.aload_n 0, 1) := by decide +kernel
theorem d5_18 : decode prog_106_method_5_code 18 = .ok (.getfield 9, 3) := by decide +kernel
theorem d5_21 : decode prog_106_method_5_code 21 = .ok (.arraylength, 1) := by decide +kernel
theorem d5_22 : decode prog_106_method_5_code 22 = .ok (.ldc 40, 2) := by decide +kernel
theorem d5_24 : decode prog_106_method_5_code 24 = .ok (.if_icmp .le 12, 3) := by decide +kernel
theorem d5_36 : decode prog_106_method_5_code 36 = .ok (.aload_n 1, 1) := by decide +kernel
theorem d5_37 : decode prog_106_method_5_code 37 = .ok (.areturn, 1) := by decide +kernel
def Q_key (Z : State) (a1 : Addr) (rm : Addr) (kk : ClassId) (len : Int32) (lv : List Value) (h0 : Heap) (n0 : Nat) (v : Option Value) (h : Heap) (L : List Loc) : Prop := ∃ (kb : Addr) (kc : ClassId), v = some (.ref kb) ∧ Fr n0 L ∧ Keep h0 h [a1] ∧ h0.size ≤ kb ∧ OAr Z h kb kc .byte (lv.take len.toNatClampNeg)
set_option maxRecDepth 65536 in
set_option maxHeartbeats 40000000 in
theorem rm_key (l : Launch) (Z : State) (a0 : Array Value) (hw : ∀ d ∈ tables_1, d.before a0 Z = true) (ws : List Jvm.Cond) (a1 : Addr) (rm : Addr) (kk : ClassId) (len : Int32) (lv : List Value) (h0 : Heap) (n0 : Nat) (Z0 : n0 ≤ h0.size) (E_a1 : Exa Z h0 a1 cN0) (F_room_a1 : Fld Z h0 a1 cN0 "room" "[B" (.ref rm)) (F_length_a1 : Fld Z h0 a1 cN0 "length" "I" (.int len)) (V_rm : OAr Z h0 rm kk .byte lv) (g_a1 : n0 ≤ a1) (g_rm : n0 ≤ rm) (ne_a1_rm : a1 ≠ rm) (hr : lv.length = 256) (hf : ∀ v ∈ lv, fits .byte v = true) (hl : 0 ≤ len.toInt ∧ len.toInt ≤ 100) :
    MetFree l mN5 (head1 (Jvm.Cond.code mN5 prog_106_method_5_code 2 (some (.array .byte)) :: ws) ({ frames := 2, cells := 1, slots := 256, locals := 36 } : Room)) (fun a U => a = #[(.ref a1)] ∧ Z.Warmed39 U.vm ∧ U.heap = h0) (fun _ _ _ _ _ => True) (fun _ U o U' => ∃ v L, o = .returned v ∧ Q_key Z a1 rm kk len lv h0 n0 v U'.heap L ∧ FrameEnd U o U' L ({ frames := 2, cells := 1, slots := 256, locals := 36 } : Room).cells ({ frames := 2, cells := 1, slots := 256, locals := 36 } : Room).slots) := by
  refine MetFree.of_bodySF (plainFor_of_name pn_com_example_flote_flote_search_Key_Writer) hisR ?_
  intro p e s m args below meth c s₁ Bd hml0 hP hK
  obtain ⟨rfl, hZ, hh⟩ := hP
  have hx := Bd.exec
  have hby := Bd.bytes
  have hml : c.maxLocals = 2 := hml0
  have hown : s.vm.findClass "com/example/flote/flote/search/Key$Writer" = some m.cls := findClass_of_methodNamed Bd.named
  have hnm := (name_of_methodNamed Bd.named Bd.method).1
  have X0 : Stand p l e ({ frames := 2, cells := 1, slots := 256, locals := 36 } : Room) s m #[(.ref a1)] below meth c s₁ [] 0 0 := Stand.of_body Bd
  have e0 : s₁.heap = h0 := by rw [← hh, Bd.state]; rfl
  have N0 := Fr.nil n0
  obtain ⟨A0, hA0⟩ : ∃ z, z = s₁.setTop (entryFrame m #[(.ref a1)] 2) := ⟨_, rfl⟩
  have K : OGo p e below A0 s₁ (mkF m 0 #[rv a1, .unset] []) := fun t k => hA0 ▸ castTop (ef_5 m a1) k
  replace K : OGo p e below A0 s₁ (mkF m 1 #[rv a1, .unset] [(.ref a1)]) := fun t k => K t (XS.aloadN X0.here hx rfl (hb hby d5_0) rfl rfl k)
  obtain ⟨T1, X1, e1, st1⟩ := getF X0 hx hZ hown (host := "") (Or.inl (ow hw 10 rfl)) Via.refl e0 F_room_a1 (g := (mkF m 1 #[rv a1, .unset] [(.ref a1)])) rfl rfl (hb hby d5_1)
  replace K : OGo p e below A0 T1 (mkF m 4 #[rv a1, .unset] [(.ref rm)]) := fun t k => K t (st1 t k)
  replace K : OGo p e below A0 T1 (mkF m 5 #[rv a1, .unset] [(.ref a1), (.ref rm)]) := fun t k => K t (XS.aloadN X1.here hx rfl (hb hby d5_4) rfl rfl k)
  obtain ⟨T2, X2, e2, st2⟩ := getF X1 hx hZ hown (host := "") (Or.inl (ow hw 17 rfl)) Via.refl e1 F_length_a1 (g := (mkF m 5 #[rv a1, .unset] [(.ref a1), (.ref rm)])) rfl rfl (hb hby d5_5)
  replace K : OGo p e below A0 T2 (mkF m 8 #[rv a1, .unset] [(.int len), (.ref rm)]) := fun t k => K t (st2 t k)
  obtain ⟨_, _, ⟨T3, L3, k3, n3⟩, -, X3, ⟨Lc3, hQ3, l3, y3, z3⟩, st3⟩ := Jvm.LawKit.callS X2 hx (y := mN4) hown (mvT hZ (ow hw 31 rfl)) (mvT hZ (ow hw 32 rfl)) (mvT hZ (ow hw 33 rfl)) (mvT hZ (ow hw 34 rfl)) (by decide) (backOf (W := 0) (rm_cpy l Z a0 hw [] rm len kk lv h0 n0 Z0 V_rm hr hf hl) hZ (ow hw 34 rfl) (ow hw 33 rfl) (by decide) (by decide)) (g := (mkF m 8 #[rv a1, .unset] [(.int len), (.ref rm)])) rfl (by rw [hml]; rfl) (argsL := [(.ref rm), (.int len)]) (rest := []) (lenOf pd___BI__B rfl) rfl (by show 2 * 0 + _ ≤ _; exact Nat.le_of_eq rfl) (hb hby d5_8) (fun _ _ => ⟨rfl, e2, (by decide : 0 + 1 ≤ _), (by decide : 0 + 256 ≤ _)⟩)
  dsimp only [Pt.U, Pt.locs, Pt.cells, Pt.slots] at X3 l3 y3 z3 st3 hQ3
  subst l3 y3 z3
  obtain ⟨hp3, e3⟩ : ∃ z, T3.heap = z := ⟨_, rfl⟩
  rw [e3] at hQ3
  obtain ⟨kb_3, kc_3, rfl, Nq3, K3, P3_0, P3_1⟩ := hQ3
  have ne_a1_kb_3 : a1 ≠ kb_3 := Nat.ne_of_lt (Nat.lt_of_lt_of_le E_a1.lt P3_0)
  have ne_rm_kb_3 : rm ≠ kb_3 := Nat.ne_of_lt (Nat.lt_of_lt_of_le V_rm.lt P3_0)
  have g_kb_3 : n0 ≤ kb_3 := Nat.le_trans Z0 P3_0
  have sz_kb_3 : h0.size ≤ kb_3 := Nat.le_trans (Keep.refl h0 [a1]).1 P3_0
  have Z3 : n0 ≤ hp3.size := Nat.le_trans Z0 K3.1
  have Kp3 : Keep h0 hp3 [a1] := (Keep.refl h0 [a1]).trans K3 all0
  have N3 := Fr.app N0 Nq3
  replace K : OGo p e below A0 T3 (mkF m 11 #[rv a1, .unset] [(.ref kb_3)]) := fun t k => K t (st3 t k)
  replace K : OGo p e below A0 T3 (mkF m 12 #[rv a1, rv kb_3] []) := fun t k => K t (XS.astoreN X3.here hx rfl (hb hby d5_11) rfl rfl (l' := #[rv a1, rv kb_3]) rfl k)
  replace K : OGo p e below A0 T3 (mkF m 13 #[rv a1, rv kb_3] [(.ref a1)]) := fun t k => K t (XS.aloadN X3.here hx rfl (hb hby d5_12) rfl rfl k)
  replace K : OGo p e below A0 T3 (mkF m 14 #[rv a1, rv kb_3] [(.int 0), (.ref a1)]) := fun t k => K t (XS.iconst X3.here hx rfl (hb hby d5_13) k)
  have F_length_a1_4 := (F_length_a1.keep K3 nin0)
  have E_a1_5 := (E_a1.keep K3)
  obtain ⟨T6, h6, X6, e6, W6, st6⟩ := putF X3 hx hZ hown (host := "") (Or.inl (ow hw 17 rfl)) Via.refl e3 F_length_a1_4 E_a1_5 (Or.inl (ow hw 18 rfl)) (ow hw 1 rfl) (ty := .int) (by decide) rfl rfl (g := (mkF m 14 #[rv a1, rv kb_3] [(.int 0), (.ref a1)])) rfl rfl (hb hby d5_14)
  have Z6 : n0 ≤ h6.size := Nat.le_trans Z3 (Keep.of_wr W6).1
  have Kp6 : Keep h0 h6 [a1] := Kp3.wr W6 (Or.inl (List.mem_of_getElem? (i := 0) rfl))
  have F_length_a1_6 := F_length_a1_4.same W6
  have N6 := Fr.snoc X6 N3 g_a1
  replace K : OGo p e below A0 T6 (mkF m 17 #[rv a1, rv kb_3] []) := fun t k => K t (st6 t k)
  replace K : OGo p e below A0 T6 (mkF m 18 #[rv a1, rv kb_3] [(.ref a1)]) := fun t k => K t (XS.aloadN X6.here hx rfl (hb hby d5_17) rfl rfl k)
  have F_room_a1_7 := ((F_room_a1.keep K3 nin0).other W6 (Or.inr (sn_cN0_room_length hw)))
  obtain ⟨T8, X8, e8, st8⟩ := getF X6 hx hZ hown (host := "") (Or.inl (ow hw 10 rfl)) Via.refl e6 F_room_a1_7 (g := (mkF m 18 #[rv a1, rv kb_3] [(.ref a1)])) rfl rfl (hb hby d5_18)
  replace K : OGo p e below A0 T8 (mkF m 21 #[rv a1, rv kb_3] [(.ref rm)]) := fun t k => K t (st8 t k)
  have V_rm_9 := ((V_rm.keep K3 nin0).other W6 (Ne.symm ne_a1_rm))
  replace K : OGo p e below A0 T8 (mkF m 22 #[rv a1, rv kb_3] [(.int 256)]) := fun t k => K t (own_len X8 hx hZ e8 V_rm_9 (n := (256 : Int32)) (own_l256 hr) (g := (mkF m 21 #[rv a1, rv kb_3] [(.ref rm)])) rfl rfl (hb hby d5_21) t k)
  replace K : OGo p e below A0 T8 (mkF m 24 #[rv a1, rv kb_3] [(.int 262144), (.int 256)]) := fun t k => K t (X8.ldcInt hx hown (mvT hZ (ow hw 43 rfl)) (g := (mkF m 22 #[rv a1, rv kb_3] [(.int 256)])) rfl (hb hby d5_22) t k)
  replace K : OGo p e below A0 T8 (mkF m 36 #[rv a1, rv kb_3] []) := fun t k => K t (XS.icmpYes X8.here hx rfl (pc0 := 24) (pc' := 36) rfl (hb hby d5_24) rfl (flt ((by decide : ¬ ((262144 : Int32) < (256 : Int32))))).2.2.2 (by decide) (by decide) k)
  replace K : OGo p e below A0 T8 (mkF m 37 #[rv a1, rv kb_3] [(.ref kb_3)]) := fun t k => K t (XS.aloadN X8.here hx rfl (hb hby d5_36) rfl rfl k)
  have V_kb_3_10 := (P3_1.other W6 (Ne.symm ne_a1_kb_3))
  obtain ⟨fs, hr, hrun, hended, hW, hsame⟩ := X8.leave (v := some (.ref kb_3)) (fun h => by rw [Bd.returns] at h; cases h)
  subst hA0
  refine ⟨_, _, K _ (retOut X8 hx Bd.returns rfl (Or.inr (Or.inr (Or.inr (Or.inr ⟨rfl, rfl, rfl⟩)))) (hb hby d5_37) hr), hrun, hended, _, _, rfl, ?_, ⟨_, rfl⟩, hW, hsame.mono (by decide) (by decide)⟩
  show Q_key Z a1 rm kk len lv h0 n0 _ T8.heap _
  rw [e8]
  exact ⟨kb_3, kc_3, rfl, N6, Kp6, sz_kb_3, V_kb_3_10⟩
theorem pn_com_example_flote_flote_search_Key_Reader : plainName "com/example/flote/flote/search/Key$Reader" = true := by first | (simp [plainName, overriddenIn]; done) | decide +kernel
theorem ef_8 (m : MethodId) (x0 : Addr) (x1 : Addr) : entryFrame m #[(.ref x0), (.ref x1)] 2 = mkF m 0 #[.val (.ref x0), .val (.ref x1)] [] := by first | (simp [entryFrame, mkF, argsToLocals, Value.category]; done) | rfl
theorem d8_0 : decode prog_105_method_1_code 0 = .ok (.aload_n 0, 1) := by decide +kernel
theorem d8_1 : decode prog_105_method_1_code 1 = .ok (.invokespecial 1, 3) := by decide +kernel
theorem d8_4 : decode prog_105_method_1_code 4 = .ok (.aload_n 0, 1) := by decide +kernel
theorem d8_5 : decode prog_105_method_1_code 5 = .ok (.aload_n 1, 1) := by decide +kernel
theorem d8_6 : decode prog_105_method_1_code 6 = .ok (.putfield 7, 3) := by decide +kernel
theorem d8_9 : decode prog_105_method_1_code 9 = .ok (.return_, 1) := by decide +kernel
theorem sn_cN1_at_key {a0 : Array Value} {Z : State} (hw : ∀ d ∈ tables_1, d.before a0 Z = true) : Jvm.RoadKit.slotOf Z cN1 "at" "I" ≠ Jvm.RoadKit.slotOf Z cN1 "key" "[B" := slot_ne (Or.inl (ow hw 59 rfl)) (Or.inr (ow hw 52 rfl)) (by decide) (t := .int) (t' := (.array .byte)) (by decide) (by decide)
def Q_rinit (Z : State) (a1 : Addr) (a2 : Addr) (h0 : Heap) (n0 : Nat) (v : Option Value) (h : Heap) (L : List Loc) : Prop := v = none ∧ Fr n0 L ∧ Keep h0 h [a1] ∧ Fld Z h a1 cN1 "key" "[B" (.ref a2) ∧ Fld Z h a1 cN1 "at" "I" (.int (0 : Int32))
set_option maxRecDepth 65536 in
set_option maxHeartbeats 40000000 in
theorem rm_rinit (l : Launch) (Z : State) (a0 : Array Value) (hw : ∀ d ∈ tables_1, d.before a0 Z = true) (ws : List Jvm.Cond) (a1 : Addr) (a2 : Addr) (h0 : Heap) (n0 : Nat) (Z0 : n0 ≤ h0.size) (E_a1 : Exa Z h0 a1 cN1) (F_key_a1 : Fld Z h0 a1 cN1 "key" "[B" .null) (F_at_a1 : Fld Z h0 a1 cN1 "at" "I" (.int (0 : Int32))) (g_a1 : n0 ≤ a1) :
    MetFree l mN6 (head1 (Jvm.Cond.code mN6 prog_105_method_1_code 2 none :: ws) ({ frames := 1, cells := 0, slots := 0, locals := 12 } : Room)) (fun a U => a = #[(.ref a1), (.ref a2)] ∧ Z.Warmed39 U.vm ∧ U.heap = h0) (fun _ _ _ _ _ => True) (fun _ U o U' => ∃ v L, o = .returned v ∧ Q_rinit Z a1 a2 h0 n0 v U'.heap L ∧ FrameEnd U o U' L ({ frames := 1, cells := 0, slots := 0, locals := 12 } : Room).cells ({ frames := 1, cells := 0, slots := 0, locals := 12 } : Room).slots) := by
  refine MetFree.of_bodySF (plainFor_of_name pn_com_example_flote_flote_search_Key_Reader) hisR ?_
  intro p e s m args below meth c s₁ Bd hml0 hP hK
  obtain ⟨rfl, hZ, hh⟩ := hP
  have hx := Bd.exec
  have hby := Bd.bytes
  have hml : c.maxLocals = 2 := hml0
  have hown : s.vm.findClass "com/example/flote/flote/search/Key$Reader" = some m.cls := findClass_of_methodNamed Bd.named
  have hnm := (name_of_methodNamed Bd.named Bd.method).1
  have X0 : Stand p l e ({ frames := 1, cells := 0, slots := 0, locals := 12 } : Room) s m #[(.ref a1), (.ref a2)] below meth c s₁ [] 0 0 := Stand.of_body Bd
  have e0 : s₁.heap = h0 := by rw [← hh, Bd.state]; rfl
  have N0 := Fr.nil n0
  obtain ⟨A0, hA0⟩ : ∃ z, z = s₁.setTop (entryFrame m #[(.ref a1), (.ref a2)] 2) := ⟨_, rfl⟩
  have K : OGo p e below A0 s₁ (mkF m 0 #[rv a1, rv a2] []) := fun t k => hA0 ▸ castTop (ef_8 m a1 a2) k
  replace K : OGo p e below A0 s₁ (mkF m 1 #[rv a1, rv a2] [(.ref a1)]) := fun t k => K t (XS.aloadN X0.here hx rfl (hb hby d8_0) rfl rfl k)
  obtain ⟨T1, X1, e1, st1⟩ := initO X0 hx hZ hown (ow hw 50 rfl) (ow hw 7 rfl) (ow hw 8 rfl) e0 (g := (mkF m 1 #[rv a1, rv a2] [(.ref a1)])) rfl (by rw [hml]; rfl) rfl (hb hby d8_1) (by decide) (W := 0) (by show 2 * 0 + _ ≤ _; exact Nat.le_of_eq rfl) (by decide)
  replace K : OGo p e below A0 T1 (mkF m 4 #[rv a1, rv a2] []) := fun t k => K t (st1 t k)
  replace K : OGo p e below A0 T1 (mkF m 5 #[rv a1, rv a2] [(.ref a1)]) := fun t k => K t (XS.aloadN X1.here hx rfl (hb hby d8_4) rfl rfl k)
  replace K : OGo p e below A0 T1 (mkF m 6 #[rv a1, rv a2] [(.ref a2), (.ref a1)]) := fun t k => K t (XS.aloadN X1.here hx rfl (hb hby d8_5) rfl rfl k)
  obtain ⟨T2, h2, X2, e2, W2, st2⟩ := putF X1 hx hZ hown (host := "") (Or.inl (ow hw 51 rfl)) Via.refl e1 F_key_a1 E_a1 (Or.inr ⟨(ow hw 52 rfl), rfl, hnm⟩) (ow hw 45 rfl) (ty := (.array .byte)) (by decide) rfl rfl (g := (mkF m 6 #[rv a1, rv a2] [(.ref a2), (.ref a1)])) rfl rfl (hb hby d8_6)
  have Z2 : n0 ≤ h2.size := Nat.le_trans Z0 (Keep.of_wr W2).1
  have Kp2 : Keep h0 h2 [a1] := (Keep.refl h0 [a1]).wr W2 (Or.inl (List.mem_of_getElem? (i := 0) rfl))
  have F_key_a1_2 := F_key_a1.same W2
  have N2 := Fr.snoc X2 N0 g_a1
  replace K : OGo p e below A0 T2 (mkF m 9 #[rv a1, rv a2] []) := fun t k => K t (st2 t k)
  have F_at_a1_3 := (F_at_a1.other W2 (Or.inr (sn_cN1_at_key hw)))
  obtain ⟨fs, hr, hrun, hended, hW, hsame⟩ := X2.leave (v := none) (fun _ => rfl)
  subst hA0
  refine ⟨_, _, K _ (X2.returnOut hx Bd.returns (hb hby d8_9) hr), hrun, hended, _, _, rfl, ?_, ⟨_, rfl⟩, hW, hsame.mono (by decide) (by decide)⟩
  show Q_rinit Z a1 a2 h0 n0 _ T2.heap _
  rw [e2]
  exact ⟨rfl, N2, Kp2, F_key_a1_2, F_at_a1_3⟩
theorem own_hdAt {n : Nat} {r : Int64} {pre suf kv : List Value} {at0 : Int32} (hk : kv = pre ++ (own_bs n r ++ suf)) (ha : at0.toInt = pre.length) : kv[at0.toNatClampNeg]? = some (.int (own_hd n r)) := by
  have e := own_nat (len := at0) (by omega)
  have e2 : at0.toNatClampNeg = pre.length := by omega
  rw [hk, e2, List.getElem?_append_right (Nat.le_refl _), Nat.sub_self]
  cases n with
  | zero => rfl
  | succ n => by_cases q : r &&& (-128 : Int64) = 0 <;> simp [own_bs, own_enc, own_hd, q]
theorem own_hd1 {n : Nat} {r : Int64} (h : r &&& (-128 : Int64) = 0) : own_hd n r = own_lo r := by cases n <;> simp [own_hd, h]
theorem own_hdS {n : Nat} {r : Int64} (h : ¬ r &&& (-128 : Int64) = 0) : own_hd (n + 1) r = own_hi r := by simp [own_hd, h]
def own_rd (n : Nat) (r acc r0 : Int64) (s : Nat) (kv pre suf : List Value) (at1 at9 : Int32) : Prop :=
  own_fit n r ∧ s + 7 * n = 63 ∧ acc ||| (r <<< (s.toInt32 &&& 0x3f).toInt64) = r0 ∧ kv = pre ++ (own_bs n r ++ suf) ∧ at1.toInt = pre.length + 1 ∧ at9.toInt = pre.length + (own_enc n r).length ∧ pre.length + (own_enc n r).length ≤ 200
theorem own_rd_end {n : Nat} {r acc r0 : Int64} {s : Nat} {kv pre suf : List Value} {at1 at9 : Int32} (h : own_rd n r acc r0 s kv pre suf at1 at9) (q : r &&& (-128 : Int64) = 0) : acc ||| (((own_hd n r).toInt64 &&& (127 : Int64)) <<< (s.toInt32 &&& 0x3f).toInt64) = r0 ∧ at1 = at9 ∧ ¬ own_hd n r < 0 := by
  obtain ⟨h1, h2, h3, h4, h5, h6, h7⟩ := h
  rw [own_hd1 q]
  refine ⟨own_last h3 q, Int32.toInt_inj.mp ?_, own_lonn q⟩
  rw [own_enc1 q] at h6
  rw [h5, h6]; simp
theorem own_rd_step {n : Nat} {r acc r0 : Int64} {s : Nat} {kv pre suf : List Value} {at1 at9 : Int32} (h : own_rd (n + 1) r acc r0 s kv pre suf at1 at9) (q : ¬ r &&& (-128 : Int64) = 0) :
    own_hd (n + 1) r < 0 ∧ kv[at1.toNatClampNeg]? = some (.int (own_hd n (own_sr r))) ∧ ¬ at1 < 0 ∧ own_rd n (own_sr r) (acc ||| (((own_hd (n + 1) r).toInt64 &&& (127 : Int64)) <<< (s.toInt32 &&& 0x3f).toInt64)) r0 (s + 7) kv (pre ++ [.int (own_hi r)]) suf (at1 + (1 : Int32)) at9 := by
  obtain ⟨h1, h2, h3, h4, h5, h6, h7⟩ := h
  have a := own_encL n (own_sr r)
  rw [own_encS q] at h6 h7
  have k2 : kv = (pre ++ [.int (own_hi r)]) ++ (own_bs n (own_sr r) ++ suf) := by rw [h4, own_bs, own_encS q]; simp
  have p1 : (pre ++ [Value.int (own_hi r)]).length = pre.length + 1 := by simp
  have l1 : (own_hi r :: own_enc n (own_sr r)).length = (own_enc n (own_sr r)).length + 1 := by simp
  have e1 : (at1 + (1 : Int32)).toInt = at1.toInt + 1 := own_p1 (k := 0) (by omega) (by omega)
  rw [own_hdS q]
  refine ⟨own_hineg r, own_hdAt k2 (by omega), own_nnI (by omega), own_fitS h1, by omega, own_more (by omega) h3, k2, by omega, by omega, by omega⟩
theorem own_s7 (s : Nat) : s.toInt32 + (7 : Int32) = (s + 7).toInt32 := (Int32.ofNat_add s 7).symm
theorem own_rd0 {r0 : Int64} {kv pre suf : List Value} {at0 at9 : Int32} (hk : kv = pre ++ (own_bs 9 r0 ++ suf)) (ha : at0.toInt = pre.length) (hq9 : at9.toInt = pre.length + (own_enc 9 r0).length ∧ pre.length ≤ 100) : own_rd 9 r0 (0 : Int64) r0 0 kv pre suf (at0 + (1 : Int32)) at9 := by
  have a := own_encL 9 r0
  have e1 : (at0 + (1 : Int32)).toInt = at0.toInt + 1 := own_p1 (k := 0) (by omega) (by omega)
  refine ⟨own_fit9 r0, rfl, ?_, hk, by omega, hq9.1, by omega⟩
  apply Int64.toBitVec_inj.mp
  show (0 : Int64).toBitVec ||| (r0 <<< ((0 : Nat).toInt32 &&& 0x3f).toInt64).toBitVec = r0.toBitVec
  rw [own_shl _ _ 0 (by decide)]
  simp
theorem own_wlen {lv lv2 : List Value} {len len2 : Int32} {r : Int64} (h : own_wr lv len lv2 len2 r) {k : Int} (hl : 0 ≤ len.toInt ∧ len.toInt ≤ k) : 0 ≤ len2.toInt ∧ len2.toInt ≤ k + 10 := by
  have a := own_encL 9 r
  have b := h.2.2.2
  omega
theorem own_l1 (a b c : List Value) : a ++ b ++ c = [] ++ (a ++ (b ++ (c ++ []))) := by simp
theorem own_l2 (a b c : List Value) : a ++ b ++ c = a ++ (b ++ (c ++ [])) := by simp
theorem own_l3 (a b c : List Value) : a ++ b ++ c = (a ++ b) ++ (c ++ []) := by simp
theorem own_all {lv lv1 lv2 lv3 : List Value} {l1 l2 l3 : Int32} {x y z : Int64} (h1 : own_wr lv (0 : Int32) lv1 l1 x) (h2 : own_wr lv1 l1 lv2 l2 y) (h3 : own_wr lv2 l2 lv3 l3 z) :
    lv3.take l3.toNatClampNeg = [] ++ (own_bs 9 x ++ (own_bs 9 y ++ (own_bs 9 z ++ []))) ∧ lv3.take l3.toNatClampNeg = own_bs 9 x ++ (own_bs 9 y ++ (own_bs 9 z ++ [])) ∧ lv3.take l3.toNatClampNeg = (own_bs 9 x ++ own_bs 9 y) ++ (own_bs 9 z ++ []) ∧
    l1.toInt = (([] : List Value).length : Int) + (own_enc 9 x).length ∧ l1.toInt = ((own_bs 9 x).length : Int) ∧ l2.toInt = ((own_bs 9 x).length : Int) + (own_enc 9 y).length ∧ l2.toInt = ((own_bs 9 x ++ own_bs 9 y).length : Int) ∧ l3.toInt = ((own_bs 9 x ++ own_bs 9 y).length : Int) + (own_enc 9 z).length ∧ (own_bs 9 x).length ≤ 100 ∧ (own_bs 9 x ++ own_bs 9 y).length ≤ 100 := by
  have a := own_encL 9 x
  have b := own_encL 9 y
  have c : (0 : Int32).toInt = 0 := by decide
  have d : (0 : Int32).toNatClampNeg = 0 := by decide
  obtain ⟨-, -, a1, f1⟩ := h1
  obtain ⟨-, -, a2, f2⟩ := h2
  obtain ⟨-, -, a3, f3⟩ := h3
  have lx : (own_enc 9 x).length = (own_bs 9 x).length := (List.length_map ..).symm
  have ly : (own_enc 9 y).length = (own_bs 9 y).length := (List.length_map ..).symm
  have lz : (own_enc 9 z).length = (own_bs 9 z).length := (List.length_map ..).symm
  rw [lx] at f1 a
  rw [ly] at f2 b
  rw [lz] at f3
  rw [lx, ly, lz]
  clear lx ly lz
  generalize own_bs 9 x = bx at *
  generalize own_bs 9 y = by_ at *
  generalize own_bs 9 z = bz at *
  have e1 : lv1.take l1.toNatClampNeg = bx := by rw [a1, d, List.take_zero, List.nil_append]
  have e2 : lv2.take l2.toNatClampNeg = bx ++ by_ := by rw [a2, e1]
  have e3 : lv3.take l3.toNatClampNeg = bx ++ by_ ++ bz := by rw [a3, e2]
  refine ⟨e3.trans (own_l1 _ _ _), e3.trans (own_l2 _ _ _), e3.trans (own_l3 _ _ _), ?_, ?_, ?_, ?_, ?_, ?_, ?_⟩
  all_goals (try simp only [List.length_append, List.length_nil])
  all_goals omega
theorem ef_9 (m : MethodId) (x0 : Addr) : entryFrame m #[(.ref x0)] 5 = mkF m 0 #[.val (.ref x0), .unset, .unset, .unset, .unset] [] := by first | (simp [entryFrame, mkF, argsToLocals, Value.category]; done) | rfl
theorem d9_0 : decode prog_105_method_3_code 0 = .ok (.lconst 0, 1) := by decide +kernel
theorem d9_1 : decode prog_105_method_3_code 1 = .ok (.lstore_n 1, 1) := by decide +kernel
theorem d9_2 : decode prog_105_method_3_code 2 = .ok (.iconst 0, 1) := by decide +kernel
theorem d9_3 : decode prog_105_method_3_code 3 = .ok (.istore_n 3, 1) := by decide +kernel
theorem d9_4 : decode prog_105_method_3_code 4 = .ok (.aload_n 0, 1) := by decide +kernel
theorem d9_5 : decode prog_105_method_3_code 5 = .ok (.getfield 7, 3) := by decide +kernel
theorem d9_8 : decode prog_105_method_3_code 8 = .ok (.aload_n 0, 1) := by decide +kernel
theorem d9_9 : decode prog_105_method_3_code 9 = .ok (.dup, 1) := by decide +kernel
theorem d9_10 : decode prog_105_method_3_code 10 = .ok (.getfield 17, 3) := by decide +kernel
theorem d9_13 : decode prog_105_method_3_code 13 = .ok (.dup_x1, 1) := by decide +kernel
theorem d9_14 : decode prog_105_method_3_code 14 = .ok (.iconst 1, 1) := by decide +kernel
theorem d9_15 : decode prog_105_method_3_code 15 = .ok (.iadd, 1) := by decide +kernel
theorem d9_16 : decode prog_105_method_3_code 16 = .ok (.putfield 17, 3) := by decide +kernel
theorem d9_19 : decode prog_105_method_3_code 19 = .ok (.baload, 1) := by decide +kernel
theorem d9_20 : decode prog_105_method_3_code 20 = .ok (.istore 4, 2) := by decide +kernel
theorem sn_cN1_key_at {a0 : Array Value} {Z : State} (hw : ∀ d ∈ tables_1, d.before a0 Z = true) : Jvm.RoadKit.slotOf Z cN1 "key" "[B" ≠ Jvm.RoadKit.slotOf Z cN1 "at" "I" := slot_ne (Or.inr (ow hw 52 rfl)) (Or.inl (ow hw 59 rfl)) (by decide) (t := (.array .byte)) (t' := .int) (by decide) (by decide)
theorem d9_22 : decode prog_105_method_3_code 22 = .ok (.lload_n 1, 1) := by decide +kernel
theorem d9_23 : decode prog_105_method_3_code 23 = .ok (.iload 4, 2) := by decide +kernel
theorem d9_25 : decode prog_105_method_3_code 25 = .ok (.i2l, 1) := by decide +kernel
theorem d9_26 : decode prog_105_method_3_code 26 = .ok (.ldc2_w 21, 3) := by decide +kernel
theorem d9_29 : decode prog_105_method_3_code 29 = .ok (.land, 1) := by decide +kernel
theorem d9_30 : decode prog_105_method_3_code 30 = .ok (.iload_n 3, 1) := by decide +kernel
theorem d9_31 : decode prog_105_method_3_code 31 = .ok (.lshl, 1) := by decide +kernel
theorem d9_32 : decode prog_105_method_3_code 32 = .ok (.lor, 1) := by decide +kernel
theorem d9_33 : decode prog_105_method_3_code 33 = .ok (.lstore_n 1, 1) := by decide +kernel
theorem d9_34 : decode prog_105_method_3_code 34 = .ok (.iinc 3 7, 3) := by decide +kernel
theorem d9_37 : decode prog_105_method_3_code 37 = .ok (.iload 4, 2) := by decide +kernel
theorem d9_39 : decode prog_105_method_3_code 39 = .ok (.ifCond .lt (-35), 3) := by decide +kernel
theorem d9_42 : decode prog_105_method_3_code 42 = .ok (.lload_n 1, 1) := by decide +kernel
theorem d9_43 : decode prog_105_method_3_code 43 = .ok (.iconst 1, 1) := by decide +kernel
theorem d9_44 : decode prog_105_method_3_code 44 = .ok (.lushr, 1) := by decide +kernel
theorem d9_45 : decode prog_105_method_3_code 45 = .ok (.lload_n 1, 1) := by decide +kernel
theorem d9_46 : decode prog_105_method_3_code 46 = .ok (.lconst 1, 1) := by decide +kernel
theorem d9_47 : decode prog_105_method_3_code 47 = .ok (.land, 1) := by decide +kernel
theorem d9_48 : decode prog_105_method_3_code 48 = .ok (.lneg, 1) := by decide +kernel
theorem d9_49 : decode prog_105_method_3_code 49 = .ok (.lxor, 1) := by decide +kernel
theorem d9_50 : decode prog_105_method_3_code 50 = .ok (.lreturn, 1) := by decide +kernel
def Q_nxt (Z : State) (a1 : Addr) (kb : Addr) (kc : ClassId) (kv : List Value) (pre : List Value) (suf : List Value) (r0 : Int64) (at0 : Int32) (at9 : Int32) (h0 : Heap) (n0 : Nat) (v : Option Value) (h : Heap) (L : List Loc) : Prop := v = some (.long (own_unz r0)) ∧ Fr n0 L ∧ Keep h0 h [a1] ∧ Fld Z h a1 cN1 "key" "[B" (.ref kb) ∧ Fld Z h a1 cN1 "at" "I" (.int at9)
set_option maxRecDepth 65536 in
set_option maxHeartbeats 40000000 in
theorem rm_nxt (l : Launch) (Z : State) (a0 : Array Value) (hw : ∀ d ∈ tables_1, d.before a0 Z = true) (ws : List Jvm.Cond) (a1 : Addr) (kb : Addr) (kc : ClassId) (kv : List Value) (pre : List Value) (suf : List Value) (r0 : Int64) (at0 : Int32) (at9 : Int32) (h0 : Heap) (n0 : Nat) (Z0 : n0 ≤ h0.size) (E_a1 : Exa Z h0 a1 cN1) (F_key_a1 : Fld Z h0 a1 cN1 "key" "[B" (.ref kb)) (F_at_a1 : Fld Z h0 a1 cN1 "at" "I" (.int at0)) (V_kb : OAr Z h0 kb kc .byte kv) (g_a1 : n0 ≤ a1) (ne_a1_kb : a1 ≠ kb) (hk : kv = pre ++ (own_bs 9 r0 ++ suf)) (ha : at0.toInt = pre.length) (hq9 : at9.toInt = pre.length + (own_enc 9 r0).length ∧ pre.length ≤ 100) :
    MetFree l mN7 (head1 (Jvm.Cond.code mN7 prog_105_method_3_code 5 (some .long) :: ws) ({ frames := 0, cells := 0, slots := 0, locals := 0 } : Room)) (fun a U => a = #[(.ref a1)] ∧ Z.Warmed39 U.vm ∧ U.heap = h0) (fun _ _ _ _ _ => True) (fun _ U o U' => ∃ v L, o = .returned v ∧ Q_nxt Z a1 kb kc kv pre suf r0 at0 at9 h0 n0 v U'.heap L ∧ FrameEnd U o U' L ({ frames := 0, cells := 0, slots := 0, locals := 0 } : Room).cells ({ frames := 0, cells := 0, slots := 0, locals := 0 } : Room).slots) := by
  refine MetFree.of_bodySF (plainFor_of_name pn_com_example_flote_flote_search_Key_Reader) hisR ?_
  intro p e s m args below meth c s₁ Bd hml0 hP hK
  obtain ⟨rfl, hZ, hh⟩ := hP
  have hx := Bd.exec
  have hby := Bd.bytes
  have hml : c.maxLocals = 5 := hml0
  have hown : s.vm.findClass "com/example/flote/flote/search/Key$Reader" = some m.cls := findClass_of_methodNamed Bd.named
  have hnm := (name_of_methodNamed Bd.named Bd.method).1
  have X0 : Stand p l e ({ frames := 0, cells := 0, slots := 0, locals := 0 } : Room) s m #[(.ref a1)] below meth c s₁ [] 0 0 := Stand.of_body Bd
  have e0 : s₁.heap = h0 := by rw [← hh, Bd.state]; rfl
  have N0 := Fr.nil n0
  obtain ⟨A0, hA0⟩ : ∃ z, z = s₁.setTop (entryFrame m #[(.ref a1)] 5) := ⟨_, rfl⟩
  have K : OGo p e below A0 s₁ (mkF m 0 #[rv a1, .unset, .unset, .unset, .unset] []) := fun t k => hA0 ▸ castTop (ef_9 m a1) k
  replace K : OGo p e below A0 s₁ (mkF m 1 #[rv a1, .unset, .unset, .unset, .unset] [(.long 0)]) := fun t k => K t (XS.lconst X0.here hx rfl (hb hby d9_0) k)
  replace K : OGo p e below A0 s₁ (mkF m 2 #[rv a1, .val (.long (0 : Int64)), .second, .unset, .unset] []) := fun t k => K t (XS.lstoreN X0.here hx rfl (hb hby d9_1) rfl (l' := #[rv a1, .val (.long (0 : Int64)), .second, .unset, .unset]) rfl k)
  replace K : OGo p e below A0 s₁ (mkF m 3 #[rv a1, .val (.long (0 : Int64)), .second, .unset, .unset] [(.int 0)]) := fun t k => K t (XS.iconst X0.here hx rfl (hb hby d9_2) k)
  replace K : OGo p e below A0 s₁ (mkF m 4 #[rv a1, .val (.long (0 : Int64)), .second, iv 0, .unset] []) := fun t k => K t (XS.istoreN X0.here hx rfl (hb hby d9_3) rfl (l' := #[rv a1, .val (.long (0 : Int64)), .second, iv 0, .unset]) rfl k)
  replace K : OGo p e below A0 s₁ (mkF m 5 #[rv a1, .val (.long (0 : Int64)), .second, iv 0, .unset] [(.ref a1)]) := fun t k => K t (XS.aloadN X0.here hx rfl (hb hby d9_4) rfl rfl k)
  obtain ⟨T1, X1, e1, st1⟩ := getF X0 hx hZ hown (host := "") (Or.inl (ow hw 51 rfl)) Via.refl e0 F_key_a1 (g := (mkF m 5 #[rv a1, .val (.long (0 : Int64)), .second, iv 0, .unset] [(.ref a1)])) rfl rfl (hb hby d9_5)
  replace K : OGo p e below A0 T1 (mkF m 8 #[rv a1, .val (.long (0 : Int64)), .second, iv 0, .unset] [(.ref kb)]) := fun t k => K t (st1 t k)
  replace K : OGo p e below A0 T1 (mkF m 9 #[rv a1, .val (.long (0 : Int64)), .second, iv 0, .unset] [(.ref a1), (.ref kb)]) := fun t k => K t (XS.aloadN X1.here hx rfl (hb hby d9_8) rfl rfl k)
  replace K : OGo p e below A0 T1 (mkF m 10 #[rv a1, .val (.long (0 : Int64)), .second, iv 0, .unset] [(.ref a1), (.ref a1), (.ref kb)]) := fun t k => K t (XS.dup X1.here hx rfl (hb hby d9_9) rfl rfl k)
  obtain ⟨T2, X2, e2, st2⟩ := getF X1 hx hZ hown (host := "") (Or.inl (ow hw 58 rfl)) Via.refl e1 F_at_a1 (g := (mkF m 10 #[rv a1, .val (.long (0 : Int64)), .second, iv 0, .unset] [(.ref a1), (.ref a1), (.ref kb)])) rfl rfl (hb hby d9_10)
  replace K : OGo p e below A0 T2 (mkF m 13 #[rv a1, .val (.long (0 : Int64)), .second, iv 0, .unset] [(.int at0), (.ref a1), (.ref kb)]) := fun t k => K t (st2 t k)
  replace K : OGo p e below A0 T2 (mkF m 14 #[rv a1, .val (.long (0 : Int64)), .second, iv 0, .unset] [(.int at0), (.ref a1), (.int at0), (.ref kb)]) := fun t k => K t (XS.dupX1 X2.here hx rfl (hb hby d9_13) rfl rfl rfl k)
  replace K : OGo p e below A0 T2 (mkF m 15 #[rv a1, .val (.long (0 : Int64)), .second, iv 0, .unset] [(.int 1), (.int at0), (.ref a1), (.int at0), (.ref kb)]) := fun t k => K t (XS.iconst X2.here hx rfl (hb hby d9_14) k)
  replace K : OGo p e below A0 T2 (mkF m 16 #[rv a1, .val (.long (0 : Int64)), .second, iv 0, .unset] [(.int (at0 + (1 : Int32))), (.ref a1), (.int at0), (.ref kb)]) := fun t k => K t (XS.iadd X2.here hx rfl (hb hby d9_15) rfl k)
  obtain ⟨T3, h3, X3, e3, W3, st3⟩ := putF X2 hx hZ hown (host := "") (Or.inl (ow hw 58 rfl)) Via.refl e2 F_at_a1 E_a1 (Or.inl (ow hw 59 rfl)) (ow hw 45 rfl) (ty := .int) (by decide) rfl rfl (g := (mkF m 16 #[rv a1, .val (.long (0 : Int64)), .second, iv 0, .unset] [(.int (at0 + (1 : Int32))), (.ref a1), (.int at0), (.ref kb)])) rfl rfl (hb hby d9_16)
  have Z3 : n0 ≤ h3.size := Nat.le_trans Z0 (Keep.of_wr W3).1
  have Kp3 : Keep h0 h3 [a1] := (Keep.refl h0 [a1]).wr W3 (Or.inl (List.mem_of_getElem? (i := 0) rfl))
  have F_at_a1_3 := F_at_a1.same W3
  have N3 := Fr.snoc X3 N0 g_a1
  replace K : OGo p e below A0 T3 (mkF m 19 #[rv a1, .val (.long (0 : Int64)), .second, iv 0, .unset] [(.int at0), (.ref kb)]) := fun t k => K t (st3 t k)
  have V_kb_4 := (V_kb.other W3 (Ne.symm ne_a1_kb))
  replace K : OGo p e below A0 T3 (mkF m 20 #[rv a1, .val (.long (0 : Int64)), .second, iv 0, .unset] [(.int (own_hd 9 r0))]) := fun t k => K t (own_ldB X3 hx hZ e3 V_kb_4 (j := at0) (v := (.int (own_hd 9 r0))) (own_nnI (by omega)) (own_hdAt hk ha) (g := (mkF m 19 #[rv a1, .val (.long (0 : Int64)), .second, iv 0, .unset] [(.int at0), (.ref kb)])) rfl rfl (hb hby d9_19) t k)
  replace K : OGo p e below A0 T3 (mkF m 22 #[rv a1, .val (.long (0 : Int64)), .second, iv 0, iv (own_hd 9 r0)] []) := fun t k => K t (XS.istore X3.here hx rfl (hb hby d9_20) rfl (l' := #[rv a1, .val (.long (0 : Int64)), .second, iv 0, iv (own_hd 9 r0)]) rfl k)
  have E_a1_6 := (E_a1.wr W3)
  have F_key_a1_7 := (F_key_a1.other W3 (Or.inr (sn_cN1_key_at hw)))
  obtain ⟨nF5, r, acc, sx, pr, at1, Tl5, hl5, ll5, hI5⟩ : ∃ (nF5 : Nat) (r : Int64) (acc : Int64) (sx : Nat) (pr : List Value) (at1 : Int32) (Tl5 : State) (hl5 : Heap) (ll5 : List Loc), Stand p l e ({ frames := 0, cells := 0, slots := 0, locals := 0 } : Room) s m #[(.ref a1)] below meth c Tl5 ll5 0 0 ∧ Tl5.heap = hl5 ∧ Fr n0 ll5 ∧ n0 ≤ hl5.size ∧ Keep h0 hl5 [a1] ∧ Exa Z hl5 a1 cN1 ∧ Fld Z hl5 a1 cN1 "key" "[B" (.ref kb) ∧ Fld Z hl5 a1 cN1 "at" "I" (.int at1) ∧ OAr Z hl5 kb kc .byte kv ∧ own_rd nF5 r acc r0 sx kv pr suf at1 at9 ∧ OGo p e below A0 Tl5 (mkF m 22 #[rv a1, .val (.long acc), .second, iv sx.toInt32, iv (own_hd nF5 r)] []) := ⟨9, r0, (0 : Int64), 0, pre, (at0 + (1 : Int32)), _, _, _, X3, e3, N3, Z3, Kp3, E_a1_6, F_key_a1_7, F_at_a1_3, V_kb_4, (own_rd0 hk ha hq9), K⟩
  clear K
  induction nF5 generalizing r acc sx pr at1 Tl5 hl5 ll5 with
  | zero =>
    obtain ⟨Xl5, el5, Nl5, Zl5, Kl5, E_a1_l5, F_key_a1_l5, F_at_a1_l5, V_kb_l5, hrd, K⟩ := hI5
    obtain ⟨hE1, hE2, hE3⟩ := own_rd_end hrd (own_fit0 hrd.1)
    replace K : OGo p e below A0 Tl5 (mkF m 23 #[rv a1, .val (.long acc), .second, iv sx.toInt32, iv (own_hd 0 r)] [(.long acc)]) := fun t k => K t (XS.lloadN Xl5.here hx rfl (hb hby d9_22) rfl k)
    replace K : OGo p e below A0 Tl5 (mkF m 25 #[rv a1, .val (.long acc), .second, iv sx.toInt32, iv (own_hd 0 r)] [(.int (own_hd 0 r)), (.long acc)]) := fun t k => K t (XS.iload Xl5.here hx rfl (hb hby d9_23) rfl k)
    replace K : OGo p e below A0 Tl5 (mkF m 26 #[rv a1, .val (.long acc), .second, iv sx.toInt32, iv (own_hd 0 r)] [(.long ((own_hd 0 r).toInt64)), (.long acc)]) := fun t k => K t (XS.i2l Xl5.here hx rfl (hb hby d9_25) rfl k)
    replace K : OGo p e below A0 Tl5 (mkF m 29 #[rv a1, .val (.long acc), .second, iv sx.toInt32, iv (own_hd 0 r)] [(.long 127), (.long ((own_hd 0 r).toInt64)), (.long acc)]) := fun t k => K t (Xl5.ldc2Long hx hown (mvT hZ (ow hw 60 rfl)) (g := (mkF m 26 #[rv a1, .val (.long acc), .second, iv sx.toInt32, iv (own_hd 0 r)] [(.long ((own_hd 0 r).toInt64)), (.long acc)])) rfl (hb hby d9_26) t k)
    replace K : OGo p e below A0 Tl5 (mkF m 30 #[rv a1, .val (.long acc), .second, iv sx.toInt32, iv (own_hd 0 r)] [(.long (((own_hd 0 r).toInt64) &&& (127 : Int64))), (.long acc)]) := fun t k => K t (XS.land Xl5.here hx rfl (hb hby d9_29) rfl k)
    replace K : OGo p e below A0 Tl5 (mkF m 31 #[rv a1, .val (.long acc), .second, iv sx.toInt32, iv (own_hd 0 r)] [(.int sx.toInt32), (.long (((own_hd 0 r).toInt64) &&& (127 : Int64))), (.long acc)]) := fun t k => K t (XS.iloadN Xl5.here hx rfl (hb hby d9_30) rfl k)
    replace K : OGo p e below A0 Tl5 (mkF m 32 #[rv a1, .val (.long acc), .second, iv sx.toInt32, iv (own_hd 0 r)] [(.long ((((own_hd 0 r).toInt64) &&& (127 : Int64)) <<< (sx.toInt32 &&& 0x3f).toInt64)), (.long acc)]) := fun t k => K t (XS.lshl Xl5.here hx rfl (hb hby d9_31) rfl k)
    replace K : OGo p e below A0 Tl5 (mkF m 33 #[rv a1, .val (.long acc), .second, iv sx.toInt32, iv (own_hd 0 r)] [(.long (acc ||| ((((own_hd 0 r).toInt64) &&& (127 : Int64)) <<< (sx.toInt32 &&& 0x3f).toInt64)))]) := fun t k => K t (XS.lor Xl5.here hx rfl (hb hby d9_32) rfl k)
    replace K : OGo p e below A0 Tl5 (mkF m 34 #[rv a1, .val (.long (acc ||| ((((own_hd 0 r).toInt64) &&& (127 : Int64)) <<< (sx.toInt32 &&& 0x3f).toInt64))), .second, iv sx.toInt32, iv (own_hd 0 r)] []) := fun t k => K t (XS.lstoreN Xl5.here hx rfl (hb hby d9_33) rfl (l' := #[rv a1, .val (.long (acc ||| ((((own_hd 0 r).toInt64) &&& (127 : Int64)) <<< (sx.toInt32 &&& 0x3f).toInt64))), .second, iv sx.toInt32, iv (own_hd 0 r)]) rfl k)
    replace K : OGo p e below A0 Tl5 (mkF m 37 #[rv a1, .val (.long (acc ||| ((((own_hd 0 r).toInt64) &&& (127 : Int64)) <<< (sx.toInt32 &&& 0x3f).toInt64))), .second, iv (sx.toInt32 + (7 : Int32)), iv (own_hd 0 r)] []) := fun t k => K t (XS.iinc Xl5.here hx rfl (hb hby d9_34) rfl (l' := #[rv a1, .val (.long (acc ||| ((((own_hd 0 r).toInt64) &&& (127 : Int64)) <<< (sx.toInt32 &&& 0x3f).toInt64))), .second, iv (sx.toInt32 + (7 : Int32)), iv (own_hd 0 r)]) rfl k)
    replace K : OGo p e below A0 Tl5 (mkF m 39 #[rv a1, .val (.long (acc ||| ((((own_hd 0 r).toInt64) &&& (127 : Int64)) <<< (sx.toInt32 &&& 0x3f).toInt64))), .second, iv (sx.toInt32 + (7 : Int32)), iv (own_hd 0 r)] [(.int (own_hd 0 r))]) := fun t k => K t (XS.iload Xl5.here hx rfl (hb hby d9_37) rfl k)
    replace K : OGo p e below A0 Tl5 (mkF m 42 #[rv a1, .val (.long (acc ||| ((((own_hd 0 r).toInt64) &&& (127 : Int64)) <<< (sx.toInt32 &&& 0x3f).toInt64))), .second, iv (sx.toInt32 + (7 : Int32)), iv (own_hd 0 r)] []) := fun t k => K t (XS.ifNo Xl5.here hx rfl (hb hby d9_39) rfl ((if0 _ _).trans (flt (hE3)).1) k)
    rw [hE1] at K
    replace K : OGo p e below A0 Tl5 (mkF m 43 #[rv a1, .val (.long r0), .second, iv (sx.toInt32 + (7 : Int32)), iv (own_hd 0 r)] [(.long r0)]) := fun t k => K t (XS.lloadN Xl5.here hx rfl (hb hby d9_42) rfl k)
    replace K : OGo p e below A0 Tl5 (mkF m 44 #[rv a1, .val (.long r0), .second, iv (sx.toInt32 + (7 : Int32)), iv (own_hd 0 r)] [(.int 1), (.long r0)]) := fun t k => K t (XS.iconst Xl5.here hx rfl (hb hby d9_43) k)
    replace K : OGo p e below A0 Tl5 (mkF m 45 #[rv a1, .val (.long r0), .second, iv (sx.toInt32 + (7 : Int32)), iv (own_hd 0 r)] [(.long ((r0.toUInt64 >>> ((1 : Int32) &&& 0x3f).toInt64.toUInt64).toInt64))]) := fun t k => K t (XS.lushr Xl5.here hx rfl (hb hby d9_44) rfl k)
    replace K : OGo p e below A0 Tl5 (mkF m 46 #[rv a1, .val (.long r0), .second, iv (sx.toInt32 + (7 : Int32)), iv (own_hd 0 r)] [(.long r0), (.long ((r0.toUInt64 >>> ((1 : Int32) &&& 0x3f).toInt64.toUInt64).toInt64))]) := fun t k => K t (XS.lloadN Xl5.here hx rfl (hb hby d9_45) rfl k)
    replace K : OGo p e below A0 Tl5 (mkF m 47 #[rv a1, .val (.long r0), .second, iv (sx.toInt32 + (7 : Int32)), iv (own_hd 0 r)] [(.long 1), (.long r0), (.long ((r0.toUInt64 >>> ((1 : Int32) &&& 0x3f).toInt64.toUInt64).toInt64))]) := fun t k => K t (XS.lconst Xl5.here hx rfl (hb hby d9_46) k)
    replace K : OGo p e below A0 Tl5 (mkF m 48 #[rv a1, .val (.long r0), .second, iv (sx.toInt32 + (7 : Int32)), iv (own_hd 0 r)] [(.long (r0 &&& (1 : Int64))), (.long ((r0.toUInt64 >>> ((1 : Int32) &&& 0x3f).toInt64.toUInt64).toInt64))]) := fun t k => K t (XS.land Xl5.here hx rfl (hb hby d9_47) rfl k)
    replace K : OGo p e below A0 Tl5 (mkF m 49 #[rv a1, .val (.long r0), .second, iv (sx.toInt32 + (7 : Int32)), iv (own_hd 0 r)] [(.long (-(r0 &&& (1 : Int64)))), (.long ((r0.toUInt64 >>> ((1 : Int32) &&& 0x3f).toInt64.toUInt64).toInt64))]) := fun t k => K t (XS.lneg Xl5.here hx rfl (hb hby d9_48) rfl k)
    replace K : OGo p e below A0 Tl5 (mkF m 50 #[rv a1, .val (.long r0), .second, iv (sx.toInt32 + (7 : Int32)), iv (own_hd 0 r)] [(.long (((r0.toUInt64 >>> ((1 : Int32) &&& 0x3f).toInt64.toUInt64).toInt64) ^^^ (-(r0 &&& (1 : Int64)))))]) := fun t k => K t (XS.lxor Xl5.here hx rfl (hb hby d9_49) rfl k)
    obtain ⟨fs, hr, hrun, hended, hW, hsame⟩ := Xl5.leave (v := some (.long (((r0.toUInt64 >>> ((1 : Int32) &&& 0x3f).toInt64.toUInt64).toInt64) ^^^ (-(r0 &&& (1 : Int64)))))) (fun h => by rw [Bd.returns] at h; cases h)
    subst hA0
    refine ⟨_, _, K _ (retOut Xl5 hx Bd.returns rfl (Or.inr (Or.inl ⟨rfl, rfl, _, rfl⟩)) (hb hby d9_50) hr), hrun, hended, _, _, rfl, ?_, ⟨_, rfl⟩, hW, hsame.mono (by decide) (by decide)⟩
    show Q_nxt Z a1 kb kc kv pre suf r0 at0 at9 h0 n0 _ Tl5.heap _
    rw [el5]
    exact ⟨rfl, Nl5, Kl5, F_key_a1_l5, (hE2 ▸ F_at_a1_l5)⟩
  | succ nF5 ih5 =>
    obtain ⟨Xl5, el5, Nl5, Zl5, Kl5, E_a1_l5, F_key_a1_l5, F_at_a1_l5, V_kb_l5, hrd, K⟩ := hI5
    by_cases hq : r &&& (-128 : Int64) = 0
    · obtain ⟨hE1, hE2, hE3⟩ := own_rd_end hrd hq
      replace K : OGo p e below A0 Tl5 (mkF m 23 #[rv a1, .val (.long acc), .second, iv sx.toInt32, iv (own_hd (nF5 + 1) r)] [(.long acc)]) := fun t k => K t (XS.lloadN Xl5.here hx rfl (hb hby d9_22) rfl k)
      replace K : OGo p e below A0 Tl5 (mkF m 25 #[rv a1, .val (.long acc), .second, iv sx.toInt32, iv (own_hd (nF5 + 1) r)] [(.int (own_hd (nF5 + 1) r)), (.long acc)]) := fun t k => K t (XS.iload Xl5.here hx rfl (hb hby d9_23) rfl k)
      replace K : OGo p e below A0 Tl5 (mkF m 26 #[rv a1, .val (.long acc), .second, iv sx.toInt32, iv (own_hd (nF5 + 1) r)] [(.long ((own_hd (nF5 + 1) r).toInt64)), (.long acc)]) := fun t k => K t (XS.i2l Xl5.here hx rfl (hb hby d9_25) rfl k)
      replace K : OGo p e below A0 Tl5 (mkF m 29 #[rv a1, .val (.long acc), .second, iv sx.toInt32, iv (own_hd (nF5 + 1) r)] [(.long 127), (.long ((own_hd (nF5 + 1) r).toInt64)), (.long acc)]) := fun t k => K t (Xl5.ldc2Long hx hown (mvT hZ (ow hw 60 rfl)) (g := (mkF m 26 #[rv a1, .val (.long acc), .second, iv sx.toInt32, iv (own_hd (nF5 + 1) r)] [(.long ((own_hd (nF5 + 1) r).toInt64)), (.long acc)])) rfl (hb hby d9_26) t k)
      replace K : OGo p e below A0 Tl5 (mkF m 30 #[rv a1, .val (.long acc), .second, iv sx.toInt32, iv (own_hd (nF5 + 1) r)] [(.long (((own_hd (nF5 + 1) r).toInt64) &&& (127 : Int64))), (.long acc)]) := fun t k => K t (XS.land Xl5.here hx rfl (hb hby d9_29) rfl k)
      replace K : OGo p e below A0 Tl5 (mkF m 31 #[rv a1, .val (.long acc), .second, iv sx.toInt32, iv (own_hd (nF5 + 1) r)] [(.int sx.toInt32), (.long (((own_hd (nF5 + 1) r).toInt64) &&& (127 : Int64))), (.long acc)]) := fun t k => K t (XS.iloadN Xl5.here hx rfl (hb hby d9_30) rfl k)
      replace K : OGo p e below A0 Tl5 (mkF m 32 #[rv a1, .val (.long acc), .second, iv sx.toInt32, iv (own_hd (nF5 + 1) r)] [(.long ((((own_hd (nF5 + 1) r).toInt64) &&& (127 : Int64)) <<< (sx.toInt32 &&& 0x3f).toInt64)), (.long acc)]) := fun t k => K t (XS.lshl Xl5.here hx rfl (hb hby d9_31) rfl k)
      replace K : OGo p e below A0 Tl5 (mkF m 33 #[rv a1, .val (.long acc), .second, iv sx.toInt32, iv (own_hd (nF5 + 1) r)] [(.long (acc ||| ((((own_hd (nF5 + 1) r).toInt64) &&& (127 : Int64)) <<< (sx.toInt32 &&& 0x3f).toInt64)))]) := fun t k => K t (XS.lor Xl5.here hx rfl (hb hby d9_32) rfl k)
      replace K : OGo p e below A0 Tl5 (mkF m 34 #[rv a1, .val (.long (acc ||| ((((own_hd (nF5 + 1) r).toInt64) &&& (127 : Int64)) <<< (sx.toInt32 &&& 0x3f).toInt64))), .second, iv sx.toInt32, iv (own_hd (nF5 + 1) r)] []) := fun t k => K t (XS.lstoreN Xl5.here hx rfl (hb hby d9_33) rfl (l' := #[rv a1, .val (.long (acc ||| ((((own_hd (nF5 + 1) r).toInt64) &&& (127 : Int64)) <<< (sx.toInt32 &&& 0x3f).toInt64))), .second, iv sx.toInt32, iv (own_hd (nF5 + 1) r)]) rfl k)
      replace K : OGo p e below A0 Tl5 (mkF m 37 #[rv a1, .val (.long (acc ||| ((((own_hd (nF5 + 1) r).toInt64) &&& (127 : Int64)) <<< (sx.toInt32 &&& 0x3f).toInt64))), .second, iv (sx.toInt32 + (7 : Int32)), iv (own_hd (nF5 + 1) r)] []) := fun t k => K t (XS.iinc Xl5.here hx rfl (hb hby d9_34) rfl (l' := #[rv a1, .val (.long (acc ||| ((((own_hd (nF5 + 1) r).toInt64) &&& (127 : Int64)) <<< (sx.toInt32 &&& 0x3f).toInt64))), .second, iv (sx.toInt32 + (7 : Int32)), iv (own_hd (nF5 + 1) r)]) rfl k)
      replace K : OGo p e below A0 Tl5 (mkF m 39 #[rv a1, .val (.long (acc ||| ((((own_hd (nF5 + 1) r).toInt64) &&& (127 : Int64)) <<< (sx.toInt32 &&& 0x3f).toInt64))), .second, iv (sx.toInt32 + (7 : Int32)), iv (own_hd (nF5 + 1) r)] [(.int (own_hd (nF5 + 1) r))]) := fun t k => K t (XS.iload Xl5.here hx rfl (hb hby d9_37) rfl k)
      replace K : OGo p e below A0 Tl5 (mkF m 42 #[rv a1, .val (.long (acc ||| ((((own_hd (nF5 + 1) r).toInt64) &&& (127 : Int64)) <<< (sx.toInt32 &&& 0x3f).toInt64))), .second, iv (sx.toInt32 + (7 : Int32)), iv (own_hd (nF5 + 1) r)] []) := fun t k => K t (XS.ifNo Xl5.here hx rfl (hb hby d9_39) rfl ((if0 _ _).trans (flt (hE3)).1) k)
      rw [hE1] at K
      replace K : OGo p e below A0 Tl5 (mkF m 43 #[rv a1, .val (.long r0), .second, iv (sx.toInt32 + (7 : Int32)), iv (own_hd (nF5 + 1) r)] [(.long r0)]) := fun t k => K t (XS.lloadN Xl5.here hx rfl (hb hby d9_42) rfl k)
      replace K : OGo p e below A0 Tl5 (mkF m 44 #[rv a1, .val (.long r0), .second, iv (sx.toInt32 + (7 : Int32)), iv (own_hd (nF5 + 1) r)] [(.int 1), (.long r0)]) := fun t k => K t (XS.iconst Xl5.here hx rfl (hb hby d9_43) k)
      replace K : OGo p e below A0 Tl5 (mkF m 45 #[rv a1, .val (.long r0), .second, iv (sx.toInt32 + (7 : Int32)), iv (own_hd (nF5 + 1) r)] [(.long ((r0.toUInt64 >>> ((1 : Int32) &&& 0x3f).toInt64.toUInt64).toInt64))]) := fun t k => K t (XS.lushr Xl5.here hx rfl (hb hby d9_44) rfl k)
      replace K : OGo p e below A0 Tl5 (mkF m 46 #[rv a1, .val (.long r0), .second, iv (sx.toInt32 + (7 : Int32)), iv (own_hd (nF5 + 1) r)] [(.long r0), (.long ((r0.toUInt64 >>> ((1 : Int32) &&& 0x3f).toInt64.toUInt64).toInt64))]) := fun t k => K t (XS.lloadN Xl5.here hx rfl (hb hby d9_45) rfl k)
      replace K : OGo p e below A0 Tl5 (mkF m 47 #[rv a1, .val (.long r0), .second, iv (sx.toInt32 + (7 : Int32)), iv (own_hd (nF5 + 1) r)] [(.long 1), (.long r0), (.long ((r0.toUInt64 >>> ((1 : Int32) &&& 0x3f).toInt64.toUInt64).toInt64))]) := fun t k => K t (XS.lconst Xl5.here hx rfl (hb hby d9_46) k)
      replace K : OGo p e below A0 Tl5 (mkF m 48 #[rv a1, .val (.long r0), .second, iv (sx.toInt32 + (7 : Int32)), iv (own_hd (nF5 + 1) r)] [(.long (r0 &&& (1 : Int64))), (.long ((r0.toUInt64 >>> ((1 : Int32) &&& 0x3f).toInt64.toUInt64).toInt64))]) := fun t k => K t (XS.land Xl5.here hx rfl (hb hby d9_47) rfl k)
      replace K : OGo p e below A0 Tl5 (mkF m 49 #[rv a1, .val (.long r0), .second, iv (sx.toInt32 + (7 : Int32)), iv (own_hd (nF5 + 1) r)] [(.long (-(r0 &&& (1 : Int64)))), (.long ((r0.toUInt64 >>> ((1 : Int32) &&& 0x3f).toInt64.toUInt64).toInt64))]) := fun t k => K t (XS.lneg Xl5.here hx rfl (hb hby d9_48) rfl k)
      replace K : OGo p e below A0 Tl5 (mkF m 50 #[rv a1, .val (.long r0), .second, iv (sx.toInt32 + (7 : Int32)), iv (own_hd (nF5 + 1) r)] [(.long (((r0.toUInt64 >>> ((1 : Int32) &&& 0x3f).toInt64.toUInt64).toInt64) ^^^ (-(r0 &&& (1 : Int64)))))]) := fun t k => K t (XS.lxor Xl5.here hx rfl (hb hby d9_49) rfl k)
      obtain ⟨fs, hr, hrun, hended, hW, hsame⟩ := Xl5.leave (v := some (.long (((r0.toUInt64 >>> ((1 : Int32) &&& 0x3f).toInt64.toUInt64).toInt64) ^^^ (-(r0 &&& (1 : Int64)))))) (fun h => by rw [Bd.returns] at h; cases h)
      subst hA0
      refine ⟨_, _, K _ (retOut Xl5 hx Bd.returns rfl (Or.inr (Or.inl ⟨rfl, rfl, _, rfl⟩)) (hb hby d9_50) hr), hrun, hended, _, _, rfl, ?_, ⟨_, rfl⟩, hW, hsame.mono (by decide) (by decide)⟩
      show Q_nxt Z a1 kb kc kv pre suf r0 at0 at9 h0 n0 _ Tl5.heap _
      rw [el5]
      exact ⟨rfl, Nl5, Kl5, F_key_a1_l5, (hE2 ▸ F_at_a1_l5)⟩
    · have hst := own_rd_step hrd hq
      replace K : OGo p e below A0 Tl5 (mkF m 23 #[rv a1, .val (.long acc), .second, iv sx.toInt32, iv (own_hd (nF5 + 1) r)] [(.long acc)]) := fun t k => K t (XS.lloadN Xl5.here hx rfl (hb hby d9_22) rfl k)
      replace K : OGo p e below A0 Tl5 (mkF m 25 #[rv a1, .val (.long acc), .second, iv sx.toInt32, iv (own_hd (nF5 + 1) r)] [(.int (own_hd (nF5 + 1) r)), (.long acc)]) := fun t k => K t (XS.iload Xl5.here hx rfl (hb hby d9_23) rfl k)
      replace K : OGo p e below A0 Tl5 (mkF m 26 #[rv a1, .val (.long acc), .second, iv sx.toInt32, iv (own_hd (nF5 + 1) r)] [(.long ((own_hd (nF5 + 1) r).toInt64)), (.long acc)]) := fun t k => K t (XS.i2l Xl5.here hx rfl (hb hby d9_25) rfl k)
      replace K : OGo p e below A0 Tl5 (mkF m 29 #[rv a1, .val (.long acc), .second, iv sx.toInt32, iv (own_hd (nF5 + 1) r)] [(.long 127), (.long ((own_hd (nF5 + 1) r).toInt64)), (.long acc)]) := fun t k => K t (Xl5.ldc2Long hx hown (mvT hZ (ow hw 60 rfl)) (g := (mkF m 26 #[rv a1, .val (.long acc), .second, iv sx.toInt32, iv (own_hd (nF5 + 1) r)] [(.long ((own_hd (nF5 + 1) r).toInt64)), (.long acc)])) rfl (hb hby d9_26) t k)
      replace K : OGo p e below A0 Tl5 (mkF m 30 #[rv a1, .val (.long acc), .second, iv sx.toInt32, iv (own_hd (nF5 + 1) r)] [(.long (((own_hd (nF5 + 1) r).toInt64) &&& (127 : Int64))), (.long acc)]) := fun t k => K t (XS.land Xl5.here hx rfl (hb hby d9_29) rfl k)
      replace K : OGo p e below A0 Tl5 (mkF m 31 #[rv a1, .val (.long acc), .second, iv sx.toInt32, iv (own_hd (nF5 + 1) r)] [(.int sx.toInt32), (.long (((own_hd (nF5 + 1) r).toInt64) &&& (127 : Int64))), (.long acc)]) := fun t k => K t (XS.iloadN Xl5.here hx rfl (hb hby d9_30) rfl k)
      replace K : OGo p e below A0 Tl5 (mkF m 32 #[rv a1, .val (.long acc), .second, iv sx.toInt32, iv (own_hd (nF5 + 1) r)] [(.long ((((own_hd (nF5 + 1) r).toInt64) &&& (127 : Int64)) <<< (sx.toInt32 &&& 0x3f).toInt64)), (.long acc)]) := fun t k => K t (XS.lshl Xl5.here hx rfl (hb hby d9_31) rfl k)
      replace K : OGo p e below A0 Tl5 (mkF m 33 #[rv a1, .val (.long acc), .second, iv sx.toInt32, iv (own_hd (nF5 + 1) r)] [(.long (acc ||| ((((own_hd (nF5 + 1) r).toInt64) &&& (127 : Int64)) <<< (sx.toInt32 &&& 0x3f).toInt64)))]) := fun t k => K t (XS.lor Xl5.here hx rfl (hb hby d9_32) rfl k)
      replace K : OGo p e below A0 Tl5 (mkF m 34 #[rv a1, .val (.long (acc ||| ((((own_hd (nF5 + 1) r).toInt64) &&& (127 : Int64)) <<< (sx.toInt32 &&& 0x3f).toInt64))), .second, iv sx.toInt32, iv (own_hd (nF5 + 1) r)] []) := fun t k => K t (XS.lstoreN Xl5.here hx rfl (hb hby d9_33) rfl (l' := #[rv a1, .val (.long (acc ||| ((((own_hd (nF5 + 1) r).toInt64) &&& (127 : Int64)) <<< (sx.toInt32 &&& 0x3f).toInt64))), .second, iv sx.toInt32, iv (own_hd (nF5 + 1) r)]) rfl k)
      replace K : OGo p e below A0 Tl5 (mkF m 37 #[rv a1, .val (.long (acc ||| ((((own_hd (nF5 + 1) r).toInt64) &&& (127 : Int64)) <<< (sx.toInt32 &&& 0x3f).toInt64))), .second, iv (sx.toInt32 + (7 : Int32)), iv (own_hd (nF5 + 1) r)] []) := fun t k => K t (XS.iinc Xl5.here hx rfl (hb hby d9_34) rfl (l' := #[rv a1, .val (.long (acc ||| ((((own_hd (nF5 + 1) r).toInt64) &&& (127 : Int64)) <<< (sx.toInt32 &&& 0x3f).toInt64))), .second, iv (sx.toInt32 + (7 : Int32)), iv (own_hd (nF5 + 1) r)]) rfl k)
      replace K : OGo p e below A0 Tl5 (mkF m 39 #[rv a1, .val (.long (acc ||| ((((own_hd (nF5 + 1) r).toInt64) &&& (127 : Int64)) <<< (sx.toInt32 &&& 0x3f).toInt64))), .second, iv (sx.toInt32 + (7 : Int32)), iv (own_hd (nF5 + 1) r)] [(.int (own_hd (nF5 + 1) r))]) := fun t k => K t (XS.iload Xl5.here hx rfl (hb hby d9_37) rfl k)
      replace K : OGo p e below A0 Tl5 (mkF m 4 #[rv a1, .val (.long (acc ||| ((((own_hd (nF5 + 1) r).toInt64) &&& (127 : Int64)) <<< (sx.toInt32 &&& 0x3f).toInt64))), .second, iv (sx.toInt32 + (7 : Int32)), iv (own_hd (nF5 + 1) r)] []) := fun t k => K t (XS.ifYes Xl5.here hx rfl (pc0 := 39) (pc' := 4) rfl (hb hby d9_39) rfl ((if0 _ _).trans (tlt (hst.1)).1) (by decide) (by decide) k)
      replace K : OGo p e below A0 Tl5 (mkF m 5 #[rv a1, .val (.long (acc ||| ((((own_hd (nF5 + 1) r).toInt64) &&& (127 : Int64)) <<< (sx.toInt32 &&& 0x3f).toInt64))), .second, iv (sx.toInt32 + (7 : Int32)), iv (own_hd (nF5 + 1) r)] [(.ref a1)]) := fun t k => K t (XS.aloadN Xl5.here hx rfl (hb hby d9_4) rfl rfl k)
      obtain ⟨T8, X8, e8, st8⟩ := getF Xl5 hx hZ hown (host := "") (Or.inl (ow hw 51 rfl)) Via.refl el5 F_key_a1_l5 (g := (mkF m 5 #[rv a1, .val (.long (acc ||| ((((own_hd (nF5 + 1) r).toInt64) &&& (127 : Int64)) <<< (sx.toInt32 &&& 0x3f).toInt64))), .second, iv (sx.toInt32 + (7 : Int32)), iv (own_hd (nF5 + 1) r)] [(.ref a1)])) rfl rfl (hb hby d9_5)
      replace K : OGo p e below A0 T8 (mkF m 8 #[rv a1, .val (.long (acc ||| ((((own_hd (nF5 + 1) r).toInt64) &&& (127 : Int64)) <<< (sx.toInt32 &&& 0x3f).toInt64))), .second, iv (sx.toInt32 + (7 : Int32)), iv (own_hd (nF5 + 1) r)] [(.ref kb)]) := fun t k => K t (st8 t k)
      replace K : OGo p e below A0 T8 (mkF m 9 #[rv a1, .val (.long (acc ||| ((((own_hd (nF5 + 1) r).toInt64) &&& (127 : Int64)) <<< (sx.toInt32 &&& 0x3f).toInt64))), .second, iv (sx.toInt32 + (7 : Int32)), iv (own_hd (nF5 + 1) r)] [(.ref a1), (.ref kb)]) := fun t k => K t (XS.aloadN X8.here hx rfl (hb hby d9_8) rfl rfl k)
      replace K : OGo p e below A0 T8 (mkF m 10 #[rv a1, .val (.long (acc ||| ((((own_hd (nF5 + 1) r).toInt64) &&& (127 : Int64)) <<< (sx.toInt32 &&& 0x3f).toInt64))), .second, iv (sx.toInt32 + (7 : Int32)), iv (own_hd (nF5 + 1) r)] [(.ref a1), (.ref a1), (.ref kb)]) := fun t k => K t (XS.dup X8.here hx rfl (hb hby d9_9) rfl rfl k)
      obtain ⟨T9, X9, e9, st9⟩ := getF X8 hx hZ hown (host := "") (Or.inl (ow hw 58 rfl)) Via.refl e8 F_at_a1_l5 (g := (mkF m 10 #[rv a1, .val (.long (acc ||| ((((own_hd (nF5 + 1) r).toInt64) &&& (127 : Int64)) <<< (sx.toInt32 &&& 0x3f).toInt64))), .second, iv (sx.toInt32 + (7 : Int32)), iv (own_hd (nF5 + 1) r)] [(.ref a1), (.ref a1), (.ref kb)])) rfl rfl (hb hby d9_10)
      replace K : OGo p e below A0 T9 (mkF m 13 #[rv a1, .val (.long (acc ||| ((((own_hd (nF5 + 1) r).toInt64) &&& (127 : Int64)) <<< (sx.toInt32 &&& 0x3f).toInt64))), .second, iv (sx.toInt32 + (7 : Int32)), iv (own_hd (nF5 + 1) r)] [(.int at1), (.ref a1), (.ref kb)]) := fun t k => K t (st9 t k)
      replace K : OGo p e below A0 T9 (mkF m 14 #[rv a1, .val (.long (acc ||| ((((own_hd (nF5 + 1) r).toInt64) &&& (127 : Int64)) <<< (sx.toInt32 &&& 0x3f).toInt64))), .second, iv (sx.toInt32 + (7 : Int32)), iv (own_hd (nF5 + 1) r)] [(.int at1), (.ref a1), (.int at1), (.ref kb)]) := fun t k => K t (XS.dupX1 X9.here hx rfl (hb hby d9_13) rfl rfl rfl k)
      replace K : OGo p e below A0 T9 (mkF m 15 #[rv a1, .val (.long (acc ||| ((((own_hd (nF5 + 1) r).toInt64) &&& (127 : Int64)) <<< (sx.toInt32 &&& 0x3f).toInt64))), .second, iv (sx.toInt32 + (7 : Int32)), iv (own_hd (nF5 + 1) r)] [(.int 1), (.int at1), (.ref a1), (.int at1), (.ref kb)]) := fun t k => K t (XS.iconst X9.here hx rfl (hb hby d9_14) k)
      replace K : OGo p e below A0 T9 (mkF m 16 #[rv a1, .val (.long (acc ||| ((((own_hd (nF5 + 1) r).toInt64) &&& (127 : Int64)) <<< (sx.toInt32 &&& 0x3f).toInt64))), .second, iv (sx.toInt32 + (7 : Int32)), iv (own_hd (nF5 + 1) r)] [(.int (at1 + (1 : Int32))), (.ref a1), (.int at1), (.ref kb)]) := fun t k => K t (XS.iadd X9.here hx rfl (hb hby d9_15) rfl k)
      obtain ⟨T10, h10, X10, e10, W10, st10⟩ := putF X9 hx hZ hown (host := "") (Or.inl (ow hw 58 rfl)) Via.refl e9 F_at_a1_l5 E_a1_l5 (Or.inl (ow hw 59 rfl)) (ow hw 45 rfl) (ty := .int) (by decide) rfl rfl (g := (mkF m 16 #[rv a1, .val (.long (acc ||| ((((own_hd (nF5 + 1) r).toInt64) &&& (127 : Int64)) <<< (sx.toInt32 &&& 0x3f).toInt64))), .second, iv (sx.toInt32 + (7 : Int32)), iv (own_hd (nF5 + 1) r)] [(.int (at1 + (1 : Int32))), (.ref a1), (.int at1), (.ref kb)])) rfl rfl (hb hby d9_16)
      have Z10 : n0 ≤ h10.size := Nat.le_trans Zl5 (Keep.of_wr W10).1
      have Kp10 : Keep h0 h10 [a1] := Kl5.wr W10 (Or.inl (List.mem_of_getElem? (i := 0) rfl))
      have F_at_a1_10 := F_at_a1_l5.same W10
      have N10 := Fr.snoc X10 Nl5 g_a1
      replace K : OGo p e below A0 T10 (mkF m 19 #[rv a1, .val (.long (acc ||| ((((own_hd (nF5 + 1) r).toInt64) &&& (127 : Int64)) <<< (sx.toInt32 &&& 0x3f).toInt64))), .second, iv (sx.toInt32 + (7 : Int32)), iv (own_hd (nF5 + 1) r)] [(.int at1), (.ref kb)]) := fun t k => K t (st10 t k)
      have V_kb_l5_11 := (V_kb_l5.other W10 (Ne.symm ne_a1_kb))
      replace K : OGo p e below A0 T10 (mkF m 20 #[rv a1, .val (.long (acc ||| ((((own_hd (nF5 + 1) r).toInt64) &&& (127 : Int64)) <<< (sx.toInt32 &&& 0x3f).toInt64))), .second, iv (sx.toInt32 + (7 : Int32)), iv (own_hd (nF5 + 1) r)] [(.int (own_hd nF5 (own_sr r)))]) := fun t k => K t (own_ldB X10 hx hZ e10 V_kb_l5_11 (j := at1) (v := (.int (own_hd nF5 (own_sr r)))) hst.2.2.1 hst.2.1 (g := (mkF m 19 #[rv a1, .val (.long (acc ||| ((((own_hd (nF5 + 1) r).toInt64) &&& (127 : Int64)) <<< (sx.toInt32 &&& 0x3f).toInt64))), .second, iv (sx.toInt32 + (7 : Int32)), iv (own_hd (nF5 + 1) r)] [(.int at1), (.ref kb)])) rfl rfl (hb hby d9_19) t k)
      replace K : OGo p e below A0 T10 (mkF m 22 #[rv a1, .val (.long (acc ||| ((((own_hd (nF5 + 1) r).toInt64) &&& (127 : Int64)) <<< (sx.toInt32 &&& 0x3f).toInt64))), .second, iv (sx.toInt32 + (7 : Int32)), iv (own_hd nF5 (own_sr r))] []) := fun t k => K t (XS.istore X10.here hx rfl (hb hby d9_20) rfl (l' := #[rv a1, .val (.long (acc ||| ((((own_hd (nF5 + 1) r).toInt64) &&& (127 : Int64)) <<< (sx.toInt32 &&& 0x3f).toInt64))), .second, iv (sx.toInt32 + (7 : Int32)), iv (own_hd nF5 (own_sr r))]) rfl k)
      rw [own_s7] at K
      have E_a1_l5_12 := (E_a1_l5.wr W10)
      have F_key_a1_l5_13 := (F_key_a1_l5.other W10 (Or.inr (sn_cN1_key_at hw)))
      exact ih5 (own_sr r) (acc ||| (((own_hd (nF5 + 1) r).toInt64 &&& (127 : Int64)) <<< (sx.toInt32 &&& 0x3f).toInt64)) (sx + 7) (pr ++ [.int (own_hi r)]) (at1 + (1 : Int32)) _ _ _ ⟨X10, e10, N10, Z10, Kp10, E_a1_l5_12, F_key_a1_l5_13, F_at_a1_10, V_kb_l5_11, hst.2.2.2, K⟩
theorem pn_com_example_flote_flote_search_ReaderNextLongPinLaw : plainName "com/example/flote/flote/search/ReaderNextLongPinLaw" = true := by first | (simp [plainName, overriddenIn]; done) | decide +kernel
theorem ef_0 (m : MethodId) (x0 : Int64) (x1 : Int64) (x2 : Int32) (x3 : Int32) (x4 : Int32) : entryFrame m #[(.long x0), (.long x1), (.int x2), (.int x3), (.int x4)] maxLocals = mkF m 0 #[.val (.long x0), .second, .val (.long x1), .second, .val (.int x2), .val (.int x3), .val (.int x4), .unset, .unset, .unset, .unset, .unset, .unset, .unset, .unset, .unset, .unset, .unset, .unset, .unset] [] := by first | (simp [entryFrame, mkF, argsToLocals, Value.category, maxLocals]; done) | rfl
theorem pd___V : parseMethodDescriptor "()V" = some ⟨[], none⟩ := by decide +kernel
theorem pd__I_V : parseMethodDescriptor "(I)V" = some ⟨[.int], none⟩ := by decide +kernel
theorem pd____B : parseMethodDescriptor "()[B" = some ⟨[], some (.array .byte)⟩ := by decide +kernel
theorem pd___B_V : parseMethodDescriptor "([B)V" = some ⟨[(.array .byte)], none⟩ := by decide +kernel
theorem pd___J : parseMethodDescriptor "()J" = some ⟨[], some .long⟩ := by decide +kernel
def Q_law (Z : State) (q1 : Int64) (q2 : Int64) (p1 : Int32) (p2 : Int32) (p3 : Int32) (h0 : Heap) (n0 : Nat) (v : Option Value) (h : Heap) (L : List Loc) : Prop := v = some (.int (1 : Int32)) ∧ Fr n0 L
set_option maxRecDepth 65536 in
set_option maxHeartbeats 40000000 in
theorem rm_law (l : Launch) (Z : State) (a0 : Array Value) (hw : ∀ d ∈ tables_1, d.before a0 Z = true) (ws : List Jvm.Cond) (q1 : Int64) (q2 : Int64) (p1 : Int32) (p2 : Int32) (p3 : Int32) (h0 : Heap) (n0 : Nat) (Z0 : n0 ≤ h0.size) :
    MetFree l x (head1 (Jvm.Cond.code x code maxLocals ret :: ws) room_1) (fun a U => a = #[(.long q1), (.long q2), (.int p1), (.int p2), (.int p3)] ∧ Z.Warmed39 U.vm ∧ U.heap = h0) (fun _ _ _ _ _ => True) (fun _ U o U' => ∃ v L, o = .returned v ∧ Q_law Z q1 q2 p1 p2 p3 h0 n0 v U'.heap L ∧ FrameEnd U o U' L room_1.cells room_1.slots) := by
  refine MetFree.of_bodySF (plainFor_of_name pn_com_example_flote_flote_search_ReaderNextLongPinLaw) hisR ?_
  intro p e s m args below meth c s₁ Bd hml0 hP hK
  obtain ⟨rfl, hZ, hh⟩ := hP
  have hx := Bd.exec
  have hby := Bd.bytes
  have hml : c.maxLocals = 20 := hml0
  have hown : s.vm.findClass "com/example/flote/flote/search/ReaderNextLongPinLaw" = some m.cls := findClass_of_methodNamed Bd.named
  have hnm := (name_of_methodNamed Bd.named Bd.method).1
  have X0 : Stand p l e room_1 s m #[(.long q1), (.long q2), (.int p1), (.int p2), (.int p3)] below meth c s₁ [] 0 0 := Stand.of_body Bd
  have e0 : s₁.heap = h0 := by rw [← hh, Bd.state]; rfl
  have N0 := Fr.nil n0
  obtain ⟨A0, hA0⟩ : ∃ z, z = s₁.setTop (entryFrame m #[(.long q1), (.long q2), (.int p1), (.int p2), (.int p3)] maxLocals) := ⟨_, rfl⟩
  have K : OGo p e below A0 s₁ (mkF m 0 #[.val (.long q1), .second, .val (.long q2), .second, iv p1, iv p2, iv p3, .unset, .unset, .unset, .unset, .unset, .unset, .unset, .unset, .unset, .unset, .unset, .unset, .unset] []) := fun t k => hA0 ▸ castTop (ef_0 m q1 q2 p1 p2 p3) k
  replace K : OGo p e below A0 s₁ (mkF m 1 #[.val (.long q1), .second, .val (.long q2), .second, iv p1, iv p2, iv p3, .unset, .unset, .unset, .unset, .unset, .unset, .unset, .unset, .unset, .unset, .unset, .unset, .unset] [(.long q1)]) := fun t k => K t (XS.lloadN X0.here hx rfl (hb hby at_0) rfl k)
  replace K : OGo p e below A0 s₁ (mkF m 3 #[.val (.long q1), .second, .val (.long q2), .second, iv p1, iv p2, iv p3, .unset, .unset, .unset, .unset, .unset, .unset, .unset, .unset, .unset, .unset, .unset, .unset, .unset] [(.int p1), (.long q1)]) := fun t k => K t (XS.iload X0.here hx rfl (hb hby at_1) rfl k)
  replace K : OGo p e below A0 s₁ (mkF m 5 #[.val (.long q1), .second, .val (.long q2), .second, iv p1, iv p2, iv p3, .unset, .unset, .unset, .unset, .unset, .unset, .unset, .unset, .unset, .unset, .unset, .unset, .unset] [(.int 63), (.int p1), (.long q1)]) := fun t k => K t (XS.bipush X0.here hx rfl (hb hby at_3) k)
  replace K : OGo p e below A0 s₁ (mkF m 6 #[.val (.long q1), .second, .val (.long q2), .second, iv p1, iv p2, iv p3, .unset, .unset, .unset, .unset, .unset, .unset, .unset, .unset, .unset, .unset, .unset, .unset, .unset] [(.int (p1 &&& (63 : Int32))), (.long q1)]) := fun t k => K t (XS.iand X0.here hx rfl (hb hby at_5) rfl k)
  replace K : OGo p e below A0 s₁ (mkF m 7 #[.val (.long q1), .second, .val (.long q2), .second, iv p1, iv p2, iv p3, .unset, .unset, .unset, .unset, .unset, .unset, .unset, .unset, .unset, .unset, .unset, .unset, .unset] [(.long (q1 >>> ((p1 &&& (63 : Int32)) &&& 0x3f).toInt64))]) := fun t k => K t (XS.lshr X0.here hx rfl (hb hby at_6) rfl k)
  obtain ⟨a, hv_a⟩ : ∃ z : Int64, z = (q1 >>> ((p1 &&& (63 : Int32)) &&& 0x3f).toInt64) := ⟨_, rfl⟩
  rw [← hv_a] at K
  replace K : OGo p e below A0 s₁ (mkF m 9 #[.val (.long q1), .second, .val (.long q2), .second, iv p1, iv p2, iv p3, .val (.long a), .second, .unset, .unset, .unset, .unset, .unset, .unset, .unset, .unset, .unset, .unset, .unset] []) := fun t k => K t (XS.lstore X0.here hx rfl (hb hby at_7) rfl (l' := #[.val (.long q1), .second, .val (.long q2), .second, iv p1, iv p2, iv p3, .val (.long a), .second, .unset, .unset, .unset, .unset, .unset, .unset, .unset, .unset, .unset, .unset, .unset]) rfl k)
  replace K : OGo p e below A0 s₁ (mkF m 10 #[.val (.long q1), .second, .val (.long q2), .second, iv p1, iv p2, iv p3, .val (.long a), .second, .unset, .unset, .unset, .unset, .unset, .unset, .unset, .unset, .unset, .unset, .unset] [(.long q2)]) := fun t k => K t (XS.lloadN X0.here hx rfl (hb hby at_9) rfl k)
  replace K : OGo p e below A0 s₁ (mkF m 12 #[.val (.long q1), .second, .val (.long q2), .second, iv p1, iv p2, iv p3, .val (.long a), .second, .unset, .unset, .unset, .unset, .unset, .unset, .unset, .unset, .unset, .unset, .unset] [(.int p2), (.long q2)]) := fun t k => K t (XS.iload X0.here hx rfl (hb hby at_10) rfl k)
  replace K : OGo p e below A0 s₁ (mkF m 14 #[.val (.long q1), .second, .val (.long q2), .second, iv p1, iv p2, iv p3, .val (.long a), .second, .unset, .unset, .unset, .unset, .unset, .unset, .unset, .unset, .unset, .unset, .unset] [(.int 63), (.int p2), (.long q2)]) := fun t k => K t (XS.bipush X0.here hx rfl (hb hby at_12) k)
  replace K : OGo p e below A0 s₁ (mkF m 15 #[.val (.long q1), .second, .val (.long q2), .second, iv p1, iv p2, iv p3, .val (.long a), .second, .unset, .unset, .unset, .unset, .unset, .unset, .unset, .unset, .unset, .unset, .unset] [(.int (p2 &&& (63 : Int32))), (.long q2)]) := fun t k => K t (XS.iand X0.here hx rfl (hb hby at_14) rfl k)
  replace K : OGo p e below A0 s₁ (mkF m 16 #[.val (.long q1), .second, .val (.long q2), .second, iv p1, iv p2, iv p3, .val (.long a), .second, .unset, .unset, .unset, .unset, .unset, .unset, .unset, .unset, .unset, .unset, .unset] [(.long (q2 >>> ((p2 &&& (63 : Int32)) &&& 0x3f).toInt64))]) := fun t k => K t (XS.lshr X0.here hx rfl (hb hby at_15) rfl k)
  obtain ⟨b, hv_b⟩ : ∃ z : Int64, z = (q2 >>> ((p2 &&& (63 : Int32)) &&& 0x3f).toInt64) := ⟨_, rfl⟩
  rw [← hv_b] at K
  replace K : OGo p e below A0 s₁ (mkF m 18 #[.val (.long q1), .second, .val (.long q2), .second, iv p1, iv p2, iv p3, .val (.long a), .second, .val (.long b), .second, .unset, .unset, .unset, .unset, .unset, .unset, .unset, .unset, .unset] []) := fun t k => K t (XS.lstore X0.here hx rfl (hb hby at_16) rfl (l' := #[.val (.long q1), .second, .val (.long q2), .second, iv p1, iv p2, iv p3, .val (.long a), .second, .val (.long b), .second, .unset, .unset, .unset, .unset, .unset, .unset, .unset, .unset, .unset]) rfl k)
  obtain ⟨T1, h1, X1, e1, E1, A1, D1, -, st1⟩ := newO X0 hx hZ hown (ow hw 0 rfl) (ow hw 1 rfl) (ow hw 2 rfl) e0 (g := (mkF m 18 #[.val (.long q1), .second, .val (.long q2), .second, iv p1, iv p2, iv p3, .val (.long a), .second, .val (.long b), .second, .unset, .unset, .unset, .unset, .unset, .unset, .unset, .unset, .unset] [])) rfl (hb hby at_18) (by decide) (by decide)
  obtain ⟨b1, gz1⟩ : ∃ z, z = h0.size := ⟨_, rfl⟩
  rw [← gz1] at A1 D1 st1
  have g_b1 : n0 ≤ b1 := Nat.le_trans Z0 (Nat.le_of_eq gz1.symm)
  have Z1 : n0 ≤ h1.size := Nat.le_trans Z0 E1.1
  have F_room_b1 : Fld Z h1 b1 cN0 "room" "[B" .null := D1 (Or.inl (ow hw 11 rfl)) (ty := (.array .byte)) (by decide)
  have F_length_b1 : Fld Z h1 b1 cN0 "length" "I" (.int (0 : Int32)) := D1 (Or.inl (ow hw 18 rfl)) (ty := .int) (by decide)
  replace K : OGo p e below A0 T1 (mkF m 21 #[.val (.long q1), .second, .val (.long q2), .second, iv p1, iv p2, iv p3, .val (.long a), .second, .val (.long b), .second, .unset, .unset, .unset, .unset, .unset, .unset, .unset, .unset, .unset] [(.ref b1)]) := fun t k => K t (st1 t k)
  replace K : OGo p e below A0 T1 (mkF m 22 #[.val (.long q1), .second, .val (.long q2), .second, iv p1, iv p2, iv p3, .val (.long a), .second, .val (.long b), .second, .unset, .unset, .unset, .unset, .unset, .unset, .unset, .unset, .unset] [(.ref b1), (.ref b1)]) := fun t k => K t (XS.dup X1.here hx rfl (hb hby at_21) rfl rfl k)
  obtain ⟨_, _, ⟨T2, L2, k2, n2⟩, -, X2, ⟨Lc2, hQ2, l2, y2, z2⟩, st2⟩ := X1.specialBack hx (y := mN0) rfl hown (mvT hZ (ow hw 3 rfl)) (mvT hZ (ow hw 4 rfl)) (mvT hZ (ow hw 5 rfl)) (by decide) (backOf (W := 1) (rm_winit l Z a0 hw [] b1 h1 n0 Z1 A1 F_room_b1 F_length_b1 g_b1) hZ (ow hw 5 rfl) (ow hw 2 rfl) (by decide) (by decide)) (g := (mkF m 22 #[.val (.long q1), .second, .val (.long q2), .second, iv p1, iv p2, iv p3, .val (.long a), .second, .val (.long b), .second, .unset, .unset, .unset, .unset, .unset, .unset, .unset, .unset, .unset] [(.ref b1), (.ref b1)])) rfl (by rw [hml]; rfl) (Steps.refl _) (a := b1) (argsL := []) (rest := [(.ref b1)]) (lenOf pd___V rfl) rfl (by show 2 * 0 + _ ≤ _; exact Nat.le_of_eq rfl) (hb hby at_22) (fun _ _ => ⟨rfl, e1, (by decide : 1 + 1 ≤ _), (by decide : 2 + 256 ≤ _)⟩)
  dsimp only [Pt.U, Pt.locs, Pt.cells, Pt.slots] at X2 l2 y2 z2 st2 hQ2
  subst l2 y2 z2
  obtain ⟨hp2, e2⟩ : ∃ z, T2.heap = z := ⟨_, rfl⟩
  rw [e2] at hQ2
  obtain ⟨rfl, Nq2, rm_2, kk_2, K2, P2_0, P2_1, P2_2, P2_3⟩ := hQ2
  have ne_b1_rm_2 : b1 ≠ rm_2 := Nat.ne_of_lt (Nat.lt_of_lt_of_le A1.lt P2_0)
  have g_rm_2 : n0 ≤ rm_2 := Nat.le_trans Z1 P2_0
  have Z2 : n0 ≤ hp2.size := Nat.le_trans Z1 K2.1
  have N2 := Fr.app N0 Nq2
  replace K : OGo p e below A0 T2 (mkF m 25 #[.val (.long q1), .second, .val (.long q2), .second, iv p1, iv p2, iv p3, .val (.long a), .second, .val (.long b), .second, .unset, .unset, .unset, .unset, .unset, .unset, .unset, .unset, .unset] [(.ref b1)]) := fun t k => K t (st2.trans k)
  replace K : OGo p e below A0 T2 (mkF m 27 #[.val (.long q1), .second, .val (.long q2), .second, iv p1, iv p2, iv p3, .val (.long a), .second, .val (.long b), .second, rv b1, .unset, .unset, .unset, .unset, .unset, .unset, .unset, .unset] []) := fun t k => K t (XS.astore X2.here hx rfl (hb hby at_25) rfl rfl (l' := #[.val (.long q1), .second, .val (.long q2), .second, iv p1, iv p2, iv p3, .val (.long a), .second, .val (.long b), .second, rv b1, .unset, .unset, .unset, .unset, .unset, .unset, .unset, .unset]) rfl k)
  replace K : OGo p e below A0 T2 (mkF m 29 #[.val (.long q1), .second, .val (.long q2), .second, iv p1, iv p2, iv p3, .val (.long a), .second, .val (.long b), .second, rv b1, .unset, .unset, .unset, .unset, .unset, .unset, .unset, .unset] [(.ref b1)]) := fun t k => K t (XS.aload X2.here hx rfl (hb hby at_27) rfl rfl k)
  replace K : OGo p e below A0 T2 (mkF m 31 #[.val (.long q1), .second, .val (.long q2), .second, iv p1, iv p2, iv p3, .val (.long a), .second, .val (.long b), .second, rv b1, .unset, .unset, .unset, .unset, .unset, .unset, .unset, .unset] [(.long a), (.ref b1)]) := fun t k => K t (XS.lload X2.here hx rfl (hb hby at_29) rfl k)
  have A1_4 := (A1.keep K2)
  obtain ⟨cq3, kq3, qv3a, qv3b, qv3c⟩ := isOf hZ e2 A1_4
  obtain ⟨_, _, ⟨T3, L3, k3, n3⟩, -, X3, ⟨Lc3, hQ3, l3, y3, z3⟩, st3⟩ := X2.virtualBack hx (y := mN1) (z := mN1) hown (mvT hZ (ow hw 12 rfl)) (mvT hZ (ow hw 13 rfl)) (notFace_of_selects (args := #[]) (mvT hZ (ow hw 15 rfl))) (mvT hZ (ow hw 15 rfl)) (mvT hZ (ow hw 14 rfl)) (by decide) (backOf (W := 0) (rm_put l Z a0 hw [] b1 a rm_2 kk_2 (0 : Int32) (List.replicate 256 (.int (0 : Int32))) hp2 n0 Z2 A1_4 P2_1 P2_2 P2_3 g_b1 g_rm_2 ne_b1_rm_2 (by simp) (own_frep 256) (by decide)) hZ (ow hw 16 rfl) (ow hw 2 rfl) (by decide) (by decide)) qv3a qv3c (g := (mkF m 31 #[.val (.long q1), .second, .val (.long q2), .second, iv p1, iv p2, iv p3, .val (.long a), .second, .val (.long b), .second, rv b1, .unset, .unset, .unset, .unset, .unset, .unset, .unset, .unset] [(.long a), (.ref b1)])) rfl (by rw [hml]; rfl) (Steps.refl _) (argsL := [(.long a)]) (rest := []) (lenOf pd__J_V rfl) rfl (by show 2 * 0 + _ ≤ _; exact Nat.le_of_eq rfl) (hb hby at_31) (fun _ _ => ⟨rfl, e2, (by decide : 2 + 0 ≤ _), (by decide : 258 + 0 ≤ _)⟩)
  dsimp only [Pt.U, Pt.locs, Pt.cells, Pt.slots] at X3 l3 y3 z3 st3 hQ3
  subst l3 y3 z3
  obtain ⟨hp3, e3⟩ : ∃ z, T3.heap = z := ⟨_, rfl⟩
  rw [e3] at hQ3
  obtain ⟨rfl, Nq3, lv2_3, len2_3, K3, P3_0, P3_1, P3_2, P3_3⟩ := hQ3
  have Z3 : n0 ≤ hp3.size := Nat.le_trans Z2 K3.1
  have N3 := Fr.app N2 Nq3
  replace K : OGo p e below A0 T3 (mkF m 34 #[.val (.long q1), .second, .val (.long q2), .second, iv p1, iv p2, iv p3, .val (.long a), .second, .val (.long b), .second, rv b1, .unset, .unset, .unset, .unset, .unset, .unset, .unset, .unset] []) := fun t k => K t (st3.trans k)
  have hW1 := P3_3
  have hB1 := own_wlen hW1 (k := 0) (by decide)
  replace K : OGo p e below A0 T3 (mkF m 36 #[.val (.long q1), .second, .val (.long q2), .second, iv p1, iv p2, iv p3, .val (.long a), .second, .val (.long b), .second, rv b1, .unset, .unset, .unset, .unset, .unset, .unset, .unset, .unset] [(.ref b1)]) := fun t k => K t (XS.aload X3.here hx rfl (hb hby at_34) rfl rfl k)
  replace K : OGo p e below A0 T3 (mkF m 38 #[.val (.long q1), .second, .val (.long q2), .second, iv p1, iv p2, iv p3, .val (.long a), .second, .val (.long b), .second, rv b1, .unset, .unset, .unset, .unset, .unset, .unset, .unset, .unset] [(.long b), (.ref b1)]) := fun t k => K t (XS.lload X3.here hx rfl (hb hby at_36) rfl k)
  have A1_6 := (A1_4.keep K3)
  obtain ⟨cq5, kq5, qv5a, qv5b, qv5c⟩ := isOf hZ e3 A1_6
  obtain ⟨_, _, ⟨T5, L5, k5, n5⟩, -, X5, ⟨Lc5, hQ5, l5, y5, z5⟩, st5⟩ := X3.virtualBack hx (y := mN1) (z := mN1) hown (mvT hZ (ow hw 12 rfl)) (mvT hZ (ow hw 13 rfl)) (notFace_of_selects (args := #[]) (mvT hZ (ow hw 15 rfl))) (mvT hZ (ow hw 15 rfl)) (mvT hZ (ow hw 14 rfl)) (by decide) (backOf (W := 0) (rm_put l Z a0 hw [] b1 b rm_2 kk_2 len2_3 lv2_3 hp3 n0 Z3 A1_6 P3_0 P3_1 P3_2 g_b1 g_rm_2 ne_b1_rm_2 hW1.1 hW1.2.1 (by omega)) hZ (ow hw 16 rfl) (ow hw 2 rfl) (by decide) (by decide)) qv5a qv5c (g := (mkF m 38 #[.val (.long q1), .second, .val (.long q2), .second, iv p1, iv p2, iv p3, .val (.long a), .second, .val (.long b), .second, rv b1, .unset, .unset, .unset, .unset, .unset, .unset, .unset, .unset] [(.long b), (.ref b1)])) rfl (by rw [hml]; rfl) (Steps.refl _) (argsL := [(.long b)]) (rest := []) (lenOf pd__J_V rfl) rfl (by show 2 * 0 + _ ≤ _; exact Nat.le_of_eq rfl) (hb hby at_38) (fun _ _ => ⟨rfl, e3, (by decide : 2 + 0 ≤ _), (by decide : 258 + 0 ≤ _)⟩)
  dsimp only [Pt.U, Pt.locs, Pt.cells, Pt.slots] at X5 l5 y5 z5 st5 hQ5
  subst l5 y5 z5
  obtain ⟨hp5, e5⟩ : ∃ z, T5.heap = z := ⟨_, rfl⟩
  rw [e5] at hQ5
  obtain ⟨rfl, Nq5, lv2_5, len2_5, K5, P5_0, P5_1, P5_2, P5_3⟩ := hQ5
  have Z5 : n0 ≤ hp5.size := Nat.le_trans Z3 K5.1
  have N5 := Fr.app N3 Nq5
  replace K : OGo p e below A0 T5 (mkF m 41 #[.val (.long q1), .second, .val (.long q2), .second, iv p1, iv p2, iv p3, .val (.long a), .second, .val (.long b), .second, rv b1, .unset, .unset, .unset, .unset, .unset, .unset, .unset, .unset] []) := fun t k => K t (st5.trans k)
  have hW2 := P5_3
  have hB2 := own_wlen hW2 hB1
  replace K : OGo p e below A0 T5 (mkF m 43 #[.val (.long q1), .second, .val (.long q2), .second, iv p1, iv p2, iv p3, .val (.long a), .second, .val (.long b), .second, rv b1, .unset, .unset, .unset, .unset, .unset, .unset, .unset, .unset] [(.ref b1)]) := fun t k => K t (XS.aload X5.here hx rfl (hb hby at_41) rfl rfl k)
  replace K : OGo p e below A0 T5 (mkF m 45 #[.val (.long q1), .second, .val (.long q2), .second, iv p1, iv p2, iv p3, .val (.long a), .second, .val (.long b), .second, rv b1, .unset, .unset, .unset, .unset, .unset, .unset, .unset, .unset] [(.int p3), (.ref b1)]) := fun t k => K t (XS.iload X5.here hx rfl (hb hby at_43) rfl k)
  have A1_8 := (A1_6.keep K5)
  obtain ⟨cq7, kq7, qv7a, qv7b, qv7c⟩ := isOf hZ e5 A1_8
  obtain ⟨_, _, ⟨T7, L7, k7, n7⟩, -, X7, ⟨Lc7, hQ7, l7, y7, z7⟩, st7⟩ := X5.virtualBack hx (y := mN2) (z := mN2) hown (mvT hZ (ow hw 20 rfl)) (mvT hZ (ow hw 21 rfl)) (notFace_of_selects (args := #[]) (mvT hZ (ow hw 23 rfl))) (mvT hZ (ow hw 23 rfl)) (mvT hZ (ow hw 22 rfl)) (by decide) (backOf (W := 0) (rm_puti l Z a0 hw [] b1 p3 rm_2 kk_2 len2_5 lv2_5 hp5 n0 Z5 A1_8 P5_0 P5_1 P5_2 g_b1 g_rm_2 ne_b1_rm_2 hW2.1 hW2.2.1 (by omega)) hZ (ow hw 24 rfl) (ow hw 2 rfl) (by decide) (by decide)) qv7a qv7c (g := (mkF m 45 #[.val (.long q1), .second, .val (.long q2), .second, iv p1, iv p2, iv p3, .val (.long a), .second, .val (.long b), .second, rv b1, .unset, .unset, .unset, .unset, .unset, .unset, .unset, .unset] [(.int p3), (.ref b1)])) rfl (by rw [hml]; rfl) (Steps.refl _) (argsL := [(.int p3)]) (rest := []) (lenOf pd__I_V rfl) rfl (by show 2 * 0 + _ ≤ _; exact Nat.le_of_eq rfl) (hb hby at_45) (fun _ _ => ⟨rfl, e5, (by decide : 2 + 0 ≤ _), (by decide : 258 + 0 ≤ _)⟩)
  dsimp only [Pt.U, Pt.locs, Pt.cells, Pt.slots] at X7 l7 y7 z7 st7 hQ7
  subst l7 y7 z7
  obtain ⟨hp7, e7⟩ : ∃ z, T7.heap = z := ⟨_, rfl⟩
  rw [e7] at hQ7
  obtain ⟨rfl, Nq7, lv2_7, len2_7, K7, P7_0, P7_1, P7_2, P7_3⟩ := hQ7
  have Z7 : n0 ≤ hp7.size := Nat.le_trans Z5 K7.1
  have N7 := Fr.app N5 Nq7
  replace K : OGo p e below A0 T7 (mkF m 48 #[.val (.long q1), .second, .val (.long q2), .second, iv p1, iv p2, iv p3, .val (.long a), .second, .val (.long b), .second, rv b1, .unset, .unset, .unset, .unset, .unset, .unset, .unset, .unset] []) := fun t k => K t (st7.trans k)
  have hW3 := P7_3
  have hB3 := own_wlen hW3 hB2
  obtain ⟨hA1, hA2, hA3, hA4, hA5, hA6, hA7, hA8, hA9, hA10⟩ := own_all hW1 hW2 hW3
  replace K : OGo p e below A0 T7 (mkF m 50 #[.val (.long q1), .second, .val (.long q2), .second, iv p1, iv p2, iv p3, .val (.long a), .second, .val (.long b), .second, rv b1, .unset, .unset, .unset, .unset, .unset, .unset, .unset, .unset] [(.ref b1)]) := fun t k => K t (XS.aload X7.here hx rfl (hb hby at_48) rfl rfl k)
  have A1_10 := (A1_8.keep K7)
  obtain ⟨cq9, kq9, qv9a, qv9b, qv9c⟩ := isOf hZ e7 A1_10
  obtain ⟨_, _, ⟨T9, L9, k9, n9⟩, -, X9, ⟨Lc9, hQ9, l9, y9, z9⟩, st9⟩ := X7.virtualBack hx (y := mN5) (z := mN5) hown (mvT hZ (ow hw 26 rfl)) (mvT hZ (ow hw 27 rfl)) (notFace_of_selects (args := #[]) (mvT hZ (ow hw 29 rfl))) (mvT hZ (ow hw 29 rfl)) (mvT hZ (ow hw 28 rfl)) (by decide) (backOf (W := 0) (rm_key l Z a0 hw [] b1 rm_2 kk_2 len2_7 lv2_7 hp7 n0 Z7 A1_10 P7_0 P7_1 P7_2 g_b1 g_rm_2 ne_b1_rm_2 hW3.1 hW3.2.1 (by omega)) hZ (ow hw 30 rfl) (ow hw 2 rfl) (by decide) (by decide)) qv9a qv9c (g := (mkF m 50 #[.val (.long q1), .second, .val (.long q2), .second, iv p1, iv p2, iv p3, .val (.long a), .second, .val (.long b), .second, rv b1, .unset, .unset, .unset, .unset, .unset, .unset, .unset, .unset] [(.ref b1)])) rfl (by rw [hml]; rfl) (Steps.refl _) (argsL := []) (rest := []) (lenOf pd____B rfl) rfl (by show 2 * 0 + _ ≤ _; exact Nat.le_of_eq rfl) (hb hby at_50) (fun _ _ => ⟨rfl, e7, (by decide : 2 + 1 ≤ _), (by decide : 258 + 256 ≤ _)⟩)
  dsimp only [Pt.U, Pt.locs, Pt.cells, Pt.slots] at X9 l9 y9 z9 st9 hQ9
  subst l9 y9 z9
  obtain ⟨hp9, e9⟩ : ∃ z, T9.heap = z := ⟨_, rfl⟩
  rw [e9] at hQ9
  obtain ⟨kb_9, kc_9, rfl, Nq9, K9, P9_0, P9_1⟩ := hQ9
  have ne_b1_kb_9 : b1 ≠ kb_9 := Nat.ne_of_lt (Nat.lt_of_lt_of_le A1_10.lt P9_0)
  have ne_rm_2_kb_9 : rm_2 ≠ kb_9 := Nat.ne_of_lt (Nat.lt_of_lt_of_le P7_2.lt P9_0)
  have g_kb_9 : n0 ≤ kb_9 := Nat.le_trans Z7 P9_0
  have Z9 : n0 ≤ hp9.size := Nat.le_trans Z7 K9.1
  have N9 := Fr.app N7 Nq9
  replace K : OGo p e below A0 T9 (mkF m 53 #[.val (.long q1), .second, .val (.long q2), .second, iv p1, iv p2, iv p3, .val (.long a), .second, .val (.long b), .second, rv b1, .unset, .unset, .unset, .unset, .unset, .unset, .unset, .unset] [(.ref kb_9)]) := fun t k => K t (st9.trans k)
  replace K : OGo p e below A0 T9 (mkF m 55 #[.val (.long q1), .second, .val (.long q2), .second, iv p1, iv p2, iv p3, .val (.long a), .second, .val (.long b), .second, rv b1, rv kb_9, .unset, .unset, .unset, .unset, .unset, .unset, .unset] []) := fun t k => K t (XS.astore X9.here hx rfl (hb hby at_53) rfl rfl (l' := #[.val (.long q1), .second, .val (.long q2), .second, iv p1, iv p2, iv p3, .val (.long a), .second, .val (.long b), .second, rv b1, rv kb_9, .unset, .unset, .unset, .unset, .unset, .unset, .unset]) rfl k)
  obtain ⟨T11, h11, X11, e11, E11, A11, D11, -, st11⟩ := newO X9 hx hZ hown (ow hw 44 rfl) (ow hw 45 rfl) (ow hw 46 rfl) e9 (g := (mkF m 55 #[.val (.long q1), .second, .val (.long q2), .second, iv p1, iv p2, iv p3, .val (.long a), .second, .val (.long b), .second, rv b1, rv kb_9, .unset, .unset, .unset, .unset, .unset, .unset, .unset] [])) rfl (hb hby at_55) (by decide) (by decide)
  obtain ⟨b11, gz11⟩ : ∃ z, z = hp9.size := ⟨_, rfl⟩
  rw [← gz11] at A11 D11 st11
  have A1_12 := (A1_10.keep K9)
  have ne_b1_b11 : b1 ≠ b11 := Nat.ne_of_lt (Nat.lt_of_lt_of_le A1_12.lt (Nat.le_of_eq gz11.symm))
  have V_rm_2_13 := (P7_2.keep K9 (ninS (Ne.symm ne_b1_rm_2) nin0))
  have ne_rm_2_b11 : rm_2 ≠ b11 := Nat.ne_of_lt (Nat.lt_of_lt_of_le V_rm_2_13.lt (Nat.le_of_eq gz11.symm))
  have ne_kb_9_b11 : kb_9 ≠ b11 := Nat.ne_of_lt (Nat.lt_of_lt_of_le P9_1.lt (Nat.le_of_eq gz11.symm))
  have g_b11 : n0 ≤ b11 := Nat.le_trans Z9 (Nat.le_of_eq gz11.symm)
  have Z11 : n0 ≤ h11.size := Nat.le_trans Z9 E11.1
  have F_key_b11 : Fld Z h11 b11 cN1 "key" "[B" .null := D11 (Or.inr (ow hw 52 rfl)) (ty := (.array .byte)) (by decide)
  have F_at_b11 : Fld Z h11 b11 cN1 "at" "I" (.int (0 : Int32)) := D11 (Or.inl (ow hw 59 rfl)) (ty := .int) (by decide)
  replace K : OGo p e below A0 T11 (mkF m 58 #[.val (.long q1), .second, .val (.long q2), .second, iv p1, iv p2, iv p3, .val (.long a), .second, .val (.long b), .second, rv b1, rv kb_9, .unset, .unset, .unset, .unset, .unset, .unset, .unset] [(.ref b11)]) := fun t k => K t (st11 t k)
  replace K : OGo p e below A0 T11 (mkF m 59 #[.val (.long q1), .second, .val (.long q2), .second, iv p1, iv p2, iv p3, .val (.long a), .second, .val (.long b), .second, rv b1, rv kb_9, .unset, .unset, .unset, .unset, .unset, .unset, .unset] [(.ref b11), (.ref b11)]) := fun t k => K t (XS.dup X11.here hx rfl (hb hby at_58) rfl rfl k)
  replace K : OGo p e below A0 T11 (mkF m 61 #[.val (.long q1), .second, .val (.long q2), .second, iv p1, iv p2, iv p3, .val (.long a), .second, .val (.long b), .second, rv b1, rv kb_9, .unset, .unset, .unset, .unset, .unset, .unset, .unset] [(.ref kb_9), (.ref b11), (.ref b11)]) := fun t k => K t (XS.aload X11.here hx rfl (hb hby at_59) rfl rfl k)
  obtain ⟨_, _, ⟨T14, L14, k14, n14⟩, -, X14, ⟨Lc14, hQ14, l14, y14, z14⟩, st14⟩ := X11.specialBack hx (y := mN6) rfl hown (mvT hZ (ow hw 47 rfl)) (mvT hZ (ow hw 48 rfl)) (mvT hZ (ow hw 49 rfl)) (by decide) (backOf (W := 1) (rm_rinit l Z a0 hw [] b11 kb_9 h11 n0 Z11 A11 F_key_b11 F_at_b11 g_b11) hZ (ow hw 49 rfl) (ow hw 46 rfl) (by decide) (by decide)) (g := (mkF m 61 #[.val (.long q1), .second, .val (.long q2), .second, iv p1, iv p2, iv p3, .val (.long a), .second, .val (.long b), .second, rv b1, rv kb_9, .unset, .unset, .unset, .unset, .unset, .unset, .unset] [(.ref kb_9), (.ref b11), (.ref b11)])) rfl (by rw [hml]; rfl) (Steps.refl _) (a := b11) (argsL := [(.ref kb_9)]) (rest := [(.ref b11)]) (lenOf pd___B_V rfl) rfl (by show 2 * 0 + _ ≤ _; exact Nat.le_of_eq rfl) (hb hby at_61) (fun _ _ => ⟨rfl, e11, (by decide : 4 + 0 ≤ _), (by decide : 516 + 0 ≤ _)⟩)
  dsimp only [Pt.U, Pt.locs, Pt.cells, Pt.slots] at X14 l14 y14 z14 st14 hQ14
  subst l14 y14 z14
  obtain ⟨hp14, e14⟩ : ∃ z, T14.heap = z := ⟨_, rfl⟩
  rw [e14] at hQ14
  obtain ⟨rfl, Nq14, K14, P14_0, P14_1⟩ := hQ14
  have Z14 : n0 ≤ hp14.size := Nat.le_trans Z11 K14.1
  have N14 := Fr.app N9 Nq14
  replace K : OGo p e below A0 T14 (mkF m 64 #[.val (.long q1), .second, .val (.long q2), .second, iv p1, iv p2, iv p3, .val (.long a), .second, .val (.long b), .second, rv b1, rv kb_9, .unset, .unset, .unset, .unset, .unset, .unset, .unset] [(.ref b11)]) := fun t k => K t (st14.trans k)
  replace K : OGo p e below A0 T14 (mkF m 66 #[.val (.long q1), .second, .val (.long q2), .second, iv p1, iv p2, iv p3, .val (.long a), .second, .val (.long b), .second, rv b1, rv kb_9, rv b11, .unset, .unset, .unset, .unset, .unset, .unset] []) := fun t k => K t (XS.astore X14.here hx rfl (hb hby at_64) rfl rfl (l' := #[.val (.long q1), .second, .val (.long q2), .second, iv p1, iv p2, iv p3, .val (.long a), .second, .val (.long b), .second, rv b1, rv kb_9, rv b11, .unset, .unset, .unset, .unset, .unset, .unset]) rfl k)
  replace K : OGo p e below A0 T14 (mkF m 68 #[.val (.long q1), .second, .val (.long q2), .second, iv p1, iv p2, iv p3, .val (.long a), .second, .val (.long b), .second, rv b1, rv kb_9, rv b11, .unset, .unset, .unset, .unset, .unset, .unset] [(.ref b11)]) := fun t k => K t (XS.aload X14.here hx rfl (hb hby at_66) rfl rfl k)
  have A11_16 := (A11.keep K14)
  have V_kb_9_17 := ((P9_1.ext E11).keep K14 (ninS ne_kb_9_b11 nin0))
  obtain ⟨cq15, kq15, qv15a, qv15b, qv15c⟩ := isOf hZ e14 A11_16
  obtain ⟨_, _, ⟨T15, L15, k15, n15⟩, -, X15, ⟨Lc15, hQ15, l15, y15, z15⟩, st15⟩ := X14.virtualBack hx (y := mN7) (z := mN7) hown (mvT hZ (ow hw 53 rfl)) (mvT hZ (ow hw 54 rfl)) (notFace_of_selects (args := #[]) (mvT hZ (ow hw 56 rfl))) (mvT hZ (ow hw 56 rfl)) (mvT hZ (ow hw 55 rfl)) (by decide) (backOf (W := 0) (rm_nxt l Z a0 hw [] b11 kb_9 kc_9 (lv2_7.take len2_7.toNatClampNeg) [] ((own_bs 9 (own_zig b)) ++ ((own_bs 9 (own_zig p3.toInt64)) ++ [])) (own_zig a) (0 : Int32) len2_3 hp14 n0 Z14 A11_16 P14_0 P14_1 V_kb_9_17 g_b11 (Ne.symm ne_kb_9_b11) hA1 (by decide) ⟨hA4, by simp⟩) hZ (ow hw 57 rfl) (ow hw 46 rfl) (by decide) (by decide)) qv15a qv15c (g := (mkF m 68 #[.val (.long q1), .second, .val (.long q2), .second, iv p1, iv p2, iv p3, .val (.long a), .second, .val (.long b), .second, rv b1, rv kb_9, rv b11, .unset, .unset, .unset, .unset, .unset, .unset] [(.ref b11)])) rfl (by rw [hml]; rfl) (Steps.refl _) (argsL := []) (rest := []) (lenOf pd___J rfl) rfl (by show 2 * 0 + _ ≤ _; exact Nat.le_of_eq rfl) (hb hby at_68) (fun _ _ => ⟨rfl, e14, (by decide : 4 + 0 ≤ _), (by decide : 516 + 0 ≤ _)⟩)
  dsimp only [Pt.U, Pt.locs, Pt.cells, Pt.slots] at X15 l15 y15 z15 st15 hQ15
  subst l15 y15 z15
  obtain ⟨hp15, e15⟩ : ∃ z, T15.heap = z := ⟨_, rfl⟩
  rw [e15] at hQ15
  obtain ⟨rfl, Nq15, K15, P15_0, P15_1⟩ := hQ15
  have Z15 : n0 ≤ hp15.size := Nat.le_trans Z14 K15.1
  have N15 := Fr.app N14 Nq15
  replace K : OGo p e below A0 T15 (mkF m 71 #[.val (.long q1), .second, .val (.long q2), .second, iv p1, iv p2, iv p3, .val (.long a), .second, .val (.long b), .second, rv b1, rv kb_9, rv b11, .unset, .unset, .unset, .unset, .unset, .unset] [(.long (own_unz (own_zig a)))]) := fun t k => K t (st15.trans k)
  replace K : OGo p e below A0 T15 (mkF m 73 #[.val (.long q1), .second, .val (.long q2), .second, iv p1, iv p2, iv p3, .val (.long a), .second, .val (.long b), .second, rv b1, rv kb_9, rv b11, .val (.long (own_unz (own_zig a))), .second, .unset, .unset, .unset, .unset] []) := fun t k => K t (XS.lstore X15.here hx rfl (hb hby at_71) rfl (l' := #[.val (.long q1), .second, .val (.long q2), .second, iv p1, iv p2, iv p3, .val (.long a), .second, .val (.long b), .second, rv b1, rv kb_9, rv b11, .val (.long (own_unz (own_zig a))), .second, .unset, .unset, .unset, .unset]) rfl k)
  replace K : OGo p e below A0 T15 (mkF m 75 #[.val (.long q1), .second, .val (.long q2), .second, iv p1, iv p2, iv p3, .val (.long a), .second, .val (.long b), .second, rv b1, rv kb_9, rv b11, .val (.long (own_unz (own_zig a))), .second, .unset, .unset, .unset, .unset] [(.ref b11)]) := fun t k => K t (XS.aload X15.here hx rfl (hb hby at_73) rfl rfl k)
  have A11_19 := (A11_16.keep K15)
  have V_kb_9_20 := (V_kb_9_17.keep K15 (ninS ne_kb_9_b11 nin0))
  obtain ⟨cq18, kq18, qv18a, qv18b, qv18c⟩ := isOf hZ e15 A11_19
  obtain ⟨_, _, ⟨T18, L18, k18, n18⟩, -, X18, ⟨Lc18, hQ18, l18, y18, z18⟩, st18⟩ := X15.virtualBack hx (y := mN7) (z := mN7) hown (mvT hZ (ow hw 53 rfl)) (mvT hZ (ow hw 54 rfl)) (notFace_of_selects (args := #[]) (mvT hZ (ow hw 56 rfl))) (mvT hZ (ow hw 56 rfl)) (mvT hZ (ow hw 55 rfl)) (by decide) (backOf (W := 0) (rm_nxt l Z a0 hw [] b11 kb_9 kc_9 (lv2_7.take len2_7.toNatClampNeg) (own_bs 9 (own_zig a)) ((own_bs 9 (own_zig p3.toInt64)) ++ []) (own_zig b) len2_3 len2_5 hp15 n0 Z15 A11_19 P15_0 P15_1 V_kb_9_20 g_b11 (Ne.symm ne_kb_9_b11) hA2 hA5 ⟨hA6, hA9⟩) hZ (ow hw 57 rfl) (ow hw 46 rfl) (by decide) (by decide)) qv18a qv18c (g := (mkF m 75 #[.val (.long q1), .second, .val (.long q2), .second, iv p1, iv p2, iv p3, .val (.long a), .second, .val (.long b), .second, rv b1, rv kb_9, rv b11, .val (.long (own_unz (own_zig a))), .second, .unset, .unset, .unset, .unset] [(.ref b11)])) rfl (by rw [hml]; rfl) (Steps.refl _) (argsL := []) (rest := []) (lenOf pd___J rfl) rfl (by show 2 * 0 + _ ≤ _; exact Nat.le_of_eq rfl) (hb hby at_75) (fun _ _ => ⟨rfl, e15, (by decide : 4 + 0 ≤ _), (by decide : 516 + 0 ≤ _)⟩)
  dsimp only [Pt.U, Pt.locs, Pt.cells, Pt.slots] at X18 l18 y18 z18 st18 hQ18
  subst l18 y18 z18
  obtain ⟨hp18, e18⟩ : ∃ z, T18.heap = z := ⟨_, rfl⟩
  rw [e18] at hQ18
  obtain ⟨rfl, Nq18, K18, P18_0, P18_1⟩ := hQ18
  have Z18 : n0 ≤ hp18.size := Nat.le_trans Z15 K18.1
  have N18 := Fr.app N15 Nq18
  replace K : OGo p e below A0 T18 (mkF m 78 #[.val (.long q1), .second, .val (.long q2), .second, iv p1, iv p2, iv p3, .val (.long a), .second, .val (.long b), .second, rv b1, rv kb_9, rv b11, .val (.long (own_unz (own_zig a))), .second, .unset, .unset, .unset, .unset] [(.long (own_unz (own_zig b)))]) := fun t k => K t (st18.trans k)
  replace K : OGo p e below A0 T18 (mkF m 80 #[.val (.long q1), .second, .val (.long q2), .second, iv p1, iv p2, iv p3, .val (.long a), .second, .val (.long b), .second, rv b1, rv kb_9, rv b11, .val (.long (own_unz (own_zig a))), .second, .val (.long (own_unz (own_zig b))), .second, .unset, .unset] []) := fun t k => K t (XS.lstore X18.here hx rfl (hb hby at_78) rfl (l' := #[.val (.long q1), .second, .val (.long q2), .second, iv p1, iv p2, iv p3, .val (.long a), .second, .val (.long b), .second, rv b1, rv kb_9, rv b11, .val (.long (own_unz (own_zig a))), .second, .val (.long (own_unz (own_zig b))), .second, .unset, .unset]) rfl k)
  replace K : OGo p e below A0 T18 (mkF m 82 #[.val (.long q1), .second, .val (.long q2), .second, iv p1, iv p2, iv p3, .val (.long a), .second, .val (.long b), .second, rv b1, rv kb_9, rv b11, .val (.long (own_unz (own_zig a))), .second, .val (.long (own_unz (own_zig b))), .second, .unset, .unset] [(.ref b11)]) := fun t k => K t (XS.aload X18.here hx rfl (hb hby at_80) rfl rfl k)
  have A11_22 := (A11_19.keep K18)
  have V_kb_9_23 := (V_kb_9_20.keep K18 (ninS ne_kb_9_b11 nin0))
  obtain ⟨cq21, kq21, qv21a, qv21b, qv21c⟩ := isOf hZ e18 A11_22
  obtain ⟨_, _, ⟨T21, L21, k21, n21⟩, -, X21, ⟨Lc21, hQ21, l21, y21, z21⟩, st21⟩ := X18.virtualBack hx (y := mN7) (z := mN7) hown (mvT hZ (ow hw 53 rfl)) (mvT hZ (ow hw 54 rfl)) (notFace_of_selects (args := #[]) (mvT hZ (ow hw 56 rfl))) (mvT hZ (ow hw 56 rfl)) (mvT hZ (ow hw 55 rfl)) (by decide) (backOf (W := 0) (rm_nxt l Z a0 hw [] b11 kb_9 kc_9 (lv2_7.take len2_7.toNatClampNeg) ((own_bs 9 (own_zig a)) ++ (own_bs 9 (own_zig b))) [] (own_zig p3.toInt64) len2_5 len2_7 hp18 n0 Z18 A11_22 P18_0 P18_1 V_kb_9_23 g_b11 (Ne.symm ne_kb_9_b11) hA3 hA7 ⟨hA8, hA10⟩) hZ (ow hw 57 rfl) (ow hw 46 rfl) (by decide) (by decide)) qv21a qv21c (g := (mkF m 82 #[.val (.long q1), .second, .val (.long q2), .second, iv p1, iv p2, iv p3, .val (.long a), .second, .val (.long b), .second, rv b1, rv kb_9, rv b11, .val (.long (own_unz (own_zig a))), .second, .val (.long (own_unz (own_zig b))), .second, .unset, .unset] [(.ref b11)])) rfl (by rw [hml]; rfl) (Steps.refl _) (argsL := []) (rest := []) (lenOf pd___J rfl) rfl (by show 2 * 0 + _ ≤ _; exact Nat.le_of_eq rfl) (hb hby at_82) (fun _ _ => ⟨rfl, e18, (by decide : 4 + 0 ≤ _), (by decide : 516 + 0 ≤ _)⟩)
  dsimp only [Pt.U, Pt.locs, Pt.cells, Pt.slots] at X21 l21 y21 z21 st21 hQ21
  subst l21 y21 z21
  obtain ⟨hp21, e21⟩ : ∃ z, T21.heap = z := ⟨_, rfl⟩
  rw [e21] at hQ21
  obtain ⟨rfl, Nq21, K21, P21_0, P21_1⟩ := hQ21
  have Z21 : n0 ≤ hp21.size := Nat.le_trans Z18 K21.1
  have N21 := Fr.app N18 Nq21
  replace K : OGo p e below A0 T21 (mkF m 85 #[.val (.long q1), .second, .val (.long q2), .second, iv p1, iv p2, iv p3, .val (.long a), .second, .val (.long b), .second, rv b1, rv kb_9, rv b11, .val (.long (own_unz (own_zig a))), .second, .val (.long (own_unz (own_zig b))), .second, .unset, .unset] [(.long (own_unz (own_zig p3.toInt64)))]) := fun t k => K t (st21.trans k)
  replace K : OGo p e below A0 T21 (mkF m 87 #[.val (.long q1), .second, .val (.long q2), .second, iv p1, iv p2, iv p3, .val (.long a), .second, .val (.long b), .second, rv b1, rv kb_9, rv b11, .val (.long (own_unz (own_zig a))), .second, .val (.long (own_unz (own_zig b))), .second, .val (.long (own_unz (own_zig p3.toInt64))), .second] []) := fun t k => K t (XS.lstore X21.here hx rfl (hb hby at_85) rfl (l' := #[.val (.long q1), .second, .val (.long q2), .second, iv p1, iv p2, iv p3, .val (.long a), .second, .val (.long b), .second, rv b1, rv kb_9, rv b11, .val (.long (own_unz (own_zig a))), .second, .val (.long (own_unz (own_zig b))), .second, .val (.long (own_unz (own_zig p3.toInt64))), .second]) rfl k)
  replace K : OGo p e below A0 T21 (mkF m 89 #[.val (.long q1), .second, .val (.long q2), .second, iv p1, iv p2, iv p3, .val (.long a), .second, .val (.long b), .second, rv b1, rv kb_9, rv b11, .val (.long (own_unz (own_zig a))), .second, .val (.long (own_unz (own_zig b))), .second, .val (.long (own_unz (own_zig p3.toInt64))), .second] [(.long (own_unz (own_zig a)))]) := fun t k => K t (XS.lload X21.here hx rfl (hb hby at_87) rfl k)
  replace K : OGo p e below A0 T21 (mkF m 91 #[.val (.long q1), .second, .val (.long q2), .second, iv p1, iv p2, iv p3, .val (.long a), .second, .val (.long b), .second, rv b1, rv kb_9, rv b11, .val (.long (own_unz (own_zig a))), .second, .val (.long (own_unz (own_zig b))), .second, .val (.long (own_unz (own_zig p3.toInt64))), .second] [(.long a), (.long (own_unz (own_zig a)))]) := fun t k => K t (XS.lload X21.here hx rfl (hb hby at_89) rfl k)
  replace K : OGo p e below A0 T21 (mkF m 92 #[.val (.long q1), .second, .val (.long q2), .second, iv p1, iv p2, iv p3, .val (.long a), .second, .val (.long b), .second, rv b1, rv kb_9, rv b11, .val (.long (own_unz (own_zig a))), .second, .val (.long (own_unz (own_zig b))), .second, .val (.long (own_unz (own_zig p3.toInt64))), .second] [(.int (lcmpW (own_unz (own_zig a)) a))]) := fun t k => K t (XS.lcmp X21.here hx rfl (hb hby at_91) rfl k)
  replace K : OGo p e below A0 T21 (mkF m 95 #[.val (.long q1), .second, .val (.long q2), .second, iv p1, iv p2, iv p3, .val (.long a), .second, .val (.long b), .second, rv b1, rv kb_9, rv b11, .val (.long (own_unz (own_zig a))), .second, .val (.long (own_unz (own_zig b))), .second, .val (.long (own_unz (own_zig p3.toInt64))), .second] []) := fun t k => K t (XS.ifNo X21.here hx rfl (hb hby at_92) rfl ((if0 _ _).trans (teq ((lw_eq (own_unz (own_zig a)) a).mpr ((own_unzig a)))).2) k)
  replace K : OGo p e below A0 T21 (mkF m 97 #[.val (.long q1), .second, .val (.long q2), .second, iv p1, iv p2, iv p3, .val (.long a), .second, .val (.long b), .second, rv b1, rv kb_9, rv b11, .val (.long (own_unz (own_zig a))), .second, .val (.long (own_unz (own_zig b))), .second, .val (.long (own_unz (own_zig p3.toInt64))), .second] [(.long (own_unz (own_zig b)))]) := fun t k => K t (XS.lload X21.here hx rfl (hb hby at_95) rfl k)
  replace K : OGo p e below A0 T21 (mkF m 99 #[.val (.long q1), .second, .val (.long q2), .second, iv p1, iv p2, iv p3, .val (.long a), .second, .val (.long b), .second, rv b1, rv kb_9, rv b11, .val (.long (own_unz (own_zig a))), .second, .val (.long (own_unz (own_zig b))), .second, .val (.long (own_unz (own_zig p3.toInt64))), .second] [(.long b), (.long (own_unz (own_zig b)))]) := fun t k => K t (XS.lload X21.here hx rfl (hb hby at_97) rfl k)
  replace K : OGo p e below A0 T21 (mkF m 100 #[.val (.long q1), .second, .val (.long q2), .second, iv p1, iv p2, iv p3, .val (.long a), .second, .val (.long b), .second, rv b1, rv kb_9, rv b11, .val (.long (own_unz (own_zig a))), .second, .val (.long (own_unz (own_zig b))), .second, .val (.long (own_unz (own_zig p3.toInt64))), .second] [(.int (lcmpW (own_unz (own_zig b)) b))]) := fun t k => K t (XS.lcmp X21.here hx rfl (hb hby at_99) rfl k)
  replace K : OGo p e below A0 T21 (mkF m 103 #[.val (.long q1), .second, .val (.long q2), .second, iv p1, iv p2, iv p3, .val (.long a), .second, .val (.long b), .second, rv b1, rv kb_9, rv b11, .val (.long (own_unz (own_zig a))), .second, .val (.long (own_unz (own_zig b))), .second, .val (.long (own_unz (own_zig p3.toInt64))), .second] []) := fun t k => K t (XS.ifNo X21.here hx rfl (hb hby at_100) rfl ((if0 _ _).trans (teq ((lw_eq (own_unz (own_zig b)) b).mpr ((own_unzig b)))).2) k)
  replace K : OGo p e below A0 T21 (mkF m 105 #[.val (.long q1), .second, .val (.long q2), .second, iv p1, iv p2, iv p3, .val (.long a), .second, .val (.long b), .second, rv b1, rv kb_9, rv b11, .val (.long (own_unz (own_zig a))), .second, .val (.long (own_unz (own_zig b))), .second, .val (.long (own_unz (own_zig p3.toInt64))), .second] [(.long (own_unz (own_zig p3.toInt64)))]) := fun t k => K t (XS.lload X21.here hx rfl (hb hby at_103) rfl k)
  replace K : OGo p e below A0 T21 (mkF m 107 #[.val (.long q1), .second, .val (.long q2), .second, iv p1, iv p2, iv p3, .val (.long a), .second, .val (.long b), .second, rv b1, rv kb_9, rv b11, .val (.long (own_unz (own_zig a))), .second, .val (.long (own_unz (own_zig b))), .second, .val (.long (own_unz (own_zig p3.toInt64))), .second] [(.int p3), (.long (own_unz (own_zig p3.toInt64)))]) := fun t k => K t (XS.iload X21.here hx rfl (hb hby at_105) rfl k)
  replace K : OGo p e below A0 T21 (mkF m 108 #[.val (.long q1), .second, .val (.long q2), .second, iv p1, iv p2, iv p3, .val (.long a), .second, .val (.long b), .second, rv b1, rv kb_9, rv b11, .val (.long (own_unz (own_zig a))), .second, .val (.long (own_unz (own_zig b))), .second, .val (.long (own_unz (own_zig p3.toInt64))), .second] [(.long (p3.toInt64)), (.long (own_unz (own_zig p3.toInt64)))]) := fun t k => K t (XS.i2l X21.here hx rfl (hb hby at_107) rfl k)
  replace K : OGo p e below A0 T21 (mkF m 109 #[.val (.long q1), .second, .val (.long q2), .second, iv p1, iv p2, iv p3, .val (.long a), .second, .val (.long b), .second, rv b1, rv kb_9, rv b11, .val (.long (own_unz (own_zig a))), .second, .val (.long (own_unz (own_zig b))), .second, .val (.long (own_unz (own_zig p3.toInt64))), .second] [(.int (lcmpW (own_unz (own_zig p3.toInt64)) (p3.toInt64)))]) := fun t k => K t (XS.lcmp X21.here hx rfl (hb hby at_108) rfl k)
  replace K : OGo p e below A0 T21 (mkF m 112 #[.val (.long q1), .second, .val (.long q2), .second, iv p1, iv p2, iv p3, .val (.long a), .second, .val (.long b), .second, rv b1, rv kb_9, rv b11, .val (.long (own_unz (own_zig a))), .second, .val (.long (own_unz (own_zig b))), .second, .val (.long (own_unz (own_zig p3.toInt64))), .second] []) := fun t k => K t (XS.ifNo X21.here hx rfl (hb hby at_109) rfl ((if0 _ _).trans (teq ((lw_eq (own_unz (own_zig p3.toInt64)) (p3.toInt64)).mpr ((own_unzig _)))).2) k)
  replace K : OGo p e below A0 T21 (mkF m 113 #[.val (.long q1), .second, .val (.long q2), .second, iv p1, iv p2, iv p3, .val (.long a), .second, .val (.long b), .second, rv b1, rv kb_9, rv b11, .val (.long (own_unz (own_zig a))), .second, .val (.long (own_unz (own_zig b))), .second, .val (.long (own_unz (own_zig p3.toInt64))), .second] [(.int 1)]) := fun t k => K t (XS.iconst X21.here hx rfl (hb hby at_112) k)
  replace K : OGo p e below A0 T21 (mkF m 117 #[.val (.long q1), .second, .val (.long q2), .second, iv p1, iv p2, iv p3, .val (.long a), .second, .val (.long b), .second, rv b1, rv kb_9, rv b11, .val (.long (own_unz (own_zig a))), .second, .val (.long (own_unz (own_zig b))), .second, .val (.long (own_unz (own_zig p3.toInt64))), .second] [(.int 1)]) := fun t k => K t (XS.goto X21.here hx rfl (pc0 := 113) (pc' := 117) rfl (hb hby at_113) (by decide) (by decide) k)
  obtain ⟨fs, hr, hrun, hended, hW, hsame⟩ := X21.leave (v := some (.int (1 : Int32))) (fun h => by rw [Bd.returns] at h; cases h)
  subst hA0
  refine ⟨_, _, K _ (retN X21 hx (t := .boolean) Bd.returns (by simp) (hb hby at_117) hr), hrun, hended, _, _, rfl, ?_, ⟨_, rfl⟩, hW, hsame.mono (by decide) (by decide)⟩
  show Q_law Z q1 q2 p1 p2 p3 h0 n0 _ T21.heap _
  rw [e21]
  exact ⟨rfl, N21⟩
set_option maxRecDepth 65536 in
set_option maxHeartbeats 40000000 in
theorem comes_1 {Post : Tables → Env → Array Value → State → Outcome → State → Prop} (hpost : ∀ tb e args s v u, (limb_1_1.after args s (.returned v) u = true ∧ limb_1_2.after args s (.returned v) u = true ∧ True) → FrameEnd s (.returned v) u (Jvm.fieldLocs frame_1_writes args s ++ Jvm.arrayLocs frame_1_arrays args s ++ Jvm.staticLocs frame_1_statics s) 16 640 → Post tb e args s (.returned v) u) :
    ArmFor flags0 classFile x code maxLocals ret World_1 tables_1 room_1 Calls_1 rest_1 Pre_1 Post := by
  intro l hfl _ _ p e ha hc hk s m args below hf hA hF happ hP
  obtain ⟨hcalls, hrest, hpre⟩ := hP
  obtain ⟨-, -, -, hnamed, -, -, -, hat⟩ := (Spec.applies_iff hf).mp happ
  obtain ⟨hg, hn⟩ := and_e (Cond.before_iff.mp (show (Jvm.Cond.and given_1 narrow_1).before args s = true from hpre))
  obtain ⟨gv1, gv2⟩ := and_e hg
  obtain ⟨gv3, gv4⟩ := and_e gv2
  obtain ⟨gv5, gv6⟩ := and_e gv4
  obtain ⟨gv7, gv8⟩ := and_e gv6
  obtain ⟨gv9, gv10⟩ := and_e gv8
  obtain ⟨w0, w1, w2, w3, w4, rfl⟩ : ∃ w0 w1 w2 w3 w4 : Value, args = #[w0, w1, w2, w3, w4] := by
    have hs : args.size = 5 := by simpa [Cond.value, given_1] using gv1
    obtain ⟨L⟩ := args
    match L, hs with
    | [w0, w1, w2, w3, w4], _ => exact ⟨w0, w1, w2, w3, w4, rfl⟩
  have hw := fun d (hd : d ∈ tables_1) => atoms_spec (ws := Jvm.Cond.code x code maxLocals ret :: tables_1) hat d (List.mem_cons_of_mem _ hd)
  have hfit : Fit s := fun {y c} hc i hi => by
    obtain ⟨ha, rfl⟩ := Array.getElem?_eq_some_iff.mp hc
    have q := List.all_eq_true.mp ((Array.all_eq_true_iff_forall_mem.mp hF) _ (Array.getElem_mem ha)) i (List.mem_range.mpr hi)
    simpa [Array.getElem?_eq_getElem hi] using q
  obtain ⟨i0, ei0⟩ := isL_v gv3
  obtain rfl : w0 = (.long i0) := Option.some.inj ei0
  obtain ⟨i1, ei1⟩ := isL_v gv5
  obtain rfl : w1 = (.long i1) := Option.some.inj ei1
  obtain ⟨i2, ei2⟩ := is_v gv7
  obtain rfl : w2 = (.int i2) := Option.some.inj ei2
  obtain ⟨i3, ei3⟩ := is_v gv9
  obtain rfl : w3 = (.int i3) := Option.some.inj ei3
  obtain ⟨i4, ei4⟩ := is_v gv10
  obtain rfl : w4 = (.int i4) := Option.some.inj ei4
  obtain ⟨n, o, h1, h2, h3, _, L, rfl, ⟨rfl, N⟩, hq⟩ := rm_law l s _ hw tables_1 i0 i1 i2 i3 i4 s.heap s.heap.size (Nat.le_refl _)  p e ha hc hk s m _ below hf ((Spec.applies_iff_loose hf).mp happ).1 ⟨rfl, State.Warmed39.refl s, rfl⟩ trivial
  refine ⟨n, _, h1, h2, h3, hpost _ _ _ _ _ _ ⟨Cond.after_iff.mpr rfl, Cond.after_iff.mpr (eq_i res_at (Term.int_eval (1)) rfl), trivial⟩ ⟨hq.1, hq.2.1, (hq.2.2.sift fun y hy => Or.inr (N y hy)).mono (by decide) (by decide)⟩⟩
theorem main_1_1 : Claimed_1_1 := comes_1 fun _ _ _ _ _ _ h hF => ⟨h.1, hF⟩
theorem main_1_2 : Claimed_1_2 := comes_1 fun _ _ _ _ _ _ h hF => ⟨h.2.1, hF⟩
end Jvm.Pilot.@@N@@
namespace Jvm.Pilot.@@N@@
open Jvm Jvm.ClassFile Sem Op Lib Jvm.Free Jvm.Stand Jvm.Pilot.@@N@@.Jvm.D
/-! MADE BY PROGRAM (witnessworld.py) out of the Statement's table words and the real class files: 13 classes; the members and pool entries that the words name. The judged class is class 1, her method 1. -/
namespace start1
open Jvm.ClassFile
def u (s : String) : CpInfo := .utf8 (stringToUtf16 s)
/-- a pool by its gaps: so many unusable entries, then the entry; so many at the end -/
def gap : Nat → List CpInfo → List CpInfo
  | 0, r => r
  | n + 1, r => .unusable :: gap n r
def poolList (es : List (Nat × CpInfo)) (last : Nat) : List CpInfo := es.foldr (fun e r => gap e.1 (e.2 :: r)) (gap last [])
def pool (es : List (Nat × CpInfo)) (last : Nat) : Array CpInfo := ⟨poolList es last⟩
def fileOf (pool : Array CpInfo) (this : Nat) (attrs : Array Attribute := #[]) (ms : Array MethodInfo := #[]) (fl : Nat := 33) (sup : Nat := 0) (ifs : Array Nat := #[]) (fds : Array FieldInfo := #[]) : ClassFile where
  minorVersion := 0
  majorVersion := 65
  constantPool := pool
  accessFlags := fl
  thisClass := this
  superClass := sup
  interfaces := ifs
  fields := fds
  methods := ms
  attributes := attrs
def plain (name : String) (sup : Option ClassId) : Class where
  name := name
  kind := .ordinary
  loader := none
  accessFlags := 33
  super := sup
  interfaces := #[]
  cf := none
  fields := #[]
  methods := #[]
  instanceTypes := #[]
  staticTypes := #[]
  resolved := #[]
  callSites := []
  init := .initialized
  statics := none
  mirror := none

def pool0 : Array CpInfo := pool [(5, u "<init>"), (0, u "()V"), (1, .class_ 10), (1, u "java/lang/Object")] 113

def k0c0 : Code := { maxStack := 0, maxLocals := 1, code := object_method_1_code, exceptionTable := #[], attributes := #[] }
def k0m0 : Method := { name := "<init>", desc := "()V", sig := { parameters := [], returnType := none }, accessFlags := 1, code := some k0c0 }
/-- java/lang/Object -/
def k0 : Class := { plain "java/lang/Object" none with
  accessFlags := 33
  interfaces := #[]
  cf := some (fileOf pool0 8 #[] #[{ accessFlags := 1, nameIndex := 5, descriptorIndex := 6, attributes := #[] }] 33 0 #[] #[])
  fields := #[]
  methods := #[k0m0]
  instanceTypes := #[]
  staticTypes := #[]
  resolved := Array.replicate 124 none
  statics := none }

def pool1 : Array CpInfo := pool [(2, .class_ 4), (0, .nameAndType 5 6), (0, u "java/lang/Object"), (0, u "<init>"), (0, u "()V"), (0, .class_ 8), (0, u "com/example/flote/flote/search/Key$Writer"), (0, .methodref 7 3), (0, .methodref 7 11), (0, .nameAndType 12 13), (0, u "putLong"), (0, u "(J)V"), (0, .methodref 7 15), (0, .nameAndType 16 17), (0, u "putInt"), (0, u "(I)V"), (0, .methodref 7 19), (0, .nameAndType 20 21), (0, u "key"), (0, u "()[B"), (0, .class_ 23), (0, u "com/example/flote/flote/search/Key$Reader"), (0, .methodref 22 25), (0, .nameAndType 5 26), (0, u "([B)V"), (0, .methodref 22 28), (0, .nameAndType 29 30), (0, u "nextLong"), (0, u "()J"), (0, .class_ 32), (0, u "com/example/flote/flote/search/ReaderNextLongPinLaw"), (2, u "law"), (0, u "(JJIII)Z")] 10

def k1m0 : Method := { name := "<init>", desc := "()V", sig := { parameters := [], returnType := none }, accessFlags := 2, code := none }
def k1c1 : Code := { maxStack := 4, maxLocals := 20, code := code, exceptionTable := #[], attributes := #[] }
def k1m1 : Method := { name := "law", desc := "(JJIII)Z", sig := { parameters := [.long, .long, .int, .int, .int], returnType := some .boolean }, accessFlags := 9, code := some k1c1 }
/-- com/example/flote/flote/search/ReaderNextLongPinLaw -/
def k1 : Class := { plain "com/example/flote/flote/search/ReaderNextLongPinLaw" (some 0) with
  accessFlags := 49
  interfaces := #[]
  cf := some (fileOf pool1 31 #[] #[{ accessFlags := 2, nameIndex := 5, descriptorIndex := 6, attributes := #[] }, { accessFlags := 9, nameIndex := 35, descriptorIndex := 36, attributes := #[] }] 49 2 #[] #[])
  fields := #[]
  methods := #[k1m0, k1m1]
  instanceTypes := #[]
  staticTypes := #[]
  resolved := Array.replicate 47 none
  statics := none }

def pool2 : Array CpInfo := pool [(1, .class_ 2), (0, u "com/example/flote/flote/search/Key"), (0, .methodref 4 5), (0, .class_ 6), (0, .nameAndType 7 8), (0, u "java/lang/Object"), (0, u "<init>"), (0, u "()V"), (0, .fieldref 10 11), (0, .class_ 12), (0, .nameAndType 13 14), (0, u "com/example/flote/flote/search/Key$Writer"), (0, u "room"), (0, u "[B"), (0, .methodref 10 16), (0, .nameAndType 17 18), (0, u "putLong"), (0, u "(J)V"), (0, .fieldref 10 20), (0, .nameAndType 21 22), (0, u "length"), (0, u "I"), (3, u "(I)V"), (0, .long 18446744073709551488), (1, .long 128), (3, u "putInt"), (0, .methodref 35 36), (0, .class_ 37), (0, .nameAndType 38 39), (0, u "java/util/Arrays"), (0, u "copyOf"), (0, u "([BI)[B"), (0, .integer 262144), (29, u "key"), (0, u "()[B")] 20

def k2c0 : Code := { maxStack := 2, maxLocals := 1, code := prog_106_method_1_code, exceptionTable := #[], attributes := #[] }
def k2m0 : Method := { name := "<init>", desc := "()V", sig := { parameters := [], returnType := none }, accessFlags := 1, code := some k2c0 }
def k2c1 : Code := { maxStack := 3, maxLocals := 2, code := prog_106_method_2_code, exceptionTable := #[], attributes := #[] }
def k2m1 : Method := { name := "putInt", desc := "(I)V", sig := { parameters := [.int], returnType := none }, accessFlags := 1, code := some k2c1 }
def k2c2 : Code := { maxStack := 6, maxLocals := 5, code := prog_106_method_3_code, exceptionTable := #[], attributes := #[] }
def k2m2 : Method := { name := "putLong", desc := "(J)V", sig := { parameters := [.long], returnType := none }, accessFlags := 1, code := some k2c2 }
def k2c3 : Code := { maxStack := 2, maxLocals := 2, code := prog_106_method_5_code, exceptionTable := #[], attributes := #[] }
def k2m3 : Method := { name := "key", desc := "()[B", sig := { parameters := [], returnType := some (.array .byte) }, accessFlags := 1, code := some k2c3 }
/-- com/example/flote/flote/search/Key$Writer -/
def k2 : Class := { plain "com/example/flote/flote/search/Key$Writer" (some 0) with
  accessFlags := 49
  interfaces := #[]
  cf := some (fileOf pool2 10 #[.nestHost 1] #[{ accessFlags := 1, nameIndex := 7, descriptorIndex := 8, attributes := #[] }, { accessFlags := 1, nameIndex := 33, descriptorIndex := 26, attributes := #[] }, { accessFlags := 1, nameIndex := 17, descriptorIndex := 18, attributes := #[] }, { accessFlags := 1, nameIndex := 70, descriptorIndex := 71, attributes := #[] }] 49 4 #[] #[{ accessFlags := 2, nameIndex := 13, descriptorIndex := 14, attributes := #[] }, { accessFlags := 2, nameIndex := 21, descriptorIndex := 22, attributes := #[] }])
  fields := #[{ name := "room", type := (.array .byte), accessFlags := 2, slot := 0, constantValue := 0 }, { name := "length", type := .int, accessFlags := 2, slot := 1, constantValue := 0 }]
  methods := #[k2m0, k2m1, k2m2, k2m3]
  instanceTypes := #[(.array .byte), .int]
  staticTypes := #[]
  resolved := Array.replicate 92 none
  statics := none }

def pool3 : Array CpInfo := pool [(2, .class_ 4), (1, u "java/lang/Object"), (0, u "<init>"), (0, u "()V"), (7, .class_ 16), (1, u "java/util/Arrays"), (57, .class_ 76), (1, u "java/util/Arrays$NaturalOrder"), (36, .class_ 115), (1, u "java/util/Arrays$LegacyMergeSort"), (1, u "Z"), (32, .methodref 151 152), (0, .class_ 153), (0, .nameAndType 154 155), (0, u "java/lang/System"), (0, u "arraycopy"), (0, u "(Ljava/lang/Object;ILjava/lang/Object;II)V"), (146, u "copyOf"), (1, .methodref 305 306), (0, .class_ 307), (0, .nameAndType 308 309), (0, u "java/lang/Math"), (0, u "min"), (0, u "(II)I"), (65, .class_ 376), (0, u "java/util/Arrays$ArrayList"), (68, u "$assertionsDisabled"), (269, u "MIN_ARRAY_SORT_GRAN"), (0, u "I"), (2, u "INSERTIONSORT_THRESHOLD"), (149, u "([BI)[B"), (105, .class_ 976), (0, u "java/util/Arrays$ArrayItr")] 52

def k3m0 : Method := { name := "<init>", desc := "()V", sig := { parameters := [], returnType := none }, accessFlags := 2, code := none }
def k3c1 : Code := { maxStack := 6, maxLocals := 3, code := jdk_65_method_121_code, exceptionTable := #[], attributes := #[] }
def k3m1 : Method := { name := "copyOf", desc := "([BI)[B", sig := { parameters := [(.array .byte), .int], returnType := some (.array .byte) }, accessFlags := 9, code := some k3c1 }
/-- java/util/Arrays -/
def k3 : Class := { plain "java/util/Arrays" (some 0) with
  accessFlags := 49
  interfaces := #[]
  cf := some (fileOf pool3 14 #[.nestMembers #[975, 375, 113, 74]] #[{ accessFlags := 2, nameIndex := 5, descriptorIndex := 6, attributes := #[] }, { accessFlags := 9, nameIndex := 302, descriptorIndex := 869, attributes := #[] }] 49 2 #[] #[{ accessFlags := 26, nameIndex := 715, descriptorIndex := 716, attributes := #[] }, { accessFlags := 26, nameIndex := 719, descriptorIndex := 716, attributes := #[] }, { accessFlags := 4120, nameIndex := 445, descriptorIndex := 117, attributes := #[] }])
  fields := #[{ name := "MIN_ARRAY_SORT_GRAN", type := .int, accessFlags := 26, slot := 0, constantValue := 0 }, { name := "INSERTIONSORT_THRESHOLD", type := .int, accessFlags := 26, slot := 1, constantValue := 0 }, { name := "$assertionsDisabled", type := .boolean, accessFlags := 4120, slot := 2, constantValue := 0 }]
  methods := #[k3m0, k3m1]
  instanceTypes := #[]
  staticTypes := #[.int, .int, .boolean]
  resolved := Array.replicate 1029 none
  statics := none }

def pool4 : Array CpInfo := pool [(1, .class_ 2), (0, u "java/lang/Math"), (1, .class_ 6), (1, u "java/lang/Object"), (0, u "<init>"), (0, u "()V"), (89, .class_ 100), (1, u "java/lang/Math$RandomNumberGeneratorHolder"), (71, u "negativeZeroFloatBits"), (0, u "J"), (2, u "negativeZeroDoubleBits"), (24, u "min"), (43, u "$assertionsDisabled"), (0, u "Z"), (88, u "(II)I"), (2, u "twoToTheDoubleScaleDown"), (0, u "D"), (4, u "twoToTheDoubleScaleUp"), (9, u "E"), (3, u "PI"), (2, u "TAU"), (2, u "DEGREES_TO_RADIANS"), (0, u "RADIANS_TO_DEGREES")] 94

def k4m0 : Method := { name := "<init>", desc := "()V", sig := { parameters := [], returnType := none }, accessFlags := 2, code := none }
def k4c1 : Code := { maxStack := 2, maxLocals := 2, code := jdk_29_method_69_code, exceptionTable := #[], attributes := #[] }
def k4m1 : Method := { name := "min", desc := "(II)I", sig := { parameters := [.int, .int], returnType := some .int }, accessFlags := 9, code := some k4c1 }
/-- java/lang/Math -/
def k4 : Class := { plain "java/lang/Math" (some 0) with
  accessFlags := 49
  interfaces := #[]
  cf := some (fileOf pool4 1 #[.nestMembers #[98]] #[{ accessFlags := 2, nameIndex := 7, descriptorIndex := 8, attributes := #[] }, { accessFlags := 9, nameIndex := 201, descriptorIndex := 335, attributes := #[] }] 49 4 #[] #[{ accessFlags := 25, nameIndex := 354, descriptorIndex := 339, attributes := #[] }, { accessFlags := 25, nameIndex := 358, descriptorIndex := 339, attributes := #[] }, { accessFlags := 25, nameIndex := 361, descriptorIndex := 339, attributes := #[] }, { accessFlags := 26, nameIndex := 364, descriptorIndex := 339, attributes := #[] }, { accessFlags := 26, nameIndex := 365, descriptorIndex := 339, attributes := #[] }, { accessFlags := 26, nameIndex := 172, descriptorIndex := 173, attributes := #[] }, { accessFlags := 26, nameIndex := 176, descriptorIndex := 173, attributes := #[] }, { accessFlags := 8, nameIndex := 344, descriptorIndex := 339, attributes := #[] }, { accessFlags := 8, nameIndex := 338, descriptorIndex := 339, attributes := #[] }, { accessFlags := 4120, nameIndex := 245, descriptorIndex := 246, attributes := #[] }])
  fields := #[{ name := "E", type := .double, accessFlags := 25, slot := 0, constantValue := 0 }, { name := "PI", type := .double, accessFlags := 25, slot := 1, constantValue := 0 }, { name := "TAU", type := .double, accessFlags := 25, slot := 2, constantValue := 0 }, { name := "DEGREES_TO_RADIANS", type := .double, accessFlags := 26, slot := 3, constantValue := 0 }, { name := "RADIANS_TO_DEGREES", type := .double, accessFlags := 26, slot := 4, constantValue := 0 }, { name := "negativeZeroFloatBits", type := .long, accessFlags := 26, slot := 5, constantValue := 0 }, { name := "negativeZeroDoubleBits", type := .long, accessFlags := 26, slot := 6, constantValue := 0 }, { name := "twoToTheDoubleScaleUp", type := .double, accessFlags := 8, slot := 7, constantValue := 0 }, { name := "twoToTheDoubleScaleDown", type := .double, accessFlags := 8, slot := 8, constantValue := 0 }, { name := "$assertionsDisabled", type := .boolean, accessFlags := 4120, slot := 9, constantValue := 0 }]
  methods := #[k4m0, k4m1]
  instanceTypes := #[]
  staticTypes := #[.double, .double, .double, .double, .double, .long, .long, .double, .double, .boolean]
  resolved := Array.replicate 460 none
  statics := none }

def pool5 : Array CpInfo := pool [(2, .class_ 4), (1, u "java/lang/Object"), (0, u "<init>"), (0, u "()V"), (1, .class_ 10), (1, u "java/lang/System"), (0, u "allowSecurityManager"), (0, u "I"), (16, u "cons"), (0, u "Ljava/io/Console;"), (77, .class_ 110), (1, u "java/lang/System$CallersHolder"), (43, u "initialErrStream"), (0, u "Ljava/io/PrintStream;"), (19, u "security"), (0, u "Ljava/lang/SecurityManager;"), (31, .class_ 209), (0, u "java/lang/System$1"), (7, u "props"), (0, u "Ljava/util/Properties;"), (2, u "lineSeparator"), (0, u "Ljava/lang/String;"), (96, .class_ 321), (1, u "java/lang/System$LoggerFinder"), (5, .class_ 328), (0, u "java/lang/System$Logger"), (67, u "err"), (2, u "out"), (91, u "notSupportedJnuEncoding"), (15, u "in"), (17, u "initialIn"), (0, u "Ljava/io/InputStream;"), (35, u "bootLayer"), (0, u "Ljava/lang/ModuleLayer;"), (99, .class_ 664), (0, u "java/lang/System$2"), (9, u "NEVER"), (2, u "MAYBE"), (49, u "arraycopy"), (0, u "(Ljava/lang/Object;ILjava/lang/Object;II)V"), (72, .class_ 802), (0, u "java/lang/System$Logger$Level")] 31

def k5m0 : Method := { name := "<init>", desc := "()V", sig := { parameters := [], returnType := none }, accessFlags := 2, code := none }
def k5m1 : Method := { name := "arraycopy", desc := "(Ljava/lang/Object;ILjava/lang/Object;II)V", sig := { parameters := [(.object "java/lang/Object"), .int, (.object "java/lang/Object"), .int, .int], returnType := none }, accessFlags := 265, code := none }
/-- java/lang/System -/
def k5 : Class := { plain "java/lang/System" (some 0) with
  accessFlags := 49
  interfaces := #[]
  cf := some (fileOf pool5 8 #[.nestMembers #[319, 327, 801, 108, 663, 208]] #[{ accessFlags := 2, nameIndex := 5, descriptorIndex := 6, attributes := #[] }, { accessFlags := 265, nameIndex := 727, descriptorIndex := 728, attributes := #[] }] 49 2 #[] #[{ accessFlags := 25, nameIndex := 507, descriptorIndex := 526, attributes := #[] }, { accessFlags := 25, nameIndex := 399, descriptorIndex := 155, attributes := #[] }, { accessFlags := 25, nameIndex := 396, descriptorIndex := 155, attributes := #[] }, { accessFlags := 10, nameIndex := 525, descriptorIndex := 526, attributes := #[] }, { accessFlags := 26, nameIndex := 674, descriptorIndex := 12, attributes := #[] }, { accessFlags := 26, nameIndex := 677, descriptorIndex := 12, attributes := #[] }, { accessFlags := 10, nameIndex := 11, descriptorIndex := 12, attributes := #[] }, { accessFlags := 74, nameIndex := 175, descriptorIndex := 176, attributes := #[] }, { accessFlags := 10, nameIndex := 491, descriptorIndex := 222, attributes := #[] }, { accessFlags := 74, nameIndex := 29, descriptorIndex := 30, attributes := #[] }, { accessFlags := 74, nameIndex := 154, descriptorIndex := 155, attributes := #[] }, { accessFlags := 10, nameIndex := 217, descriptorIndex := 218, attributes := #[] }, { accessFlags := 10, nameIndex := 221, descriptorIndex := 222, attributes := #[] }, { accessFlags := 8, nameIndex := 562, descriptorIndex := 563, attributes := #[] }])
  fields := #[{ name := "in", type := (.object "java/io/InputStream"), accessFlags := 25, slot := 0, constantValue := 0 }, { name := "out", type := (.object "java/io/PrintStream"), accessFlags := 25, slot := 1, constantValue := 0 }, { name := "err", type := (.object "java/io/PrintStream"), accessFlags := 25, slot := 2, constantValue := 0 }, { name := "initialIn", type := (.object "java/io/InputStream"), accessFlags := 10, slot := 3, constantValue := 0 }, { name := "NEVER", type := .int, accessFlags := 26, slot := 4, constantValue := 0 }, { name := "MAYBE", type := .int, accessFlags := 26, slot := 5, constantValue := 0 }, { name := "allowSecurityManager", type := .int, accessFlags := 10, slot := 6, constantValue := 0 }, { name := "security", type := (.object "java/lang/SecurityManager"), accessFlags := 74, slot := 7, constantValue := 0 }, { name := "notSupportedJnuEncoding", type := (.object "java/lang/String"), accessFlags := 10, slot := 8, constantValue := 0 }, { name := "cons", type := (.object "java/io/Console"), accessFlags := 74, slot := 9, constantValue := 0 }, { name := "initialErrStream", type := (.object "java/io/PrintStream"), accessFlags := 74, slot := 10, constantValue := 0 }, { name := "props", type := (.object "java/util/Properties"), accessFlags := 10, slot := 11, constantValue := 0 }, { name := "lineSeparator", type := (.object "java/lang/String"), accessFlags := 10, slot := 12, constantValue := 0 }, { name := "bootLayer", type := (.object "java/lang/ModuleLayer"), accessFlags := 8, slot := 13, constantValue := 0 }]
  methods := #[k5m0, k5m1]
  instanceTypes := #[]
  staticTypes := #[(.object "java/io/InputStream"), (.object "java/io/PrintStream"), (.object "java/io/PrintStream"), (.object "java/io/InputStream"), .int, .int, .int, (.object "java/lang/SecurityManager"), (.object "java/lang/String"), (.object "java/io/Console"), (.object "java/io/PrintStream"), (.object "java/util/Properties"), (.object "java/lang/String"), (.object "java/lang/ModuleLayer")]
  resolved := Array.replicate 834 none
  statics := none }

def pool6 : Array CpInfo := pool [(1, .methodref 2 3), (0, .class_ 4), (0, .nameAndType 5 6), (0, u "java/lang/Object"), (0, u "<init>"), (0, u "()V"), (0, .fieldref 8 9), (0, .class_ 10), (0, .nameAndType 11 12), (0, u "com/example/flote/flote/search/Key$Reader"), (0, u "key"), (0, u "[B"), (2, u "nextLong"), (0, u "()J"), (0, .fieldref 8 18), (0, .nameAndType 19 20), (0, u "at"), (0, u "I"), (0, .long 127), (5, u "([B)V"), (10, .class_ 39), (0, u "com/example/flote/flote/search/Key")] 2

def k6c0 : Code := { maxStack := 2, maxLocals := 2, code := prog_105_method_1_code, exceptionTable := #[], attributes := #[] }
def k6m0 : Method := { name := "<init>", desc := "([B)V", sig := { parameters := [(.array .byte)], returnType := none }, accessFlags := 1, code := some k6c0 }
def k6c1 : Code := { maxStack := 6, maxLocals := 5, code := prog_105_method_3_code, exceptionTable := #[], attributes := #[] }
def k6m1 : Method := { name := "nextLong", desc := "()J", sig := { parameters := [], returnType := some .long }, accessFlags := 1, code := some k6c1 }
/-- com/example/flote/flote/search/Key$Reader -/
def k6 : Class := { plain "com/example/flote/flote/search/Key$Reader" (some 0) with
  accessFlags := 49
  interfaces := #[]
  cf := some (fileOf pool6 8 #[.nestHost 38] #[{ accessFlags := 1, nameIndex := 5, descriptorIndex := 27, attributes := #[] }, { accessFlags := 1, nameIndex := 15, descriptorIndex := 16, attributes := #[] }] 49 2 #[] #[{ accessFlags := 18, nameIndex := 11, descriptorIndex := 12, attributes := #[] }, { accessFlags := 2, nameIndex := 19, descriptorIndex := 20, attributes := #[] }])
  fields := #[{ name := "key", type := (.array .byte), accessFlags := 18, slot := 0, constantValue := 0 }, { name := "at", type := .int, accessFlags := 2, slot := 1, constantValue := 0 }]
  methods := #[k6m0, k6m1]
  instanceTypes := #[(.array .byte), .int]
  staticTypes := #[]
  resolved := Array.replicate 42 none
  statics := none }

def pool7 : Array CpInfo := pool [(1, u "java/lang/Cloneable"), (0, .class_ 1), (0, u "java/lang/Object"), (0, .class_ 3)] 3

/-- java/lang/Cloneable -/
def k7 : Class := { plain "java/lang/Cloneable" (some 0) with
  accessFlags := 1537
  interfaces := #[]
  cf := some (fileOf pool7 2 #[] #[] 1537 4 #[] #[])
  fields := #[]
  methods := #[]
  instanceTypes := #[]
  staticTypes := #[]
  resolved := Array.replicate 8 none
  statics := none }

def pool8 : Array CpInfo := pool [(1, u "java/io/Serializable"), (0, .class_ 1), (0, u "java/lang/Object"), (0, .class_ 3)] 3

/-- java/io/Serializable -/
def k8 : Class := { plain "java/io/Serializable" (some 0) with
  accessFlags := 1537
  interfaces := #[]
  cf := some (fileOf pool8 2 #[] #[] 1537 4 #[] #[])
  fields := #[]
  methods := #[]
  instanceTypes := #[]
  staticTypes := #[]
  resolved := Array.replicate 8 none
  statics := none }

/-- the primitive byte -/
def k9 : Class := { plain "byte" none with kind := .primitive 'B', accessFlags := 0x411 }
/-- [B -/
def k10 : Class := { plain "[B" (some 0) with kind := .array 9 .byte, interfaces := #[7, 8], accessFlags := 1041 }

/-- the primitive int -/
def k11 : Class := { plain "int" none with kind := .primitive 'I', accessFlags := 0x411 }
/-- [I -/
def k12 : Class := { plain "[I" (some 0) with kind := .array 11 .int, interfaces := #[7, 8], accessFlags := 1041 }

def heap : Heap := #[]
def classes : Array Class := #[k0, k1, k2, k3, k4, k5, k6, k7, k8, k9, k10, k11, k12]
def interned : List (Array UInt16 × Addr) := []
def slotsUsed : Nat := 0
def theMethod : MethodId := ⟨1, 1⟩
def args0 : Array Value := #[.long 5, .long 7, .int 3, .int 4, .int 9]
def aboutOver (below : List Frame) : State where
  vm := { classes := classes, interned := interned.toArray }
  heap := heap
  slotsUsed := slotsUsed
  threads := #[{ frames := .invoking theMethod args0 :: below }]
def below0 : List Frame := [.native { method := ⟨0, 0⟩, args := #[] }]
def about1 : State := aboutOver below0
def p0 : Program := .bare "" "" ""
def e0 : Env := launch0.env 0 0 0
theorem w_frames : about1.frames = Frame.invoking theMethod args0 :: below0 := rfl
set_option maxRecDepth 65536 in
theorem w_args : argsFit about1.vm theMethod args0 = true := by decide +kernel
set_option maxRecDepth 65536 in
theorem w_heap : heapFits about1 = true := by decide +kernel
set_option maxRecDepth 65536 in
theorem w_runnable : about1.curStatus? = some .runnable := by decide +kernel
set_option maxRecDepth 65536 in
theorem w_alone : about1.alone = true := by decide +kernel
set_option maxRecDepth 65536 in
theorem w_named : about1.methodNamed? x = some theMethod := by decide +kernel
set_option maxRecDepth 65536 in
theorem w_hears : about1.hears theMethod below0 = true := by decide +kernel
set_option maxRecDepth 65536 in
theorem w_ripe : about1.ripe theMethod args0 below0 = true := by decide +kernel
theorem w_running : about1.status = .running := rfl
set_option maxRecDepth 65536 in
theorem w_room : about1.hasRoom e0.platform room_1 = true :=
  launch0.hasRoom_least _ room_1 (by decide +kernel) (by decide +kernel) (by decide +kernel) (by decide +kernel) (by decide +kernel) (by decide +kernel)
theorem allAtoms_all (ts : List Jvm.Cond) (a : Array Jvm.Value) (st : Jvm.State) : (allAtoms ts).before a st = ts.all (fun c => c.before a st) := by
  induction ts with
  | nil => rfl
  | cons c t ih =>
    show (Jvm.Cond.and c (allAtoms t)).before a st = _
    rw [Jvm.Cond.before_and, ih, List.all_cons]
def words1 : List Jvm.Cond := Jvm.Cond.code x code maxLocals ret :: tables_1
/-- a 'code' word, met by the world's own term for the bytes: nothing is compared byte by byte -/
theorem code_word {y : MethodName} {bytes : ByteArray} {mx : Nat} {rt : Option FieldType} {a : Array Value} {s : State} {m : MethodId} {meth : Method} {c : Code} (h1 : s.methodNamed? y = some m) (h2 : s.vm.method? m = some meth) (h3 : meth.code = some c) (h4 : c.code = bytes)
    (h5 : (c.maxLocals == mx && c.exceptionTable.isEmpty && decide (c.maxStack ≤ mostOperands) && decide (meth.sig.returnType = rt) && !meth.locks && decide (parseMethodDescriptor y.desc = some meth.sig)) = true) : (Jvm.Cond.code y bytes mx rt).before a s = true := by
  simp only [Bool.and_eq_true, beq_iff_eq, Bool.not_eq_true', decide_eq_true_eq] at h5
  obtain ⟨⟨⟨⟨⟨g1, g2⟩, g3⟩, g4⟩, g5⟩, g6⟩ := h5
  simp [Cond.before, Cond.holds, Cond.value, h1, h2, h3, h4, g1, g2, g3, g4, g5, g6]
def isCode : Jvm.Cond → Bool
  | .code _ _ _ _ => true
  | _ => false
theorem all_split {L : List Jvm.Cond} {P : Jvm.Cond → Bool} (h1 : L.all (fun c => isCode c || P c) = true) (h2 : ∀ c ∈ L.filter isCode, P c = true) : L.all P = true := by
  refine List.all_eq_true.mpr fun c hc => ?_
  have h := List.all_eq_true.mp h1 c hc
  rcases Bool.eq_false_or_eq_true (isCode c) with hi | hi
  · exact h2 c (List.mem_filter.mpr ⟨hc, hi⟩)
  · simpa [hi] using h
set_option maxRecDepth 65536 in
theorem w_c0 : (Jvm.Cond.code x code maxLocals ret).before args0 about1 = true := code_word (m := ⟨1, 1⟩) (meth := k1m1) (c := k1c1) (by decide +kernel) rfl rfl rfl (by decide +kernel)
set_option maxRecDepth 65536 in
theorem w_c1 : (Jvm.Cond.code ({ cls := "com/example/flote/flote/search/Key$Writer", name := "<init>", desc := "()V" } : Jvm.MethodName) prog_106_method_1_code (1 : Nat) (Option.none : Option Jvm.ClassFile.FieldType)).before args0 about1 = true := code_word (m := ⟨2, 0⟩) (meth := k2m0) (c := k2c0) (by decide +kernel) rfl rfl rfl (by decide +kernel)
set_option maxRecDepth 65536 in
theorem w_c2 : (Jvm.Cond.code ({ cls := "java/lang/Object", name := "<init>", desc := "()V" } : Jvm.MethodName) object_method_1_code (1 : Nat) (Option.none : Option Jvm.ClassFile.FieldType)).before args0 about1 = true := code_word (m := ⟨0, 0⟩) (meth := k0m0) (c := k0c0) (by decide +kernel) rfl rfl rfl (by decide +kernel)
set_option maxRecDepth 65536 in
theorem w_c3 : (Jvm.Cond.code ({ cls := "com/example/flote/flote/search/Key$Writer", name := "putLong", desc := "(J)V" } : Jvm.MethodName) prog_106_method_3_code (5 : Nat) (Option.none : Option Jvm.ClassFile.FieldType)).before args0 about1 = true := code_word (m := ⟨2, 2⟩) (meth := k2m2) (c := k2c2) (by decide +kernel) rfl rfl rfl (by decide +kernel)
set_option maxRecDepth 65536 in
theorem w_c4 : (Jvm.Cond.code ({ cls := "com/example/flote/flote/search/Key$Writer", name := "putInt", desc := "(I)V" } : Jvm.MethodName) prog_106_method_2_code (2 : Nat) (Option.none : Option Jvm.ClassFile.FieldType)).before args0 about1 = true := code_word (m := ⟨2, 1⟩) (meth := k2m1) (c := k2c1) (by decide +kernel) rfl rfl rfl (by decide +kernel)
set_option maxRecDepth 65536 in
theorem w_c5 : (Jvm.Cond.code ({ cls := "com/example/flote/flote/search/Key$Writer", name := "key", desc := "()[B" } : Jvm.MethodName) prog_106_method_5_code (2 : Nat) (Option.some (Jvm.ClassFile.FieldType.array Jvm.ClassFile.FieldType.byte))).before args0 about1 = true := code_word (m := ⟨2, 3⟩) (meth := k2m3) (c := k2c3) (by decide +kernel) rfl rfl rfl (by decide +kernel)
set_option maxRecDepth 65536 in
theorem w_c6 : (Jvm.Cond.code ({ cls := "java/util/Arrays", name := "copyOf", desc := "([BI)[B" } : Jvm.MethodName) jdk_65_method_121_code (3 : Nat) (Option.some (Jvm.ClassFile.FieldType.array Jvm.ClassFile.FieldType.byte))).before args0 about1 = true := code_word (m := ⟨3, 1⟩) (meth := k3m1) (c := k3c1) (by decide +kernel) rfl rfl rfl (by decide +kernel)
set_option maxRecDepth 65536 in
theorem w_c7 : (Jvm.Cond.code ({ cls := "java/lang/Math", name := "min", desc := "(II)I" } : Jvm.MethodName) jdk_29_method_69_code (2 : Nat) (Option.some Jvm.ClassFile.FieldType.int)).before args0 about1 = true := code_word (m := ⟨4, 1⟩) (meth := k4m1) (c := k4c1) (by decide +kernel) rfl rfl rfl (by decide +kernel)
set_option maxRecDepth 65536 in
theorem w_c8 : (Jvm.Cond.code ({ cls := "com/example/flote/flote/search/Key$Reader", name := "<init>", desc := "([B)V" } : Jvm.MethodName) prog_105_method_1_code (2 : Nat) (Option.none : Option Jvm.ClassFile.FieldType)).before args0 about1 = true := code_word (m := ⟨6, 0⟩) (meth := k6m0) (c := k6c0) (by decide +kernel) rfl rfl rfl (by decide +kernel)
set_option maxRecDepth 65536 in
theorem w_c9 : (Jvm.Cond.code ({ cls := "com/example/flote/flote/search/Key$Reader", name := "nextLong", desc := "()J" } : Jvm.MethodName) prog_105_method_3_code (5 : Nat) (Option.some Jvm.ClassFile.FieldType.long)).before args0 about1 = true := code_word (m := ⟨6, 1⟩) (meth := k6m1) (c := k6c1) (by decide +kernel) rfl rfl rfl (by decide +kernel)
def codes1 : List Jvm.Cond := [Jvm.Cond.code x code maxLocals ret, Jvm.Cond.code ({ cls := "com/example/flote/flote/search/Key$Writer", name := "<init>", desc := "()V" } : Jvm.MethodName) prog_106_method_1_code (1 : Nat) (Option.none : Option Jvm.ClassFile.FieldType), Jvm.Cond.code ({ cls := "java/lang/Object", name := "<init>", desc := "()V" } : Jvm.MethodName) object_method_1_code (1 : Nat) (Option.none : Option Jvm.ClassFile.FieldType), Jvm.Cond.code ({ cls := "com/example/flote/flote/search/Key$Writer", name := "putLong", desc := "(J)V" } : Jvm.MethodName) prog_106_method_3_code (5 : Nat) (Option.none : Option Jvm.ClassFile.FieldType), Jvm.Cond.code ({ cls := "com/example/flote/flote/search/Key$Writer", name := "putInt", desc := "(I)V" } : Jvm.MethodName) prog_106_method_2_code (2 : Nat) (Option.none : Option Jvm.ClassFile.FieldType), Jvm.Cond.code ({ cls := "com/example/flote/flote/search/Key$Writer", name := "key", desc := "()[B" } : Jvm.MethodName) prog_106_method_5_code (2 : Nat) (Option.some (Jvm.ClassFile.FieldType.array Jvm.ClassFile.FieldType.byte)), Jvm.Cond.code ({ cls := "java/util/Arrays", name := "copyOf", desc := "([BI)[B" } : Jvm.MethodName) jdk_65_method_121_code (3 : Nat) (Option.some (Jvm.ClassFile.FieldType.array Jvm.ClassFile.FieldType.byte)), Jvm.Cond.code ({ cls := "java/lang/Math", name := "min", desc := "(II)I" } : Jvm.MethodName) jdk_29_method_69_code (2 : Nat) (Option.some Jvm.ClassFile.FieldType.int), Jvm.Cond.code ({ cls := "com/example/flote/flote/search/Key$Reader", name := "<init>", desc := "([B)V" } : Jvm.MethodName) prog_105_method_1_code (2 : Nat) (Option.none : Option Jvm.ClassFile.FieldType), Jvm.Cond.code ({ cls := "com/example/flote/flote/search/Key$Reader", name := "nextLong", desc := "()J" } : Jvm.MethodName) prog_105_method_3_code (5 : Nat) (Option.some Jvm.ClassFile.FieldType.long)]
set_option maxRecDepth 65536 in
theorem codes_eq : words1.filter isCode = codes1 := rfl
theorem w_codes : ∀ c ∈ words1.filter isCode, c.before args0 about1 = true := by
  rw [codes_eq]
  intro c hc
  simp only [codes1, List.mem_cons, List.not_mem_nil, or_false] at hc
  rcases hc with rfl | rfl | rfl | rfl | rfl | rfl | rfl | rfl | rfl | rfl
  · exact w_c0
  · exact w_c1
  · exact w_c2
  · exact w_c3
  · exact w_c4
  · exact w_c5
  · exact w_c6
  · exact w_c7
  · exact w_c8
  · exact w_c9
set_option maxRecDepth 65536 in
theorem w_t1 : (words1.take 24).all (fun c => isCode c || c.before args0 about1) = true := by decide +kernel
set_option maxRecDepth 65536 in
theorem w_t2 : ((words1.drop 24).take 24).all (fun c => isCode c || c.before args0 about1) = true := by decide +kernel
set_option maxRecDepth 65536 in
theorem w_t3 : ((words1.drop 24).drop 24).all (fun c => isCode c || c.before args0 about1) = true := by decide +kernel
theorem w_tables : (allAtoms (Jvm.Cond.code x code maxLocals ret :: tables_1)).before args0 about1 = true := by
  rw [allAtoms_all]
  show words1.all (fun c => c.before args0 about1) = true
  refine all_split ?_ w_codes
  rw [← List.take_append_drop 24 words1, List.all_append, w_t1, ← List.take_append_drop 24 (words1.drop 24), List.all_append, w_t2, w_t3]
  rfl
set_option maxRecDepth 65536 in
theorem w_case : (Jvm.Cond.and given_1 narrow_1).before args0 about1 = true := by decide +kernel
theorem w_applies : (headSpec (Jvm.Cond.code x code maxLocals ret :: tables_1) room_1).applies x e0.platform about1 = true :=
  (Spec.applies_iff w_frames).mpr ⟨w_running, w_runnable, w_alone, w_named, w_hears, w_ripe, w_room, w_tables⟩
theorem atStart : AtStart classFile x code maxLocals ret World_1 tables_1 room_1 Calls_1 rest_1 Pre_1 launch0 p0 e0 about1 theMethod args0 below0 :=
  ⟨lists_1, trivial, launch0.admits_env _ _ _, launch0.least_env, fairChoices_fair.cas, fairChoices_fair.clock, w_frames, w_args, w_heap, w_applies, trivial, trivial, w_case⟩
end start1
theorem witness_1 : WitnessClaimed_1 := ⟨start1.p0, start1.e0, start1.about1, start1.theMethod, start1.args0, start1.below0, start1.atStart⟩
end Jvm.Pilot.@@N@@
