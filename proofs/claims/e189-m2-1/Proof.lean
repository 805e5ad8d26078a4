import JvmDerived
import JvmDerived.Pilot.@@N@@Statement
import JvmDerived.Pilot.@@N@@Code
set_option linter.unusedVariables false
set_option linter.unusedSimpArgs false
namespace Jvm.RoadKit
open Sem ClassFile Op Lib Jvm.Stand Jvm.Free Jvm.LawKit
section OwnKit
variable {p : Program} {l : Launch} {e : Env} {R : Room} {s : State} {m : MethodId} {args : Array Value} {below : List Frame} {meth : Method} {c : Code} {T : State} {locs : List Loc} {cells slots : Nat} {Z : State} {a0 : Array Value} {h h' : Heap}
/-- the run has come from A to T with the frame g on top -/
def OGo (p : Program) (e : Env) (below : List Frame) (A T : State) (g : JFrame) : Prop := ∀ t, Steps p.tables e below (T.setTop g) t → Steps p.tables e below A t
/-- the array at a holds just these values -/
def OAr (Z : State) (h : Heap) (a : Addr) (k : ClassId) (ty : FieldType) (vs : List Value) : Prop := ∃ c : Cell, Arr Z h a c ty ∧ c.cls = k ∧ c.slots = vs.toArray
variable {a b : Addr} {k : ClassId} {ty : FieldType} {vs ws : List Value} {v w : Value} {sl : Nat} {wl : List Addr}
theorem OAr.lt (F : OAr Z h a k ty vs) : a < h.size := by obtain ⟨c, A, -⟩ := F; exact A.lt
theorem OAr.ext (F : OAr Z h a k ty vs) (E : Ext h h') : OAr Z h' a k ty vs := by obtain ⟨c, A, r⟩ := F; exact ⟨c, A.ext E, r⟩
theorem OAr.other (F : OAr Z h b k ty vs) (W : Wr h h' a sl v) (q : b ≠ a) : OAr Z h' b k ty vs := by obtain ⟨c, A, r⟩ := F; exact ⟨c, A.other W q, r⟩
theorem OAr.keep (F : OAr Z h a k ty vs) (K : Keep h h' wl) (q : a ∉ wl) : OAr Z h' a k ty vs := by obtain ⟨c, A, r⟩ := F; exact ⟨c, ⟨K.2.1 a c A.1 q, A.2⟩, r⟩
theorem OAr.new {n : Int32} (A : Arr Z h a (newA k ty n) ty) : OAr Z h a k ty (List.replicate n.toNatClampNeg (defaultValue ty)) := ⟨_, A, rfl, by simp [newA]⟩
theorem OAr.same (F : OAr Z h a k ty vs) (W : Wr h h' a sl v) : OAr Z h' a k ty (vs.set sl v) := by
  obtain ⟨c, A, r1, r2⟩ := F
  exact ⟨_, A.same W, r1, by simp only [Cell.setSlot]; rw [r2]; simp⟩
theorem OAr.cast (F : OAr Z h a k ty vs) (q : vs = ws) : OAr Z h a k ty ws := q ▸ F
theorem OAr.plain (F : OAr Z h a k ty vs) : ∀ cell : Cell, h[a]? = some cell → cell.vm.isStatics = false := fun cell hc => by
  obtain ⟨c, A, -⟩ := F
  cases A.1.symm.trans hc
  exact A.plain
theorem own_in {j : Int32} (h0 : ¬ j < 0) (hv : vs[j.toNatClampNeg]? = some v) {c : Cell} (q : c.slots = vs.toArray) : ¬ (j < 0 ∨ c.slots.size ≤ j.toNatClampNeg) ∧ c.slots[j.toNatClampNeg]? = some v := by
  have h1 := (List.getElem?_eq_some_iff.mp hv).1
  rw [q]
  refine ⟨fun r => r.elim h0 fun r => ?_, by simpa using hv⟩
  simp at r
  omega
theorem own_ldI (X : Stand p l e R s m args below meth c T locs cells slots) (hx : p.tables.exec = Jvm.exec) (hZ : Z.Warmed39 s.vm) (eT : T.heap = h) (F : OAr Z h a k .int vs) {j : Int32} (h0 : ¬ j < 0) (hv : vs[j.toNatClampNeg]? = some v) {g : JFrame} (hg : g.method = m) {rest : List Value} (hs : g.stack = .int j :: .ref a :: rest) (hd : decode c.code g.pc = .ok (.iaload, 1)) (t : State)
    (hr : Steps p.tables e below (T.setTop { g with pc := g.pc + 1, stack := v :: rest }) t) : Steps p.tables e below (T.setTop g) t := by
  obtain ⟨cl, A, -, r⟩ := F
  obtain ⟨q1, q2⟩ := own_in h0 hv r
  exact X.iaload hx (by rw [eT]; exact A.1) (State.isArrayOf_alike hZ.alike A.2.1) A.2.2 q1 q2 hg hs hd t hr
theorem own_ldJ (X : Stand p l e R s m args below meth c T locs cells slots) (hx : p.tables.exec = Jvm.exec) (hZ : Z.Warmed39 s.vm) (eT : T.heap = h) (F : OAr Z h a k .long vs) {j : Int32} (h0 : ¬ j < 0) (hv : vs[j.toNatClampNeg]? = some v) {g : JFrame} (hg : g.method = m) {rest : List Value} (hs : g.stack = .int j :: .ref a :: rest) (hd : decode c.code g.pc = .ok (.laload, 1)) (t : State)
    (hr : Steps p.tables e below (T.setTop { g with pc := g.pc + 1, stack := v :: rest }) t) : Steps p.tables e below (T.setTop g) t := by
  obtain ⟨cl, A, -, r⟩ := F
  obtain ⟨q1, q2⟩ := own_in h0 hv r
  exact X.laload hx (by rw [eT]; exact A.1) (State.isArrayOf_alike hZ.alike A.2.1) A.2.2 q1 q2 hg hs hd t hr
theorem own_ldC (X : Stand p l e R s m args below meth c T locs cells slots) (hx : p.tables.exec = Jvm.exec) (hZ : Z.Warmed39 s.vm) (eT : T.heap = h) (F : OAr Z h a k .char vs) {j : Int32} (h0 : ¬ j < 0) (hv : vs[j.toNatClampNeg]? = some v) {g : JFrame} (hg : g.method = m) {rest : List Value} (hs : g.stack = .int j :: .ref a :: rest) (hd : decode c.code g.pc = .ok (.caload, 1)) (t : State)
    (hr : Steps p.tables e below (T.setTop { g with pc := g.pc + 1, stack := v :: rest }) t) : Steps p.tables e below (T.setTop g) t := by
  obtain ⟨cl, A, -, r⟩ := F
  obtain ⟨q1, q2⟩ := own_in h0 hv r
  exact X.caload hx (by rw [eT]; exact A.1) (State.isArrayOf_alike hZ.alike A.2.1) A.2.2 q1 q2 hg hs hd t hr
theorem own_ldB (X : Stand p l e R s m args below meth c T locs cells slots) (hx : p.tables.exec = Jvm.exec) (hZ : Z.Warmed39 s.vm) (eT : T.heap = h) (F : OAr Z h a k .byte vs) {j : Int32} (h0 : ¬ j < 0) (hv : vs[j.toNatClampNeg]? = some v) {g : JFrame} (hg : g.method = m) {rest : List Value} (hs : g.stack = .int j :: .ref a :: rest) (hd : decode c.code g.pc = .ok (.baload, 1)) (t : State)
    (hr : Steps p.tables e below (T.setTop { g with pc := g.pc + 1, stack := v :: rest }) t) : Steps p.tables e below (T.setTop g) t := by
  obtain ⟨cl, A, -, r⟩ := F
  obtain ⟨q1, q2⟩ := own_in h0 hv r
  exact X.baloadBytes hx (by rw [eT]; exact A.1) (State.isArrayOf_alike hZ.alike A.2.1) A.2.2 q1 q2 hg hs hd t hr
theorem own_ldZ (X : Stand p l e R s m args below meth c T locs cells slots) (hx : p.tables.exec = Jvm.exec) (hZ : Z.Warmed39 s.vm) (eT : T.heap = h) (F : OAr Z h a k .boolean vs) {j : Int32} (h0 : ¬ j < 0) (hv : vs[j.toNatClampNeg]? = some v) {g : JFrame} (hg : g.method = m) {rest : List Value} (hs : g.stack = .int j :: .ref a :: rest) (hd : decode c.code g.pc = .ok (.baload, 1)) (t : State)
    (hr : Steps p.tables e below (T.setTop { g with pc := g.pc + 1, stack := v :: rest }) t) : Steps p.tables e below (T.setTop g) t := by
  obtain ⟨cl, A, -, r⟩ := F
  obtain ⟨q1, q2⟩ := own_in h0 hv r
  exact X.baloadBooleans hx (by rw [eT]; exact A.1) (State.isArrayOf_alike hZ.alike A.2.1) A.2.2 q1 q2 hg hs hd t hr
theorem own_ldA (X : Stand p l e R s m args below meth c T locs cells slots) (hx : p.tables.exec = Jvm.exec) (hZ : Z.Warmed39 s.vm) (eT : T.heap = h) (F : OAr Z h a k ty vs) (ht : ty.isReference = true) {j : Int32} (h0 : ¬ j < 0) (hv : vs[j.toNatClampNeg]? = some v) {g : JFrame} (hg : g.method = m) {rest : List Value} (hs : g.stack = .int j :: .ref a :: rest) (hd : decode c.code g.pc = .ok (.aaload, 1)) (t : State)
    (hr : Steps p.tables e below (T.setTop { g with pc := g.pc + 1, stack := v :: rest }) t) : Steps p.tables e below (T.setTop g) t := by
  obtain ⟨cl, A, -, r⟩ := F
  obtain ⟨q1, q2⟩ := own_in h0 hv r
  exact X.aaload hx (by rw [eT]; exact A.1) (State.isArrayOf_alike hZ.alike A.2.1) ht A.2.2 q1 q2 hg hs hd t hr
theorem own_len (X : Stand p l e R s m args below meth c T locs cells slots) (hx : p.tables.exec = Jvm.exec) (hZ : Z.Warmed39 s.vm) (eT : T.heap = h) (F : OAr Z h a k ty vs) {n : Int32} (hn : vs.length.toInt32 = n) {g : JFrame} (hg : g.method = m) {rest : List Value} (hs : g.stack = .ref a :: rest) (hd : decode c.code g.pc = .ok (.arraylength, 1)) (t : State)
    (hr : Steps p.tables e below (T.setTop { g with pc := g.pc + 1, stack := .int n :: rest }) t) : Steps p.tables e below (T.setTop g) t := by
  obtain ⟨cl, A, -, r⟩ := F
  refine X.arraylength hx (by rw [eT]; exact A.1) (State.isArrayOf_alike hZ.alike A.2.1) hg hs hd t ?_
  rw [show cl.slots.size = vs.length by rw [r]; simp, hn]
  exact hr
theorem own_in2 {j : Int32} (h0 : ¬ j < 0) (h1 : j.toNatClampNeg < vs.length) {c : Cell} (q : c.slots = vs.toArray) : ¬ (j < 0 ∨ c.slots.size ≤ j.toNatClampNeg) := by
  rw [q]
  refine fun r => r.elim h0 fun r => ?_
  simp at r
  omega
theorem own_stI (X : Stand p l e R s m args below meth c T locs cells slots) (hx : p.tables.exec = Jvm.exec) (hZ : Z.Warmed39 s.vm) (eT : T.heap = h) (F : OAr Z h a k .int vs) {j : Int32} {x : Int32} (h0 : ¬ j < 0) (h1 : j.toNatClampNeg < vs.length) {g : JFrame} (hg : g.method = m) {rest : List Value} (hs : g.stack = .int x :: .int j :: .ref a :: rest) (hd : decode c.code g.pc = .ok (.iastore, 1)) :
    ∃ T' h', Stand p l e R s m args below meth c T' (locs ++ [⟨a, j.toNatClampNeg⟩]) cells slots ∧ T'.heap = h' ∧ Wr h h' a j.toNatClampNeg (.int x) ∧ OAr Z h' a k .int (vs.set j.toNatClampNeg (.int x)) ∧ ∀ target, Steps p.tables e below (T'.setTop { g with pc := g.pc + 1, stack := rest }) target → Steps p.tables e below (T.setTop g) target := by
  have F' := F
  obtain ⟨cl, A, -, r⟩ := F'
  obtain ⟨T', h', X', e', W', st⟩ := stI X hx hZ eT A (own_in2 h0 h1 r) hg hs hd
  exact ⟨T', h', X', e', W', F.same W', st⟩
theorem own_stJ (X : Stand p l e R s m args below meth c T locs cells slots) (hx : p.tables.exec = Jvm.exec) (hZ : Z.Warmed39 s.vm) (eT : T.heap = h) (F : OAr Z h a k .long vs) {j : Int32} {x : Int64} (h0 : ¬ j < 0) (h1 : j.toNatClampNeg < vs.length) {g : JFrame} (hg : g.method = m) {rest : List Value} (hs : g.stack = .long x :: .int j :: .ref a :: rest) (hd : decode c.code g.pc = .ok (.lastore, 1)) :
    ∃ T' h', Stand p l e R s m args below meth c T' (locs ++ [⟨a, j.toNatClampNeg⟩]) cells slots ∧ T'.heap = h' ∧ Wr h h' a j.toNatClampNeg (.long x) ∧ OAr Z h' a k .long (vs.set j.toNatClampNeg (.long x)) ∧ ∀ target, Steps p.tables e below (T'.setTop { g with pc := g.pc + 1, stack := rest }) target → Steps p.tables e below (T.setTop g) target := by
  have F' := F
  obtain ⟨cl, A, -, r⟩ := F'
  obtain ⟨T', h', X', e', W', st⟩ := stJ X hx hZ eT A (own_in2 h0 h1 r) hg hs hd
  exact ⟨T', h', X', e', W', F.same W', st⟩
theorem own_stC (X : Stand p l e R s m args below meth c T locs cells slots) (hx : p.tables.exec = Jvm.exec) (hZ : Z.Warmed39 s.vm) (eT : T.heap = h) (F : OAr Z h a k .char vs) {j : Int32} {x : Int32} (h0 : ¬ j < 0) (h1 : j.toNatClampNeg < vs.length) {g : JFrame} (hg : g.method = m) {rest : List Value} (hs : g.stack = .int x :: .int j :: .ref a :: rest) (hd : decode c.code g.pc = .ok (.castore, 1)) :
    ∃ T' h', Stand p l e R s m args below meth c T' (locs ++ [⟨a, j.toNatClampNeg⟩]) cells slots ∧ T'.heap = h' ∧ Wr h h' a j.toNatClampNeg (.int (nar .char x)) ∧ OAr Z h' a k .char (vs.set j.toNatClampNeg (.int (nar .char x))) ∧ ∀ target, Steps p.tables e below (T'.setTop { g with pc := g.pc + 1, stack := rest }) target → Steps p.tables e below (T.setTop g) target := by
  have F' := F
  obtain ⟨cl, A, -, r⟩ := F'
  obtain ⟨T', h', X', e', W', st⟩ := stC X hx hZ eT A (own_in2 h0 h1 r) hg hs hd
  exact ⟨T', h', X', e', W', F.same W', st⟩
theorem own_stB (X : Stand p l e R s m args below meth c T locs cells slots) (hx : p.tables.exec = Jvm.exec) (hZ : Z.Warmed39 s.vm) (eT : T.heap = h) (F : OAr Z h a k .byte vs) {j : Int32} {x : Int32} (h0 : ¬ j < 0) (h1 : j.toNatClampNeg < vs.length) {g : JFrame} (hg : g.method = m) {rest : List Value} (hs : g.stack = .int x :: .int j :: .ref a :: rest) (hd : decode c.code g.pc = .ok (.bastore, 1)) :
    ∃ T' h', Stand p l e R s m args below meth c T' (locs ++ [⟨a, j.toNatClampNeg⟩]) cells slots ∧ T'.heap = h' ∧ Wr h h' a j.toNatClampNeg (.int (nar .byte x)) ∧ OAr Z h' a k .byte (vs.set j.toNatClampNeg (.int (nar .byte x))) ∧ ∀ target, Steps p.tables e below (T'.setTop { g with pc := g.pc + 1, stack := rest }) target → Steps p.tables e below (T.setTop g) target := by
  have F' := F
  obtain ⟨cl, A, -, r⟩ := F'
  obtain ⟨T', h', X', e', W', st⟩ := stB X hx hZ eT A (own_in2 h0 h1 r) hg hs hd
  exact ⟨T', h', X', e', W', F.same W', st⟩
theorem own_stZ (X : Stand p l e R s m args below meth c T locs cells slots) (hx : p.tables.exec = Jvm.exec) (hZ : Z.Warmed39 s.vm) (eT : T.heap = h) (F : OAr Z h a k .boolean vs) {j : Int32} {x : Int32} (h0 : ¬ j < 0) (h1 : j.toNatClampNeg < vs.length) {g : JFrame} (hg : g.method = m) {rest : List Value} (hs : g.stack = .int x :: .int j :: .ref a :: rest) (hd : decode c.code g.pc = .ok (.bastore, 1)) :
    ∃ T' h', Stand p l e R s m args below meth c T' (locs ++ [⟨a, j.toNatClampNeg⟩]) cells slots ∧ T'.heap = h' ∧ Wr h h' a j.toNatClampNeg (.int (nar .boolean x)) ∧ OAr Z h' a k .boolean (vs.set j.toNatClampNeg (.int (nar .boolean x))) ∧ ∀ target, Steps p.tables e below (T'.setTop { g with pc := g.pc + 1, stack := rest }) target → Steps p.tables e below (T.setTop g) target := by
  have F' := F
  obtain ⟨cl, A, -, r⟩ := F'
  obtain ⟨T', h', X', e', W', st⟩ := stZ X hx hZ eT A (own_in2 h0 h1 r) hg hs hd
  exact ⟨T', h', X', e', W', F.same W', st⟩
theorem own_stR (X : Stand p l e R s m args below meth c T locs cells slots) (hx : p.tables.exec = Jvm.exec) (hZ : Z.Warmed39 s.vm) (eT : T.heap = h) (F : OAr Z h a k ty vs) (ht : ty.isReference = true) {j : Int32} {x : Value} (h0 : ¬ j < 0) (h1 : j.toNatClampNeg < vs.length) (S : Sto Z h a x) {g : JFrame} (hg : g.method = m) {rest : List Value} (hs : g.stack = x :: .int j :: .ref a :: rest) (hd : decode c.code g.pc = .ok (.aastore, 1)) :
    ∃ T' h', Stand p l e R s m args below meth c T' (locs ++ [⟨a, j.toNatClampNeg⟩]) cells slots ∧ T'.heap = h' ∧ Wr h h' a j.toNatClampNeg x ∧ OAr Z h' a k ty (vs.set j.toNatClampNeg x) ∧ ∀ target, Steps p.tables e below (T'.setTop { g with pc := g.pc + 1, stack := rest }) target → Steps p.tables e below (T.setTop g) target := by
  have F' := F
  obtain ⟨cl, A, -, r⟩ := F'
  obtain ⟨T', h', X', e', W', st⟩ := stR X hx hZ eT A (own_in2 h0 h1 r) ht S hg hs hd
  exact ⟨T', h', X', e', W', F.same W', st⟩
theorem own_sto {y : Addr} {t0 : FieldType} {C : String} (F : OAr Z h a k ty vs) (O : OvrA Z k t0 C) (I : Ins Z h y C true) : Sto Z h a (.ref y) := by
  obtain ⟨cl, A, q, -⟩ := F
  exact Sto.ofVA A q O I
/-- the addresses are unlike each other -/
def OND (L : List Addr) : Prop := L.Pairwise (· ≠ ·)
theorem ond0 : OND [] := List.Pairwise.nil
theorem ondS {x : Addr} {L : List Addr} (q : ∀ y ∈ L, x ≠ y) (r : OND L) : OND (x :: L) := List.Pairwise.cons q r
theorem own_pw {L : List Addr} (q : OND L) (i j : Nat) (hij : i < j) {x y : Addr} (hi : L[i]? = some x) (hj : L[j]? = some y) : x ≠ y := by
  obtain ⟨i1, rfl⟩ := List.getElem?_eq_some_iff.mp hi
  obtain ⟨j1, rfl⟩ := List.getElem?_eq_some_iff.mp hj
  exact List.pairwise_iff_getElem.mp q i j i1 j1 hij
theorem own_selp (hZ : Z.Warmed39 s.vm) {y : MethodName} {k : Nat} (wi : (Cond.instantiable y.cls k).before a0 Z = true) (wp : (Cond.privateMethod y).before a0 Z = true) (wm : (Cond.instanceMethod y).before a0 Z = true) (hy : y.cls ≠ "java/lang/invoke/MethodHandle" ∧ y.cls ≠ "java/lang/invoke/VarHandle" := by decide) : (Cond.selects y.cls y y).before args s = true := by
  obtain ⟨c2, k2, i1, i2, i3, i4, -⟩ := Cond.instantiable_spec (mv (args := args) hZ wi)
  exact selects_self_of_private i1 i2 (Bool.or_eq_false_iff.mp i4).1 (Cond.privateMethod_at (mvP hZ wp (args := args))) (mv hZ wm) hy
theorem own_arv {z : Int32} {d : Value} (F : OAr Z h a k ty vs) (hf : ∀ v ∈ vs, fits ty v = true) (hz : ¬ z < 0) (hl : vs.length = z.toNatClampNeg) : Arv Z h a k ty z vs d := by
  obtain ⟨c, A, q1, q2⟩ := F
  have hs : c.slots.size = vs.length := by rw [q2]; simp
  refine ⟨c, A, q1, by rw [hs, hl], hz, fun i hi => ?_, fun i hi => ?_⟩
  · rw [hs] at hi
    rw [q2]
    simp [List.getD_eq_getElem?_getD, hi]
  · rw [hs] at hi
    rw [List.getD_eq_getElem?_getD, List.getElem?_eq_getElem hi]
    exact hf _ (List.getElem_mem hi)
theorem own_unarv {z : Int32} {d : Value} (F : Arv Z h a k ty z vs d) (hl : vs.length = z.toNatClampNeg) : OAr Z h a k ty vs := by
  obtain ⟨c, A, q1, q2, q3, H, -⟩ := F
  refine ⟨c, A, q1, ?_⟩
  apply Array.ext (by rw [q2, ← hl]; simp)
  intro i h1 h2
  have e := H i h1
  have h3 : i < vs.length := by simpa using h2
  rw [Array.getElem?_eq_getElem h1, List.getD_eq_getElem?_getD, List.getElem?_eq_getElem h3] at e
  simpa using Option.some.inj e
end OwnKit
end Jvm.RoadKit

namespace Jvm.Pilot.@@N@@
open Jvm Jvm.ClassFile Sem Op Lib Jvm.Free Jvm.Stand Jvm.LawKit Jvm.RoadKit Bundle Jvm.Pilot.@@N@@.Jvm.D
theorem ow {a0 : Array Value} {Z : State} (hw : ∀ d ∈ tables_1, d.before a0 Z = true) (i : Nat) {d : Jvm.Cond} (h : tables_1[i]? = some d) : d.before a0 Z = true := hw _ (List.mem_of_getElem? h)
abbrev mN0 : MethodName := ⟨"com/example/flote/flote/search/Reached", "<init>", "()V"⟩
abbrev cN0 : String := "com/example/flote/flote/search/Reached"
abbrev cN1 : String := "[Lcom/example/flote/flote/search/Search$Moves;"
abbrev cN2 : String := "[Lcom/example/flote/flote/search/Search$Branches;"
abbrev mN1 : MethodName := ⟨"com/example/flote/flote/search/Reached", "next", "()I"⟩
abbrev mN2 : MethodName := ⟨"com/example/flote/flote/search/Reached", "addAdmitted", "(IJ)V"⟩
abbrev mN3 : MethodName := ⟨"com/example/flote/flote/search/Reached", "add", "(IIIZ[BLcom/example/flote/flote/search/Search$Moves;JLcom/example/flote/flote/search/Search$Branches;)V"⟩
abbrev mN4 : MethodName := ⟨"com/example/flote/flote/search/Reached", "admit", "(IZ)V"⟩
abbrev mN5 : MethodName := ⟨"com/example/flote/flote/search/Reached", "admitted", "()I"⟩
abbrev mN6 : MethodName := ⟨"com/example/flote/flote/search/Reached", "waitingBytes", "()J"⟩
abbrev mN7 : MethodName := ⟨"com/example/flote/flote/search/Reached", "target", "(I)I"⟩
abbrev mN8 : MethodName := ⟨"com/example/flote/flote/search/Reached", "actor", "(I)I"⟩
abbrev mN9 : MethodName := ⟨"com/example/flote/flote/search/Reached", "stores", "(I)Z"⟩
abbrev mN10 : MethodName := ⟨"com/example/flote/flote/search/Reached", "key", "(I)[B"⟩
abbrev oV (u v w d : Value) : List Value := [u, v, w, d, d, d, d, d, d, d, d, d, d, d, d, d]
theorem own_and15 (p : Int32) : 0 ≤ (p &&& (15 : Int32)).toInt ∧ (p &&& (15 : Int32)).toInt ≤ 15 := by
  have a := c_and p (15 : Int32) (by decide)
  have r : (15 : Int32).toInt = 15 := by decide
  omega
theorem own_nn {n : Int32} (h : 0 ≤ n.toInt ∧ n.toInt ≤ 15) : ¬ n < 0 := by rw [Int32.lt_iff_toInt_lt]; have r : (0 : Int32).toInt = 0 := (by decide); omega
theorem own_cap {n : Int32} (h : 0 ≤ n.toInt ∧ n.toInt ≤ 15) : n.toNatClampNeg ≤ 15 := by have := nat_of (own_nn h); omega
theorem own_rl {n : Int32} (h : 0 ≤ n.toInt ∧ n.toInt ≤ 15) (d : Value) : (List.replicate n.toNatClampNeg d).length.toInt32 = n := by rw [List.length_replicate]; exact (back32 (own_nn h)).1
theorem own_wb (x y : Int64) : (((0 : Int64) + x) + y) - x = y := by rw [Int64.zero_add, Int64.add_comm x y, Int64.add_sub_cancel]
theorem pn_com_example_flote_flote_search_Reached : plainName "com/example/flote/flote/search/Reached" = true := by first | (simp [plainName, overriddenIn]; done) | decide +kernel
theorem ef_1 (m : MethodId) (x0 : Addr) : entryFrame m #[(.ref x0)] 1 = mkF m 0 #[.val (.ref x0)] [] := by first | (simp [entryFrame, mkF, argsToLocals, Value.category]; done) | rfl
theorem d1_0 : decode prog_108_method_1_code 0 = .ok (.aload_n 0, 1) := by decide +kernel
theorem d1_1 : decode prog_108_method_1_code 1 = .ok (.invokespecial 1, 3) := by decide +kernel
theorem d1_4 : decode prog_108_method_1_code 4 = .ok (.aload_n 0, 1) := by decide +kernel
theorem d1_5 : decode prog_108_method_1_code 5 = .ok (.bipush 16, 2) := by decide +kernel
theorem d1_7 : decode prog_108_method_1_code 7 = .ok (.newarray .int, 2) := by decide +kernel
theorem d1_9 : decode prog_108_method_1_code 9 = .ok (.putfield 7, 3) := by decide +kernel
theorem d1_12 : decode prog_108_method_1_code 12 = .ok (.aload_n 0, 1) := by decide +kernel
theorem d1_13 : decode prog_108_method_1_code 13 = .ok (.bipush 16, 2) := by decide +kernel
theorem d1_15 : decode prog_108_method_1_code 15 = .ok (.newarray .int, 2) := by decide +kernel
theorem d1_17 : decode prog_108_method_1_code 17 = .ok (.putfield 13, 3) := by decide +kernel
theorem sn_cN0_indices_actors {a0 : Array Value} {Z : State} (hw : ∀ d ∈ tables_1, d.before a0 Z = true) : Jvm.RoadKit.slotOf Z cN0 "indices" "[I" ≠ Jvm.RoadKit.slotOf Z cN0 "actors" "[I" := slot_ne (Or.inl (ow hw 14 rfl)) (Or.inl (ow hw 12 rfl)) (by decide) (t := (.array .int)) (t' := (.array .int)) (by decide) (by decide)
theorem d1_20 : decode prog_108_method_1_code 20 = .ok (.aload_n 0, 1) := by decide +kernel
theorem d1_21 : decode prog_108_method_1_code 21 = .ok (.bipush 16, 2) := by decide +kernel
theorem d1_23 : decode prog_108_method_1_code 23 = .ok (.newarray .int, 2) := by decide +kernel
theorem d1_25 : decode prog_108_method_1_code 25 = .ok (.putfield 16, 3) := by decide +kernel
theorem sn_cN0_branchNumbers_actors {a0 : Array Value} {Z : State} (hw : ∀ d ∈ tables_1, d.before a0 Z = true) : Jvm.RoadKit.slotOf Z cN0 "branchNumbers" "[I" ≠ Jvm.RoadKit.slotOf Z cN0 "actors" "[I" := slot_ne (Or.inl (ow hw 16 rfl)) (Or.inl (ow hw 12 rfl)) (by decide) (t := (.array .int)) (t' := (.array .int)) (by decide) (by decide)
theorem sn_cN0_branchNumbers_indices {a0 : Array Value} {Z : State} (hw : ∀ d ∈ tables_1, d.before a0 Z = true) : Jvm.RoadKit.slotOf Z cN0 "branchNumbers" "[I" ≠ Jvm.RoadKit.slotOf Z cN0 "indices" "[I" := slot_ne (Or.inl (ow hw 16 rfl)) (Or.inl (ow hw 14 rfl)) (by decide) (t := (.array .int)) (t' := (.array .int)) (by decide) (by decide)
theorem d1_28 : decode prog_108_method_1_code 28 = .ok (.aload_n 0, 1) := by decide +kernel
theorem d1_29 : decode prog_108_method_1_code 29 = .ok (.bipush 16, 2) := by decide +kernel
theorem d1_31 : decode prog_108_method_1_code 31 = .ok (.newarray .boolean, 2) := by decide +kernel
theorem d1_33 : decode prog_108_method_1_code 33 = .ok (.putfield 19, 3) := by decide +kernel
theorem sn_cN0_chose_actors {a0 : Array Value} {Z : State} (hw : ∀ d ∈ tables_1, d.before a0 Z = true) : Jvm.RoadKit.slotOf Z cN0 "chose" "[Z" ≠ Jvm.RoadKit.slotOf Z cN0 "actors" "[I" := slot_ne (Or.inl (ow hw 19 rfl)) (Or.inl (ow hw 12 rfl)) (by decide) (t := (.array .boolean)) (t' := (.array .int)) (by decide) (by decide)
theorem sn_cN0_chose_indices {a0 : Array Value} {Z : State} (hw : ∀ d ∈ tables_1, d.before a0 Z = true) : Jvm.RoadKit.slotOf Z cN0 "chose" "[Z" ≠ Jvm.RoadKit.slotOf Z cN0 "indices" "[I" := slot_ne (Or.inl (ow hw 19 rfl)) (Or.inl (ow hw 14 rfl)) (by decide) (t := (.array .boolean)) (t' := (.array .int)) (by decide) (by decide)
theorem sn_cN0_chose_branchNumbers {a0 : Array Value} {Z : State} (hw : ∀ d ∈ tables_1, d.before a0 Z = true) : Jvm.RoadKit.slotOf Z cN0 "chose" "[Z" ≠ Jvm.RoadKit.slotOf Z cN0 "branchNumbers" "[I" := slot_ne (Or.inl (ow hw 19 rfl)) (Or.inl (ow hw 16 rfl)) (by decide) (t := (.array .boolean)) (t' := (.array .int)) (by decide) (by decide)
theorem d1_36 : decode prog_108_method_1_code 36 = .ok (.aload_n 0, 1) := by decide +kernel
theorem d1_37 : decode prog_108_method_1_code 37 = .ok (.bipush 16, 2) := by decide +kernel
theorem d1_39 : decode prog_108_method_1_code 39 = .ok (.anewarray 23, 3) := by decide +kernel
theorem d1_42 : decode prog_108_method_1_code 42 = .ok (.putfield 25, 3) := by decide +kernel
theorem sn_cN0_keys_actors {a0 : Array Value} {Z : State} (hw : ∀ d ∈ tables_1, d.before a0 Z = true) : Jvm.RoadKit.slotOf Z cN0 "keys" "[[B" ≠ Jvm.RoadKit.slotOf Z cN0 "actors" "[I" := slot_ne (Or.inl (ow hw 23 rfl)) (Or.inl (ow hw 12 rfl)) (by decide) (t := (.array (.array .byte))) (t' := (.array .int)) (by decide) (by decide)
theorem sn_cN0_keys_indices {a0 : Array Value} {Z : State} (hw : ∀ d ∈ tables_1, d.before a0 Z = true) : Jvm.RoadKit.slotOf Z cN0 "keys" "[[B" ≠ Jvm.RoadKit.slotOf Z cN0 "indices" "[I" := slot_ne (Or.inl (ow hw 23 rfl)) (Or.inl (ow hw 14 rfl)) (by decide) (t := (.array (.array .byte))) (t' := (.array .int)) (by decide) (by decide)
theorem sn_cN0_keys_branchNumbers {a0 : Array Value} {Z : State} (hw : ∀ d ∈ tables_1, d.before a0 Z = true) : Jvm.RoadKit.slotOf Z cN0 "keys" "[[B" ≠ Jvm.RoadKit.slotOf Z cN0 "branchNumbers" "[I" := slot_ne (Or.inl (ow hw 23 rfl)) (Or.inl (ow hw 16 rfl)) (by decide) (t := (.array (.array .byte))) (t' := (.array .int)) (by decide) (by decide)
theorem sn_cN0_keys_chose {a0 : Array Value} {Z : State} (hw : ∀ d ∈ tables_1, d.before a0 Z = true) : Jvm.RoadKit.slotOf Z cN0 "keys" "[[B" ≠ Jvm.RoadKit.slotOf Z cN0 "chose" "[Z" := slot_ne (Or.inl (ow hw 23 rfl)) (Or.inl (ow hw 19 rfl)) (by decide) (t := (.array (.array .byte))) (t' := (.array .boolean)) (by decide) (by decide)
theorem d1_45 : decode prog_108_method_1_code 45 = .ok (.aload_n 0, 1) := by decide +kernel
theorem d1_46 : decode prog_108_method_1_code 46 = .ok (.bipush 16, 2) := by decide +kernel
theorem d1_48 : decode prog_108_method_1_code 48 = .ok (.anewarray 29, 3) := by decide +kernel
theorem d1_51 : decode prog_108_method_1_code 51 = .ok (.putfield 31, 3) := by decide +kernel
theorem sn_cN0_moves_actors {a0 : Array Value} {Z : State} (hw : ∀ d ∈ tables_1, d.before a0 Z = true) : Jvm.RoadKit.slotOf Z cN0 "moves" cN1 ≠ Jvm.RoadKit.slotOf Z cN0 "actors" "[I" := slot_ne (Or.inl (ow hw 27 rfl)) (Or.inl (ow hw 12 rfl)) (by decide) (t := (.array (.object "com/example/flote/flote/search/Search$Moves"))) (t' := (.array .int)) (by decide) (by decide)
theorem sn_cN0_moves_indices {a0 : Array Value} {Z : State} (hw : ∀ d ∈ tables_1, d.before a0 Z = true) : Jvm.RoadKit.slotOf Z cN0 "moves" cN1 ≠ Jvm.RoadKit.slotOf Z cN0 "indices" "[I" := slot_ne (Or.inl (ow hw 27 rfl)) (Or.inl (ow hw 14 rfl)) (by decide) (t := (.array (.object "com/example/flote/flote/search/Search$Moves"))) (t' := (.array .int)) (by decide) (by decide)
theorem sn_cN0_moves_branchNumbers {a0 : Array Value} {Z : State} (hw : ∀ d ∈ tables_1, d.before a0 Z = true) : Jvm.RoadKit.slotOf Z cN0 "moves" cN1 ≠ Jvm.RoadKit.slotOf Z cN0 "branchNumbers" "[I" := slot_ne (Or.inl (ow hw 27 rfl)) (Or.inl (ow hw 16 rfl)) (by decide) (t := (.array (.object "com/example/flote/flote/search/Search$Moves"))) (t' := (.array .int)) (by decide) (by decide)
theorem sn_cN0_moves_chose {a0 : Array Value} {Z : State} (hw : ∀ d ∈ tables_1, d.before a0 Z = true) : Jvm.RoadKit.slotOf Z cN0 "moves" cN1 ≠ Jvm.RoadKit.slotOf Z cN0 "chose" "[Z" := slot_ne (Or.inl (ow hw 27 rfl)) (Or.inl (ow hw 19 rfl)) (by decide) (t := (.array (.object "com/example/flote/flote/search/Search$Moves"))) (t' := (.array .boolean)) (by decide) (by decide)
theorem sn_cN0_moves_keys {a0 : Array Value} {Z : State} (hw : ∀ d ∈ tables_1, d.before a0 Z = true) : Jvm.RoadKit.slotOf Z cN0 "moves" cN1 ≠ Jvm.RoadKit.slotOf Z cN0 "keys" "[[B" := slot_ne (Or.inl (ow hw 27 rfl)) (Or.inl (ow hw 23 rfl)) (by decide) (t := (.array (.object "com/example/flote/flote/search/Search$Moves"))) (t' := (.array (.array .byte))) (by decide) (by decide)
theorem d1_54 : decode prog_108_method_1_code 54 = .ok (.aload_n 0, 1) := by decide +kernel
theorem d1_55 : decode prog_108_method_1_code 55 = .ok (.bipush 16, 2) := by decide +kernel
theorem d1_57 : decode prog_108_method_1_code 57 = .ok (.anewarray 35, 3) := by decide +kernel
theorem d1_60 : decode prog_108_method_1_code 60 = .ok (.putfield 37, 3) := by decide +kernel
theorem sn_cN0_transitions_actors {a0 : Array Value} {Z : State} (hw : ∀ d ∈ tables_1, d.before a0 Z = true) : Jvm.RoadKit.slotOf Z cN0 "transitions" cN2 ≠ Jvm.RoadKit.slotOf Z cN0 "actors" "[I" := slot_ne (Or.inl (ow hw 31 rfl)) (Or.inl (ow hw 12 rfl)) (by decide) (t := (.array (.object "com/example/flote/flote/search/Search$Branches"))) (t' := (.array .int)) (by decide) (by decide)
theorem sn_cN0_transitions_indices {a0 : Array Value} {Z : State} (hw : ∀ d ∈ tables_1, d.before a0 Z = true) : Jvm.RoadKit.slotOf Z cN0 "transitions" cN2 ≠ Jvm.RoadKit.slotOf Z cN0 "indices" "[I" := slot_ne (Or.inl (ow hw 31 rfl)) (Or.inl (ow hw 14 rfl)) (by decide) (t := (.array (.object "com/example/flote/flote/search/Search$Branches"))) (t' := (.array .int)) (by decide) (by decide)
theorem sn_cN0_transitions_branchNumbers {a0 : Array Value} {Z : State} (hw : ∀ d ∈ tables_1, d.before a0 Z = true) : Jvm.RoadKit.slotOf Z cN0 "transitions" cN2 ≠ Jvm.RoadKit.slotOf Z cN0 "branchNumbers" "[I" := slot_ne (Or.inl (ow hw 31 rfl)) (Or.inl (ow hw 16 rfl)) (by decide) (t := (.array (.object "com/example/flote/flote/search/Search$Branches"))) (t' := (.array .int)) (by decide) (by decide)
theorem sn_cN0_transitions_chose {a0 : Array Value} {Z : State} (hw : ∀ d ∈ tables_1, d.before a0 Z = true) : Jvm.RoadKit.slotOf Z cN0 "transitions" cN2 ≠ Jvm.RoadKit.slotOf Z cN0 "chose" "[Z" := slot_ne (Or.inl (ow hw 31 rfl)) (Or.inl (ow hw 19 rfl)) (by decide) (t := (.array (.object "com/example/flote/flote/search/Search$Branches"))) (t' := (.array .boolean)) (by decide) (by decide)
theorem sn_cN0_transitions_keys {a0 : Array Value} {Z : State} (hw : ∀ d ∈ tables_1, d.before a0 Z = true) : Jvm.RoadKit.slotOf Z cN0 "transitions" cN2 ≠ Jvm.RoadKit.slotOf Z cN0 "keys" "[[B" := slot_ne (Or.inl (ow hw 31 rfl)) (Or.inl (ow hw 23 rfl)) (by decide) (t := (.array (.object "com/example/flote/flote/search/Search$Branches"))) (t' := (.array (.array .byte))) (by decide) (by decide)
theorem sn_cN0_transitions_moves {a0 : Array Value} {Z : State} (hw : ∀ d ∈ tables_1, d.before a0 Z = true) : Jvm.RoadKit.slotOf Z cN0 "transitions" cN2 ≠ Jvm.RoadKit.slotOf Z cN0 "moves" cN1 := slot_ne (Or.inl (ow hw 31 rfl)) (Or.inl (ow hw 27 rfl)) (by decide) (t := (.array (.object "com/example/flote/flote/search/Search$Branches"))) (t' := (.array (.object "com/example/flote/flote/search/Search$Moves"))) (by decide) (by decide)
theorem d1_63 : decode prog_108_method_1_code 63 = .ok (.aload_n 0, 1) := by decide +kernel
theorem d1_64 : decode prog_108_method_1_code 64 = .ok (.bipush 16, 2) := by decide +kernel
theorem d1_66 : decode prog_108_method_1_code 66 = .ok (.newarray .long, 2) := by decide +kernel
theorem d1_68 : decode prog_108_method_1_code 68 = .ok (.putfield 41, 3) := by decide +kernel
theorem sn_cN0_frames_actors {a0 : Array Value} {Z : State} (hw : ∀ d ∈ tables_1, d.before a0 Z = true) : Jvm.RoadKit.slotOf Z cN0 "frames" "[J" ≠ Jvm.RoadKit.slotOf Z cN0 "actors" "[I" := slot_ne (Or.inl (ow hw 34 rfl)) (Or.inl (ow hw 12 rfl)) (by decide) (t := (.array .long)) (t' := (.array .int)) (by decide) (by decide)
theorem sn_cN0_frames_indices {a0 : Array Value} {Z : State} (hw : ∀ d ∈ tables_1, d.before a0 Z = true) : Jvm.RoadKit.slotOf Z cN0 "frames" "[J" ≠ Jvm.RoadKit.slotOf Z cN0 "indices" "[I" := slot_ne (Or.inl (ow hw 34 rfl)) (Or.inl (ow hw 14 rfl)) (by decide) (t := (.array .long)) (t' := (.array .int)) (by decide) (by decide)
theorem sn_cN0_frames_branchNumbers {a0 : Array Value} {Z : State} (hw : ∀ d ∈ tables_1, d.before a0 Z = true) : Jvm.RoadKit.slotOf Z cN0 "frames" "[J" ≠ Jvm.RoadKit.slotOf Z cN0 "branchNumbers" "[I" := slot_ne (Or.inl (ow hw 34 rfl)) (Or.inl (ow hw 16 rfl)) (by decide) (t := (.array .long)) (t' := (.array .int)) (by decide) (by decide)
theorem sn_cN0_frames_chose {a0 : Array Value} {Z : State} (hw : ∀ d ∈ tables_1, d.before a0 Z = true) : Jvm.RoadKit.slotOf Z cN0 "frames" "[J" ≠ Jvm.RoadKit.slotOf Z cN0 "chose" "[Z" := slot_ne (Or.inl (ow hw 34 rfl)) (Or.inl (ow hw 19 rfl)) (by decide) (t := (.array .long)) (t' := (.array .boolean)) (by decide) (by decide)
theorem sn_cN0_frames_keys {a0 : Array Value} {Z : State} (hw : ∀ d ∈ tables_1, d.before a0 Z = true) : Jvm.RoadKit.slotOf Z cN0 "frames" "[J" ≠ Jvm.RoadKit.slotOf Z cN0 "keys" "[[B" := slot_ne (Or.inl (ow hw 34 rfl)) (Or.inl (ow hw 23 rfl)) (by decide) (t := (.array .long)) (t' := (.array (.array .byte))) (by decide) (by decide)
theorem sn_cN0_frames_moves {a0 : Array Value} {Z : State} (hw : ∀ d ∈ tables_1, d.before a0 Z = true) : Jvm.RoadKit.slotOf Z cN0 "frames" "[J" ≠ Jvm.RoadKit.slotOf Z cN0 "moves" cN1 := slot_ne (Or.inl (ow hw 34 rfl)) (Or.inl (ow hw 27 rfl)) (by decide) (t := (.array .long)) (t' := (.array (.object "com/example/flote/flote/search/Search$Moves"))) (by decide) (by decide)
theorem sn_cN0_frames_transitions {a0 : Array Value} {Z : State} (hw : ∀ d ∈ tables_1, d.before a0 Z = true) : Jvm.RoadKit.slotOf Z cN0 "frames" "[J" ≠ Jvm.RoadKit.slotOf Z cN0 "transitions" cN2 := slot_ne (Or.inl (ow hw 34 rfl)) (Or.inl (ow hw 31 rfl)) (by decide) (t := (.array .long)) (t' := (.array (.object "com/example/flote/flote/search/Search$Branches"))) (by decide) (by decide)
theorem d1_71 : decode prog_108_method_1_code 71 = .ok (.aload_n 0, 1) := by decide +kernel
theorem d1_72 : decode prog_108_method_1_code 72 = .ok (.bipush 16, 2) := by decide +kernel
theorem d1_74 : decode prog_108_method_1_code 74 = .ok (.newarray .int, 2) := by decide +kernel
theorem d1_76 : decode prog_108_method_1_code 76 = .ok (.putfield 45, 3) := by decide +kernel
theorem sn_cN0_targets_actors {a0 : Array Value} {Z : State} (hw : ∀ d ∈ tables_1, d.before a0 Z = true) : Jvm.RoadKit.slotOf Z cN0 "targets" "[I" ≠ Jvm.RoadKit.slotOf Z cN0 "actors" "[I" := slot_ne (Or.inl (ow hw 36 rfl)) (Or.inl (ow hw 12 rfl)) (by decide) (t := (.array .int)) (t' := (.array .int)) (by decide) (by decide)
theorem sn_cN0_targets_indices {a0 : Array Value} {Z : State} (hw : ∀ d ∈ tables_1, d.before a0 Z = true) : Jvm.RoadKit.slotOf Z cN0 "targets" "[I" ≠ Jvm.RoadKit.slotOf Z cN0 "indices" "[I" := slot_ne (Or.inl (ow hw 36 rfl)) (Or.inl (ow hw 14 rfl)) (by decide) (t := (.array .int)) (t' := (.array .int)) (by decide) (by decide)
theorem sn_cN0_targets_branchNumbers {a0 : Array Value} {Z : State} (hw : ∀ d ∈ tables_1, d.before a0 Z = true) : Jvm.RoadKit.slotOf Z cN0 "targets" "[I" ≠ Jvm.RoadKit.slotOf Z cN0 "branchNumbers" "[I" := slot_ne (Or.inl (ow hw 36 rfl)) (Or.inl (ow hw 16 rfl)) (by decide) (t := (.array .int)) (t' := (.array .int)) (by decide) (by decide)
theorem sn_cN0_targets_chose {a0 : Array Value} {Z : State} (hw : ∀ d ∈ tables_1, d.before a0 Z = true) : Jvm.RoadKit.slotOf Z cN0 "targets" "[I" ≠ Jvm.RoadKit.slotOf Z cN0 "chose" "[Z" := slot_ne (Or.inl (ow hw 36 rfl)) (Or.inl (ow hw 19 rfl)) (by decide) (t := (.array .int)) (t' := (.array .boolean)) (by decide) (by decide)
theorem sn_cN0_targets_keys {a0 : Array Value} {Z : State} (hw : ∀ d ∈ tables_1, d.before a0 Z = true) : Jvm.RoadKit.slotOf Z cN0 "targets" "[I" ≠ Jvm.RoadKit.slotOf Z cN0 "keys" "[[B" := slot_ne (Or.inl (ow hw 36 rfl)) (Or.inl (ow hw 23 rfl)) (by decide) (t := (.array .int)) (t' := (.array (.array .byte))) (by decide) (by decide)
theorem sn_cN0_targets_moves {a0 : Array Value} {Z : State} (hw : ∀ d ∈ tables_1, d.before a0 Z = true) : Jvm.RoadKit.slotOf Z cN0 "targets" "[I" ≠ Jvm.RoadKit.slotOf Z cN0 "moves" cN1 := slot_ne (Or.inl (ow hw 36 rfl)) (Or.inl (ow hw 27 rfl)) (by decide) (t := (.array .int)) (t' := (.array (.object "com/example/flote/flote/search/Search$Moves"))) (by decide) (by decide)
theorem sn_cN0_targets_transitions {a0 : Array Value} {Z : State} (hw : ∀ d ∈ tables_1, d.before a0 Z = true) : Jvm.RoadKit.slotOf Z cN0 "targets" "[I" ≠ Jvm.RoadKit.slotOf Z cN0 "transitions" cN2 := slot_ne (Or.inl (ow hw 36 rfl)) (Or.inl (ow hw 31 rfl)) (by decide) (t := (.array .int)) (t' := (.array (.object "com/example/flote/flote/search/Search$Branches"))) (by decide) (by decide)
theorem sn_cN0_targets_frames {a0 : Array Value} {Z : State} (hw : ∀ d ∈ tables_1, d.before a0 Z = true) : Jvm.RoadKit.slotOf Z cN0 "targets" "[I" ≠ Jvm.RoadKit.slotOf Z cN0 "frames" "[J" := slot_ne (Or.inl (ow hw 36 rfl)) (Or.inl (ow hw 34 rfl)) (by decide) (t := (.array .int)) (t' := (.array .long)) (by decide) (by decide)
theorem d1_79 : decode prog_108_method_1_code 79 = .ok (.aload_n 0, 1) := by decide +kernel
theorem d1_80 : decode prog_108_method_1_code 80 = .ok (.bipush 16, 2) := by decide +kernel
theorem d1_82 : decode prog_108_method_1_code 82 = .ok (.newarray .boolean, 2) := by decide +kernel
theorem d1_84 : decode prog_108_method_1_code 84 = .ok (.putfield 48, 3) := by decide +kernel
theorem sn_cN0_stored_actors {a0 : Array Value} {Z : State} (hw : ∀ d ∈ tables_1, d.before a0 Z = true) : Jvm.RoadKit.slotOf Z cN0 "stored" "[Z" ≠ Jvm.RoadKit.slotOf Z cN0 "actors" "[I" := slot_ne (Or.inl (ow hw 38 rfl)) (Or.inl (ow hw 12 rfl)) (by decide) (t := (.array .boolean)) (t' := (.array .int)) (by decide) (by decide)
theorem sn_cN0_stored_indices {a0 : Array Value} {Z : State} (hw : ∀ d ∈ tables_1, d.before a0 Z = true) : Jvm.RoadKit.slotOf Z cN0 "stored" "[Z" ≠ Jvm.RoadKit.slotOf Z cN0 "indices" "[I" := slot_ne (Or.inl (ow hw 38 rfl)) (Or.inl (ow hw 14 rfl)) (by decide) (t := (.array .boolean)) (t' := (.array .int)) (by decide) (by decide)
theorem sn_cN0_stored_branchNumbers {a0 : Array Value} {Z : State} (hw : ∀ d ∈ tables_1, d.before a0 Z = true) : Jvm.RoadKit.slotOf Z cN0 "stored" "[Z" ≠ Jvm.RoadKit.slotOf Z cN0 "branchNumbers" "[I" := slot_ne (Or.inl (ow hw 38 rfl)) (Or.inl (ow hw 16 rfl)) (by decide) (t := (.array .boolean)) (t' := (.array .int)) (by decide) (by decide)
theorem sn_cN0_stored_chose {a0 : Array Value} {Z : State} (hw : ∀ d ∈ tables_1, d.before a0 Z = true) : Jvm.RoadKit.slotOf Z cN0 "stored" "[Z" ≠ Jvm.RoadKit.slotOf Z cN0 "chose" "[Z" := slot_ne (Or.inl (ow hw 38 rfl)) (Or.inl (ow hw 19 rfl)) (by decide) (t := (.array .boolean)) (t' := (.array .boolean)) (by decide) (by decide)
theorem sn_cN0_stored_keys {a0 : Array Value} {Z : State} (hw : ∀ d ∈ tables_1, d.before a0 Z = true) : Jvm.RoadKit.slotOf Z cN0 "stored" "[Z" ≠ Jvm.RoadKit.slotOf Z cN0 "keys" "[[B" := slot_ne (Or.inl (ow hw 38 rfl)) (Or.inl (ow hw 23 rfl)) (by decide) (t := (.array .boolean)) (t' := (.array (.array .byte))) (by decide) (by decide)
theorem sn_cN0_stored_moves {a0 : Array Value} {Z : State} (hw : ∀ d ∈ tables_1, d.before a0 Z = true) : Jvm.RoadKit.slotOf Z cN0 "stored" "[Z" ≠ Jvm.RoadKit.slotOf Z cN0 "moves" cN1 := slot_ne (Or.inl (ow hw 38 rfl)) (Or.inl (ow hw 27 rfl)) (by decide) (t := (.array .boolean)) (t' := (.array (.object "com/example/flote/flote/search/Search$Moves"))) (by decide) (by decide)
theorem sn_cN0_stored_transitions {a0 : Array Value} {Z : State} (hw : ∀ d ∈ tables_1, d.before a0 Z = true) : Jvm.RoadKit.slotOf Z cN0 "stored" "[Z" ≠ Jvm.RoadKit.slotOf Z cN0 "transitions" cN2 := slot_ne (Or.inl (ow hw 38 rfl)) (Or.inl (ow hw 31 rfl)) (by decide) (t := (.array .boolean)) (t' := (.array (.object "com/example/flote/flote/search/Search$Branches"))) (by decide) (by decide)
theorem sn_cN0_stored_frames {a0 : Array Value} {Z : State} (hw : ∀ d ∈ tables_1, d.before a0 Z = true) : Jvm.RoadKit.slotOf Z cN0 "stored" "[Z" ≠ Jvm.RoadKit.slotOf Z cN0 "frames" "[J" := slot_ne (Or.inl (ow hw 38 rfl)) (Or.inl (ow hw 34 rfl)) (by decide) (t := (.array .boolean)) (t' := (.array .long)) (by decide) (by decide)
theorem sn_cN0_stored_targets {a0 : Array Value} {Z : State} (hw : ∀ d ∈ tables_1, d.before a0 Z = true) : Jvm.RoadKit.slotOf Z cN0 "stored" "[Z" ≠ Jvm.RoadKit.slotOf Z cN0 "targets" "[I" := slot_ne (Or.inl (ow hw 38 rfl)) (Or.inl (ow hw 36 rfl)) (by decide) (t := (.array .boolean)) (t' := (.array .int)) (by decide) (by decide)
theorem d1_87 : decode prog_108_method_1_code 87 = .ok (.return_, 1) := by decide +kernel
theorem sn_cN0_actors_indices {a0 : Array Value} {Z : State} (hw : ∀ d ∈ tables_1, d.before a0 Z = true) : Jvm.RoadKit.slotOf Z cN0 "actors" "[I" ≠ Jvm.RoadKit.slotOf Z cN0 "indices" "[I" := slot_ne (Or.inl (ow hw 12 rfl)) (Or.inl (ow hw 14 rfl)) (by decide) (t := (.array .int)) (t' := (.array .int)) (by decide) (by decide)
theorem sn_cN0_actors_branchNumbers {a0 : Array Value} {Z : State} (hw : ∀ d ∈ tables_1, d.before a0 Z = true) : Jvm.RoadKit.slotOf Z cN0 "actors" "[I" ≠ Jvm.RoadKit.slotOf Z cN0 "branchNumbers" "[I" := slot_ne (Or.inl (ow hw 12 rfl)) (Or.inl (ow hw 16 rfl)) (by decide) (t := (.array .int)) (t' := (.array .int)) (by decide) (by decide)
theorem sn_cN0_actors_chose {a0 : Array Value} {Z : State} (hw : ∀ d ∈ tables_1, d.before a0 Z = true) : Jvm.RoadKit.slotOf Z cN0 "actors" "[I" ≠ Jvm.RoadKit.slotOf Z cN0 "chose" "[Z" := slot_ne (Or.inl (ow hw 12 rfl)) (Or.inl (ow hw 19 rfl)) (by decide) (t := (.array .int)) (t' := (.array .boolean)) (by decide) (by decide)
theorem sn_cN0_actors_keys {a0 : Array Value} {Z : State} (hw : ∀ d ∈ tables_1, d.before a0 Z = true) : Jvm.RoadKit.slotOf Z cN0 "actors" "[I" ≠ Jvm.RoadKit.slotOf Z cN0 "keys" "[[B" := slot_ne (Or.inl (ow hw 12 rfl)) (Or.inl (ow hw 23 rfl)) (by decide) (t := (.array .int)) (t' := (.array (.array .byte))) (by decide) (by decide)
theorem sn_cN0_actors_moves {a0 : Array Value} {Z : State} (hw : ∀ d ∈ tables_1, d.before a0 Z = true) : Jvm.RoadKit.slotOf Z cN0 "actors" "[I" ≠ Jvm.RoadKit.slotOf Z cN0 "moves" cN1 := slot_ne (Or.inl (ow hw 12 rfl)) (Or.inl (ow hw 27 rfl)) (by decide) (t := (.array .int)) (t' := (.array (.object "com/example/flote/flote/search/Search$Moves"))) (by decide) (by decide)
theorem sn_cN0_actors_transitions {a0 : Array Value} {Z : State} (hw : ∀ d ∈ tables_1, d.before a0 Z = true) : Jvm.RoadKit.slotOf Z cN0 "actors" "[I" ≠ Jvm.RoadKit.slotOf Z cN0 "transitions" cN2 := slot_ne (Or.inl (ow hw 12 rfl)) (Or.inl (ow hw 31 rfl)) (by decide) (t := (.array .int)) (t' := (.array (.object "com/example/flote/flote/search/Search$Branches"))) (by decide) (by decide)
theorem sn_cN0_actors_frames {a0 : Array Value} {Z : State} (hw : ∀ d ∈ tables_1, d.before a0 Z = true) : Jvm.RoadKit.slotOf Z cN0 "actors" "[I" ≠ Jvm.RoadKit.slotOf Z cN0 "frames" "[J" := slot_ne (Or.inl (ow hw 12 rfl)) (Or.inl (ow hw 34 rfl)) (by decide) (t := (.array .int)) (t' := (.array .long)) (by decide) (by decide)
theorem sn_cN0_actors_targets {a0 : Array Value} {Z : State} (hw : ∀ d ∈ tables_1, d.before a0 Z = true) : Jvm.RoadKit.slotOf Z cN0 "actors" "[I" ≠ Jvm.RoadKit.slotOf Z cN0 "targets" "[I" := slot_ne (Or.inl (ow hw 12 rfl)) (Or.inl (ow hw 36 rfl)) (by decide) (t := (.array .int)) (t' := (.array .int)) (by decide) (by decide)
theorem sn_cN0_actors_stored {a0 : Array Value} {Z : State} (hw : ∀ d ∈ tables_1, d.before a0 Z = true) : Jvm.RoadKit.slotOf Z cN0 "actors" "[I" ≠ Jvm.RoadKit.slotOf Z cN0 "stored" "[Z" := slot_ne (Or.inl (ow hw 12 rfl)) (Or.inl (ow hw 38 rfl)) (by decide) (t := (.array .int)) (t' := (.array .boolean)) (by decide) (by decide)
theorem sn_cN0_indices_branchNumbers {a0 : Array Value} {Z : State} (hw : ∀ d ∈ tables_1, d.before a0 Z = true) : Jvm.RoadKit.slotOf Z cN0 "indices" "[I" ≠ Jvm.RoadKit.slotOf Z cN0 "branchNumbers" "[I" := slot_ne (Or.inl (ow hw 14 rfl)) (Or.inl (ow hw 16 rfl)) (by decide) (t := (.array .int)) (t' := (.array .int)) (by decide) (by decide)
theorem sn_cN0_indices_chose {a0 : Array Value} {Z : State} (hw : ∀ d ∈ tables_1, d.before a0 Z = true) : Jvm.RoadKit.slotOf Z cN0 "indices" "[I" ≠ Jvm.RoadKit.slotOf Z cN0 "chose" "[Z" := slot_ne (Or.inl (ow hw 14 rfl)) (Or.inl (ow hw 19 rfl)) (by decide) (t := (.array .int)) (t' := (.array .boolean)) (by decide) (by decide)
theorem sn_cN0_indices_keys {a0 : Array Value} {Z : State} (hw : ∀ d ∈ tables_1, d.before a0 Z = true) : Jvm.RoadKit.slotOf Z cN0 "indices" "[I" ≠ Jvm.RoadKit.slotOf Z cN0 "keys" "[[B" := slot_ne (Or.inl (ow hw 14 rfl)) (Or.inl (ow hw 23 rfl)) (by decide) (t := (.array .int)) (t' := (.array (.array .byte))) (by decide) (by decide)
theorem sn_cN0_indices_moves {a0 : Array Value} {Z : State} (hw : ∀ d ∈ tables_1, d.before a0 Z = true) : Jvm.RoadKit.slotOf Z cN0 "indices" "[I" ≠ Jvm.RoadKit.slotOf Z cN0 "moves" cN1 := slot_ne (Or.inl (ow hw 14 rfl)) (Or.inl (ow hw 27 rfl)) (by decide) (t := (.array .int)) (t' := (.array (.object "com/example/flote/flote/search/Search$Moves"))) (by decide) (by decide)
theorem sn_cN0_indices_transitions {a0 : Array Value} {Z : State} (hw : ∀ d ∈ tables_1, d.before a0 Z = true) : Jvm.RoadKit.slotOf Z cN0 "indices" "[I" ≠ Jvm.RoadKit.slotOf Z cN0 "transitions" cN2 := slot_ne (Or.inl (ow hw 14 rfl)) (Or.inl (ow hw 31 rfl)) (by decide) (t := (.array .int)) (t' := (.array (.object "com/example/flote/flote/search/Search$Branches"))) (by decide) (by decide)
theorem sn_cN0_indices_frames {a0 : Array Value} {Z : State} (hw : ∀ d ∈ tables_1, d.before a0 Z = true) : Jvm.RoadKit.slotOf Z cN0 "indices" "[I" ≠ Jvm.RoadKit.slotOf Z cN0 "frames" "[J" := slot_ne (Or.inl (ow hw 14 rfl)) (Or.inl (ow hw 34 rfl)) (by decide) (t := (.array .int)) (t' := (.array .long)) (by decide) (by decide)
theorem sn_cN0_indices_targets {a0 : Array Value} {Z : State} (hw : ∀ d ∈ tables_1, d.before a0 Z = true) : Jvm.RoadKit.slotOf Z cN0 "indices" "[I" ≠ Jvm.RoadKit.slotOf Z cN0 "targets" "[I" := slot_ne (Or.inl (ow hw 14 rfl)) (Or.inl (ow hw 36 rfl)) (by decide) (t := (.array .int)) (t' := (.array .int)) (by decide) (by decide)
theorem sn_cN0_indices_stored {a0 : Array Value} {Z : State} (hw : ∀ d ∈ tables_1, d.before a0 Z = true) : Jvm.RoadKit.slotOf Z cN0 "indices" "[I" ≠ Jvm.RoadKit.slotOf Z cN0 "stored" "[Z" := slot_ne (Or.inl (ow hw 14 rfl)) (Or.inl (ow hw 38 rfl)) (by decide) (t := (.array .int)) (t' := (.array .boolean)) (by decide) (by decide)
theorem sn_cN0_branchNumbers_chose {a0 : Array Value} {Z : State} (hw : ∀ d ∈ tables_1, d.before a0 Z = true) : Jvm.RoadKit.slotOf Z cN0 "branchNumbers" "[I" ≠ Jvm.RoadKit.slotOf Z cN0 "chose" "[Z" := slot_ne (Or.inl (ow hw 16 rfl)) (Or.inl (ow hw 19 rfl)) (by decide) (t := (.array .int)) (t' := (.array .boolean)) (by decide) (by decide)
theorem sn_cN0_branchNumbers_keys {a0 : Array Value} {Z : State} (hw : ∀ d ∈ tables_1, d.before a0 Z = true) : Jvm.RoadKit.slotOf Z cN0 "branchNumbers" "[I" ≠ Jvm.RoadKit.slotOf Z cN0 "keys" "[[B" := slot_ne (Or.inl (ow hw 16 rfl)) (Or.inl (ow hw 23 rfl)) (by decide) (t := (.array .int)) (t' := (.array (.array .byte))) (by decide) (by decide)
theorem sn_cN0_branchNumbers_moves {a0 : Array Value} {Z : State} (hw : ∀ d ∈ tables_1, d.before a0 Z = true) : Jvm.RoadKit.slotOf Z cN0 "branchNumbers" "[I" ≠ Jvm.RoadKit.slotOf Z cN0 "moves" cN1 := slot_ne (Or.inl (ow hw 16 rfl)) (Or.inl (ow hw 27 rfl)) (by decide) (t := (.array .int)) (t' := (.array (.object "com/example/flote/flote/search/Search$Moves"))) (by decide) (by decide)
theorem sn_cN0_branchNumbers_transitions {a0 : Array Value} {Z : State} (hw : ∀ d ∈ tables_1, d.before a0 Z = true) : Jvm.RoadKit.slotOf Z cN0 "branchNumbers" "[I" ≠ Jvm.RoadKit.slotOf Z cN0 "transitions" cN2 := slot_ne (Or.inl (ow hw 16 rfl)) (Or.inl (ow hw 31 rfl)) (by decide) (t := (.array .int)) (t' := (.array (.object "com/example/flote/flote/search/Search$Branches"))) (by decide) (by decide)
theorem sn_cN0_branchNumbers_frames {a0 : Array Value} {Z : State} (hw : ∀ d ∈ tables_1, d.before a0 Z = true) : Jvm.RoadKit.slotOf Z cN0 "branchNumbers" "[I" ≠ Jvm.RoadKit.slotOf Z cN0 "frames" "[J" := slot_ne (Or.inl (ow hw 16 rfl)) (Or.inl (ow hw 34 rfl)) (by decide) (t := (.array .int)) (t' := (.array .long)) (by decide) (by decide)
theorem sn_cN0_branchNumbers_targets {a0 : Array Value} {Z : State} (hw : ∀ d ∈ tables_1, d.before a0 Z = true) : Jvm.RoadKit.slotOf Z cN0 "branchNumbers" "[I" ≠ Jvm.RoadKit.slotOf Z cN0 "targets" "[I" := slot_ne (Or.inl (ow hw 16 rfl)) (Or.inl (ow hw 36 rfl)) (by decide) (t := (.array .int)) (t' := (.array .int)) (by decide) (by decide)
theorem sn_cN0_branchNumbers_stored {a0 : Array Value} {Z : State} (hw : ∀ d ∈ tables_1, d.before a0 Z = true) : Jvm.RoadKit.slotOf Z cN0 "branchNumbers" "[I" ≠ Jvm.RoadKit.slotOf Z cN0 "stored" "[Z" := slot_ne (Or.inl (ow hw 16 rfl)) (Or.inl (ow hw 38 rfl)) (by decide) (t := (.array .int)) (t' := (.array .boolean)) (by decide) (by decide)
theorem sn_cN0_chose_keys {a0 : Array Value} {Z : State} (hw : ∀ d ∈ tables_1, d.before a0 Z = true) : Jvm.RoadKit.slotOf Z cN0 "chose" "[Z" ≠ Jvm.RoadKit.slotOf Z cN0 "keys" "[[B" := slot_ne (Or.inl (ow hw 19 rfl)) (Or.inl (ow hw 23 rfl)) (by decide) (t := (.array .boolean)) (t' := (.array (.array .byte))) (by decide) (by decide)
theorem sn_cN0_chose_moves {a0 : Array Value} {Z : State} (hw : ∀ d ∈ tables_1, d.before a0 Z = true) : Jvm.RoadKit.slotOf Z cN0 "chose" "[Z" ≠ Jvm.RoadKit.slotOf Z cN0 "moves" cN1 := slot_ne (Or.inl (ow hw 19 rfl)) (Or.inl (ow hw 27 rfl)) (by decide) (t := (.array .boolean)) (t' := (.array (.object "com/example/flote/flote/search/Search$Moves"))) (by decide) (by decide)
theorem sn_cN0_chose_transitions {a0 : Array Value} {Z : State} (hw : ∀ d ∈ tables_1, d.before a0 Z = true) : Jvm.RoadKit.slotOf Z cN0 "chose" "[Z" ≠ Jvm.RoadKit.slotOf Z cN0 "transitions" cN2 := slot_ne (Or.inl (ow hw 19 rfl)) (Or.inl (ow hw 31 rfl)) (by decide) (t := (.array .boolean)) (t' := (.array (.object "com/example/flote/flote/search/Search$Branches"))) (by decide) (by decide)
theorem sn_cN0_chose_frames {a0 : Array Value} {Z : State} (hw : ∀ d ∈ tables_1, d.before a0 Z = true) : Jvm.RoadKit.slotOf Z cN0 "chose" "[Z" ≠ Jvm.RoadKit.slotOf Z cN0 "frames" "[J" := slot_ne (Or.inl (ow hw 19 rfl)) (Or.inl (ow hw 34 rfl)) (by decide) (t := (.array .boolean)) (t' := (.array .long)) (by decide) (by decide)
theorem sn_cN0_chose_targets {a0 : Array Value} {Z : State} (hw : ∀ d ∈ tables_1, d.before a0 Z = true) : Jvm.RoadKit.slotOf Z cN0 "chose" "[Z" ≠ Jvm.RoadKit.slotOf Z cN0 "targets" "[I" := slot_ne (Or.inl (ow hw 19 rfl)) (Or.inl (ow hw 36 rfl)) (by decide) (t := (.array .boolean)) (t' := (.array .int)) (by decide) (by decide)
theorem sn_cN0_chose_stored {a0 : Array Value} {Z : State} (hw : ∀ d ∈ tables_1, d.before a0 Z = true) : Jvm.RoadKit.slotOf Z cN0 "chose" "[Z" ≠ Jvm.RoadKit.slotOf Z cN0 "stored" "[Z" := slot_ne (Or.inl (ow hw 19 rfl)) (Or.inl (ow hw 38 rfl)) (by decide) (t := (.array .boolean)) (t' := (.array .boolean)) (by decide) (by decide)
theorem sn_cN0_keys_moves {a0 : Array Value} {Z : State} (hw : ∀ d ∈ tables_1, d.before a0 Z = true) : Jvm.RoadKit.slotOf Z cN0 "keys" "[[B" ≠ Jvm.RoadKit.slotOf Z cN0 "moves" cN1 := slot_ne (Or.inl (ow hw 23 rfl)) (Or.inl (ow hw 27 rfl)) (by decide) (t := (.array (.array .byte))) (t' := (.array (.object "com/example/flote/flote/search/Search$Moves"))) (by decide) (by decide)
theorem sn_cN0_keys_transitions {a0 : Array Value} {Z : State} (hw : ∀ d ∈ tables_1, d.before a0 Z = true) : Jvm.RoadKit.slotOf Z cN0 "keys" "[[B" ≠ Jvm.RoadKit.slotOf Z cN0 "transitions" cN2 := slot_ne (Or.inl (ow hw 23 rfl)) (Or.inl (ow hw 31 rfl)) (by decide) (t := (.array (.array .byte))) (t' := (.array (.object "com/example/flote/flote/search/Search$Branches"))) (by decide) (by decide)
theorem sn_cN0_keys_frames {a0 : Array Value} {Z : State} (hw : ∀ d ∈ tables_1, d.before a0 Z = true) : Jvm.RoadKit.slotOf Z cN0 "keys" "[[B" ≠ Jvm.RoadKit.slotOf Z cN0 "frames" "[J" := slot_ne (Or.inl (ow hw 23 rfl)) (Or.inl (ow hw 34 rfl)) (by decide) (t := (.array (.array .byte))) (t' := (.array .long)) (by decide) (by decide)
theorem sn_cN0_keys_targets {a0 : Array Value} {Z : State} (hw : ∀ d ∈ tables_1, d.before a0 Z = true) : Jvm.RoadKit.slotOf Z cN0 "keys" "[[B" ≠ Jvm.RoadKit.slotOf Z cN0 "targets" "[I" := slot_ne (Or.inl (ow hw 23 rfl)) (Or.inl (ow hw 36 rfl)) (by decide) (t := (.array (.array .byte))) (t' := (.array .int)) (by decide) (by decide)
theorem sn_cN0_keys_stored {a0 : Array Value} {Z : State} (hw : ∀ d ∈ tables_1, d.before a0 Z = true) : Jvm.RoadKit.slotOf Z cN0 "keys" "[[B" ≠ Jvm.RoadKit.slotOf Z cN0 "stored" "[Z" := slot_ne (Or.inl (ow hw 23 rfl)) (Or.inl (ow hw 38 rfl)) (by decide) (t := (.array (.array .byte))) (t' := (.array .boolean)) (by decide) (by decide)
theorem sn_cN0_moves_transitions {a0 : Array Value} {Z : State} (hw : ∀ d ∈ tables_1, d.before a0 Z = true) : Jvm.RoadKit.slotOf Z cN0 "moves" cN1 ≠ Jvm.RoadKit.slotOf Z cN0 "transitions" cN2 := slot_ne (Or.inl (ow hw 27 rfl)) (Or.inl (ow hw 31 rfl)) (by decide) (t := (.array (.object "com/example/flote/flote/search/Search$Moves"))) (t' := (.array (.object "com/example/flote/flote/search/Search$Branches"))) (by decide) (by decide)
theorem sn_cN0_moves_frames {a0 : Array Value} {Z : State} (hw : ∀ d ∈ tables_1, d.before a0 Z = true) : Jvm.RoadKit.slotOf Z cN0 "moves" cN1 ≠ Jvm.RoadKit.slotOf Z cN0 "frames" "[J" := slot_ne (Or.inl (ow hw 27 rfl)) (Or.inl (ow hw 34 rfl)) (by decide) (t := (.array (.object "com/example/flote/flote/search/Search$Moves"))) (t' := (.array .long)) (by decide) (by decide)
theorem sn_cN0_moves_targets {a0 : Array Value} {Z : State} (hw : ∀ d ∈ tables_1, d.before a0 Z = true) : Jvm.RoadKit.slotOf Z cN0 "moves" cN1 ≠ Jvm.RoadKit.slotOf Z cN0 "targets" "[I" := slot_ne (Or.inl (ow hw 27 rfl)) (Or.inl (ow hw 36 rfl)) (by decide) (t := (.array (.object "com/example/flote/flote/search/Search$Moves"))) (t' := (.array .int)) (by decide) (by decide)
theorem sn_cN0_moves_stored {a0 : Array Value} {Z : State} (hw : ∀ d ∈ tables_1, d.before a0 Z = true) : Jvm.RoadKit.slotOf Z cN0 "moves" cN1 ≠ Jvm.RoadKit.slotOf Z cN0 "stored" "[Z" := slot_ne (Or.inl (ow hw 27 rfl)) (Or.inl (ow hw 38 rfl)) (by decide) (t := (.array (.object "com/example/flote/flote/search/Search$Moves"))) (t' := (.array .boolean)) (by decide) (by decide)
theorem sn_cN0_transitions_frames {a0 : Array Value} {Z : State} (hw : ∀ d ∈ tables_1, d.before a0 Z = true) : Jvm.RoadKit.slotOf Z cN0 "transitions" cN2 ≠ Jvm.RoadKit.slotOf Z cN0 "frames" "[J" := slot_ne (Or.inl (ow hw 31 rfl)) (Or.inl (ow hw 34 rfl)) (by decide) (t := (.array (.object "com/example/flote/flote/search/Search$Branches"))) (t' := (.array .long)) (by decide) (by decide)
theorem sn_cN0_transitions_targets {a0 : Array Value} {Z : State} (hw : ∀ d ∈ tables_1, d.before a0 Z = true) : Jvm.RoadKit.slotOf Z cN0 "transitions" cN2 ≠ Jvm.RoadKit.slotOf Z cN0 "targets" "[I" := slot_ne (Or.inl (ow hw 31 rfl)) (Or.inl (ow hw 36 rfl)) (by decide) (t := (.array (.object "com/example/flote/flote/search/Search$Branches"))) (t' := (.array .int)) (by decide) (by decide)
theorem sn_cN0_transitions_stored {a0 : Array Value} {Z : State} (hw : ∀ d ∈ tables_1, d.before a0 Z = true) : Jvm.RoadKit.slotOf Z cN0 "transitions" cN2 ≠ Jvm.RoadKit.slotOf Z cN0 "stored" "[Z" := slot_ne (Or.inl (ow hw 31 rfl)) (Or.inl (ow hw 38 rfl)) (by decide) (t := (.array (.object "com/example/flote/flote/search/Search$Branches"))) (t' := (.array .boolean)) (by decide) (by decide)
theorem sn_cN0_frames_targets {a0 : Array Value} {Z : State} (hw : ∀ d ∈ tables_1, d.before a0 Z = true) : Jvm.RoadKit.slotOf Z cN0 "frames" "[J" ≠ Jvm.RoadKit.slotOf Z cN0 "targets" "[I" := slot_ne (Or.inl (ow hw 34 rfl)) (Or.inl (ow hw 36 rfl)) (by decide) (t := (.array .long)) (t' := (.array .int)) (by decide) (by decide)
theorem sn_cN0_frames_stored {a0 : Array Value} {Z : State} (hw : ∀ d ∈ tables_1, d.before a0 Z = true) : Jvm.RoadKit.slotOf Z cN0 "frames" "[J" ≠ Jvm.RoadKit.slotOf Z cN0 "stored" "[Z" := slot_ne (Or.inl (ow hw 34 rfl)) (Or.inl (ow hw 38 rfl)) (by decide) (t := (.array .long)) (t' := (.array .boolean)) (by decide) (by decide)
theorem sn_cN0_targets_stored {a0 : Array Value} {Z : State} (hw : ∀ d ∈ tables_1, d.before a0 Z = true) : Jvm.RoadKit.slotOf Z cN0 "targets" "[I" ≠ Jvm.RoadKit.slotOf Z cN0 "stored" "[Z" := slot_ne (Or.inl (ow hw 36 rfl)) (Or.inl (ow hw 38 rfl)) (by decide) (t := (.array .int)) (t' := (.array .boolean)) (by decide) (by decide)
theorem sn_cN0_count_actors {a0 : Array Value} {Z : State} (hw : ∀ d ∈ tables_1, d.before a0 Z = true) : Jvm.RoadKit.slotOf Z cN0 "count" "I" ≠ Jvm.RoadKit.slotOf Z cN0 "actors" "[I" := slot_ne (Or.inl (ow hw 49 rfl)) (Or.inl (ow hw 12 rfl)) (by decide) (t := .int) (t' := (.array .int)) (by decide) (by decide)
theorem sn_cN0_count_indices {a0 : Array Value} {Z : State} (hw : ∀ d ∈ tables_1, d.before a0 Z = true) : Jvm.RoadKit.slotOf Z cN0 "count" "I" ≠ Jvm.RoadKit.slotOf Z cN0 "indices" "[I" := slot_ne (Or.inl (ow hw 49 rfl)) (Or.inl (ow hw 14 rfl)) (by decide) (t := .int) (t' := (.array .int)) (by decide) (by decide)
theorem sn_cN0_count_branchNumbers {a0 : Array Value} {Z : State} (hw : ∀ d ∈ tables_1, d.before a0 Z = true) : Jvm.RoadKit.slotOf Z cN0 "count" "I" ≠ Jvm.RoadKit.slotOf Z cN0 "branchNumbers" "[I" := slot_ne (Or.inl (ow hw 49 rfl)) (Or.inl (ow hw 16 rfl)) (by decide) (t := .int) (t' := (.array .int)) (by decide) (by decide)
theorem sn_cN0_count_chose {a0 : Array Value} {Z : State} (hw : ∀ d ∈ tables_1, d.before a0 Z = true) : Jvm.RoadKit.slotOf Z cN0 "count" "I" ≠ Jvm.RoadKit.slotOf Z cN0 "chose" "[Z" := slot_ne (Or.inl (ow hw 49 rfl)) (Or.inl (ow hw 19 rfl)) (by decide) (t := .int) (t' := (.array .boolean)) (by decide) (by decide)
theorem sn_cN0_count_keys {a0 : Array Value} {Z : State} (hw : ∀ d ∈ tables_1, d.before a0 Z = true) : Jvm.RoadKit.slotOf Z cN0 "count" "I" ≠ Jvm.RoadKit.slotOf Z cN0 "keys" "[[B" := slot_ne (Or.inl (ow hw 49 rfl)) (Or.inl (ow hw 23 rfl)) (by decide) (t := .int) (t' := (.array (.array .byte))) (by decide) (by decide)
theorem sn_cN0_count_moves {a0 : Array Value} {Z : State} (hw : ∀ d ∈ tables_1, d.before a0 Z = true) : Jvm.RoadKit.slotOf Z cN0 "count" "I" ≠ Jvm.RoadKit.slotOf Z cN0 "moves" cN1 := slot_ne (Or.inl (ow hw 49 rfl)) (Or.inl (ow hw 27 rfl)) (by decide) (t := .int) (t' := (.array (.object "com/example/flote/flote/search/Search$Moves"))) (by decide) (by decide)
theorem sn_cN0_count_transitions {a0 : Array Value} {Z : State} (hw : ∀ d ∈ tables_1, d.before a0 Z = true) : Jvm.RoadKit.slotOf Z cN0 "count" "I" ≠ Jvm.RoadKit.slotOf Z cN0 "transitions" cN2 := slot_ne (Or.inl (ow hw 49 rfl)) (Or.inl (ow hw 31 rfl)) (by decide) (t := .int) (t' := (.array (.object "com/example/flote/flote/search/Search$Branches"))) (by decide) (by decide)
theorem sn_cN0_count_frames {a0 : Array Value} {Z : State} (hw : ∀ d ∈ tables_1, d.before a0 Z = true) : Jvm.RoadKit.slotOf Z cN0 "count" "I" ≠ Jvm.RoadKit.slotOf Z cN0 "frames" "[J" := slot_ne (Or.inl (ow hw 49 rfl)) (Or.inl (ow hw 34 rfl)) (by decide) (t := .int) (t' := (.array .long)) (by decide) (by decide)
theorem sn_cN0_count_targets {a0 : Array Value} {Z : State} (hw : ∀ d ∈ tables_1, d.before a0 Z = true) : Jvm.RoadKit.slotOf Z cN0 "count" "I" ≠ Jvm.RoadKit.slotOf Z cN0 "targets" "[I" := slot_ne (Or.inl (ow hw 49 rfl)) (Or.inl (ow hw 36 rfl)) (by decide) (t := .int) (t' := (.array .int)) (by decide) (by decide)
theorem sn_cN0_count_stored {a0 : Array Value} {Z : State} (hw : ∀ d ∈ tables_1, d.before a0 Z = true) : Jvm.RoadKit.slotOf Z cN0 "count" "I" ≠ Jvm.RoadKit.slotOf Z cN0 "stored" "[Z" := slot_ne (Or.inl (ow hw 49 rfl)) (Or.inl (ow hw 38 rfl)) (by decide) (t := .int) (t' := (.array .boolean)) (by decide) (by decide)
theorem sn_cN0_admitted_actors {a0 : Array Value} {Z : State} (hw : ∀ d ∈ tables_1, d.before a0 Z = true) : Jvm.RoadKit.slotOf Z cN0 "admitted" "I" ≠ Jvm.RoadKit.slotOf Z cN0 "actors" "[I" := slot_ne (Or.inl (ow hw 51 rfl)) (Or.inl (ow hw 12 rfl)) (by decide) (t := .int) (t' := (.array .int)) (by decide) (by decide)
theorem sn_cN0_admitted_indices {a0 : Array Value} {Z : State} (hw : ∀ d ∈ tables_1, d.before a0 Z = true) : Jvm.RoadKit.slotOf Z cN0 "admitted" "I" ≠ Jvm.RoadKit.slotOf Z cN0 "indices" "[I" := slot_ne (Or.inl (ow hw 51 rfl)) (Or.inl (ow hw 14 rfl)) (by decide) (t := .int) (t' := (.array .int)) (by decide) (by decide)
theorem sn_cN0_admitted_branchNumbers {a0 : Array Value} {Z : State} (hw : ∀ d ∈ tables_1, d.before a0 Z = true) : Jvm.RoadKit.slotOf Z cN0 "admitted" "I" ≠ Jvm.RoadKit.slotOf Z cN0 "branchNumbers" "[I" := slot_ne (Or.inl (ow hw 51 rfl)) (Or.inl (ow hw 16 rfl)) (by decide) (t := .int) (t' := (.array .int)) (by decide) (by decide)
theorem sn_cN0_admitted_chose {a0 : Array Value} {Z : State} (hw : ∀ d ∈ tables_1, d.before a0 Z = true) : Jvm.RoadKit.slotOf Z cN0 "admitted" "I" ≠ Jvm.RoadKit.slotOf Z cN0 "chose" "[Z" := slot_ne (Or.inl (ow hw 51 rfl)) (Or.inl (ow hw 19 rfl)) (by decide) (t := .int) (t' := (.array .boolean)) (by decide) (by decide)
theorem sn_cN0_admitted_keys {a0 : Array Value} {Z : State} (hw : ∀ d ∈ tables_1, d.before a0 Z = true) : Jvm.RoadKit.slotOf Z cN0 "admitted" "I" ≠ Jvm.RoadKit.slotOf Z cN0 "keys" "[[B" := slot_ne (Or.inl (ow hw 51 rfl)) (Or.inl (ow hw 23 rfl)) (by decide) (t := .int) (t' := (.array (.array .byte))) (by decide) (by decide)
theorem sn_cN0_admitted_moves {a0 : Array Value} {Z : State} (hw : ∀ d ∈ tables_1, d.before a0 Z = true) : Jvm.RoadKit.slotOf Z cN0 "admitted" "I" ≠ Jvm.RoadKit.slotOf Z cN0 "moves" cN1 := slot_ne (Or.inl (ow hw 51 rfl)) (Or.inl (ow hw 27 rfl)) (by decide) (t := .int) (t' := (.array (.object "com/example/flote/flote/search/Search$Moves"))) (by decide) (by decide)
theorem sn_cN0_admitted_transitions {a0 : Array Value} {Z : State} (hw : ∀ d ∈ tables_1, d.before a0 Z = true) : Jvm.RoadKit.slotOf Z cN0 "admitted" "I" ≠ Jvm.RoadKit.slotOf Z cN0 "transitions" cN2 := slot_ne (Or.inl (ow hw 51 rfl)) (Or.inl (ow hw 31 rfl)) (by decide) (t := .int) (t' := (.array (.object "com/example/flote/flote/search/Search$Branches"))) (by decide) (by decide)
theorem sn_cN0_admitted_frames {a0 : Array Value} {Z : State} (hw : ∀ d ∈ tables_1, d.before a0 Z = true) : Jvm.RoadKit.slotOf Z cN0 "admitted" "I" ≠ Jvm.RoadKit.slotOf Z cN0 "frames" "[J" := slot_ne (Or.inl (ow hw 51 rfl)) (Or.inl (ow hw 34 rfl)) (by decide) (t := .int) (t' := (.array .long)) (by decide) (by decide)
theorem sn_cN0_admitted_targets {a0 : Array Value} {Z : State} (hw : ∀ d ∈ tables_1, d.before a0 Z = true) : Jvm.RoadKit.slotOf Z cN0 "admitted" "I" ≠ Jvm.RoadKit.slotOf Z cN0 "targets" "[I" := slot_ne (Or.inl (ow hw 51 rfl)) (Or.inl (ow hw 36 rfl)) (by decide) (t := .int) (t' := (.array .int)) (by decide) (by decide)
theorem sn_cN0_admitted_stored {a0 : Array Value} {Z : State} (hw : ∀ d ∈ tables_1, d.before a0 Z = true) : Jvm.RoadKit.slotOf Z cN0 "admitted" "I" ≠ Jvm.RoadKit.slotOf Z cN0 "stored" "[Z" := slot_ne (Or.inl (ow hw 51 rfl)) (Or.inl (ow hw 38 rfl)) (by decide) (t := .int) (t' := (.array .boolean)) (by decide) (by decide)
theorem sn_cN0_waitingBytes_actors {a0 : Array Value} {Z : State} (hw : ∀ d ∈ tables_1, d.before a0 Z = true) : Jvm.RoadKit.slotOf Z cN0 "waitingBytes" "J" ≠ Jvm.RoadKit.slotOf Z cN0 "actors" "[I" := slot_ne (Or.inl (ow hw 60 rfl)) (Or.inl (ow hw 12 rfl)) (by decide) (t := .long) (t' := (.array .int)) (by decide) (by decide)
theorem sn_cN0_waitingBytes_indices {a0 : Array Value} {Z : State} (hw : ∀ d ∈ tables_1, d.before a0 Z = true) : Jvm.RoadKit.slotOf Z cN0 "waitingBytes" "J" ≠ Jvm.RoadKit.slotOf Z cN0 "indices" "[I" := slot_ne (Or.inl (ow hw 60 rfl)) (Or.inl (ow hw 14 rfl)) (by decide) (t := .long) (t' := (.array .int)) (by decide) (by decide)
theorem sn_cN0_waitingBytes_branchNumbers {a0 : Array Value} {Z : State} (hw : ∀ d ∈ tables_1, d.before a0 Z = true) : Jvm.RoadKit.slotOf Z cN0 "waitingBytes" "J" ≠ Jvm.RoadKit.slotOf Z cN0 "branchNumbers" "[I" := slot_ne (Or.inl (ow hw 60 rfl)) (Or.inl (ow hw 16 rfl)) (by decide) (t := .long) (t' := (.array .int)) (by decide) (by decide)
theorem sn_cN0_waitingBytes_chose {a0 : Array Value} {Z : State} (hw : ∀ d ∈ tables_1, d.before a0 Z = true) : Jvm.RoadKit.slotOf Z cN0 "waitingBytes" "J" ≠ Jvm.RoadKit.slotOf Z cN0 "chose" "[Z" := slot_ne (Or.inl (ow hw 60 rfl)) (Or.inl (ow hw 19 rfl)) (by decide) (t := .long) (t' := (.array .boolean)) (by decide) (by decide)
theorem sn_cN0_waitingBytes_keys {a0 : Array Value} {Z : State} (hw : ∀ d ∈ tables_1, d.before a0 Z = true) : Jvm.RoadKit.slotOf Z cN0 "waitingBytes" "J" ≠ Jvm.RoadKit.slotOf Z cN0 "keys" "[[B" := slot_ne (Or.inl (ow hw 60 rfl)) (Or.inl (ow hw 23 rfl)) (by decide) (t := .long) (t' := (.array (.array .byte))) (by decide) (by decide)
theorem sn_cN0_waitingBytes_moves {a0 : Array Value} {Z : State} (hw : ∀ d ∈ tables_1, d.before a0 Z = true) : Jvm.RoadKit.slotOf Z cN0 "waitingBytes" "J" ≠ Jvm.RoadKit.slotOf Z cN0 "moves" cN1 := slot_ne (Or.inl (ow hw 60 rfl)) (Or.inl (ow hw 27 rfl)) (by decide) (t := .long) (t' := (.array (.object "com/example/flote/flote/search/Search$Moves"))) (by decide) (by decide)
theorem sn_cN0_waitingBytes_transitions {a0 : Array Value} {Z : State} (hw : ∀ d ∈ tables_1, d.before a0 Z = true) : Jvm.RoadKit.slotOf Z cN0 "waitingBytes" "J" ≠ Jvm.RoadKit.slotOf Z cN0 "transitions" cN2 := slot_ne (Or.inl (ow hw 60 rfl)) (Or.inl (ow hw 31 rfl)) (by decide) (t := .long) (t' := (.array (.object "com/example/flote/flote/search/Search$Branches"))) (by decide) (by decide)
theorem sn_cN0_waitingBytes_frames {a0 : Array Value} {Z : State} (hw : ∀ d ∈ tables_1, d.before a0 Z = true) : Jvm.RoadKit.slotOf Z cN0 "waitingBytes" "J" ≠ Jvm.RoadKit.slotOf Z cN0 "frames" "[J" := slot_ne (Or.inl (ow hw 60 rfl)) (Or.inl (ow hw 34 rfl)) (by decide) (t := .long) (t' := (.array .long)) (by decide) (by decide)
theorem sn_cN0_waitingBytes_targets {a0 : Array Value} {Z : State} (hw : ∀ d ∈ tables_1, d.before a0 Z = true) : Jvm.RoadKit.slotOf Z cN0 "waitingBytes" "J" ≠ Jvm.RoadKit.slotOf Z cN0 "targets" "[I" := slot_ne (Or.inl (ow hw 60 rfl)) (Or.inl (ow hw 36 rfl)) (by decide) (t := .long) (t' := (.array .int)) (by decide) (by decide)
theorem sn_cN0_waitingBytes_stored {a0 : Array Value} {Z : State} (hw : ∀ d ∈ tables_1, d.before a0 Z = true) : Jvm.RoadKit.slotOf Z cN0 "waitingBytes" "J" ≠ Jvm.RoadKit.slotOf Z cN0 "stored" "[Z" := slot_ne (Or.inl (ow hw 60 rfl)) (Or.inl (ow hw 38 rfl)) (by decide) (t := .long) (t' := (.array .boolean)) (by decide) (by decide)
def Q_init (Z : State) (a1 : Addr) (h0 : Heap) (n0 : Nat) (v : Option Value) (h : Heap) (L : List Loc) : Prop := v = none ∧ Fr n0 L ∧ ∃ (ac : Addr) (ix : Addr) (bn : Addr) (ch : Addr) (ky : Addr) (mv : Addr) (tr : Addr) (fr : Addr) (tg : Addr) (sd : Addr) (k_ac : ClassId) (k_ix : ClassId) (k_bn : ClassId) (k_ch : ClassId) (k_ky : ClassId) (k_mv : ClassId) (k_tr : ClassId) (k_fr : ClassId) (k_tg : ClassId) (k_sd : ClassId), Keep h0 h [a1] ∧ h0.size ≤ ac ∧ h0.size ≤ ix ∧ h0.size ≤ bn ∧ h0.size ≤ ch ∧ h0.size ≤ ky ∧ h0.size ≤ mv ∧ h0.size ≤ tr ∧ h0.size ≤ fr ∧ h0.size ≤ tg ∧ h0.size ≤ sd ∧ OND [ac, ix, bn, ch, ky, mv, tr, fr, tg, sd] ∧ OvrA Z k_ky .byte "[B" ∧ Exa Z h a1 cN0 ∧ Fld Z h a1 cN0 "actors" "[I" (.ref ac) ∧ Fld Z h a1 cN0 "indices" "[I" (.ref ix) ∧ Fld Z h a1 cN0 "branchNumbers" "[I" (.ref bn) ∧ Fld Z h a1 cN0 "chose" "[Z" (.ref ch) ∧ Fld Z h a1 cN0 "keys" "[[B" (.ref ky) ∧ Fld Z h a1 cN0 "moves" cN1 (.ref mv) ∧ Fld Z h a1 cN0 "transitions" cN2 (.ref tr) ∧ Fld Z h a1 cN0 "frames" "[J" (.ref fr) ∧ Fld Z h a1 cN0 "targets" "[I" (.ref tg) ∧ Fld Z h a1 cN0 "stored" "[Z" (.ref sd) ∧ Fld Z h a1 cN0 "count" "I" (.int (0 : Int32)) ∧ Fld Z h a1 cN0 "admitted" "I" (.int (0 : Int32)) ∧ Fld Z h a1 cN0 "waitingBytes" "J" (.long (0 : Int64)) ∧ OAr Z h ac k_ac .int (oV (.int (0 : Int32)) (.int (0 : Int32)) (.int (0 : Int32)) (.int (0 : Int32))) ∧ OAr Z h ix k_ix .int (oV (.int (0 : Int32)) (.int (0 : Int32)) (.int (0 : Int32)) (.int (0 : Int32))) ∧ OAr Z h bn k_bn .int (oV (.int (0 : Int32)) (.int (0 : Int32)) (.int (0 : Int32)) (.int (0 : Int32))) ∧ OAr Z h ch k_ch .boolean (oV (.int (0 : Int32)) (.int (0 : Int32)) (.int (0 : Int32)) (.int (0 : Int32))) ∧ OAr Z h ky k_ky (.array .byte) (oV .null .null .null .null) ∧ OAr Z h mv k_mv (.object "com/example/flote/flote/search/Search$Moves") (oV .null .null .null .null) ∧ OAr Z h tr k_tr (.object "com/example/flote/flote/search/Search$Branches") (oV .null .null .null .null) ∧ OAr Z h fr k_fr .long (oV (.long (0 : Int64)) (.long (0 : Int64)) (.long (0 : Int64)) (.long (0 : Int64))) ∧ OAr Z h tg k_tg .int (oV (.int (0 : Int32)) (.int (0 : Int32)) (.int (0 : Int32)) (.int (0 : Int32))) ∧ OAr Z h sd k_sd .boolean (oV (.int (0 : Int32)) (.int (0 : Int32)) (.int (0 : Int32)) (.int (0 : Int32)))
set_option maxRecDepth 65536 in
set_option maxHeartbeats 40000000 in
theorem rm_init (l : Launch) (Z : State) (a0 : Array Value) (hw : ∀ d ∈ tables_1, d.before a0 Z = true) (ws : List Jvm.Cond) (a1 : Addr) (h0 : Heap) (n0 : Nat) (Z0 : n0 ≤ h0.size) (E_a1 : Exa Z h0 a1 cN0) (F_actors_a1 : Fld Z h0 a1 cN0 "actors" "[I" .null) (F_indices_a1 : Fld Z h0 a1 cN0 "indices" "[I" .null) (F_branchNumbers_a1 : Fld Z h0 a1 cN0 "branchNumbers" "[I" .null) (F_chose_a1 : Fld Z h0 a1 cN0 "chose" "[Z" .null) (F_keys_a1 : Fld Z h0 a1 cN0 "keys" "[[B" .null) (F_moves_a1 : Fld Z h0 a1 cN0 "moves" cN1 .null) (F_transitions_a1 : Fld Z h0 a1 cN0 "transitions" cN2 .null) (F_frames_a1 : Fld Z h0 a1 cN0 "frames" "[J" .null) (F_targets_a1 : Fld Z h0 a1 cN0 "targets" "[I" .null) (F_stored_a1 : Fld Z h0 a1 cN0 "stored" "[Z" .null) (F_count_a1 : Fld Z h0 a1 cN0 "count" "I" (.int (0 : Int32))) (F_admitted_a1 : Fld Z h0 a1 cN0 "admitted" "I" (.int (0 : Int32))) (F_waitingBytes_a1 : Fld Z h0 a1 cN0 "waitingBytes" "J" (.long (0 : Int64))) (g_a1 : n0 ≤ a1) :
    MetFree l mN0 (head1 (Jvm.Cond.code mN0 prog_108_method_1_code 1 none :: ws) ({ frames := 1, cells := 10, slots := 160, locals := 12 } : Room)) (fun a U => a = #[(.ref a1)] ∧ Z.Warmed39 U.vm ∧ U.heap = h0) (fun _ _ _ _ _ => True) (fun _ U o U' => ∃ v L, o = .returned v ∧ Q_init Z a1 h0 n0 v U'.heap L ∧ FrameEnd U o U' L ({ frames := 1, cells := 10, slots := 160, locals := 12 } : Room).cells ({ frames := 1, cells := 10, slots := 160, locals := 12 } : Room).slots) := by
  refine MetFree.of_bodySF (plainFor_of_name pn_com_example_flote_flote_search_Reached) hisR ?_
  intro p e s m args below meth c s₁ Bd hml0 hP hK
  obtain ⟨rfl, hZ, hh⟩ := hP
  have hx := Bd.exec
  have hby := Bd.bytes
  have hml : c.maxLocals = 1 := hml0
  have hown : s.vm.findClass "com/example/flote/flote/search/Reached" = some m.cls := findClass_of_methodNamed Bd.named
  have hnm := (name_of_methodNamed Bd.named Bd.method).1
  have X0 : Stand p l e ({ frames := 1, cells := 10, slots := 160, locals := 12 } : Room) s m #[(.ref a1)] below meth c s₁ [] 0 0 := Stand.of_body Bd
  have e0 : s₁.heap = h0 := by rw [← hh, Bd.state]; rfl
  have N0 := Fr.nil n0
  obtain ⟨A0, hA0⟩ : ∃ z, z = s₁.setTop (entryFrame m #[(.ref a1)] 1) := ⟨_, rfl⟩
  have K : OGo p e below A0 s₁ (mkF m 0 #[rv a1] []) := fun t k => hA0 ▸ castTop (ef_1 m a1) k
  replace K : OGo p e below A0 s₁ (mkF m 1 #[rv a1] [(.ref a1)]) := fun t k => K t (XS.aloadN X0.here hx rfl (hb hby d1_0) rfl rfl k)
  obtain ⟨T1, X1, e1, st1⟩ := initO X0 hx hZ hown (ow hw 7 rfl) (ow hw 8 rfl) (ow hw 9 rfl) e0 (g := (mkF m 1 #[rv a1] [(.ref a1)])) rfl (by rw [hml]; rfl) rfl (hb hby d1_1) (by decide) (W := 0) (by show 2 * 0 + _ ≤ _; exact Nat.le_of_eq rfl) (by decide)
  replace K : OGo p e below A0 T1 (mkF m 4 #[rv a1] []) := fun t k => K t (st1 t k)
  replace K : OGo p e below A0 T1 (mkF m 5 #[rv a1] [(.ref a1)]) := fun t k => K t (XS.aloadN X1.here hx rfl (hb hby d1_4) rfl rfl k)
  replace K : OGo p e below A0 T1 (mkF m 7 #[rv a1] [(.int 16), (.ref a1)]) := fun t k => K t (XS.bipush X1.here hx rfl (hb hby d1_5) k)
  obtain ⟨T2, h2, k2, X2, e2, E2, A2, Q2, st2⟩ := newPE X1 hx hZ (ow hw 10 rfl) e1 (g := (mkF m 7 #[rv a1] [(.int 16), (.ref a1)])) rfl (hb hby d1_7) rfl (by decide) (cap := 16) (by decide) (by decide) (by decide) (by decide) (ad := "[I") (by decide)
  obtain ⟨b2, gz2⟩ : ∃ z, z = h0.size := ⟨_, rfl⟩
  rw [← gz2] at A2 Q2 st2
  have ne_a1_b2 : a1 ≠ b2 := Nat.ne_of_lt (Nat.lt_of_lt_of_le E_a1.lt (Nat.le_of_eq gz2.symm))
  have g_b2 : n0 ≤ b2 := Nat.le_trans Z0 (Nat.le_of_eq gz2.symm)
  have sz_b2 : h0.size ≤ b2 := Nat.le_trans (Keep.refl h0 [a1]).1 (Nat.le_of_eq gz2.symm)
  have Z2 : n0 ≤ h2.size := Nat.le_trans Z0 E2.1
  have Kp2 : Keep h0 h2 [a1] := (Keep.refl h0 [a1]).ext E2
  have V_b2 : OAr Z h2 b2 k2 .int (oV (.int (0 : Int32)) (.int (0 : Int32)) (.int (0 : Int32)) (.int (0 : Int32))) := OAr.new A2
  replace K : OGo p e below A0 T2 (mkF m 9 #[rv a1] [(.ref b2), (.ref a1)]) := fun t k => K t (st2 t k)
  have F_actors_a1_3 := (F_actors_a1.ext E2)
  have E_a1_4 := (E_a1.ext E2)
  obtain ⟨T5, h5, X5, e5, W5, st5⟩ := putF X2 hx hZ hown (host := "") (Or.inl (ow hw 11 rfl)) Via.refl e2 F_actors_a1_3 E_a1_4 (Or.inl (ow hw 12 rfl)) (ow hw 2 rfl) (ty := (.array .int)) (by decide) rfl rfl (g := (mkF m 9 #[rv a1] [(.ref b2), (.ref a1)])) rfl rfl (hb hby d1_9)
  have Z5 : n0 ≤ h5.size := Nat.le_trans Z2 (Keep.of_wr W5).1
  have Kp5 : Keep h0 h5 [a1] := Kp2.wr W5 (Or.inl (List.mem_of_getElem? (i := 0) rfl))
  have F_actors_a1_5 := F_actors_a1_3.same W5
  have N5 := Fr.snoc X5 N0 g_a1
  replace K : OGo p e below A0 T5 (mkF m 12 #[rv a1] []) := fun t k => K t (st5 t k)
  replace K : OGo p e below A0 T5 (mkF m 13 #[rv a1] [(.ref a1)]) := fun t k => K t (XS.aloadN X5.here hx rfl (hb hby d1_12) rfl rfl k)
  replace K : OGo p e below A0 T5 (mkF m 15 #[rv a1] [(.int 16), (.ref a1)]) := fun t k => K t (XS.bipush X5.here hx rfl (hb hby d1_13) k)
  obtain ⟨T6, h6, k6, X6, e6, E6, A6, Q6, st6⟩ := newPE X5 hx hZ (ow hw 10 rfl) e5 (g := (mkF m 15 #[rv a1] [(.int 16), (.ref a1)])) rfl (hb hby d1_15) rfl (by decide) (cap := 16) (by decide) (by decide) (by decide) (by decide) (ad := "[I") (by decide)
  obtain ⟨b6, gz6⟩ : ∃ z, z = h5.size := ⟨_, rfl⟩
  rw [← gz6] at A6 Q6 st6
  have E_a1_7 := (E_a1_4.wr W5)
  have ne_a1_b6 : a1 ≠ b6 := Nat.ne_of_lt (Nat.lt_of_lt_of_le E_a1_7.lt (Nat.le_of_eq gz6.symm))
  have Q2_8 := (Q2.wr W5)
  have ne_b2_b6 : b2 ≠ b6 := Nat.ne_of_lt (Nat.lt_of_lt_of_le Q2_8.lt (Nat.le_of_eq gz6.symm))
  have g_b6 : n0 ≤ b6 := Nat.le_trans Z5 (Nat.le_of_eq gz6.symm)
  have sz_b6 : h0.size ≤ b6 := Nat.le_trans Kp5.1 (Nat.le_of_eq gz6.symm)
  have Z6 : n0 ≤ h6.size := Nat.le_trans Z5 E6.1
  have Kp6 : Keep h0 h6 [a1] := Kp5.ext E6
  have V_b6 : OAr Z h6 b6 k6 .int (oV (.int (0 : Int32)) (.int (0 : Int32)) (.int (0 : Int32)) (.int (0 : Int32))) := OAr.new A6
  replace K : OGo p e below A0 T6 (mkF m 17 #[rv a1] [(.ref b6), (.ref a1)]) := fun t k => K t (st6 t k)
  have F_indices_a1_9 := (((F_indices_a1.ext E2).other W5 (Or.inr (sn_cN0_indices_actors hw))).ext E6)
  have E_a1_10 := (E_a1_7.ext E6)
  obtain ⟨T11, h11, X11, e11, W11, st11⟩ := putF X6 hx hZ hown (host := "") (Or.inl (ow hw 13 rfl)) Via.refl e6 F_indices_a1_9 E_a1_10 (Or.inl (ow hw 14 rfl)) (ow hw 2 rfl) (ty := (.array .int)) (by decide) rfl rfl (g := (mkF m 17 #[rv a1] [(.ref b6), (.ref a1)])) rfl rfl (hb hby d1_17)
  have Z11 : n0 ≤ h11.size := Nat.le_trans Z6 (Keep.of_wr W11).1
  have Kp11 : Keep h0 h11 [a1] := Kp6.wr W11 (Or.inl (List.mem_of_getElem? (i := 0) rfl))
  have F_indices_a1_11 := F_indices_a1_9.same W11
  have N11 := Fr.snoc X11 N5 g_a1
  replace K : OGo p e below A0 T11 (mkF m 20 #[rv a1] []) := fun t k => K t (st11 t k)
  replace K : OGo p e below A0 T11 (mkF m 21 #[rv a1] [(.ref a1)]) := fun t k => K t (XS.aloadN X11.here hx rfl (hb hby d1_20) rfl rfl k)
  replace K : OGo p e below A0 T11 (mkF m 23 #[rv a1] [(.int 16), (.ref a1)]) := fun t k => K t (XS.bipush X11.here hx rfl (hb hby d1_21) k)
  obtain ⟨T12, h12, k12, X12, e12, E12, A12, Q12, st12⟩ := newPE X11 hx hZ (ow hw 10 rfl) e11 (g := (mkF m 23 #[rv a1] [(.int 16), (.ref a1)])) rfl (hb hby d1_23) rfl (by decide) (cap := 16) (by decide) (by decide) (by decide) (by decide) (ad := "[I") (by decide)
  obtain ⟨b12, gz12⟩ : ∃ z, z = h11.size := ⟨_, rfl⟩
  rw [← gz12] at A12 Q12 st12
  have E_a1_13 := (E_a1_10.wr W11)
  have ne_a1_b12 : a1 ≠ b12 := Nat.ne_of_lt (Nat.lt_of_lt_of_le E_a1_13.lt (Nat.le_of_eq gz12.symm))
  have Q2_14 := ((Q2_8.ext E6).wr W11)
  have ne_b2_b12 : b2 ≠ b12 := Nat.ne_of_lt (Nat.lt_of_lt_of_le Q2_14.lt (Nat.le_of_eq gz12.symm))
  have Q6_15 := (Q6.wr W11)
  have ne_b6_b12 : b6 ≠ b12 := Nat.ne_of_lt (Nat.lt_of_lt_of_le Q6_15.lt (Nat.le_of_eq gz12.symm))
  have g_b12 : n0 ≤ b12 := Nat.le_trans Z11 (Nat.le_of_eq gz12.symm)
  have sz_b12 : h0.size ≤ b12 := Nat.le_trans Kp11.1 (Nat.le_of_eq gz12.symm)
  have Z12 : n0 ≤ h12.size := Nat.le_trans Z11 E12.1
  have Kp12 : Keep h0 h12 [a1] := Kp11.ext E12
  have V_b12 : OAr Z h12 b12 k12 .int (oV (.int (0 : Int32)) (.int (0 : Int32)) (.int (0 : Int32)) (.int (0 : Int32))) := OAr.new A12
  replace K : OGo p e below A0 T12 (mkF m 25 #[rv a1] [(.ref b12), (.ref a1)]) := fun t k => K t (st12 t k)
  have F_branchNumbers_a1_16 := (((((F_branchNumbers_a1.ext E2).other W5 (Or.inr (sn_cN0_branchNumbers_actors hw))).ext E6).other W11 (Or.inr (sn_cN0_branchNumbers_indices hw))).ext E12)
  have E_a1_17 := (E_a1_13.ext E12)
  obtain ⟨T18, h18, X18, e18, W18, st18⟩ := putF X12 hx hZ hown (host := "") (Or.inl (ow hw 15 rfl)) Via.refl e12 F_branchNumbers_a1_16 E_a1_17 (Or.inl (ow hw 16 rfl)) (ow hw 2 rfl) (ty := (.array .int)) (by decide) rfl rfl (g := (mkF m 25 #[rv a1] [(.ref b12), (.ref a1)])) rfl rfl (hb hby d1_25)
  have Z18 : n0 ≤ h18.size := Nat.le_trans Z12 (Keep.of_wr W18).1
  have Kp18 : Keep h0 h18 [a1] := Kp12.wr W18 (Or.inl (List.mem_of_getElem? (i := 0) rfl))
  have F_branchNumbers_a1_18 := F_branchNumbers_a1_16.same W18
  have N18 := Fr.snoc X18 N11 g_a1
  replace K : OGo p e below A0 T18 (mkF m 28 #[rv a1] []) := fun t k => K t (st18 t k)
  replace K : OGo p e below A0 T18 (mkF m 29 #[rv a1] [(.ref a1)]) := fun t k => K t (XS.aloadN X18.here hx rfl (hb hby d1_28) rfl rfl k)
  replace K : OGo p e below A0 T18 (mkF m 31 #[rv a1] [(.int 16), (.ref a1)]) := fun t k => K t (XS.bipush X18.here hx rfl (hb hby d1_29) k)
  obtain ⟨T19, h19, k19, X19, e19, E19, A19, Q19, st19⟩ := newPE X18 hx hZ (ow hw 17 rfl) e18 (g := (mkF m 31 #[rv a1] [(.int 16), (.ref a1)])) rfl (hb hby d1_31) rfl (by decide) (cap := 16) (by decide) (by decide) (by decide) (by decide) (ad := "[Z") (by decide)
  obtain ⟨b19, gz19⟩ : ∃ z, z = h18.size := ⟨_, rfl⟩
  rw [← gz19] at A19 Q19 st19
  have E_a1_20 := (E_a1_17.wr W18)
  have ne_a1_b19 : a1 ≠ b19 := Nat.ne_of_lt (Nat.lt_of_lt_of_le E_a1_20.lt (Nat.le_of_eq gz19.symm))
  have Q2_21 := ((Q2_14.ext E12).wr W18)
  have ne_b2_b19 : b2 ≠ b19 := Nat.ne_of_lt (Nat.lt_of_lt_of_le Q2_21.lt (Nat.le_of_eq gz19.symm))
  have Q6_22 := ((Q6_15.ext E12).wr W18)
  have ne_b6_b19 : b6 ≠ b19 := Nat.ne_of_lt (Nat.lt_of_lt_of_le Q6_22.lt (Nat.le_of_eq gz19.symm))
  have Q12_23 := (Q12.wr W18)
  have ne_b12_b19 : b12 ≠ b19 := Nat.ne_of_lt (Nat.lt_of_lt_of_le Q12_23.lt (Nat.le_of_eq gz19.symm))
  have g_b19 : n0 ≤ b19 := Nat.le_trans Z18 (Nat.le_of_eq gz19.symm)
  have sz_b19 : h0.size ≤ b19 := Nat.le_trans Kp18.1 (Nat.le_of_eq gz19.symm)
  have Z19 : n0 ≤ h19.size := Nat.le_trans Z18 E19.1
  have Kp19 : Keep h0 h19 [a1] := Kp18.ext E19
  have V_b19 : OAr Z h19 b19 k19 .boolean (oV (.int (0 : Int32)) (.int (0 : Int32)) (.int (0 : Int32)) (.int (0 : Int32))) := OAr.new A19
  replace K : OGo p e below A0 T19 (mkF m 33 #[rv a1] [(.ref b19), (.ref a1)]) := fun t k => K t (st19 t k)
  have F_chose_a1_24 := (((((((F_chose_a1.ext E2).other W5 (Or.inr (sn_cN0_chose_actors hw))).ext E6).other W11 (Or.inr (sn_cN0_chose_indices hw))).ext E12).other W18 (Or.inr (sn_cN0_chose_branchNumbers hw))).ext E19)
  have E_a1_25 := (E_a1_20.ext E19)
  obtain ⟨T26, h26, X26, e26, W26, st26⟩ := putF X19 hx hZ hown (host := "") (Or.inl (ow hw 18 rfl)) Via.refl e19 F_chose_a1_24 E_a1_25 (Or.inl (ow hw 19 rfl)) (ow hw 2 rfl) (ty := (.array .boolean)) (by decide) rfl rfl (g := (mkF m 33 #[rv a1] [(.ref b19), (.ref a1)])) rfl rfl (hb hby d1_33)
  have Z26 : n0 ≤ h26.size := Nat.le_trans Z19 (Keep.of_wr W26).1
  have Kp26 : Keep h0 h26 [a1] := Kp19.wr W26 (Or.inl (List.mem_of_getElem? (i := 0) rfl))
  have F_chose_a1_26 := F_chose_a1_24.same W26
  have N26 := Fr.snoc X26 N18 g_a1
  replace K : OGo p e below A0 T26 (mkF m 36 #[rv a1] []) := fun t k => K t (st26 t k)
  replace K : OGo p e below A0 T26 (mkF m 37 #[rv a1] [(.ref a1)]) := fun t k => K t (XS.aloadN X26.here hx rfl (hb hby d1_36) rfl rfl k)
  replace K : OGo p e below A0 T26 (mkF m 39 #[rv a1] [(.int 16), (.ref a1)]) := fun t k => K t (XS.bipush X26.here hx rfl (hb hby d1_37) k)
  obtain ⟨T27, h27, k27, X27, e27, E27, A27, Q27, O27, st27⟩ := newRA X26 hx hZ (ty := .byte) hown (by decide) (ow hw 20 rfl) (ow hw 21 rfl) e26 (g := (mkF m 39 #[rv a1] [(.int 16), (.ref a1)])) rfl (hb hby d1_39) rfl (by decide) (cap := 16) (by decide) (by decide) (by decide) (by decide) (ad := "[[B") (by decide)
  obtain ⟨b27, gz27⟩ : ∃ z, z = h26.size := ⟨_, rfl⟩
  rw [← gz27] at A27 Q27 st27
  have E_a1_28 := (E_a1_25.wr W26)
  have ne_a1_b27 : a1 ≠ b27 := Nat.ne_of_lt (Nat.lt_of_lt_of_le E_a1_28.lt (Nat.le_of_eq gz27.symm))
  have Q2_29 := ((Q2_21.ext E19).wr W26)
  have ne_b2_b27 : b2 ≠ b27 := Nat.ne_of_lt (Nat.lt_of_lt_of_le Q2_29.lt (Nat.le_of_eq gz27.symm))
  have Q6_30 := ((Q6_22.ext E19).wr W26)
  have ne_b6_b27 : b6 ≠ b27 := Nat.ne_of_lt (Nat.lt_of_lt_of_le Q6_30.lt (Nat.le_of_eq gz27.symm))
  have Q12_31 := ((Q12_23.ext E19).wr W26)
  have ne_b12_b27 : b12 ≠ b27 := Nat.ne_of_lt (Nat.lt_of_lt_of_le Q12_31.lt (Nat.le_of_eq gz27.symm))
  have Q19_32 := (Q19.wr W26)
  have ne_b19_b27 : b19 ≠ b27 := Nat.ne_of_lt (Nat.lt_of_lt_of_le Q19_32.lt (Nat.le_of_eq gz27.symm))
  have g_b27 : n0 ≤ b27 := Nat.le_trans Z26 (Nat.le_of_eq gz27.symm)
  have sz_b27 : h0.size ≤ b27 := Nat.le_trans Kp26.1 (Nat.le_of_eq gz27.symm)
  have Z27 : n0 ≤ h27.size := Nat.le_trans Z26 E27.1
  have Kp27 : Keep h0 h27 [a1] := Kp26.ext E27
  have V_b27 : OAr Z h27 b27 k27 (.array .byte) (oV .null .null .null .null) := OAr.new A27
  replace K : OGo p e below A0 T27 (mkF m 42 #[rv a1] [(.ref b27), (.ref a1)]) := fun t k => K t (st27 t k)
  have F_keys_a1_33 := (((((((((F_keys_a1.ext E2).other W5 (Or.inr (sn_cN0_keys_actors hw))).ext E6).other W11 (Or.inr (sn_cN0_keys_indices hw))).ext E12).other W18 (Or.inr (sn_cN0_keys_branchNumbers hw))).ext E19).other W26 (Or.inr (sn_cN0_keys_chose hw))).ext E27)
  have E_a1_34 := (E_a1_28.ext E27)
  obtain ⟨T35, h35, X35, e35, W35, st35⟩ := putF X27 hx hZ hown (host := "") (Or.inl (ow hw 22 rfl)) Via.refl e27 F_keys_a1_33 E_a1_34 (Or.inl (ow hw 23 rfl)) (ow hw 2 rfl) (ty := (.array (.array .byte))) (by decide) rfl rfl (g := (mkF m 42 #[rv a1] [(.ref b27), (.ref a1)])) rfl rfl (hb hby d1_42)
  have Z35 : n0 ≤ h35.size := Nat.le_trans Z27 (Keep.of_wr W35).1
  have Kp35 : Keep h0 h35 [a1] := Kp27.wr W35 (Or.inl (List.mem_of_getElem? (i := 0) rfl))
  have F_keys_a1_35 := F_keys_a1_33.same W35
  have N35 := Fr.snoc X35 N26 g_a1
  replace K : OGo p e below A0 T35 (mkF m 45 #[rv a1] []) := fun t k => K t (st35 t k)
  replace K : OGo p e below A0 T35 (mkF m 46 #[rv a1] [(.ref a1)]) := fun t k => K t (XS.aloadN X35.here hx rfl (hb hby d1_45) rfl rfl k)
  replace K : OGo p e below A0 T35 (mkF m 48 #[rv a1] [(.int 16), (.ref a1)]) := fun t k => K t (XS.bipush X35.here hx rfl (hb hby d1_46) k)
  obtain ⟨T36, h36, k36, X36, e36, E36, A36, O36, st36⟩ := newR X35 hx hZ hown (ow hw 24 rfl) (ow hw 25 rfl) e35 (g := (mkF m 48 #[rv a1] [(.int 16), (.ref a1)])) rfl (hb hby d1_48) rfl (by decide) (cap := 16) (by decide) (by decide) (by decide) (by decide)
  obtain ⟨b36, gz36⟩ : ∃ z, z = h35.size := ⟨_, rfl⟩
  rw [← gz36] at A36 st36
  have E_a1_37 := (E_a1_34.wr W35)
  have ne_a1_b36 : a1 ≠ b36 := Nat.ne_of_lt (Nat.lt_of_lt_of_le E_a1_37.lt (Nat.le_of_eq gz36.symm))
  have Q2_38 := ((Q2_29.ext E27).wr W35)
  have ne_b2_b36 : b2 ≠ b36 := Nat.ne_of_lt (Nat.lt_of_lt_of_le Q2_38.lt (Nat.le_of_eq gz36.symm))
  have Q6_39 := ((Q6_30.ext E27).wr W35)
  have ne_b6_b36 : b6 ≠ b36 := Nat.ne_of_lt (Nat.lt_of_lt_of_le Q6_39.lt (Nat.le_of_eq gz36.symm))
  have Q12_40 := ((Q12_31.ext E27).wr W35)
  have ne_b12_b36 : b12 ≠ b36 := Nat.ne_of_lt (Nat.lt_of_lt_of_le Q12_40.lt (Nat.le_of_eq gz36.symm))
  have Q19_41 := ((Q19_32.ext E27).wr W35)
  have ne_b19_b36 : b19 ≠ b36 := Nat.ne_of_lt (Nat.lt_of_lt_of_le Q19_41.lt (Nat.le_of_eq gz36.symm))
  have Q27_42 := (Q27.wr W35)
  have ne_b27_b36 : b27 ≠ b36 := Nat.ne_of_lt (Nat.lt_of_lt_of_le Q27_42.lt (Nat.le_of_eq gz36.symm))
  have g_b36 : n0 ≤ b36 := Nat.le_trans Z35 (Nat.le_of_eq gz36.symm)
  have sz_b36 : h0.size ≤ b36 := Nat.le_trans Kp35.1 (Nat.le_of_eq gz36.symm)
  have Z36 : n0 ≤ h36.size := Nat.le_trans Z35 E36.1
  have Kp36 : Keep h0 h36 [a1] := Kp35.ext E36
  have V_b36 : OAr Z h36 b36 k36 (.object "com/example/flote/flote/search/Search$Moves") (oV .null .null .null .null) := OAr.new A36
  replace K : OGo p e below A0 T36 (mkF m 51 #[rv a1] [(.ref b36), (.ref a1)]) := fun t k => K t (st36 t k)
  have F_moves_a1_43 := (((((((((((F_moves_a1.ext E2).other W5 (Or.inr (sn_cN0_moves_actors hw))).ext E6).other W11 (Or.inr (sn_cN0_moves_indices hw))).ext E12).other W18 (Or.inr (sn_cN0_moves_branchNumbers hw))).ext E19).other W26 (Or.inr (sn_cN0_moves_chose hw))).ext E27).other W35 (Or.inr (sn_cN0_moves_keys hw))).ext E36)
  have E_a1_44 := (E_a1_37.ext E36)
  obtain ⟨T45, h45, X45, e45, W45, st45⟩ := putF X36 hx hZ hown (host := "") (Or.inl (ow hw 26 rfl)) Via.refl e36 F_moves_a1_43 E_a1_44 (Or.inl (ow hw 27 rfl)) (ow hw 2 rfl) (ty := (.array (.object "com/example/flote/flote/search/Search$Moves"))) (by decide) rfl rfl (g := (mkF m 51 #[rv a1] [(.ref b36), (.ref a1)])) rfl rfl (hb hby d1_51)
  have Z45 : n0 ≤ h45.size := Nat.le_trans Z36 (Keep.of_wr W45).1
  have Kp45 : Keep h0 h45 [a1] := Kp36.wr W45 (Or.inl (List.mem_of_getElem? (i := 0) rfl))
  have F_moves_a1_45 := F_moves_a1_43.same W45
  have N45 := Fr.snoc X45 N35 g_a1
  replace K : OGo p e below A0 T45 (mkF m 54 #[rv a1] []) := fun t k => K t (st45 t k)
  replace K : OGo p e below A0 T45 (mkF m 55 #[rv a1] [(.ref a1)]) := fun t k => K t (XS.aloadN X45.here hx rfl (hb hby d1_54) rfl rfl k)
  replace K : OGo p e below A0 T45 (mkF m 57 #[rv a1] [(.int 16), (.ref a1)]) := fun t k => K t (XS.bipush X45.here hx rfl (hb hby d1_55) k)
  obtain ⟨T46, h46, k46, X46, e46, E46, A46, O46, st46⟩ := newR X45 hx hZ hown (ow hw 28 rfl) (ow hw 29 rfl) e45 (g := (mkF m 57 #[rv a1] [(.int 16), (.ref a1)])) rfl (hb hby d1_57) rfl (by decide) (cap := 16) (by decide) (by decide) (by decide) (by decide)
  obtain ⟨b46, gz46⟩ : ∃ z, z = h45.size := ⟨_, rfl⟩
  rw [← gz46] at A46 st46
  have E_a1_47 := (E_a1_44.wr W45)
  have ne_a1_b46 : a1 ≠ b46 := Nat.ne_of_lt (Nat.lt_of_lt_of_le E_a1_47.lt (Nat.le_of_eq gz46.symm))
  have Q2_48 := ((Q2_38.ext E36).wr W45)
  have ne_b2_b46 : b2 ≠ b46 := Nat.ne_of_lt (Nat.lt_of_lt_of_le Q2_48.lt (Nat.le_of_eq gz46.symm))
  have Q6_49 := ((Q6_39.ext E36).wr W45)
  have ne_b6_b46 : b6 ≠ b46 := Nat.ne_of_lt (Nat.lt_of_lt_of_le Q6_49.lt (Nat.le_of_eq gz46.symm))
  have Q12_50 := ((Q12_40.ext E36).wr W45)
  have ne_b12_b46 : b12 ≠ b46 := Nat.ne_of_lt (Nat.lt_of_lt_of_le Q12_50.lt (Nat.le_of_eq gz46.symm))
  have Q19_51 := ((Q19_41.ext E36).wr W45)
  have ne_b19_b46 : b19 ≠ b46 := Nat.ne_of_lt (Nat.lt_of_lt_of_le Q19_51.lt (Nat.le_of_eq gz46.symm))
  have Q27_52 := ((Q27_42.ext E36).wr W45)
  have ne_b27_b46 : b27 ≠ b46 := Nat.ne_of_lt (Nat.lt_of_lt_of_le Q27_52.lt (Nat.le_of_eq gz46.symm))
  have V_b36_53 := (V_b36.other W45 (Ne.symm ne_a1_b36))
  have ne_b36_b46 : b36 ≠ b46 := Nat.ne_of_lt (Nat.lt_of_lt_of_le V_b36_53.lt (Nat.le_of_eq gz46.symm))
  have g_b46 : n0 ≤ b46 := Nat.le_trans Z45 (Nat.le_of_eq gz46.symm)
  have sz_b46 : h0.size ≤ b46 := Nat.le_trans Kp45.1 (Nat.le_of_eq gz46.symm)
  have Z46 : n0 ≤ h46.size := Nat.le_trans Z45 E46.1
  have Kp46 : Keep h0 h46 [a1] := Kp45.ext E46
  have V_b46 : OAr Z h46 b46 k46 (.object "com/example/flote/flote/search/Search$Branches") (oV .null .null .null .null) := OAr.new A46
  replace K : OGo p e below A0 T46 (mkF m 60 #[rv a1] [(.ref b46), (.ref a1)]) := fun t k => K t (st46 t k)
  have F_transitions_a1_54 := (((((((((((((F_transitions_a1.ext E2).other W5 (Or.inr (sn_cN0_transitions_actors hw))).ext E6).other W11 (Or.inr (sn_cN0_transitions_indices hw))).ext E12).other W18 (Or.inr (sn_cN0_transitions_branchNumbers hw))).ext E19).other W26 (Or.inr (sn_cN0_transitions_chose hw))).ext E27).other W35 (Or.inr (sn_cN0_transitions_keys hw))).ext E36).other W45 (Or.inr (sn_cN0_transitions_moves hw))).ext E46)
  have E_a1_55 := (E_a1_47.ext E46)
  obtain ⟨T56, h56, X56, e56, W56, st56⟩ := putF X46 hx hZ hown (host := "") (Or.inl (ow hw 30 rfl)) Via.refl e46 F_transitions_a1_54 E_a1_55 (Or.inl (ow hw 31 rfl)) (ow hw 2 rfl) (ty := (.array (.object "com/example/flote/flote/search/Search$Branches"))) (by decide) rfl rfl (g := (mkF m 60 #[rv a1] [(.ref b46), (.ref a1)])) rfl rfl (hb hby d1_60)
  have Z56 : n0 ≤ h56.size := Nat.le_trans Z46 (Keep.of_wr W56).1
  have Kp56 : Keep h0 h56 [a1] := Kp46.wr W56 (Or.inl (List.mem_of_getElem? (i := 0) rfl))
  have F_transitions_a1_56 := F_transitions_a1_54.same W56
  have N56 := Fr.snoc X56 N45 g_a1
  replace K : OGo p e below A0 T56 (mkF m 63 #[rv a1] []) := fun t k => K t (st56 t k)
  replace K : OGo p e below A0 T56 (mkF m 64 #[rv a1] [(.ref a1)]) := fun t k => K t (XS.aloadN X56.here hx rfl (hb hby d1_63) rfl rfl k)
  replace K : OGo p e below A0 T56 (mkF m 66 #[rv a1] [(.int 16), (.ref a1)]) := fun t k => K t (XS.bipush X56.here hx rfl (hb hby d1_64) k)
  obtain ⟨T57, h57, k57, X57, e57, E57, A57, Q57, st57⟩ := newPE X56 hx hZ (ow hw 32 rfl) e56 (g := (mkF m 66 #[rv a1] [(.int 16), (.ref a1)])) rfl (hb hby d1_66) rfl (by decide) (cap := 16) (by decide) (by decide) (by decide) (by decide) (ad := "[J") (by decide)
  obtain ⟨b57, gz57⟩ : ∃ z, z = h56.size := ⟨_, rfl⟩
  rw [← gz57] at A57 Q57 st57
  have E_a1_58 := (E_a1_55.wr W56)
  have ne_a1_b57 : a1 ≠ b57 := Nat.ne_of_lt (Nat.lt_of_lt_of_le E_a1_58.lt (Nat.le_of_eq gz57.symm))
  have Q2_59 := ((Q2_48.ext E46).wr W56)
  have ne_b2_b57 : b2 ≠ b57 := Nat.ne_of_lt (Nat.lt_of_lt_of_le Q2_59.lt (Nat.le_of_eq gz57.symm))
  have Q6_60 := ((Q6_49.ext E46).wr W56)
  have ne_b6_b57 : b6 ≠ b57 := Nat.ne_of_lt (Nat.lt_of_lt_of_le Q6_60.lt (Nat.le_of_eq gz57.symm))
  have Q12_61 := ((Q12_50.ext E46).wr W56)
  have ne_b12_b57 : b12 ≠ b57 := Nat.ne_of_lt (Nat.lt_of_lt_of_le Q12_61.lt (Nat.le_of_eq gz57.symm))
  have Q19_62 := ((Q19_51.ext E46).wr W56)
  have ne_b19_b57 : b19 ≠ b57 := Nat.ne_of_lt (Nat.lt_of_lt_of_le Q19_62.lt (Nat.le_of_eq gz57.symm))
  have Q27_63 := ((Q27_52.ext E46).wr W56)
  have ne_b27_b57 : b27 ≠ b57 := Nat.ne_of_lt (Nat.lt_of_lt_of_le Q27_63.lt (Nat.le_of_eq gz57.symm))
  have V_b36_64 := ((V_b36_53.ext E46).other W56 (Ne.symm ne_a1_b36))
  have ne_b36_b57 : b36 ≠ b57 := Nat.ne_of_lt (Nat.lt_of_lt_of_le V_b36_64.lt (Nat.le_of_eq gz57.symm))
  have V_b46_65 := (V_b46.other W56 (Ne.symm ne_a1_b46))
  have ne_b46_b57 : b46 ≠ b57 := Nat.ne_of_lt (Nat.lt_of_lt_of_le V_b46_65.lt (Nat.le_of_eq gz57.symm))
  have g_b57 : n0 ≤ b57 := Nat.le_trans Z56 (Nat.le_of_eq gz57.symm)
  have sz_b57 : h0.size ≤ b57 := Nat.le_trans Kp56.1 (Nat.le_of_eq gz57.symm)
  have Z57 : n0 ≤ h57.size := Nat.le_trans Z56 E57.1
  have Kp57 : Keep h0 h57 [a1] := Kp56.ext E57
  have V_b57 : OAr Z h57 b57 k57 .long (oV (.long (0 : Int64)) (.long (0 : Int64)) (.long (0 : Int64)) (.long (0 : Int64))) := OAr.new A57
  replace K : OGo p e below A0 T57 (mkF m 68 #[rv a1] [(.ref b57), (.ref a1)]) := fun t k => K t (st57 t k)
  have F_frames_a1_66 := (((((((((((((((F_frames_a1.ext E2).other W5 (Or.inr (sn_cN0_frames_actors hw))).ext E6).other W11 (Or.inr (sn_cN0_frames_indices hw))).ext E12).other W18 (Or.inr (sn_cN0_frames_branchNumbers hw))).ext E19).other W26 (Or.inr (sn_cN0_frames_chose hw))).ext E27).other W35 (Or.inr (sn_cN0_frames_keys hw))).ext E36).other W45 (Or.inr (sn_cN0_frames_moves hw))).ext E46).other W56 (Or.inr (sn_cN0_frames_transitions hw))).ext E57)
  have E_a1_67 := (E_a1_58.ext E57)
  obtain ⟨T68, h68, X68, e68, W68, st68⟩ := putF X57 hx hZ hown (host := "") (Or.inl (ow hw 33 rfl)) Via.refl e57 F_frames_a1_66 E_a1_67 (Or.inl (ow hw 34 rfl)) (ow hw 2 rfl) (ty := (.array .long)) (by decide) rfl rfl (g := (mkF m 68 #[rv a1] [(.ref b57), (.ref a1)])) rfl rfl (hb hby d1_68)
  have Z68 : n0 ≤ h68.size := Nat.le_trans Z57 (Keep.of_wr W68).1
  have Kp68 : Keep h0 h68 [a1] := Kp57.wr W68 (Or.inl (List.mem_of_getElem? (i := 0) rfl))
  have F_frames_a1_68 := F_frames_a1_66.same W68
  have N68 := Fr.snoc X68 N56 g_a1
  replace K : OGo p e below A0 T68 (mkF m 71 #[rv a1] []) := fun t k => K t (st68 t k)
  replace K : OGo p e below A0 T68 (mkF m 72 #[rv a1] [(.ref a1)]) := fun t k => K t (XS.aloadN X68.here hx rfl (hb hby d1_71) rfl rfl k)
  replace K : OGo p e below A0 T68 (mkF m 74 #[rv a1] [(.int 16), (.ref a1)]) := fun t k => K t (XS.bipush X68.here hx rfl (hb hby d1_72) k)
  obtain ⟨T69, h69, k69, X69, e69, E69, A69, Q69, st69⟩ := newPE X68 hx hZ (ow hw 10 rfl) e68 (g := (mkF m 74 #[rv a1] [(.int 16), (.ref a1)])) rfl (hb hby d1_74) rfl (by decide) (cap := 16) (by decide) (by decide) (by decide) (by decide) (ad := "[I") (by decide)
  obtain ⟨b69, gz69⟩ : ∃ z, z = h68.size := ⟨_, rfl⟩
  rw [← gz69] at A69 Q69 st69
  have E_a1_70 := (E_a1_67.wr W68)
  have ne_a1_b69 : a1 ≠ b69 := Nat.ne_of_lt (Nat.lt_of_lt_of_le E_a1_70.lt (Nat.le_of_eq gz69.symm))
  have Q2_71 := ((Q2_59.ext E57).wr W68)
  have ne_b2_b69 : b2 ≠ b69 := Nat.ne_of_lt (Nat.lt_of_lt_of_le Q2_71.lt (Nat.le_of_eq gz69.symm))
  have Q6_72 := ((Q6_60.ext E57).wr W68)
  have ne_b6_b69 : b6 ≠ b69 := Nat.ne_of_lt (Nat.lt_of_lt_of_le Q6_72.lt (Nat.le_of_eq gz69.symm))
  have Q12_73 := ((Q12_61.ext E57).wr W68)
  have ne_b12_b69 : b12 ≠ b69 := Nat.ne_of_lt (Nat.lt_of_lt_of_le Q12_73.lt (Nat.le_of_eq gz69.symm))
  have Q19_74 := ((Q19_62.ext E57).wr W68)
  have ne_b19_b69 : b19 ≠ b69 := Nat.ne_of_lt (Nat.lt_of_lt_of_le Q19_74.lt (Nat.le_of_eq gz69.symm))
  have Q27_75 := ((Q27_63.ext E57).wr W68)
  have ne_b27_b69 : b27 ≠ b69 := Nat.ne_of_lt (Nat.lt_of_lt_of_le Q27_75.lt (Nat.le_of_eq gz69.symm))
  have V_b36_76 := ((V_b36_64.ext E57).other W68 (Ne.symm ne_a1_b36))
  have ne_b36_b69 : b36 ≠ b69 := Nat.ne_of_lt (Nat.lt_of_lt_of_le V_b36_76.lt (Nat.le_of_eq gz69.symm))
  have V_b46_77 := ((V_b46_65.ext E57).other W68 (Ne.symm ne_a1_b46))
  have ne_b46_b69 : b46 ≠ b69 := Nat.ne_of_lt (Nat.lt_of_lt_of_le V_b46_77.lt (Nat.le_of_eq gz69.symm))
  have Q57_78 := (Q57.wr W68)
  have ne_b57_b69 : b57 ≠ b69 := Nat.ne_of_lt (Nat.lt_of_lt_of_le Q57_78.lt (Nat.le_of_eq gz69.symm))
  have g_b69 : n0 ≤ b69 := Nat.le_trans Z68 (Nat.le_of_eq gz69.symm)
  have sz_b69 : h0.size ≤ b69 := Nat.le_trans Kp68.1 (Nat.le_of_eq gz69.symm)
  have Z69 : n0 ≤ h69.size := Nat.le_trans Z68 E69.1
  have Kp69 : Keep h0 h69 [a1] := Kp68.ext E69
  have V_b69 : OAr Z h69 b69 k69 .int (oV (.int (0 : Int32)) (.int (0 : Int32)) (.int (0 : Int32)) (.int (0 : Int32))) := OAr.new A69
  replace K : OGo p e below A0 T69 (mkF m 76 #[rv a1] [(.ref b69), (.ref a1)]) := fun t k => K t (st69 t k)
  have F_targets_a1_79 := (((((((((((((((((F_targets_a1.ext E2).other W5 (Or.inr (sn_cN0_targets_actors hw))).ext E6).other W11 (Or.inr (sn_cN0_targets_indices hw))).ext E12).other W18 (Or.inr (sn_cN0_targets_branchNumbers hw))).ext E19).other W26 (Or.inr (sn_cN0_targets_chose hw))).ext E27).other W35 (Or.inr (sn_cN0_targets_keys hw))).ext E36).other W45 (Or.inr (sn_cN0_targets_moves hw))).ext E46).other W56 (Or.inr (sn_cN0_targets_transitions hw))).ext E57).other W68 (Or.inr (sn_cN0_targets_frames hw))).ext E69)
  have E_a1_80 := (E_a1_70.ext E69)
  obtain ⟨T81, h81, X81, e81, W81, st81⟩ := putF X69 hx hZ hown (host := "") (Or.inl (ow hw 35 rfl)) Via.refl e69 F_targets_a1_79 E_a1_80 (Or.inl (ow hw 36 rfl)) (ow hw 2 rfl) (ty := (.array .int)) (by decide) rfl rfl (g := (mkF m 76 #[rv a1] [(.ref b69), (.ref a1)])) rfl rfl (hb hby d1_76)
  have Z81 : n0 ≤ h81.size := Nat.le_trans Z69 (Keep.of_wr W81).1
  have Kp81 : Keep h0 h81 [a1] := Kp69.wr W81 (Or.inl (List.mem_of_getElem? (i := 0) rfl))
  have F_targets_a1_81 := F_targets_a1_79.same W81
  have N81 := Fr.snoc X81 N68 g_a1
  replace K : OGo p e below A0 T81 (mkF m 79 #[rv a1] []) := fun t k => K t (st81 t k)
  replace K : OGo p e below A0 T81 (mkF m 80 #[rv a1] [(.ref a1)]) := fun t k => K t (XS.aloadN X81.here hx rfl (hb hby d1_79) rfl rfl k)
  replace K : OGo p e below A0 T81 (mkF m 82 #[rv a1] [(.int 16), (.ref a1)]) := fun t k => K t (XS.bipush X81.here hx rfl (hb hby d1_80) k)
  obtain ⟨T82, h82, k82, X82, e82, E82, A82, Q82, st82⟩ := newPE X81 hx hZ (ow hw 17 rfl) e81 (g := (mkF m 82 #[rv a1] [(.int 16), (.ref a1)])) rfl (hb hby d1_82) rfl (by decide) (cap := 16) (by decide) (by decide) (by decide) (by decide) (ad := "[Z") (by decide)
  obtain ⟨b82, gz82⟩ : ∃ z, z = h81.size := ⟨_, rfl⟩
  rw [← gz82] at A82 Q82 st82
  have E_a1_83 := (E_a1_80.wr W81)
  have ne_a1_b82 : a1 ≠ b82 := Nat.ne_of_lt (Nat.lt_of_lt_of_le E_a1_83.lt (Nat.le_of_eq gz82.symm))
  have Q2_84 := ((Q2_71.ext E69).wr W81)
  have ne_b2_b82 : b2 ≠ b82 := Nat.ne_of_lt (Nat.lt_of_lt_of_le Q2_84.lt (Nat.le_of_eq gz82.symm))
  have Q6_85 := ((Q6_72.ext E69).wr W81)
  have ne_b6_b82 : b6 ≠ b82 := Nat.ne_of_lt (Nat.lt_of_lt_of_le Q6_85.lt (Nat.le_of_eq gz82.symm))
  have Q12_86 := ((Q12_73.ext E69).wr W81)
  have ne_b12_b82 : b12 ≠ b82 := Nat.ne_of_lt (Nat.lt_of_lt_of_le Q12_86.lt (Nat.le_of_eq gz82.symm))
  have Q19_87 := ((Q19_74.ext E69).wr W81)
  have ne_b19_b82 : b19 ≠ b82 := Nat.ne_of_lt (Nat.lt_of_lt_of_le Q19_87.lt (Nat.le_of_eq gz82.symm))
  have Q27_88 := ((Q27_75.ext E69).wr W81)
  have ne_b27_b82 : b27 ≠ b82 := Nat.ne_of_lt (Nat.lt_of_lt_of_le Q27_88.lt (Nat.le_of_eq gz82.symm))
  have V_b36_89 := ((V_b36_76.ext E69).other W81 (Ne.symm ne_a1_b36))
  have ne_b36_b82 : b36 ≠ b82 := Nat.ne_of_lt (Nat.lt_of_lt_of_le V_b36_89.lt (Nat.le_of_eq gz82.symm))
  have V_b46_90 := ((V_b46_77.ext E69).other W81 (Ne.symm ne_a1_b46))
  have ne_b46_b82 : b46 ≠ b82 := Nat.ne_of_lt (Nat.lt_of_lt_of_le V_b46_90.lt (Nat.le_of_eq gz82.symm))
  have Q57_91 := ((Q57_78.ext E69).wr W81)
  have ne_b57_b82 : b57 ≠ b82 := Nat.ne_of_lt (Nat.lt_of_lt_of_le Q57_91.lt (Nat.le_of_eq gz82.symm))
  have Q69_92 := (Q69.wr W81)
  have ne_b69_b82 : b69 ≠ b82 := Nat.ne_of_lt (Nat.lt_of_lt_of_le Q69_92.lt (Nat.le_of_eq gz82.symm))
  have g_b82 : n0 ≤ b82 := Nat.le_trans Z81 (Nat.le_of_eq gz82.symm)
  have sz_b82 : h0.size ≤ b82 := Nat.le_trans Kp81.1 (Nat.le_of_eq gz82.symm)
  have Z82 : n0 ≤ h82.size := Nat.le_trans Z81 E82.1
  have Kp82 : Keep h0 h82 [a1] := Kp81.ext E82
  have V_b82 : OAr Z h82 b82 k82 .boolean (oV (.int (0 : Int32)) (.int (0 : Int32)) (.int (0 : Int32)) (.int (0 : Int32))) := OAr.new A82
  replace K : OGo p e below A0 T82 (mkF m 84 #[rv a1] [(.ref b82), (.ref a1)]) := fun t k => K t (st82 t k)
  have F_stored_a1_93 := (((((((((((((((((((F_stored_a1.ext E2).other W5 (Or.inr (sn_cN0_stored_actors hw))).ext E6).other W11 (Or.inr (sn_cN0_stored_indices hw))).ext E12).other W18 (Or.inr (sn_cN0_stored_branchNumbers hw))).ext E19).other W26 (Or.inr (sn_cN0_stored_chose hw))).ext E27).other W35 (Or.inr (sn_cN0_stored_keys hw))).ext E36).other W45 (Or.inr (sn_cN0_stored_moves hw))).ext E46).other W56 (Or.inr (sn_cN0_stored_transitions hw))).ext E57).other W68 (Or.inr (sn_cN0_stored_frames hw))).ext E69).other W81 (Or.inr (sn_cN0_stored_targets hw))).ext E82)
  have E_a1_94 := (E_a1_83.ext E82)
  obtain ⟨T95, h95, X95, e95, W95, st95⟩ := putF X82 hx hZ hown (host := "") (Or.inl (ow hw 37 rfl)) Via.refl e82 F_stored_a1_93 E_a1_94 (Or.inl (ow hw 38 rfl)) (ow hw 2 rfl) (ty := (.array .boolean)) (by decide) rfl rfl (g := (mkF m 84 #[rv a1] [(.ref b82), (.ref a1)])) rfl rfl (hb hby d1_84)
  have Z95 : n0 ≤ h95.size := Nat.le_trans Z82 (Keep.of_wr W95).1
  have Kp95 : Keep h0 h95 [a1] := Kp82.wr W95 (Or.inl (List.mem_of_getElem? (i := 0) rfl))
  have F_stored_a1_95 := F_stored_a1_93.same W95
  have N95 := Fr.snoc X95 N81 g_a1
  replace K : OGo p e below A0 T95 (mkF m 87 #[rv a1] []) := fun t k => K t (st95 t k)
  have nd96 : OND [b2, b6, b12, b19, b27, b36, b46, b57, b69, b82] := (ondS (allS ne_b2_b6 (allS ne_b2_b12 (allS ne_b2_b19 (allS ne_b2_b27 (allS ne_b2_b36 (allS ne_b2_b46 (allS ne_b2_b57 (allS ne_b2_b69 (allS ne_b2_b82 all0))))))))) (ondS (allS ne_b6_b12 (allS ne_b6_b19 (allS ne_b6_b27 (allS ne_b6_b36 (allS ne_b6_b46 (allS ne_b6_b57 (allS ne_b6_b69 (allS ne_b6_b82 all0)))))))) (ondS (allS ne_b12_b19 (allS ne_b12_b27 (allS ne_b12_b36 (allS ne_b12_b46 (allS ne_b12_b57 (allS ne_b12_b69 (allS ne_b12_b82 all0))))))) (ondS (allS ne_b19_b27 (allS ne_b19_b36 (allS ne_b19_b46 (allS ne_b19_b57 (allS ne_b19_b69 (allS ne_b19_b82 all0)))))) (ondS (allS ne_b27_b36 (allS ne_b27_b46 (allS ne_b27_b57 (allS ne_b27_b69 (allS ne_b27_b82 all0))))) (ondS (allS ne_b36_b46 (allS ne_b36_b57 (allS ne_b36_b69 (allS ne_b36_b82 all0)))) (ondS (allS ne_b46_b57 (allS ne_b46_b69 (allS ne_b46_b82 all0))) (ondS (allS ne_b57_b69 (allS ne_b57_b82 all0)) (ondS (allS ne_b69_b82 all0) (ondS all0 ond0))))))))))
  have E_a1_97 := (E_a1_94.wr W95)
  have F_actors_a1_98 := ((((((((((((((((((F_actors_a1_5.ext E6).other W11 (Or.inr (sn_cN0_actors_indices hw))).ext E12).other W18 (Or.inr (sn_cN0_actors_branchNumbers hw))).ext E19).other W26 (Or.inr (sn_cN0_actors_chose hw))).ext E27).other W35 (Or.inr (sn_cN0_actors_keys hw))).ext E36).other W45 (Or.inr (sn_cN0_actors_moves hw))).ext E46).other W56 (Or.inr (sn_cN0_actors_transitions hw))).ext E57).other W68 (Or.inr (sn_cN0_actors_frames hw))).ext E69).other W81 (Or.inr (sn_cN0_actors_targets hw))).ext E82).other W95 (Or.inr (sn_cN0_actors_stored hw)))
  have F_indices_a1_99 := ((((((((((((((((F_indices_a1_11.ext E12).other W18 (Or.inr (sn_cN0_indices_branchNumbers hw))).ext E19).other W26 (Or.inr (sn_cN0_indices_chose hw))).ext E27).other W35 (Or.inr (sn_cN0_indices_keys hw))).ext E36).other W45 (Or.inr (sn_cN0_indices_moves hw))).ext E46).other W56 (Or.inr (sn_cN0_indices_transitions hw))).ext E57).other W68 (Or.inr (sn_cN0_indices_frames hw))).ext E69).other W81 (Or.inr (sn_cN0_indices_targets hw))).ext E82).other W95 (Or.inr (sn_cN0_indices_stored hw)))
  have F_branchNumbers_a1_100 := ((((((((((((((F_branchNumbers_a1_18.ext E19).other W26 (Or.inr (sn_cN0_branchNumbers_chose hw))).ext E27).other W35 (Or.inr (sn_cN0_branchNumbers_keys hw))).ext E36).other W45 (Or.inr (sn_cN0_branchNumbers_moves hw))).ext E46).other W56 (Or.inr (sn_cN0_branchNumbers_transitions hw))).ext E57).other W68 (Or.inr (sn_cN0_branchNumbers_frames hw))).ext E69).other W81 (Or.inr (sn_cN0_branchNumbers_targets hw))).ext E82).other W95 (Or.inr (sn_cN0_branchNumbers_stored hw)))
  have F_chose_a1_101 := ((((((((((((F_chose_a1_26.ext E27).other W35 (Or.inr (sn_cN0_chose_keys hw))).ext E36).other W45 (Or.inr (sn_cN0_chose_moves hw))).ext E46).other W56 (Or.inr (sn_cN0_chose_transitions hw))).ext E57).other W68 (Or.inr (sn_cN0_chose_frames hw))).ext E69).other W81 (Or.inr (sn_cN0_chose_targets hw))).ext E82).other W95 (Or.inr (sn_cN0_chose_stored hw)))
  have F_keys_a1_102 := ((((((((((F_keys_a1_35.ext E36).other W45 (Or.inr (sn_cN0_keys_moves hw))).ext E46).other W56 (Or.inr (sn_cN0_keys_transitions hw))).ext E57).other W68 (Or.inr (sn_cN0_keys_frames hw))).ext E69).other W81 (Or.inr (sn_cN0_keys_targets hw))).ext E82).other W95 (Or.inr (sn_cN0_keys_stored hw)))
  have F_moves_a1_103 := ((((((((F_moves_a1_45.ext E46).other W56 (Or.inr (sn_cN0_moves_transitions hw))).ext E57).other W68 (Or.inr (sn_cN0_moves_frames hw))).ext E69).other W81 (Or.inr (sn_cN0_moves_targets hw))).ext E82).other W95 (Or.inr (sn_cN0_moves_stored hw)))
  have F_transitions_a1_104 := ((((((F_transitions_a1_56.ext E57).other W68 (Or.inr (sn_cN0_transitions_frames hw))).ext E69).other W81 (Or.inr (sn_cN0_transitions_targets hw))).ext E82).other W95 (Or.inr (sn_cN0_transitions_stored hw)))
  have F_frames_a1_105 := ((((F_frames_a1_68.ext E69).other W81 (Or.inr (sn_cN0_frames_targets hw))).ext E82).other W95 (Or.inr (sn_cN0_frames_stored hw)))
  have F_targets_a1_106 := ((F_targets_a1_81.ext E82).other W95 (Or.inr (sn_cN0_targets_stored hw)))
  have F_count_a1_107 := ((((((((((((((((((((F_count_a1.ext E2).other W5 (Or.inr (sn_cN0_count_actors hw))).ext E6).other W11 (Or.inr (sn_cN0_count_indices hw))).ext E12).other W18 (Or.inr (sn_cN0_count_branchNumbers hw))).ext E19).other W26 (Or.inr (sn_cN0_count_chose hw))).ext E27).other W35 (Or.inr (sn_cN0_count_keys hw))).ext E36).other W45 (Or.inr (sn_cN0_count_moves hw))).ext E46).other W56 (Or.inr (sn_cN0_count_transitions hw))).ext E57).other W68 (Or.inr (sn_cN0_count_frames hw))).ext E69).other W81 (Or.inr (sn_cN0_count_targets hw))).ext E82).other W95 (Or.inr (sn_cN0_count_stored hw)))
  have F_admitted_a1_108 := ((((((((((((((((((((F_admitted_a1.ext E2).other W5 (Or.inr (sn_cN0_admitted_actors hw))).ext E6).other W11 (Or.inr (sn_cN0_admitted_indices hw))).ext E12).other W18 (Or.inr (sn_cN0_admitted_branchNumbers hw))).ext E19).other W26 (Or.inr (sn_cN0_admitted_chose hw))).ext E27).other W35 (Or.inr (sn_cN0_admitted_keys hw))).ext E36).other W45 (Or.inr (sn_cN0_admitted_moves hw))).ext E46).other W56 (Or.inr (sn_cN0_admitted_transitions hw))).ext E57).other W68 (Or.inr (sn_cN0_admitted_frames hw))).ext E69).other W81 (Or.inr (sn_cN0_admitted_targets hw))).ext E82).other W95 (Or.inr (sn_cN0_admitted_stored hw)))
  have F_waitingBytes_a1_109 := ((((((((((((((((((((F_waitingBytes_a1.ext E2).other W5 (Or.inr (sn_cN0_waitingBytes_actors hw))).ext E6).other W11 (Or.inr (sn_cN0_waitingBytes_indices hw))).ext E12).other W18 (Or.inr (sn_cN0_waitingBytes_branchNumbers hw))).ext E19).other W26 (Or.inr (sn_cN0_waitingBytes_chose hw))).ext E27).other W35 (Or.inr (sn_cN0_waitingBytes_keys hw))).ext E36).other W45 (Or.inr (sn_cN0_waitingBytes_moves hw))).ext E46).other W56 (Or.inr (sn_cN0_waitingBytes_transitions hw))).ext E57).other W68 (Or.inr (sn_cN0_waitingBytes_frames hw))).ext E69).other W81 (Or.inr (sn_cN0_waitingBytes_targets hw))).ext E82).other W95 (Or.inr (sn_cN0_waitingBytes_stored hw)))
  have V_b2_110 := (((((((((((((((((((V_b2.other W5 (Ne.symm ne_a1_b2)).ext E6).other W11 (Ne.symm ne_a1_b2)).ext E12).other W18 (Ne.symm ne_a1_b2)).ext E19).other W26 (Ne.symm ne_a1_b2)).ext E27).other W35 (Ne.symm ne_a1_b2)).ext E36).other W45 (Ne.symm ne_a1_b2)).ext E46).other W56 (Ne.symm ne_a1_b2)).ext E57).other W68 (Ne.symm ne_a1_b2)).ext E69).other W81 (Ne.symm ne_a1_b2)).ext E82).other W95 (Ne.symm ne_a1_b2))
  have V_b6_111 := (((((((((((((((((V_b6.other W11 (Ne.symm ne_a1_b6)).ext E12).other W18 (Ne.symm ne_a1_b6)).ext E19).other W26 (Ne.symm ne_a1_b6)).ext E27).other W35 (Ne.symm ne_a1_b6)).ext E36).other W45 (Ne.symm ne_a1_b6)).ext E46).other W56 (Ne.symm ne_a1_b6)).ext E57).other W68 (Ne.symm ne_a1_b6)).ext E69).other W81 (Ne.symm ne_a1_b6)).ext E82).other W95 (Ne.symm ne_a1_b6))
  have V_b12_112 := (((((((((((((((V_b12.other W18 (Ne.symm ne_a1_b12)).ext E19).other W26 (Ne.symm ne_a1_b12)).ext E27).other W35 (Ne.symm ne_a1_b12)).ext E36).other W45 (Ne.symm ne_a1_b12)).ext E46).other W56 (Ne.symm ne_a1_b12)).ext E57).other W68 (Ne.symm ne_a1_b12)).ext E69).other W81 (Ne.symm ne_a1_b12)).ext E82).other W95 (Ne.symm ne_a1_b12))
  have V_b19_113 := (((((((((((((V_b19.other W26 (Ne.symm ne_a1_b19)).ext E27).other W35 (Ne.symm ne_a1_b19)).ext E36).other W45 (Ne.symm ne_a1_b19)).ext E46).other W56 (Ne.symm ne_a1_b19)).ext E57).other W68 (Ne.symm ne_a1_b19)).ext E69).other W81 (Ne.symm ne_a1_b19)).ext E82).other W95 (Ne.symm ne_a1_b19))
  have V_b27_114 := (((((((((((V_b27.other W35 (Ne.symm ne_a1_b27)).ext E36).other W45 (Ne.symm ne_a1_b27)).ext E46).other W56 (Ne.symm ne_a1_b27)).ext E57).other W68 (Ne.symm ne_a1_b27)).ext E69).other W81 (Ne.symm ne_a1_b27)).ext E82).other W95 (Ne.symm ne_a1_b27))
  have V_b36_115 := ((V_b36_89.ext E82).other W95 (Ne.symm ne_a1_b36))
  have V_b46_116 := ((V_b46_90.ext E82).other W95 (Ne.symm ne_a1_b46))
  have V_b57_117 := (((((V_b57.other W68 (Ne.symm ne_a1_b57)).ext E69).other W81 (Ne.symm ne_a1_b57)).ext E82).other W95 (Ne.symm ne_a1_b57))
  have V_b69_118 := (((V_b69.other W81 (Ne.symm ne_a1_b69)).ext E82).other W95 (Ne.symm ne_a1_b69))
  have V_b82_119 := (V_b82.other W95 (Ne.symm ne_a1_b82))
  obtain ⟨fs, hr, hrun, hended, hW, hsame⟩ := X95.leave (v := none) (fun _ => rfl)
  subst hA0
  refine ⟨_, _, K _ (X95.returnOut hx Bd.returns (hb hby d1_87) hr), hrun, hended, _, _, rfl, ?_, ⟨_, rfl⟩, hW, hsame.mono (by decide) (by decide)⟩
  show Q_init Z a1 h0 n0 _ T95.heap _
  rw [e95]
  exact ⟨rfl, N95, b2, b6, b12, b19, b27, b36, b46, b57, b69, b82, k2, k6, k12, k19, k27, k36, k46, k57, k69, k82, Kp95, sz_b2, sz_b6, sz_b12, sz_b19, sz_b27, sz_b36, sz_b46, sz_b57, sz_b69, sz_b82, nd96, O27, E_a1_97, F_actors_a1_98, F_indices_a1_99, F_branchNumbers_a1_100, F_chose_a1_101, F_keys_a1_102, F_moves_a1_103, F_transitions_a1_104, F_frames_a1_105, F_targets_a1_106, F_stored_a1_95, F_count_a1_107, F_admitted_a1_108, F_waitingBytes_a1_109, V_b2_110, V_b6_111, V_b12_112, V_b19_113, V_b27_114, V_b36_115, V_b46_116, V_b57_117, V_b69_118, V_b82_119⟩
theorem ef_4 (m : MethodId) (x0 : Addr) : entryFrame m #[(.ref x0)] 2 = mkF m 0 #[.val (.ref x0), .unset] [] := by first | (simp [entryFrame, mkF, argsToLocals, Value.category]; done) | rfl
theorem d4_0 : decode prog_108_method_21_code 0 = .ok (.aload_n 0, 1) := by decide +kernel
theorem d4_1 : decode prog_108_method_21_code 1 = .ok (.getfield 59, 3) := by decide +kernel
theorem d4_4 : decode prog_108_method_21_code 4 = .ok (.aload_n 0, 1) := by decide +kernel
theorem d4_5 : decode prog_108_method_21_code 5 = .ok (.getfield 7, 3) := by decide +kernel
theorem d4_8 : decode prog_108_method_21_code 8 = .ok (.arraylength, 1) := by decide +kernel
theorem d4_9 : decode prog_108_method_21_code 9 = .ok (.if_icmp .ne 139, 3) := by decide +kernel
theorem d4_148 : decode prog_108_method_21_code 148 = .ok (.aload_n 0, 1) := by decide +kernel
theorem d4_149 : decode prog_108_method_21_code 149 = .ok (.dup, 1) := by decide +kernel
theorem d4_150 : decode prog_108_method_21_code 150 = .ok (.getfield 59, 3) := by decide +kernel
theorem d4_153 : decode prog_108_method_21_code 153 = .ok (.dup_x1, 1) := by decide +kernel
theorem d4_154 : decode prog_108_method_21_code 154 = .ok (.iconst 1, 1) := by decide +kernel
theorem d4_155 : decode prog_108_method_21_code 155 = .ok (.iadd, 1) := by decide +kernel
theorem d4_156 : decode prog_108_method_21_code 156 = .ok (.putfield 59, 3) := by decide +kernel
theorem d4_159 : decode prog_108_method_21_code 159 = .ok (.ireturn, 1) := by decide +kernel
theorem sn_cN0_actors_count {a0 : Array Value} {Z : State} (hw : ∀ d ∈ tables_1, d.before a0 Z = true) : Jvm.RoadKit.slotOf Z cN0 "actors" "[I" ≠ Jvm.RoadKit.slotOf Z cN0 "count" "I" := slot_ne (Or.inl (ow hw 12 rfl)) (Or.inl (ow hw 49 rfl)) (by decide) (t := (.array .int)) (t' := .int) (by decide) (by decide)
theorem sn_cN0_indices_count {a0 : Array Value} {Z : State} (hw : ∀ d ∈ tables_1, d.before a0 Z = true) : Jvm.RoadKit.slotOf Z cN0 "indices" "[I" ≠ Jvm.RoadKit.slotOf Z cN0 "count" "I" := slot_ne (Or.inl (ow hw 14 rfl)) (Or.inl (ow hw 49 rfl)) (by decide) (t := (.array .int)) (t' := .int) (by decide) (by decide)
theorem sn_cN0_branchNumbers_count {a0 : Array Value} {Z : State} (hw : ∀ d ∈ tables_1, d.before a0 Z = true) : Jvm.RoadKit.slotOf Z cN0 "branchNumbers" "[I" ≠ Jvm.RoadKit.slotOf Z cN0 "count" "I" := slot_ne (Or.inl (ow hw 16 rfl)) (Or.inl (ow hw 49 rfl)) (by decide) (t := (.array .int)) (t' := .int) (by decide) (by decide)
theorem sn_cN0_chose_count {a0 : Array Value} {Z : State} (hw : ∀ d ∈ tables_1, d.before a0 Z = true) : Jvm.RoadKit.slotOf Z cN0 "chose" "[Z" ≠ Jvm.RoadKit.slotOf Z cN0 "count" "I" := slot_ne (Or.inl (ow hw 19 rfl)) (Or.inl (ow hw 49 rfl)) (by decide) (t := (.array .boolean)) (t' := .int) (by decide) (by decide)
theorem sn_cN0_keys_count {a0 : Array Value} {Z : State} (hw : ∀ d ∈ tables_1, d.before a0 Z = true) : Jvm.RoadKit.slotOf Z cN0 "keys" "[[B" ≠ Jvm.RoadKit.slotOf Z cN0 "count" "I" := slot_ne (Or.inl (ow hw 23 rfl)) (Or.inl (ow hw 49 rfl)) (by decide) (t := (.array (.array .byte))) (t' := .int) (by decide) (by decide)
theorem sn_cN0_moves_count {a0 : Array Value} {Z : State} (hw : ∀ d ∈ tables_1, d.before a0 Z = true) : Jvm.RoadKit.slotOf Z cN0 "moves" cN1 ≠ Jvm.RoadKit.slotOf Z cN0 "count" "I" := slot_ne (Or.inl (ow hw 27 rfl)) (Or.inl (ow hw 49 rfl)) (by decide) (t := (.array (.object "com/example/flote/flote/search/Search$Moves"))) (t' := .int) (by decide) (by decide)
theorem sn_cN0_transitions_count {a0 : Array Value} {Z : State} (hw : ∀ d ∈ tables_1, d.before a0 Z = true) : Jvm.RoadKit.slotOf Z cN0 "transitions" cN2 ≠ Jvm.RoadKit.slotOf Z cN0 "count" "I" := slot_ne (Or.inl (ow hw 31 rfl)) (Or.inl (ow hw 49 rfl)) (by decide) (t := (.array (.object "com/example/flote/flote/search/Search$Branches"))) (t' := .int) (by decide) (by decide)
theorem sn_cN0_frames_count {a0 : Array Value} {Z : State} (hw : ∀ d ∈ tables_1, d.before a0 Z = true) : Jvm.RoadKit.slotOf Z cN0 "frames" "[J" ≠ Jvm.RoadKit.slotOf Z cN0 "count" "I" := slot_ne (Or.inl (ow hw 34 rfl)) (Or.inl (ow hw 49 rfl)) (by decide) (t := (.array .long)) (t' := .int) (by decide) (by decide)
theorem sn_cN0_targets_count {a0 : Array Value} {Z : State} (hw : ∀ d ∈ tables_1, d.before a0 Z = true) : Jvm.RoadKit.slotOf Z cN0 "targets" "[I" ≠ Jvm.RoadKit.slotOf Z cN0 "count" "I" := slot_ne (Or.inl (ow hw 36 rfl)) (Or.inl (ow hw 49 rfl)) (by decide) (t := (.array .int)) (t' := .int) (by decide) (by decide)
theorem sn_cN0_stored_count {a0 : Array Value} {Z : State} (hw : ∀ d ∈ tables_1, d.before a0 Z = true) : Jvm.RoadKit.slotOf Z cN0 "stored" "[Z" ≠ Jvm.RoadKit.slotOf Z cN0 "count" "I" := slot_ne (Or.inl (ow hw 38 rfl)) (Or.inl (ow hw 49 rfl)) (by decide) (t := (.array .boolean)) (t' := .int) (by decide) (by decide)
theorem sn_cN0_admitted_count {a0 : Array Value} {Z : State} (hw : ∀ d ∈ tables_1, d.before a0 Z = true) : Jvm.RoadKit.slotOf Z cN0 "admitted" "I" ≠ Jvm.RoadKit.slotOf Z cN0 "count" "I" := slot_ne (Or.inl (ow hw 51 rfl)) (Or.inl (ow hw 49 rfl)) (by decide) (t := .int) (t' := .int) (by decide) (by decide)
theorem sn_cN0_waitingBytes_count {a0 : Array Value} {Z : State} (hw : ∀ d ∈ tables_1, d.before a0 Z = true) : Jvm.RoadKit.slotOf Z cN0 "waitingBytes" "J" ≠ Jvm.RoadKit.slotOf Z cN0 "count" "I" := slot_ne (Or.inl (ow hw 60 rfl)) (Or.inl (ow hw 49 rfl)) (by decide) (t := .long) (t' := .int) (by decide) (by decide)
def Q_next0 (Z : State) (a1 : Addr) (ac : Addr) (ix : Addr) (bn : Addr) (ch : Addr) (ky : Addr) (mv : Addr) (tr : Addr) (fr : Addr) (tg : Addr) (sd : Addr) (k_ac : ClassId) (va : List Value) (adm : Int32) (wb : Int64) (h0 : Heap) (n0 : Nat) (v : Option Value) (h : Heap) (L : List Loc) : Prop := v = some (.int (0 : Int32)) ∧ Fr n0 L ∧ Keep h0 h [a1] ∧ Exa Z h a1 cN0 ∧ Fld Z h a1 cN0 "actors" "[I" (.ref ac) ∧ Fld Z h a1 cN0 "indices" "[I" (.ref ix) ∧ Fld Z h a1 cN0 "branchNumbers" "[I" (.ref bn) ∧ Fld Z h a1 cN0 "chose" "[Z" (.ref ch) ∧ Fld Z h a1 cN0 "keys" "[[B" (.ref ky) ∧ Fld Z h a1 cN0 "moves" cN1 (.ref mv) ∧ Fld Z h a1 cN0 "transitions" cN2 (.ref tr) ∧ Fld Z h a1 cN0 "frames" "[J" (.ref fr) ∧ Fld Z h a1 cN0 "targets" "[I" (.ref tg) ∧ Fld Z h a1 cN0 "stored" "[Z" (.ref sd) ∧ Fld Z h a1 cN0 "count" "I" (.int (1 : Int32)) ∧ Fld Z h a1 cN0 "admitted" "I" (.int adm) ∧ Fld Z h a1 cN0 "waitingBytes" "J" (.long wb)
set_option maxRecDepth 65536 in
set_option maxHeartbeats 40000000 in
theorem rm_next0 (l : Launch) (Z : State) (a0 : Array Value) (hw : ∀ d ∈ tables_1, d.before a0 Z = true) (ws : List Jvm.Cond) (a1 : Addr) (ac : Addr) (ix : Addr) (bn : Addr) (ch : Addr) (ky : Addr) (mv : Addr) (tr : Addr) (fr : Addr) (tg : Addr) (sd : Addr) (k_ac : ClassId) (va : List Value) (adm : Int32) (wb : Int64) (h0 : Heap) (n0 : Nat) (Z0 : n0 ≤ h0.size) (E_a1 : Exa Z h0 a1 cN0) (F_actors_a1 : Fld Z h0 a1 cN0 "actors" "[I" (.ref ac)) (F_indices_a1 : Fld Z h0 a1 cN0 "indices" "[I" (.ref ix)) (F_branchNumbers_a1 : Fld Z h0 a1 cN0 "branchNumbers" "[I" (.ref bn)) (F_chose_a1 : Fld Z h0 a1 cN0 "chose" "[Z" (.ref ch)) (F_keys_a1 : Fld Z h0 a1 cN0 "keys" "[[B" (.ref ky)) (F_moves_a1 : Fld Z h0 a1 cN0 "moves" cN1 (.ref mv)) (F_transitions_a1 : Fld Z h0 a1 cN0 "transitions" cN2 (.ref tr)) (F_frames_a1 : Fld Z h0 a1 cN0 "frames" "[J" (.ref fr)) (F_targets_a1 : Fld Z h0 a1 cN0 "targets" "[I" (.ref tg)) (F_stored_a1 : Fld Z h0 a1 cN0 "stored" "[Z" (.ref sd)) (F_count_a1 : Fld Z h0 a1 cN0 "count" "I" (.int (0 : Int32))) (F_admitted_a1 : Fld Z h0 a1 cN0 "admitted" "I" (.int adm)) (F_waitingBytes_a1 : Fld Z h0 a1 cN0 "waitingBytes" "J" (.long wb)) (V_ac : OAr Z h0 ac k_ac .int va) (ne_a1_ac : a1 ≠ ac) (g_a1 : n0 ≤ a1) (hl : va.length.toInt32 = (16 : Int32)) :
    MetFree l mN1 (head1 (Jvm.Cond.code mN1 prog_108_method_21_code 2 (some .int) :: ws) ({ frames := 0, cells := 0, slots := 0, locals := 0 } : Room)) (fun a U => a = #[(.ref a1)] ∧ Z.Warmed39 U.vm ∧ U.heap = h0) (fun _ _ _ _ _ => True) (fun _ U o U' => ∃ v L, o = .returned v ∧ Q_next0 Z a1 ac ix bn ch ky mv tr fr tg sd k_ac va adm wb h0 n0 v U'.heap L ∧ FrameEnd U o U' L ({ frames := 0, cells := 0, slots := 0, locals := 0 } : Room).cells ({ frames := 0, cells := 0, slots := 0, locals := 0 } : Room).slots) := by
  refine MetFree.of_bodySF (plainFor_of_name pn_com_example_flote_flote_search_Reached) hisR ?_
  intro p e s m args below meth c s₁ Bd hml0 hP hK
  obtain ⟨rfl, hZ, hh⟩ := hP
  have hx := Bd.exec
  have hby := Bd.bytes
  have hml : c.maxLocals = 2 := hml0
  have hown : s.vm.findClass "com/example/flote/flote/search/Reached" = some m.cls := findClass_of_methodNamed Bd.named
  have hnm := (name_of_methodNamed Bd.named Bd.method).1
  have X0 : Stand p l e ({ frames := 0, cells := 0, slots := 0, locals := 0 } : Room) s m #[(.ref a1)] below meth c s₁ [] 0 0 := Stand.of_body Bd
  have e0 : s₁.heap = h0 := by rw [← hh, Bd.state]; rfl
  have N0 := Fr.nil n0
  obtain ⟨A0, hA0⟩ : ∃ z, z = s₁.setTop (entryFrame m #[(.ref a1)] 2) := ⟨_, rfl⟩
  have K : OGo p e below A0 s₁ (mkF m 0 #[rv a1, .unset] []) := fun t k => hA0 ▸ castTop (ef_4 m a1) k
  replace K : OGo p e below A0 s₁ (mkF m 1 #[rv a1, .unset] [(.ref a1)]) := fun t k => K t (XS.aloadN X0.here hx rfl (hb hby d4_0) rfl rfl k)
  obtain ⟨T1, X1, e1, st1⟩ := getF X0 hx hZ hown (host := "") (Or.inl (ow hw 48 rfl)) Via.refl e0 F_count_a1 (g := (mkF m 1 #[rv a1, .unset] [(.ref a1)])) rfl rfl (hb hby d4_1)
  replace K : OGo p e below A0 T1 (mkF m 4 #[rv a1, .unset] [(.int 0)]) := fun t k => K t (st1 t k)
  replace K : OGo p e below A0 T1 (mkF m 5 #[rv a1, .unset] [(.ref a1), (.int 0)]) := fun t k => K t (XS.aloadN X1.here hx rfl (hb hby d4_4) rfl rfl k)
  obtain ⟨T2, X2, e2, st2⟩ := getF X1 hx hZ hown (host := "") (Or.inl (ow hw 11 rfl)) Via.refl e1 F_actors_a1 (g := (mkF m 5 #[rv a1, .unset] [(.ref a1), (.int 0)])) rfl rfl (hb hby d4_5)
  replace K : OGo p e below A0 T2 (mkF m 8 #[rv a1, .unset] [(.ref ac), (.int 0)]) := fun t k => K t (st2 t k)
  replace K : OGo p e below A0 T2 (mkF m 9 #[rv a1, .unset] [(.int 16), (.int 0)]) := fun t k => K t (own_len X2 hx hZ e2 V_ac (n := (16 : Int32)) hl (g := (mkF m 8 #[rv a1, .unset] [(.ref ac), (.int 0)])) rfl rfl (hb hby d4_8) t k)
  replace K : OGo p e below A0 T2 (mkF m 148 #[rv a1, .unset] []) := fun t k => K t (XS.icmpYes X2.here hx rfl (pc0 := 9) (pc' := 148) rfl (hb hby d4_9) rfl (feq ((by decide : ¬ ((0 : Int32) = (16 : Int32))) : ¬ ((0 : Int32) = (16 : Int32)))).2 (by decide) (by decide) k)
  replace K : OGo p e below A0 T2 (mkF m 149 #[rv a1, .unset] [(.ref a1)]) := fun t k => K t (XS.aloadN X2.here hx rfl (hb hby d4_148) rfl rfl k)
  replace K : OGo p e below A0 T2 (mkF m 150 #[rv a1, .unset] [(.ref a1), (.ref a1)]) := fun t k => K t (XS.dup X2.here hx rfl (hb hby d4_149) rfl rfl k)
  obtain ⟨T3, X3, e3, st3⟩ := getF X2 hx hZ hown (host := "") (Or.inl (ow hw 48 rfl)) Via.refl e2 F_count_a1 (g := (mkF m 150 #[rv a1, .unset] [(.ref a1), (.ref a1)])) rfl rfl (hb hby d4_150)
  replace K : OGo p e below A0 T3 (mkF m 153 #[rv a1, .unset] [(.int 0), (.ref a1)]) := fun t k => K t (st3 t k)
  replace K : OGo p e below A0 T3 (mkF m 154 #[rv a1, .unset] [(.int 0), (.ref a1), (.int 0)]) := fun t k => K t (XS.dupX1 X3.here hx rfl (hb hby d4_153) rfl rfl rfl k)
  replace K : OGo p e below A0 T3 (mkF m 155 #[rv a1, .unset] [(.int 1), (.int 0), (.ref a1), (.int 0)]) := fun t k => K t (XS.iconst X3.here hx rfl (hb hby d4_154) k)
  replace K : OGo p e below A0 T3 (mkF m 156 #[rv a1, .unset] [(.int 1), (.ref a1), (.int 0)]) := fun t k => K t (XS.iadd X3.here hx rfl (hb hby d4_155) rfl k)
  obtain ⟨T4, h4, X4, e4, W4, st4⟩ := putF X3 hx hZ hown (host := "") (Or.inl (ow hw 48 rfl)) Via.refl e3 F_count_a1 E_a1 (Or.inl (ow hw 49 rfl)) (ow hw 2 rfl) (ty := .int) (by decide) rfl rfl (g := (mkF m 156 #[rv a1, .unset] [(.int 1), (.ref a1), (.int 0)])) rfl rfl (hb hby d4_156)
  have Z4 : n0 ≤ h4.size := Nat.le_trans Z0 (Keep.of_wr W4).1
  have Kp4 : Keep h0 h4 [a1] := (Keep.refl h0 [a1]).wr W4 (Or.inl (List.mem_of_getElem? (i := 0) rfl))
  have F_count_a1_4 := F_count_a1.same W4
  have N4 := Fr.snoc X4 N0 g_a1
  replace K : OGo p e below A0 T4 (mkF m 159 #[rv a1, .unset] [(.int 0)]) := fun t k => K t (st4 t k)
  have E_a1_5 := (E_a1.wr W4)
  have F_actors_a1_6 := (F_actors_a1.other W4 (Or.inr (sn_cN0_actors_count hw)))
  have F_indices_a1_7 := (F_indices_a1.other W4 (Or.inr (sn_cN0_indices_count hw)))
  have F_branchNumbers_a1_8 := (F_branchNumbers_a1.other W4 (Or.inr (sn_cN0_branchNumbers_count hw)))
  have F_chose_a1_9 := (F_chose_a1.other W4 (Or.inr (sn_cN0_chose_count hw)))
  have F_keys_a1_10 := (F_keys_a1.other W4 (Or.inr (sn_cN0_keys_count hw)))
  have F_moves_a1_11 := (F_moves_a1.other W4 (Or.inr (sn_cN0_moves_count hw)))
  have F_transitions_a1_12 := (F_transitions_a1.other W4 (Or.inr (sn_cN0_transitions_count hw)))
  have F_frames_a1_13 := (F_frames_a1.other W4 (Or.inr (sn_cN0_frames_count hw)))
  have F_targets_a1_14 := (F_targets_a1.other W4 (Or.inr (sn_cN0_targets_count hw)))
  have F_stored_a1_15 := (F_stored_a1.other W4 (Or.inr (sn_cN0_stored_count hw)))
  have F_admitted_a1_16 := (F_admitted_a1.other W4 (Or.inr (sn_cN0_admitted_count hw)))
  have F_waitingBytes_a1_17 := (F_waitingBytes_a1.other W4 (Or.inr (sn_cN0_waitingBytes_count hw)))
  obtain ⟨fs, hr, hrun, hended, hW, hsame⟩ := X4.leave (v := some (.int (0 : Int32))) (fun h => by rw [Bd.returns] at h; cases h)
  subst hA0
  refine ⟨_, _, K _ (retOut X4 hx Bd.returns rfl (Or.inl ⟨rfl, Or.inl rfl, _, rfl⟩) (hb hby d4_159) hr), hrun, hended, _, _, rfl, ?_, ⟨_, rfl⟩, hW, hsame.mono (by decide) (by decide)⟩
  show Q_next0 Z a1 ac ix bn ch ky mv tr fr tg sd k_ac va adm wb h0 n0 _ T4.heap _
  rw [e4]
  exact ⟨rfl, N4, Kp4, E_a1_5, F_actors_a1_6, F_indices_a1_7, F_branchNumbers_a1_8, F_chose_a1_9, F_keys_a1_10, F_moves_a1_11, F_transitions_a1_12, F_frames_a1_13, F_targets_a1_14, F_stored_a1_15, F_count_a1_4, F_admitted_a1_16, F_waitingBytes_a1_17⟩
def Q_next1 (Z : State) (a1 : Addr) (ac : Addr) (ix : Addr) (bn : Addr) (ch : Addr) (ky : Addr) (mv : Addr) (tr : Addr) (fr : Addr) (tg : Addr) (sd : Addr) (k_ac : ClassId) (va : List Value) (adm : Int32) (wb : Int64) (h0 : Heap) (n0 : Nat) (v : Option Value) (h : Heap) (L : List Loc) : Prop := v = some (.int (1 : Int32)) ∧ Fr n0 L ∧ Keep h0 h [a1] ∧ Exa Z h a1 cN0 ∧ Fld Z h a1 cN0 "actors" "[I" (.ref ac) ∧ Fld Z h a1 cN0 "indices" "[I" (.ref ix) ∧ Fld Z h a1 cN0 "branchNumbers" "[I" (.ref bn) ∧ Fld Z h a1 cN0 "chose" "[Z" (.ref ch) ∧ Fld Z h a1 cN0 "keys" "[[B" (.ref ky) ∧ Fld Z h a1 cN0 "moves" cN1 (.ref mv) ∧ Fld Z h a1 cN0 "transitions" cN2 (.ref tr) ∧ Fld Z h a1 cN0 "frames" "[J" (.ref fr) ∧ Fld Z h a1 cN0 "targets" "[I" (.ref tg) ∧ Fld Z h a1 cN0 "stored" "[Z" (.ref sd) ∧ Fld Z h a1 cN0 "count" "I" (.int (2 : Int32)) ∧ Fld Z h a1 cN0 "admitted" "I" (.int adm) ∧ Fld Z h a1 cN0 "waitingBytes" "J" (.long wb)
set_option maxRecDepth 65536 in
set_option maxHeartbeats 40000000 in
theorem rm_next1 (l : Launch) (Z : State) (a0 : Array Value) (hw : ∀ d ∈ tables_1, d.before a0 Z = true) (ws : List Jvm.Cond) (a1 : Addr) (ac : Addr) (ix : Addr) (bn : Addr) (ch : Addr) (ky : Addr) (mv : Addr) (tr : Addr) (fr : Addr) (tg : Addr) (sd : Addr) (k_ac : ClassId) (va : List Value) (adm : Int32) (wb : Int64) (h0 : Heap) (n0 : Nat) (Z0 : n0 ≤ h0.size) (E_a1 : Exa Z h0 a1 cN0) (F_actors_a1 : Fld Z h0 a1 cN0 "actors" "[I" (.ref ac)) (F_indices_a1 : Fld Z h0 a1 cN0 "indices" "[I" (.ref ix)) (F_branchNumbers_a1 : Fld Z h0 a1 cN0 "branchNumbers" "[I" (.ref bn)) (F_chose_a1 : Fld Z h0 a1 cN0 "chose" "[Z" (.ref ch)) (F_keys_a1 : Fld Z h0 a1 cN0 "keys" "[[B" (.ref ky)) (F_moves_a1 : Fld Z h0 a1 cN0 "moves" cN1 (.ref mv)) (F_transitions_a1 : Fld Z h0 a1 cN0 "transitions" cN2 (.ref tr)) (F_frames_a1 : Fld Z h0 a1 cN0 "frames" "[J" (.ref fr)) (F_targets_a1 : Fld Z h0 a1 cN0 "targets" "[I" (.ref tg)) (F_stored_a1 : Fld Z h0 a1 cN0 "stored" "[Z" (.ref sd)) (F_count_a1 : Fld Z h0 a1 cN0 "count" "I" (.int (1 : Int32))) (F_admitted_a1 : Fld Z h0 a1 cN0 "admitted" "I" (.int adm)) (F_waitingBytes_a1 : Fld Z h0 a1 cN0 "waitingBytes" "J" (.long wb)) (V_ac : OAr Z h0 ac k_ac .int va) (ne_a1_ac : a1 ≠ ac) (g_a1 : n0 ≤ a1) (hl : va.length.toInt32 = (16 : Int32)) :
    MetFree l mN1 (head1 (Jvm.Cond.code mN1 prog_108_method_21_code 2 (some .int) :: ws) ({ frames := 0, cells := 0, slots := 0, locals := 0 } : Room)) (fun a U => a = #[(.ref a1)] ∧ Z.Warmed39 U.vm ∧ U.heap = h0) (fun _ _ _ _ _ => True) (fun _ U o U' => ∃ v L, o = .returned v ∧ Q_next1 Z a1 ac ix bn ch ky mv tr fr tg sd k_ac va adm wb h0 n0 v U'.heap L ∧ FrameEnd U o U' L ({ frames := 0, cells := 0, slots := 0, locals := 0 } : Room).cells ({ frames := 0, cells := 0, slots := 0, locals := 0 } : Room).slots) := by
  refine MetFree.of_bodySF (plainFor_of_name pn_com_example_flote_flote_search_Reached) hisR ?_
  intro p e s m args below meth c s₁ Bd hml0 hP hK
  obtain ⟨rfl, hZ, hh⟩ := hP
  have hx := Bd.exec
  have hby := Bd.bytes
  have hml : c.maxLocals = 2 := hml0
  have hown : s.vm.findClass "com/example/flote/flote/search/Reached" = some m.cls := findClass_of_methodNamed Bd.named
  have hnm := (name_of_methodNamed Bd.named Bd.method).1
  have X0 : Stand p l e ({ frames := 0, cells := 0, slots := 0, locals := 0 } : Room) s m #[(.ref a1)] below meth c s₁ [] 0 0 := Stand.of_body Bd
  have e0 : s₁.heap = h0 := by rw [← hh, Bd.state]; rfl
  have N0 := Fr.nil n0
  obtain ⟨A0, hA0⟩ : ∃ z, z = s₁.setTop (entryFrame m #[(.ref a1)] 2) := ⟨_, rfl⟩
  have K : OGo p e below A0 s₁ (mkF m 0 #[rv a1, .unset] []) := fun t k => hA0 ▸ castTop (ef_4 m a1) k
  replace K : OGo p e below A0 s₁ (mkF m 1 #[rv a1, .unset] [(.ref a1)]) := fun t k => K t (XS.aloadN X0.here hx rfl (hb hby d4_0) rfl rfl k)
  obtain ⟨T1, X1, e1, st1⟩ := getF X0 hx hZ hown (host := "") (Or.inl (ow hw 48 rfl)) Via.refl e0 F_count_a1 (g := (mkF m 1 #[rv a1, .unset] [(.ref a1)])) rfl rfl (hb hby d4_1)
  replace K : OGo p e below A0 T1 (mkF m 4 #[rv a1, .unset] [(.int 1)]) := fun t k => K t (st1 t k)
  replace K : OGo p e below A0 T1 (mkF m 5 #[rv a1, .unset] [(.ref a1), (.int 1)]) := fun t k => K t (XS.aloadN X1.here hx rfl (hb hby d4_4) rfl rfl k)
  obtain ⟨T2, X2, e2, st2⟩ := getF X1 hx hZ hown (host := "") (Or.inl (ow hw 11 rfl)) Via.refl e1 F_actors_a1 (g := (mkF m 5 #[rv a1, .unset] [(.ref a1), (.int 1)])) rfl rfl (hb hby d4_5)
  replace K : OGo p e below A0 T2 (mkF m 8 #[rv a1, .unset] [(.ref ac), (.int 1)]) := fun t k => K t (st2 t k)
  replace K : OGo p e below A0 T2 (mkF m 9 #[rv a1, .unset] [(.int 16), (.int 1)]) := fun t k => K t (own_len X2 hx hZ e2 V_ac (n := (16 : Int32)) hl (g := (mkF m 8 #[rv a1, .unset] [(.ref ac), (.int 1)])) rfl rfl (hb hby d4_8) t k)
  replace K : OGo p e below A0 T2 (mkF m 148 #[rv a1, .unset] []) := fun t k => K t (XS.icmpYes X2.here hx rfl (pc0 := 9) (pc' := 148) rfl (hb hby d4_9) rfl (feq ((by decide : ¬ ((1 : Int32) = (16 : Int32))) : ¬ ((1 : Int32) = (16 : Int32)))).2 (by decide) (by decide) k)
  replace K : OGo p e below A0 T2 (mkF m 149 #[rv a1, .unset] [(.ref a1)]) := fun t k => K t (XS.aloadN X2.here hx rfl (hb hby d4_148) rfl rfl k)
  replace K : OGo p e below A0 T2 (mkF m 150 #[rv a1, .unset] [(.ref a1), (.ref a1)]) := fun t k => K t (XS.dup X2.here hx rfl (hb hby d4_149) rfl rfl k)
  obtain ⟨T3, X3, e3, st3⟩ := getF X2 hx hZ hown (host := "") (Or.inl (ow hw 48 rfl)) Via.refl e2 F_count_a1 (g := (mkF m 150 #[rv a1, .unset] [(.ref a1), (.ref a1)])) rfl rfl (hb hby d4_150)
  replace K : OGo p e below A0 T3 (mkF m 153 #[rv a1, .unset] [(.int 1), (.ref a1)]) := fun t k => K t (st3 t k)
  replace K : OGo p e below A0 T3 (mkF m 154 #[rv a1, .unset] [(.int 1), (.ref a1), (.int 1)]) := fun t k => K t (XS.dupX1 X3.here hx rfl (hb hby d4_153) rfl rfl rfl k)
  replace K : OGo p e below A0 T3 (mkF m 155 #[rv a1, .unset] [(.int 1), (.int 1), (.ref a1), (.int 1)]) := fun t k => K t (XS.iconst X3.here hx rfl (hb hby d4_154) k)
  replace K : OGo p e below A0 T3 (mkF m 156 #[rv a1, .unset] [(.int 2), (.ref a1), (.int 1)]) := fun t k => K t (XS.iadd X3.here hx rfl (hb hby d4_155) rfl k)
  obtain ⟨T4, h4, X4, e4, W4, st4⟩ := putF X3 hx hZ hown (host := "") (Or.inl (ow hw 48 rfl)) Via.refl e3 F_count_a1 E_a1 (Or.inl (ow hw 49 rfl)) (ow hw 2 rfl) (ty := .int) (by decide) rfl rfl (g := (mkF m 156 #[rv a1, .unset] [(.int 2), (.ref a1), (.int 1)])) rfl rfl (hb hby d4_156)
  have Z4 : n0 ≤ h4.size := Nat.le_trans Z0 (Keep.of_wr W4).1
  have Kp4 : Keep h0 h4 [a1] := (Keep.refl h0 [a1]).wr W4 (Or.inl (List.mem_of_getElem? (i := 0) rfl))
  have F_count_a1_4 := F_count_a1.same W4
  have N4 := Fr.snoc X4 N0 g_a1
  replace K : OGo p e below A0 T4 (mkF m 159 #[rv a1, .unset] [(.int 1)]) := fun t k => K t (st4 t k)
  have E_a1_5 := (E_a1.wr W4)
  have F_actors_a1_6 := (F_actors_a1.other W4 (Or.inr (sn_cN0_actors_count hw)))
  have F_indices_a1_7 := (F_indices_a1.other W4 (Or.inr (sn_cN0_indices_count hw)))
  have F_branchNumbers_a1_8 := (F_branchNumbers_a1.other W4 (Or.inr (sn_cN0_branchNumbers_count hw)))
  have F_chose_a1_9 := (F_chose_a1.other W4 (Or.inr (sn_cN0_chose_count hw)))
  have F_keys_a1_10 := (F_keys_a1.other W4 (Or.inr (sn_cN0_keys_count hw)))
  have F_moves_a1_11 := (F_moves_a1.other W4 (Or.inr (sn_cN0_moves_count hw)))
  have F_transitions_a1_12 := (F_transitions_a1.other W4 (Or.inr (sn_cN0_transitions_count hw)))
  have F_frames_a1_13 := (F_frames_a1.other W4 (Or.inr (sn_cN0_frames_count hw)))
  have F_targets_a1_14 := (F_targets_a1.other W4 (Or.inr (sn_cN0_targets_count hw)))
  have F_stored_a1_15 := (F_stored_a1.other W4 (Or.inr (sn_cN0_stored_count hw)))
  have F_admitted_a1_16 := (F_admitted_a1.other W4 (Or.inr (sn_cN0_admitted_count hw)))
  have F_waitingBytes_a1_17 := (F_waitingBytes_a1.other W4 (Or.inr (sn_cN0_waitingBytes_count hw)))
  obtain ⟨fs, hr, hrun, hended, hW, hsame⟩ := X4.leave (v := some (.int (1 : Int32))) (fun h => by rw [Bd.returns] at h; cases h)
  subst hA0
  refine ⟨_, _, K _ (retOut X4 hx Bd.returns rfl (Or.inl ⟨rfl, Or.inl rfl, _, rfl⟩) (hb hby d4_159) hr), hrun, hended, _, _, rfl, ?_, ⟨_, rfl⟩, hW, hsame.mono (by decide) (by decide)⟩
  show Q_next1 Z a1 ac ix bn ch ky mv tr fr tg sd k_ac va adm wb h0 n0 _ T4.heap _
  rw [e4]
  exact ⟨rfl, N4, Kp4, E_a1_5, F_actors_a1_6, F_indices_a1_7, F_branchNumbers_a1_8, F_chose_a1_9, F_keys_a1_10, F_moves_a1_11, F_transitions_a1_12, F_frames_a1_13, F_targets_a1_14, F_stored_a1_15, F_count_a1_4, F_admitted_a1_16, F_waitingBytes_a1_17⟩
def Q_next2 (Z : State) (a1 : Addr) (ac : Addr) (ix : Addr) (bn : Addr) (ch : Addr) (ky : Addr) (mv : Addr) (tr : Addr) (fr : Addr) (tg : Addr) (sd : Addr) (k_ac : ClassId) (va : List Value) (adm : Int32) (wb : Int64) (h0 : Heap) (n0 : Nat) (v : Option Value) (h : Heap) (L : List Loc) : Prop := v = some (.int (2 : Int32)) ∧ Fr n0 L ∧ Keep h0 h [a1] ∧ Exa Z h a1 cN0 ∧ Fld Z h a1 cN0 "actors" "[I" (.ref ac) ∧ Fld Z h a1 cN0 "indices" "[I" (.ref ix) ∧ Fld Z h a1 cN0 "branchNumbers" "[I" (.ref bn) ∧ Fld Z h a1 cN0 "chose" "[Z" (.ref ch) ∧ Fld Z h a1 cN0 "keys" "[[B" (.ref ky) ∧ Fld Z h a1 cN0 "moves" cN1 (.ref mv) ∧ Fld Z h a1 cN0 "transitions" cN2 (.ref tr) ∧ Fld Z h a1 cN0 "frames" "[J" (.ref fr) ∧ Fld Z h a1 cN0 "targets" "[I" (.ref tg) ∧ Fld Z h a1 cN0 "stored" "[Z" (.ref sd) ∧ Fld Z h a1 cN0 "count" "I" (.int (3 : Int32)) ∧ Fld Z h a1 cN0 "admitted" "I" (.int adm) ∧ Fld Z h a1 cN0 "waitingBytes" "J" (.long wb)
set_option maxRecDepth 65536 in
set_option maxHeartbeats 40000000 in
theorem rm_next2 (l : Launch) (Z : State) (a0 : Array Value) (hw : ∀ d ∈ tables_1, d.before a0 Z = true) (ws : List Jvm.Cond) (a1 : Addr) (ac : Addr) (ix : Addr) (bn : Addr) (ch : Addr) (ky : Addr) (mv : Addr) (tr : Addr) (fr : Addr) (tg : Addr) (sd : Addr) (k_ac : ClassId) (va : List Value) (adm : Int32) (wb : Int64) (h0 : Heap) (n0 : Nat) (Z0 : n0 ≤ h0.size) (E_a1 : Exa Z h0 a1 cN0) (F_actors_a1 : Fld Z h0 a1 cN0 "actors" "[I" (.ref ac)) (F_indices_a1 : Fld Z h0 a1 cN0 "indices" "[I" (.ref ix)) (F_branchNumbers_a1 : Fld Z h0 a1 cN0 "branchNumbers" "[I" (.ref bn)) (F_chose_a1 : Fld Z h0 a1 cN0 "chose" "[Z" (.ref ch)) (F_keys_a1 : Fld Z h0 a1 cN0 "keys" "[[B" (.ref ky)) (F_moves_a1 : Fld Z h0 a1 cN0 "moves" cN1 (.ref mv)) (F_transitions_a1 : Fld Z h0 a1 cN0 "transitions" cN2 (.ref tr)) (F_frames_a1 : Fld Z h0 a1 cN0 "frames" "[J" (.ref fr)) (F_targets_a1 : Fld Z h0 a1 cN0 "targets" "[I" (.ref tg)) (F_stored_a1 : Fld Z h0 a1 cN0 "stored" "[Z" (.ref sd)) (F_count_a1 : Fld Z h0 a1 cN0 "count" "I" (.int (2 : Int32))) (F_admitted_a1 : Fld Z h0 a1 cN0 "admitted" "I" (.int adm)) (F_waitingBytes_a1 : Fld Z h0 a1 cN0 "waitingBytes" "J" (.long wb)) (V_ac : OAr Z h0 ac k_ac .int va) (ne_a1_ac : a1 ≠ ac) (g_a1 : n0 ≤ a1) (hl : va.length.toInt32 = (16 : Int32)) :
    MetFree l mN1 (head1 (Jvm.Cond.code mN1 prog_108_method_21_code 2 (some .int) :: ws) ({ frames := 0, cells := 0, slots := 0, locals := 0 } : Room)) (fun a U => a = #[(.ref a1)] ∧ Z.Warmed39 U.vm ∧ U.heap = h0) (fun _ _ _ _ _ => True) (fun _ U o U' => ∃ v L, o = .returned v ∧ Q_next2 Z a1 ac ix bn ch ky mv tr fr tg sd k_ac va adm wb h0 n0 v U'.heap L ∧ FrameEnd U o U' L ({ frames := 0, cells := 0, slots := 0, locals := 0 } : Room).cells ({ frames := 0, cells := 0, slots := 0, locals := 0 } : Room).slots) := by
  refine MetFree.of_bodySF (plainFor_of_name pn_com_example_flote_flote_search_Reached) hisR ?_
  intro p e s m args below meth c s₁ Bd hml0 hP hK
  obtain ⟨rfl, hZ, hh⟩ := hP
  have hx := Bd.exec
  have hby := Bd.bytes
  have hml : c.maxLocals = 2 := hml0
  have hown : s.vm.findClass "com/example/flote/flote/search/Reached" = some m.cls := findClass_of_methodNamed Bd.named
  have hnm := (name_of_methodNamed Bd.named Bd.method).1
  have X0 : Stand p l e ({ frames := 0, cells := 0, slots := 0, locals := 0 } : Room) s m #[(.ref a1)] below meth c s₁ [] 0 0 := Stand.of_body Bd
  have e0 : s₁.heap = h0 := by rw [← hh, Bd.state]; rfl
  have N0 := Fr.nil n0
  obtain ⟨A0, hA0⟩ : ∃ z, z = s₁.setTop (entryFrame m #[(.ref a1)] 2) := ⟨_, rfl⟩
  have K : OGo p e below A0 s₁ (mkF m 0 #[rv a1, .unset] []) := fun t k => hA0 ▸ castTop (ef_4 m a1) k
  replace K : OGo p e below A0 s₁ (mkF m 1 #[rv a1, .unset] [(.ref a1)]) := fun t k => K t (XS.aloadN X0.here hx rfl (hb hby d4_0) rfl rfl k)
  obtain ⟨T1, X1, e1, st1⟩ := getF X0 hx hZ hown (host := "") (Or.inl (ow hw 48 rfl)) Via.refl e0 F_count_a1 (g := (mkF m 1 #[rv a1, .unset] [(.ref a1)])) rfl rfl (hb hby d4_1)
  replace K : OGo p e below A0 T1 (mkF m 4 #[rv a1, .unset] [(.int 2)]) := fun t k => K t (st1 t k)
  replace K : OGo p e below A0 T1 (mkF m 5 #[rv a1, .unset] [(.ref a1), (.int 2)]) := fun t k => K t (XS.aloadN X1.here hx rfl (hb hby d4_4) rfl rfl k)
  obtain ⟨T2, X2, e2, st2⟩ := getF X1 hx hZ hown (host := "") (Or.inl (ow hw 11 rfl)) Via.refl e1 F_actors_a1 (g := (mkF m 5 #[rv a1, .unset] [(.ref a1), (.int 2)])) rfl rfl (hb hby d4_5)
  replace K : OGo p e below A0 T2 (mkF m 8 #[rv a1, .unset] [(.ref ac), (.int 2)]) := fun t k => K t (st2 t k)
  replace K : OGo p e below A0 T2 (mkF m 9 #[rv a1, .unset] [(.int 16), (.int 2)]) := fun t k => K t (own_len X2 hx hZ e2 V_ac (n := (16 : Int32)) hl (g := (mkF m 8 #[rv a1, .unset] [(.ref ac), (.int 2)])) rfl rfl (hb hby d4_8) t k)
  replace K : OGo p e below A0 T2 (mkF m 148 #[rv a1, .unset] []) := fun t k => K t (XS.icmpYes X2.here hx rfl (pc0 := 9) (pc' := 148) rfl (hb hby d4_9) rfl (feq ((by decide : ¬ ((2 : Int32) = (16 : Int32))) : ¬ ((2 : Int32) = (16 : Int32)))).2 (by decide) (by decide) k)
  replace K : OGo p e below A0 T2 (mkF m 149 #[rv a1, .unset] [(.ref a1)]) := fun t k => K t (XS.aloadN X2.here hx rfl (hb hby d4_148) rfl rfl k)
  replace K : OGo p e below A0 T2 (mkF m 150 #[rv a1, .unset] [(.ref a1), (.ref a1)]) := fun t k => K t (XS.dup X2.here hx rfl (hb hby d4_149) rfl rfl k)
  obtain ⟨T3, X3, e3, st3⟩ := getF X2 hx hZ hown (host := "") (Or.inl (ow hw 48 rfl)) Via.refl e2 F_count_a1 (g := (mkF m 150 #[rv a1, .unset] [(.ref a1), (.ref a1)])) rfl rfl (hb hby d4_150)
  replace K : OGo p e below A0 T3 (mkF m 153 #[rv a1, .unset] [(.int 2), (.ref a1)]) := fun t k => K t (st3 t k)
  replace K : OGo p e below A0 T3 (mkF m 154 #[rv a1, .unset] [(.int 2), (.ref a1), (.int 2)]) := fun t k => K t (XS.dupX1 X3.here hx rfl (hb hby d4_153) rfl rfl rfl k)
  replace K : OGo p e below A0 T3 (mkF m 155 #[rv a1, .unset] [(.int 1), (.int 2), (.ref a1), (.int 2)]) := fun t k => K t (XS.iconst X3.here hx rfl (hb hby d4_154) k)
  replace K : OGo p e below A0 T3 (mkF m 156 #[rv a1, .unset] [(.int 3), (.ref a1), (.int 2)]) := fun t k => K t (XS.iadd X3.here hx rfl (hb hby d4_155) rfl k)
  obtain ⟨T4, h4, X4, e4, W4, st4⟩ := putF X3 hx hZ hown (host := "") (Or.inl (ow hw 48 rfl)) Via.refl e3 F_count_a1 E_a1 (Or.inl (ow hw 49 rfl)) (ow hw 2 rfl) (ty := .int) (by decide) rfl rfl (g := (mkF m 156 #[rv a1, .unset] [(.int 3), (.ref a1), (.int 2)])) rfl rfl (hb hby d4_156)
  have Z4 : n0 ≤ h4.size := Nat.le_trans Z0 (Keep.of_wr W4).1
  have Kp4 : Keep h0 h4 [a1] := (Keep.refl h0 [a1]).wr W4 (Or.inl (List.mem_of_getElem? (i := 0) rfl))
  have F_count_a1_4 := F_count_a1.same W4
  have N4 := Fr.snoc X4 N0 g_a1
  replace K : OGo p e below A0 T4 (mkF m 159 #[rv a1, .unset] [(.int 2)]) := fun t k => K t (st4 t k)
  have E_a1_5 := (E_a1.wr W4)
  have F_actors_a1_6 := (F_actors_a1.other W4 (Or.inr (sn_cN0_actors_count hw)))
  have F_indices_a1_7 := (F_indices_a1.other W4 (Or.inr (sn_cN0_indices_count hw)))
  have F_branchNumbers_a1_8 := (F_branchNumbers_a1.other W4 (Or.inr (sn_cN0_branchNumbers_count hw)))
  have F_chose_a1_9 := (F_chose_a1.other W4 (Or.inr (sn_cN0_chose_count hw)))
  have F_keys_a1_10 := (F_keys_a1.other W4 (Or.inr (sn_cN0_keys_count hw)))
  have F_moves_a1_11 := (F_moves_a1.other W4 (Or.inr (sn_cN0_moves_count hw)))
  have F_transitions_a1_12 := (F_transitions_a1.other W4 (Or.inr (sn_cN0_transitions_count hw)))
  have F_frames_a1_13 := (F_frames_a1.other W4 (Or.inr (sn_cN0_frames_count hw)))
  have F_targets_a1_14 := (F_targets_a1.other W4 (Or.inr (sn_cN0_targets_count hw)))
  have F_stored_a1_15 := (F_stored_a1.other W4 (Or.inr (sn_cN0_stored_count hw)))
  have F_admitted_a1_16 := (F_admitted_a1.other W4 (Or.inr (sn_cN0_admitted_count hw)))
  have F_waitingBytes_a1_17 := (F_waitingBytes_a1.other W4 (Or.inr (sn_cN0_waitingBytes_count hw)))
  obtain ⟨fs, hr, hrun, hended, hW, hsame⟩ := X4.leave (v := some (.int (2 : Int32))) (fun h => by rw [Bd.returns] at h; cases h)
  subst hA0
  refine ⟨_, _, K _ (retOut X4 hx Bd.returns rfl (Or.inl ⟨rfl, Or.inl rfl, _, rfl⟩) (hb hby d4_159) hr), hrun, hended, _, _, rfl, ?_, ⟨_, rfl⟩, hW, hsame.mono (by decide) (by decide)⟩
  show Q_next2 Z a1 ac ix bn ch ky mv tr fr tg sd k_ac va adm wb h0 n0 _ T4.heap _
  rw [e4]
  exact ⟨rfl, N4, Kp4, E_a1_5, F_actors_a1_6, F_indices_a1_7, F_branchNumbers_a1_8, F_chose_a1_9, F_keys_a1_10, F_moves_a1_11, F_transitions_a1_12, F_frames_a1_13, F_targets_a1_14, F_stored_a1_15, F_count_a1_4, F_admitted_a1_16, F_waitingBytes_a1_17⟩
theorem ef_3 (m : MethodId) (x0 : Addr) (x1 : Int32) (x2 : Int64) : entryFrame m #[(.ref x0), (.int x1), (.long x2)] 5 = mkF m 0 #[.val (.ref x0), .val (.int x1), .val (.long x2), .second, .unset] [] := by first | (simp [entryFrame, mkF, argsToLocals, Value.category]; done) | rfl
theorem d3_0 : decode prog_108_method_3_code 0 = .ok (.aload_n 0, 1) := by decide +kernel
theorem d3_1 : decode prog_108_method_3_code 1 = .ok (.invokevirtual 51, 3) := by decide +kernel
theorem pd___I : parseMethodDescriptor "()I" = some ⟨[], some .int⟩ := by decide +kernel
theorem d3_4 : decode prog_108_method_3_code 4 = .ok (.istore 4, 2) := by decide +kernel
theorem d3_6 : decode prog_108_method_3_code 6 = .ok (.aload_n 0, 1) := by decide +kernel
theorem d3_7 : decode prog_108_method_3_code 7 = .ok (.getfield 41, 3) := by decide +kernel
theorem d3_10 : decode prog_108_method_3_code 10 = .ok (.iload 4, 2) := by decide +kernel
theorem d3_12 : decode prog_108_method_3_code 12 = .ok (.lload_n 2, 1) := by decide +kernel
theorem d3_13 : decode prog_108_method_3_code 13 = .ok (.lastore, 1) := by decide +kernel
theorem d3_14 : decode prog_108_method_3_code 14 = .ok (.aload_n 0, 1) := by decide +kernel
theorem d3_15 : decode prog_108_method_3_code 15 = .ok (.getfield 45, 3) := by decide +kernel
theorem d3_18 : decode prog_108_method_3_code 18 = .ok (.iload 4, 2) := by decide +kernel
theorem d3_20 : decode prog_108_method_3_code 20 = .ok (.iload_n 1, 1) := by decide +kernel
theorem d3_21 : decode prog_108_method_3_code 21 = .ok (.iastore, 1) := by decide +kernel
theorem d3_22 : decode prog_108_method_3_code 22 = .ok (.aload_n 0, 1) := by decide +kernel
theorem d3_23 : decode prog_108_method_3_code 23 = .ok (.getfield 48, 3) := by decide +kernel
theorem d3_26 : decode prog_108_method_3_code 26 = .ok (.iload 4, 2) := by decide +kernel
theorem d3_28 : decode prog_108_method_3_code 28 = .ok (.iconst 0, 1) := by decide +kernel
theorem d3_29 : decode prog_108_method_3_code 29 = .ok (.bastore, 1) := by decide +kernel
theorem d3_30 : decode prog_108_method_3_code 30 = .ok (.aload_n 0, 1) := by decide +kernel
theorem d3_31 : decode prog_108_method_3_code 31 = .ok (.aload_n 0, 1) := by decide +kernel
theorem d3_32 : decode prog_108_method_3_code 32 = .ok (.getfield 59, 3) := by decide +kernel
theorem d3_35 : decode prog_108_method_3_code 35 = .ok (.putfield 63, 3) := by decide +kernel
theorem d3_38 : decode prog_108_method_3_code 38 = .ok (.return_, 1) := by decide +kernel
theorem sn_cN0_actors_admitted {a0 : Array Value} {Z : State} (hw : ∀ d ∈ tables_1, d.before a0 Z = true) : Jvm.RoadKit.slotOf Z cN0 "actors" "[I" ≠ Jvm.RoadKit.slotOf Z cN0 "admitted" "I" := slot_ne (Or.inl (ow hw 12 rfl)) (Or.inl (ow hw 51 rfl)) (by decide) (t := (.array .int)) (t' := .int) (by decide) (by decide)
theorem sn_cN0_indices_admitted {a0 : Array Value} {Z : State} (hw : ∀ d ∈ tables_1, d.before a0 Z = true) : Jvm.RoadKit.slotOf Z cN0 "indices" "[I" ≠ Jvm.RoadKit.slotOf Z cN0 "admitted" "I" := slot_ne (Or.inl (ow hw 14 rfl)) (Or.inl (ow hw 51 rfl)) (by decide) (t := (.array .int)) (t' := .int) (by decide) (by decide)
theorem sn_cN0_branchNumbers_admitted {a0 : Array Value} {Z : State} (hw : ∀ d ∈ tables_1, d.before a0 Z = true) : Jvm.RoadKit.slotOf Z cN0 "branchNumbers" "[I" ≠ Jvm.RoadKit.slotOf Z cN0 "admitted" "I" := slot_ne (Or.inl (ow hw 16 rfl)) (Or.inl (ow hw 51 rfl)) (by decide) (t := (.array .int)) (t' := .int) (by decide) (by decide)
theorem sn_cN0_chose_admitted {a0 : Array Value} {Z : State} (hw : ∀ d ∈ tables_1, d.before a0 Z = true) : Jvm.RoadKit.slotOf Z cN0 "chose" "[Z" ≠ Jvm.RoadKit.slotOf Z cN0 "admitted" "I" := slot_ne (Or.inl (ow hw 19 rfl)) (Or.inl (ow hw 51 rfl)) (by decide) (t := (.array .boolean)) (t' := .int) (by decide) (by decide)
theorem sn_cN0_keys_admitted {a0 : Array Value} {Z : State} (hw : ∀ d ∈ tables_1, d.before a0 Z = true) : Jvm.RoadKit.slotOf Z cN0 "keys" "[[B" ≠ Jvm.RoadKit.slotOf Z cN0 "admitted" "I" := slot_ne (Or.inl (ow hw 23 rfl)) (Or.inl (ow hw 51 rfl)) (by decide) (t := (.array (.array .byte))) (t' := .int) (by decide) (by decide)
theorem sn_cN0_moves_admitted {a0 : Array Value} {Z : State} (hw : ∀ d ∈ tables_1, d.before a0 Z = true) : Jvm.RoadKit.slotOf Z cN0 "moves" cN1 ≠ Jvm.RoadKit.slotOf Z cN0 "admitted" "I" := slot_ne (Or.inl (ow hw 27 rfl)) (Or.inl (ow hw 51 rfl)) (by decide) (t := (.array (.object "com/example/flote/flote/search/Search$Moves"))) (t' := .int) (by decide) (by decide)
theorem sn_cN0_transitions_admitted {a0 : Array Value} {Z : State} (hw : ∀ d ∈ tables_1, d.before a0 Z = true) : Jvm.RoadKit.slotOf Z cN0 "transitions" cN2 ≠ Jvm.RoadKit.slotOf Z cN0 "admitted" "I" := slot_ne (Or.inl (ow hw 31 rfl)) (Or.inl (ow hw 51 rfl)) (by decide) (t := (.array (.object "com/example/flote/flote/search/Search$Branches"))) (t' := .int) (by decide) (by decide)
theorem sn_cN0_frames_admitted {a0 : Array Value} {Z : State} (hw : ∀ d ∈ tables_1, d.before a0 Z = true) : Jvm.RoadKit.slotOf Z cN0 "frames" "[J" ≠ Jvm.RoadKit.slotOf Z cN0 "admitted" "I" := slot_ne (Or.inl (ow hw 34 rfl)) (Or.inl (ow hw 51 rfl)) (by decide) (t := (.array .long)) (t' := .int) (by decide) (by decide)
theorem sn_cN0_targets_admitted {a0 : Array Value} {Z : State} (hw : ∀ d ∈ tables_1, d.before a0 Z = true) : Jvm.RoadKit.slotOf Z cN0 "targets" "[I" ≠ Jvm.RoadKit.slotOf Z cN0 "admitted" "I" := slot_ne (Or.inl (ow hw 36 rfl)) (Or.inl (ow hw 51 rfl)) (by decide) (t := (.array .int)) (t' := .int) (by decide) (by decide)
theorem sn_cN0_stored_admitted {a0 : Array Value} {Z : State} (hw : ∀ d ∈ tables_1, d.before a0 Z = true) : Jvm.RoadKit.slotOf Z cN0 "stored" "[Z" ≠ Jvm.RoadKit.slotOf Z cN0 "admitted" "I" := slot_ne (Or.inl (ow hw 38 rfl)) (Or.inl (ow hw 51 rfl)) (by decide) (t := (.array .boolean)) (t' := .int) (by decide) (by decide)
theorem sn_cN0_count_admitted {a0 : Array Value} {Z : State} (hw : ∀ d ∈ tables_1, d.before a0 Z = true) : Jvm.RoadKit.slotOf Z cN0 "count" "I" ≠ Jvm.RoadKit.slotOf Z cN0 "admitted" "I" := slot_ne (Or.inl (ow hw 49 rfl)) (Or.inl (ow hw 51 rfl)) (by decide) (t := .int) (t' := .int) (by decide) (by decide)
theorem sn_cN0_waitingBytes_admitted {a0 : Array Value} {Z : State} (hw : ∀ d ∈ tables_1, d.before a0 Z = true) : Jvm.RoadKit.slotOf Z cN0 "waitingBytes" "J" ≠ Jvm.RoadKit.slotOf Z cN0 "admitted" "I" := slot_ne (Or.inl (ow hw 60 rfl)) (Or.inl (ow hw 51 rfl)) (by decide) (t := .long) (t' := .int) (by decide) (by decide)
def Q_addAdm (Z : State) (a1 : Addr) (p1 : Int32) (q1 : Int64) (ac : Addr) (ix : Addr) (bn : Addr) (ch : Addr) (ky : Addr) (mv : Addr) (tr : Addr) (fr : Addr) (tg : Addr) (sd : Addr) (k_ac : ClassId) (k_fr : ClassId) (k_tg : ClassId) (k_sd : ClassId) (ac0 : Value) (ac1 : Value) (ac2 : Value) (fr0 : Value) (fr1 : Value) (fr2 : Value) (tg0 : Value) (tg1 : Value) (tg2 : Value) (sd0 : Value) (sd1 : Value) (sd2 : Value) (wb : Int64) (h0 : Heap) (n0 : Nat) (v : Option Value) (h : Heap) (L : List Loc) : Prop := v = none ∧ Fr n0 L ∧ Keep h0 h [a1, fr, tg, sd] ∧ Exa Z h a1 cN0 ∧ Fld Z h a1 cN0 "actors" "[I" (.ref ac) ∧ Fld Z h a1 cN0 "indices" "[I" (.ref ix) ∧ Fld Z h a1 cN0 "branchNumbers" "[I" (.ref bn) ∧ Fld Z h a1 cN0 "chose" "[Z" (.ref ch) ∧ Fld Z h a1 cN0 "keys" "[[B" (.ref ky) ∧ Fld Z h a1 cN0 "moves" cN1 (.ref mv) ∧ Fld Z h a1 cN0 "transitions" cN2 (.ref tr) ∧ Fld Z h a1 cN0 "frames" "[J" (.ref fr) ∧ Fld Z h a1 cN0 "targets" "[I" (.ref tg) ∧ Fld Z h a1 cN0 "stored" "[Z" (.ref sd) ∧ Fld Z h a1 cN0 "count" "I" (.int (1 : Int32)) ∧ Fld Z h a1 cN0 "admitted" "I" (.int (1 : Int32)) ∧ Fld Z h a1 cN0 "waitingBytes" "J" (.long wb) ∧ OAr Z h fr k_fr .long (oV (.long q1) fr1 fr2 (.long (0 : Int64))) ∧ OAr Z h tg k_tg .int (oV (.int p1) tg1 tg2 (.int (0 : Int32))) ∧ OAr Z h sd k_sd .boolean (oV (.int (0 : Int32)) sd1 sd2 (.int (0 : Int32)))
set_option maxRecDepth 65536 in
set_option maxHeartbeats 40000000 in
theorem rm_addAdm (l : Launch) (Z : State) (a0 : Array Value) (hw : ∀ d ∈ tables_1, d.before a0 Z = true) (ws : List Jvm.Cond) (a1 : Addr) (p1 : Int32) (q1 : Int64) (ac : Addr) (ix : Addr) (bn : Addr) (ch : Addr) (ky : Addr) (mv : Addr) (tr : Addr) (fr : Addr) (tg : Addr) (sd : Addr) (k_ac : ClassId) (k_fr : ClassId) (k_tg : ClassId) (k_sd : ClassId) (ac0 : Value) (ac1 : Value) (ac2 : Value) (fr0 : Value) (fr1 : Value) (fr2 : Value) (tg0 : Value) (tg1 : Value) (tg2 : Value) (sd0 : Value) (sd1 : Value) (sd2 : Value) (wb : Int64) (h0 : Heap) (n0 : Nat) (Z0 : n0 ≤ h0.size) (E_a1 : Exa Z h0 a1 cN0) (F_actors_a1 : Fld Z h0 a1 cN0 "actors" "[I" (.ref ac)) (F_indices_a1 : Fld Z h0 a1 cN0 "indices" "[I" (.ref ix)) (F_branchNumbers_a1 : Fld Z h0 a1 cN0 "branchNumbers" "[I" (.ref bn)) (F_chose_a1 : Fld Z h0 a1 cN0 "chose" "[Z" (.ref ch)) (F_keys_a1 : Fld Z h0 a1 cN0 "keys" "[[B" (.ref ky)) (F_moves_a1 : Fld Z h0 a1 cN0 "moves" cN1 (.ref mv)) (F_transitions_a1 : Fld Z h0 a1 cN0 "transitions" cN2 (.ref tr)) (F_frames_a1 : Fld Z h0 a1 cN0 "frames" "[J" (.ref fr)) (F_targets_a1 : Fld Z h0 a1 cN0 "targets" "[I" (.ref tg)) (F_stored_a1 : Fld Z h0 a1 cN0 "stored" "[Z" (.ref sd)) (F_count_a1 : Fld Z h0 a1 cN0 "count" "I" (.int (0 : Int32))) (F_admitted_a1 : Fld Z h0 a1 cN0 "admitted" "I" (.int (0 : Int32))) (F_waitingBytes_a1 : Fld Z h0 a1 cN0 "waitingBytes" "J" (.long wb)) (V_ac : OAr Z h0 ac k_ac .int (oV ac0 ac1 ac2 (.int (0 : Int32)))) (V_fr : OAr Z h0 fr k_fr .long (oV fr0 fr1 fr2 (.long (0 : Int64)))) (V_tg : OAr Z h0 tg k_tg .int (oV tg0 tg1 tg2 (.int (0 : Int32)))) (V_sd : OAr Z h0 sd k_sd .boolean (oV sd0 sd1 sd2 (.int (0 : Int32)))) (g_a1 : n0 ≤ a1) (g_fr : n0 ≤ fr) (g_tg : n0 ≤ tg) (g_sd : n0 ≤ sd) (nd0 : OND [a1, ac, ix, bn, ch, ky, mv, tr, fr, tg, sd]) :
    MetFree l mN2 (head1 (Jvm.Cond.code mN2 prog_108_method_3_code 5 none :: ws) ({ frames := 1, cells := 0, slots := 0, locals := 13 } : Room)) (fun a U => a = #[(.ref a1), (.int p1), (.long q1)] ∧ Z.Warmed39 U.vm ∧ U.heap = h0) (fun _ _ _ _ _ => True) (fun _ U o U' => ∃ v L, o = .returned v ∧ Q_addAdm Z a1 p1 q1 ac ix bn ch ky mv tr fr tg sd k_ac k_fr k_tg k_sd ac0 ac1 ac2 fr0 fr1 fr2 tg0 tg1 tg2 sd0 sd1 sd2 wb h0 n0 v U'.heap L ∧ FrameEnd U o U' L ({ frames := 1, cells := 0, slots := 0, locals := 13 } : Room).cells ({ frames := 1, cells := 0, slots := 0, locals := 13 } : Room).slots) := by
  refine MetFree.of_bodySF (plainFor_of_name pn_com_example_flote_flote_search_Reached) hisR ?_
  intro p e s m args below meth c s₁ Bd hml0 hP hK
  obtain ⟨rfl, hZ, hh⟩ := hP
  have hx := Bd.exec
  have hby := Bd.bytes
  have hml : c.maxLocals = 5 := hml0
  have hown : s.vm.findClass "com/example/flote/flote/search/Reached" = some m.cls := findClass_of_methodNamed Bd.named
  have hnm := (name_of_methodNamed Bd.named Bd.method).1
  have X0 : Stand p l e ({ frames := 1, cells := 0, slots := 0, locals := 13 } : Room) s m #[(.ref a1), (.int p1), (.long q1)] below meth c s₁ [] 0 0 := Stand.of_body Bd
  have e0 : s₁.heap = h0 := by rw [← hh, Bd.state]; rfl
  have N0 := Fr.nil n0
  obtain ⟨A0, hA0⟩ : ∃ z, z = s₁.setTop (entryFrame m #[(.ref a1), (.int p1), (.long q1)] 5) := ⟨_, rfl⟩
  have K : OGo p e below A0 s₁ (mkF m 0 #[rv a1, iv p1, .val (.long q1), .second, .unset] []) := fun t k => hA0 ▸ castTop (ef_3 m a1 p1 q1) k
  replace K : OGo p e below A0 s₁ (mkF m 1 #[rv a1, iv p1, .val (.long q1), .second, .unset] [(.ref a1)]) := fun t k => K t (XS.aloadN X0.here hx rfl (hb hby d3_0) rfl rfl k)
  obtain ⟨cq1, qp1, qp1'⟩ := E_a1.cell
  obtain ⟨_, _, ⟨T1, L1, k1, n1⟩, -, X1, ⟨Lc1, hQ1, l1, y1, z1⟩, st1⟩ := X0.privateBack hx (y := mN1) hown (mvT hZ (ow hw 44 rfl)) (mvT hZ (ow hw 45 rfl)) (own_selp hZ (ow hw 2 rfl) (ow hw 46 rfl) (ow hw 45 rfl)) (Cond.privateMethod_at (mvP hZ (ow hw 46 rfl) (args := #[]))) (mvT hZ (ow hw 47 rfl)) (by decide) (backOf (W := 0) (rm_next0 l Z a0 hw [] a1 ac ix bn ch ky mv tr fr tg sd k_ac [ac0, ac1, ac2, (.int (0 : Int32)), (.int (0 : Int32)), (.int (0 : Int32)), (.int (0 : Int32)), (.int (0 : Int32)), (.int (0 : Int32)), (.int (0 : Int32)), (.int (0 : Int32)), (.int (0 : Int32)), (.int (0 : Int32)), (.int (0 : Int32)), (.int (0 : Int32)), (.int (0 : Int32))] (0 : Int32) wb h0 n0 Z0 E_a1 F_actors_a1 F_indices_a1 F_branchNumbers_a1 F_chose_a1 F_keys_a1 F_moves_a1 F_transitions_a1 F_frames_a1 F_targets_a1 F_stored_a1 F_count_a1 F_admitted_a1 F_waitingBytes_a1 V_ac (own_pw nd0 0 1 (by decide) rfl rfl) g_a1 rfl) hZ (ow hw 47 rfl) (ow hw 3 rfl) (by decide) (by decide)) (g := (mkF m 1 #[rv a1, iv p1, .val (.long q1), .second, .unset] [(.ref a1)])) rfl (by rw [hml]; rfl) (Steps.refl _) (a := a1) (by rw [e0]; exact qp1) qp1' (argsL := []) (rest := []) (lenOf pd___I rfl) rfl (by show 2 * 0 + _ ≤ _; exact Nat.le_of_eq rfl) (hb hby d3_1) (fun _ _ => ⟨rfl, e0, (by decide : 0 + 0 ≤ _), (by decide : 0 + 0 ≤ _)⟩)
  dsimp only [Pt.U, Pt.locs, Pt.cells, Pt.slots] at X1 l1 y1 z1 st1 hQ1
  subst l1 y1 z1
  obtain ⟨hp1, e1⟩ : ∃ z, T1.heap = z := ⟨_, rfl⟩
  rw [e1] at hQ1
  obtain ⟨rfl, Nq1, K1, P1_0, P1_1, P1_2, P1_3, P1_4, P1_5, P1_6, P1_7, P1_8, P1_9, P1_10, P1_11, P1_12, P1_13⟩ := hQ1
  have Z1 : n0 ≤ hp1.size := Nat.le_trans Z0 K1.1
  have Kp1 : Keep h0 hp1 [a1, fr, tg, sd] := (Keep.refl h0 [a1, fr, tg, sd]).trans K1 (allS (Or.inl (List.mem_of_getElem? (i := 0) rfl)) all0)
  have N1 := Fr.app N0 Nq1
  replace K : OGo p e below A0 T1 (mkF m 4 #[rv a1, iv p1, .val (.long q1), .second, .unset] [(.int 0)]) := fun t k => K t (st1.trans k)
  replace K : OGo p e below A0 T1 (mkF m 6 #[rv a1, iv p1, .val (.long q1), .second, iv 0] []) := fun t k => K t (XS.istore X1.here hx rfl (hb hby d3_4) rfl (l' := #[rv a1, iv p1, .val (.long q1), .second, iv 0]) rfl k)
  replace K : OGo p e below A0 T1 (mkF m 7 #[rv a1, iv p1, .val (.long q1), .second, iv 0] [(.ref a1)]) := fun t k => K t (XS.aloadN X1.here hx rfl (hb hby d3_6) rfl rfl k)
  obtain ⟨T2, X2, e2, st2⟩ := getF X1 hx hZ hown (host := "") (Or.inl (ow hw 33 rfl)) Via.refl e1 P1_8 (g := (mkF m 7 #[rv a1, iv p1, .val (.long q1), .second, iv 0] [(.ref a1)])) rfl rfl (hb hby d3_7)
  replace K : OGo p e below A0 T2 (mkF m 10 #[rv a1, iv p1, .val (.long q1), .second, iv 0] [(.ref fr)]) := fun t k => K t (st2 t k)
  replace K : OGo p e below A0 T2 (mkF m 12 #[rv a1, iv p1, .val (.long q1), .second, iv 0] [(.int 0), (.ref fr)]) := fun t k => K t (XS.iload X2.here hx rfl (hb hby d3_10) rfl k)
  replace K : OGo p e below A0 T2 (mkF m 13 #[rv a1, iv p1, .val (.long q1), .second, iv 0] [(.long q1), (.int 0), (.ref fr)]) := fun t k => K t (XS.lloadN X2.here hx rfl (hb hby d3_12) rfl k)
  have V_fr_3 := (V_fr.keep K1 (ninS (Ne.symm (own_pw nd0 0 8 (by decide) rfl rfl)) nin0))
  obtain ⟨T4, h4, X4, e4, W4, V4, st4⟩ := own_stJ X2 hx hZ e2 V_fr_3 (j := (0 : Int32)) (by decide) (Nat.le_of_ble_eq_true rfl) (g := (mkF m 13 #[rv a1, iv p1, .val (.long q1), .second, iv 0] [(.long q1), (.int 0), (.ref fr)])) rfl rfl (hb hby d3_13)
  have Z4 : n0 ≤ h4.size := Nat.le_trans Z1 (Keep.of_wr W4).1
  have Kp4 : Keep h0 h4 [a1, fr, tg, sd] := Kp1.wr W4 (Or.inl (List.mem_of_getElem? (i := 1) rfl))
  have V_fr_4 : OAr Z h4 fr k_fr .long (oV (.long q1) fr1 fr2 (.long (0 : Int64))) := V4
  have N4 := Fr.snoc X4 N1 g_fr
  replace K : OGo p e below A0 T4 (mkF m 14 #[rv a1, iv p1, .val (.long q1), .second, iv 0] []) := fun t k => K t (st4 t k)
  replace K : OGo p e below A0 T4 (mkF m 15 #[rv a1, iv p1, .val (.long q1), .second, iv 0] [(.ref a1)]) := fun t k => K t (XS.aloadN X4.here hx rfl (hb hby d3_14) rfl rfl k)
  have F_targets_a1_5 := (P1_9.other W4 (Or.inl (own_pw nd0 0 8 (by decide) rfl rfl)))
  obtain ⟨T6, X6, e6, st6⟩ := getF X4 hx hZ hown (host := "") (Or.inl (ow hw 35 rfl)) Via.refl e4 F_targets_a1_5 (g := (mkF m 15 #[rv a1, iv p1, .val (.long q1), .second, iv 0] [(.ref a1)])) rfl rfl (hb hby d3_15)
  replace K : OGo p e below A0 T6 (mkF m 18 #[rv a1, iv p1, .val (.long q1), .second, iv 0] [(.ref tg)]) := fun t k => K t (st6 t k)
  replace K : OGo p e below A0 T6 (mkF m 20 #[rv a1, iv p1, .val (.long q1), .second, iv 0] [(.int 0), (.ref tg)]) := fun t k => K t (XS.iload X6.here hx rfl (hb hby d3_18) rfl k)
  replace K : OGo p e below A0 T6 (mkF m 21 #[rv a1, iv p1, .val (.long q1), .second, iv 0] [(.int p1), (.int 0), (.ref tg)]) := fun t k => K t (XS.iloadN X6.here hx rfl (hb hby d3_20) rfl k)
  have V_tg_7 := ((V_tg.keep K1 (ninS (Ne.symm (own_pw nd0 0 9 (by decide) rfl rfl)) nin0)).other W4 (Ne.symm (own_pw nd0 8 9 (by decide) rfl rfl)))
  obtain ⟨T8, h8, X8, e8, W8, V8, st8⟩ := own_stI X6 hx hZ e6 V_tg_7 (j := (0 : Int32)) (by decide) (Nat.le_of_ble_eq_true rfl) (g := (mkF m 21 #[rv a1, iv p1, .val (.long q1), .second, iv 0] [(.int p1), (.int 0), (.ref tg)])) rfl rfl (hb hby d3_21)
  have Z8 : n0 ≤ h8.size := Nat.le_trans Z4 (Keep.of_wr W8).1
  have Kp8 : Keep h0 h8 [a1, fr, tg, sd] := Kp4.wr W8 (Or.inl (List.mem_of_getElem? (i := 2) rfl))
  have V_tg_8 : OAr Z h8 tg k_tg .int (oV (.int p1) tg1 tg2 (.int (0 : Int32))) := V8
  have N8 := Fr.snoc X8 N4 g_tg
  replace K : OGo p e below A0 T8 (mkF m 22 #[rv a1, iv p1, .val (.long q1), .second, iv 0] []) := fun t k => K t (st8 t k)
  replace K : OGo p e below A0 T8 (mkF m 23 #[rv a1, iv p1, .val (.long q1), .second, iv 0] [(.ref a1)]) := fun t k => K t (XS.aloadN X8.here hx rfl (hb hby d3_22) rfl rfl k)
  have F_stored_a1_9 := ((P1_10.other W4 (Or.inl (own_pw nd0 0 8 (by decide) rfl rfl))).other W8 (Or.inl (own_pw nd0 0 9 (by decide) rfl rfl)))
  obtain ⟨T10, X10, e10, st10⟩ := getF X8 hx hZ hown (host := "") (Or.inl (ow hw 37 rfl)) Via.refl e8 F_stored_a1_9 (g := (mkF m 23 #[rv a1, iv p1, .val (.long q1), .second, iv 0] [(.ref a1)])) rfl rfl (hb hby d3_23)
  replace K : OGo p e below A0 T10 (mkF m 26 #[rv a1, iv p1, .val (.long q1), .second, iv 0] [(.ref sd)]) := fun t k => K t (st10 t k)
  replace K : OGo p e below A0 T10 (mkF m 28 #[rv a1, iv p1, .val (.long q1), .second, iv 0] [(.int 0), (.ref sd)]) := fun t k => K t (XS.iload X10.here hx rfl (hb hby d3_26) rfl k)
  replace K : OGo p e below A0 T10 (mkF m 29 #[rv a1, iv p1, .val (.long q1), .second, iv 0] [(.int 0), (.int 0), (.ref sd)]) := fun t k => K t (XS.iconst X10.here hx rfl (hb hby d3_28) k)
  have V_sd_11 := (((V_sd.keep K1 (ninS (Ne.symm (own_pw nd0 0 10 (by decide) rfl rfl)) nin0)).other W4 (Ne.symm (own_pw nd0 8 10 (by decide) rfl rfl))).other W8 (Ne.symm (own_pw nd0 9 10 (by decide) rfl rfl)))
  obtain ⟨T12, h12, X12, e12, W12, V12, st12⟩ := own_stZ X10 hx hZ e10 V_sd_11 (j := (0 : Int32)) (by decide) (Nat.le_of_ble_eq_true rfl) (g := (mkF m 29 #[rv a1, iv p1, .val (.long q1), .second, iv 0] [(.int 0), (.int 0), (.ref sd)])) rfl rfl (hb hby d3_29)
  have Z12 : n0 ≤ h12.size := Nat.le_trans Z8 (Keep.of_wr W12).1
  have Kp12 : Keep h0 h12 [a1, fr, tg, sd] := Kp8.wr W12 (Or.inl (List.mem_of_getElem? (i := 3) rfl))
  have V_sd_12 : OAr Z h12 sd k_sd .boolean (oV (.int (0 : Int32)) sd1 sd2 (.int (0 : Int32))) := V12
  have N12 := Fr.snoc X12 N8 g_sd
  replace K : OGo p e below A0 T12 (mkF m 30 #[rv a1, iv p1, .val (.long q1), .second, iv 0] []) := fun t k => K t (st12 t k)
  replace K : OGo p e below A0 T12 (mkF m 31 #[rv a1, iv p1, .val (.long q1), .second, iv 0] [(.ref a1)]) := fun t k => K t (XS.aloadN X12.here hx rfl (hb hby d3_30) rfl rfl k)
  replace K : OGo p e below A0 T12 (mkF m 32 #[rv a1, iv p1, .val (.long q1), .second, iv 0] [(.ref a1), (.ref a1)]) := fun t k => K t (XS.aloadN X12.here hx rfl (hb hby d3_31) rfl rfl k)
  have F_count_a1_13 := (((P1_11.other W4 (Or.inl (own_pw nd0 0 8 (by decide) rfl rfl))).other W8 (Or.inl (own_pw nd0 0 9 (by decide) rfl rfl))).other W12 (Or.inl (own_pw nd0 0 10 (by decide) rfl rfl)))
  obtain ⟨T14, X14, e14, st14⟩ := getF X12 hx hZ hown (host := "") (Or.inl (ow hw 48 rfl)) Via.refl e12 F_count_a1_13 (g := (mkF m 32 #[rv a1, iv p1, .val (.long q1), .second, iv 0] [(.ref a1), (.ref a1)])) rfl rfl (hb hby d3_32)
  replace K : OGo p e below A0 T14 (mkF m 35 #[rv a1, iv p1, .val (.long q1), .second, iv 0] [(.int 1), (.ref a1)]) := fun t k => K t (st14 t k)
  have F_admitted_a1_15 := (((P1_12.other W4 (Or.inl (own_pw nd0 0 8 (by decide) rfl rfl))).other W8 (Or.inl (own_pw nd0 0 9 (by decide) rfl rfl))).other W12 (Or.inl (own_pw nd0 0 10 (by decide) rfl rfl)))
  have E_a1_16 := (((P1_0.wr W4).wr W8).wr W12)
  obtain ⟨T17, h17, X17, e17, W17, st17⟩ := putF X14 hx hZ hown (host := "") (Or.inl (ow hw 50 rfl)) Via.refl e14 F_admitted_a1_15 E_a1_16 (Or.inl (ow hw 51 rfl)) (ow hw 2 rfl) (ty := .int) (by decide) rfl rfl (g := (mkF m 35 #[rv a1, iv p1, .val (.long q1), .second, iv 0] [(.int 1), (.ref a1)])) rfl rfl (hb hby d3_35)
  have Z17 : n0 ≤ h17.size := Nat.le_trans Z12 (Keep.of_wr W17).1
  have Kp17 : Keep h0 h17 [a1, fr, tg, sd] := Kp12.wr W17 (Or.inl (List.mem_of_getElem? (i := 0) rfl))
  have F_admitted_a1_17 := F_admitted_a1_15.same W17
  have N17 := Fr.snoc X17 N12 g_a1
  replace K : OGo p e below A0 T17 (mkF m 38 #[rv a1, iv p1, .val (.long q1), .second, iv 0] []) := fun t k => K t (st17 t k)
  have E_a1_18 := (E_a1_16.wr W17)
  have F_actors_a1_19 := ((((P1_1.other W4 (Or.inl (own_pw nd0 0 8 (by decide) rfl rfl))).other W8 (Or.inl (own_pw nd0 0 9 (by decide) rfl rfl))).other W12 (Or.inl (own_pw nd0 0 10 (by decide) rfl rfl))).other W17 (Or.inr (sn_cN0_actors_admitted hw)))
  have F_indices_a1_20 := ((((P1_2.other W4 (Or.inl (own_pw nd0 0 8 (by decide) rfl rfl))).other W8 (Or.inl (own_pw nd0 0 9 (by decide) rfl rfl))).other W12 (Or.inl (own_pw nd0 0 10 (by decide) rfl rfl))).other W17 (Or.inr (sn_cN0_indices_admitted hw)))
  have F_branchNumbers_a1_21 := ((((P1_3.other W4 (Or.inl (own_pw nd0 0 8 (by decide) rfl rfl))).other W8 (Or.inl (own_pw nd0 0 9 (by decide) rfl rfl))).other W12 (Or.inl (own_pw nd0 0 10 (by decide) rfl rfl))).other W17 (Or.inr (sn_cN0_branchNumbers_admitted hw)))
  have F_chose_a1_22 := ((((P1_4.other W4 (Or.inl (own_pw nd0 0 8 (by decide) rfl rfl))).other W8 (Or.inl (own_pw nd0 0 9 (by decide) rfl rfl))).other W12 (Or.inl (own_pw nd0 0 10 (by decide) rfl rfl))).other W17 (Or.inr (sn_cN0_chose_admitted hw)))
  have F_keys_a1_23 := ((((P1_5.other W4 (Or.inl (own_pw nd0 0 8 (by decide) rfl rfl))).other W8 (Or.inl (own_pw nd0 0 9 (by decide) rfl rfl))).other W12 (Or.inl (own_pw nd0 0 10 (by decide) rfl rfl))).other W17 (Or.inr (sn_cN0_keys_admitted hw)))
  have F_moves_a1_24 := ((((P1_6.other W4 (Or.inl (own_pw nd0 0 8 (by decide) rfl rfl))).other W8 (Or.inl (own_pw nd0 0 9 (by decide) rfl rfl))).other W12 (Or.inl (own_pw nd0 0 10 (by decide) rfl rfl))).other W17 (Or.inr (sn_cN0_moves_admitted hw)))
  have F_transitions_a1_25 := ((((P1_7.other W4 (Or.inl (own_pw nd0 0 8 (by decide) rfl rfl))).other W8 (Or.inl (own_pw nd0 0 9 (by decide) rfl rfl))).other W12 (Or.inl (own_pw nd0 0 10 (by decide) rfl rfl))).other W17 (Or.inr (sn_cN0_transitions_admitted hw)))
  have F_frames_a1_26 := ((((P1_8.other W4 (Or.inl (own_pw nd0 0 8 (by decide) rfl rfl))).other W8 (Or.inl (own_pw nd0 0 9 (by decide) rfl rfl))).other W12 (Or.inl (own_pw nd0 0 10 (by decide) rfl rfl))).other W17 (Or.inr (sn_cN0_frames_admitted hw)))
  have F_targets_a1_27 := (((F_targets_a1_5.other W8 (Or.inl (own_pw nd0 0 9 (by decide) rfl rfl))).other W12 (Or.inl (own_pw nd0 0 10 (by decide) rfl rfl))).other W17 (Or.inr (sn_cN0_targets_admitted hw)))
  have F_stored_a1_28 := ((F_stored_a1_9.other W12 (Or.inl (own_pw nd0 0 10 (by decide) rfl rfl))).other W17 (Or.inr (sn_cN0_stored_admitted hw)))
  have F_count_a1_29 := (F_count_a1_13.other W17 (Or.inr (sn_cN0_count_admitted hw)))
  have F_waitingBytes_a1_30 := ((((P1_13.other W4 (Or.inl (own_pw nd0 0 8 (by decide) rfl rfl))).other W8 (Or.inl (own_pw nd0 0 9 (by decide) rfl rfl))).other W12 (Or.inl (own_pw nd0 0 10 (by decide) rfl rfl))).other W17 (Or.inr (sn_cN0_waitingBytes_admitted hw)))
  have V_fr_31 := (((V_fr_4.other W8 (own_pw nd0 8 9 (by decide) rfl rfl)).other W12 (own_pw nd0 8 10 (by decide) rfl rfl)).other W17 (Ne.symm (own_pw nd0 0 8 (by decide) rfl rfl)))
  have V_tg_32 := ((V_tg_8.other W12 (own_pw nd0 9 10 (by decide) rfl rfl)).other W17 (Ne.symm (own_pw nd0 0 9 (by decide) rfl rfl)))
  have V_sd_33 := (V_sd_12.other W17 (Ne.symm (own_pw nd0 0 10 (by decide) rfl rfl)))
  obtain ⟨fs, hr, hrun, hended, hW, hsame⟩ := X17.leave (v := none) (fun _ => rfl)
  subst hA0
  refine ⟨_, _, K _ (X17.returnOut hx Bd.returns (hb hby d3_38) hr), hrun, hended, _, _, rfl, ?_, ⟨_, rfl⟩, hW, hsame.mono (by decide) (by decide)⟩
  show Q_addAdm Z a1 p1 q1 ac ix bn ch ky mv tr fr tg sd k_ac k_fr k_tg k_sd ac0 ac1 ac2 fr0 fr1 fr2 tg0 tg1 tg2 sd0 sd1 sd2 wb h0 n0 _ T17.heap _
  rw [e17]
  exact ⟨rfl, N17, Kp17, E_a1_18, F_actors_a1_19, F_indices_a1_20, F_branchNumbers_a1_21, F_chose_a1_22, F_keys_a1_23, F_moves_a1_24, F_transitions_a1_25, F_frames_a1_26, F_targets_a1_27, F_stored_a1_28, F_count_a1_29, F_admitted_a1_17, F_waitingBytes_a1_30, V_fr_31, V_tg_32, V_sd_33⟩
theorem ef_5_n6_8 (m : MethodId) (x0 : Addr) (x1 : Int32) (x2 : Int32) (x3 : Int32) (x4 : Int32) (x5 : Addr) (x7 : Int64) : entryFrame m #[(.ref x0), (.int x1), (.int x2), (.int x3), (.int x4), (.ref x5), .null, (.long x7), .null] 11 = mkF m 0 #[.val (.ref x0), .val (.int x1), .val (.int x2), .val (.int x3), .val (.int x4), .val (.ref x5), .val .null, .val (.long x7), .second, .val .null, .unset] [] := by first | (simp [entryFrame, mkF, argsToLocals, Value.category]; done) | rfl
theorem d5_0 : decode prog_108_method_2_code 0 = .ok (.aload_n 0, 1) := by decide +kernel
theorem d5_1 : decode prog_108_method_2_code 1 = .ok (.invokevirtual 51, 3) := by decide +kernel
theorem d5_4 : decode prog_108_method_2_code 4 = .ok (.istore 10, 2) := by decide +kernel
theorem d5_6 : decode prog_108_method_2_code 6 = .ok (.aload_n 0, 1) := by decide +kernel
theorem d5_7 : decode prog_108_method_2_code 7 = .ok (.getfield 7, 3) := by decide +kernel
theorem d5_10 : decode prog_108_method_2_code 10 = .ok (.iload 10, 2) := by decide +kernel
theorem d5_12 : decode prog_108_method_2_code 12 = .ok (.iload_n 1, 1) := by decide +kernel
theorem d5_13 : decode prog_108_method_2_code 13 = .ok (.iastore, 1) := by decide +kernel
theorem d5_14 : decode prog_108_method_2_code 14 = .ok (.aload_n 0, 1) := by decide +kernel
theorem d5_15 : decode prog_108_method_2_code 15 = .ok (.getfield 13, 3) := by decide +kernel
theorem d5_18 : decode prog_108_method_2_code 18 = .ok (.iload 10, 2) := by decide +kernel
theorem d5_20 : decode prog_108_method_2_code 20 = .ok (.iload_n 2, 1) := by decide +kernel
theorem d5_21 : decode prog_108_method_2_code 21 = .ok (.iastore, 1) := by decide +kernel
theorem d5_22 : decode prog_108_method_2_code 22 = .ok (.aload_n 0, 1) := by decide +kernel
theorem d5_23 : decode prog_108_method_2_code 23 = .ok (.getfield 16, 3) := by decide +kernel
theorem d5_26 : decode prog_108_method_2_code 26 = .ok (.iload 10, 2) := by decide +kernel
theorem d5_28 : decode prog_108_method_2_code 28 = .ok (.iload_n 3, 1) := by decide +kernel
theorem d5_29 : decode prog_108_method_2_code 29 = .ok (.iastore, 1) := by decide +kernel
theorem d5_30 : decode prog_108_method_2_code 30 = .ok (.aload_n 0, 1) := by decide +kernel
theorem d5_31 : decode prog_108_method_2_code 31 = .ok (.getfield 19, 3) := by decide +kernel
theorem d5_34 : decode prog_108_method_2_code 34 = .ok (.iload 10, 2) := by decide +kernel
theorem d5_36 : decode prog_108_method_2_code 36 = .ok (.iload 4, 2) := by decide +kernel
theorem d5_38 : decode prog_108_method_2_code 38 = .ok (.bastore, 1) := by decide +kernel
theorem d5_39 : decode prog_108_method_2_code 39 = .ok (.aload_n 0, 1) := by decide +kernel
theorem d5_40 : decode prog_108_method_2_code 40 = .ok (.getfield 25, 3) := by decide +kernel
theorem d5_43 : decode prog_108_method_2_code 43 = .ok (.iload 10, 2) := by decide +kernel
theorem d5_45 : decode prog_108_method_2_code 45 = .ok (.aload 5, 2) := by decide +kernel
theorem d5_47 : decode prog_108_method_2_code 47 = .ok (.aastore, 1) := by decide +kernel
theorem d5_48 : decode prog_108_method_2_code 48 = .ok (.aload_n 0, 1) := by decide +kernel
theorem d5_49 : decode prog_108_method_2_code 49 = .ok (.dup, 1) := by decide +kernel
theorem d5_50 : decode prog_108_method_2_code 50 = .ok (.getfield 55, 3) := by decide +kernel
theorem d5_53 : decode prog_108_method_2_code 53 = .ok (.aload 5, 2) := by decide +kernel
theorem d5_55 : decode prog_108_method_2_code 55 = .ok (.arraylength, 1) := by decide +kernel
theorem d5_56 : decode prog_108_method_2_code 56 = .ok (.iconst 1, 1) := by decide +kernel
theorem d5_57 : decode prog_108_method_2_code 57 = .ok (.iadd, 1) := by decide +kernel
theorem d5_58 : decode prog_108_method_2_code 58 = .ok (.i2l, 1) := by decide +kernel
theorem d5_59 : decode prog_108_method_2_code 59 = .ok (.ladd, 1) := by decide +kernel
theorem d5_60 : decode prog_108_method_2_code 60 = .ok (.putfield 55, 3) := by decide +kernel
theorem d5_63 : decode prog_108_method_2_code 63 = .ok (.aload_n 0, 1) := by decide +kernel
theorem d5_64 : decode prog_108_method_2_code 64 = .ok (.getfield 31, 3) := by decide +kernel
theorem sn_cN0_moves_waitingBytes {a0 : Array Value} {Z : State} (hw : ∀ d ∈ tables_1, d.before a0 Z = true) : Jvm.RoadKit.slotOf Z cN0 "moves" cN1 ≠ Jvm.RoadKit.slotOf Z cN0 "waitingBytes" "J" := slot_ne (Or.inl (ow hw 27 rfl)) (Or.inl (ow hw 60 rfl)) (by decide) (t := (.array (.object "com/example/flote/flote/search/Search$Moves"))) (t' := .long) (by decide) (by decide)
theorem d5_67 : decode prog_108_method_2_code 67 = .ok (.iload 10, 2) := by decide +kernel
theorem d5_69 : decode prog_108_method_2_code 69 = .ok (.aload 6, 2) := by decide +kernel
theorem d5_71 : decode prog_108_method_2_code 71 = .ok (.aastore, 1) := by decide +kernel
theorem d5_72 : decode prog_108_method_2_code 72 = .ok (.aload_n 0, 1) := by decide +kernel
theorem d5_73 : decode prog_108_method_2_code 73 = .ok (.getfield 37, 3) := by decide +kernel
theorem sn_cN0_transitions_waitingBytes {a0 : Array Value} {Z : State} (hw : ∀ d ∈ tables_1, d.before a0 Z = true) : Jvm.RoadKit.slotOf Z cN0 "transitions" cN2 ≠ Jvm.RoadKit.slotOf Z cN0 "waitingBytes" "J" := slot_ne (Or.inl (ow hw 31 rfl)) (Or.inl (ow hw 60 rfl)) (by decide) (t := (.array (.object "com/example/flote/flote/search/Search$Branches"))) (t' := .long) (by decide) (by decide)
theorem d5_76 : decode prog_108_method_2_code 76 = .ok (.iload 10, 2) := by decide +kernel
theorem d5_78 : decode prog_108_method_2_code 78 = .ok (.aload 9, 2) := by decide +kernel
theorem d5_80 : decode prog_108_method_2_code 80 = .ok (.aastore, 1) := by decide +kernel
theorem d5_81 : decode prog_108_method_2_code 81 = .ok (.aload_n 0, 1) := by decide +kernel
theorem d5_82 : decode prog_108_method_2_code 82 = .ok (.getfield 41, 3) := by decide +kernel
theorem sn_cN0_frames_waitingBytes {a0 : Array Value} {Z : State} (hw : ∀ d ∈ tables_1, d.before a0 Z = true) : Jvm.RoadKit.slotOf Z cN0 "frames" "[J" ≠ Jvm.RoadKit.slotOf Z cN0 "waitingBytes" "J" := slot_ne (Or.inl (ow hw 34 rfl)) (Or.inl (ow hw 60 rfl)) (by decide) (t := (.array .long)) (t' := .long) (by decide) (by decide)
theorem d5_85 : decode prog_108_method_2_code 85 = .ok (.iload 10, 2) := by decide +kernel
theorem d5_87 : decode prog_108_method_2_code 87 = .ok (.lload 7, 2) := by decide +kernel
theorem d5_89 : decode prog_108_method_2_code 89 = .ok (.lastore, 1) := by decide +kernel
theorem d5_90 : decode prog_108_method_2_code 90 = .ok (.return_, 1) := by decide +kernel
theorem sn_cN0_actors_waitingBytes {a0 : Array Value} {Z : State} (hw : ∀ d ∈ tables_1, d.before a0 Z = true) : Jvm.RoadKit.slotOf Z cN0 "actors" "[I" ≠ Jvm.RoadKit.slotOf Z cN0 "waitingBytes" "J" := slot_ne (Or.inl (ow hw 12 rfl)) (Or.inl (ow hw 60 rfl)) (by decide) (t := (.array .int)) (t' := .long) (by decide) (by decide)
theorem sn_cN0_indices_waitingBytes {a0 : Array Value} {Z : State} (hw : ∀ d ∈ tables_1, d.before a0 Z = true) : Jvm.RoadKit.slotOf Z cN0 "indices" "[I" ≠ Jvm.RoadKit.slotOf Z cN0 "waitingBytes" "J" := slot_ne (Or.inl (ow hw 14 rfl)) (Or.inl (ow hw 60 rfl)) (by decide) (t := (.array .int)) (t' := .long) (by decide) (by decide)
theorem sn_cN0_branchNumbers_waitingBytes {a0 : Array Value} {Z : State} (hw : ∀ d ∈ tables_1, d.before a0 Z = true) : Jvm.RoadKit.slotOf Z cN0 "branchNumbers" "[I" ≠ Jvm.RoadKit.slotOf Z cN0 "waitingBytes" "J" := slot_ne (Or.inl (ow hw 16 rfl)) (Or.inl (ow hw 60 rfl)) (by decide) (t := (.array .int)) (t' := .long) (by decide) (by decide)
theorem sn_cN0_chose_waitingBytes {a0 : Array Value} {Z : State} (hw : ∀ d ∈ tables_1, d.before a0 Z = true) : Jvm.RoadKit.slotOf Z cN0 "chose" "[Z" ≠ Jvm.RoadKit.slotOf Z cN0 "waitingBytes" "J" := slot_ne (Or.inl (ow hw 19 rfl)) (Or.inl (ow hw 60 rfl)) (by decide) (t := (.array .boolean)) (t' := .long) (by decide) (by decide)
theorem sn_cN0_keys_waitingBytes {a0 : Array Value} {Z : State} (hw : ∀ d ∈ tables_1, d.before a0 Z = true) : Jvm.RoadKit.slotOf Z cN0 "keys" "[[B" ≠ Jvm.RoadKit.slotOf Z cN0 "waitingBytes" "J" := slot_ne (Or.inl (ow hw 23 rfl)) (Or.inl (ow hw 60 rfl)) (by decide) (t := (.array (.array .byte))) (t' := .long) (by decide) (by decide)
theorem sn_cN0_targets_waitingBytes {a0 : Array Value} {Z : State} (hw : ∀ d ∈ tables_1, d.before a0 Z = true) : Jvm.RoadKit.slotOf Z cN0 "targets" "[I" ≠ Jvm.RoadKit.slotOf Z cN0 "waitingBytes" "J" := slot_ne (Or.inl (ow hw 36 rfl)) (Or.inl (ow hw 60 rfl)) (by decide) (t := (.array .int)) (t' := .long) (by decide) (by decide)
theorem sn_cN0_stored_waitingBytes {a0 : Array Value} {Z : State} (hw : ∀ d ∈ tables_1, d.before a0 Z = true) : Jvm.RoadKit.slotOf Z cN0 "stored" "[Z" ≠ Jvm.RoadKit.slotOf Z cN0 "waitingBytes" "J" := slot_ne (Or.inl (ow hw 38 rfl)) (Or.inl (ow hw 60 rfl)) (by decide) (t := (.array .boolean)) (t' := .long) (by decide) (by decide)
theorem sn_cN0_count_waitingBytes {a0 : Array Value} {Z : State} (hw : ∀ d ∈ tables_1, d.before a0 Z = true) : Jvm.RoadKit.slotOf Z cN0 "count" "I" ≠ Jvm.RoadKit.slotOf Z cN0 "waitingBytes" "J" := slot_ne (Or.inl (ow hw 49 rfl)) (Or.inl (ow hw 60 rfl)) (by decide) (t := .int) (t' := .long) (by decide) (by decide)
theorem sn_cN0_admitted_waitingBytes {a0 : Array Value} {Z : State} (hw : ∀ d ∈ tables_1, d.before a0 Z = true) : Jvm.RoadKit.slotOf Z cN0 "admitted" "I" ≠ Jvm.RoadKit.slotOf Z cN0 "waitingBytes" "J" := slot_ne (Or.inl (ow hw 51 rfl)) (Or.inl (ow hw 60 rfl)) (by decide) (t := .int) (t' := .long) (by decide) (by decide)
def Q_add0 (Z : State) (a1 : Addr) (p1 : Int32) (p2 : Int32) (p3 : Int32) (p4 : Int32) (kx : Addr) (q1 : Int64) (ac : Addr) (ix : Addr) (bn : Addr) (ch : Addr) (ky : Addr) (mv : Addr) (tr : Addr) (fr : Addr) (tg : Addr) (sd : Addr) (k_ac : ClassId) (k_ix : ClassId) (k_bn : ClassId) (k_ch : ClassId) (k_ky : ClassId) (k_mv : ClassId) (k_tr : ClassId) (k_fr : ClassId) (ac0 : Value) (ac1 : Value) (ac2 : Value) (ix0 : Value) (ix1 : Value) (ix2 : Value) (bn0 : Value) (bn1 : Value) (bn2 : Value) (ch0 : Value) (ch1 : Value) (ch2 : Value) (ky0 : Value) (ky1 : Value) (ky2 : Value) (mv0 : Value) (mv1 : Value) (mv2 : Value) (tr0 : Value) (tr1 : Value) (tr2 : Value) (fr0 : Value) (fr1 : Value) (fr2 : Value) (kv : List Value) (kk : ClassId) (pk : Int32) (adm : Int32) (wb : Int64) (h0 : Heap) (n0 : Nat) (v : Option Value) (h : Heap) (L : List Loc) : Prop := v = none ∧ Fr n0 L ∧ Keep h0 h [a1, ac, ix, bn, ch, ky, mv, tr, fr] ∧ Exa Z h a1 cN0 ∧ Fld Z h a1 cN0 "actors" "[I" (.ref ac) ∧ Fld Z h a1 cN0 "indices" "[I" (.ref ix) ∧ Fld Z h a1 cN0 "branchNumbers" "[I" (.ref bn) ∧ Fld Z h a1 cN0 "chose" "[Z" (.ref ch) ∧ Fld Z h a1 cN0 "keys" "[[B" (.ref ky) ∧ Fld Z h a1 cN0 "moves" cN1 (.ref mv) ∧ Fld Z h a1 cN0 "transitions" cN2 (.ref tr) ∧ Fld Z h a1 cN0 "frames" "[J" (.ref fr) ∧ Fld Z h a1 cN0 "targets" "[I" (.ref tg) ∧ Fld Z h a1 cN0 "stored" "[Z" (.ref sd) ∧ Fld Z h a1 cN0 "count" "I" (.int (1 : Int32)) ∧ Fld Z h a1 cN0 "admitted" "I" (.int adm) ∧ Fld Z h a1 cN0 "waitingBytes" "J" (.long (wb + ((pk + (1 : Int32)).toInt64))) ∧ OAr Z h ac k_ac .int (oV (.int p1) ac1 ac2 (.int (0 : Int32))) ∧ OAr Z h ix k_ix .int (oV (.int p2) ix1 ix2 (.int (0 : Int32))) ∧ OAr Z h bn k_bn .int (oV (.int p3) bn1 bn2 (.int (0 : Int32))) ∧ OAr Z h ch k_ch .boolean (oV (.int (nar .boolean p4)) ch1 ch2 (.int (0 : Int32))) ∧ OAr Z h ky k_ky (.array .byte) (oV (.ref kx) ky1 ky2 .null) ∧ OAr Z h mv k_mv (.object "com/example/flote/flote/search/Search$Moves") (oV .null mv1 mv2 .null) ∧ OAr Z h tr k_tr (.object "com/example/flote/flote/search/Search$Branches") (oV .null tr1 tr2 .null) ∧ OAr Z h fr k_fr .long (oV (.long q1) fr1 fr2 (.long (0 : Int64)))
set_option maxRecDepth 65536 in
set_option maxHeartbeats 40000000 in
theorem rm_add0 (l : Launch) (Z : State) (a0 : Array Value) (hw : ∀ d ∈ tables_1, d.before a0 Z = true) (ws : List Jvm.Cond) (a1 : Addr) (p1 : Int32) (p2 : Int32) (p3 : Int32) (p4 : Int32) (kx : Addr) (q1 : Int64) (ac : Addr) (ix : Addr) (bn : Addr) (ch : Addr) (ky : Addr) (mv : Addr) (tr : Addr) (fr : Addr) (tg : Addr) (sd : Addr) (k_ac : ClassId) (k_ix : ClassId) (k_bn : ClassId) (k_ch : ClassId) (k_ky : ClassId) (k_mv : ClassId) (k_tr : ClassId) (k_fr : ClassId) (ac0 : Value) (ac1 : Value) (ac2 : Value) (ix0 : Value) (ix1 : Value) (ix2 : Value) (bn0 : Value) (bn1 : Value) (bn2 : Value) (ch0 : Value) (ch1 : Value) (ch2 : Value) (ky0 : Value) (ky1 : Value) (ky2 : Value) (mv0 : Value) (mv1 : Value) (mv2 : Value) (tr0 : Value) (tr1 : Value) (tr2 : Value) (fr0 : Value) (fr1 : Value) (fr2 : Value) (kv : List Value) (kk : ClassId) (pk : Int32) (adm : Int32) (wb : Int64) (h0 : Heap) (n0 : Nat) (Z0 : n0 ≤ h0.size) (E_a1 : Exa Z h0 a1 cN0) (F_actors_a1 : Fld Z h0 a1 cN0 "actors" "[I" (.ref ac)) (F_indices_a1 : Fld Z h0 a1 cN0 "indices" "[I" (.ref ix)) (F_branchNumbers_a1 : Fld Z h0 a1 cN0 "branchNumbers" "[I" (.ref bn)) (F_chose_a1 : Fld Z h0 a1 cN0 "chose" "[Z" (.ref ch)) (F_keys_a1 : Fld Z h0 a1 cN0 "keys" "[[B" (.ref ky)) (F_moves_a1 : Fld Z h0 a1 cN0 "moves" cN1 (.ref mv)) (F_transitions_a1 : Fld Z h0 a1 cN0 "transitions" cN2 (.ref tr)) (F_frames_a1 : Fld Z h0 a1 cN0 "frames" "[J" (.ref fr)) (F_targets_a1 : Fld Z h0 a1 cN0 "targets" "[I" (.ref tg)) (F_stored_a1 : Fld Z h0 a1 cN0 "stored" "[Z" (.ref sd)) (F_count_a1 : Fld Z h0 a1 cN0 "count" "I" (.int (0 : Int32))) (F_admitted_a1 : Fld Z h0 a1 cN0 "admitted" "I" (.int adm)) (F_waitingBytes_a1 : Fld Z h0 a1 cN0 "waitingBytes" "J" (.long wb)) (V_ac : OAr Z h0 ac k_ac .int (oV ac0 ac1 ac2 (.int (0 : Int32)))) (V_ix : OAr Z h0 ix k_ix .int (oV ix0 ix1 ix2 (.int (0 : Int32)))) (V_bn : OAr Z h0 bn k_bn .int (oV bn0 bn1 bn2 (.int (0 : Int32)))) (V_ch : OAr Z h0 ch k_ch .boolean (oV ch0 ch1 ch2 (.int (0 : Int32)))) (V_ky : OAr Z h0 ky k_ky (.array .byte) (oV ky0 ky1 ky2 .null)) (V_mv : OAr Z h0 mv k_mv (.object "com/example/flote/flote/search/Search$Moves") (oV mv0 mv1 mv2 .null)) (V_tr : OAr Z h0 tr k_tr (.object "com/example/flote/flote/search/Search$Branches") (oV tr0 tr1 tr2 .null)) (V_fr : OAr Z h0 fr k_fr .long (oV fr0 fr1 fr2 (.long (0 : Int64)))) (V_kx : OAr Z h0 kx kk .byte kv) (E_kx : Exa Z h0 kx "[B") (hk : kv.length.toInt32 = pk) (ovr : OvrA Z k_ky .byte "[B") (g_a1 : n0 ≤ a1) (g_ac : n0 ≤ ac) (g_ix : n0 ≤ ix) (g_bn : n0 ≤ bn) (g_ch : n0 ≤ ch) (g_ky : n0 ≤ ky) (g_mv : n0 ≤ mv) (g_tr : n0 ≤ tr) (g_fr : n0 ≤ fr) (nd0 : OND [a1, ac, ix, bn, ch, ky, mv, tr, fr, tg, sd, kx]) :
    MetFree l mN3 (head1 (Jvm.Cond.code mN3 prog_108_method_2_code 11 none :: ws) ({ frames := 1, cells := 0, slots := 0, locals := 13 } : Room)) (fun a U => a = #[(.ref a1), (.int p1), (.int p2), (.int p3), (.int p4), (.ref kx), .null, (.long q1), .null] ∧ Z.Warmed39 U.vm ∧ U.heap = h0) (fun _ _ _ _ _ => True) (fun _ U o U' => ∃ v L, o = .returned v ∧ Q_add0 Z a1 p1 p2 p3 p4 kx q1 ac ix bn ch ky mv tr fr tg sd k_ac k_ix k_bn k_ch k_ky k_mv k_tr k_fr ac0 ac1 ac2 ix0 ix1 ix2 bn0 bn1 bn2 ch0 ch1 ch2 ky0 ky1 ky2 mv0 mv1 mv2 tr0 tr1 tr2 fr0 fr1 fr2 kv kk pk adm wb h0 n0 v U'.heap L ∧ FrameEnd U o U' L ({ frames := 1, cells := 0, slots := 0, locals := 13 } : Room).cells ({ frames := 1, cells := 0, slots := 0, locals := 13 } : Room).slots) := by
  refine MetFree.of_bodySF (plainFor_of_name pn_com_example_flote_flote_search_Reached) hisR ?_
  intro p e s m args below meth c s₁ Bd hml0 hP hK
  obtain ⟨rfl, hZ, hh⟩ := hP
  have hx := Bd.exec
  have hby := Bd.bytes
  have hml : c.maxLocals = 11 := hml0
  have hown : s.vm.findClass "com/example/flote/flote/search/Reached" = some m.cls := findClass_of_methodNamed Bd.named
  have hnm := (name_of_methodNamed Bd.named Bd.method).1
  have X0 : Stand p l e ({ frames := 1, cells := 0, slots := 0, locals := 13 } : Room) s m #[(.ref a1), (.int p1), (.int p2), (.int p3), (.int p4), (.ref kx), .null, (.long q1), .null] below meth c s₁ [] 0 0 := Stand.of_body Bd
  have e0 : s₁.heap = h0 := by rw [← hh, Bd.state]; rfl
  have N0 := Fr.nil n0
  obtain ⟨A0, hA0⟩ : ∃ z, z = s₁.setTop (entryFrame m #[(.ref a1), (.int p1), (.int p2), (.int p3), (.int p4), (.ref kx), .null, (.long q1), .null] 11) := ⟨_, rfl⟩
  have K : OGo p e below A0 s₁ (mkF m 0 #[rv a1, iv p1, iv p2, iv p3, iv p4, rv kx, .val .null, .val (.long q1), .second, .val .null, .unset] []) := fun t k => hA0 ▸ castTop (ef_5_n6_8 m a1 p1 p2 p3 p4 kx q1) k
  replace K : OGo p e below A0 s₁ (mkF m 1 #[rv a1, iv p1, iv p2, iv p3, iv p4, rv kx, .val .null, .val (.long q1), .second, .val .null, .unset] [(.ref a1)]) := fun t k => K t (XS.aloadN X0.here hx rfl (hb hby d5_0) rfl rfl k)
  obtain ⟨cq1, qp1, qp1'⟩ := E_a1.cell
  obtain ⟨_, _, ⟨T1, L1, k1, n1⟩, -, X1, ⟨Lc1, hQ1, l1, y1, z1⟩, st1⟩ := X0.privateBack hx (y := mN1) hown (mvT hZ (ow hw 44 rfl)) (mvT hZ (ow hw 45 rfl)) (own_selp hZ (ow hw 2 rfl) (ow hw 46 rfl) (ow hw 45 rfl)) (Cond.privateMethod_at (mvP hZ (ow hw 46 rfl) (args := #[]))) (mvT hZ (ow hw 47 rfl)) (by decide) (backOf (W := 0) (rm_next0 l Z a0 hw [] a1 ac ix bn ch ky mv tr fr tg sd k_ac [ac0, ac1, ac2, (.int (0 : Int32)), (.int (0 : Int32)), (.int (0 : Int32)), (.int (0 : Int32)), (.int (0 : Int32)), (.int (0 : Int32)), (.int (0 : Int32)), (.int (0 : Int32)), (.int (0 : Int32)), (.int (0 : Int32)), (.int (0 : Int32)), (.int (0 : Int32)), (.int (0 : Int32))] adm wb h0 n0 Z0 E_a1 F_actors_a1 F_indices_a1 F_branchNumbers_a1 F_chose_a1 F_keys_a1 F_moves_a1 F_transitions_a1 F_frames_a1 F_targets_a1 F_stored_a1 F_count_a1 F_admitted_a1 F_waitingBytes_a1 V_ac (own_pw nd0 0 1 (by decide) rfl rfl) g_a1 rfl) hZ (ow hw 47 rfl) (ow hw 3 rfl) (by decide) (by decide)) (g := (mkF m 1 #[rv a1, iv p1, iv p2, iv p3, iv p4, rv kx, .val .null, .val (.long q1), .second, .val .null, .unset] [(.ref a1)])) rfl (by rw [hml]; rfl) (Steps.refl _) (a := a1) (by rw [e0]; exact qp1) qp1' (argsL := []) (rest := []) (lenOf pd___I rfl) rfl (by show 2 * 0 + _ ≤ _; exact Nat.le_of_eq rfl) (hb hby d5_1) (fun _ _ => ⟨rfl, e0, (by decide : 0 + 0 ≤ _), (by decide : 0 + 0 ≤ _)⟩)
  dsimp only [Pt.U, Pt.locs, Pt.cells, Pt.slots] at X1 l1 y1 z1 st1 hQ1
  subst l1 y1 z1
  obtain ⟨hp1, e1⟩ : ∃ z, T1.heap = z := ⟨_, rfl⟩
  rw [e1] at hQ1
  obtain ⟨rfl, Nq1, K1, P1_0, P1_1, P1_2, P1_3, P1_4, P1_5, P1_6, P1_7, P1_8, P1_9, P1_10, P1_11, P1_12, P1_13⟩ := hQ1
  have Z1 : n0 ≤ hp1.size := Nat.le_trans Z0 K1.1
  have Kp1 : Keep h0 hp1 [a1, ac, ix, bn, ch, ky, mv, tr, fr] := (Keep.refl h0 [a1, ac, ix, bn, ch, ky, mv, tr, fr]).trans K1 (allS (Or.inl (List.mem_of_getElem? (i := 0) rfl)) all0)
  have N1 := Fr.app N0 Nq1
  replace K : OGo p e below A0 T1 (mkF m 4 #[rv a1, iv p1, iv p2, iv p3, iv p4, rv kx, .val .null, .val (.long q1), .second, .val .null, .unset] [(.int 0)]) := fun t k => K t (st1.trans k)
  replace K : OGo p e below A0 T1 (mkF m 6 #[rv a1, iv p1, iv p2, iv p3, iv p4, rv kx, .val .null, .val (.long q1), .second, .val .null, iv 0] []) := fun t k => K t (XS.istore X1.here hx rfl (hb hby d5_4) rfl (l' := #[rv a1, iv p1, iv p2, iv p3, iv p4, rv kx, .val .null, .val (.long q1), .second, .val .null, iv 0]) rfl k)
  replace K : OGo p e below A0 T1 (mkF m 7 #[rv a1, iv p1, iv p2, iv p3, iv p4, rv kx, .val .null, .val (.long q1), .second, .val .null, iv 0] [(.ref a1)]) := fun t k => K t (XS.aloadN X1.here hx rfl (hb hby d5_6) rfl rfl k)
  obtain ⟨T2, X2, e2, st2⟩ := getF X1 hx hZ hown (host := "") (Or.inl (ow hw 11 rfl)) Via.refl e1 P1_1 (g := (mkF m 7 #[rv a1, iv p1, iv p2, iv p3, iv p4, rv kx, .val .null, .val (.long q1), .second, .val .null, iv 0] [(.ref a1)])) rfl rfl (hb hby d5_7)
  replace K : OGo p e below A0 T2 (mkF m 10 #[rv a1, iv p1, iv p2, iv p3, iv p4, rv kx, .val .null, .val (.long q1), .second, .val .null, iv 0] [(.ref ac)]) := fun t k => K t (st2 t k)
  replace K : OGo p e below A0 T2 (mkF m 12 #[rv a1, iv p1, iv p2, iv p3, iv p4, rv kx, .val .null, .val (.long q1), .second, .val .null, iv 0] [(.int 0), (.ref ac)]) := fun t k => K t (XS.iload X2.here hx rfl (hb hby d5_10) rfl k)
  replace K : OGo p e below A0 T2 (mkF m 13 #[rv a1, iv p1, iv p2, iv p3, iv p4, rv kx, .val .null, .val (.long q1), .second, .val .null, iv 0] [(.int p1), (.int 0), (.ref ac)]) := fun t k => K t (XS.iloadN X2.here hx rfl (hb hby d5_12) rfl k)
  have V_ac_3 := (V_ac.keep K1 (ninS (Ne.symm (own_pw nd0 0 1 (by decide) rfl rfl)) nin0))
  obtain ⟨T4, h4, X4, e4, W4, V4, st4⟩ := own_stI X2 hx hZ e2 V_ac_3 (j := (0 : Int32)) (by decide) (Nat.le_of_ble_eq_true rfl) (g := (mkF m 13 #[rv a1, iv p1, iv p2, iv p3, iv p4, rv kx, .val .null, .val (.long q1), .second, .val .null, iv 0] [(.int p1), (.int 0), (.ref ac)])) rfl rfl (hb hby d5_13)
  have Z4 : n0 ≤ h4.size := Nat.le_trans Z1 (Keep.of_wr W4).1
  have Kp4 : Keep h0 h4 [a1, ac, ix, bn, ch, ky, mv, tr, fr] := Kp1.wr W4 (Or.inl (List.mem_of_getElem? (i := 1) rfl))
  have V_ac_4 : OAr Z h4 ac k_ac .int (oV (.int p1) ac1 ac2 (.int (0 : Int32))) := V4
  have N4 := Fr.snoc X4 N1 g_ac
  replace K : OGo p e below A0 T4 (mkF m 14 #[rv a1, iv p1, iv p2, iv p3, iv p4, rv kx, .val .null, .val (.long q1), .second, .val .null, iv 0] []) := fun t k => K t (st4 t k)
  replace K : OGo p e below A0 T4 (mkF m 15 #[rv a1, iv p1, iv p2, iv p3, iv p4, rv kx, .val .null, .val (.long q1), .second, .val .null, iv 0] [(.ref a1)]) := fun t k => K t (XS.aloadN X4.here hx rfl (hb hby d5_14) rfl rfl k)
  have F_indices_a1_5 := (P1_2.other W4 (Or.inl (own_pw nd0 0 1 (by decide) rfl rfl)))
  obtain ⟨T6, X6, e6, st6⟩ := getF X4 hx hZ hown (host := "") (Or.inl (ow hw 13 rfl)) Via.refl e4 F_indices_a1_5 (g := (mkF m 15 #[rv a1, iv p1, iv p2, iv p3, iv p4, rv kx, .val .null, .val (.long q1), .second, .val .null, iv 0] [(.ref a1)])) rfl rfl (hb hby d5_15)
  replace K : OGo p e below A0 T6 (mkF m 18 #[rv a1, iv p1, iv p2, iv p3, iv p4, rv kx, .val .null, .val (.long q1), .second, .val .null, iv 0] [(.ref ix)]) := fun t k => K t (st6 t k)
  replace K : OGo p e below A0 T6 (mkF m 20 #[rv a1, iv p1, iv p2, iv p3, iv p4, rv kx, .val .null, .val (.long q1), .second, .val .null, iv 0] [(.int 0), (.ref ix)]) := fun t k => K t (XS.iload X6.here hx rfl (hb hby d5_18) rfl k)
  replace K : OGo p e below A0 T6 (mkF m 21 #[rv a1, iv p1, iv p2, iv p3, iv p4, rv kx, .val .null, .val (.long q1), .second, .val .null, iv 0] [(.int p2), (.int 0), (.ref ix)]) := fun t k => K t (XS.iloadN X6.here hx rfl (hb hby d5_20) rfl k)
  have V_ix_7 := ((V_ix.keep K1 (ninS (Ne.symm (own_pw nd0 0 2 (by decide) rfl rfl)) nin0)).other W4 (Ne.symm (own_pw nd0 1 2 (by decide) rfl rfl)))
  obtain ⟨T8, h8, X8, e8, W8, V8, st8⟩ := own_stI X6 hx hZ e6 V_ix_7 (j := (0 : Int32)) (by decide) (Nat.le_of_ble_eq_true rfl) (g := (mkF m 21 #[rv a1, iv p1, iv p2, iv p3, iv p4, rv kx, .val .null, .val (.long q1), .second, .val .null, iv 0] [(.int p2), (.int 0), (.ref ix)])) rfl rfl (hb hby d5_21)
  have Z8 : n0 ≤ h8.size := Nat.le_trans Z4 (Keep.of_wr W8).1
  have Kp8 : Keep h0 h8 [a1, ac, ix, bn, ch, ky, mv, tr, fr] := Kp4.wr W8 (Or.inl (List.mem_of_getElem? (i := 2) rfl))
  have V_ix_8 : OAr Z h8 ix k_ix .int (oV (.int p2) ix1 ix2 (.int (0 : Int32))) := V8
  have N8 := Fr.snoc X8 N4 g_ix
  replace K : OGo p e below A0 T8 (mkF m 22 #[rv a1, iv p1, iv p2, iv p3, iv p4, rv kx, .val .null, .val (.long q1), .second, .val .null, iv 0] []) := fun t k => K t (st8 t k)
  replace K : OGo p e below A0 T8 (mkF m 23 #[rv a1, iv p1, iv p2, iv p3, iv p4, rv kx, .val .null, .val (.long q1), .second, .val .null, iv 0] [(.ref a1)]) := fun t k => K t (XS.aloadN X8.here hx rfl (hb hby d5_22) rfl rfl k)
  have F_branchNumbers_a1_9 := ((P1_3.other W4 (Or.inl (own_pw nd0 0 1 (by decide) rfl rfl))).other W8 (Or.inl (own_pw nd0 0 2 (by decide) rfl rfl)))
  obtain ⟨T10, X10, e10, st10⟩ := getF X8 hx hZ hown (host := "") (Or.inl (ow hw 15 rfl)) Via.refl e8 F_branchNumbers_a1_9 (g := (mkF m 23 #[rv a1, iv p1, iv p2, iv p3, iv p4, rv kx, .val .null, .val (.long q1), .second, .val .null, iv 0] [(.ref a1)])) rfl rfl (hb hby d5_23)
  replace K : OGo p e below A0 T10 (mkF m 26 #[rv a1, iv p1, iv p2, iv p3, iv p4, rv kx, .val .null, .val (.long q1), .second, .val .null, iv 0] [(.ref bn)]) := fun t k => K t (st10 t k)
  replace K : OGo p e below A0 T10 (mkF m 28 #[rv a1, iv p1, iv p2, iv p3, iv p4, rv kx, .val .null, .val (.long q1), .second, .val .null, iv 0] [(.int 0), (.ref bn)]) := fun t k => K t (XS.iload X10.here hx rfl (hb hby d5_26) rfl k)
  replace K : OGo p e below A0 T10 (mkF m 29 #[rv a1, iv p1, iv p2, iv p3, iv p4, rv kx, .val .null, .val (.long q1), .second, .val .null, iv 0] [(.int p3), (.int 0), (.ref bn)]) := fun t k => K t (XS.iloadN X10.here hx rfl (hb hby d5_28) rfl k)
  have V_bn_11 := (((V_bn.keep K1 (ninS (Ne.symm (own_pw nd0 0 3 (by decide) rfl rfl)) nin0)).other W4 (Ne.symm (own_pw nd0 1 3 (by decide) rfl rfl))).other W8 (Ne.symm (own_pw nd0 2 3 (by decide) rfl rfl)))
  obtain ⟨T12, h12, X12, e12, W12, V12, st12⟩ := own_stI X10 hx hZ e10 V_bn_11 (j := (0 : Int32)) (by decide) (Nat.le_of_ble_eq_true rfl) (g := (mkF m 29 #[rv a1, iv p1, iv p2, iv p3, iv p4, rv kx, .val .null, .val (.long q1), .second, .val .null, iv 0] [(.int p3), (.int 0), (.ref bn)])) rfl rfl (hb hby d5_29)
  have Z12 : n0 ≤ h12.size := Nat.le_trans Z8 (Keep.of_wr W12).1
  have Kp12 : Keep h0 h12 [a1, ac, ix, bn, ch, ky, mv, tr, fr] := Kp8.wr W12 (Or.inl (List.mem_of_getElem? (i := 3) rfl))
  have V_bn_12 : OAr Z h12 bn k_bn .int (oV (.int p3) bn1 bn2 (.int (0 : Int32))) := V12
  have N12 := Fr.snoc X12 N8 g_bn
  replace K : OGo p e below A0 T12 (mkF m 30 #[rv a1, iv p1, iv p2, iv p3, iv p4, rv kx, .val .null, .val (.long q1), .second, .val .null, iv 0] []) := fun t k => K t (st12 t k)
  replace K : OGo p e below A0 T12 (mkF m 31 #[rv a1, iv p1, iv p2, iv p3, iv p4, rv kx, .val .null, .val (.long q1), .second, .val .null, iv 0] [(.ref a1)]) := fun t k => K t (XS.aloadN X12.here hx rfl (hb hby d5_30) rfl rfl k)
  have F_chose_a1_13 := (((P1_4.other W4 (Or.inl (own_pw nd0 0 1 (by decide) rfl rfl))).other W8 (Or.inl (own_pw nd0 0 2 (by decide) rfl rfl))).other W12 (Or.inl (own_pw nd0 0 3 (by decide) rfl rfl)))
  obtain ⟨T14, X14, e14, st14⟩ := getF X12 hx hZ hown (host := "") (Or.inl (ow hw 18 rfl)) Via.refl e12 F_chose_a1_13 (g := (mkF m 31 #[rv a1, iv p1, iv p2, iv p3, iv p4, rv kx, .val .null, .val (.long q1), .second, .val .null, iv 0] [(.ref a1)])) rfl rfl (hb hby d5_31)
  replace K : OGo p e below A0 T14 (mkF m 34 #[rv a1, iv p1, iv p2, iv p3, iv p4, rv kx, .val .null, .val (.long q1), .second, .val .null, iv 0] [(.ref ch)]) := fun t k => K t (st14 t k)
  replace K : OGo p e below A0 T14 (mkF m 36 #[rv a1, iv p1, iv p2, iv p3, iv p4, rv kx, .val .null, .val (.long q1), .second, .val .null, iv 0] [(.int 0), (.ref ch)]) := fun t k => K t (XS.iload X14.here hx rfl (hb hby d5_34) rfl k)
  replace K : OGo p e below A0 T14 (mkF m 38 #[rv a1, iv p1, iv p2, iv p3, iv p4, rv kx, .val .null, .val (.long q1), .second, .val .null, iv 0] [(.int p4), (.int 0), (.ref ch)]) := fun t k => K t (XS.iload X14.here hx rfl (hb hby d5_36) rfl k)
  have V_ch_15 := ((((V_ch.keep K1 (ninS (Ne.symm (own_pw nd0 0 4 (by decide) rfl rfl)) nin0)).other W4 (Ne.symm (own_pw nd0 1 4 (by decide) rfl rfl))).other W8 (Ne.symm (own_pw nd0 2 4 (by decide) rfl rfl))).other W12 (Ne.symm (own_pw nd0 3 4 (by decide) rfl rfl)))
  obtain ⟨T16, h16, X16, e16, W16, V16, st16⟩ := own_stZ X14 hx hZ e14 V_ch_15 (j := (0 : Int32)) (by decide) (Nat.le_of_ble_eq_true rfl) (g := (mkF m 38 #[rv a1, iv p1, iv p2, iv p3, iv p4, rv kx, .val .null, .val (.long q1), .second, .val .null, iv 0] [(.int p4), (.int 0), (.ref ch)])) rfl rfl (hb hby d5_38)
  have Z16 : n0 ≤ h16.size := Nat.le_trans Z12 (Keep.of_wr W16).1
  have Kp16 : Keep h0 h16 [a1, ac, ix, bn, ch, ky, mv, tr, fr] := Kp12.wr W16 (Or.inl (List.mem_of_getElem? (i := 4) rfl))
  have V_ch_16 : OAr Z h16 ch k_ch .boolean (oV (.int (nar .boolean p4)) ch1 ch2 (.int (0 : Int32))) := V16
  have N16 := Fr.snoc X16 N12 g_ch
  replace K : OGo p e below A0 T16 (mkF m 39 #[rv a1, iv p1, iv p2, iv p3, iv p4, rv kx, .val .null, .val (.long q1), .second, .val .null, iv 0] []) := fun t k => K t (st16 t k)
  replace K : OGo p e below A0 T16 (mkF m 40 #[rv a1, iv p1, iv p2, iv p3, iv p4, rv kx, .val .null, .val (.long q1), .second, .val .null, iv 0] [(.ref a1)]) := fun t k => K t (XS.aloadN X16.here hx rfl (hb hby d5_39) rfl rfl k)
  have F_keys_a1_17 := ((((P1_5.other W4 (Or.inl (own_pw nd0 0 1 (by decide) rfl rfl))).other W8 (Or.inl (own_pw nd0 0 2 (by decide) rfl rfl))).other W12 (Or.inl (own_pw nd0 0 3 (by decide) rfl rfl))).other W16 (Or.inl (own_pw nd0 0 4 (by decide) rfl rfl)))
  obtain ⟨T18, X18, e18, st18⟩ := getF X16 hx hZ hown (host := "") (Or.inl (ow hw 22 rfl)) Via.refl e16 F_keys_a1_17 (g := (mkF m 40 #[rv a1, iv p1, iv p2, iv p3, iv p4, rv kx, .val .null, .val (.long q1), .second, .val .null, iv 0] [(.ref a1)])) rfl rfl (hb hby d5_40)
  replace K : OGo p e below A0 T18 (mkF m 43 #[rv a1, iv p1, iv p2, iv p3, iv p4, rv kx, .val .null, .val (.long q1), .second, .val .null, iv 0] [(.ref ky)]) := fun t k => K t (st18 t k)
  replace K : OGo p e below A0 T18 (mkF m 45 #[rv a1, iv p1, iv p2, iv p3, iv p4, rv kx, .val .null, .val (.long q1), .second, .val .null, iv 0] [(.int 0), (.ref ky)]) := fun t k => K t (XS.iload X18.here hx rfl (hb hby d5_43) rfl k)
  replace K : OGo p e below A0 T18 (mkF m 47 #[rv a1, iv p1, iv p2, iv p3, iv p4, rv kx, .val .null, .val (.long q1), .second, .val .null, iv 0] [(.ref kx), (.int 0), (.ref ky)]) := fun t k => K t (XS.aload X18.here hx rfl (hb hby d5_45) rfl rfl k)
  have V_ky_19 := (((((V_ky.keep K1 (ninS (Ne.symm (own_pw nd0 0 5 (by decide) rfl rfl)) nin0)).other W4 (Ne.symm (own_pw nd0 1 5 (by decide) rfl rfl))).other W8 (Ne.symm (own_pw nd0 2 5 (by decide) rfl rfl))).other W12 (Ne.symm (own_pw nd0 3 5 (by decide) rfl rfl))).other W16 (Ne.symm (own_pw nd0 4 5 (by decide) rfl rfl)))
  have E_kx_21 := (((((E_kx.keep K1).wr W4).wr W8).wr W12).wr W16)
  have Sto22 := own_sto V_ky_19 ovr (Ins.self E_kx_21)
  obtain ⟨T20, h20, X20, e20, W20, V20, st20⟩ := own_stR X18 hx hZ e18 V_ky_19 rfl (j := (0 : Int32)) (by decide) (Nat.le_of_ble_eq_true rfl) Sto22 (g := (mkF m 47 #[rv a1, iv p1, iv p2, iv p3, iv p4, rv kx, .val .null, .val (.long q1), .second, .val .null, iv 0] [(.ref kx), (.int 0), (.ref ky)])) rfl rfl (hb hby d5_47)
  have Z20 : n0 ≤ h20.size := Nat.le_trans Z16 (Keep.of_wr W20).1
  have Kp20 : Keep h0 h20 [a1, ac, ix, bn, ch, ky, mv, tr, fr] := Kp16.wr W20 (Or.inl (List.mem_of_getElem? (i := 5) rfl))
  have V_ky_20 : OAr Z h20 ky k_ky (.array .byte) (oV (.ref kx) ky1 ky2 .null) := V20
  have N20 := Fr.snoc X20 N16 g_ky
  replace K : OGo p e below A0 T20 (mkF m 48 #[rv a1, iv p1, iv p2, iv p3, iv p4, rv kx, .val .null, .val (.long q1), .second, .val .null, iv 0] []) := fun t k => K t (st20 t k)
  replace K : OGo p e below A0 T20 (mkF m 49 #[rv a1, iv p1, iv p2, iv p3, iv p4, rv kx, .val .null, .val (.long q1), .second, .val .null, iv 0] [(.ref a1)]) := fun t k => K t (XS.aloadN X20.here hx rfl (hb hby d5_48) rfl rfl k)
  replace K : OGo p e below A0 T20 (mkF m 50 #[rv a1, iv p1, iv p2, iv p3, iv p4, rv kx, .val .null, .val (.long q1), .second, .val .null, iv 0] [(.ref a1), (.ref a1)]) := fun t k => K t (XS.dup X20.here hx rfl (hb hby d5_49) rfl rfl k)
  have F_waitingBytes_a1_23 := (((((P1_13.other W4 (Or.inl (own_pw nd0 0 1 (by decide) rfl rfl))).other W8 (Or.inl (own_pw nd0 0 2 (by decide) rfl rfl))).other W12 (Or.inl (own_pw nd0 0 3 (by decide) rfl rfl))).other W16 (Or.inl (own_pw nd0 0 4 (by decide) rfl rfl))).other W20 (Or.inl (own_pw nd0 0 5 (by decide) rfl rfl)))
  obtain ⟨T24, X24, e24, st24⟩ := getF X20 hx hZ hown (host := "") (Or.inl (ow hw 59 rfl)) Via.refl e20 F_waitingBytes_a1_23 (g := (mkF m 50 #[rv a1, iv p1, iv p2, iv p3, iv p4, rv kx, .val .null, .val (.long q1), .second, .val .null, iv 0] [(.ref a1), (.ref a1)])) rfl rfl (hb hby d5_50)
  replace K : OGo p e below A0 T24 (mkF m 53 #[rv a1, iv p1, iv p2, iv p3, iv p4, rv kx, .val .null, .val (.long q1), .second, .val .null, iv 0] [(.long wb), (.ref a1)]) := fun t k => K t (st24 t k)
  replace K : OGo p e below A0 T24 (mkF m 55 #[rv a1, iv p1, iv p2, iv p3, iv p4, rv kx, .val .null, .val (.long q1), .second, .val .null, iv 0] [(.ref kx), (.long wb), (.ref a1)]) := fun t k => K t (XS.aload X24.here hx rfl (hb hby d5_53) rfl rfl k)
  have V_kx_25 := ((((((V_kx.keep K1 (ninS (Ne.symm (own_pw nd0 0 11 (by decide) rfl rfl)) nin0)).other W4 (Ne.symm (own_pw nd0 1 11 (by decide) rfl rfl))).other W8 (Ne.symm (own_pw nd0 2 11 (by decide) rfl rfl))).other W12 (Ne.symm (own_pw nd0 3 11 (by decide) rfl rfl))).other W16 (Ne.symm (own_pw nd0 4 11 (by decide) rfl rfl))).other W20 (Ne.symm (own_pw nd0 5 11 (by decide) rfl rfl)))
  replace K : OGo p e below A0 T24 (mkF m 56 #[rv a1, iv p1, iv p2, iv p3, iv p4, rv kx, .val .null, .val (.long q1), .second, .val .null, iv 0] [(.int pk), (.long wb), (.ref a1)]) := fun t k => K t (own_len X24 hx hZ e24 V_kx_25 (n := pk) hk (g := (mkF m 55 #[rv a1, iv p1, iv p2, iv p3, iv p4, rv kx, .val .null, .val (.long q1), .second, .val .null, iv 0] [(.ref kx), (.long wb), (.ref a1)])) rfl rfl (hb hby d5_55) t k)
  replace K : OGo p e below A0 T24 (mkF m 57 #[rv a1, iv p1, iv p2, iv p3, iv p4, rv kx, .val .null, .val (.long q1), .second, .val .null, iv 0] [(.int 1), (.int pk), (.long wb), (.ref a1)]) := fun t k => K t (XS.iconst X24.here hx rfl (hb hby d5_56) k)
  replace K : OGo p e below A0 T24 (mkF m 58 #[rv a1, iv p1, iv p2, iv p3, iv p4, rv kx, .val .null, .val (.long q1), .second, .val .null, iv 0] [(.int (pk + (1 : Int32))), (.long wb), (.ref a1)]) := fun t k => K t (XS.iadd X24.here hx rfl (hb hby d5_57) rfl k)
  replace K : OGo p e below A0 T24 (mkF m 59 #[rv a1, iv p1, iv p2, iv p3, iv p4, rv kx, .val .null, .val (.long q1), .second, .val .null, iv 0] [(.long ((pk + (1 : Int32)).toInt64)), (.long wb), (.ref a1)]) := fun t k => K t (XS.i2l X24.here hx rfl (hb hby d5_58) rfl k)
  replace K : OGo p e below A0 T24 (mkF m 60 #[rv a1, iv p1, iv p2, iv p3, iv p4, rv kx, .val .null, .val (.long q1), .second, .val .null, iv 0] [(.long (wb + ((pk + (1 : Int32)).toInt64))), (.ref a1)]) := fun t k => K t (XS.ladd X24.here hx rfl (hb hby d5_59) rfl k)
  have E_a1_26 := (((((P1_0.wr W4).wr W8).wr W12).wr W16).wr W20)
  obtain ⟨T27, h27, X27, e27, W27, st27⟩ := putF X24 hx hZ hown (host := "") (Or.inl (ow hw 59 rfl)) Via.refl e24 F_waitingBytes_a1_23 E_a1_26 (Or.inl (ow hw 60 rfl)) (ow hw 2 rfl) (ty := .long) (by decide) rfl rfl (g := (mkF m 60 #[rv a1, iv p1, iv p2, iv p3, iv p4, rv kx, .val .null, .val (.long q1), .second, .val .null, iv 0] [(.long (wb + ((pk + (1 : Int32)).toInt64))), (.ref a1)])) rfl rfl (hb hby d5_60)
  have Z27 : n0 ≤ h27.size := Nat.le_trans Z20 (Keep.of_wr W27).1
  have Kp27 : Keep h0 h27 [a1, ac, ix, bn, ch, ky, mv, tr, fr] := Kp20.wr W27 (Or.inl (List.mem_of_getElem? (i := 0) rfl))
  have F_waitingBytes_a1_27 := F_waitingBytes_a1_23.same W27
  have N27 := Fr.snoc X27 N20 g_a1
  replace K : OGo p e below A0 T27 (mkF m 63 #[rv a1, iv p1, iv p2, iv p3, iv p4, rv kx, .val .null, .val (.long q1), .second, .val .null, iv 0] []) := fun t k => K t (st27 t k)
  replace K : OGo p e below A0 T27 (mkF m 64 #[rv a1, iv p1, iv p2, iv p3, iv p4, rv kx, .val .null, .val (.long q1), .second, .val .null, iv 0] [(.ref a1)]) := fun t k => K t (XS.aloadN X27.here hx rfl (hb hby d5_63) rfl rfl k)
  have F_moves_a1_28 := ((((((P1_6.other W4 (Or.inl (own_pw nd0 0 1 (by decide) rfl rfl))).other W8 (Or.inl (own_pw nd0 0 2 (by decide) rfl rfl))).other W12 (Or.inl (own_pw nd0 0 3 (by decide) rfl rfl))).other W16 (Or.inl (own_pw nd0 0 4 (by decide) rfl rfl))).other W20 (Or.inl (own_pw nd0 0 5 (by decide) rfl rfl))).other W27 (Or.inr (sn_cN0_moves_waitingBytes hw)))
  obtain ⟨T29, X29, e29, st29⟩ := getF X27 hx hZ hown (host := "") (Or.inl (ow hw 26 rfl)) Via.refl e27 F_moves_a1_28 (g := (mkF m 64 #[rv a1, iv p1, iv p2, iv p3, iv p4, rv kx, .val .null, .val (.long q1), .second, .val .null, iv 0] [(.ref a1)])) rfl rfl (hb hby d5_64)
  replace K : OGo p e below A0 T29 (mkF m 67 #[rv a1, iv p1, iv p2, iv p3, iv p4, rv kx, .val .null, .val (.long q1), .second, .val .null, iv 0] [(.ref mv)]) := fun t k => K t (st29 t k)
  replace K : OGo p e below A0 T29 (mkF m 69 #[rv a1, iv p1, iv p2, iv p3, iv p4, rv kx, .val .null, .val (.long q1), .second, .val .null, iv 0] [(.int 0), (.ref mv)]) := fun t k => K t (XS.iload X29.here hx rfl (hb hby d5_67) rfl k)
  replace K : OGo p e below A0 T29 (mkF m 71 #[rv a1, iv p1, iv p2, iv p3, iv p4, rv kx, .val .null, .val (.long q1), .second, .val .null, iv 0] [.null, (.int 0), (.ref mv)]) := fun t k => K t (XS.aload X29.here hx rfl (hb hby d5_69) rfl rfl k)
  have V_mv_30 := (((((((V_mv.keep K1 (ninS (Ne.symm (own_pw nd0 0 6 (by decide) rfl rfl)) nin0)).other W4 (Ne.symm (own_pw nd0 1 6 (by decide) rfl rfl))).other W8 (Ne.symm (own_pw nd0 2 6 (by decide) rfl rfl))).other W12 (Ne.symm (own_pw nd0 3 6 (by decide) rfl rfl))).other W16 (Ne.symm (own_pw nd0 4 6 (by decide) rfl rfl))).other W20 (Ne.symm (own_pw nd0 5 6 (by decide) rfl rfl))).other W27 (Ne.symm (own_pw nd0 0 6 (by decide) rfl rfl)))
  obtain ⟨T31, h31, X31, e31, W31, V31, st31⟩ := own_stR X29 hx hZ e29 V_mv_30 rfl (j := (0 : Int32)) (by decide) (Nat.le_of_ble_eq_true rfl) (Or.inl rfl) (g := (mkF m 71 #[rv a1, iv p1, iv p2, iv p3, iv p4, rv kx, .val .null, .val (.long q1), .second, .val .null, iv 0] [.null, (.int 0), (.ref mv)])) rfl rfl (hb hby d5_71)
  have Z31 : n0 ≤ h31.size := Nat.le_trans Z27 (Keep.of_wr W31).1
  have Kp31 : Keep h0 h31 [a1, ac, ix, bn, ch, ky, mv, tr, fr] := Kp27.wr W31 (Or.inl (List.mem_of_getElem? (i := 6) rfl))
  have V_mv_31 : OAr Z h31 mv k_mv (.object "com/example/flote/flote/search/Search$Moves") (oV .null mv1 mv2 .null) := V31
  have N31 := Fr.snoc X31 N27 g_mv
  replace K : OGo p e below A0 T31 (mkF m 72 #[rv a1, iv p1, iv p2, iv p3, iv p4, rv kx, .val .null, .val (.long q1), .second, .val .null, iv 0] []) := fun t k => K t (st31 t k)
  replace K : OGo p e below A0 T31 (mkF m 73 #[rv a1, iv p1, iv p2, iv p3, iv p4, rv kx, .val .null, .val (.long q1), .second, .val .null, iv 0] [(.ref a1)]) := fun t k => K t (XS.aloadN X31.here hx rfl (hb hby d5_72) rfl rfl k)
  have F_transitions_a1_32 := (((((((P1_7.other W4 (Or.inl (own_pw nd0 0 1 (by decide) rfl rfl))).other W8 (Or.inl (own_pw nd0 0 2 (by decide) rfl rfl))).other W12 (Or.inl (own_pw nd0 0 3 (by decide) rfl rfl))).other W16 (Or.inl (own_pw nd0 0 4 (by decide) rfl rfl))).other W20 (Or.inl (own_pw nd0 0 5 (by decide) rfl rfl))).other W27 (Or.inr (sn_cN0_transitions_waitingBytes hw))).other W31 (Or.inl (own_pw nd0 0 6 (by decide) rfl rfl)))
  obtain ⟨T33, X33, e33, st33⟩ := getF X31 hx hZ hown (host := "") (Or.inl (ow hw 30 rfl)) Via.refl e31 F_transitions_a1_32 (g := (mkF m 73 #[rv a1, iv p1, iv p2, iv p3, iv p4, rv kx, .val .null, .val (.long q1), .second, .val .null, iv 0] [(.ref a1)])) rfl rfl (hb hby d5_73)
  replace K : OGo p e below A0 T33 (mkF m 76 #[rv a1, iv p1, iv p2, iv p3, iv p4, rv kx, .val .null, .val (.long q1), .second, .val .null, iv 0] [(.ref tr)]) := fun t k => K t (st33 t k)
  replace K : OGo p e below A0 T33 (mkF m 78 #[rv a1, iv p1, iv p2, iv p3, iv p4, rv kx, .val .null, .val (.long q1), .second, .val .null, iv 0] [(.int 0), (.ref tr)]) := fun t k => K t (XS.iload X33.here hx rfl (hb hby d5_76) rfl k)
  replace K : OGo p e below A0 T33 (mkF m 80 #[rv a1, iv p1, iv p2, iv p3, iv p4, rv kx, .val .null, .val (.long q1), .second, .val .null, iv 0] [.null, (.int 0), (.ref tr)]) := fun t k => K t (XS.aload X33.here hx rfl (hb hby d5_78) rfl rfl k)
  have V_tr_34 := ((((((((V_tr.keep K1 (ninS (Ne.symm (own_pw nd0 0 7 (by decide) rfl rfl)) nin0)).other W4 (Ne.symm (own_pw nd0 1 7 (by decide) rfl rfl))).other W8 (Ne.symm (own_pw nd0 2 7 (by decide) rfl rfl))).other W12 (Ne.symm (own_pw nd0 3 7 (by decide) rfl rfl))).other W16 (Ne.symm (own_pw nd0 4 7 (by decide) rfl rfl))).other W20 (Ne.symm (own_pw nd0 5 7 (by decide) rfl rfl))).other W27 (Ne.symm (own_pw nd0 0 7 (by decide) rfl rfl))).other W31 (Ne.symm (own_pw nd0 6 7 (by decide) rfl rfl)))
  obtain ⟨T35, h35, X35, e35, W35, V35, st35⟩ := own_stR X33 hx hZ e33 V_tr_34 rfl (j := (0 : Int32)) (by decide) (Nat.le_of_ble_eq_true rfl) (Or.inl rfl) (g := (mkF m 80 #[rv a1, iv p1, iv p2, iv p3, iv p4, rv kx, .val .null, .val (.long q1), .second, .val .null, iv 0] [.null, (.int 0), (.ref tr)])) rfl rfl (hb hby d5_80)
  have Z35 : n0 ≤ h35.size := Nat.le_trans Z31 (Keep.of_wr W35).1
  have Kp35 : Keep h0 h35 [a1, ac, ix, bn, ch, ky, mv, tr, fr] := Kp31.wr W35 (Or.inl (List.mem_of_getElem? (i := 7) rfl))
  have V_tr_35 : OAr Z h35 tr k_tr (.object "com/example/flote/flote/search/Search$Branches") (oV .null tr1 tr2 .null) := V35
  have N35 := Fr.snoc X35 N31 g_tr
  replace K : OGo p e below A0 T35 (mkF m 81 #[rv a1, iv p1, iv p2, iv p3, iv p4, rv kx, .val .null, .val (.long q1), .second, .val .null, iv 0] []) := fun t k => K t (st35 t k)
  replace K : OGo p e below A0 T35 (mkF m 82 #[rv a1, iv p1, iv p2, iv p3, iv p4, rv kx, .val .null, .val (.long q1), .second, .val .null, iv 0] [(.ref a1)]) := fun t k => K t (XS.aloadN X35.here hx rfl (hb hby d5_81) rfl rfl k)
  have F_frames_a1_36 := ((((((((P1_8.other W4 (Or.inl (own_pw nd0 0 1 (by decide) rfl rfl))).other W8 (Or.inl (own_pw nd0 0 2 (by decide) rfl rfl))).other W12 (Or.inl (own_pw nd0 0 3 (by decide) rfl rfl))).other W16 (Or.inl (own_pw nd0 0 4 (by decide) rfl rfl))).other W20 (Or.inl (own_pw nd0 0 5 (by decide) rfl rfl))).other W27 (Or.inr (sn_cN0_frames_waitingBytes hw))).other W31 (Or.inl (own_pw nd0 0 6 (by decide) rfl rfl))).other W35 (Or.inl (own_pw nd0 0 7 (by decide) rfl rfl)))
  obtain ⟨T37, X37, e37, st37⟩ := getF X35 hx hZ hown (host := "") (Or.inl (ow hw 33 rfl)) Via.refl e35 F_frames_a1_36 (g := (mkF m 82 #[rv a1, iv p1, iv p2, iv p3, iv p4, rv kx, .val .null, .val (.long q1), .second, .val .null, iv 0] [(.ref a1)])) rfl rfl (hb hby d5_82)
  replace K : OGo p e below A0 T37 (mkF m 85 #[rv a1, iv p1, iv p2, iv p3, iv p4, rv kx, .val .null, .val (.long q1), .second, .val .null, iv 0] [(.ref fr)]) := fun t k => K t (st37 t k)
  replace K : OGo p e below A0 T37 (mkF m 87 #[rv a1, iv p1, iv p2, iv p3, iv p4, rv kx, .val .null, .val (.long q1), .second, .val .null, iv 0] [(.int 0), (.ref fr)]) := fun t k => K t (XS.iload X37.here hx rfl (hb hby d5_85) rfl k)
  replace K : OGo p e below A0 T37 (mkF m 89 #[rv a1, iv p1, iv p2, iv p3, iv p4, rv kx, .val .null, .val (.long q1), .second, .val .null, iv 0] [(.long q1), (.int 0), (.ref fr)]) := fun t k => K t (XS.lload X37.here hx rfl (hb hby d5_87) rfl k)
  have V_fr_38 := (((((((((V_fr.keep K1 (ninS (Ne.symm (own_pw nd0 0 8 (by decide) rfl rfl)) nin0)).other W4 (Ne.symm (own_pw nd0 1 8 (by decide) rfl rfl))).other W8 (Ne.symm (own_pw nd0 2 8 (by decide) rfl rfl))).other W12 (Ne.symm (own_pw nd0 3 8 (by decide) rfl rfl))).other W16 (Ne.symm (own_pw nd0 4 8 (by decide) rfl rfl))).other W20 (Ne.symm (own_pw nd0 5 8 (by decide) rfl rfl))).other W27 (Ne.symm (own_pw nd0 0 8 (by decide) rfl rfl))).other W31 (Ne.symm (own_pw nd0 6 8 (by decide) rfl rfl))).other W35 (Ne.symm (own_pw nd0 7 8 (by decide) rfl rfl)))
  obtain ⟨T39, h39, X39, e39, W39, V39, st39⟩ := own_stJ X37 hx hZ e37 V_fr_38 (j := (0 : Int32)) (by decide) (Nat.le_of_ble_eq_true rfl) (g := (mkF m 89 #[rv a1, iv p1, iv p2, iv p3, iv p4, rv kx, .val .null, .val (.long q1), .second, .val .null, iv 0] [(.long q1), (.int 0), (.ref fr)])) rfl rfl (hb hby d5_89)
  have Z39 : n0 ≤ h39.size := Nat.le_trans Z35 (Keep.of_wr W39).1
  have Kp39 : Keep h0 h39 [a1, ac, ix, bn, ch, ky, mv, tr, fr] := Kp35.wr W39 (Or.inl (List.mem_of_getElem? (i := 8) rfl))
  have V_fr_39 : OAr Z h39 fr k_fr .long (oV (.long q1) fr1 fr2 (.long (0 : Int64))) := V39
  have N39 := Fr.snoc X39 N35 g_fr
  replace K : OGo p e below A0 T39 (mkF m 90 #[rv a1, iv p1, iv p2, iv p3, iv p4, rv kx, .val .null, .val (.long q1), .second, .val .null, iv 0] []) := fun t k => K t (st39 t k)
  have E_a1_40 := ((((E_a1_26.wr W27).wr W31).wr W35).wr W39)
  have F_actors_a1_41 := (((((((((P1_1.other W4 (Or.inl (own_pw nd0 0 1 (by decide) rfl rfl))).other W8 (Or.inl (own_pw nd0 0 2 (by decide) rfl rfl))).other W12 (Or.inl (own_pw nd0 0 3 (by decide) rfl rfl))).other W16 (Or.inl (own_pw nd0 0 4 (by decide) rfl rfl))).other W20 (Or.inl (own_pw nd0 0 5 (by decide) rfl rfl))).other W27 (Or.inr (sn_cN0_actors_waitingBytes hw))).other W31 (Or.inl (own_pw nd0 0 6 (by decide) rfl rfl))).other W35 (Or.inl (own_pw nd0 0 7 (by decide) rfl rfl))).other W39 (Or.inl (own_pw nd0 0 8 (by decide) rfl rfl)))
  have F_indices_a1_42 := ((((((((F_indices_a1_5.other W8 (Or.inl (own_pw nd0 0 2 (by decide) rfl rfl))).other W12 (Or.inl (own_pw nd0 0 3 (by decide) rfl rfl))).other W16 (Or.inl (own_pw nd0 0 4 (by decide) rfl rfl))).other W20 (Or.inl (own_pw nd0 0 5 (by decide) rfl rfl))).other W27 (Or.inr (sn_cN0_indices_waitingBytes hw))).other W31 (Or.inl (own_pw nd0 0 6 (by decide) rfl rfl))).other W35 (Or.inl (own_pw nd0 0 7 (by decide) rfl rfl))).other W39 (Or.inl (own_pw nd0 0 8 (by decide) rfl rfl)))
  have F_branchNumbers_a1_43 := (((((((F_branchNumbers_a1_9.other W12 (Or.inl (own_pw nd0 0 3 (by decide) rfl rfl))).other W16 (Or.inl (own_pw nd0 0 4 (by decide) rfl rfl))).other W20 (Or.inl (own_pw nd0 0 5 (by decide) rfl rfl))).other W27 (Or.inr (sn_cN0_branchNumbers_waitingBytes hw))).other W31 (Or.inl (own_pw nd0 0 6 (by decide) rfl rfl))).other W35 (Or.inl (own_pw nd0 0 7 (by decide) rfl rfl))).other W39 (Or.inl (own_pw nd0 0 8 (by decide) rfl rfl)))
  have F_chose_a1_44 := ((((((F_chose_a1_13.other W16 (Or.inl (own_pw nd0 0 4 (by decide) rfl rfl))).other W20 (Or.inl (own_pw nd0 0 5 (by decide) rfl rfl))).other W27 (Or.inr (sn_cN0_chose_waitingBytes hw))).other W31 (Or.inl (own_pw nd0 0 6 (by decide) rfl rfl))).other W35 (Or.inl (own_pw nd0 0 7 (by decide) rfl rfl))).other W39 (Or.inl (own_pw nd0 0 8 (by decide) rfl rfl)))
  have F_keys_a1_45 := (((((F_keys_a1_17.other W20 (Or.inl (own_pw nd0 0 5 (by decide) rfl rfl))).other W27 (Or.inr (sn_cN0_keys_waitingBytes hw))).other W31 (Or.inl (own_pw nd0 0 6 (by decide) rfl rfl))).other W35 (Or.inl (own_pw nd0 0 7 (by decide) rfl rfl))).other W39 (Or.inl (own_pw nd0 0 8 (by decide) rfl rfl)))
  have F_moves_a1_46 := (((F_moves_a1_28.other W31 (Or.inl (own_pw nd0 0 6 (by decide) rfl rfl))).other W35 (Or.inl (own_pw nd0 0 7 (by decide) rfl rfl))).other W39 (Or.inl (own_pw nd0 0 8 (by decide) rfl rfl)))
  have F_transitions_a1_47 := ((F_transitions_a1_32.other W35 (Or.inl (own_pw nd0 0 7 (by decide) rfl rfl))).other W39 (Or.inl (own_pw nd0 0 8 (by decide) rfl rfl)))
  have F_frames_a1_48 := (F_frames_a1_36.other W39 (Or.inl (own_pw nd0 0 8 (by decide) rfl rfl)))
  have F_targets_a1_49 := (((((((((P1_9.other W4 (Or.inl (own_pw nd0 0 1 (by decide) rfl rfl))).other W8 (Or.inl (own_pw nd0 0 2 (by decide) rfl rfl))).other W12 (Or.inl (own_pw nd0 0 3 (by decide) rfl rfl))).other W16 (Or.inl (own_pw nd0 0 4 (by decide) rfl rfl))).other W20 (Or.inl (own_pw nd0 0 5 (by decide) rfl rfl))).other W27 (Or.inr (sn_cN0_targets_waitingBytes hw))).other W31 (Or.inl (own_pw nd0 0 6 (by decide) rfl rfl))).other W35 (Or.inl (own_pw nd0 0 7 (by decide) rfl rfl))).other W39 (Or.inl (own_pw nd0 0 8 (by decide) rfl rfl)))
  have F_stored_a1_50 := (((((((((P1_10.other W4 (Or.inl (own_pw nd0 0 1 (by decide) rfl rfl))).other W8 (Or.inl (own_pw nd0 0 2 (by decide) rfl rfl))).other W12 (Or.inl (own_pw nd0 0 3 (by decide) rfl rfl))).other W16 (Or.inl (own_pw nd0 0 4 (by decide) rfl rfl))).other W20 (Or.inl (own_pw nd0 0 5 (by decide) rfl rfl))).other W27 (Or.inr (sn_cN0_stored_waitingBytes hw))).other W31 (Or.inl (own_pw nd0 0 6 (by decide) rfl rfl))).other W35 (Or.inl (own_pw nd0 0 7 (by decide) rfl rfl))).other W39 (Or.inl (own_pw nd0 0 8 (by decide) rfl rfl)))
  have F_count_a1_51 := (((((((((P1_11.other W4 (Or.inl (own_pw nd0 0 1 (by decide) rfl rfl))).other W8 (Or.inl (own_pw nd0 0 2 (by decide) rfl rfl))).other W12 (Or.inl (own_pw nd0 0 3 (by decide) rfl rfl))).other W16 (Or.inl (own_pw nd0 0 4 (by decide) rfl rfl))).other W20 (Or.inl (own_pw nd0 0 5 (by decide) rfl rfl))).other W27 (Or.inr (sn_cN0_count_waitingBytes hw))).other W31 (Or.inl (own_pw nd0 0 6 (by decide) rfl rfl))).other W35 (Or.inl (own_pw nd0 0 7 (by decide) rfl rfl))).other W39 (Or.inl (own_pw nd0 0 8 (by decide) rfl rfl)))
  have F_admitted_a1_52 := (((((((((P1_12.other W4 (Or.inl (own_pw nd0 0 1 (by decide) rfl rfl))).other W8 (Or.inl (own_pw nd0 0 2 (by decide) rfl rfl))).other W12 (Or.inl (own_pw nd0 0 3 (by decide) rfl rfl))).other W16 (Or.inl (own_pw nd0 0 4 (by decide) rfl rfl))).other W20 (Or.inl (own_pw nd0 0 5 (by decide) rfl rfl))).other W27 (Or.inr (sn_cN0_admitted_waitingBytes hw))).other W31 (Or.inl (own_pw nd0 0 6 (by decide) rfl rfl))).other W35 (Or.inl (own_pw nd0 0 7 (by decide) rfl rfl))).other W39 (Or.inl (own_pw nd0 0 8 (by decide) rfl rfl)))
  have F_waitingBytes_a1_53 := (((F_waitingBytes_a1_27.other W31 (Or.inl (own_pw nd0 0 6 (by decide) rfl rfl))).other W35 (Or.inl (own_pw nd0 0 7 (by decide) rfl rfl))).other W39 (Or.inl (own_pw nd0 0 8 (by decide) rfl rfl)))
  have V_ac_54 := ((((((((V_ac_4.other W8 (own_pw nd0 1 2 (by decide) rfl rfl)).other W12 (own_pw nd0 1 3 (by decide) rfl rfl)).other W16 (own_pw nd0 1 4 (by decide) rfl rfl)).other W20 (own_pw nd0 1 5 (by decide) rfl rfl)).other W27 (Ne.symm (own_pw nd0 0 1 (by decide) rfl rfl))).other W31 (own_pw nd0 1 6 (by decide) rfl rfl)).other W35 (own_pw nd0 1 7 (by decide) rfl rfl)).other W39 (own_pw nd0 1 8 (by decide) rfl rfl))
  have V_ix_55 := (((((((V_ix_8.other W12 (own_pw nd0 2 3 (by decide) rfl rfl)).other W16 (own_pw nd0 2 4 (by decide) rfl rfl)).other W20 (own_pw nd0 2 5 (by decide) rfl rfl)).other W27 (Ne.symm (own_pw nd0 0 2 (by decide) rfl rfl))).other W31 (own_pw nd0 2 6 (by decide) rfl rfl)).other W35 (own_pw nd0 2 7 (by decide) rfl rfl)).other W39 (own_pw nd0 2 8 (by decide) rfl rfl))
  have V_bn_56 := ((((((V_bn_12.other W16 (own_pw nd0 3 4 (by decide) rfl rfl)).other W20 (own_pw nd0 3 5 (by decide) rfl rfl)).other W27 (Ne.symm (own_pw nd0 0 3 (by decide) rfl rfl))).other W31 (own_pw nd0 3 6 (by decide) rfl rfl)).other W35 (own_pw nd0 3 7 (by decide) rfl rfl)).other W39 (own_pw nd0 3 8 (by decide) rfl rfl))
  have V_ch_57 := (((((V_ch_16.other W20 (own_pw nd0 4 5 (by decide) rfl rfl)).other W27 (Ne.symm (own_pw nd0 0 4 (by decide) rfl rfl))).other W31 (own_pw nd0 4 6 (by decide) rfl rfl)).other W35 (own_pw nd0 4 7 (by decide) rfl rfl)).other W39 (own_pw nd0 4 8 (by decide) rfl rfl))
  have V_ky_58 := ((((V_ky_20.other W27 (Ne.symm (own_pw nd0 0 5 (by decide) rfl rfl))).other W31 (own_pw nd0 5 6 (by decide) rfl rfl)).other W35 (own_pw nd0 5 7 (by decide) rfl rfl)).other W39 (own_pw nd0 5 8 (by decide) rfl rfl))
  have V_mv_59 := ((V_mv_31.other W35 (own_pw nd0 6 7 (by decide) rfl rfl)).other W39 (own_pw nd0 6 8 (by decide) rfl rfl))
  have V_tr_60 := (V_tr_35.other W39 (own_pw nd0 7 8 (by decide) rfl rfl))
  obtain ⟨fs, hr, hrun, hended, hW, hsame⟩ := X39.leave (v := none) (fun _ => rfl)
  subst hA0
  refine ⟨_, _, K _ (X39.returnOut hx Bd.returns (hb hby d5_90) hr), hrun, hended, _, _, rfl, ?_, ⟨_, rfl⟩, hW, hsame.mono (by decide) (by decide)⟩
  show Q_add0 Z a1 p1 p2 p3 p4 kx q1 ac ix bn ch ky mv tr fr tg sd k_ac k_ix k_bn k_ch k_ky k_mv k_tr k_fr ac0 ac1 ac2 ix0 ix1 ix2 bn0 bn1 bn2 ch0 ch1 ch2 ky0 ky1 ky2 mv0 mv1 mv2 tr0 tr1 tr2 fr0 fr1 fr2 kv kk pk adm wb h0 n0 _ T39.heap _
  rw [e39]
  exact ⟨rfl, N39, Kp39, E_a1_40, F_actors_a1_41, F_indices_a1_42, F_branchNumbers_a1_43, F_chose_a1_44, F_keys_a1_45, F_moves_a1_46, F_transitions_a1_47, F_frames_a1_48, F_targets_a1_49, F_stored_a1_50, F_count_a1_51, F_admitted_a1_52, F_waitingBytes_a1_53, V_ac_54, V_ix_55, V_bn_56, V_ch_57, V_ky_58, V_mv_59, V_tr_60, V_fr_39⟩
def Q_add1 (Z : State) (a1 : Addr) (p1 : Int32) (p2 : Int32) (p3 : Int32) (p4 : Int32) (kx : Addr) (q1 : Int64) (ac : Addr) (ix : Addr) (bn : Addr) (ch : Addr) (ky : Addr) (mv : Addr) (tr : Addr) (fr : Addr) (tg : Addr) (sd : Addr) (k_ac : ClassId) (k_ix : ClassId) (k_bn : ClassId) (k_ch : ClassId) (k_ky : ClassId) (k_mv : ClassId) (k_tr : ClassId) (k_fr : ClassId) (ac0 : Value) (ac1 : Value) (ac2 : Value) (ix0 : Value) (ix1 : Value) (ix2 : Value) (bn0 : Value) (bn1 : Value) (bn2 : Value) (ch0 : Value) (ch1 : Value) (ch2 : Value) (ky0 : Value) (ky1 : Value) (ky2 : Value) (mv0 : Value) (mv1 : Value) (mv2 : Value) (tr0 : Value) (tr1 : Value) (tr2 : Value) (fr0 : Value) (fr1 : Value) (fr2 : Value) (kv : List Value) (kk : ClassId) (pk : Int32) (adm : Int32) (wb : Int64) (h0 : Heap) (n0 : Nat) (v : Option Value) (h : Heap) (L : List Loc) : Prop := v = none ∧ Fr n0 L ∧ Keep h0 h [a1, ac, ix, bn, ch, ky, mv, tr, fr] ∧ Exa Z h a1 cN0 ∧ Fld Z h a1 cN0 "actors" "[I" (.ref ac) ∧ Fld Z h a1 cN0 "indices" "[I" (.ref ix) ∧ Fld Z h a1 cN0 "branchNumbers" "[I" (.ref bn) ∧ Fld Z h a1 cN0 "chose" "[Z" (.ref ch) ∧ Fld Z h a1 cN0 "keys" "[[B" (.ref ky) ∧ Fld Z h a1 cN0 "moves" cN1 (.ref mv) ∧ Fld Z h a1 cN0 "transitions" cN2 (.ref tr) ∧ Fld Z h a1 cN0 "frames" "[J" (.ref fr) ∧ Fld Z h a1 cN0 "targets" "[I" (.ref tg) ∧ Fld Z h a1 cN0 "stored" "[Z" (.ref sd) ∧ Fld Z h a1 cN0 "count" "I" (.int (2 : Int32)) ∧ Fld Z h a1 cN0 "admitted" "I" (.int adm) ∧ Fld Z h a1 cN0 "waitingBytes" "J" (.long (wb + ((pk + (1 : Int32)).toInt64))) ∧ OAr Z h ac k_ac .int (oV ac0 (.int p1) ac2 (.int (0 : Int32))) ∧ OAr Z h ix k_ix .int (oV ix0 (.int p2) ix2 (.int (0 : Int32))) ∧ OAr Z h bn k_bn .int (oV bn0 (.int p3) bn2 (.int (0 : Int32))) ∧ OAr Z h ch k_ch .boolean (oV ch0 (.int (nar .boolean p4)) ch2 (.int (0 : Int32))) ∧ OAr Z h ky k_ky (.array .byte) (oV ky0 (.ref kx) ky2 .null) ∧ OAr Z h mv k_mv (.object "com/example/flote/flote/search/Search$Moves") (oV mv0 .null mv2 .null) ∧ OAr Z h tr k_tr (.object "com/example/flote/flote/search/Search$Branches") (oV tr0 .null tr2 .null) ∧ OAr Z h fr k_fr .long (oV fr0 (.long q1) fr2 (.long (0 : Int64)))
set_option maxRecDepth 65536 in
set_option maxHeartbeats 40000000 in
theorem rm_add1 (l : Launch) (Z : State) (a0 : Array Value) (hw : ∀ d ∈ tables_1, d.before a0 Z = true) (ws : List Jvm.Cond) (a1 : Addr) (p1 : Int32) (p2 : Int32) (p3 : Int32) (p4 : Int32) (kx : Addr) (q1 : Int64) (ac : Addr) (ix : Addr) (bn : Addr) (ch : Addr) (ky : Addr) (mv : Addr) (tr : Addr) (fr : Addr) (tg : Addr) (sd : Addr) (k_ac : ClassId) (k_ix : ClassId) (k_bn : ClassId) (k_ch : ClassId) (k_ky : ClassId) (k_mv : ClassId) (k_tr : ClassId) (k_fr : ClassId) (ac0 : Value) (ac1 : Value) (ac2 : Value) (ix0 : Value) (ix1 : Value) (ix2 : Value) (bn0 : Value) (bn1 : Value) (bn2 : Value) (ch0 : Value) (ch1 : Value) (ch2 : Value) (ky0 : Value) (ky1 : Value) (ky2 : Value) (mv0 : Value) (mv1 : Value) (mv2 : Value) (tr0 : Value) (tr1 : Value) (tr2 : Value) (fr0 : Value) (fr1 : Value) (fr2 : Value) (kv : List Value) (kk : ClassId) (pk : Int32) (adm : Int32) (wb : Int64) (h0 : Heap) (n0 : Nat) (Z0 : n0 ≤ h0.size) (E_a1 : Exa Z h0 a1 cN0) (F_actors_a1 : Fld Z h0 a1 cN0 "actors" "[I" (.ref ac)) (F_indices_a1 : Fld Z h0 a1 cN0 "indices" "[I" (.ref ix)) (F_branchNumbers_a1 : Fld Z h0 a1 cN0 "branchNumbers" "[I" (.ref bn)) (F_chose_a1 : Fld Z h0 a1 cN0 "chose" "[Z" (.ref ch)) (F_keys_a1 : Fld Z h0 a1 cN0 "keys" "[[B" (.ref ky)) (F_moves_a1 : Fld Z h0 a1 cN0 "moves" cN1 (.ref mv)) (F_transitions_a1 : Fld Z h0 a1 cN0 "transitions" cN2 (.ref tr)) (F_frames_a1 : Fld Z h0 a1 cN0 "frames" "[J" (.ref fr)) (F_targets_a1 : Fld Z h0 a1 cN0 "targets" "[I" (.ref tg)) (F_stored_a1 : Fld Z h0 a1 cN0 "stored" "[Z" (.ref sd)) (F_count_a1 : Fld Z h0 a1 cN0 "count" "I" (.int (1 : Int32))) (F_admitted_a1 : Fld Z h0 a1 cN0 "admitted" "I" (.int adm)) (F_waitingBytes_a1 : Fld Z h0 a1 cN0 "waitingBytes" "J" (.long wb)) (V_ac : OAr Z h0 ac k_ac .int (oV ac0 ac1 ac2 (.int (0 : Int32)))) (V_ix : OAr Z h0 ix k_ix .int (oV ix0 ix1 ix2 (.int (0 : Int32)))) (V_bn : OAr Z h0 bn k_bn .int (oV bn0 bn1 bn2 (.int (0 : Int32)))) (V_ch : OAr Z h0 ch k_ch .boolean (oV ch0 ch1 ch2 (.int (0 : Int32)))) (V_ky : OAr Z h0 ky k_ky (.array .byte) (oV ky0 ky1 ky2 .null)) (V_mv : OAr Z h0 mv k_mv (.object "com/example/flote/flote/search/Search$Moves") (oV mv0 mv1 mv2 .null)) (V_tr : OAr Z h0 tr k_tr (.object "com/example/flote/flote/search/Search$Branches") (oV tr0 tr1 tr2 .null)) (V_fr : OAr Z h0 fr k_fr .long (oV fr0 fr1 fr2 (.long (0 : Int64)))) (V_kx : OAr Z h0 kx kk .byte kv) (E_kx : Exa Z h0 kx "[B") (hk : kv.length.toInt32 = pk) (ovr : OvrA Z k_ky .byte "[B") (g_a1 : n0 ≤ a1) (g_ac : n0 ≤ ac) (g_ix : n0 ≤ ix) (g_bn : n0 ≤ bn) (g_ch : n0 ≤ ch) (g_ky : n0 ≤ ky) (g_mv : n0 ≤ mv) (g_tr : n0 ≤ tr) (g_fr : n0 ≤ fr) (nd0 : OND [a1, ac, ix, bn, ch, ky, mv, tr, fr, tg, sd, kx]) :
    MetFree l mN3 (head1 (Jvm.Cond.code mN3 prog_108_method_2_code 11 none :: ws) ({ frames := 1, cells := 0, slots := 0, locals := 13 } : Room)) (fun a U => a = #[(.ref a1), (.int p1), (.int p2), (.int p3), (.int p4), (.ref kx), .null, (.long q1), .null] ∧ Z.Warmed39 U.vm ∧ U.heap = h0) (fun _ _ _ _ _ => True) (fun _ U o U' => ∃ v L, o = .returned v ∧ Q_add1 Z a1 p1 p2 p3 p4 kx q1 ac ix bn ch ky mv tr fr tg sd k_ac k_ix k_bn k_ch k_ky k_mv k_tr k_fr ac0 ac1 ac2 ix0 ix1 ix2 bn0 bn1 bn2 ch0 ch1 ch2 ky0 ky1 ky2 mv0 mv1 mv2 tr0 tr1 tr2 fr0 fr1 fr2 kv kk pk adm wb h0 n0 v U'.heap L ∧ FrameEnd U o U' L ({ frames := 1, cells := 0, slots := 0, locals := 13 } : Room).cells ({ frames := 1, cells := 0, slots := 0, locals := 13 } : Room).slots) := by
  refine MetFree.of_bodySF (plainFor_of_name pn_com_example_flote_flote_search_Reached) hisR ?_
  intro p e s m args below meth c s₁ Bd hml0 hP hK
  obtain ⟨rfl, hZ, hh⟩ := hP
  have hx := Bd.exec
  have hby := Bd.bytes
  have hml : c.maxLocals = 11 := hml0
  have hown : s.vm.findClass "com/example/flote/flote/search/Reached" = some m.cls := findClass_of_methodNamed Bd.named
  have hnm := (name_of_methodNamed Bd.named Bd.method).1
  have X0 : Stand p l e ({ frames := 1, cells := 0, slots := 0, locals := 13 } : Room) s m #[(.ref a1), (.int p1), (.int p2), (.int p3), (.int p4), (.ref kx), .null, (.long q1), .null] below meth c s₁ [] 0 0 := Stand.of_body Bd
  have e0 : s₁.heap = h0 := by rw [← hh, Bd.state]; rfl
  have N0 := Fr.nil n0
  obtain ⟨A0, hA0⟩ : ∃ z, z = s₁.setTop (entryFrame m #[(.ref a1), (.int p1), (.int p2), (.int p3), (.int p4), (.ref kx), .null, (.long q1), .null] 11) := ⟨_, rfl⟩
  have K : OGo p e below A0 s₁ (mkF m 0 #[rv a1, iv p1, iv p2, iv p3, iv p4, rv kx, .val .null, .val (.long q1), .second, .val .null, .unset] []) := fun t k => hA0 ▸ castTop (ef_5_n6_8 m a1 p1 p2 p3 p4 kx q1) k
  replace K : OGo p e below A0 s₁ (mkF m 1 #[rv a1, iv p1, iv p2, iv p3, iv p4, rv kx, .val .null, .val (.long q1), .second, .val .null, .unset] [(.ref a1)]) := fun t k => K t (XS.aloadN X0.here hx rfl (hb hby d5_0) rfl rfl k)
  obtain ⟨cq1, qp1, qp1'⟩ := E_a1.cell
  obtain ⟨_, _, ⟨T1, L1, k1, n1⟩, -, X1, ⟨Lc1, hQ1, l1, y1, z1⟩, st1⟩ := X0.privateBack hx (y := mN1) hown (mvT hZ (ow hw 44 rfl)) (mvT hZ (ow hw 45 rfl)) (own_selp hZ (ow hw 2 rfl) (ow hw 46 rfl) (ow hw 45 rfl)) (Cond.privateMethod_at (mvP hZ (ow hw 46 rfl) (args := #[]))) (mvT hZ (ow hw 47 rfl)) (by decide) (backOf (W := 0) (rm_next1 l Z a0 hw [] a1 ac ix bn ch ky mv tr fr tg sd k_ac [ac0, ac1, ac2, (.int (0 : Int32)), (.int (0 : Int32)), (.int (0 : Int32)), (.int (0 : Int32)), (.int (0 : Int32)), (.int (0 : Int32)), (.int (0 : Int32)), (.int (0 : Int32)), (.int (0 : Int32)), (.int (0 : Int32)), (.int (0 : Int32)), (.int (0 : Int32)), (.int (0 : Int32))] adm wb h0 n0 Z0 E_a1 F_actors_a1 F_indices_a1 F_branchNumbers_a1 F_chose_a1 F_keys_a1 F_moves_a1 F_transitions_a1 F_frames_a1 F_targets_a1 F_stored_a1 F_count_a1 F_admitted_a1 F_waitingBytes_a1 V_ac (own_pw nd0 0 1 (by decide) rfl rfl) g_a1 rfl) hZ (ow hw 47 rfl) (ow hw 3 rfl) (by decide) (by decide)) (g := (mkF m 1 #[rv a1, iv p1, iv p2, iv p3, iv p4, rv kx, .val .null, .val (.long q1), .second, .val .null, .unset] [(.ref a1)])) rfl (by rw [hml]; rfl) (Steps.refl _) (a := a1) (by rw [e0]; exact qp1) qp1' (argsL := []) (rest := []) (lenOf pd___I rfl) rfl (by show 2 * 0 + _ ≤ _; exact Nat.le_of_eq rfl) (hb hby d5_1) (fun _ _ => ⟨rfl, e0, (by decide : 0 + 0 ≤ _), (by decide : 0 + 0 ≤ _)⟩)
  dsimp only [Pt.U, Pt.locs, Pt.cells, Pt.slots] at X1 l1 y1 z1 st1 hQ1
  subst l1 y1 z1
  obtain ⟨hp1, e1⟩ : ∃ z, T1.heap = z := ⟨_, rfl⟩
  rw [e1] at hQ1
  obtain ⟨rfl, Nq1, K1, P1_0, P1_1, P1_2, P1_3, P1_4, P1_5, P1_6, P1_7, P1_8, P1_9, P1_10, P1_11, P1_12, P1_13⟩ := hQ1
  have Z1 : n0 ≤ hp1.size := Nat.le_trans Z0 K1.1
  have Kp1 : Keep h0 hp1 [a1, ac, ix, bn, ch, ky, mv, tr, fr] := (Keep.refl h0 [a1, ac, ix, bn, ch, ky, mv, tr, fr]).trans K1 (allS (Or.inl (List.mem_of_getElem? (i := 0) rfl)) all0)
  have N1 := Fr.app N0 Nq1
  replace K : OGo p e below A0 T1 (mkF m 4 #[rv a1, iv p1, iv p2, iv p3, iv p4, rv kx, .val .null, .val (.long q1), .second, .val .null, .unset] [(.int 1)]) := fun t k => K t (st1.trans k)
  replace K : OGo p e below A0 T1 (mkF m 6 #[rv a1, iv p1, iv p2, iv p3, iv p4, rv kx, .val .null, .val (.long q1), .second, .val .null, iv 1] []) := fun t k => K t (XS.istore X1.here hx rfl (hb hby d5_4) rfl (l' := #[rv a1, iv p1, iv p2, iv p3, iv p4, rv kx, .val .null, .val (.long q1), .second, .val .null, iv 1]) rfl k)
  replace K : OGo p e below A0 T1 (mkF m 7 #[rv a1, iv p1, iv p2, iv p3, iv p4, rv kx, .val .null, .val (.long q1), .second, .val .null, iv 1] [(.ref a1)]) := fun t k => K t (XS.aloadN X1.here hx rfl (hb hby d5_6) rfl rfl k)
  obtain ⟨T2, X2, e2, st2⟩ := getF X1 hx hZ hown (host := "") (Or.inl (ow hw 11 rfl)) Via.refl e1 P1_1 (g := (mkF m 7 #[rv a1, iv p1, iv p2, iv p3, iv p4, rv kx, .val .null, .val (.long q1), .second, .val .null, iv 1] [(.ref a1)])) rfl rfl (hb hby d5_7)
  replace K : OGo p e below A0 T2 (mkF m 10 #[rv a1, iv p1, iv p2, iv p3, iv p4, rv kx, .val .null, .val (.long q1), .second, .val .null, iv 1] [(.ref ac)]) := fun t k => K t (st2 t k)
  replace K : OGo p e below A0 T2 (mkF m 12 #[rv a1, iv p1, iv p2, iv p3, iv p4, rv kx, .val .null, .val (.long q1), .second, .val .null, iv 1] [(.int 1), (.ref ac)]) := fun t k => K t (XS.iload X2.here hx rfl (hb hby d5_10) rfl k)
  replace K : OGo p e below A0 T2 (mkF m 13 #[rv a1, iv p1, iv p2, iv p3, iv p4, rv kx, .val .null, .val (.long q1), .second, .val .null, iv 1] [(.int p1), (.int 1), (.ref ac)]) := fun t k => K t (XS.iloadN X2.here hx rfl (hb hby d5_12) rfl k)
  have V_ac_3 := (V_ac.keep K1 (ninS (Ne.symm (own_pw nd0 0 1 (by decide) rfl rfl)) nin0))
  obtain ⟨T4, h4, X4, e4, W4, V4, st4⟩ := own_stI X2 hx hZ e2 V_ac_3 (j := (1 : Int32)) (by decide) (Nat.le_of_ble_eq_true rfl) (g := (mkF m 13 #[rv a1, iv p1, iv p2, iv p3, iv p4, rv kx, .val .null, .val (.long q1), .second, .val .null, iv 1] [(.int p1), (.int 1), (.ref ac)])) rfl rfl (hb hby d5_13)
  have Z4 : n0 ≤ h4.size := Nat.le_trans Z1 (Keep.of_wr W4).1
  have Kp4 : Keep h0 h4 [a1, ac, ix, bn, ch, ky, mv, tr, fr] := Kp1.wr W4 (Or.inl (List.mem_of_getElem? (i := 1) rfl))
  have V_ac_4 : OAr Z h4 ac k_ac .int (oV ac0 (.int p1) ac2 (.int (0 : Int32))) := V4
  have N4 := Fr.snoc X4 N1 g_ac
  replace K : OGo p e below A0 T4 (mkF m 14 #[rv a1, iv p1, iv p2, iv p3, iv p4, rv kx, .val .null, .val (.long q1), .second, .val .null, iv 1] []) := fun t k => K t (st4 t k)
  replace K : OGo p e below A0 T4 (mkF m 15 #[rv a1, iv p1, iv p2, iv p3, iv p4, rv kx, .val .null, .val (.long q1), .second, .val .null, iv 1] [(.ref a1)]) := fun t k => K t (XS.aloadN X4.here hx rfl (hb hby d5_14) rfl rfl k)
  have F_indices_a1_5 := (P1_2.other W4 (Or.inl (own_pw nd0 0 1 (by decide) rfl rfl)))
  obtain ⟨T6, X6, e6, st6⟩ := getF X4 hx hZ hown (host := "") (Or.inl (ow hw 13 rfl)) Via.refl e4 F_indices_a1_5 (g := (mkF m 15 #[rv a1, iv p1, iv p2, iv p3, iv p4, rv kx, .val .null, .val (.long q1), .second, .val .null, iv 1] [(.ref a1)])) rfl rfl (hb hby d5_15)
  replace K : OGo p e below A0 T6 (mkF m 18 #[rv a1, iv p1, iv p2, iv p3, iv p4, rv kx, .val .null, .val (.long q1), .second, .val .null, iv 1] [(.ref ix)]) := fun t k => K t (st6 t k)
  replace K : OGo p e below A0 T6 (mkF m 20 #[rv a1, iv p1, iv p2, iv p3, iv p4, rv kx, .val .null, .val (.long q1), .second, .val .null, iv 1] [(.int 1), (.ref ix)]) := fun t k => K t (XS.iload X6.here hx rfl (hb hby d5_18) rfl k)
  replace K : OGo p e below A0 T6 (mkF m 21 #[rv a1, iv p1, iv p2, iv p3, iv p4, rv kx, .val .null, .val (.long q1), .second, .val .null, iv 1] [(.int p2), (.int 1), (.ref ix)]) := fun t k => K t (XS.iloadN X6.here hx rfl (hb hby d5_20) rfl k)
  have V_ix_7 := ((V_ix.keep K1 (ninS (Ne.symm (own_pw nd0 0 2 (by decide) rfl rfl)) nin0)).other W4 (Ne.symm (own_pw nd0 1 2 (by decide) rfl rfl)))
  obtain ⟨T8, h8, X8, e8, W8, V8, st8⟩ := own_stI X6 hx hZ e6 V_ix_7 (j := (1 : Int32)) (by decide) (Nat.le_of_ble_eq_true rfl) (g := (mkF m 21 #[rv a1, iv p1, iv p2, iv p3, iv p4, rv kx, .val .null, .val (.long q1), .second, .val .null, iv 1] [(.int p2), (.int 1), (.ref ix)])) rfl rfl (hb hby d5_21)
  have Z8 : n0 ≤ h8.size := Nat.le_trans Z4 (Keep.of_wr W8).1
  have Kp8 : Keep h0 h8 [a1, ac, ix, bn, ch, ky, mv, tr, fr] := Kp4.wr W8 (Or.inl (List.mem_of_getElem? (i := 2) rfl))
  have V_ix_8 : OAr Z h8 ix k_ix .int (oV ix0 (.int p2) ix2 (.int (0 : Int32))) := V8
  have N8 := Fr.snoc X8 N4 g_ix
  replace K : OGo p e below A0 T8 (mkF m 22 #[rv a1, iv p1, iv p2, iv p3, iv p4, rv kx, .val .null, .val (.long q1), .second, .val .null, iv 1] []) := fun t k => K t (st8 t k)
  replace K : OGo p e below A0 T8 (mkF m 23 #[rv a1, iv p1, iv p2, iv p3, iv p4, rv kx, .val .null, .val (.long q1), .second, .val .null, iv 1] [(.ref a1)]) := fun t k => K t (XS.aloadN X8.here hx rfl (hb hby d5_22) rfl rfl k)
  have F_branchNumbers_a1_9 := ((P1_3.other W4 (Or.inl (own_pw nd0 0 1 (by decide) rfl rfl))).other W8 (Or.inl (own_pw nd0 0 2 (by decide) rfl rfl)))
  obtain ⟨T10, X10, e10, st10⟩ := getF X8 hx hZ hown (host := "") (Or.inl (ow hw 15 rfl)) Via.refl e8 F_branchNumbers_a1_9 (g := (mkF m 23 #[rv a1, iv p1, iv p2, iv p3, iv p4, rv kx, .val .null, .val (.long q1), .second, .val .null, iv 1] [(.ref a1)])) rfl rfl (hb hby d5_23)
  replace K : OGo p e below A0 T10 (mkF m 26 #[rv a1, iv p1, iv p2, iv p3, iv p4, rv kx, .val .null, .val (.long q1), .second, .val .null, iv 1] [(.ref bn)]) := fun t k => K t (st10 t k)
  replace K : OGo p e below A0 T10 (mkF m 28 #[rv a1, iv p1, iv p2, iv p3, iv p4, rv kx, .val .null, .val (.long q1), .second, .val .null, iv 1] [(.int 1), (.ref bn)]) := fun t k => K t (XS.iload X10.here hx rfl (hb hby d5_26) rfl k)
  replace K : OGo p e below A0 T10 (mkF m 29 #[rv a1, iv p1, iv p2, iv p3, iv p4, rv kx, .val .null, .val (.long q1), .second, .val .null, iv 1] [(.int p3), (.int 1), (.ref bn)]) := fun t k => K t (XS.iloadN X10.here hx rfl (hb hby d5_28) rfl k)
  have V_bn_11 := (((V_bn.keep K1 (ninS (Ne.symm (own_pw nd0 0 3 (by decide) rfl rfl)) nin0)).other W4 (Ne.symm (own_pw nd0 1 3 (by decide) rfl rfl))).other W8 (Ne.symm (own_pw nd0 2 3 (by decide) rfl rfl)))
  obtain ⟨T12, h12, X12, e12, W12, V12, st12⟩ := own_stI X10 hx hZ e10 V_bn_11 (j := (1 : Int32)) (by decide) (Nat.le_of_ble_eq_true rfl) (g := (mkF m 29 #[rv a1, iv p1, iv p2, iv p3, iv p4, rv kx, .val .null, .val (.long q1), .second, .val .null, iv 1] [(.int p3), (.int 1), (.ref bn)])) rfl rfl (hb hby d5_29)
  have Z12 : n0 ≤ h12.size := Nat.le_trans Z8 (Keep.of_wr W12).1
  have Kp12 : Keep h0 h12 [a1, ac, ix, bn, ch, ky, mv, tr, fr] := Kp8.wr W12 (Or.inl (List.mem_of_getElem? (i := 3) rfl))
  have V_bn_12 : OAr Z h12 bn k_bn .int (oV bn0 (.int p3) bn2 (.int (0 : Int32))) := V12
  have N12 := Fr.snoc X12 N8 g_bn
  replace K : OGo p e below A0 T12 (mkF m 30 #[rv a1, iv p1, iv p2, iv p3, iv p4, rv kx, .val .null, .val (.long q1), .second, .val .null, iv 1] []) := fun t k => K t (st12 t k)
  replace K : OGo p e below A0 T12 (mkF m 31 #[rv a1, iv p1, iv p2, iv p3, iv p4, rv kx, .val .null, .val (.long q1), .second, .val .null, iv 1] [(.ref a1)]) := fun t k => K t (XS.aloadN X12.here hx rfl (hb hby d5_30) rfl rfl k)
  have F_chose_a1_13 := (((P1_4.other W4 (Or.inl (own_pw nd0 0 1 (by decide) rfl rfl))).other W8 (Or.inl (own_pw nd0 0 2 (by decide) rfl rfl))).other W12 (Or.inl (own_pw nd0 0 3 (by decide) rfl rfl)))
  obtain ⟨T14, X14, e14, st14⟩ := getF X12 hx hZ hown (host := "") (Or.inl (ow hw 18 rfl)) Via.refl e12 F_chose_a1_13 (g := (mkF m 31 #[rv a1, iv p1, iv p2, iv p3, iv p4, rv kx, .val .null, .val (.long q1), .second, .val .null, iv 1] [(.ref a1)])) rfl rfl (hb hby d5_31)
  replace K : OGo p e below A0 T14 (mkF m 34 #[rv a1, iv p1, iv p2, iv p3, iv p4, rv kx, .val .null, .val (.long q1), .second, .val .null, iv 1] [(.ref ch)]) := fun t k => K t (st14 t k)
  replace K : OGo p e below A0 T14 (mkF m 36 #[rv a1, iv p1, iv p2, iv p3, iv p4, rv kx, .val .null, .val (.long q1), .second, .val .null, iv 1] [(.int 1), (.ref ch)]) := fun t k => K t (XS.iload X14.here hx rfl (hb hby d5_34) rfl k)
  replace K : OGo p e below A0 T14 (mkF m 38 #[rv a1, iv p1, iv p2, iv p3, iv p4, rv kx, .val .null, .val (.long q1), .second, .val .null, iv 1] [(.int p4), (.int 1), (.ref ch)]) := fun t k => K t (XS.iload X14.here hx rfl (hb hby d5_36) rfl k)
  have V_ch_15 := ((((V_ch.keep K1 (ninS (Ne.symm (own_pw nd0 0 4 (by decide) rfl rfl)) nin0)).other W4 (Ne.symm (own_pw nd0 1 4 (by decide) rfl rfl))).other W8 (Ne.symm (own_pw nd0 2 4 (by decide) rfl rfl))).other W12 (Ne.symm (own_pw nd0 3 4 (by decide) rfl rfl)))
  obtain ⟨T16, h16, X16, e16, W16, V16, st16⟩ := own_stZ X14 hx hZ e14 V_ch_15 (j := (1 : Int32)) (by decide) (Nat.le_of_ble_eq_true rfl) (g := (mkF m 38 #[rv a1, iv p1, iv p2, iv p3, iv p4, rv kx, .val .null, .val (.long q1), .second, .val .null, iv 1] [(.int p4), (.int 1), (.ref ch)])) rfl rfl (hb hby d5_38)
  have Z16 : n0 ≤ h16.size := Nat.le_trans Z12 (Keep.of_wr W16).1
  have Kp16 : Keep h0 h16 [a1, ac, ix, bn, ch, ky, mv, tr, fr] := Kp12.wr W16 (Or.inl (List.mem_of_getElem? (i := 4) rfl))
  have V_ch_16 : OAr Z h16 ch k_ch .boolean (oV ch0 (.int (nar .boolean p4)) ch2 (.int (0 : Int32))) := V16
  have N16 := Fr.snoc X16 N12 g_ch
  replace K : OGo p e below A0 T16 (mkF m 39 #[rv a1, iv p1, iv p2, iv p3, iv p4, rv kx, .val .null, .val (.long q1), .second, .val .null, iv 1] []) := fun t k => K t (st16 t k)
  replace K : OGo p e below A0 T16 (mkF m 40 #[rv a1, iv p1, iv p2, iv p3, iv p4, rv kx, .val .null, .val (.long q1), .second, .val .null, iv 1] [(.ref a1)]) := fun t k => K t (XS.aloadN X16.here hx rfl (hb hby d5_39) rfl rfl k)
  have F_keys_a1_17 := ((((P1_5.other W4 (Or.inl (own_pw nd0 0 1 (by decide) rfl rfl))).other W8 (Or.inl (own_pw nd0 0 2 (by decide) rfl rfl))).other W12 (Or.inl (own_pw nd0 0 3 (by decide) rfl rfl))).other W16 (Or.inl (own_pw nd0 0 4 (by decide) rfl rfl)))
  obtain ⟨T18, X18, e18, st18⟩ := getF X16 hx hZ hown (host := "") (Or.inl (ow hw 22 rfl)) Via.refl e16 F_keys_a1_17 (g := (mkF m 40 #[rv a1, iv p1, iv p2, iv p3, iv p4, rv kx, .val .null, .val (.long q1), .second, .val .null, iv 1] [(.ref a1)])) rfl rfl (hb hby d5_40)
  replace K : OGo p e below A0 T18 (mkF m 43 #[rv a1, iv p1, iv p2, iv p3, iv p4, rv kx, .val .null, .val (.long q1), .second, .val .null, iv 1] [(.ref ky)]) := fun t k => K t (st18 t k)
  replace K : OGo p e below A0 T18 (mkF m 45 #[rv a1, iv p1, iv p2, iv p3, iv p4, rv kx, .val .null, .val (.long q1), .second, .val .null, iv 1] [(.int 1), (.ref ky)]) := fun t k => K t (XS.iload X18.here hx rfl (hb hby d5_43) rfl k)
  replace K : OGo p e below A0 T18 (mkF m 47 #[rv a1, iv p1, iv p2, iv p3, iv p4, rv kx, .val .null, .val (.long q1), .second, .val .null, iv 1] [(.ref kx), (.int 1), (.ref ky)]) := fun t k => K t (XS.aload X18.here hx rfl (hb hby d5_45) rfl rfl k)
  have V_ky_19 := (((((V_ky.keep K1 (ninS (Ne.symm (own_pw nd0 0 5 (by decide) rfl rfl)) nin0)).other W4 (Ne.symm (own_pw nd0 1 5 (by decide) rfl rfl))).other W8 (Ne.symm (own_pw nd0 2 5 (by decide) rfl rfl))).other W12 (Ne.symm (own_pw nd0 3 5 (by decide) rfl rfl))).other W16 (Ne.symm (own_pw nd0 4 5 (by decide) rfl rfl)))
  have E_kx_21 := (((((E_kx.keep K1).wr W4).wr W8).wr W12).wr W16)
  have Sto22 := own_sto V_ky_19 ovr (Ins.self E_kx_21)
  obtain ⟨T20, h20, X20, e20, W20, V20, st20⟩ := own_stR X18 hx hZ e18 V_ky_19 rfl (j := (1 : Int32)) (by decide) (Nat.le_of_ble_eq_true rfl) Sto22 (g := (mkF m 47 #[rv a1, iv p1, iv p2, iv p3, iv p4, rv kx, .val .null, .val (.long q1), .second, .val .null, iv 1] [(.ref kx), (.int 1), (.ref ky)])) rfl rfl (hb hby d5_47)
  have Z20 : n0 ≤ h20.size := Nat.le_trans Z16 (Keep.of_wr W20).1
  have Kp20 : Keep h0 h20 [a1, ac, ix, bn, ch, ky, mv, tr, fr] := Kp16.wr W20 (Or.inl (List.mem_of_getElem? (i := 5) rfl))
  have V_ky_20 : OAr Z h20 ky k_ky (.array .byte) (oV ky0 (.ref kx) ky2 .null) := V20
  have N20 := Fr.snoc X20 N16 g_ky
  replace K : OGo p e below A0 T20 (mkF m 48 #[rv a1, iv p1, iv p2, iv p3, iv p4, rv kx, .val .null, .val (.long q1), .second, .val .null, iv 1] []) := fun t k => K t (st20 t k)
  replace K : OGo p e below A0 T20 (mkF m 49 #[rv a1, iv p1, iv p2, iv p3, iv p4, rv kx, .val .null, .val (.long q1), .second, .val .null, iv 1] [(.ref a1)]) := fun t k => K t (XS.aloadN X20.here hx rfl (hb hby d5_48) rfl rfl k)
  replace K : OGo p e below A0 T20 (mkF m 50 #[rv a1, iv p1, iv p2, iv p3, iv p4, rv kx, .val .null, .val (.long q1), .second, .val .null, iv 1] [(.ref a1), (.ref a1)]) := fun t k => K t (XS.dup X20.here hx rfl (hb hby d5_49) rfl rfl k)
  have F_waitingBytes_a1_23 := (((((P1_13.other W4 (Or.inl (own_pw nd0 0 1 (by decide) rfl rfl))).other W8 (Or.inl (own_pw nd0 0 2 (by decide) rfl rfl))).other W12 (Or.inl (own_pw nd0 0 3 (by decide) rfl rfl))).other W16 (Or.inl (own_pw nd0 0 4 (by decide) rfl rfl))).other W20 (Or.inl (own_pw nd0 0 5 (by decide) rfl rfl)))
  obtain ⟨T24, X24, e24, st24⟩ := getF X20 hx hZ hown (host := "") (Or.inl (ow hw 59 rfl)) Via.refl e20 F_waitingBytes_a1_23 (g := (mkF m 50 #[rv a1, iv p1, iv p2, iv p3, iv p4, rv kx, .val .null, .val (.long q1), .second, .val .null, iv 1] [(.ref a1), (.ref a1)])) rfl rfl (hb hby d5_50)
  replace K : OGo p e below A0 T24 (mkF m 53 #[rv a1, iv p1, iv p2, iv p3, iv p4, rv kx, .val .null, .val (.long q1), .second, .val .null, iv 1] [(.long wb), (.ref a1)]) := fun t k => K t (st24 t k)
  replace K : OGo p e below A0 T24 (mkF m 55 #[rv a1, iv p1, iv p2, iv p3, iv p4, rv kx, .val .null, .val (.long q1), .second, .val .null, iv 1] [(.ref kx), (.long wb), (.ref a1)]) := fun t k => K t (XS.aload X24.here hx rfl (hb hby d5_53) rfl rfl k)
  have V_kx_25 := ((((((V_kx.keep K1 (ninS (Ne.symm (own_pw nd0 0 11 (by decide) rfl rfl)) nin0)).other W4 (Ne.symm (own_pw nd0 1 11 (by decide) rfl rfl))).other W8 (Ne.symm (own_pw nd0 2 11 (by decide) rfl rfl))).other W12 (Ne.symm (own_pw nd0 3 11 (by decide) rfl rfl))).other W16 (Ne.symm (own_pw nd0 4 11 (by decide) rfl rfl))).other W20 (Ne.symm (own_pw nd0 5 11 (by decide) rfl rfl)))
  replace K : OGo p e below A0 T24 (mkF m 56 #[rv a1, iv p1, iv p2, iv p3, iv p4, rv kx, .val .null, .val (.long q1), .second, .val .null, iv 1] [(.int pk), (.long wb), (.ref a1)]) := fun t k => K t (own_len X24 hx hZ e24 V_kx_25 (n := pk) hk (g := (mkF m 55 #[rv a1, iv p1, iv p2, iv p3, iv p4, rv kx, .val .null, .val (.long q1), .second, .val .null, iv 1] [(.ref kx), (.long wb), (.ref a1)])) rfl rfl (hb hby d5_55) t k)
  replace K : OGo p e below A0 T24 (mkF m 57 #[rv a1, iv p1, iv p2, iv p3, iv p4, rv kx, .val .null, .val (.long q1), .second, .val .null, iv 1] [(.int 1), (.int pk), (.long wb), (.ref a1)]) := fun t k => K t (XS.iconst X24.here hx rfl (hb hby d5_56) k)
  replace K : OGo p e below A0 T24 (mkF m 58 #[rv a1, iv p1, iv p2, iv p3, iv p4, rv kx, .val .null, .val (.long q1), .second, .val .null, iv 1] [(.int (pk + (1 : Int32))), (.long wb), (.ref a1)]) := fun t k => K t (XS.iadd X24.here hx rfl (hb hby d5_57) rfl k)
  replace K : OGo p e below A0 T24 (mkF m 59 #[rv a1, iv p1, iv p2, iv p3, iv p4, rv kx, .val .null, .val (.long q1), .second, .val .null, iv 1] [(.long ((pk + (1 : Int32)).toInt64)), (.long wb), (.ref a1)]) := fun t k => K t (XS.i2l X24.here hx rfl (hb hby d5_58) rfl k)
  replace K : OGo p e below A0 T24 (mkF m 60 #[rv a1, iv p1, iv p2, iv p3, iv p4, rv kx, .val .null, .val (.long q1), .second, .val .null, iv 1] [(.long (wb + ((pk + (1 : Int32)).toInt64))), (.ref a1)]) := fun t k => K t (XS.ladd X24.here hx rfl (hb hby d5_59) rfl k)
  have E_a1_26 := (((((P1_0.wr W4).wr W8).wr W12).wr W16).wr W20)
  obtain ⟨T27, h27, X27, e27, W27, st27⟩ := putF X24 hx hZ hown (host := "") (Or.inl (ow hw 59 rfl)) Via.refl e24 F_waitingBytes_a1_23 E_a1_26 (Or.inl (ow hw 60 rfl)) (ow hw 2 rfl) (ty := .long) (by decide) rfl rfl (g := (mkF m 60 #[rv a1, iv p1, iv p2, iv p3, iv p4, rv kx, .val .null, .val (.long q1), .second, .val .null, iv 1] [(.long (wb + ((pk + (1 : Int32)).toInt64))), (.ref a1)])) rfl rfl (hb hby d5_60)
  have Z27 : n0 ≤ h27.size := Nat.le_trans Z20 (Keep.of_wr W27).1
  have Kp27 : Keep h0 h27 [a1, ac, ix, bn, ch, ky, mv, tr, fr] := Kp20.wr W27 (Or.inl (List.mem_of_getElem? (i := 0) rfl))
  have F_waitingBytes_a1_27 := F_waitingBytes_a1_23.same W27
  have N27 := Fr.snoc X27 N20 g_a1
  replace K : OGo p e below A0 T27 (mkF m 63 #[rv a1, iv p1, iv p2, iv p3, iv p4, rv kx, .val .null, .val (.long q1), .second, .val .null, iv 1] []) := fun t k => K t (st27 t k)
  replace K : OGo p e below A0 T27 (mkF m 64 #[rv a1, iv p1, iv p2, iv p3, iv p4, rv kx, .val .null, .val (.long q1), .second, .val .null, iv 1] [(.ref a1)]) := fun t k => K t (XS.aloadN X27.here hx rfl (hb hby d5_63) rfl rfl k)
  have F_moves_a1_28 := ((((((P1_6.other W4 (Or.inl (own_pw nd0 0 1 (by decide) rfl rfl))).other W8 (Or.inl (own_pw nd0 0 2 (by decide) rfl rfl))).other W12 (Or.inl (own_pw nd0 0 3 (by decide) rfl rfl))).other W16 (Or.inl (own_pw nd0 0 4 (by decide) rfl rfl))).other W20 (Or.inl (own_pw nd0 0 5 (by decide) rfl rfl))).other W27 (Or.inr (sn_cN0_moves_waitingBytes hw)))
  obtain ⟨T29, X29, e29, st29⟩ := getF X27 hx hZ hown (host := "") (Or.inl (ow hw 26 rfl)) Via.refl e27 F_moves_a1_28 (g := (mkF m 64 #[rv a1, iv p1, iv p2, iv p3, iv p4, rv kx, .val .null, .val (.long q1), .second, .val .null, iv 1] [(.ref a1)])) rfl rfl (hb hby d5_64)
  replace K : OGo p e below A0 T29 (mkF m 67 #[rv a1, iv p1, iv p2, iv p3, iv p4, rv kx, .val .null, .val (.long q1), .second, .val .null, iv 1] [(.ref mv)]) := fun t k => K t (st29 t k)
  replace K : OGo p e below A0 T29 (mkF m 69 #[rv a1, iv p1, iv p2, iv p3, iv p4, rv kx, .val .null, .val (.long q1), .second, .val .null, iv 1] [(.int 1), (.ref mv)]) := fun t k => K t (XS.iload X29.here hx rfl (hb hby d5_67) rfl k)
  replace K : OGo p e below A0 T29 (mkF m 71 #[rv a1, iv p1, iv p2, iv p3, iv p4, rv kx, .val .null, .val (.long q1), .second, .val .null, iv 1] [.null, (.int 1), (.ref mv)]) := fun t k => K t (XS.aload X29.here hx rfl (hb hby d5_69) rfl rfl k)
  have V_mv_30 := (((((((V_mv.keep K1 (ninS (Ne.symm (own_pw nd0 0 6 (by decide) rfl rfl)) nin0)).other W4 (Ne.symm (own_pw nd0 1 6 (by decide) rfl rfl))).other W8 (Ne.symm (own_pw nd0 2 6 (by decide) rfl rfl))).other W12 (Ne.symm (own_pw nd0 3 6 (by decide) rfl rfl))).other W16 (Ne.symm (own_pw nd0 4 6 (by decide) rfl rfl))).other W20 (Ne.symm (own_pw nd0 5 6 (by decide) rfl rfl))).other W27 (Ne.symm (own_pw nd0 0 6 (by decide) rfl rfl)))
  obtain ⟨T31, h31, X31, e31, W31, V31, st31⟩ := own_stR X29 hx hZ e29 V_mv_30 rfl (j := (1 : Int32)) (by decide) (Nat.le_of_ble_eq_true rfl) (Or.inl rfl) (g := (mkF m 71 #[rv a1, iv p1, iv p2, iv p3, iv p4, rv kx, .val .null, .val (.long q1), .second, .val .null, iv 1] [.null, (.int 1), (.ref mv)])) rfl rfl (hb hby d5_71)
  have Z31 : n0 ≤ h31.size := Nat.le_trans Z27 (Keep.of_wr W31).1
  have Kp31 : Keep h0 h31 [a1, ac, ix, bn, ch, ky, mv, tr, fr] := Kp27.wr W31 (Or.inl (List.mem_of_getElem? (i := 6) rfl))
  have V_mv_31 : OAr Z h31 mv k_mv (.object "com/example/flote/flote/search/Search$Moves") (oV mv0 .null mv2 .null) := V31
  have N31 := Fr.snoc X31 N27 g_mv
  replace K : OGo p e below A0 T31 (mkF m 72 #[rv a1, iv p1, iv p2, iv p3, iv p4, rv kx, .val .null, .val (.long q1), .second, .val .null, iv 1] []) := fun t k => K t (st31 t k)
  replace K : OGo p e below A0 T31 (mkF m 73 #[rv a1, iv p1, iv p2, iv p3, iv p4, rv kx, .val .null, .val (.long q1), .second, .val .null, iv 1] [(.ref a1)]) := fun t k => K t (XS.aloadN X31.here hx rfl (hb hby d5_72) rfl rfl k)
  have F_transitions_a1_32 := (((((((P1_7.other W4 (Or.inl (own_pw nd0 0 1 (by decide) rfl rfl))).other W8 (Or.inl (own_pw nd0 0 2 (by decide) rfl rfl))).other W12 (Or.inl (own_pw nd0 0 3 (by decide) rfl rfl))).other W16 (Or.inl (own_pw nd0 0 4 (by decide) rfl rfl))).other W20 (Or.inl (own_pw nd0 0 5 (by decide) rfl rfl))).other W27 (Or.inr (sn_cN0_transitions_waitingBytes hw))).other W31 (Or.inl (own_pw nd0 0 6 (by decide) rfl rfl)))
  obtain ⟨T33, X33, e33, st33⟩ := getF X31 hx hZ hown (host := "") (Or.inl (ow hw 30 rfl)) Via.refl e31 F_transitions_a1_32 (g := (mkF m 73 #[rv a1, iv p1, iv p2, iv p3, iv p4, rv kx, .val .null, .val (.long q1), .second, .val .null, iv 1] [(.ref a1)])) rfl rfl (hb hby d5_73)
  replace K : OGo p e below A0 T33 (mkF m 76 #[rv a1, iv p1, iv p2, iv p3, iv p4, rv kx, .val .null, .val (.long q1), .second, .val .null, iv 1] [(.ref tr)]) := fun t k => K t (st33 t k)
  replace K : OGo p e below A0 T33 (mkF m 78 #[rv a1, iv p1, iv p2, iv p3, iv p4, rv kx, .val .null, .val (.long q1), .second, .val .null, iv 1] [(.int 1), (.ref tr)]) := fun t k => K t (XS.iload X33.here hx rfl (hb hby d5_76) rfl k)
  replace K : OGo p e below A0 T33 (mkF m 80 #[rv a1, iv p1, iv p2, iv p3, iv p4, rv kx, .val .null, .val (.long q1), .second, .val .null, iv 1] [.null, (.int 1), (.ref tr)]) := fun t k => K t (XS.aload X33.here hx rfl (hb hby d5_78) rfl rfl k)
  have V_tr_34 := ((((((((V_tr.keep K1 (ninS (Ne.symm (own_pw nd0 0 7 (by decide) rfl rfl)) nin0)).other W4 (Ne.symm (own_pw nd0 1 7 (by decide) rfl rfl))).other W8 (Ne.symm (own_pw nd0 2 7 (by decide) rfl rfl))).other W12 (Ne.symm (own_pw nd0 3 7 (by decide) rfl rfl))).other W16 (Ne.symm (own_pw nd0 4 7 (by decide) rfl rfl))).other W20 (Ne.symm (own_pw nd0 5 7 (by decide) rfl rfl))).other W27 (Ne.symm (own_pw nd0 0 7 (by decide) rfl rfl))).other W31 (Ne.symm (own_pw nd0 6 7 (by decide) rfl rfl)))
  obtain ⟨T35, h35, X35, e35, W35, V35, st35⟩ := own_stR X33 hx hZ e33 V_tr_34 rfl (j := (1 : Int32)) (by decide) (Nat.le_of_ble_eq_true rfl) (Or.inl rfl) (g := (mkF m 80 #[rv a1, iv p1, iv p2, iv p3, iv p4, rv kx, .val .null, .val (.long q1), .second, .val .null, iv 1] [.null, (.int 1), (.ref tr)])) rfl rfl (hb hby d5_80)
  have Z35 : n0 ≤ h35.size := Nat.le_trans Z31 (Keep.of_wr W35).1
  have Kp35 : Keep h0 h35 [a1, ac, ix, bn, ch, ky, mv, tr, fr] := Kp31.wr W35 (Or.inl (List.mem_of_getElem? (i := 7) rfl))
  have V_tr_35 : OAr Z h35 tr k_tr (.object "com/example/flote/flote/search/Search$Branches") (oV tr0 .null tr2 .null) := V35
  have N35 := Fr.snoc X35 N31 g_tr
  replace K : OGo p e below A0 T35 (mkF m 81 #[rv a1, iv p1, iv p2, iv p3, iv p4, rv kx, .val .null, .val (.long q1), .second, .val .null, iv 1] []) := fun t k => K t (st35 t k)
  replace K : OGo p e below A0 T35 (mkF m 82 #[rv a1, iv p1, iv p2, iv p3, iv p4, rv kx, .val .null, .val (.long q1), .second, .val .null, iv 1] [(.ref a1)]) := fun t k => K t (XS.aloadN X35.here hx rfl (hb hby d5_81) rfl rfl k)
  have F_frames_a1_36 := ((((((((P1_8.other W4 (Or.inl (own_pw nd0 0 1 (by decide) rfl rfl))).other W8 (Or.inl (own_pw nd0 0 2 (by decide) rfl rfl))).other W12 (Or.inl (own_pw nd0 0 3 (by decide) rfl rfl))).other W16 (Or.inl (own_pw nd0 0 4 (by decide) rfl rfl))).other W20 (Or.inl (own_pw nd0 0 5 (by decide) rfl rfl))).other W27 (Or.inr (sn_cN0_frames_waitingBytes hw))).other W31 (Or.inl (own_pw nd0 0 6 (by decide) rfl rfl))).other W35 (Or.inl (own_pw nd0 0 7 (by decide) rfl rfl)))
  obtain ⟨T37, X37, e37, st37⟩ := getF X35 hx hZ hown (host := "") (Or.inl (ow hw 33 rfl)) Via.refl e35 F_frames_a1_36 (g := (mkF m 82 #[rv a1, iv p1, iv p2, iv p3, iv p4, rv kx, .val .null, .val (.long q1), .second, .val .null, iv 1] [(.ref a1)])) rfl rfl (hb hby d5_82)
  replace K : OGo p e below A0 T37 (mkF m 85 #[rv a1, iv p1, iv p2, iv p3, iv p4, rv kx, .val .null, .val (.long q1), .second, .val .null, iv 1] [(.ref fr)]) := fun t k => K t (st37 t k)
  replace K : OGo p e below A0 T37 (mkF m 87 #[rv a1, iv p1, iv p2, iv p3, iv p4, rv kx, .val .null, .val (.long q1), .second, .val .null, iv 1] [(.int 1), (.ref fr)]) := fun t k => K t (XS.iload X37.here hx rfl (hb hby d5_85) rfl k)
  replace K : OGo p e below A0 T37 (mkF m 89 #[rv a1, iv p1, iv p2, iv p3, iv p4, rv kx, .val .null, .val (.long q1), .second, .val .null, iv 1] [(.long q1), (.int 1), (.ref fr)]) := fun t k => K t (XS.lload X37.here hx rfl (hb hby d5_87) rfl k)
  have V_fr_38 := (((((((((V_fr.keep K1 (ninS (Ne.symm (own_pw nd0 0 8 (by decide) rfl rfl)) nin0)).other W4 (Ne.symm (own_pw nd0 1 8 (by decide) rfl rfl))).other W8 (Ne.symm (own_pw nd0 2 8 (by decide) rfl rfl))).other W12 (Ne.symm (own_pw nd0 3 8 (by decide) rfl rfl))).other W16 (Ne.symm (own_pw nd0 4 8 (by decide) rfl rfl))).other W20 (Ne.symm (own_pw nd0 5 8 (by decide) rfl rfl))).other W27 (Ne.symm (own_pw nd0 0 8 (by decide) rfl rfl))).other W31 (Ne.symm (own_pw nd0 6 8 (by decide) rfl rfl))).other W35 (Ne.symm (own_pw nd0 7 8 (by decide) rfl rfl)))
  obtain ⟨T39, h39, X39, e39, W39, V39, st39⟩ := own_stJ X37 hx hZ e37 V_fr_38 (j := (1 : Int32)) (by decide) (Nat.le_of_ble_eq_true rfl) (g := (mkF m 89 #[rv a1, iv p1, iv p2, iv p3, iv p4, rv kx, .val .null, .val (.long q1), .second, .val .null, iv 1] [(.long q1), (.int 1), (.ref fr)])) rfl rfl (hb hby d5_89)
  have Z39 : n0 ≤ h39.size := Nat.le_trans Z35 (Keep.of_wr W39).1
  have Kp39 : Keep h0 h39 [a1, ac, ix, bn, ch, ky, mv, tr, fr] := Kp35.wr W39 (Or.inl (List.mem_of_getElem? (i := 8) rfl))
  have V_fr_39 : OAr Z h39 fr k_fr .long (oV fr0 (.long q1) fr2 (.long (0 : Int64))) := V39
  have N39 := Fr.snoc X39 N35 g_fr
  replace K : OGo p e below A0 T39 (mkF m 90 #[rv a1, iv p1, iv p2, iv p3, iv p4, rv kx, .val .null, .val (.long q1), .second, .val .null, iv 1] []) := fun t k => K t (st39 t k)
  have E_a1_40 := ((((E_a1_26.wr W27).wr W31).wr W35).wr W39)
  have F_actors_a1_41 := (((((((((P1_1.other W4 (Or.inl (own_pw nd0 0 1 (by decide) rfl rfl))).other W8 (Or.inl (own_pw nd0 0 2 (by decide) rfl rfl))).other W12 (Or.inl (own_pw nd0 0 3 (by decide) rfl rfl))).other W16 (Or.inl (own_pw nd0 0 4 (by decide) rfl rfl))).other W20 (Or.inl (own_pw nd0 0 5 (by decide) rfl rfl))).other W27 (Or.inr (sn_cN0_actors_waitingBytes hw))).other W31 (Or.inl (own_pw nd0 0 6 (by decide) rfl rfl))).other W35 (Or.inl (own_pw nd0 0 7 (by decide) rfl rfl))).other W39 (Or.inl (own_pw nd0 0 8 (by decide) rfl rfl)))
  have F_indices_a1_42 := ((((((((F_indices_a1_5.other W8 (Or.inl (own_pw nd0 0 2 (by decide) rfl rfl))).other W12 (Or.inl (own_pw nd0 0 3 (by decide) rfl rfl))).other W16 (Or.inl (own_pw nd0 0 4 (by decide) rfl rfl))).other W20 (Or.inl (own_pw nd0 0 5 (by decide) rfl rfl))).other W27 (Or.inr (sn_cN0_indices_waitingBytes hw))).other W31 (Or.inl (own_pw nd0 0 6 (by decide) rfl rfl))).other W35 (Or.inl (own_pw nd0 0 7 (by decide) rfl rfl))).other W39 (Or.inl (own_pw nd0 0 8 (by decide) rfl rfl)))
  have F_branchNumbers_a1_43 := (((((((F_branchNumbers_a1_9.other W12 (Or.inl (own_pw nd0 0 3 (by decide) rfl rfl))).other W16 (Or.inl (own_pw nd0 0 4 (by decide) rfl rfl))).other W20 (Or.inl (own_pw nd0 0 5 (by decide) rfl rfl))).other W27 (Or.inr (sn_cN0_branchNumbers_waitingBytes hw))).other W31 (Or.inl (own_pw nd0 0 6 (by decide) rfl rfl))).other W35 (Or.inl (own_pw nd0 0 7 (by decide) rfl rfl))).other W39 (Or.inl (own_pw nd0 0 8 (by decide) rfl rfl)))
  have F_chose_a1_44 := ((((((F_chose_a1_13.other W16 (Or.inl (own_pw nd0 0 4 (by decide) rfl rfl))).other W20 (Or.inl (own_pw nd0 0 5 (by decide) rfl rfl))).other W27 (Or.inr (sn_cN0_chose_waitingBytes hw))).other W31 (Or.inl (own_pw nd0 0 6 (by decide) rfl rfl))).other W35 (Or.inl (own_pw nd0 0 7 (by decide) rfl rfl))).other W39 (Or.inl (own_pw nd0 0 8 (by decide) rfl rfl)))
  have F_keys_a1_45 := (((((F_keys_a1_17.other W20 (Or.inl (own_pw nd0 0 5 (by decide) rfl rfl))).other W27 (Or.inr (sn_cN0_keys_waitingBytes hw))).other W31 (Or.inl (own_pw nd0 0 6 (by decide) rfl rfl))).other W35 (Or.inl (own_pw nd0 0 7 (by decide) rfl rfl))).other W39 (Or.inl (own_pw nd0 0 8 (by decide) rfl rfl)))
  have F_moves_a1_46 := (((F_moves_a1_28.other W31 (Or.inl (own_pw nd0 0 6 (by decide) rfl rfl))).other W35 (Or.inl (own_pw nd0 0 7 (by decide) rfl rfl))).other W39 (Or.inl (own_pw nd0 0 8 (by decide) rfl rfl)))
  have F_transitions_a1_47 := ((F_transitions_a1_32.other W35 (Or.inl (own_pw nd0 0 7 (by decide) rfl rfl))).other W39 (Or.inl (own_pw nd0 0 8 (by decide) rfl rfl)))
  have F_frames_a1_48 := (F_frames_a1_36.other W39 (Or.inl (own_pw nd0 0 8 (by decide) rfl rfl)))
  have F_targets_a1_49 := (((((((((P1_9.other W4 (Or.inl (own_pw nd0 0 1 (by decide) rfl rfl))).other W8 (Or.inl (own_pw nd0 0 2 (by decide) rfl rfl))).other W12 (Or.inl (own_pw nd0 0 3 (by decide) rfl rfl))).other W16 (Or.inl (own_pw nd0 0 4 (by decide) rfl rfl))).other W20 (Or.inl (own_pw nd0 0 5 (by decide) rfl rfl))).other W27 (Or.inr (sn_cN0_targets_waitingBytes hw))).other W31 (Or.inl (own_pw nd0 0 6 (by decide) rfl rfl))).other W35 (Or.inl (own_pw nd0 0 7 (by decide) rfl rfl))).other W39 (Or.inl (own_pw nd0 0 8 (by decide) rfl rfl)))
  have F_stored_a1_50 := (((((((((P1_10.other W4 (Or.inl (own_pw nd0 0 1 (by decide) rfl rfl))).other W8 (Or.inl (own_pw nd0 0 2 (by decide) rfl rfl))).other W12 (Or.inl (own_pw nd0 0 3 (by decide) rfl rfl))).other W16 (Or.inl (own_pw nd0 0 4 (by decide) rfl rfl))).other W20 (Or.inl (own_pw nd0 0 5 (by decide) rfl rfl))).other W27 (Or.inr (sn_cN0_stored_waitingBytes hw))).other W31 (Or.inl (own_pw nd0 0 6 (by decide) rfl rfl))).other W35 (Or.inl (own_pw nd0 0 7 (by decide) rfl rfl))).other W39 (Or.inl (own_pw nd0 0 8 (by decide) rfl rfl)))
  have F_count_a1_51 := (((((((((P1_11.other W4 (Or.inl (own_pw nd0 0 1 (by decide) rfl rfl))).other W8 (Or.inl (own_pw nd0 0 2 (by decide) rfl rfl))).other W12 (Or.inl (own_pw nd0 0 3 (by decide) rfl rfl))).other W16 (Or.inl (own_pw nd0 0 4 (by decide) rfl rfl))).other W20 (Or.inl (own_pw nd0 0 5 (by decide) rfl rfl))).other W27 (Or.inr (sn_cN0_count_waitingBytes hw))).other W31 (Or.inl (own_pw nd0 0 6 (by decide) rfl rfl))).other W35 (Or.inl (own_pw nd0 0 7 (by decide) rfl rfl))).other W39 (Or.inl (own_pw nd0 0 8 (by decide) rfl rfl)))
  have F_admitted_a1_52 := (((((((((P1_12.other W4 (Or.inl (own_pw nd0 0 1 (by decide) rfl rfl))).other W8 (Or.inl (own_pw nd0 0 2 (by decide) rfl rfl))).other W12 (Or.inl (own_pw nd0 0 3 (by decide) rfl rfl))).other W16 (Or.inl (own_pw nd0 0 4 (by decide) rfl rfl))).other W20 (Or.inl (own_pw nd0 0 5 (by decide) rfl rfl))).other W27 (Or.inr (sn_cN0_admitted_waitingBytes hw))).other W31 (Or.inl (own_pw nd0 0 6 (by decide) rfl rfl))).other W35 (Or.inl (own_pw nd0 0 7 (by decide) rfl rfl))).other W39 (Or.inl (own_pw nd0 0 8 (by decide) rfl rfl)))
  have F_waitingBytes_a1_53 := (((F_waitingBytes_a1_27.other W31 (Or.inl (own_pw nd0 0 6 (by decide) rfl rfl))).other W35 (Or.inl (own_pw nd0 0 7 (by decide) rfl rfl))).other W39 (Or.inl (own_pw nd0 0 8 (by decide) rfl rfl)))
  have V_ac_54 := ((((((((V_ac_4.other W8 (own_pw nd0 1 2 (by decide) rfl rfl)).other W12 (own_pw nd0 1 3 (by decide) rfl rfl)).other W16 (own_pw nd0 1 4 (by decide) rfl rfl)).other W20 (own_pw nd0 1 5 (by decide) rfl rfl)).other W27 (Ne.symm (own_pw nd0 0 1 (by decide) rfl rfl))).other W31 (own_pw nd0 1 6 (by decide) rfl rfl)).other W35 (own_pw nd0 1 7 (by decide) rfl rfl)).other W39 (own_pw nd0 1 8 (by decide) rfl rfl))
  have V_ix_55 := (((((((V_ix_8.other W12 (own_pw nd0 2 3 (by decide) rfl rfl)).other W16 (own_pw nd0 2 4 (by decide) rfl rfl)).other W20 (own_pw nd0 2 5 (by decide) rfl rfl)).other W27 (Ne.symm (own_pw nd0 0 2 (by decide) rfl rfl))).other W31 (own_pw nd0 2 6 (by decide) rfl rfl)).other W35 (own_pw nd0 2 7 (by decide) rfl rfl)).other W39 (own_pw nd0 2 8 (by decide) rfl rfl))
  have V_bn_56 := ((((((V_bn_12.other W16 (own_pw nd0 3 4 (by decide) rfl rfl)).other W20 (own_pw nd0 3 5 (by decide) rfl rfl)).other W27 (Ne.symm (own_pw nd0 0 3 (by decide) rfl rfl))).other W31 (own_pw nd0 3 6 (by decide) rfl rfl)).other W35 (own_pw nd0 3 7 (by decide) rfl rfl)).other W39 (own_pw nd0 3 8 (by decide) rfl rfl))
  have V_ch_57 := (((((V_ch_16.other W20 (own_pw nd0 4 5 (by decide) rfl rfl)).other W27 (Ne.symm (own_pw nd0 0 4 (by decide) rfl rfl))).other W31 (own_pw nd0 4 6 (by decide) rfl rfl)).other W35 (own_pw nd0 4 7 (by decide) rfl rfl)).other W39 (own_pw nd0 4 8 (by decide) rfl rfl))
  have V_ky_58 := ((((V_ky_20.other W27 (Ne.symm (own_pw nd0 0 5 (by decide) rfl rfl))).other W31 (own_pw nd0 5 6 (by decide) rfl rfl)).other W35 (own_pw nd0 5 7 (by decide) rfl rfl)).other W39 (own_pw nd0 5 8 (by decide) rfl rfl))
  have V_mv_59 := ((V_mv_31.other W35 (own_pw nd0 6 7 (by decide) rfl rfl)).other W39 (own_pw nd0 6 8 (by decide) rfl rfl))
  have V_tr_60 := (V_tr_35.other W39 (own_pw nd0 7 8 (by decide) rfl rfl))
  obtain ⟨fs, hr, hrun, hended, hW, hsame⟩ := X39.leave (v := none) (fun _ => rfl)
  subst hA0
  refine ⟨_, _, K _ (X39.returnOut hx Bd.returns (hb hby d5_90) hr), hrun, hended, _, _, rfl, ?_, ⟨_, rfl⟩, hW, hsame.mono (by decide) (by decide)⟩
  show Q_add1 Z a1 p1 p2 p3 p4 kx q1 ac ix bn ch ky mv tr fr tg sd k_ac k_ix k_bn k_ch k_ky k_mv k_tr k_fr ac0 ac1 ac2 ix0 ix1 ix2 bn0 bn1 bn2 ch0 ch1 ch2 ky0 ky1 ky2 mv0 mv1 mv2 tr0 tr1 tr2 fr0 fr1 fr2 kv kk pk adm wb h0 n0 _ T39.heap _
  rw [e39]
  exact ⟨rfl, N39, Kp39, E_a1_40, F_actors_a1_41, F_indices_a1_42, F_branchNumbers_a1_43, F_chose_a1_44, F_keys_a1_45, F_moves_a1_46, F_transitions_a1_47, F_frames_a1_48, F_targets_a1_49, F_stored_a1_50, F_count_a1_51, F_admitted_a1_52, F_waitingBytes_a1_53, V_ac_54, V_ix_55, V_bn_56, V_ch_57, V_ky_58, V_mv_59, V_tr_60, V_fr_39⟩
def Q_add2 (Z : State) (a1 : Addr) (p1 : Int32) (p2 : Int32) (p3 : Int32) (p4 : Int32) (kx : Addr) (q1 : Int64) (ac : Addr) (ix : Addr) (bn : Addr) (ch : Addr) (ky : Addr) (mv : Addr) (tr : Addr) (fr : Addr) (tg : Addr) (sd : Addr) (k_ac : ClassId) (k_ix : ClassId) (k_bn : ClassId) (k_ch : ClassId) (k_ky : ClassId) (k_mv : ClassId) (k_tr : ClassId) (k_fr : ClassId) (ac0 : Value) (ac1 : Value) (ac2 : Value) (ix0 : Value) (ix1 : Value) (ix2 : Value) (bn0 : Value) (bn1 : Value) (bn2 : Value) (ch0 : Value) (ch1 : Value) (ch2 : Value) (ky0 : Value) (ky1 : Value) (ky2 : Value) (mv0 : Value) (mv1 : Value) (mv2 : Value) (tr0 : Value) (tr1 : Value) (tr2 : Value) (fr0 : Value) (fr1 : Value) (fr2 : Value) (kv : List Value) (kk : ClassId) (pk : Int32) (adm : Int32) (wb : Int64) (h0 : Heap) (n0 : Nat) (v : Option Value) (h : Heap) (L : List Loc) : Prop := v = none ∧ Fr n0 L ∧ Keep h0 h [a1, ac, ix, bn, ch, ky, mv, tr, fr] ∧ Exa Z h a1 cN0 ∧ Fld Z h a1 cN0 "actors" "[I" (.ref ac) ∧ Fld Z h a1 cN0 "indices" "[I" (.ref ix) ∧ Fld Z h a1 cN0 "branchNumbers" "[I" (.ref bn) ∧ Fld Z h a1 cN0 "chose" "[Z" (.ref ch) ∧ Fld Z h a1 cN0 "keys" "[[B" (.ref ky) ∧ Fld Z h a1 cN0 "moves" cN1 (.ref mv) ∧ Fld Z h a1 cN0 "transitions" cN2 (.ref tr) ∧ Fld Z h a1 cN0 "frames" "[J" (.ref fr) ∧ Fld Z h a1 cN0 "targets" "[I" (.ref tg) ∧ Fld Z h a1 cN0 "stored" "[Z" (.ref sd) ∧ Fld Z h a1 cN0 "count" "I" (.int (3 : Int32)) ∧ Fld Z h a1 cN0 "admitted" "I" (.int adm) ∧ Fld Z h a1 cN0 "waitingBytes" "J" (.long (wb + ((pk + (1 : Int32)).toInt64))) ∧ OAr Z h ac k_ac .int (oV ac0 ac1 (.int p1) (.int (0 : Int32))) ∧ OAr Z h ix k_ix .int (oV ix0 ix1 (.int p2) (.int (0 : Int32))) ∧ OAr Z h bn k_bn .int (oV bn0 bn1 (.int p3) (.int (0 : Int32))) ∧ OAr Z h ch k_ch .boolean (oV ch0 ch1 (.int (nar .boolean p4)) (.int (0 : Int32))) ∧ OAr Z h ky k_ky (.array .byte) (oV ky0 ky1 (.ref kx) .null) ∧ OAr Z h mv k_mv (.object "com/example/flote/flote/search/Search$Moves") (oV mv0 mv1 .null .null) ∧ OAr Z h tr k_tr (.object "com/example/flote/flote/search/Search$Branches") (oV tr0 tr1 .null .null) ∧ OAr Z h fr k_fr .long (oV fr0 fr1 (.long q1) (.long (0 : Int64)))
set_option maxRecDepth 65536 in
set_option maxHeartbeats 40000000 in
theorem rm_add2 (l : Launch) (Z : State) (a0 : Array Value) (hw : ∀ d ∈ tables_1, d.before a0 Z = true) (ws : List Jvm.Cond) (a1 : Addr) (p1 : Int32) (p2 : Int32) (p3 : Int32) (p4 : Int32) (kx : Addr) (q1 : Int64) (ac : Addr) (ix : Addr) (bn : Addr) (ch : Addr) (ky : Addr) (mv : Addr) (tr : Addr) (fr : Addr) (tg : Addr) (sd : Addr) (k_ac : ClassId) (k_ix : ClassId) (k_bn : ClassId) (k_ch : ClassId) (k_ky : ClassId) (k_mv : ClassId) (k_tr : ClassId) (k_fr : ClassId) (ac0 : Value) (ac1 : Value) (ac2 : Value) (ix0 : Value) (ix1 : Value) (ix2 : Value) (bn0 : Value) (bn1 : Value) (bn2 : Value) (ch0 : Value) (ch1 : Value) (ch2 : Value) (ky0 : Value) (ky1 : Value) (ky2 : Value) (mv0 : Value) (mv1 : Value) (mv2 : Value) (tr0 : Value) (tr1 : Value) (tr2 : Value) (fr0 : Value) (fr1 : Value) (fr2 : Value) (kv : List Value) (kk : ClassId) (pk : Int32) (adm : Int32) (wb : Int64) (h0 : Heap) (n0 : Nat) (Z0 : n0 ≤ h0.size) (E_a1 : Exa Z h0 a1 cN0) (F_actors_a1 : Fld Z h0 a1 cN0 "actors" "[I" (.ref ac)) (F_indices_a1 : Fld Z h0 a1 cN0 "indices" "[I" (.ref ix)) (F_branchNumbers_a1 : Fld Z h0 a1 cN0 "branchNumbers" "[I" (.ref bn)) (F_chose_a1 : Fld Z h0 a1 cN0 "chose" "[Z" (.ref ch)) (F_keys_a1 : Fld Z h0 a1 cN0 "keys" "[[B" (.ref ky)) (F_moves_a1 : Fld Z h0 a1 cN0 "moves" cN1 (.ref mv)) (F_transitions_a1 : Fld Z h0 a1 cN0 "transitions" cN2 (.ref tr)) (F_frames_a1 : Fld Z h0 a1 cN0 "frames" "[J" (.ref fr)) (F_targets_a1 : Fld Z h0 a1 cN0 "targets" "[I" (.ref tg)) (F_stored_a1 : Fld Z h0 a1 cN0 "stored" "[Z" (.ref sd)) (F_count_a1 : Fld Z h0 a1 cN0 "count" "I" (.int (2 : Int32))) (F_admitted_a1 : Fld Z h0 a1 cN0 "admitted" "I" (.int adm)) (F_waitingBytes_a1 : Fld Z h0 a1 cN0 "waitingBytes" "J" (.long wb)) (V_ac : OAr Z h0 ac k_ac .int (oV ac0 ac1 ac2 (.int (0 : Int32)))) (V_ix : OAr Z h0 ix k_ix .int (oV ix0 ix1 ix2 (.int (0 : Int32)))) (V_bn : OAr Z h0 bn k_bn .int (oV bn0 bn1 bn2 (.int (0 : Int32)))) (V_ch : OAr Z h0 ch k_ch .boolean (oV ch0 ch1 ch2 (.int (0 : Int32)))) (V_ky : OAr Z h0 ky k_ky (.array .byte) (oV ky0 ky1 ky2 .null)) (V_mv : OAr Z h0 mv k_mv (.object "com/example/flote/flote/search/Search$Moves") (oV mv0 mv1 mv2 .null)) (V_tr : OAr Z h0 tr k_tr (.object "com/example/flote/flote/search/Search$Branches") (oV tr0 tr1 tr2 .null)) (V_fr : OAr Z h0 fr k_fr .long (oV fr0 fr1 fr2 (.long (0 : Int64)))) (V_kx : OAr Z h0 kx kk .byte kv) (E_kx : Exa Z h0 kx "[B") (hk : kv.length.toInt32 = pk) (ovr : OvrA Z k_ky .byte "[B") (g_a1 : n0 ≤ a1) (g_ac : n0 ≤ ac) (g_ix : n0 ≤ ix) (g_bn : n0 ≤ bn) (g_ch : n0 ≤ ch) (g_ky : n0 ≤ ky) (g_mv : n0 ≤ mv) (g_tr : n0 ≤ tr) (g_fr : n0 ≤ fr) (nd0 : OND [a1, ac, ix, bn, ch, ky, mv, tr, fr, tg, sd, kx]) :
    MetFree l mN3 (head1 (Jvm.Cond.code mN3 prog_108_method_2_code 11 none :: ws) ({ frames := 1, cells := 0, slots := 0, locals := 13 } : Room)) (fun a U => a = #[(.ref a1), (.int p1), (.int p2), (.int p3), (.int p4), (.ref kx), .null, (.long q1), .null] ∧ Z.Warmed39 U.vm ∧ U.heap = h0) (fun _ _ _ _ _ => True) (fun _ U o U' => ∃ v L, o = .returned v ∧ Q_add2 Z a1 p1 p2 p3 p4 kx q1 ac ix bn ch ky mv tr fr tg sd k_ac k_ix k_bn k_ch k_ky k_mv k_tr k_fr ac0 ac1 ac2 ix0 ix1 ix2 bn0 bn1 bn2 ch0 ch1 ch2 ky0 ky1 ky2 mv0 mv1 mv2 tr0 tr1 tr2 fr0 fr1 fr2 kv kk pk adm wb h0 n0 v U'.heap L ∧ FrameEnd U o U' L ({ frames := 1, cells := 0, slots := 0, locals := 13 } : Room).cells ({ frames := 1, cells := 0, slots := 0, locals := 13 } : Room).slots) := by
  refine MetFree.of_bodySF (plainFor_of_name pn_com_example_flote_flote_search_Reached) hisR ?_
  intro p e s m args below meth c s₁ Bd hml0 hP hK
  obtain ⟨rfl, hZ, hh⟩ := hP
  have hx := Bd.exec
  have hby := Bd.bytes
  have hml : c.maxLocals = 11 := hml0
  have hown : s.vm.findClass "com/example/flote/flote/search/Reached" = some m.cls := findClass_of_methodNamed Bd.named
  have hnm := (name_of_methodNamed Bd.named Bd.method).1
  have X0 : Stand p l e ({ frames := 1, cells := 0, slots := 0, locals := 13 } : Room) s m #[(.ref a1), (.int p1), (.int p2), (.int p3), (.int p4), (.ref kx), .null, (.long q1), .null] below meth c s₁ [] 0 0 := Stand.of_body Bd
  have e0 : s₁.heap = h0 := by rw [← hh, Bd.state]; rfl
  have N0 := Fr.nil n0
  obtain ⟨A0, hA0⟩ : ∃ z, z = s₁.setTop (entryFrame m #[(.ref a1), (.int p1), (.int p2), (.int p3), (.int p4), (.ref kx), .null, (.long q1), .null] 11) := ⟨_, rfl⟩
  have K : OGo p e below A0 s₁ (mkF m 0 #[rv a1, iv p1, iv p2, iv p3, iv p4, rv kx, .val .null, .val (.long q1), .second, .val .null, .unset] []) := fun t k => hA0 ▸ castTop (ef_5_n6_8 m a1 p1 p2 p3 p4 kx q1) k
  replace K : OGo p e below A0 s₁ (mkF m 1 #[rv a1, iv p1, iv p2, iv p3, iv p4, rv kx, .val .null, .val (.long q1), .second, .val .null, .unset] [(.ref a1)]) := fun t k => K t (XS.aloadN X0.here hx rfl (hb hby d5_0) rfl rfl k)
  obtain ⟨cq1, qp1, qp1'⟩ := E_a1.cell
  obtain ⟨_, _, ⟨T1, L1, k1, n1⟩, -, X1, ⟨Lc1, hQ1, l1, y1, z1⟩, st1⟩ := X0.privateBack hx (y := mN1) hown (mvT hZ (ow hw 44 rfl)) (mvT hZ (ow hw 45 rfl)) (own_selp hZ (ow hw 2 rfl) (ow hw 46 rfl) (ow hw 45 rfl)) (Cond.privateMethod_at (mvP hZ (ow hw 46 rfl) (args := #[]))) (mvT hZ (ow hw 47 rfl)) (by decide) (backOf (W := 0) (rm_next2 l Z a0 hw [] a1 ac ix bn ch ky mv tr fr tg sd k_ac [ac0, ac1, ac2, (.int (0 : Int32)), (.int (0 : Int32)), (.int (0 : Int32)), (.int (0 : Int32)), (.int (0 : Int32)), (.int (0 : Int32)), (.int (0 : Int32)), (.int (0 : Int32)), (.int (0 : Int32)), (.int (0 : Int32)), (.int (0 : Int32)), (.int (0 : Int32)), (.int (0 : Int32))] adm wb h0 n0 Z0 E_a1 F_actors_a1 F_indices_a1 F_branchNumbers_a1 F_chose_a1 F_keys_a1 F_moves_a1 F_transitions_a1 F_frames_a1 F_targets_a1 F_stored_a1 F_count_a1 F_admitted_a1 F_waitingBytes_a1 V_ac (own_pw nd0 0 1 (by decide) rfl rfl) g_a1 rfl) hZ (ow hw 47 rfl) (ow hw 3 rfl) (by decide) (by decide)) (g := (mkF m 1 #[rv a1, iv p1, iv p2, iv p3, iv p4, rv kx, .val .null, .val (.long q1), .second, .val .null, .unset] [(.ref a1)])) rfl (by rw [hml]; rfl) (Steps.refl _) (a := a1) (by rw [e0]; exact qp1) qp1' (argsL := []) (rest := []) (lenOf pd___I rfl) rfl (by show 2 * 0 + _ ≤ _; exact Nat.le_of_eq rfl) (hb hby d5_1) (fun _ _ => ⟨rfl, e0, (by decide : 0 + 0 ≤ _), (by decide : 0 + 0 ≤ _)⟩)
  dsimp only [Pt.U, Pt.locs, Pt.cells, Pt.slots] at X1 l1 y1 z1 st1 hQ1
  subst l1 y1 z1
  obtain ⟨hp1, e1⟩ : ∃ z, T1.heap = z := ⟨_, rfl⟩
  rw [e1] at hQ1
  obtain ⟨rfl, Nq1, K1, P1_0, P1_1, P1_2, P1_3, P1_4, P1_5, P1_6, P1_7, P1_8, P1_9, P1_10, P1_11, P1_12, P1_13⟩ := hQ1
  have Z1 : n0 ≤ hp1.size := Nat.le_trans Z0 K1.1
  have Kp1 : Keep h0 hp1 [a1, ac, ix, bn, ch, ky, mv, tr, fr] := (Keep.refl h0 [a1, ac, ix, bn, ch, ky, mv, tr, fr]).trans K1 (allS (Or.inl (List.mem_of_getElem? (i := 0) rfl)) all0)
  have N1 := Fr.app N0 Nq1
  replace K : OGo p e below A0 T1 (mkF m 4 #[rv a1, iv p1, iv p2, iv p3, iv p4, rv kx, .val .null, .val (.long q1), .second, .val .null, .unset] [(.int 2)]) := fun t k => K t (st1.trans k)
  replace K : OGo p e below A0 T1 (mkF m 6 #[rv a1, iv p1, iv p2, iv p3, iv p4, rv kx, .val .null, .val (.long q1), .second, .val .null, iv 2] []) := fun t k => K t (XS.istore X1.here hx rfl (hb hby d5_4) rfl (l' := #[rv a1, iv p1, iv p2, iv p3, iv p4, rv kx, .val .null, .val (.long q1), .second, .val .null, iv 2]) rfl k)
  replace K : OGo p e below A0 T1 (mkF m 7 #[rv a1, iv p1, iv p2, iv p3, iv p4, rv kx, .val .null, .val (.long q1), .second, .val .null, iv 2] [(.ref a1)]) := fun t k => K t (XS.aloadN X1.here hx rfl (hb hby d5_6) rfl rfl k)
  obtain ⟨T2, X2, e2, st2⟩ := getF X1 hx hZ hown (host := "") (Or.inl (ow hw 11 rfl)) Via.refl e1 P1_1 (g := (mkF m 7 #[rv a1, iv p1, iv p2, iv p3, iv p4, rv kx, .val .null, .val (.long q1), .second, .val .null, iv 2] [(.ref a1)])) rfl rfl (hb hby d5_7)
  replace K : OGo p e below A0 T2 (mkF m 10 #[rv a1, iv p1, iv p2, iv p3, iv p4, rv kx, .val .null, .val (.long q1), .second, .val .null, iv 2] [(.ref ac)]) := fun t k => K t (st2 t k)
  replace K : OGo p e below A0 T2 (mkF m 12 #[rv a1, iv p1, iv p2, iv p3, iv p4, rv kx, .val .null, .val (.long q1), .second, .val .null, iv 2] [(.int 2), (.ref ac)]) := fun t k => K t (XS.iload X2.here hx rfl (hb hby d5_10) rfl k)
  replace K : OGo p e below A0 T2 (mkF m 13 #[rv a1, iv p1, iv p2, iv p3, iv p4, rv kx, .val .null, .val (.long q1), .second, .val .null, iv 2] [(.int p1), (.int 2), (.ref ac)]) := fun t k => K t (XS.iloadN X2.here hx rfl (hb hby d5_12) rfl k)
  have V_ac_3 := (V_ac.keep K1 (ninS (Ne.symm (own_pw nd0 0 1 (by decide) rfl rfl)) nin0))
  obtain ⟨T4, h4, X4, e4, W4, V4, st4⟩ := own_stI X2 hx hZ e2 V_ac_3 (j := (2 : Int32)) (by decide) (Nat.le_of_ble_eq_true rfl) (g := (mkF m 13 #[rv a1, iv p1, iv p2, iv p3, iv p4, rv kx, .val .null, .val (.long q1), .second, .val .null, iv 2] [(.int p1), (.int 2), (.ref ac)])) rfl rfl (hb hby d5_13)
  have Z4 : n0 ≤ h4.size := Nat.le_trans Z1 (Keep.of_wr W4).1
  have Kp4 : Keep h0 h4 [a1, ac, ix, bn, ch, ky, mv, tr, fr] := Kp1.wr W4 (Or.inl (List.mem_of_getElem? (i := 1) rfl))
  have V_ac_4 : OAr Z h4 ac k_ac .int (oV ac0 ac1 (.int p1) (.int (0 : Int32))) := V4
  have N4 := Fr.snoc X4 N1 g_ac
  replace K : OGo p e below A0 T4 (mkF m 14 #[rv a1, iv p1, iv p2, iv p3, iv p4, rv kx, .val .null, .val (.long q1), .second, .val .null, iv 2] []) := fun t k => K t (st4 t k)
  replace K : OGo p e below A0 T4 (mkF m 15 #[rv a1, iv p1, iv p2, iv p3, iv p4, rv kx, .val .null, .val (.long q1), .second, .val .null, iv 2] [(.ref a1)]) := fun t k => K t (XS.aloadN X4.here hx rfl (hb hby d5_14) rfl rfl k)
  have F_indices_a1_5 := (P1_2.other W4 (Or.inl (own_pw nd0 0 1 (by decide) rfl rfl)))
  obtain ⟨T6, X6, e6, st6⟩ := getF X4 hx hZ hown (host := "") (Or.inl (ow hw 13 rfl)) Via.refl e4 F_indices_a1_5 (g := (mkF m 15 #[rv a1, iv p1, iv p2, iv p3, iv p4, rv kx, .val .null, .val (.long q1), .second, .val .null, iv 2] [(.ref a1)])) rfl rfl (hb hby d5_15)
  replace K : OGo p e below A0 T6 (mkF m 18 #[rv a1, iv p1, iv p2, iv p3, iv p4, rv kx, .val .null, .val (.long q1), .second, .val .null, iv 2] [(.ref ix)]) := fun t k => K t (st6 t k)
  replace K : OGo p e below A0 T6 (mkF m 20 #[rv a1, iv p1, iv p2, iv p3, iv p4, rv kx, .val .null, .val (.long q1), .second, .val .null, iv 2] [(.int 2), (.ref ix)]) := fun t k => K t (XS.iload X6.here hx rfl (hb hby d5_18) rfl k)
  replace K : OGo p e below A0 T6 (mkF m 21 #[rv a1, iv p1, iv p2, iv p3, iv p4, rv kx, .val .null, .val (.long q1), .second, .val .null, iv 2] [(.int p2), (.int 2), (.ref ix)]) := fun t k => K t (XS.iloadN X6.here hx rfl (hb hby d5_20) rfl k)
  have V_ix_7 := ((V_ix.keep K1 (ninS (Ne.symm (own_pw nd0 0 2 (by decide) rfl rfl)) nin0)).other W4 (Ne.symm (own_pw nd0 1 2 (by decide) rfl rfl)))
  obtain ⟨T8, h8, X8, e8, W8, V8, st8⟩ := own_stI X6 hx hZ e6 V_ix_7 (j := (2 : Int32)) (by decide) (Nat.le_of_ble_eq_true rfl) (g := (mkF m 21 #[rv a1, iv p1, iv p2, iv p3, iv p4, rv kx, .val .null, .val (.long q1), .second, .val .null, iv 2] [(.int p2), (.int 2), (.ref ix)])) rfl rfl (hb hby d5_21)
  have Z8 : n0 ≤ h8.size := Nat.le_trans Z4 (Keep.of_wr W8).1
  have Kp8 : Keep h0 h8 [a1, ac, ix, bn, ch, ky, mv, tr, fr] := Kp4.wr W8 (Or.inl (List.mem_of_getElem? (i := 2) rfl))
  have V_ix_8 : OAr Z h8 ix k_ix .int (oV ix0 ix1 (.int p2) (.int (0 : Int32))) := V8
  have N8 := Fr.snoc X8 N4 g_ix
  replace K : OGo p e below A0 T8 (mkF m 22 #[rv a1, iv p1, iv p2, iv p3, iv p4, rv kx, .val .null, .val (.long q1), .second, .val .null, iv 2] []) := fun t k => K t (st8 t k)
  replace K : OGo p e below A0 T8 (mkF m 23 #[rv a1, iv p1, iv p2, iv p3, iv p4, rv kx, .val .null, .val (.long q1), .second, .val .null, iv 2] [(.ref a1)]) := fun t k => K t (XS.aloadN X8.here hx rfl (hb hby d5_22) rfl rfl k)
  have F_branchNumbers_a1_9 := ((P1_3.other W4 (Or.inl (own_pw nd0 0 1 (by decide) rfl rfl))).other W8 (Or.inl (own_pw nd0 0 2 (by decide) rfl rfl)))
  obtain ⟨T10, X10, e10, st10⟩ := getF X8 hx hZ hown (host := "") (Or.inl (ow hw 15 rfl)) Via.refl e8 F_branchNumbers_a1_9 (g := (mkF m 23 #[rv a1, iv p1, iv p2, iv p3, iv p4, rv kx, .val .null, .val (.long q1), .second, .val .null, iv 2] [(.ref a1)])) rfl rfl (hb hby d5_23)
  replace K : OGo p e below A0 T10 (mkF m 26 #[rv a1, iv p1, iv p2, iv p3, iv p4, rv kx, .val .null, .val (.long q1), .second, .val .null, iv 2] [(.ref bn)]) := fun t k => K t (st10 t k)
  replace K : OGo p e below A0 T10 (mkF m 28 #[rv a1, iv p1, iv p2, iv p3, iv p4, rv kx, .val .null, .val (.long q1), .second, .val .null, iv 2] [(.int 2), (.ref bn)]) := fun t k => K t (XS.iload X10.here hx rfl (hb hby d5_26) rfl k)
  replace K : OGo p e below A0 T10 (mkF m 29 #[rv a1, iv p1, iv p2, iv p3, iv p4, rv kx, .val .null, .val (.long q1), .second, .val .null, iv 2] [(.int p3), (.int 2), (.ref bn)]) := fun t k => K t (XS.iloadN X10.here hx rfl (hb hby d5_28) rfl k)
  have V_bn_11 := (((V_bn.keep K1 (ninS (Ne.symm (own_pw nd0 0 3 (by decide) rfl rfl)) nin0)).other W4 (Ne.symm (own_pw nd0 1 3 (by decide) rfl rfl))).other W8 (Ne.symm (own_pw nd0 2 3 (by decide) rfl rfl)))
  obtain ⟨T12, h12, X12, e12, W12, V12, st12⟩ := own_stI X10 hx hZ e10 V_bn_11 (j := (2 : Int32)) (by decide) (Nat.le_of_ble_eq_true rfl) (g := (mkF m 29 #[rv a1, iv p1, iv p2, iv p3, iv p4, rv kx, .val .null, .val (.long q1), .second, .val .null, iv 2] [(.int p3), (.int 2), (.ref bn)])) rfl rfl (hb hby d5_29)
  have Z12 : n0 ≤ h12.size := Nat.le_trans Z8 (Keep.of_wr W12).1
  have Kp12 : Keep h0 h12 [a1, ac, ix, bn, ch, ky, mv, tr, fr] := Kp8.wr W12 (Or.inl (List.mem_of_getElem? (i := 3) rfl))
  have V_bn_12 : OAr Z h12 bn k_bn .int (oV bn0 bn1 (.int p3) (.int (0 : Int32))) := V12
  have N12 := Fr.snoc X12 N8 g_bn
  replace K : OGo p e below A0 T12 (mkF m 30 #[rv a1, iv p1, iv p2, iv p3, iv p4, rv kx, .val .null, .val (.long q1), .second, .val .null, iv 2] []) := fun t k => K t (st12 t k)
  replace K : OGo p e below A0 T12 (mkF m 31 #[rv a1, iv p1, iv p2, iv p3, iv p4, rv kx, .val .null, .val (.long q1), .second, .val .null, iv 2] [(.ref a1)]) := fun t k => K t (XS.aloadN X12.here hx rfl (hb hby d5_30) rfl rfl k)
  have F_chose_a1_13 := (((P1_4.other W4 (Or.inl (own_pw nd0 0 1 (by decide) rfl rfl))).other W8 (Or.inl (own_pw nd0 0 2 (by decide) rfl rfl))).other W12 (Or.inl (own_pw nd0 0 3 (by decide) rfl rfl)))
  obtain ⟨T14, X14, e14, st14⟩ := getF X12 hx hZ hown (host := "") (Or.inl (ow hw 18 rfl)) Via.refl e12 F_chose_a1_13 (g := (mkF m 31 #[rv a1, iv p1, iv p2, iv p3, iv p4, rv kx, .val .null, .val (.long q1), .second, .val .null, iv 2] [(.ref a1)])) rfl rfl (hb hby d5_31)
  replace K : OGo p e below A0 T14 (mkF m 34 #[rv a1, iv p1, iv p2, iv p3, iv p4, rv kx, .val .null, .val (.long q1), .second, .val .null, iv 2] [(.ref ch)]) := fun t k => K t (st14 t k)
  replace K : OGo p e below A0 T14 (mkF m 36 #[rv a1, iv p1, iv p2, iv p3, iv p4, rv kx, .val .null, .val (.long q1), .second, .val .null, iv 2] [(.int 2), (.ref ch)]) := fun t k => K t (XS.iload X14.here hx rfl (hb hby d5_34) rfl k)
  replace K : OGo p e below A0 T14 (mkF m 38 #[rv a1, iv p1, iv p2, iv p3, iv p4, rv kx, .val .null, .val (.long q1), .second, .val .null, iv 2] [(.int p4), (.int 2), (.ref ch)]) := fun t k => K t (XS.iload X14.here hx rfl (hb hby d5_36) rfl k)
  have V_ch_15 := ((((V_ch.keep K1 (ninS (Ne.symm (own_pw nd0 0 4 (by decide) rfl rfl)) nin0)).other W4 (Ne.symm (own_pw nd0 1 4 (by decide) rfl rfl))).other W8 (Ne.symm (own_pw nd0 2 4 (by decide) rfl rfl))).other W12 (Ne.symm (own_pw nd0 3 4 (by decide) rfl rfl)))
  obtain ⟨T16, h16, X16, e16, W16, V16, st16⟩ := own_stZ X14 hx hZ e14 V_ch_15 (j := (2 : Int32)) (by decide) (Nat.le_of_ble_eq_true rfl) (g := (mkF m 38 #[rv a1, iv p1, iv p2, iv p3, iv p4, rv kx, .val .null, .val (.long q1), .second, .val .null, iv 2] [(.int p4), (.int 2), (.ref ch)])) rfl rfl (hb hby d5_38)
  have Z16 : n0 ≤ h16.size := Nat.le_trans Z12 (Keep.of_wr W16).1
  have Kp16 : Keep h0 h16 [a1, ac, ix, bn, ch, ky, mv, tr, fr] := Kp12.wr W16 (Or.inl (List.mem_of_getElem? (i := 4) rfl))
  have V_ch_16 : OAr Z h16 ch k_ch .boolean (oV ch0 ch1 (.int (nar .boolean p4)) (.int (0 : Int32))) := V16
  have N16 := Fr.snoc X16 N12 g_ch
  replace K : OGo p e below A0 T16 (mkF m 39 #[rv a1, iv p1, iv p2, iv p3, iv p4, rv kx, .val .null, .val (.long q1), .second, .val .null, iv 2] []) := fun t k => K t (st16 t k)
  replace K : OGo p e below A0 T16 (mkF m 40 #[rv a1, iv p1, iv p2, iv p3, iv p4, rv kx, .val .null, .val (.long q1), .second, .val .null, iv 2] [(.ref a1)]) := fun t k => K t (XS.aloadN X16.here hx rfl (hb hby d5_39) rfl rfl k)
  have F_keys_a1_17 := ((((P1_5.other W4 (Or.inl (own_pw nd0 0 1 (by decide) rfl rfl))).other W8 (Or.inl (own_pw nd0 0 2 (by decide) rfl rfl))).other W12 (Or.inl (own_pw nd0 0 3 (by decide) rfl rfl))).other W16 (Or.inl (own_pw nd0 0 4 (by decide) rfl rfl)))
  obtain ⟨T18, X18, e18, st18⟩ := getF X16 hx hZ hown (host := "") (Or.inl (ow hw 22 rfl)) Via.refl e16 F_keys_a1_17 (g := (mkF m 40 #[rv a1, iv p1, iv p2, iv p3, iv p4, rv kx, .val .null, .val (.long q1), .second, .val .null, iv 2] [(.ref a1)])) rfl rfl (hb hby d5_40)
  replace K : OGo p e below A0 T18 (mkF m 43 #[rv a1, iv p1, iv p2, iv p3, iv p4, rv kx, .val .null, .val (.long q1), .second, .val .null, iv 2] [(.ref ky)]) := fun t k => K t (st18 t k)
  replace K : OGo p e below A0 T18 (mkF m 45 #[rv a1, iv p1, iv p2, iv p3, iv p4, rv kx, .val .null, .val (.long q1), .second, .val .null, iv 2] [(.int 2), (.ref ky)]) := fun t k => K t (XS.iload X18.here hx rfl (hb hby d5_43) rfl k)
  replace K : OGo p e below A0 T18 (mkF m 47 #[rv a1, iv p1, iv p2, iv p3, iv p4, rv kx, .val .null, .val (.long q1), .second, .val .null, iv 2] [(.ref kx), (.int 2), (.ref ky)]) := fun t k => K t (XS.aload X18.here hx rfl (hb hby d5_45) rfl rfl k)
  have V_ky_19 := (((((V_ky.keep K1 (ninS (Ne.symm (own_pw nd0 0 5 (by decide) rfl rfl)) nin0)).other W4 (Ne.symm (own_pw nd0 1 5 (by decide) rfl rfl))).other W8 (Ne.symm (own_pw nd0 2 5 (by decide) rfl rfl))).other W12 (Ne.symm (own_pw nd0 3 5 (by decide) rfl rfl))).other W16 (Ne.symm (own_pw nd0 4 5 (by decide) rfl rfl)))
  have E_kx_21 := (((((E_kx.keep K1).wr W4).wr W8).wr W12).wr W16)
  have Sto22 := own_sto V_ky_19 ovr (Ins.self E_kx_21)
  obtain ⟨T20, h20, X20, e20, W20, V20, st20⟩ := own_stR X18 hx hZ e18 V_ky_19 rfl (j := (2 : Int32)) (by decide) (Nat.le_of_ble_eq_true rfl) Sto22 (g := (mkF m 47 #[rv a1, iv p1, iv p2, iv p3, iv p4, rv kx, .val .null, .val (.long q1), .second, .val .null, iv 2] [(.ref kx), (.int 2), (.ref ky)])) rfl rfl (hb hby d5_47)
  have Z20 : n0 ≤ h20.size := Nat.le_trans Z16 (Keep.of_wr W20).1
  have Kp20 : Keep h0 h20 [a1, ac, ix, bn, ch, ky, mv, tr, fr] := Kp16.wr W20 (Or.inl (List.mem_of_getElem? (i := 5) rfl))
  have V_ky_20 : OAr Z h20 ky k_ky (.array .byte) (oV ky0 ky1 (.ref kx) .null) := V20
  have N20 := Fr.snoc X20 N16 g_ky
  replace K : OGo p e below A0 T20 (mkF m 48 #[rv a1, iv p1, iv p2, iv p3, iv p4, rv kx, .val .null, .val (.long q1), .second, .val .null, iv 2] []) := fun t k => K t (st20 t k)
  replace K : OGo p e below A0 T20 (mkF m 49 #[rv a1, iv p1, iv p2, iv p3, iv p4, rv kx, .val .null, .val (.long q1), .second, .val .null, iv 2] [(.ref a1)]) := fun t k => K t (XS.aloadN X20.here hx rfl (hb hby d5_48) rfl rfl k)
  replace K : OGo p e below A0 T20 (mkF m 50 #[rv a1, iv p1, iv p2, iv p3, iv p4, rv kx, .val .null, .val (.long q1), .second, .val .null, iv 2] [(.ref a1), (.ref a1)]) := fun t k => K t (XS.dup X20.here hx rfl (hb hby d5_49) rfl rfl k)
  have F_waitingBytes_a1_23 := (((((P1_13.other W4 (Or.inl (own_pw nd0 0 1 (by decide) rfl rfl))).other W8 (Or.inl (own_pw nd0 0 2 (by decide) rfl rfl))).other W12 (Or.inl (own_pw nd0 0 3 (by decide) rfl rfl))).other W16 (Or.inl (own_pw nd0 0 4 (by decide) rfl rfl))).other W20 (Or.inl (own_pw nd0 0 5 (by decide) rfl rfl)))
  obtain ⟨T24, X24, e24, st24⟩ := getF X20 hx hZ hown (host := "") (Or.inl (ow hw 59 rfl)) Via.refl e20 F_waitingBytes_a1_23 (g := (mkF m 50 #[rv a1, iv p1, iv p2, iv p3, iv p4, rv kx, .val .null, .val (.long q1), .second, .val .null, iv 2] [(.ref a1), (.ref a1)])) rfl rfl (hb hby d5_50)
  replace K : OGo p e below A0 T24 (mkF m 53 #[rv a1, iv p1, iv p2, iv p3, iv p4, rv kx, .val .null, .val (.long q1), .second, .val .null, iv 2] [(.long wb), (.ref a1)]) := fun t k => K t (st24 t k)
  replace K : OGo p e below A0 T24 (mkF m 55 #[rv a1, iv p1, iv p2, iv p3, iv p4, rv kx, .val .null, .val (.long q1), .second, .val .null, iv 2] [(.ref kx), (.long wb), (.ref a1)]) := fun t k => K t (XS.aload X24.here hx rfl (hb hby d5_53) rfl rfl k)
  have V_kx_25 := ((((((V_kx.keep K1 (ninS (Ne.symm (own_pw nd0 0 11 (by decide) rfl rfl)) nin0)).other W4 (Ne.symm (own_pw nd0 1 11 (by decide) rfl rfl))).other W8 (Ne.symm (own_pw nd0 2 11 (by decide) rfl rfl))).other W12 (Ne.symm (own_pw nd0 3 11 (by decide) rfl rfl))).other W16 (Ne.symm (own_pw nd0 4 11 (by decide) rfl rfl))).other W20 (Ne.symm (own_pw nd0 5 11 (by decide) rfl rfl)))
  replace K : OGo p e below A0 T24 (mkF m 56 #[rv a1, iv p1, iv p2, iv p3, iv p4, rv kx, .val .null, .val (.long q1), .second, .val .null, iv 2] [(.int pk), (.long wb), (.ref a1)]) := fun t k => K t (own_len X24 hx hZ e24 V_kx_25 (n := pk) hk (g := (mkF m 55 #[rv a1, iv p1, iv p2, iv p3, iv p4, rv kx, .val .null, .val (.long q1), .second, .val .null, iv 2] [(.ref kx), (.long wb), (.ref a1)])) rfl rfl (hb hby d5_55) t k)
  replace K : OGo p e below A0 T24 (mkF m 57 #[rv a1, iv p1, iv p2, iv p3, iv p4, rv kx, .val .null, .val (.long q1), .second, .val .null, iv 2] [(.int 1), (.int pk), (.long wb), (.ref a1)]) := fun t k => K t (XS.iconst X24.here hx rfl (hb hby d5_56) k)
  replace K : OGo p e below A0 T24 (mkF m 58 #[rv a1, iv p1, iv p2, iv p3, iv p4, rv kx, .val .null, .val (.long q1), .second, .val .null, iv 2] [(.int (pk + (1 : Int32))), (.long wb), (.ref a1)]) := fun t k => K t (XS.iadd X24.here hx rfl (hb hby d5_57) rfl k)
  replace K : OGo p e below A0 T24 (mkF m 59 #[rv a1, iv p1, iv p2, iv p3, iv p4, rv kx, .val .null, .val (.long q1), .second, .val .null, iv 2] [(.long ((pk + (1 : Int32)).toInt64)), (.long wb), (.ref a1)]) := fun t k => K t (XS.i2l X24.here hx rfl (hb hby d5_58) rfl k)
  replace K : OGo p e below A0 T24 (mkF m 60 #[rv a1, iv p1, iv p2, iv p3, iv p4, rv kx, .val .null, .val (.long q1), .second, .val .null, iv 2] [(.long (wb + ((pk + (1 : Int32)).toInt64))), (.ref a1)]) := fun t k => K t (XS.ladd X24.here hx rfl (hb hby d5_59) rfl k)
  have E_a1_26 := (((((P1_0.wr W4).wr W8).wr W12).wr W16).wr W20)
  obtain ⟨T27, h27, X27, e27, W27, st27⟩ := putF X24 hx hZ hown (host := "") (Or.inl (ow hw 59 rfl)) Via.refl e24 F_waitingBytes_a1_23 E_a1_26 (Or.inl (ow hw 60 rfl)) (ow hw 2 rfl) (ty := .long) (by decide) rfl rfl (g := (mkF m 60 #[rv a1, iv p1, iv p2, iv p3, iv p4, rv kx, .val .null, .val (.long q1), .second, .val .null, iv 2] [(.long (wb + ((pk + (1 : Int32)).toInt64))), (.ref a1)])) rfl rfl (hb hby d5_60)
  have Z27 : n0 ≤ h27.size := Nat.le_trans Z20 (Keep.of_wr W27).1
  have Kp27 : Keep h0 h27 [a1, ac, ix, bn, ch, ky, mv, tr, fr] := Kp20.wr W27 (Or.inl (List.mem_of_getElem? (i := 0) rfl))
  have F_waitingBytes_a1_27 := F_waitingBytes_a1_23.same W27
  have N27 := Fr.snoc X27 N20 g_a1
  replace K : OGo p e below A0 T27 (mkF m 63 #[rv a1, iv p1, iv p2, iv p3, iv p4, rv kx, .val .null, .val (.long q1), .second, .val .null, iv 2] []) := fun t k => K t (st27 t k)
  replace K : OGo p e below A0 T27 (mkF m 64 #[rv a1, iv p1, iv p2, iv p3, iv p4, rv kx, .val .null, .val (.long q1), .second, .val .null, iv 2] [(.ref a1)]) := fun t k => K t (XS.aloadN X27.here hx rfl (hb hby d5_63) rfl rfl k)
  have F_moves_a1_28 := ((((((P1_6.other W4 (Or.inl (own_pw nd0 0 1 (by decide) rfl rfl))).other W8 (Or.inl (own_pw nd0 0 2 (by decide) rfl rfl))).other W12 (Or.inl (own_pw nd0 0 3 (by decide) rfl rfl))).other W16 (Or.inl (own_pw nd0 0 4 (by decide) rfl rfl))).other W20 (Or.inl (own_pw nd0 0 5 (by decide) rfl rfl))).other W27 (Or.inr (sn_cN0_moves_waitingBytes hw)))
  obtain ⟨T29, X29, e29, st29⟩ := getF X27 hx hZ hown (host := "") (Or.inl (ow hw 26 rfl)) Via.refl e27 F_moves_a1_28 (g := (mkF m 64 #[rv a1, iv p1, iv p2, iv p3, iv p4, rv kx, .val .null, .val (.long q1), .second, .val .null, iv 2] [(.ref a1)])) rfl rfl (hb hby d5_64)
  replace K : OGo p e below A0 T29 (mkF m 67 #[rv a1, iv p1, iv p2, iv p3, iv p4, rv kx, .val .null, .val (.long q1), .second, .val .null, iv 2] [(.ref mv)]) := fun t k => K t (st29 t k)
  replace K : OGo p e below A0 T29 (mkF m 69 #[rv a1, iv p1, iv p2, iv p3, iv p4, rv kx, .val .null, .val (.long q1), .second, .val .null, iv 2] [(.int 2), (.ref mv)]) := fun t k => K t (XS.iload X29.here hx rfl (hb hby d5_67) rfl k)
  replace K : OGo p e below A0 T29 (mkF m 71 #[rv a1, iv p1, iv p2, iv p3, iv p4, rv kx, .val .null, .val (.long q1), .second, .val .null, iv 2] [.null, (.int 2), (.ref mv)]) := fun t k => K t (XS.aload X29.here hx rfl (hb hby d5_69) rfl rfl k)
  have V_mv_30 := (((((((V_mv.keep K1 (ninS (Ne.symm (own_pw nd0 0 6 (by decide) rfl rfl)) nin0)).other W4 (Ne.symm (own_pw nd0 1 6 (by decide) rfl rfl))).other W8 (Ne.symm (own_pw nd0 2 6 (by decide) rfl rfl))).other W12 (Ne.symm (own_pw nd0 3 6 (by decide) rfl rfl))).other W16 (Ne.symm (own_pw nd0 4 6 (by decide) rfl rfl))).other W20 (Ne.symm (own_pw nd0 5 6 (by decide) rfl rfl))).other W27 (Ne.symm (own_pw nd0 0 6 (by decide) rfl rfl)))
  obtain ⟨T31, h31, X31, e31, W31, V31, st31⟩ := own_stR X29 hx hZ e29 V_mv_30 rfl (j := (2 : Int32)) (by decide) (Nat.le_of_ble_eq_true rfl) (Or.inl rfl) (g := (mkF m 71 #[rv a1, iv p1, iv p2, iv p3, iv p4, rv kx, .val .null, .val (.long q1), .second, .val .null, iv 2] [.null, (.int 2), (.ref mv)])) rfl rfl (hb hby d5_71)
  have Z31 : n0 ≤ h31.size := Nat.le_trans Z27 (Keep.of_wr W31).1
  have Kp31 : Keep h0 h31 [a1, ac, ix, bn, ch, ky, mv, tr, fr] := Kp27.wr W31 (Or.inl (List.mem_of_getElem? (i := 6) rfl))
  have V_mv_31 : OAr Z h31 mv k_mv (.object "com/example/flote/flote/search/Search$Moves") (oV mv0 mv1 .null .null) := V31
  have N31 := Fr.snoc X31 N27 g_mv
  replace K : OGo p e below A0 T31 (mkF m 72 #[rv a1, iv p1, iv p2, iv p3, iv p4, rv kx, .val .null, .val (.long q1), .second, .val .null, iv 2] []) := fun t k => K t (st31 t k)
  replace K : OGo p e below A0 T31 (mkF m 73 #[rv a1, iv p1, iv p2, iv p3, iv p4, rv kx, .val .null, .val (.long q1), .second, .val .null, iv 2] [(.ref a1)]) := fun t k => K t (XS.aloadN X31.here hx rfl (hb hby d5_72) rfl rfl k)
  have F_transitions_a1_32 := (((((((P1_7.other W4 (Or.inl (own_pw nd0 0 1 (by decide) rfl rfl))).other W8 (Or.inl (own_pw nd0 0 2 (by decide) rfl rfl))).other W12 (Or.inl (own_pw nd0 0 3 (by decide) rfl rfl))).other W16 (Or.inl (own_pw nd0 0 4 (by decide) rfl rfl))).other W20 (Or.inl (own_pw nd0 0 5 (by decide) rfl rfl))).other W27 (Or.inr (sn_cN0_transitions_waitingBytes hw))).other W31 (Or.inl (own_pw nd0 0 6 (by decide) rfl rfl)))
  obtain ⟨T33, X33, e33, st33⟩ := getF X31 hx hZ hown (host := "") (Or.inl (ow hw 30 rfl)) Via.refl e31 F_transitions_a1_32 (g := (mkF m 73 #[rv a1, iv p1, iv p2, iv p3, iv p4, rv kx, .val .null, .val (.long q1), .second, .val .null, iv 2] [(.ref a1)])) rfl rfl (hb hby d5_73)
  replace K : OGo p e below A0 T33 (mkF m 76 #[rv a1, iv p1, iv p2, iv p3, iv p4, rv kx, .val .null, .val (.long q1), .second, .val .null, iv 2] [(.ref tr)]) := fun t k => K t (st33 t k)
  replace K : OGo p e below A0 T33 (mkF m 78 #[rv a1, iv p1, iv p2, iv p3, iv p4, rv kx, .val .null, .val (.long q1), .second, .val .null, iv 2] [(.int 2), (.ref tr)]) := fun t k => K t (XS.iload X33.here hx rfl (hb hby d5_76) rfl k)
  replace K : OGo p e below A0 T33 (mkF m 80 #[rv a1, iv p1, iv p2, iv p3, iv p4, rv kx, .val .null, .val (.long q1), .second, .val .null, iv 2] [.null, (.int 2), (.ref tr)]) := fun t k => K t (XS.aload X33.here hx rfl (hb hby d5_78) rfl rfl k)
  have V_tr_34 := ((((((((V_tr.keep K1 (ninS (Ne.symm (own_pw nd0 0 7 (by decide) rfl rfl)) nin0)).other W4 (Ne.symm (own_pw nd0 1 7 (by decide) rfl rfl))).other W8 (Ne.symm (own_pw nd0 2 7 (by decide) rfl rfl))).other W12 (Ne.symm (own_pw nd0 3 7 (by decide) rfl rfl))).other W16 (Ne.symm (own_pw nd0 4 7 (by decide) rfl rfl))).other W20 (Ne.symm (own_pw nd0 5 7 (by decide) rfl rfl))).other W27 (Ne.symm (own_pw nd0 0 7 (by decide) rfl rfl))).other W31 (Ne.symm (own_pw nd0 6 7 (by decide) rfl rfl)))
  obtain ⟨T35, h35, X35, e35, W35, V35, st35⟩ := own_stR X33 hx hZ e33 V_tr_34 rfl (j := (2 : Int32)) (by decide) (Nat.le_of_ble_eq_true rfl) (Or.inl rfl) (g := (mkF m 80 #[rv a1, iv p1, iv p2, iv p3, iv p4, rv kx, .val .null, .val (.long q1), .second, .val .null, iv 2] [.null, (.int 2), (.ref tr)])) rfl rfl (hb hby d5_80)
  have Z35 : n0 ≤ h35.size := Nat.le_trans Z31 (Keep.of_wr W35).1
  have Kp35 : Keep h0 h35 [a1, ac, ix, bn, ch, ky, mv, tr, fr] := Kp31.wr W35 (Or.inl (List.mem_of_getElem? (i := 7) rfl))
  have V_tr_35 : OAr Z h35 tr k_tr (.object "com/example/flote/flote/search/Search$Branches") (oV tr0 tr1 .null .null) := V35
  have N35 := Fr.snoc X35 N31 g_tr
  replace K : OGo p e below A0 T35 (mkF m 81 #[rv a1, iv p1, iv p2, iv p3, iv p4, rv kx, .val .null, .val (.long q1), .second, .val .null, iv 2] []) := fun t k => K t (st35 t k)
  replace K : OGo p e below A0 T35 (mkF m 82 #[rv a1, iv p1, iv p2, iv p3, iv p4, rv kx, .val .null, .val (.long q1), .second, .val .null, iv 2] [(.ref a1)]) := fun t k => K t (XS.aloadN X35.here hx rfl (hb hby d5_81) rfl rfl k)
  have F_frames_a1_36 := ((((((((P1_8.other W4 (Or.inl (own_pw nd0 0 1 (by decide) rfl rfl))).other W8 (Or.inl (own_pw nd0 0 2 (by decide) rfl rfl))).other W12 (Or.inl (own_pw nd0 0 3 (by decide) rfl rfl))).other W16 (Or.inl (own_pw nd0 0 4 (by decide) rfl rfl))).other W20 (Or.inl (own_pw nd0 0 5 (by decide) rfl rfl))).other W27 (Or.inr (sn_cN0_frames_waitingBytes hw))).other W31 (Or.inl (own_pw nd0 0 6 (by decide) rfl rfl))).other W35 (Or.inl (own_pw nd0 0 7 (by decide) rfl rfl)))
  obtain ⟨T37, X37, e37, st37⟩ := getF X35 hx hZ hown (host := "") (Or.inl (ow hw 33 rfl)) Via.refl e35 F_frames_a1_36 (g := (mkF m 82 #[rv a1, iv p1, iv p2, iv p3, iv p4, rv kx, .val .null, .val (.long q1), .second, .val .null, iv 2] [(.ref a1)])) rfl rfl (hb hby d5_82)
  replace K : OGo p e below A0 T37 (mkF m 85 #[rv a1, iv p1, iv p2, iv p3, iv p4, rv kx, .val .null, .val (.long q1), .second, .val .null, iv 2] [(.ref fr)]) := fun t k => K t (st37 t k)
  replace K : OGo p e below A0 T37 (mkF m 87 #[rv a1, iv p1, iv p2, iv p3, iv p4, rv kx, .val .null, .val (.long q1), .second, .val .null, iv 2] [(.int 2), (.ref fr)]) := fun t k => K t (XS.iload X37.here hx rfl (hb hby d5_85) rfl k)
  replace K : OGo p e below A0 T37 (mkF m 89 #[rv a1, iv p1, iv p2, iv p3, iv p4, rv kx, .val .null, .val (.long q1), .second, .val .null, iv 2] [(.long q1), (.int 2), (.ref fr)]) := fun t k => K t (XS.lload X37.here hx rfl (hb hby d5_87) rfl k)
  have V_fr_38 := (((((((((V_fr.keep K1 (ninS (Ne.symm (own_pw nd0 0 8 (by decide) rfl rfl)) nin0)).other W4 (Ne.symm (own_pw nd0 1 8 (by decide) rfl rfl))).other W8 (Ne.symm (own_pw nd0 2 8 (by decide) rfl rfl))).other W12 (Ne.symm (own_pw nd0 3 8 (by decide) rfl rfl))).other W16 (Ne.symm (own_pw nd0 4 8 (by decide) rfl rfl))).other W20 (Ne.symm (own_pw nd0 5 8 (by decide) rfl rfl))).other W27 (Ne.symm (own_pw nd0 0 8 (by decide) rfl rfl))).other W31 (Ne.symm (own_pw nd0 6 8 (by decide) rfl rfl))).other W35 (Ne.symm (own_pw nd0 7 8 (by decide) rfl rfl)))
  obtain ⟨T39, h39, X39, e39, W39, V39, st39⟩ := own_stJ X37 hx hZ e37 V_fr_38 (j := (2 : Int32)) (by decide) (Nat.le_of_ble_eq_true rfl) (g := (mkF m 89 #[rv a1, iv p1, iv p2, iv p3, iv p4, rv kx, .val .null, .val (.long q1), .second, .val .null, iv 2] [(.long q1), (.int 2), (.ref fr)])) rfl rfl (hb hby d5_89)
  have Z39 : n0 ≤ h39.size := Nat.le_trans Z35 (Keep.of_wr W39).1
  have Kp39 : Keep h0 h39 [a1, ac, ix, bn, ch, ky, mv, tr, fr] := Kp35.wr W39 (Or.inl (List.mem_of_getElem? (i := 8) rfl))
  have V_fr_39 : OAr Z h39 fr k_fr .long (oV fr0 fr1 (.long q1) (.long (0 : Int64))) := V39
  have N39 := Fr.snoc X39 N35 g_fr
  replace K : OGo p e below A0 T39 (mkF m 90 #[rv a1, iv p1, iv p2, iv p3, iv p4, rv kx, .val .null, .val (.long q1), .second, .val .null, iv 2] []) := fun t k => K t (st39 t k)
  have E_a1_40 := ((((E_a1_26.wr W27).wr W31).wr W35).wr W39)
  have F_actors_a1_41 := (((((((((P1_1.other W4 (Or.inl (own_pw nd0 0 1 (by decide) rfl rfl))).other W8 (Or.inl (own_pw nd0 0 2 (by decide) rfl rfl))).other W12 (Or.inl (own_pw nd0 0 3 (by decide) rfl rfl))).other W16 (Or.inl (own_pw nd0 0 4 (by decide) rfl rfl))).other W20 (Or.inl (own_pw nd0 0 5 (by decide) rfl rfl))).other W27 (Or.inr (sn_cN0_actors_waitingBytes hw))).other W31 (Or.inl (own_pw nd0 0 6 (by decide) rfl rfl))).other W35 (Or.inl (own_pw nd0 0 7 (by decide) rfl rfl))).other W39 (Or.inl (own_pw nd0 0 8 (by decide) rfl rfl)))
  have F_indices_a1_42 := ((((((((F_indices_a1_5.other W8 (Or.inl (own_pw nd0 0 2 (by decide) rfl rfl))).other W12 (Or.inl (own_pw nd0 0 3 (by decide) rfl rfl))).other W16 (Or.inl (own_pw nd0 0 4 (by decide) rfl rfl))).other W20 (Or.inl (own_pw nd0 0 5 (by decide) rfl rfl))).other W27 (Or.inr (sn_cN0_indices_waitingBytes hw))).other W31 (Or.inl (own_pw nd0 0 6 (by decide) rfl rfl))).other W35 (Or.inl (own_pw nd0 0 7 (by decide) rfl rfl))).other W39 (Or.inl (own_pw nd0 0 8 (by decide) rfl rfl)))
  have F_branchNumbers_a1_43 := (((((((F_branchNumbers_a1_9.other W12 (Or.inl (own_pw nd0 0 3 (by decide) rfl rfl))).other W16 (Or.inl (own_pw nd0 0 4 (by decide) rfl rfl))).other W20 (Or.inl (own_pw nd0 0 5 (by decide) rfl rfl))).other W27 (Or.inr (sn_cN0_branchNumbers_waitingBytes hw))).other W31 (Or.inl (own_pw nd0 0 6 (by decide) rfl rfl))).other W35 (Or.inl (own_pw nd0 0 7 (by decide) rfl rfl))).other W39 (Or.inl (own_pw nd0 0 8 (by decide) rfl rfl)))
  have F_chose_a1_44 := ((((((F_chose_a1_13.other W16 (Or.inl (own_pw nd0 0 4 (by decide) rfl rfl))).other W20 (Or.inl (own_pw nd0 0 5 (by decide) rfl rfl))).other W27 (Or.inr (sn_cN0_chose_waitingBytes hw))).other W31 (Or.inl (own_pw nd0 0 6 (by decide) rfl rfl))).other W35 (Or.inl (own_pw nd0 0 7 (by decide) rfl rfl))).other W39 (Or.inl (own_pw nd0 0 8 (by decide) rfl rfl)))
  have F_keys_a1_45 := (((((F_keys_a1_17.other W20 (Or.inl (own_pw nd0 0 5 (by decide) rfl rfl))).other W27 (Or.inr (sn_cN0_keys_waitingBytes hw))).other W31 (Or.inl (own_pw nd0 0 6 (by decide) rfl rfl))).other W35 (Or.inl (own_pw nd0 0 7 (by decide) rfl rfl))).other W39 (Or.inl (own_pw nd0 0 8 (by decide) rfl rfl)))
  have F_moves_a1_46 := (((F_moves_a1_28.other W31 (Or.inl (own_pw nd0 0 6 (by decide) rfl rfl))).other W35 (Or.inl (own_pw nd0 0 7 (by decide) rfl rfl))).other W39 (Or.inl (own_pw nd0 0 8 (by decide) rfl rfl)))
  have F_transitions_a1_47 := ((F_transitions_a1_32.other W35 (Or.inl (own_pw nd0 0 7 (by decide) rfl rfl))).other W39 (Or.inl (own_pw nd0 0 8 (by decide) rfl rfl)))
  have F_frames_a1_48 := (F_frames_a1_36.other W39 (Or.inl (own_pw nd0 0 8 (by decide) rfl rfl)))
  have F_targets_a1_49 := (((((((((P1_9.other W4 (Or.inl (own_pw nd0 0 1 (by decide) rfl rfl))).other W8 (Or.inl (own_pw nd0 0 2 (by decide) rfl rfl))).other W12 (Or.inl (own_pw nd0 0 3 (by decide) rfl rfl))).other W16 (Or.inl (own_pw nd0 0 4 (by decide) rfl rfl))).other W20 (Or.inl (own_pw nd0 0 5 (by decide) rfl rfl))).other W27 (Or.inr (sn_cN0_targets_waitingBytes hw))).other W31 (Or.inl (own_pw nd0 0 6 (by decide) rfl rfl))).other W35 (Or.inl (own_pw nd0 0 7 (by decide) rfl rfl))).other W39 (Or.inl (own_pw nd0 0 8 (by decide) rfl rfl)))
  have F_stored_a1_50 := (((((((((P1_10.other W4 (Or.inl (own_pw nd0 0 1 (by decide) rfl rfl))).other W8 (Or.inl (own_pw nd0 0 2 (by decide) rfl rfl))).other W12 (Or.inl (own_pw nd0 0 3 (by decide) rfl rfl))).other W16 (Or.inl (own_pw nd0 0 4 (by decide) rfl rfl))).other W20 (Or.inl (own_pw nd0 0 5 (by decide) rfl rfl))).other W27 (Or.inr (sn_cN0_stored_waitingBytes hw))).other W31 (Or.inl (own_pw nd0 0 6 (by decide) rfl rfl))).other W35 (Or.inl (own_pw nd0 0 7 (by decide) rfl rfl))).other W39 (Or.inl (own_pw nd0 0 8 (by decide) rfl rfl)))
  have F_count_a1_51 := (((((((((P1_11.other W4 (Or.inl (own_pw nd0 0 1 (by decide) rfl rfl))).other W8 (Or.inl (own_pw nd0 0 2 (by decide) rfl rfl))).other W12 (Or.inl (own_pw nd0 0 3 (by decide) rfl rfl))).other W16 (Or.inl (own_pw nd0 0 4 (by decide) rfl rfl))).other W20 (Or.inl (own_pw nd0 0 5 (by decide) rfl rfl))).other W27 (Or.inr (sn_cN0_count_waitingBytes hw))).other W31 (Or.inl (own_pw nd0 0 6 (by decide) rfl rfl))).other W35 (Or.inl (own_pw nd0 0 7 (by decide) rfl rfl))).other W39 (Or.inl (own_pw nd0 0 8 (by decide) rfl rfl)))
  have F_admitted_a1_52 := (((((((((P1_12.other W4 (Or.inl (own_pw nd0 0 1 (by decide) rfl rfl))).other W8 (Or.inl (own_pw nd0 0 2 (by decide) rfl rfl))).other W12 (Or.inl (own_pw nd0 0 3 (by decide) rfl rfl))).other W16 (Or.inl (own_pw nd0 0 4 (by decide) rfl rfl))).other W20 (Or.inl (own_pw nd0 0 5 (by decide) rfl rfl))).other W27 (Or.inr (sn_cN0_admitted_waitingBytes hw))).other W31 (Or.inl (own_pw nd0 0 6 (by decide) rfl rfl))).other W35 (Or.inl (own_pw nd0 0 7 (by decide) rfl rfl))).other W39 (Or.inl (own_pw nd0 0 8 (by decide) rfl rfl)))
  have F_waitingBytes_a1_53 := (((F_waitingBytes_a1_27.other W31 (Or.inl (own_pw nd0 0 6 (by decide) rfl rfl))).other W35 (Or.inl (own_pw nd0 0 7 (by decide) rfl rfl))).other W39 (Or.inl (own_pw nd0 0 8 (by decide) rfl rfl)))
  have V_ac_54 := ((((((((V_ac_4.other W8 (own_pw nd0 1 2 (by decide) rfl rfl)).other W12 (own_pw nd0 1 3 (by decide) rfl rfl)).other W16 (own_pw nd0 1 4 (by decide) rfl rfl)).other W20 (own_pw nd0 1 5 (by decide) rfl rfl)).other W27 (Ne.symm (own_pw nd0 0 1 (by decide) rfl rfl))).other W31 (own_pw nd0 1 6 (by decide) rfl rfl)).other W35 (own_pw nd0 1 7 (by decide) rfl rfl)).other W39 (own_pw nd0 1 8 (by decide) rfl rfl))
  have V_ix_55 := (((((((V_ix_8.other W12 (own_pw nd0 2 3 (by decide) rfl rfl)).other W16 (own_pw nd0 2 4 (by decide) rfl rfl)).other W20 (own_pw nd0 2 5 (by decide) rfl rfl)).other W27 (Ne.symm (own_pw nd0 0 2 (by decide) rfl rfl))).other W31 (own_pw nd0 2 6 (by decide) rfl rfl)).other W35 (own_pw nd0 2 7 (by decide) rfl rfl)).other W39 (own_pw nd0 2 8 (by decide) rfl rfl))
  have V_bn_56 := ((((((V_bn_12.other W16 (own_pw nd0 3 4 (by decide) rfl rfl)).other W20 (own_pw nd0 3 5 (by decide) rfl rfl)).other W27 (Ne.symm (own_pw nd0 0 3 (by decide) rfl rfl))).other W31 (own_pw nd0 3 6 (by decide) rfl rfl)).other W35 (own_pw nd0 3 7 (by decide) rfl rfl)).other W39 (own_pw nd0 3 8 (by decide) rfl rfl))
  have V_ch_57 := (((((V_ch_16.other W20 (own_pw nd0 4 5 (by decide) rfl rfl)).other W27 (Ne.symm (own_pw nd0 0 4 (by decide) rfl rfl))).other W31 (own_pw nd0 4 6 (by decide) rfl rfl)).other W35 (own_pw nd0 4 7 (by decide) rfl rfl)).other W39 (own_pw nd0 4 8 (by decide) rfl rfl))
  have V_ky_58 := ((((V_ky_20.other W27 (Ne.symm (own_pw nd0 0 5 (by decide) rfl rfl))).other W31 (own_pw nd0 5 6 (by decide) rfl rfl)).other W35 (own_pw nd0 5 7 (by decide) rfl rfl)).other W39 (own_pw nd0 5 8 (by decide) rfl rfl))
  have V_mv_59 := ((V_mv_31.other W35 (own_pw nd0 6 7 (by decide) rfl rfl)).other W39 (own_pw nd0 6 8 (by decide) rfl rfl))
  have V_tr_60 := (V_tr_35.other W39 (own_pw nd0 7 8 (by decide) rfl rfl))
  obtain ⟨fs, hr, hrun, hended, hW, hsame⟩ := X39.leave (v := none) (fun _ => rfl)
  subst hA0
  refine ⟨_, _, K _ (X39.returnOut hx Bd.returns (hb hby d5_90) hr), hrun, hended, _, _, rfl, ?_, ⟨_, rfl⟩, hW, hsame.mono (by decide) (by decide)⟩
  show Q_add2 Z a1 p1 p2 p3 p4 kx q1 ac ix bn ch ky mv tr fr tg sd k_ac k_ix k_bn k_ch k_ky k_mv k_tr k_fr ac0 ac1 ac2 ix0 ix1 ix2 bn0 bn1 bn2 ch0 ch1 ch2 ky0 ky1 ky2 mv0 mv1 mv2 tr0 tr1 tr2 fr0 fr1 fr2 kv kk pk adm wb h0 n0 _ T39.heap _
  rw [e39]
  exact ⟨rfl, N39, Kp39, E_a1_40, F_actors_a1_41, F_indices_a1_42, F_branchNumbers_a1_43, F_chose_a1_44, F_keys_a1_45, F_moves_a1_46, F_transitions_a1_47, F_frames_a1_48, F_targets_a1_49, F_stored_a1_50, F_count_a1_51, F_admitted_a1_52, F_waitingBytes_a1_53, V_ac_54, V_ix_55, V_bn_56, V_ch_57, V_ky_58, V_mv_59, V_tr_60, V_fr_39⟩
theorem ef_6 (m : MethodId) (x0 : Addr) (x1 : Int32) (x2 : Int32) : entryFrame m #[(.ref x0), (.int x1), (.int x2)] 3 = mkF m 0 #[.val (.ref x0), .val (.int x1), .val (.int x2)] [] := by first | (simp [entryFrame, mkF, argsToLocals, Value.category]; done) | rfl
theorem d6_0 : decode prog_108_method_18_code 0 = .ok (.aload_n 0, 1) := by decide +kernel
theorem d6_1 : decode prog_108_method_18_code 1 = .ok (.getfield 45, 3) := by decide +kernel
theorem d6_4 : decode prog_108_method_18_code 4 = .ok (.aload_n 0, 1) := by decide +kernel
theorem d6_5 : decode prog_108_method_18_code 5 = .ok (.getfield 63, 3) := by decide +kernel
theorem d6_8 : decode prog_108_method_18_code 8 = .ok (.iload_n 1, 1) := by decide +kernel
theorem d6_9 : decode prog_108_method_18_code 9 = .ok (.iastore, 1) := by decide +kernel
theorem d6_10 : decode prog_108_method_18_code 10 = .ok (.aload_n 0, 1) := by decide +kernel
theorem d6_11 : decode prog_108_method_18_code 11 = .ok (.getfield 48, 3) := by decide +kernel
theorem d6_14 : decode prog_108_method_18_code 14 = .ok (.aload_n 0, 1) := by decide +kernel
theorem d6_15 : decode prog_108_method_18_code 15 = .ok (.getfield 63, 3) := by decide +kernel
theorem d6_18 : decode prog_108_method_18_code 18 = .ok (.iload_n 2, 1) := by decide +kernel
theorem d6_19 : decode prog_108_method_18_code 19 = .ok (.bastore, 1) := by decide +kernel
theorem d6_20 : decode prog_108_method_18_code 20 = .ok (.aload_n 0, 1) := by decide +kernel
theorem d6_21 : decode prog_108_method_18_code 21 = .ok (.dup, 1) := by decide +kernel
theorem d6_22 : decode prog_108_method_18_code 22 = .ok (.getfield 55, 3) := by decide +kernel
theorem d6_25 : decode prog_108_method_18_code 25 = .ok (.aload_n 0, 1) := by decide +kernel
theorem d6_26 : decode prog_108_method_18_code 26 = .ok (.getfield 25, 3) := by decide +kernel
theorem d6_29 : decode prog_108_method_18_code 29 = .ok (.aload_n 0, 1) := by decide +kernel
theorem d6_30 : decode prog_108_method_18_code 30 = .ok (.getfield 63, 3) := by decide +kernel
theorem d6_33 : decode prog_108_method_18_code 33 = .ok (.aaload, 1) := by decide +kernel
theorem d6_34 : decode prog_108_method_18_code 34 = .ok (.arraylength, 1) := by decide +kernel
theorem d6_35 : decode prog_108_method_18_code 35 = .ok (.iconst 1, 1) := by decide +kernel
theorem d6_36 : decode prog_108_method_18_code 36 = .ok (.iadd, 1) := by decide +kernel
theorem d6_37 : decode prog_108_method_18_code 37 = .ok (.i2l, 1) := by decide +kernel
theorem d6_38 : decode prog_108_method_18_code 38 = .ok (.lsub, 1) := by decide +kernel
theorem d6_39 : decode prog_108_method_18_code 39 = .ok (.putfield 55, 3) := by decide +kernel
theorem d6_42 : decode prog_108_method_18_code 42 = .ok (.aload_n 0, 1) := by decide +kernel
theorem d6_43 : decode prog_108_method_18_code 43 = .ok (.getfield 25, 3) := by decide +kernel
theorem d6_46 : decode prog_108_method_18_code 46 = .ok (.aload_n 0, 1) := by decide +kernel
theorem d6_47 : decode prog_108_method_18_code 47 = .ok (.getfield 63, 3) := by decide +kernel
theorem d6_50 : decode prog_108_method_18_code 50 = .ok (.aconst_null, 1) := by decide +kernel
theorem d6_51 : decode prog_108_method_18_code 51 = .ok (.aastore, 1) := by decide +kernel
theorem d6_52 : decode prog_108_method_18_code 52 = .ok (.aload_n 0, 1) := by decide +kernel
theorem d6_53 : decode prog_108_method_18_code 53 = .ok (.getfield 37, 3) := by decide +kernel
theorem d6_56 : decode prog_108_method_18_code 56 = .ok (.aload_n 0, 1) := by decide +kernel
theorem d6_57 : decode prog_108_method_18_code 57 = .ok (.getfield 63, 3) := by decide +kernel
theorem d6_60 : decode prog_108_method_18_code 60 = .ok (.aconst_null, 1) := by decide +kernel
theorem d6_61 : decode prog_108_method_18_code 61 = .ok (.aastore, 1) := by decide +kernel
theorem d6_62 : decode prog_108_method_18_code 62 = .ok (.aload_n 0, 1) := by decide +kernel
theorem d6_63 : decode prog_108_method_18_code 63 = .ok (.dup, 1) := by decide +kernel
theorem d6_64 : decode prog_108_method_18_code 64 = .ok (.getfield 63, 3) := by decide +kernel
theorem d6_67 : decode prog_108_method_18_code 67 = .ok (.iconst 1, 1) := by decide +kernel
theorem d6_68 : decode prog_108_method_18_code 68 = .ok (.iadd, 1) := by decide +kernel
theorem d6_69 : decode prog_108_method_18_code 69 = .ok (.putfield 63, 3) := by decide +kernel
theorem d6_72 : decode prog_108_method_18_code 72 = .ok (.return_, 1) := by decide +kernel
def Q_admit00 (Z : State) (a1 : Addr) (p1 : Int32) (ac : Addr) (ix : Addr) (bn : Addr) (ch : Addr) (ky : Addr) (mv : Addr) (tr : Addr) (fr : Addr) (tg : Addr) (sd : Addr) (k_tg : ClassId) (k_sd : ClassId) (k_ky : ClassId) (k_tr : ClassId) (tg0 : Value) (tg1 : Value) (tg2 : Value) (sd0 : Value) (sd1 : Value) (sd2 : Value) (ky1 : Value) (ky2 : Value) (tr0 : Value) (tr1 : Value) (tr2 : Value) (kx : Addr) (kv : List Value) (kk : ClassId) (pk : Int32) (cnt : Int32) (wb : Int64) (h0 : Heap) (n0 : Nat) (v : Option Value) (h : Heap) (L : List Loc) : Prop := v = none ∧ Fr n0 L ∧ Keep h0 h [a1, tg, sd, ky, tr] ∧ Exa Z h a1 cN0 ∧ Fld Z h a1 cN0 "actors" "[I" (.ref ac) ∧ Fld Z h a1 cN0 "indices" "[I" (.ref ix) ∧ Fld Z h a1 cN0 "branchNumbers" "[I" (.ref bn) ∧ Fld Z h a1 cN0 "chose" "[Z" (.ref ch) ∧ Fld Z h a1 cN0 "keys" "[[B" (.ref ky) ∧ Fld Z h a1 cN0 "moves" cN1 (.ref mv) ∧ Fld Z h a1 cN0 "transitions" cN2 (.ref tr) ∧ Fld Z h a1 cN0 "frames" "[J" (.ref fr) ∧ Fld Z h a1 cN0 "targets" "[I" (.ref tg) ∧ Fld Z h a1 cN0 "stored" "[Z" (.ref sd) ∧ Fld Z h a1 cN0 "count" "I" (.int cnt) ∧ Fld Z h a1 cN0 "admitted" "I" (.int (1 : Int32)) ∧ Fld Z h a1 cN0 "waitingBytes" "J" (.long (wb - ((pk + (1 : Int32)).toInt64))) ∧ OAr Z h tg k_tg .int (oV (.int p1) tg1 tg2 (.int (0 : Int32))) ∧ OAr Z h sd k_sd .boolean (oV (.int (0 : Int32)) sd1 sd2 (.int (0 : Int32))) ∧ OAr Z h ky k_ky (.array .byte) (oV .null ky1 ky2 .null) ∧ OAr Z h tr k_tr (.object "com/example/flote/flote/search/Search$Branches") (oV .null tr1 tr2 .null)
set_option maxRecDepth 65536 in
set_option maxHeartbeats 40000000 in
theorem rm_admit00 (l : Launch) (Z : State) (a0 : Array Value) (hw : ∀ d ∈ tables_1, d.before a0 Z = true) (ws : List Jvm.Cond) (a1 : Addr) (p1 : Int32) (ac : Addr) (ix : Addr) (bn : Addr) (ch : Addr) (ky : Addr) (mv : Addr) (tr : Addr) (fr : Addr) (tg : Addr) (sd : Addr) (k_tg : ClassId) (k_sd : ClassId) (k_ky : ClassId) (k_tr : ClassId) (tg0 : Value) (tg1 : Value) (tg2 : Value) (sd0 : Value) (sd1 : Value) (sd2 : Value) (ky1 : Value) (ky2 : Value) (tr0 : Value) (tr1 : Value) (tr2 : Value) (kx : Addr) (kv : List Value) (kk : ClassId) (pk : Int32) (cnt : Int32) (wb : Int64) (h0 : Heap) (n0 : Nat) (Z0 : n0 ≤ h0.size) (E_a1 : Exa Z h0 a1 cN0) (F_actors_a1 : Fld Z h0 a1 cN0 "actors" "[I" (.ref ac)) (F_indices_a1 : Fld Z h0 a1 cN0 "indices" "[I" (.ref ix)) (F_branchNumbers_a1 : Fld Z h0 a1 cN0 "branchNumbers" "[I" (.ref bn)) (F_chose_a1 : Fld Z h0 a1 cN0 "chose" "[Z" (.ref ch)) (F_keys_a1 : Fld Z h0 a1 cN0 "keys" "[[B" (.ref ky)) (F_moves_a1 : Fld Z h0 a1 cN0 "moves" cN1 (.ref mv)) (F_transitions_a1 : Fld Z h0 a1 cN0 "transitions" cN2 (.ref tr)) (F_frames_a1 : Fld Z h0 a1 cN0 "frames" "[J" (.ref fr)) (F_targets_a1 : Fld Z h0 a1 cN0 "targets" "[I" (.ref tg)) (F_stored_a1 : Fld Z h0 a1 cN0 "stored" "[Z" (.ref sd)) (F_count_a1 : Fld Z h0 a1 cN0 "count" "I" (.int cnt)) (F_admitted_a1 : Fld Z h0 a1 cN0 "admitted" "I" (.int (0 : Int32))) (F_waitingBytes_a1 : Fld Z h0 a1 cN0 "waitingBytes" "J" (.long wb)) (V_tg : OAr Z h0 tg k_tg .int (oV tg0 tg1 tg2 (.int (0 : Int32)))) (V_sd : OAr Z h0 sd k_sd .boolean (oV sd0 sd1 sd2 (.int (0 : Int32)))) (V_tr : OAr Z h0 tr k_tr (.object "com/example/flote/flote/search/Search$Branches") (oV tr0 tr1 tr2 .null)) (V_ky : OAr Z h0 ky k_ky (.array .byte) (oV (.ref kx) ky1 ky2 .null)) (V_kx : OAr Z h0 kx kk .byte kv) (hk : kv.length.toInt32 = pk) (g_a1 : n0 ≤ a1) (g_tg : n0 ≤ tg) (g_sd : n0 ≤ sd) (g_ky : n0 ≤ ky) (g_tr : n0 ≤ tr) (nd0 : OND [a1, ac, ix, bn, ch, ky, mv, tr, fr, tg, sd, kx]) :
    MetFree l mN4 (head1 (Jvm.Cond.code mN4 prog_108_method_18_code 3 none :: ws) ({ frames := 0, cells := 0, slots := 0, locals := 0 } : Room)) (fun a U => a = #[(.ref a1), (.int p1), (.int (0 : Int32))] ∧ Z.Warmed39 U.vm ∧ U.heap = h0) (fun _ _ _ _ _ => True) (fun _ U o U' => ∃ v L, o = .returned v ∧ Q_admit00 Z a1 p1 ac ix bn ch ky mv tr fr tg sd k_tg k_sd k_ky k_tr tg0 tg1 tg2 sd0 sd1 sd2 ky1 ky2 tr0 tr1 tr2 kx kv kk pk cnt wb h0 n0 v U'.heap L ∧ FrameEnd U o U' L ({ frames := 0, cells := 0, slots := 0, locals := 0 } : Room).cells ({ frames := 0, cells := 0, slots := 0, locals := 0 } : Room).slots) := by
  refine MetFree.of_bodySF (plainFor_of_name pn_com_example_flote_flote_search_Reached) hisR ?_
  intro p e s m args below meth c s₁ Bd hml0 hP hK
  obtain ⟨rfl, hZ, hh⟩ := hP
  have hx := Bd.exec
  have hby := Bd.bytes
  have hml : c.maxLocals = 3 := hml0
  have hown : s.vm.findClass "com/example/flote/flote/search/Reached" = some m.cls := findClass_of_methodNamed Bd.named
  have hnm := (name_of_methodNamed Bd.named Bd.method).1
  have X0 : Stand p l e ({ frames := 0, cells := 0, slots := 0, locals := 0 } : Room) s m #[(.ref a1), (.int p1), (.int (0 : Int32))] below meth c s₁ [] 0 0 := Stand.of_body Bd
  have e0 : s₁.heap = h0 := by rw [← hh, Bd.state]; rfl
  have N0 := Fr.nil n0
  obtain ⟨A0, hA0⟩ : ∃ z, z = s₁.setTop (entryFrame m #[(.ref a1), (.int p1), (.int (0 : Int32))] 3) := ⟨_, rfl⟩
  have K : OGo p e below A0 s₁ (mkF m 0 #[rv a1, iv p1, iv 0] []) := fun t k => hA0 ▸ castTop (ef_6 m a1 p1 (0 : Int32)) k
  replace K : OGo p e below A0 s₁ (mkF m 1 #[rv a1, iv p1, iv 0] [(.ref a1)]) := fun t k => K t (XS.aloadN X0.here hx rfl (hb hby d6_0) rfl rfl k)
  obtain ⟨T1, X1, e1, st1⟩ := getF X0 hx hZ hown (host := "") (Or.inl (ow hw 35 rfl)) Via.refl e0 F_targets_a1 (g := (mkF m 1 #[rv a1, iv p1, iv 0] [(.ref a1)])) rfl rfl (hb hby d6_1)
  replace K : OGo p e below A0 T1 (mkF m 4 #[rv a1, iv p1, iv 0] [(.ref tg)]) := fun t k => K t (st1 t k)
  replace K : OGo p e below A0 T1 (mkF m 5 #[rv a1, iv p1, iv 0] [(.ref a1), (.ref tg)]) := fun t k => K t (XS.aloadN X1.here hx rfl (hb hby d6_4) rfl rfl k)
  obtain ⟨T2, X2, e2, st2⟩ := getF X1 hx hZ hown (host := "") (Or.inl (ow hw 50 rfl)) Via.refl e1 F_admitted_a1 (g := (mkF m 5 #[rv a1, iv p1, iv 0] [(.ref a1), (.ref tg)])) rfl rfl (hb hby d6_5)
  replace K : OGo p e below A0 T2 (mkF m 8 #[rv a1, iv p1, iv 0] [(.int 0), (.ref tg)]) := fun t k => K t (st2 t k)
  replace K : OGo p e below A0 T2 (mkF m 9 #[rv a1, iv p1, iv 0] [(.int p1), (.int 0), (.ref tg)]) := fun t k => K t (XS.iloadN X2.here hx rfl (hb hby d6_8) rfl k)
  obtain ⟨T3, h3, X3, e3, W3, V3, st3⟩ := own_stI X2 hx hZ e2 V_tg (j := (0 : Int32)) (by decide) (Nat.le_of_ble_eq_true rfl) (g := (mkF m 9 #[rv a1, iv p1, iv 0] [(.int p1), (.int 0), (.ref tg)])) rfl rfl (hb hby d6_9)
  have Z3 : n0 ≤ h3.size := Nat.le_trans Z0 (Keep.of_wr W3).1
  have Kp3 : Keep h0 h3 [a1, tg, sd, ky, tr] := (Keep.refl h0 [a1, tg, sd, ky, tr]).wr W3 (Or.inl (List.mem_of_getElem? (i := 1) rfl))
  have V_tg_3 : OAr Z h3 tg k_tg .int (oV (.int p1) tg1 tg2 (.int (0 : Int32))) := V3
  have N3 := Fr.snoc X3 N0 g_tg
  replace K : OGo p e below A0 T3 (mkF m 10 #[rv a1, iv p1, iv 0] []) := fun t k => K t (st3 t k)
  replace K : OGo p e below A0 T3 (mkF m 11 #[rv a1, iv p1, iv 0] [(.ref a1)]) := fun t k => K t (XS.aloadN X3.here hx rfl (hb hby d6_10) rfl rfl k)
  have F_stored_a1_4 := (F_stored_a1.other W3 (Or.inl (own_pw nd0 0 9 (by decide) rfl rfl)))
  obtain ⟨T5, X5, e5, st5⟩ := getF X3 hx hZ hown (host := "") (Or.inl (ow hw 37 rfl)) Via.refl e3 F_stored_a1_4 (g := (mkF m 11 #[rv a1, iv p1, iv 0] [(.ref a1)])) rfl rfl (hb hby d6_11)
  replace K : OGo p e below A0 T5 (mkF m 14 #[rv a1, iv p1, iv 0] [(.ref sd)]) := fun t k => K t (st5 t k)
  replace K : OGo p e below A0 T5 (mkF m 15 #[rv a1, iv p1, iv 0] [(.ref a1), (.ref sd)]) := fun t k => K t (XS.aloadN X5.here hx rfl (hb hby d6_14) rfl rfl k)
  have F_admitted_a1_6 := (F_admitted_a1.other W3 (Or.inl (own_pw nd0 0 9 (by decide) rfl rfl)))
  obtain ⟨T7, X7, e7, st7⟩ := getF X5 hx hZ hown (host := "") (Or.inl (ow hw 50 rfl)) Via.refl e5 F_admitted_a1_6 (g := (mkF m 15 #[rv a1, iv p1, iv 0] [(.ref a1), (.ref sd)])) rfl rfl (hb hby d6_15)
  replace K : OGo p e below A0 T7 (mkF m 18 #[rv a1, iv p1, iv 0] [(.int 0), (.ref sd)]) := fun t k => K t (st7 t k)
  replace K : OGo p e below A0 T7 (mkF m 19 #[rv a1, iv p1, iv 0] [(.int 0), (.int 0), (.ref sd)]) := fun t k => K t (XS.iloadN X7.here hx rfl (hb hby d6_18) rfl k)
  have V_sd_8 := (V_sd.other W3 (Ne.symm (own_pw nd0 9 10 (by decide) rfl rfl)))
  obtain ⟨T9, h9, X9, e9, W9, V9, st9⟩ := own_stZ X7 hx hZ e7 V_sd_8 (j := (0 : Int32)) (by decide) (Nat.le_of_ble_eq_true rfl) (g := (mkF m 19 #[rv a1, iv p1, iv 0] [(.int 0), (.int 0), (.ref sd)])) rfl rfl (hb hby d6_19)
  have Z9 : n0 ≤ h9.size := Nat.le_trans Z3 (Keep.of_wr W9).1
  have Kp9 : Keep h0 h9 [a1, tg, sd, ky, tr] := Kp3.wr W9 (Or.inl (List.mem_of_getElem? (i := 2) rfl))
  have V_sd_9 : OAr Z h9 sd k_sd .boolean (oV (.int (0 : Int32)) sd1 sd2 (.int (0 : Int32))) := V9
  have N9 := Fr.snoc X9 N3 g_sd
  replace K : OGo p e below A0 T9 (mkF m 20 #[rv a1, iv p1, iv 0] []) := fun t k => K t (st9 t k)
  replace K : OGo p e below A0 T9 (mkF m 21 #[rv a1, iv p1, iv 0] [(.ref a1)]) := fun t k => K t (XS.aloadN X9.here hx rfl (hb hby d6_20) rfl rfl k)
  replace K : OGo p e below A0 T9 (mkF m 22 #[rv a1, iv p1, iv 0] [(.ref a1), (.ref a1)]) := fun t k => K t (XS.dup X9.here hx rfl (hb hby d6_21) rfl rfl k)
  have F_waitingBytes_a1_10 := ((F_waitingBytes_a1.other W3 (Or.inl (own_pw nd0 0 9 (by decide) rfl rfl))).other W9 (Or.inl (own_pw nd0 0 10 (by decide) rfl rfl)))
  obtain ⟨T11, X11, e11, st11⟩ := getF X9 hx hZ hown (host := "") (Or.inl (ow hw 59 rfl)) Via.refl e9 F_waitingBytes_a1_10 (g := (mkF m 22 #[rv a1, iv p1, iv 0] [(.ref a1), (.ref a1)])) rfl rfl (hb hby d6_22)
  replace K : OGo p e below A0 T11 (mkF m 25 #[rv a1, iv p1, iv 0] [(.long wb), (.ref a1)]) := fun t k => K t (st11 t k)
  replace K : OGo p e below A0 T11 (mkF m 26 #[rv a1, iv p1, iv 0] [(.ref a1), (.long wb), (.ref a1)]) := fun t k => K t (XS.aloadN X11.here hx rfl (hb hby d6_25) rfl rfl k)
  have F_keys_a1_12 := ((F_keys_a1.other W3 (Or.inl (own_pw nd0 0 9 (by decide) rfl rfl))).other W9 (Or.inl (own_pw nd0 0 10 (by decide) rfl rfl)))
  obtain ⟨T13, X13, e13, st13⟩ := getF X11 hx hZ hown (host := "") (Or.inl (ow hw 22 rfl)) Via.refl e11 F_keys_a1_12 (g := (mkF m 26 #[rv a1, iv p1, iv 0] [(.ref a1), (.long wb), (.ref a1)])) rfl rfl (hb hby d6_26)
  replace K : OGo p e below A0 T13 (mkF m 29 #[rv a1, iv p1, iv 0] [(.ref ky), (.long wb), (.ref a1)]) := fun t k => K t (st13 t k)
  replace K : OGo p e below A0 T13 (mkF m 30 #[rv a1, iv p1, iv 0] [(.ref a1), (.ref ky), (.long wb), (.ref a1)]) := fun t k => K t (XS.aloadN X13.here hx rfl (hb hby d6_29) rfl rfl k)
  have F_admitted_a1_14 := (F_admitted_a1_6.other W9 (Or.inl (own_pw nd0 0 10 (by decide) rfl rfl)))
  obtain ⟨T15, X15, e15, st15⟩ := getF X13 hx hZ hown (host := "") (Or.inl (ow hw 50 rfl)) Via.refl e13 F_admitted_a1_14 (g := (mkF m 30 #[rv a1, iv p1, iv 0] [(.ref a1), (.ref ky), (.long wb), (.ref a1)])) rfl rfl (hb hby d6_30)
  replace K : OGo p e below A0 T15 (mkF m 33 #[rv a1, iv p1, iv 0] [(.int 0), (.ref ky), (.long wb), (.ref a1)]) := fun t k => K t (st15 t k)
  have V_ky_16 := ((V_ky.other W3 (own_pw nd0 5 9 (by decide) rfl rfl)).other W9 (own_pw nd0 5 10 (by decide) rfl rfl))
  replace K : OGo p e below A0 T15 (mkF m 34 #[rv a1, iv p1, iv 0] [(.ref kx), (.long wb), (.ref a1)]) := fun t k => K t (own_ldA X15 hx hZ e15 V_ky_16 rfl (j := (0 : Int32)) (v := (.ref kx)) (by decide) rfl (g := (mkF m 33 #[rv a1, iv p1, iv 0] [(.int 0), (.ref ky), (.long wb), (.ref a1)])) rfl rfl (hb hby d6_33) t k)
  have V_kx_17 := ((V_kx.other W3 (Ne.symm (own_pw nd0 9 11 (by decide) rfl rfl))).other W9 (Ne.symm (own_pw nd0 10 11 (by decide) rfl rfl)))
  replace K : OGo p e below A0 T15 (mkF m 35 #[rv a1, iv p1, iv 0] [(.int pk), (.long wb), (.ref a1)]) := fun t k => K t (own_len X15 hx hZ e15 V_kx_17 (n := pk) hk (g := (mkF m 34 #[rv a1, iv p1, iv 0] [(.ref kx), (.long wb), (.ref a1)])) rfl rfl (hb hby d6_34) t k)
  replace K : OGo p e below A0 T15 (mkF m 36 #[rv a1, iv p1, iv 0] [(.int 1), (.int pk), (.long wb), (.ref a1)]) := fun t k => K t (XS.iconst X15.here hx rfl (hb hby d6_35) k)
  replace K : OGo p e below A0 T15 (mkF m 37 #[rv a1, iv p1, iv 0] [(.int (pk + (1 : Int32))), (.long wb), (.ref a1)]) := fun t k => K t (XS.iadd X15.here hx rfl (hb hby d6_36) rfl k)
  replace K : OGo p e below A0 T15 (mkF m 38 #[rv a1, iv p1, iv 0] [(.long ((pk + (1 : Int32)).toInt64)), (.long wb), (.ref a1)]) := fun t k => K t (XS.i2l X15.here hx rfl (hb hby d6_37) rfl k)
  replace K : OGo p e below A0 T15 (mkF m 39 #[rv a1, iv p1, iv 0] [(.long (wb - ((pk + (1 : Int32)).toInt64))), (.ref a1)]) := fun t k => K t (XS.lsub X15.here hx rfl (hb hby d6_38) rfl k)
  have E_a1_18 := ((E_a1.wr W3).wr W9)
  obtain ⟨T19, h19, X19, e19, W19, st19⟩ := putF X15 hx hZ hown (host := "") (Or.inl (ow hw 59 rfl)) Via.refl e15 F_waitingBytes_a1_10 E_a1_18 (Or.inl (ow hw 60 rfl)) (ow hw 2 rfl) (ty := .long) (by decide) rfl rfl (g := (mkF m 39 #[rv a1, iv p1, iv 0] [(.long (wb - ((pk + (1 : Int32)).toInt64))), (.ref a1)])) rfl rfl (hb hby d6_39)
  have Z19 : n0 ≤ h19.size := Nat.le_trans Z9 (Keep.of_wr W19).1
  have Kp19 : Keep h0 h19 [a1, tg, sd, ky, tr] := Kp9.wr W19 (Or.inl (List.mem_of_getElem? (i := 0) rfl))
  have F_waitingBytes_a1_19 := F_waitingBytes_a1_10.same W19
  have N19 := Fr.snoc X19 N9 g_a1
  replace K : OGo p e below A0 T19 (mkF m 42 #[rv a1, iv p1, iv 0] []) := fun t k => K t (st19 t k)
  replace K : OGo p e below A0 T19 (mkF m 43 #[rv a1, iv p1, iv 0] [(.ref a1)]) := fun t k => K t (XS.aloadN X19.here hx rfl (hb hby d6_42) rfl rfl k)
  have F_keys_a1_20 := (F_keys_a1_12.other W19 (Or.inr (sn_cN0_keys_waitingBytes hw)))
  obtain ⟨T21, X21, e21, st21⟩ := getF X19 hx hZ hown (host := "") (Or.inl (ow hw 22 rfl)) Via.refl e19 F_keys_a1_20 (g := (mkF m 43 #[rv a1, iv p1, iv 0] [(.ref a1)])) rfl rfl (hb hby d6_43)
  replace K : OGo p e below A0 T21 (mkF m 46 #[rv a1, iv p1, iv 0] [(.ref ky)]) := fun t k => K t (st21 t k)
  replace K : OGo p e below A0 T21 (mkF m 47 #[rv a1, iv p1, iv 0] [(.ref a1), (.ref ky)]) := fun t k => K t (XS.aloadN X21.here hx rfl (hb hby d6_46) rfl rfl k)
  have F_admitted_a1_22 := (F_admitted_a1_14.other W19 (Or.inr (sn_cN0_admitted_waitingBytes hw)))
  obtain ⟨T23, X23, e23, st23⟩ := getF X21 hx hZ hown (host := "") (Or.inl (ow hw 50 rfl)) Via.refl e21 F_admitted_a1_22 (g := (mkF m 47 #[rv a1, iv p1, iv 0] [(.ref a1), (.ref ky)])) rfl rfl (hb hby d6_47)
  replace K : OGo p e below A0 T23 (mkF m 50 #[rv a1, iv p1, iv 0] [(.int 0), (.ref ky)]) := fun t k => K t (st23 t k)
  replace K : OGo p e below A0 T23 (mkF m 51 #[rv a1, iv p1, iv 0] [.null, (.int 0), (.ref ky)]) := fun t k => K t (XS.aconstNull X23.here hx rfl (hb hby d6_50) k)
  have V_ky_24 := (V_ky_16.other W19 (Ne.symm (own_pw nd0 0 5 (by decide) rfl rfl)))
  obtain ⟨T25, h25, X25, e25, W25, V25, st25⟩ := own_stR X23 hx hZ e23 V_ky_24 rfl (j := (0 : Int32)) (by decide) (Nat.le_of_ble_eq_true rfl) (Or.inl rfl) (g := (mkF m 51 #[rv a1, iv p1, iv 0] [.null, (.int 0), (.ref ky)])) rfl rfl (hb hby d6_51)
  have Z25 : n0 ≤ h25.size := Nat.le_trans Z19 (Keep.of_wr W25).1
  have Kp25 : Keep h0 h25 [a1, tg, sd, ky, tr] := Kp19.wr W25 (Or.inl (List.mem_of_getElem? (i := 3) rfl))
  have V_ky_25 : OAr Z h25 ky k_ky (.array .byte) (oV .null ky1 ky2 .null) := V25
  have N25 := Fr.snoc X25 N19 g_ky
  replace K : OGo p e below A0 T25 (mkF m 52 #[rv a1, iv p1, iv 0] []) := fun t k => K t (st25 t k)
  replace K : OGo p e below A0 T25 (mkF m 53 #[rv a1, iv p1, iv 0] [(.ref a1)]) := fun t k => K t (XS.aloadN X25.here hx rfl (hb hby d6_52) rfl rfl k)
  have F_transitions_a1_26 := ((((F_transitions_a1.other W3 (Or.inl (own_pw nd0 0 9 (by decide) rfl rfl))).other W9 (Or.inl (own_pw nd0 0 10 (by decide) rfl rfl))).other W19 (Or.inr (sn_cN0_transitions_waitingBytes hw))).other W25 (Or.inl (own_pw nd0 0 5 (by decide) rfl rfl)))
  obtain ⟨T27, X27, e27, st27⟩ := getF X25 hx hZ hown (host := "") (Or.inl (ow hw 30 rfl)) Via.refl e25 F_transitions_a1_26 (g := (mkF m 53 #[rv a1, iv p1, iv 0] [(.ref a1)])) rfl rfl (hb hby d6_53)
  replace K : OGo p e below A0 T27 (mkF m 56 #[rv a1, iv p1, iv 0] [(.ref tr)]) := fun t k => K t (st27 t k)
  replace K : OGo p e below A0 T27 (mkF m 57 #[rv a1, iv p1, iv 0] [(.ref a1), (.ref tr)]) := fun t k => K t (XS.aloadN X27.here hx rfl (hb hby d6_56) rfl rfl k)
  have F_admitted_a1_28 := (F_admitted_a1_22.other W25 (Or.inl (own_pw nd0 0 5 (by decide) rfl rfl)))
  obtain ⟨T29, X29, e29, st29⟩ := getF X27 hx hZ hown (host := "") (Or.inl (ow hw 50 rfl)) Via.refl e27 F_admitted_a1_28 (g := (mkF m 57 #[rv a1, iv p1, iv 0] [(.ref a1), (.ref tr)])) rfl rfl (hb hby d6_57)
  replace K : OGo p e below A0 T29 (mkF m 60 #[rv a1, iv p1, iv 0] [(.int 0), (.ref tr)]) := fun t k => K t (st29 t k)
  replace K : OGo p e below A0 T29 (mkF m 61 #[rv a1, iv p1, iv 0] [.null, (.int 0), (.ref tr)]) := fun t k => K t (XS.aconstNull X29.here hx rfl (hb hby d6_60) k)
  have V_tr_30 := ((((V_tr.other W3 (own_pw nd0 7 9 (by decide) rfl rfl)).other W9 (own_pw nd0 7 10 (by decide) rfl rfl)).other W19 (Ne.symm (own_pw nd0 0 7 (by decide) rfl rfl))).other W25 (Ne.symm (own_pw nd0 5 7 (by decide) rfl rfl)))
  obtain ⟨T31, h31, X31, e31, W31, V31, st31⟩ := own_stR X29 hx hZ e29 V_tr_30 rfl (j := (0 : Int32)) (by decide) (Nat.le_of_ble_eq_true rfl) (Or.inl rfl) (g := (mkF m 61 #[rv a1, iv p1, iv 0] [.null, (.int 0), (.ref tr)])) rfl rfl (hb hby d6_61)
  have Z31 : n0 ≤ h31.size := Nat.le_trans Z25 (Keep.of_wr W31).1
  have Kp31 : Keep h0 h31 [a1, tg, sd, ky, tr] := Kp25.wr W31 (Or.inl (List.mem_of_getElem? (i := 4) rfl))
  have V_tr_31 : OAr Z h31 tr k_tr (.object "com/example/flote/flote/search/Search$Branches") (oV .null tr1 tr2 .null) := V31
  have N31 := Fr.snoc X31 N25 g_tr
  replace K : OGo p e below A0 T31 (mkF m 62 #[rv a1, iv p1, iv 0] []) := fun t k => K t (st31 t k)
  replace K : OGo p e below A0 T31 (mkF m 63 #[rv a1, iv p1, iv 0] [(.ref a1)]) := fun t k => K t (XS.aloadN X31.here hx rfl (hb hby d6_62) rfl rfl k)
  replace K : OGo p e below A0 T31 (mkF m 64 #[rv a1, iv p1, iv 0] [(.ref a1), (.ref a1)]) := fun t k => K t (XS.dup X31.here hx rfl (hb hby d6_63) rfl rfl k)
  have F_admitted_a1_32 := (F_admitted_a1_28.other W31 (Or.inl (own_pw nd0 0 7 (by decide) rfl rfl)))
  obtain ⟨T33, X33, e33, st33⟩ := getF X31 hx hZ hown (host := "") (Or.inl (ow hw 50 rfl)) Via.refl e31 F_admitted_a1_32 (g := (mkF m 64 #[rv a1, iv p1, iv 0] [(.ref a1), (.ref a1)])) rfl rfl (hb hby d6_64)
  replace K : OGo p e below A0 T33 (mkF m 67 #[rv a1, iv p1, iv 0] [(.int 0), (.ref a1)]) := fun t k => K t (st33 t k)
  replace K : OGo p e below A0 T33 (mkF m 68 #[rv a1, iv p1, iv 0] [(.int 1), (.int 0), (.ref a1)]) := fun t k => K t (XS.iconst X33.here hx rfl (hb hby d6_67) k)
  replace K : OGo p e below A0 T33 (mkF m 69 #[rv a1, iv p1, iv 0] [(.int 1), (.ref a1)]) := fun t k => K t (XS.iadd X33.here hx rfl (hb hby d6_68) rfl k)
  have E_a1_34 := (((E_a1_18.wr W19).wr W25).wr W31)
  obtain ⟨T35, h35, X35, e35, W35, st35⟩ := putF X33 hx hZ hown (host := "") (Or.inl (ow hw 50 rfl)) Via.refl e33 F_admitted_a1_32 E_a1_34 (Or.inl (ow hw 51 rfl)) (ow hw 2 rfl) (ty := .int) (by decide) rfl rfl (g := (mkF m 69 #[rv a1, iv p1, iv 0] [(.int 1), (.ref a1)])) rfl rfl (hb hby d6_69)
  have Z35 : n0 ≤ h35.size := Nat.le_trans Z31 (Keep.of_wr W35).1
  have Kp35 : Keep h0 h35 [a1, tg, sd, ky, tr] := Kp31.wr W35 (Or.inl (List.mem_of_getElem? (i := 0) rfl))
  have F_admitted_a1_35 := F_admitted_a1_32.same W35
  have N35 := Fr.snoc X35 N31 g_a1
  replace K : OGo p e below A0 T35 (mkF m 72 #[rv a1, iv p1, iv 0] []) := fun t k => K t (st35 t k)
  have E_a1_36 := (E_a1_34.wr W35)
  have F_actors_a1_37 := ((((((F_actors_a1.other W3 (Or.inl (own_pw nd0 0 9 (by decide) rfl rfl))).other W9 (Or.inl (own_pw nd0 0 10 (by decide) rfl rfl))).other W19 (Or.inr (sn_cN0_actors_waitingBytes hw))).other W25 (Or.inl (own_pw nd0 0 5 (by decide) rfl rfl))).other W31 (Or.inl (own_pw nd0 0 7 (by decide) rfl rfl))).other W35 (Or.inr (sn_cN0_actors_admitted hw)))
  have F_indices_a1_38 := ((((((F_indices_a1.other W3 (Or.inl (own_pw nd0 0 9 (by decide) rfl rfl))).other W9 (Or.inl (own_pw nd0 0 10 (by decide) rfl rfl))).other W19 (Or.inr (sn_cN0_indices_waitingBytes hw))).other W25 (Or.inl (own_pw nd0 0 5 (by decide) rfl rfl))).other W31 (Or.inl (own_pw nd0 0 7 (by decide) rfl rfl))).other W35 (Or.inr (sn_cN0_indices_admitted hw)))
  have F_branchNumbers_a1_39 := ((((((F_branchNumbers_a1.other W3 (Or.inl (own_pw nd0 0 9 (by decide) rfl rfl))).other W9 (Or.inl (own_pw nd0 0 10 (by decide) rfl rfl))).other W19 (Or.inr (sn_cN0_branchNumbers_waitingBytes hw))).other W25 (Or.inl (own_pw nd0 0 5 (by decide) rfl rfl))).other W31 (Or.inl (own_pw nd0 0 7 (by decide) rfl rfl))).other W35 (Or.inr (sn_cN0_branchNumbers_admitted hw)))
  have F_chose_a1_40 := ((((((F_chose_a1.other W3 (Or.inl (own_pw nd0 0 9 (by decide) rfl rfl))).other W9 (Or.inl (own_pw nd0 0 10 (by decide) rfl rfl))).other W19 (Or.inr (sn_cN0_chose_waitingBytes hw))).other W25 (Or.inl (own_pw nd0 0 5 (by decide) rfl rfl))).other W31 (Or.inl (own_pw nd0 0 7 (by decide) rfl rfl))).other W35 (Or.inr (sn_cN0_chose_admitted hw)))
  have F_keys_a1_41 := (((F_keys_a1_20.other W25 (Or.inl (own_pw nd0 0 5 (by decide) rfl rfl))).other W31 (Or.inl (own_pw nd0 0 7 (by decide) rfl rfl))).other W35 (Or.inr (sn_cN0_keys_admitted hw)))
  have F_moves_a1_42 := ((((((F_moves_a1.other W3 (Or.inl (own_pw nd0 0 9 (by decide) rfl rfl))).other W9 (Or.inl (own_pw nd0 0 10 (by decide) rfl rfl))).other W19 (Or.inr (sn_cN0_moves_waitingBytes hw))).other W25 (Or.inl (own_pw nd0 0 5 (by decide) rfl rfl))).other W31 (Or.inl (own_pw nd0 0 7 (by decide) rfl rfl))).other W35 (Or.inr (sn_cN0_moves_admitted hw)))
  have F_transitions_a1_43 := ((F_transitions_a1_26.other W31 (Or.inl (own_pw nd0 0 7 (by decide) rfl rfl))).other W35 (Or.inr (sn_cN0_transitions_admitted hw)))
  have F_frames_a1_44 := ((((((F_frames_a1.other W3 (Or.inl (own_pw nd0 0 9 (by decide) rfl rfl))).other W9 (Or.inl (own_pw nd0 0 10 (by decide) rfl rfl))).other W19 (Or.inr (sn_cN0_frames_waitingBytes hw))).other W25 (Or.inl (own_pw nd0 0 5 (by decide) rfl rfl))).other W31 (Or.inl (own_pw nd0 0 7 (by decide) rfl rfl))).other W35 (Or.inr (sn_cN0_frames_admitted hw)))
  have F_targets_a1_45 := ((((((F_targets_a1.other W3 (Or.inl (own_pw nd0 0 9 (by decide) rfl rfl))).other W9 (Or.inl (own_pw nd0 0 10 (by decide) rfl rfl))).other W19 (Or.inr (sn_cN0_targets_waitingBytes hw))).other W25 (Or.inl (own_pw nd0 0 5 (by decide) rfl rfl))).other W31 (Or.inl (own_pw nd0 0 7 (by decide) rfl rfl))).other W35 (Or.inr (sn_cN0_targets_admitted hw)))
  have F_stored_a1_46 := (((((F_stored_a1_4.other W9 (Or.inl (own_pw nd0 0 10 (by decide) rfl rfl))).other W19 (Or.inr (sn_cN0_stored_waitingBytes hw))).other W25 (Or.inl (own_pw nd0 0 5 (by decide) rfl rfl))).other W31 (Or.inl (own_pw nd0 0 7 (by decide) rfl rfl))).other W35 (Or.inr (sn_cN0_stored_admitted hw)))
  have F_count_a1_47 := ((((((F_count_a1.other W3 (Or.inl (own_pw nd0 0 9 (by decide) rfl rfl))).other W9 (Or.inl (own_pw nd0 0 10 (by decide) rfl rfl))).other W19 (Or.inr (sn_cN0_count_waitingBytes hw))).other W25 (Or.inl (own_pw nd0 0 5 (by decide) rfl rfl))).other W31 (Or.inl (own_pw nd0 0 7 (by decide) rfl rfl))).other W35 (Or.inr (sn_cN0_count_admitted hw)))
  have F_waitingBytes_a1_48 := (((F_waitingBytes_a1_19.other W25 (Or.inl (own_pw nd0 0 5 (by decide) rfl rfl))).other W31 (Or.inl (own_pw nd0 0 7 (by decide) rfl rfl))).other W35 (Or.inr (sn_cN0_waitingBytes_admitted hw)))
  have V_tg_49 := (((((V_tg_3.other W9 (own_pw nd0 9 10 (by decide) rfl rfl)).other W19 (Ne.symm (own_pw nd0 0 9 (by decide) rfl rfl))).other W25 (Ne.symm (own_pw nd0 5 9 (by decide) rfl rfl))).other W31 (Ne.symm (own_pw nd0 7 9 (by decide) rfl rfl))).other W35 (Ne.symm (own_pw nd0 0 9 (by decide) rfl rfl)))
  have V_sd_50 := ((((V_sd_9.other W19 (Ne.symm (own_pw nd0 0 10 (by decide) rfl rfl))).other W25 (Ne.symm (own_pw nd0 5 10 (by decide) rfl rfl))).other W31 (Ne.symm (own_pw nd0 7 10 (by decide) rfl rfl))).other W35 (Ne.symm (own_pw nd0 0 10 (by decide) rfl rfl)))
  have V_ky_51 := ((V_ky_25.other W31 (own_pw nd0 5 7 (by decide) rfl rfl)).other W35 (Ne.symm (own_pw nd0 0 5 (by decide) rfl rfl)))
  have V_tr_52 := (V_tr_31.other W35 (Ne.symm (own_pw nd0 0 7 (by decide) rfl rfl)))
  obtain ⟨fs, hr, hrun, hended, hW, hsame⟩ := X35.leave (v := none) (fun _ => rfl)
  subst hA0
  refine ⟨_, _, K _ (X35.returnOut hx Bd.returns (hb hby d6_72) hr), hrun, hended, _, _, rfl, ?_, ⟨_, rfl⟩, hW, hsame.mono (by decide) (by decide)⟩
  show Q_admit00 Z a1 p1 ac ix bn ch ky mv tr fr tg sd k_tg k_sd k_ky k_tr tg0 tg1 tg2 sd0 sd1 sd2 ky1 ky2 tr0 tr1 tr2 kx kv kk pk cnt wb h0 n0 _ T35.heap _
  rw [e35]
  exact ⟨rfl, N35, Kp35, E_a1_36, F_actors_a1_37, F_indices_a1_38, F_branchNumbers_a1_39, F_chose_a1_40, F_keys_a1_41, F_moves_a1_42, F_transitions_a1_43, F_frames_a1_44, F_targets_a1_45, F_stored_a1_46, F_count_a1_47, F_admitted_a1_35, F_waitingBytes_a1_48, V_tg_49, V_sd_50, V_ky_51, V_tr_52⟩
def Q_admit01 (Z : State) (a1 : Addr) (p1 : Int32) (ac : Addr) (ix : Addr) (bn : Addr) (ch : Addr) (ky : Addr) (mv : Addr) (tr : Addr) (fr : Addr) (tg : Addr) (sd : Addr) (k_tg : ClassId) (k_sd : ClassId) (k_ky : ClassId) (k_tr : ClassId) (tg0 : Value) (tg1 : Value) (tg2 : Value) (sd0 : Value) (sd1 : Value) (sd2 : Value) (ky1 : Value) (ky2 : Value) (tr0 : Value) (tr1 : Value) (tr2 : Value) (kx : Addr) (kv : List Value) (kk : ClassId) (pk : Int32) (cnt : Int32) (wb : Int64) (h0 : Heap) (n0 : Nat) (v : Option Value) (h : Heap) (L : List Loc) : Prop := v = none ∧ Fr n0 L ∧ Keep h0 h [a1, tg, sd, ky, tr] ∧ Exa Z h a1 cN0 ∧ Fld Z h a1 cN0 "actors" "[I" (.ref ac) ∧ Fld Z h a1 cN0 "indices" "[I" (.ref ix) ∧ Fld Z h a1 cN0 "branchNumbers" "[I" (.ref bn) ∧ Fld Z h a1 cN0 "chose" "[Z" (.ref ch) ∧ Fld Z h a1 cN0 "keys" "[[B" (.ref ky) ∧ Fld Z h a1 cN0 "moves" cN1 (.ref mv) ∧ Fld Z h a1 cN0 "transitions" cN2 (.ref tr) ∧ Fld Z h a1 cN0 "frames" "[J" (.ref fr) ∧ Fld Z h a1 cN0 "targets" "[I" (.ref tg) ∧ Fld Z h a1 cN0 "stored" "[Z" (.ref sd) ∧ Fld Z h a1 cN0 "count" "I" (.int cnt) ∧ Fld Z h a1 cN0 "admitted" "I" (.int (1 : Int32)) ∧ Fld Z h a1 cN0 "waitingBytes" "J" (.long (wb - ((pk + (1 : Int32)).toInt64))) ∧ OAr Z h tg k_tg .int (oV (.int p1) tg1 tg2 (.int (0 : Int32))) ∧ OAr Z h sd k_sd .boolean (oV (.int (1 : Int32)) sd1 sd2 (.int (0 : Int32))) ∧ OAr Z h ky k_ky (.array .byte) (oV .null ky1 ky2 .null) ∧ OAr Z h tr k_tr (.object "com/example/flote/flote/search/Search$Branches") (oV .null tr1 tr2 .null)
set_option maxRecDepth 65536 in
set_option maxHeartbeats 40000000 in
theorem rm_admit01 (l : Launch) (Z : State) (a0 : Array Value) (hw : ∀ d ∈ tables_1, d.before a0 Z = true) (ws : List Jvm.Cond) (a1 : Addr) (p1 : Int32) (ac : Addr) (ix : Addr) (bn : Addr) (ch : Addr) (ky : Addr) (mv : Addr) (tr : Addr) (fr : Addr) (tg : Addr) (sd : Addr) (k_tg : ClassId) (k_sd : ClassId) (k_ky : ClassId) (k_tr : ClassId) (tg0 : Value) (tg1 : Value) (tg2 : Value) (sd0 : Value) (sd1 : Value) (sd2 : Value) (ky1 : Value) (ky2 : Value) (tr0 : Value) (tr1 : Value) (tr2 : Value) (kx : Addr) (kv : List Value) (kk : ClassId) (pk : Int32) (cnt : Int32) (wb : Int64) (h0 : Heap) (n0 : Nat) (Z0 : n0 ≤ h0.size) (E_a1 : Exa Z h0 a1 cN0) (F_actors_a1 : Fld Z h0 a1 cN0 "actors" "[I" (.ref ac)) (F_indices_a1 : Fld Z h0 a1 cN0 "indices" "[I" (.ref ix)) (F_branchNumbers_a1 : Fld Z h0 a1 cN0 "branchNumbers" "[I" (.ref bn)) (F_chose_a1 : Fld Z h0 a1 cN0 "chose" "[Z" (.ref ch)) (F_keys_a1 : Fld Z h0 a1 cN0 "keys" "[[B" (.ref ky)) (F_moves_a1 : Fld Z h0 a1 cN0 "moves" cN1 (.ref mv)) (F_transitions_a1 : Fld Z h0 a1 cN0 "transitions" cN2 (.ref tr)) (F_frames_a1 : Fld Z h0 a1 cN0 "frames" "[J" (.ref fr)) (F_targets_a1 : Fld Z h0 a1 cN0 "targets" "[I" (.ref tg)) (F_stored_a1 : Fld Z h0 a1 cN0 "stored" "[Z" (.ref sd)) (F_count_a1 : Fld Z h0 a1 cN0 "count" "I" (.int cnt)) (F_admitted_a1 : Fld Z h0 a1 cN0 "admitted" "I" (.int (0 : Int32))) (F_waitingBytes_a1 : Fld Z h0 a1 cN0 "waitingBytes" "J" (.long wb)) (V_tg : OAr Z h0 tg k_tg .int (oV tg0 tg1 tg2 (.int (0 : Int32)))) (V_sd : OAr Z h0 sd k_sd .boolean (oV sd0 sd1 sd2 (.int (0 : Int32)))) (V_tr : OAr Z h0 tr k_tr (.object "com/example/flote/flote/search/Search$Branches") (oV tr0 tr1 tr2 .null)) (V_ky : OAr Z h0 ky k_ky (.array .byte) (oV (.ref kx) ky1 ky2 .null)) (V_kx : OAr Z h0 kx kk .byte kv) (hk : kv.length.toInt32 = pk) (g_a1 : n0 ≤ a1) (g_tg : n0 ≤ tg) (g_sd : n0 ≤ sd) (g_ky : n0 ≤ ky) (g_tr : n0 ≤ tr) (nd0 : OND [a1, ac, ix, bn, ch, ky, mv, tr, fr, tg, sd, kx]) :
    MetFree l mN4 (head1 (Jvm.Cond.code mN4 prog_108_method_18_code 3 none :: ws) ({ frames := 0, cells := 0, slots := 0, locals := 0 } : Room)) (fun a U => a = #[(.ref a1), (.int p1), (.int (1 : Int32))] ∧ Z.Warmed39 U.vm ∧ U.heap = h0) (fun _ _ _ _ _ => True) (fun _ U o U' => ∃ v L, o = .returned v ∧ Q_admit01 Z a1 p1 ac ix bn ch ky mv tr fr tg sd k_tg k_sd k_ky k_tr tg0 tg1 tg2 sd0 sd1 sd2 ky1 ky2 tr0 tr1 tr2 kx kv kk pk cnt wb h0 n0 v U'.heap L ∧ FrameEnd U o U' L ({ frames := 0, cells := 0, slots := 0, locals := 0 } : Room).cells ({ frames := 0, cells := 0, slots := 0, locals := 0 } : Room).slots) := by
  refine MetFree.of_bodySF (plainFor_of_name pn_com_example_flote_flote_search_Reached) hisR ?_
  intro p e s m args below meth c s₁ Bd hml0 hP hK
  obtain ⟨rfl, hZ, hh⟩ := hP
  have hx := Bd.exec
  have hby := Bd.bytes
  have hml : c.maxLocals = 3 := hml0
  have hown : s.vm.findClass "com/example/flote/flote/search/Reached" = some m.cls := findClass_of_methodNamed Bd.named
  have hnm := (name_of_methodNamed Bd.named Bd.method).1
  have X0 : Stand p l e ({ frames := 0, cells := 0, slots := 0, locals := 0 } : Room) s m #[(.ref a1), (.int p1), (.int (1 : Int32))] below meth c s₁ [] 0 0 := Stand.of_body Bd
  have e0 : s₁.heap = h0 := by rw [← hh, Bd.state]; rfl
  have N0 := Fr.nil n0
  obtain ⟨A0, hA0⟩ : ∃ z, z = s₁.setTop (entryFrame m #[(.ref a1), (.int p1), (.int (1 : Int32))] 3) := ⟨_, rfl⟩
  have K : OGo p e below A0 s₁ (mkF m 0 #[rv a1, iv p1, iv 1] []) := fun t k => hA0 ▸ castTop (ef_6 m a1 p1 (1 : Int32)) k
  replace K : OGo p e below A0 s₁ (mkF m 1 #[rv a1, iv p1, iv 1] [(.ref a1)]) := fun t k => K t (XS.aloadN X0.here hx rfl (hb hby d6_0) rfl rfl k)
  obtain ⟨T1, X1, e1, st1⟩ := getF X0 hx hZ hown (host := "") (Or.inl (ow hw 35 rfl)) Via.refl e0 F_targets_a1 (g := (mkF m 1 #[rv a1, iv p1, iv 1] [(.ref a1)])) rfl rfl (hb hby d6_1)
  replace K : OGo p e below A0 T1 (mkF m 4 #[rv a1, iv p1, iv 1] [(.ref tg)]) := fun t k => K t (st1 t k)
  replace K : OGo p e below A0 T1 (mkF m 5 #[rv a1, iv p1, iv 1] [(.ref a1), (.ref tg)]) := fun t k => K t (XS.aloadN X1.here hx rfl (hb hby d6_4) rfl rfl k)
  obtain ⟨T2, X2, e2, st2⟩ := getF X1 hx hZ hown (host := "") (Or.inl (ow hw 50 rfl)) Via.refl e1 F_admitted_a1 (g := (mkF m 5 #[rv a1, iv p1, iv 1] [(.ref a1), (.ref tg)])) rfl rfl (hb hby d6_5)
  replace K : OGo p e below A0 T2 (mkF m 8 #[rv a1, iv p1, iv 1] [(.int 0), (.ref tg)]) := fun t k => K t (st2 t k)
  replace K : OGo p e below A0 T2 (mkF m 9 #[rv a1, iv p1, iv 1] [(.int p1), (.int 0), (.ref tg)]) := fun t k => K t (XS.iloadN X2.here hx rfl (hb hby d6_8) rfl k)
  obtain ⟨T3, h3, X3, e3, W3, V3, st3⟩ := own_stI X2 hx hZ e2 V_tg (j := (0 : Int32)) (by decide) (Nat.le_of_ble_eq_true rfl) (g := (mkF m 9 #[rv a1, iv p1, iv 1] [(.int p1), (.int 0), (.ref tg)])) rfl rfl (hb hby d6_9)
  have Z3 : n0 ≤ h3.size := Nat.le_trans Z0 (Keep.of_wr W3).1
  have Kp3 : Keep h0 h3 [a1, tg, sd, ky, tr] := (Keep.refl h0 [a1, tg, sd, ky, tr]).wr W3 (Or.inl (List.mem_of_getElem? (i := 1) rfl))
  have V_tg_3 : OAr Z h3 tg k_tg .int (oV (.int p1) tg1 tg2 (.int (0 : Int32))) := V3
  have N3 := Fr.snoc X3 N0 g_tg
  replace K : OGo p e below A0 T3 (mkF m 10 #[rv a1, iv p1, iv 1] []) := fun t k => K t (st3 t k)
  replace K : OGo p e below A0 T3 (mkF m 11 #[rv a1, iv p1, iv 1] [(.ref a1)]) := fun t k => K t (XS.aloadN X3.here hx rfl (hb hby d6_10) rfl rfl k)
  have F_stored_a1_4 := (F_stored_a1.other W3 (Or.inl (own_pw nd0 0 9 (by decide) rfl rfl)))
  obtain ⟨T5, X5, e5, st5⟩ := getF X3 hx hZ hown (host := "") (Or.inl (ow hw 37 rfl)) Via.refl e3 F_stored_a1_4 (g := (mkF m 11 #[rv a1, iv p1, iv 1] [(.ref a1)])) rfl rfl (hb hby d6_11)
  replace K : OGo p e below A0 T5 (mkF m 14 #[rv a1, iv p1, iv 1] [(.ref sd)]) := fun t k => K t (st5 t k)
  replace K : OGo p e below A0 T5 (mkF m 15 #[rv a1, iv p1, iv 1] [(.ref a1), (.ref sd)]) := fun t k => K t (XS.aloadN X5.here hx rfl (hb hby d6_14) rfl rfl k)
  have F_admitted_a1_6 := (F_admitted_a1.other W3 (Or.inl (own_pw nd0 0 9 (by decide) rfl rfl)))
  obtain ⟨T7, X7, e7, st7⟩ := getF X5 hx hZ hown (host := "") (Or.inl (ow hw 50 rfl)) Via.refl e5 F_admitted_a1_6 (g := (mkF m 15 #[rv a1, iv p1, iv 1] [(.ref a1), (.ref sd)])) rfl rfl (hb hby d6_15)
  replace K : OGo p e below A0 T7 (mkF m 18 #[rv a1, iv p1, iv 1] [(.int 0), (.ref sd)]) := fun t k => K t (st7 t k)
  replace K : OGo p e below A0 T7 (mkF m 19 #[rv a1, iv p1, iv 1] [(.int 1), (.int 0), (.ref sd)]) := fun t k => K t (XS.iloadN X7.here hx rfl (hb hby d6_18) rfl k)
  have V_sd_8 := (V_sd.other W3 (Ne.symm (own_pw nd0 9 10 (by decide) rfl rfl)))
  obtain ⟨T9, h9, X9, e9, W9, V9, st9⟩ := own_stZ X7 hx hZ e7 V_sd_8 (j := (0 : Int32)) (by decide) (Nat.le_of_ble_eq_true rfl) (g := (mkF m 19 #[rv a1, iv p1, iv 1] [(.int 1), (.int 0), (.ref sd)])) rfl rfl (hb hby d6_19)
  have Z9 : n0 ≤ h9.size := Nat.le_trans Z3 (Keep.of_wr W9).1
  have Kp9 : Keep h0 h9 [a1, tg, sd, ky, tr] := Kp3.wr W9 (Or.inl (List.mem_of_getElem? (i := 2) rfl))
  have V_sd_9 : OAr Z h9 sd k_sd .boolean (oV (.int (1 : Int32)) sd1 sd2 (.int (0 : Int32))) := V9
  have N9 := Fr.snoc X9 N3 g_sd
  replace K : OGo p e below A0 T9 (mkF m 20 #[rv a1, iv p1, iv 1] []) := fun t k => K t (st9 t k)
  replace K : OGo p e below A0 T9 (mkF m 21 #[rv a1, iv p1, iv 1] [(.ref a1)]) := fun t k => K t (XS.aloadN X9.here hx rfl (hb hby d6_20) rfl rfl k)
  replace K : OGo p e below A0 T9 (mkF m 22 #[rv a1, iv p1, iv 1] [(.ref a1), (.ref a1)]) := fun t k => K t (XS.dup X9.here hx rfl (hb hby d6_21) rfl rfl k)
  have F_waitingBytes_a1_10 := ((F_waitingBytes_a1.other W3 (Or.inl (own_pw nd0 0 9 (by decide) rfl rfl))).other W9 (Or.inl (own_pw nd0 0 10 (by decide) rfl rfl)))
  obtain ⟨T11, X11, e11, st11⟩ := getF X9 hx hZ hown (host := "") (Or.inl (ow hw 59 rfl)) Via.refl e9 F_waitingBytes_a1_10 (g := (mkF m 22 #[rv a1, iv p1, iv 1] [(.ref a1), (.ref a1)])) rfl rfl (hb hby d6_22)
  replace K : OGo p e below A0 T11 (mkF m 25 #[rv a1, iv p1, iv 1] [(.long wb), (.ref a1)]) := fun t k => K t (st11 t k)
  replace K : OGo p e below A0 T11 (mkF m 26 #[rv a1, iv p1, iv 1] [(.ref a1), (.long wb), (.ref a1)]) := fun t k => K t (XS.aloadN X11.here hx rfl (hb hby d6_25) rfl rfl k)
  have F_keys_a1_12 := ((F_keys_a1.other W3 (Or.inl (own_pw nd0 0 9 (by decide) rfl rfl))).other W9 (Or.inl (own_pw nd0 0 10 (by decide) rfl rfl)))
  obtain ⟨T13, X13, e13, st13⟩ := getF X11 hx hZ hown (host := "") (Or.inl (ow hw 22 rfl)) Via.refl e11 F_keys_a1_12 (g := (mkF m 26 #[rv a1, iv p1, iv 1] [(.ref a1), (.long wb), (.ref a1)])) rfl rfl (hb hby d6_26)
  replace K : OGo p e below A0 T13 (mkF m 29 #[rv a1, iv p1, iv 1] [(.ref ky), (.long wb), (.ref a1)]) := fun t k => K t (st13 t k)
  replace K : OGo p e below A0 T13 (mkF m 30 #[rv a1, iv p1, iv 1] [(.ref a1), (.ref ky), (.long wb), (.ref a1)]) := fun t k => K t (XS.aloadN X13.here hx rfl (hb hby d6_29) rfl rfl k)
  have F_admitted_a1_14 := (F_admitted_a1_6.other W9 (Or.inl (own_pw nd0 0 10 (by decide) rfl rfl)))
  obtain ⟨T15, X15, e15, st15⟩ := getF X13 hx hZ hown (host := "") (Or.inl (ow hw 50 rfl)) Via.refl e13 F_admitted_a1_14 (g := (mkF m 30 #[rv a1, iv p1, iv 1] [(.ref a1), (.ref ky), (.long wb), (.ref a1)])) rfl rfl (hb hby d6_30)
  replace K : OGo p e below A0 T15 (mkF m 33 #[rv a1, iv p1, iv 1] [(.int 0), (.ref ky), (.long wb), (.ref a1)]) := fun t k => K t (st15 t k)
  have V_ky_16 := ((V_ky.other W3 (own_pw nd0 5 9 (by decide) rfl rfl)).other W9 (own_pw nd0 5 10 (by decide) rfl rfl))
  replace K : OGo p e below A0 T15 (mkF m 34 #[rv a1, iv p1, iv 1] [(.ref kx), (.long wb), (.ref a1)]) := fun t k => K t (own_ldA X15 hx hZ e15 V_ky_16 rfl (j := (0 : Int32)) (v := (.ref kx)) (by decide) rfl (g := (mkF m 33 #[rv a1, iv p1, iv 1] [(.int 0), (.ref ky), (.long wb), (.ref a1)])) rfl rfl (hb hby d6_33) t k)
  have V_kx_17 := ((V_kx.other W3 (Ne.symm (own_pw nd0 9 11 (by decide) rfl rfl))).other W9 (Ne.symm (own_pw nd0 10 11 (by decide) rfl rfl)))
  replace K : OGo p e below A0 T15 (mkF m 35 #[rv a1, iv p1, iv 1] [(.int pk), (.long wb), (.ref a1)]) := fun t k => K t (own_len X15 hx hZ e15 V_kx_17 (n := pk) hk (g := (mkF m 34 #[rv a1, iv p1, iv 1] [(.ref kx), (.long wb), (.ref a1)])) rfl rfl (hb hby d6_34) t k)
  replace K : OGo p e below A0 T15 (mkF m 36 #[rv a1, iv p1, iv 1] [(.int 1), (.int pk), (.long wb), (.ref a1)]) := fun t k => K t (XS.iconst X15.here hx rfl (hb hby d6_35) k)
  replace K : OGo p e below A0 T15 (mkF m 37 #[rv a1, iv p1, iv 1] [(.int (pk + (1 : Int32))), (.long wb), (.ref a1)]) := fun t k => K t (XS.iadd X15.here hx rfl (hb hby d6_36) rfl k)
  replace K : OGo p e below A0 T15 (mkF m 38 #[rv a1, iv p1, iv 1] [(.long ((pk + (1 : Int32)).toInt64)), (.long wb), (.ref a1)]) := fun t k => K t (XS.i2l X15.here hx rfl (hb hby d6_37) rfl k)
  replace K : OGo p e below A0 T15 (mkF m 39 #[rv a1, iv p1, iv 1] [(.long (wb - ((pk + (1 : Int32)).toInt64))), (.ref a1)]) := fun t k => K t (XS.lsub X15.here hx rfl (hb hby d6_38) rfl k)
  have E_a1_18 := ((E_a1.wr W3).wr W9)
  obtain ⟨T19, h19, X19, e19, W19, st19⟩ := putF X15 hx hZ hown (host := "") (Or.inl (ow hw 59 rfl)) Via.refl e15 F_waitingBytes_a1_10 E_a1_18 (Or.inl (ow hw 60 rfl)) (ow hw 2 rfl) (ty := .long) (by decide) rfl rfl (g := (mkF m 39 #[rv a1, iv p1, iv 1] [(.long (wb - ((pk + (1 : Int32)).toInt64))), (.ref a1)])) rfl rfl (hb hby d6_39)
  have Z19 : n0 ≤ h19.size := Nat.le_trans Z9 (Keep.of_wr W19).1
  have Kp19 : Keep h0 h19 [a1, tg, sd, ky, tr] := Kp9.wr W19 (Or.inl (List.mem_of_getElem? (i := 0) rfl))
  have F_waitingBytes_a1_19 := F_waitingBytes_a1_10.same W19
  have N19 := Fr.snoc X19 N9 g_a1
  replace K : OGo p e below A0 T19 (mkF m 42 #[rv a1, iv p1, iv 1] []) := fun t k => K t (st19 t k)
  replace K : OGo p e below A0 T19 (mkF m 43 #[rv a1, iv p1, iv 1] [(.ref a1)]) := fun t k => K t (XS.aloadN X19.here hx rfl (hb hby d6_42) rfl rfl k)
  have F_keys_a1_20 := (F_keys_a1_12.other W19 (Or.inr (sn_cN0_keys_waitingBytes hw)))
  obtain ⟨T21, X21, e21, st21⟩ := getF X19 hx hZ hown (host := "") (Or.inl (ow hw 22 rfl)) Via.refl e19 F_keys_a1_20 (g := (mkF m 43 #[rv a1, iv p1, iv 1] [(.ref a1)])) rfl rfl (hb hby d6_43)
  replace K : OGo p e below A0 T21 (mkF m 46 #[rv a1, iv p1, iv 1] [(.ref ky)]) := fun t k => K t (st21 t k)
  replace K : OGo p e below A0 T21 (mkF m 47 #[rv a1, iv p1, iv 1] [(.ref a1), (.ref ky)]) := fun t k => K t (XS.aloadN X21.here hx rfl (hb hby d6_46) rfl rfl k)
  have F_admitted_a1_22 := (F_admitted_a1_14.other W19 (Or.inr (sn_cN0_admitted_waitingBytes hw)))
  obtain ⟨T23, X23, e23, st23⟩ := getF X21 hx hZ hown (host := "") (Or.inl (ow hw 50 rfl)) Via.refl e21 F_admitted_a1_22 (g := (mkF m 47 #[rv a1, iv p1, iv 1] [(.ref a1), (.ref ky)])) rfl rfl (hb hby d6_47)
  replace K : OGo p e below A0 T23 (mkF m 50 #[rv a1, iv p1, iv 1] [(.int 0), (.ref ky)]) := fun t k => K t (st23 t k)
  replace K : OGo p e below A0 T23 (mkF m 51 #[rv a1, iv p1, iv 1] [.null, (.int 0), (.ref ky)]) := fun t k => K t (XS.aconstNull X23.here hx rfl (hb hby d6_50) k)
  have V_ky_24 := (V_ky_16.other W19 (Ne.symm (own_pw nd0 0 5 (by decide) rfl rfl)))
  obtain ⟨T25, h25, X25, e25, W25, V25, st25⟩ := own_stR X23 hx hZ e23 V_ky_24 rfl (j := (0 : Int32)) (by decide) (Nat.le_of_ble_eq_true rfl) (Or.inl rfl) (g := (mkF m 51 #[rv a1, iv p1, iv 1] [.null, (.int 0), (.ref ky)])) rfl rfl (hb hby d6_51)
  have Z25 : n0 ≤ h25.size := Nat.le_trans Z19 (Keep.of_wr W25).1
  have Kp25 : Keep h0 h25 [a1, tg, sd, ky, tr] := Kp19.wr W25 (Or.inl (List.mem_of_getElem? (i := 3) rfl))
  have V_ky_25 : OAr Z h25 ky k_ky (.array .byte) (oV .null ky1 ky2 .null) := V25
  have N25 := Fr.snoc X25 N19 g_ky
  replace K : OGo p e below A0 T25 (mkF m 52 #[rv a1, iv p1, iv 1] []) := fun t k => K t (st25 t k)
  replace K : OGo p e below A0 T25 (mkF m 53 #[rv a1, iv p1, iv 1] [(.ref a1)]) := fun t k => K t (XS.aloadN X25.here hx rfl (hb hby d6_52) rfl rfl k)
  have F_transitions_a1_26 := ((((F_transitions_a1.other W3 (Or.inl (own_pw nd0 0 9 (by decide) rfl rfl))).other W9 (Or.inl (own_pw nd0 0 10 (by decide) rfl rfl))).other W19 (Or.inr (sn_cN0_transitions_waitingBytes hw))).other W25 (Or.inl (own_pw nd0 0 5 (by decide) rfl rfl)))
  obtain ⟨T27, X27, e27, st27⟩ := getF X25 hx hZ hown (host := "") (Or.inl (ow hw 30 rfl)) Via.refl e25 F_transitions_a1_26 (g := (mkF m 53 #[rv a1, iv p1, iv 1] [(.ref a1)])) rfl rfl (hb hby d6_53)
  replace K : OGo p e below A0 T27 (mkF m 56 #[rv a1, iv p1, iv 1] [(.ref tr)]) := fun t k => K t (st27 t k)
  replace K : OGo p e below A0 T27 (mkF m 57 #[rv a1, iv p1, iv 1] [(.ref a1), (.ref tr)]) := fun t k => K t (XS.aloadN X27.here hx rfl (hb hby d6_56) rfl rfl k)
  have F_admitted_a1_28 := (F_admitted_a1_22.other W25 (Or.inl (own_pw nd0 0 5 (by decide) rfl rfl)))
  obtain ⟨T29, X29, e29, st29⟩ := getF X27 hx hZ hown (host := "") (Or.inl (ow hw 50 rfl)) Via.refl e27 F_admitted_a1_28 (g := (mkF m 57 #[rv a1, iv p1, iv 1] [(.ref a1), (.ref tr)])) rfl rfl (hb hby d6_57)
  replace K : OGo p e below A0 T29 (mkF m 60 #[rv a1, iv p1, iv 1] [(.int 0), (.ref tr)]) := fun t k => K t (st29 t k)
  replace K : OGo p e below A0 T29 (mkF m 61 #[rv a1, iv p1, iv 1] [.null, (.int 0), (.ref tr)]) := fun t k => K t (XS.aconstNull X29.here hx rfl (hb hby d6_60) k)
  have V_tr_30 := ((((V_tr.other W3 (own_pw nd0 7 9 (by decide) rfl rfl)).other W9 (own_pw nd0 7 10 (by decide) rfl rfl)).other W19 (Ne.symm (own_pw nd0 0 7 (by decide) rfl rfl))).other W25 (Ne.symm (own_pw nd0 5 7 (by decide) rfl rfl)))
  obtain ⟨T31, h31, X31, e31, W31, V31, st31⟩ := own_stR X29 hx hZ e29 V_tr_30 rfl (j := (0 : Int32)) (by decide) (Nat.le_of_ble_eq_true rfl) (Or.inl rfl) (g := (mkF m 61 #[rv a1, iv p1, iv 1] [.null, (.int 0), (.ref tr)])) rfl rfl (hb hby d6_61)
  have Z31 : n0 ≤ h31.size := Nat.le_trans Z25 (Keep.of_wr W31).1
  have Kp31 : Keep h0 h31 [a1, tg, sd, ky, tr] := Kp25.wr W31 (Or.inl (List.mem_of_getElem? (i := 4) rfl))
  have V_tr_31 : OAr Z h31 tr k_tr (.object "com/example/flote/flote/search/Search$Branches") (oV .null tr1 tr2 .null) := V31
  have N31 := Fr.snoc X31 N25 g_tr
  replace K : OGo p e below A0 T31 (mkF m 62 #[rv a1, iv p1, iv 1] []) := fun t k => K t (st31 t k)
  replace K : OGo p e below A0 T31 (mkF m 63 #[rv a1, iv p1, iv 1] [(.ref a1)]) := fun t k => K t (XS.aloadN X31.here hx rfl (hb hby d6_62) rfl rfl k)
  replace K : OGo p e below A0 T31 (mkF m 64 #[rv a1, iv p1, iv 1] [(.ref a1), (.ref a1)]) := fun t k => K t (XS.dup X31.here hx rfl (hb hby d6_63) rfl rfl k)
  have F_admitted_a1_32 := (F_admitted_a1_28.other W31 (Or.inl (own_pw nd0 0 7 (by decide) rfl rfl)))
  obtain ⟨T33, X33, e33, st33⟩ := getF X31 hx hZ hown (host := "") (Or.inl (ow hw 50 rfl)) Via.refl e31 F_admitted_a1_32 (g := (mkF m 64 #[rv a1, iv p1, iv 1] [(.ref a1), (.ref a1)])) rfl rfl (hb hby d6_64)
  replace K : OGo p e below A0 T33 (mkF m 67 #[rv a1, iv p1, iv 1] [(.int 0), (.ref a1)]) := fun t k => K t (st33 t k)
  replace K : OGo p e below A0 T33 (mkF m 68 #[rv a1, iv p1, iv 1] [(.int 1), (.int 0), (.ref a1)]) := fun t k => K t (XS.iconst X33.here hx rfl (hb hby d6_67) k)
  replace K : OGo p e below A0 T33 (mkF m 69 #[rv a1, iv p1, iv 1] [(.int 1), (.ref a1)]) := fun t k => K t (XS.iadd X33.here hx rfl (hb hby d6_68) rfl k)
  have E_a1_34 := (((E_a1_18.wr W19).wr W25).wr W31)
  obtain ⟨T35, h35, X35, e35, W35, st35⟩ := putF X33 hx hZ hown (host := "") (Or.inl (ow hw 50 rfl)) Via.refl e33 F_admitted_a1_32 E_a1_34 (Or.inl (ow hw 51 rfl)) (ow hw 2 rfl) (ty := .int) (by decide) rfl rfl (g := (mkF m 69 #[rv a1, iv p1, iv 1] [(.int 1), (.ref a1)])) rfl rfl (hb hby d6_69)
  have Z35 : n0 ≤ h35.size := Nat.le_trans Z31 (Keep.of_wr W35).1
  have Kp35 : Keep h0 h35 [a1, tg, sd, ky, tr] := Kp31.wr W35 (Or.inl (List.mem_of_getElem? (i := 0) rfl))
  have F_admitted_a1_35 := F_admitted_a1_32.same W35
  have N35 := Fr.snoc X35 N31 g_a1
  replace K : OGo p e below A0 T35 (mkF m 72 #[rv a1, iv p1, iv 1] []) := fun t k => K t (st35 t k)
  have E_a1_36 := (E_a1_34.wr W35)
  have F_actors_a1_37 := ((((((F_actors_a1.other W3 (Or.inl (own_pw nd0 0 9 (by decide) rfl rfl))).other W9 (Or.inl (own_pw nd0 0 10 (by decide) rfl rfl))).other W19 (Or.inr (sn_cN0_actors_waitingBytes hw))).other W25 (Or.inl (own_pw nd0 0 5 (by decide) rfl rfl))).other W31 (Or.inl (own_pw nd0 0 7 (by decide) rfl rfl))).other W35 (Or.inr (sn_cN0_actors_admitted hw)))
  have F_indices_a1_38 := ((((((F_indices_a1.other W3 (Or.inl (own_pw nd0 0 9 (by decide) rfl rfl))).other W9 (Or.inl (own_pw nd0 0 10 (by decide) rfl rfl))).other W19 (Or.inr (sn_cN0_indices_waitingBytes hw))).other W25 (Or.inl (own_pw nd0 0 5 (by decide) rfl rfl))).other W31 (Or.inl (own_pw nd0 0 7 (by decide) rfl rfl))).other W35 (Or.inr (sn_cN0_indices_admitted hw)))
  have F_branchNumbers_a1_39 := ((((((F_branchNumbers_a1.other W3 (Or.inl (own_pw nd0 0 9 (by decide) rfl rfl))).other W9 (Or.inl (own_pw nd0 0 10 (by decide) rfl rfl))).other W19 (Or.inr (sn_cN0_branchNumbers_waitingBytes hw))).other W25 (Or.inl (own_pw nd0 0 5 (by decide) rfl rfl))).other W31 (Or.inl (own_pw nd0 0 7 (by decide) rfl rfl))).other W35 (Or.inr (sn_cN0_branchNumbers_admitted hw)))
  have F_chose_a1_40 := ((((((F_chose_a1.other W3 (Or.inl (own_pw nd0 0 9 (by decide) rfl rfl))).other W9 (Or.inl (own_pw nd0 0 10 (by decide) rfl rfl))).other W19 (Or.inr (sn_cN0_chose_waitingBytes hw))).other W25 (Or.inl (own_pw nd0 0 5 (by decide) rfl rfl))).other W31 (Or.inl (own_pw nd0 0 7 (by decide) rfl rfl))).other W35 (Or.inr (sn_cN0_chose_admitted hw)))
  have F_keys_a1_41 := (((F_keys_a1_20.other W25 (Or.inl (own_pw nd0 0 5 (by decide) rfl rfl))).other W31 (Or.inl (own_pw nd0 0 7 (by decide) rfl rfl))).other W35 (Or.inr (sn_cN0_keys_admitted hw)))
  have F_moves_a1_42 := ((((((F_moves_a1.other W3 (Or.inl (own_pw nd0 0 9 (by decide) rfl rfl))).other W9 (Or.inl (own_pw nd0 0 10 (by decide) rfl rfl))).other W19 (Or.inr (sn_cN0_moves_waitingBytes hw))).other W25 (Or.inl (own_pw nd0 0 5 (by decide) rfl rfl))).other W31 (Or.inl (own_pw nd0 0 7 (by decide) rfl rfl))).other W35 (Or.inr (sn_cN0_moves_admitted hw)))
  have F_transitions_a1_43 := ((F_transitions_a1_26.other W31 (Or.inl (own_pw nd0 0 7 (by decide) rfl rfl))).other W35 (Or.inr (sn_cN0_transitions_admitted hw)))
  have F_frames_a1_44 := ((((((F_frames_a1.other W3 (Or.inl (own_pw nd0 0 9 (by decide) rfl rfl))).other W9 (Or.inl (own_pw nd0 0 10 (by decide) rfl rfl))).other W19 (Or.inr (sn_cN0_frames_waitingBytes hw))).other W25 (Or.inl (own_pw nd0 0 5 (by decide) rfl rfl))).other W31 (Or.inl (own_pw nd0 0 7 (by decide) rfl rfl))).other W35 (Or.inr (sn_cN0_frames_admitted hw)))
  have F_targets_a1_45 := ((((((F_targets_a1.other W3 (Or.inl (own_pw nd0 0 9 (by decide) rfl rfl))).other W9 (Or.inl (own_pw nd0 0 10 (by decide) rfl rfl))).other W19 (Or.inr (sn_cN0_targets_waitingBytes hw))).other W25 (Or.inl (own_pw nd0 0 5 (by decide) rfl rfl))).other W31 (Or.inl (own_pw nd0 0 7 (by decide) rfl rfl))).other W35 (Or.inr (sn_cN0_targets_admitted hw)))
  have F_stored_a1_46 := (((((F_stored_a1_4.other W9 (Or.inl (own_pw nd0 0 10 (by decide) rfl rfl))).other W19 (Or.inr (sn_cN0_stored_waitingBytes hw))).other W25 (Or.inl (own_pw nd0 0 5 (by decide) rfl rfl))).other W31 (Or.inl (own_pw nd0 0 7 (by decide) rfl rfl))).other W35 (Or.inr (sn_cN0_stored_admitted hw)))
  have F_count_a1_47 := ((((((F_count_a1.other W3 (Or.inl (own_pw nd0 0 9 (by decide) rfl rfl))).other W9 (Or.inl (own_pw nd0 0 10 (by decide) rfl rfl))).other W19 (Or.inr (sn_cN0_count_waitingBytes hw))).other W25 (Or.inl (own_pw nd0 0 5 (by decide) rfl rfl))).other W31 (Or.inl (own_pw nd0 0 7 (by decide) rfl rfl))).other W35 (Or.inr (sn_cN0_count_admitted hw)))
  have F_waitingBytes_a1_48 := (((F_waitingBytes_a1_19.other W25 (Or.inl (own_pw nd0 0 5 (by decide) rfl rfl))).other W31 (Or.inl (own_pw nd0 0 7 (by decide) rfl rfl))).other W35 (Or.inr (sn_cN0_waitingBytes_admitted hw)))
  have V_tg_49 := (((((V_tg_3.other W9 (own_pw nd0 9 10 (by decide) rfl rfl)).other W19 (Ne.symm (own_pw nd0 0 9 (by decide) rfl rfl))).other W25 (Ne.symm (own_pw nd0 5 9 (by decide) rfl rfl))).other W31 (Ne.symm (own_pw nd0 7 9 (by decide) rfl rfl))).other W35 (Ne.symm (own_pw nd0 0 9 (by decide) rfl rfl)))
  have V_sd_50 := ((((V_sd_9.other W19 (Ne.symm (own_pw nd0 0 10 (by decide) rfl rfl))).other W25 (Ne.symm (own_pw nd0 5 10 (by decide) rfl rfl))).other W31 (Ne.symm (own_pw nd0 7 10 (by decide) rfl rfl))).other W35 (Ne.symm (own_pw nd0 0 10 (by decide) rfl rfl)))
  have V_ky_51 := ((V_ky_25.other W31 (own_pw nd0 5 7 (by decide) rfl rfl)).other W35 (Ne.symm (own_pw nd0 0 5 (by decide) rfl rfl)))
  have V_tr_52 := (V_tr_31.other W35 (Ne.symm (own_pw nd0 0 7 (by decide) rfl rfl)))
  obtain ⟨fs, hr, hrun, hended, hW, hsame⟩ := X35.leave (v := none) (fun _ => rfl)
  subst hA0
  refine ⟨_, _, K _ (X35.returnOut hx Bd.returns (hb hby d6_72) hr), hrun, hended, _, _, rfl, ?_, ⟨_, rfl⟩, hW, hsame.mono (by decide) (by decide)⟩
  show Q_admit01 Z a1 p1 ac ix bn ch ky mv tr fr tg sd k_tg k_sd k_ky k_tr tg0 tg1 tg2 sd0 sd1 sd2 ky1 ky2 tr0 tr1 tr2 kx kv kk pk cnt wb h0 n0 _ T35.heap _
  rw [e35]
  exact ⟨rfl, N35, Kp35, E_a1_36, F_actors_a1_37, F_indices_a1_38, F_branchNumbers_a1_39, F_chose_a1_40, F_keys_a1_41, F_moves_a1_42, F_transitions_a1_43, F_frames_a1_44, F_targets_a1_45, F_stored_a1_46, F_count_a1_47, F_admitted_a1_35, F_waitingBytes_a1_48, V_tg_49, V_sd_50, V_ky_51, V_tr_52⟩
def Q_admit10 (Z : State) (a1 : Addr) (p1 : Int32) (ac : Addr) (ix : Addr) (bn : Addr) (ch : Addr) (ky : Addr) (mv : Addr) (tr : Addr) (fr : Addr) (tg : Addr) (sd : Addr) (k_tg : ClassId) (k_sd : ClassId) (k_ky : ClassId) (k_tr : ClassId) (tg0 : Value) (tg1 : Value) (tg2 : Value) (sd0 : Value) (sd1 : Value) (sd2 : Value) (ky0 : Value) (ky2 : Value) (tr0 : Value) (tr1 : Value) (tr2 : Value) (kx : Addr) (kv : List Value) (kk : ClassId) (pk : Int32) (cnt : Int32) (wb : Int64) (h0 : Heap) (n0 : Nat) (v : Option Value) (h : Heap) (L : List Loc) : Prop := v = none ∧ Fr n0 L ∧ Keep h0 h [a1, tg, sd, ky, tr] ∧ Exa Z h a1 cN0 ∧ Fld Z h a1 cN0 "actors" "[I" (.ref ac) ∧ Fld Z h a1 cN0 "indices" "[I" (.ref ix) ∧ Fld Z h a1 cN0 "branchNumbers" "[I" (.ref bn) ∧ Fld Z h a1 cN0 "chose" "[Z" (.ref ch) ∧ Fld Z h a1 cN0 "keys" "[[B" (.ref ky) ∧ Fld Z h a1 cN0 "moves" cN1 (.ref mv) ∧ Fld Z h a1 cN0 "transitions" cN2 (.ref tr) ∧ Fld Z h a1 cN0 "frames" "[J" (.ref fr) ∧ Fld Z h a1 cN0 "targets" "[I" (.ref tg) ∧ Fld Z h a1 cN0 "stored" "[Z" (.ref sd) ∧ Fld Z h a1 cN0 "count" "I" (.int cnt) ∧ Fld Z h a1 cN0 "admitted" "I" (.int (2 : Int32)) ∧ Fld Z h a1 cN0 "waitingBytes" "J" (.long (wb - ((pk + (1 : Int32)).toInt64))) ∧ OAr Z h tg k_tg .int (oV tg0 (.int p1) tg2 (.int (0 : Int32))) ∧ OAr Z h sd k_sd .boolean (oV sd0 (.int (0 : Int32)) sd2 (.int (0 : Int32))) ∧ OAr Z h ky k_ky (.array .byte) (oV ky0 .null ky2 .null) ∧ OAr Z h tr k_tr (.object "com/example/flote/flote/search/Search$Branches") (oV tr0 .null tr2 .null)
set_option maxRecDepth 65536 in
set_option maxHeartbeats 40000000 in
theorem rm_admit10 (l : Launch) (Z : State) (a0 : Array Value) (hw : ∀ d ∈ tables_1, d.before a0 Z = true) (ws : List Jvm.Cond) (a1 : Addr) (p1 : Int32) (ac : Addr) (ix : Addr) (bn : Addr) (ch : Addr) (ky : Addr) (mv : Addr) (tr : Addr) (fr : Addr) (tg : Addr) (sd : Addr) (k_tg : ClassId) (k_sd : ClassId) (k_ky : ClassId) (k_tr : ClassId) (tg0 : Value) (tg1 : Value) (tg2 : Value) (sd0 : Value) (sd1 : Value) (sd2 : Value) (ky0 : Value) (ky2 : Value) (tr0 : Value) (tr1 : Value) (tr2 : Value) (kx : Addr) (kv : List Value) (kk : ClassId) (pk : Int32) (cnt : Int32) (wb : Int64) (h0 : Heap) (n0 : Nat) (Z0 : n0 ≤ h0.size) (E_a1 : Exa Z h0 a1 cN0) (F_actors_a1 : Fld Z h0 a1 cN0 "actors" "[I" (.ref ac)) (F_indices_a1 : Fld Z h0 a1 cN0 "indices" "[I" (.ref ix)) (F_branchNumbers_a1 : Fld Z h0 a1 cN0 "branchNumbers" "[I" (.ref bn)) (F_chose_a1 : Fld Z h0 a1 cN0 "chose" "[Z" (.ref ch)) (F_keys_a1 : Fld Z h0 a1 cN0 "keys" "[[B" (.ref ky)) (F_moves_a1 : Fld Z h0 a1 cN0 "moves" cN1 (.ref mv)) (F_transitions_a1 : Fld Z h0 a1 cN0 "transitions" cN2 (.ref tr)) (F_frames_a1 : Fld Z h0 a1 cN0 "frames" "[J" (.ref fr)) (F_targets_a1 : Fld Z h0 a1 cN0 "targets" "[I" (.ref tg)) (F_stored_a1 : Fld Z h0 a1 cN0 "stored" "[Z" (.ref sd)) (F_count_a1 : Fld Z h0 a1 cN0 "count" "I" (.int cnt)) (F_admitted_a1 : Fld Z h0 a1 cN0 "admitted" "I" (.int (1 : Int32))) (F_waitingBytes_a1 : Fld Z h0 a1 cN0 "waitingBytes" "J" (.long wb)) (V_tg : OAr Z h0 tg k_tg .int (oV tg0 tg1 tg2 (.int (0 : Int32)))) (V_sd : OAr Z h0 sd k_sd .boolean (oV sd0 sd1 sd2 (.int (0 : Int32)))) (V_tr : OAr Z h0 tr k_tr (.object "com/example/flote/flote/search/Search$Branches") (oV tr0 tr1 tr2 .null)) (V_ky : OAr Z h0 ky k_ky (.array .byte) (oV ky0 (.ref kx) ky2 .null)) (V_kx : OAr Z h0 kx kk .byte kv) (hk : kv.length.toInt32 = pk) (g_a1 : n0 ≤ a1) (g_tg : n0 ≤ tg) (g_sd : n0 ≤ sd) (g_ky : n0 ≤ ky) (g_tr : n0 ≤ tr) (nd0 : OND [a1, ac, ix, bn, ch, ky, mv, tr, fr, tg, sd, kx]) :
    MetFree l mN4 (head1 (Jvm.Cond.code mN4 prog_108_method_18_code 3 none :: ws) ({ frames := 0, cells := 0, slots := 0, locals := 0 } : Room)) (fun a U => a = #[(.ref a1), (.int p1), (.int (0 : Int32))] ∧ Z.Warmed39 U.vm ∧ U.heap = h0) (fun _ _ _ _ _ => True) (fun _ U o U' => ∃ v L, o = .returned v ∧ Q_admit10 Z a1 p1 ac ix bn ch ky mv tr fr tg sd k_tg k_sd k_ky k_tr tg0 tg1 tg2 sd0 sd1 sd2 ky0 ky2 tr0 tr1 tr2 kx kv kk pk cnt wb h0 n0 v U'.heap L ∧ FrameEnd U o U' L ({ frames := 0, cells := 0, slots := 0, locals := 0 } : Room).cells ({ frames := 0, cells := 0, slots := 0, locals := 0 } : Room).slots) := by
  refine MetFree.of_bodySF (plainFor_of_name pn_com_example_flote_flote_search_Reached) hisR ?_
  intro p e s m args below meth c s₁ Bd hml0 hP hK
  obtain ⟨rfl, hZ, hh⟩ := hP
  have hx := Bd.exec
  have hby := Bd.bytes
  have hml : c.maxLocals = 3 := hml0
  have hown : s.vm.findClass "com/example/flote/flote/search/Reached" = some m.cls := findClass_of_methodNamed Bd.named
  have hnm := (name_of_methodNamed Bd.named Bd.method).1
  have X0 : Stand p l e ({ frames := 0, cells := 0, slots := 0, locals := 0 } : Room) s m #[(.ref a1), (.int p1), (.int (0 : Int32))] below meth c s₁ [] 0 0 := Stand.of_body Bd
  have e0 : s₁.heap = h0 := by rw [← hh, Bd.state]; rfl
  have N0 := Fr.nil n0
  obtain ⟨A0, hA0⟩ : ∃ z, z = s₁.setTop (entryFrame m #[(.ref a1), (.int p1), (.int (0 : Int32))] 3) := ⟨_, rfl⟩
  have K : OGo p e below A0 s₁ (mkF m 0 #[rv a1, iv p1, iv 0] []) := fun t k => hA0 ▸ castTop (ef_6 m a1 p1 (0 : Int32)) k
  replace K : OGo p e below A0 s₁ (mkF m 1 #[rv a1, iv p1, iv 0] [(.ref a1)]) := fun t k => K t (XS.aloadN X0.here hx rfl (hb hby d6_0) rfl rfl k)
  obtain ⟨T1, X1, e1, st1⟩ := getF X0 hx hZ hown (host := "") (Or.inl (ow hw 35 rfl)) Via.refl e0 F_targets_a1 (g := (mkF m 1 #[rv a1, iv p1, iv 0] [(.ref a1)])) rfl rfl (hb hby d6_1)
  replace K : OGo p e below A0 T1 (mkF m 4 #[rv a1, iv p1, iv 0] [(.ref tg)]) := fun t k => K t (st1 t k)
  replace K : OGo p e below A0 T1 (mkF m 5 #[rv a1, iv p1, iv 0] [(.ref a1), (.ref tg)]) := fun t k => K t (XS.aloadN X1.here hx rfl (hb hby d6_4) rfl rfl k)
  obtain ⟨T2, X2, e2, st2⟩ := getF X1 hx hZ hown (host := "") (Or.inl (ow hw 50 rfl)) Via.refl e1 F_admitted_a1 (g := (mkF m 5 #[rv a1, iv p1, iv 0] [(.ref a1), (.ref tg)])) rfl rfl (hb hby d6_5)
  replace K : OGo p e below A0 T2 (mkF m 8 #[rv a1, iv p1, iv 0] [(.int 1), (.ref tg)]) := fun t k => K t (st2 t k)
  replace K : OGo p e below A0 T2 (mkF m 9 #[rv a1, iv p1, iv 0] [(.int p1), (.int 1), (.ref tg)]) := fun t k => K t (XS.iloadN X2.here hx rfl (hb hby d6_8) rfl k)
  obtain ⟨T3, h3, X3, e3, W3, V3, st3⟩ := own_stI X2 hx hZ e2 V_tg (j := (1 : Int32)) (by decide) (Nat.le_of_ble_eq_true rfl) (g := (mkF m 9 #[rv a1, iv p1, iv 0] [(.int p1), (.int 1), (.ref tg)])) rfl rfl (hb hby d6_9)
  have Z3 : n0 ≤ h3.size := Nat.le_trans Z0 (Keep.of_wr W3).1
  have Kp3 : Keep h0 h3 [a1, tg, sd, ky, tr] := (Keep.refl h0 [a1, tg, sd, ky, tr]).wr W3 (Or.inl (List.mem_of_getElem? (i := 1) rfl))
  have V_tg_3 : OAr Z h3 tg k_tg .int (oV tg0 (.int p1) tg2 (.int (0 : Int32))) := V3
  have N3 := Fr.snoc X3 N0 g_tg
  replace K : OGo p e below A0 T3 (mkF m 10 #[rv a1, iv p1, iv 0] []) := fun t k => K t (st3 t k)
  replace K : OGo p e below A0 T3 (mkF m 11 #[rv a1, iv p1, iv 0] [(.ref a1)]) := fun t k => K t (XS.aloadN X3.here hx rfl (hb hby d6_10) rfl rfl k)
  have F_stored_a1_4 := (F_stored_a1.other W3 (Or.inl (own_pw nd0 0 9 (by decide) rfl rfl)))
  obtain ⟨T5, X5, e5, st5⟩ := getF X3 hx hZ hown (host := "") (Or.inl (ow hw 37 rfl)) Via.refl e3 F_stored_a1_4 (g := (mkF m 11 #[rv a1, iv p1, iv 0] [(.ref a1)])) rfl rfl (hb hby d6_11)
  replace K : OGo p e below A0 T5 (mkF m 14 #[rv a1, iv p1, iv 0] [(.ref sd)]) := fun t k => K t (st5 t k)
  replace K : OGo p e below A0 T5 (mkF m 15 #[rv a1, iv p1, iv 0] [(.ref a1), (.ref sd)]) := fun t k => K t (XS.aloadN X5.here hx rfl (hb hby d6_14) rfl rfl k)
  have F_admitted_a1_6 := (F_admitted_a1.other W3 (Or.inl (own_pw nd0 0 9 (by decide) rfl rfl)))
  obtain ⟨T7, X7, e7, st7⟩ := getF X5 hx hZ hown (host := "") (Or.inl (ow hw 50 rfl)) Via.refl e5 F_admitted_a1_6 (g := (mkF m 15 #[rv a1, iv p1, iv 0] [(.ref a1), (.ref sd)])) rfl rfl (hb hby d6_15)
  replace K : OGo p e below A0 T7 (mkF m 18 #[rv a1, iv p1, iv 0] [(.int 1), (.ref sd)]) := fun t k => K t (st7 t k)
  replace K : OGo p e below A0 T7 (mkF m 19 #[rv a1, iv p1, iv 0] [(.int 0), (.int 1), (.ref sd)]) := fun t k => K t (XS.iloadN X7.here hx rfl (hb hby d6_18) rfl k)
  have V_sd_8 := (V_sd.other W3 (Ne.symm (own_pw nd0 9 10 (by decide) rfl rfl)))
  obtain ⟨T9, h9, X9, e9, W9, V9, st9⟩ := own_stZ X7 hx hZ e7 V_sd_8 (j := (1 : Int32)) (by decide) (Nat.le_of_ble_eq_true rfl) (g := (mkF m 19 #[rv a1, iv p1, iv 0] [(.int 0), (.int 1), (.ref sd)])) rfl rfl (hb hby d6_19)
  have Z9 : n0 ≤ h9.size := Nat.le_trans Z3 (Keep.of_wr W9).1
  have Kp9 : Keep h0 h9 [a1, tg, sd, ky, tr] := Kp3.wr W9 (Or.inl (List.mem_of_getElem? (i := 2) rfl))
  have V_sd_9 : OAr Z h9 sd k_sd .boolean (oV sd0 (.int (0 : Int32)) sd2 (.int (0 : Int32))) := V9
  have N9 := Fr.snoc X9 N3 g_sd
  replace K : OGo p e below A0 T9 (mkF m 20 #[rv a1, iv p1, iv 0] []) := fun t k => K t (st9 t k)
  replace K : OGo p e below A0 T9 (mkF m 21 #[rv a1, iv p1, iv 0] [(.ref a1)]) := fun t k => K t (XS.aloadN X9.here hx rfl (hb hby d6_20) rfl rfl k)
  replace K : OGo p e below A0 T9 (mkF m 22 #[rv a1, iv p1, iv 0] [(.ref a1), (.ref a1)]) := fun t k => K t (XS.dup X9.here hx rfl (hb hby d6_21) rfl rfl k)
  have F_waitingBytes_a1_10 := ((F_waitingBytes_a1.other W3 (Or.inl (own_pw nd0 0 9 (by decide) rfl rfl))).other W9 (Or.inl (own_pw nd0 0 10 (by decide) rfl rfl)))
  obtain ⟨T11, X11, e11, st11⟩ := getF X9 hx hZ hown (host := "") (Or.inl (ow hw 59 rfl)) Via.refl e9 F_waitingBytes_a1_10 (g := (mkF m 22 #[rv a1, iv p1, iv 0] [(.ref a1), (.ref a1)])) rfl rfl (hb hby d6_22)
  replace K : OGo p e below A0 T11 (mkF m 25 #[rv a1, iv p1, iv 0] [(.long wb), (.ref a1)]) := fun t k => K t (st11 t k)
  replace K : OGo p e below A0 T11 (mkF m 26 #[rv a1, iv p1, iv 0] [(.ref a1), (.long wb), (.ref a1)]) := fun t k => K t (XS.aloadN X11.here hx rfl (hb hby d6_25) rfl rfl k)
  have F_keys_a1_12 := ((F_keys_a1.other W3 (Or.inl (own_pw nd0 0 9 (by decide) rfl rfl))).other W9 (Or.inl (own_pw nd0 0 10 (by decide) rfl rfl)))
  obtain ⟨T13, X13, e13, st13⟩ := getF X11 hx hZ hown (host := "") (Or.inl (ow hw 22 rfl)) Via.refl e11 F_keys_a1_12 (g := (mkF m 26 #[rv a1, iv p1, iv 0] [(.ref a1), (.long wb), (.ref a1)])) rfl rfl (hb hby d6_26)
  replace K : OGo p e below A0 T13 (mkF m 29 #[rv a1, iv p1, iv 0] [(.ref ky), (.long wb), (.ref a1)]) := fun t k => K t (st13 t k)
  replace K : OGo p e below A0 T13 (mkF m 30 #[rv a1, iv p1, iv 0] [(.ref a1), (.ref ky), (.long wb), (.ref a1)]) := fun t k => K t (XS.aloadN X13.here hx rfl (hb hby d6_29) rfl rfl k)
  have F_admitted_a1_14 := (F_admitted_a1_6.other W9 (Or.inl (own_pw nd0 0 10 (by decide) rfl rfl)))
  obtain ⟨T15, X15, e15, st15⟩ := getF X13 hx hZ hown (host := "") (Or.inl (ow hw 50 rfl)) Via.refl e13 F_admitted_a1_14 (g := (mkF m 30 #[rv a1, iv p1, iv 0] [(.ref a1), (.ref ky), (.long wb), (.ref a1)])) rfl rfl (hb hby d6_30)
  replace K : OGo p e below A0 T15 (mkF m 33 #[rv a1, iv p1, iv 0] [(.int 1), (.ref ky), (.long wb), (.ref a1)]) := fun t k => K t (st15 t k)
  have V_ky_16 := ((V_ky.other W3 (own_pw nd0 5 9 (by decide) rfl rfl)).other W9 (own_pw nd0 5 10 (by decide) rfl rfl))
  replace K : OGo p e below A0 T15 (mkF m 34 #[rv a1, iv p1, iv 0] [(.ref kx), (.long wb), (.ref a1)]) := fun t k => K t (own_ldA X15 hx hZ e15 V_ky_16 rfl (j := (1 : Int32)) (v := (.ref kx)) (by decide) rfl (g := (mkF m 33 #[rv a1, iv p1, iv 0] [(.int 1), (.ref ky), (.long wb), (.ref a1)])) rfl rfl (hb hby d6_33) t k)
  have V_kx_17 := ((V_kx.other W3 (Ne.symm (own_pw nd0 9 11 (by decide) rfl rfl))).other W9 (Ne.symm (own_pw nd0 10 11 (by decide) rfl rfl)))
  replace K : OGo p e below A0 T15 (mkF m 35 #[rv a1, iv p1, iv 0] [(.int pk), (.long wb), (.ref a1)]) := fun t k => K t (own_len X15 hx hZ e15 V_kx_17 (n := pk) hk (g := (mkF m 34 #[rv a1, iv p1, iv 0] [(.ref kx), (.long wb), (.ref a1)])) rfl rfl (hb hby d6_34) t k)
  replace K : OGo p e below A0 T15 (mkF m 36 #[rv a1, iv p1, iv 0] [(.int 1), (.int pk), (.long wb), (.ref a1)]) := fun t k => K t (XS.iconst X15.here hx rfl (hb hby d6_35) k)
  replace K : OGo p e below A0 T15 (mkF m 37 #[rv a1, iv p1, iv 0] [(.int (pk + (1 : Int32))), (.long wb), (.ref a1)]) := fun t k => K t (XS.iadd X15.here hx rfl (hb hby d6_36) rfl k)
  replace K : OGo p e below A0 T15 (mkF m 38 #[rv a1, iv p1, iv 0] [(.long ((pk + (1 : Int32)).toInt64)), (.long wb), (.ref a1)]) := fun t k => K t (XS.i2l X15.here hx rfl (hb hby d6_37) rfl k)
  replace K : OGo p e below A0 T15 (mkF m 39 #[rv a1, iv p1, iv 0] [(.long (wb - ((pk + (1 : Int32)).toInt64))), (.ref a1)]) := fun t k => K t (XS.lsub X15.here hx rfl (hb hby d6_38) rfl k)
  have E_a1_18 := ((E_a1.wr W3).wr W9)
  obtain ⟨T19, h19, X19, e19, W19, st19⟩ := putF X15 hx hZ hown (host := "") (Or.inl (ow hw 59 rfl)) Via.refl e15 F_waitingBytes_a1_10 E_a1_18 (Or.inl (ow hw 60 rfl)) (ow hw 2 rfl) (ty := .long) (by decide) rfl rfl (g := (mkF m 39 #[rv a1, iv p1, iv 0] [(.long (wb - ((pk + (1 : Int32)).toInt64))), (.ref a1)])) rfl rfl (hb hby d6_39)
  have Z19 : n0 ≤ h19.size := Nat.le_trans Z9 (Keep.of_wr W19).1
  have Kp19 : Keep h0 h19 [a1, tg, sd, ky, tr] := Kp9.wr W19 (Or.inl (List.mem_of_getElem? (i := 0) rfl))
  have F_waitingBytes_a1_19 := F_waitingBytes_a1_10.same W19
  have N19 := Fr.snoc X19 N9 g_a1
  replace K : OGo p e below A0 T19 (mkF m 42 #[rv a1, iv p1, iv 0] []) := fun t k => K t (st19 t k)
  replace K : OGo p e below A0 T19 (mkF m 43 #[rv a1, iv p1, iv 0] [(.ref a1)]) := fun t k => K t (XS.aloadN X19.here hx rfl (hb hby d6_42) rfl rfl k)
  have F_keys_a1_20 := (F_keys_a1_12.other W19 (Or.inr (sn_cN0_keys_waitingBytes hw)))
  obtain ⟨T21, X21, e21, st21⟩ := getF X19 hx hZ hown (host := "") (Or.inl (ow hw 22 rfl)) Via.refl e19 F_keys_a1_20 (g := (mkF m 43 #[rv a1, iv p1, iv 0] [(.ref a1)])) rfl rfl (hb hby d6_43)
  replace K : OGo p e below A0 T21 (mkF m 46 #[rv a1, iv p1, iv 0] [(.ref ky)]) := fun t k => K t (st21 t k)
  replace K : OGo p e below A0 T21 (mkF m 47 #[rv a1, iv p1, iv 0] [(.ref a1), (.ref ky)]) := fun t k => K t (XS.aloadN X21.here hx rfl (hb hby d6_46) rfl rfl k)
  have F_admitted_a1_22 := (F_admitted_a1_14.other W19 (Or.inr (sn_cN0_admitted_waitingBytes hw)))
  obtain ⟨T23, X23, e23, st23⟩ := getF X21 hx hZ hown (host := "") (Or.inl (ow hw 50 rfl)) Via.refl e21 F_admitted_a1_22 (g := (mkF m 47 #[rv a1, iv p1, iv 0] [(.ref a1), (.ref ky)])) rfl rfl (hb hby d6_47)
  replace K : OGo p e below A0 T23 (mkF m 50 #[rv a1, iv p1, iv 0] [(.int 1), (.ref ky)]) := fun t k => K t (st23 t k)
  replace K : OGo p e below A0 T23 (mkF m 51 #[rv a1, iv p1, iv 0] [.null, (.int 1), (.ref ky)]) := fun t k => K t (XS.aconstNull X23.here hx rfl (hb hby d6_50) k)
  have V_ky_24 := (V_ky_16.other W19 (Ne.symm (own_pw nd0 0 5 (by decide) rfl rfl)))
  obtain ⟨T25, h25, X25, e25, W25, V25, st25⟩ := own_stR X23 hx hZ e23 V_ky_24 rfl (j := (1 : Int32)) (by decide) (Nat.le_of_ble_eq_true rfl) (Or.inl rfl) (g := (mkF m 51 #[rv a1, iv p1, iv 0] [.null, (.int 1), (.ref ky)])) rfl rfl (hb hby d6_51)
  have Z25 : n0 ≤ h25.size := Nat.le_trans Z19 (Keep.of_wr W25).1
  have Kp25 : Keep h0 h25 [a1, tg, sd, ky, tr] := Kp19.wr W25 (Or.inl (List.mem_of_getElem? (i := 3) rfl))
  have V_ky_25 : OAr Z h25 ky k_ky (.array .byte) (oV ky0 .null ky2 .null) := V25
  have N25 := Fr.snoc X25 N19 g_ky
  replace K : OGo p e below A0 T25 (mkF m 52 #[rv a1, iv p1, iv 0] []) := fun t k => K t (st25 t k)
  replace K : OGo p e below A0 T25 (mkF m 53 #[rv a1, iv p1, iv 0] [(.ref a1)]) := fun t k => K t (XS.aloadN X25.here hx rfl (hb hby d6_52) rfl rfl k)
  have F_transitions_a1_26 := ((((F_transitions_a1.other W3 (Or.inl (own_pw nd0 0 9 (by decide) rfl rfl))).other W9 (Or.inl (own_pw nd0 0 10 (by decide) rfl rfl))).other W19 (Or.inr (sn_cN0_transitions_waitingBytes hw))).other W25 (Or.inl (own_pw nd0 0 5 (by decide) rfl rfl)))
  obtain ⟨T27, X27, e27, st27⟩ := getF X25 hx hZ hown (host := "") (Or.inl (ow hw 30 rfl)) Via.refl e25 F_transitions_a1_26 (g := (mkF m 53 #[rv a1, iv p1, iv 0] [(.ref a1)])) rfl rfl (hb hby d6_53)
  replace K : OGo p e below A0 T27 (mkF m 56 #[rv a1, iv p1, iv 0] [(.ref tr)]) := fun t k => K t (st27 t k)
  replace K : OGo p e below A0 T27 (mkF m 57 #[rv a1, iv p1, iv 0] [(.ref a1), (.ref tr)]) := fun t k => K t (XS.aloadN X27.here hx rfl (hb hby d6_56) rfl rfl k)
  have F_admitted_a1_28 := (F_admitted_a1_22.other W25 (Or.inl (own_pw nd0 0 5 (by decide) rfl rfl)))
  obtain ⟨T29, X29, e29, st29⟩ := getF X27 hx hZ hown (host := "") (Or.inl (ow hw 50 rfl)) Via.refl e27 F_admitted_a1_28 (g := (mkF m 57 #[rv a1, iv p1, iv 0] [(.ref a1), (.ref tr)])) rfl rfl (hb hby d6_57)
  replace K : OGo p e below A0 T29 (mkF m 60 #[rv a1, iv p1, iv 0] [(.int 1), (.ref tr)]) := fun t k => K t (st29 t k)
  replace K : OGo p e below A0 T29 (mkF m 61 #[rv a1, iv p1, iv 0] [.null, (.int 1), (.ref tr)]) := fun t k => K t (XS.aconstNull X29.here hx rfl (hb hby d6_60) k)
  have V_tr_30 := ((((V_tr.other W3 (own_pw nd0 7 9 (by decide) rfl rfl)).other W9 (own_pw nd0 7 10 (by decide) rfl rfl)).other W19 (Ne.symm (own_pw nd0 0 7 (by decide) rfl rfl))).other W25 (Ne.symm (own_pw nd0 5 7 (by decide) rfl rfl)))
  obtain ⟨T31, h31, X31, e31, W31, V31, st31⟩ := own_stR X29 hx hZ e29 V_tr_30 rfl (j := (1 : Int32)) (by decide) (Nat.le_of_ble_eq_true rfl) (Or.inl rfl) (g := (mkF m 61 #[rv a1, iv p1, iv 0] [.null, (.int 1), (.ref tr)])) rfl rfl (hb hby d6_61)
  have Z31 : n0 ≤ h31.size := Nat.le_trans Z25 (Keep.of_wr W31).1
  have Kp31 : Keep h0 h31 [a1, tg, sd, ky, tr] := Kp25.wr W31 (Or.inl (List.mem_of_getElem? (i := 4) rfl))
  have V_tr_31 : OAr Z h31 tr k_tr (.object "com/example/flote/flote/search/Search$Branches") (oV tr0 .null tr2 .null) := V31
  have N31 := Fr.snoc X31 N25 g_tr
  replace K : OGo p e below A0 T31 (mkF m 62 #[rv a1, iv p1, iv 0] []) := fun t k => K t (st31 t k)
  replace K : OGo p e below A0 T31 (mkF m 63 #[rv a1, iv p1, iv 0] [(.ref a1)]) := fun t k => K t (XS.aloadN X31.here hx rfl (hb hby d6_62) rfl rfl k)
  replace K : OGo p e below A0 T31 (mkF m 64 #[rv a1, iv p1, iv 0] [(.ref a1), (.ref a1)]) := fun t k => K t (XS.dup X31.here hx rfl (hb hby d6_63) rfl rfl k)
  have F_admitted_a1_32 := (F_admitted_a1_28.other W31 (Or.inl (own_pw nd0 0 7 (by decide) rfl rfl)))
  obtain ⟨T33, X33, e33, st33⟩ := getF X31 hx hZ hown (host := "") (Or.inl (ow hw 50 rfl)) Via.refl e31 F_admitted_a1_32 (g := (mkF m 64 #[rv a1, iv p1, iv 0] [(.ref a1), (.ref a1)])) rfl rfl (hb hby d6_64)
  replace K : OGo p e below A0 T33 (mkF m 67 #[rv a1, iv p1, iv 0] [(.int 1), (.ref a1)]) := fun t k => K t (st33 t k)
  replace K : OGo p e below A0 T33 (mkF m 68 #[rv a1, iv p1, iv 0] [(.int 1), (.int 1), (.ref a1)]) := fun t k => K t (XS.iconst X33.here hx rfl (hb hby d6_67) k)
  replace K : OGo p e below A0 T33 (mkF m 69 #[rv a1, iv p1, iv 0] [(.int 2), (.ref a1)]) := fun t k => K t (XS.iadd X33.here hx rfl (hb hby d6_68) rfl k)
  have E_a1_34 := (((E_a1_18.wr W19).wr W25).wr W31)
  obtain ⟨T35, h35, X35, e35, W35, st35⟩ := putF X33 hx hZ hown (host := "") (Or.inl (ow hw 50 rfl)) Via.refl e33 F_admitted_a1_32 E_a1_34 (Or.inl (ow hw 51 rfl)) (ow hw 2 rfl) (ty := .int) (by decide) rfl rfl (g := (mkF m 69 #[rv a1, iv p1, iv 0] [(.int 2), (.ref a1)])) rfl rfl (hb hby d6_69)
  have Z35 : n0 ≤ h35.size := Nat.le_trans Z31 (Keep.of_wr W35).1
  have Kp35 : Keep h0 h35 [a1, tg, sd, ky, tr] := Kp31.wr W35 (Or.inl (List.mem_of_getElem? (i := 0) rfl))
  have F_admitted_a1_35 := F_admitted_a1_32.same W35
  have N35 := Fr.snoc X35 N31 g_a1
  replace K : OGo p e below A0 T35 (mkF m 72 #[rv a1, iv p1, iv 0] []) := fun t k => K t (st35 t k)
  have E_a1_36 := (E_a1_34.wr W35)
  have F_actors_a1_37 := ((((((F_actors_a1.other W3 (Or.inl (own_pw nd0 0 9 (by decide) rfl rfl))).other W9 (Or.inl (own_pw nd0 0 10 (by decide) rfl rfl))).other W19 (Or.inr (sn_cN0_actors_waitingBytes hw))).other W25 (Or.inl (own_pw nd0 0 5 (by decide) rfl rfl))).other W31 (Or.inl (own_pw nd0 0 7 (by decide) rfl rfl))).other W35 (Or.inr (sn_cN0_actors_admitted hw)))
  have F_indices_a1_38 := ((((((F_indices_a1.other W3 (Or.inl (own_pw nd0 0 9 (by decide) rfl rfl))).other W9 (Or.inl (own_pw nd0 0 10 (by decide) rfl rfl))).other W19 (Or.inr (sn_cN0_indices_waitingBytes hw))).other W25 (Or.inl (own_pw nd0 0 5 (by decide) rfl rfl))).other W31 (Or.inl (own_pw nd0 0 7 (by decide) rfl rfl))).other W35 (Or.inr (sn_cN0_indices_admitted hw)))
  have F_branchNumbers_a1_39 := ((((((F_branchNumbers_a1.other W3 (Or.inl (own_pw nd0 0 9 (by decide) rfl rfl))).other W9 (Or.inl (own_pw nd0 0 10 (by decide) rfl rfl))).other W19 (Or.inr (sn_cN0_branchNumbers_waitingBytes hw))).other W25 (Or.inl (own_pw nd0 0 5 (by decide) rfl rfl))).other W31 (Or.inl (own_pw nd0 0 7 (by decide) rfl rfl))).other W35 (Or.inr (sn_cN0_branchNumbers_admitted hw)))
  have F_chose_a1_40 := ((((((F_chose_a1.other W3 (Or.inl (own_pw nd0 0 9 (by decide) rfl rfl))).other W9 (Or.inl (own_pw nd0 0 10 (by decide) rfl rfl))).other W19 (Or.inr (sn_cN0_chose_waitingBytes hw))).other W25 (Or.inl (own_pw nd0 0 5 (by decide) rfl rfl))).other W31 (Or.inl (own_pw nd0 0 7 (by decide) rfl rfl))).other W35 (Or.inr (sn_cN0_chose_admitted hw)))
  have F_keys_a1_41 := (((F_keys_a1_20.other W25 (Or.inl (own_pw nd0 0 5 (by decide) rfl rfl))).other W31 (Or.inl (own_pw nd0 0 7 (by decide) rfl rfl))).other W35 (Or.inr (sn_cN0_keys_admitted hw)))
  have F_moves_a1_42 := ((((((F_moves_a1.other W3 (Or.inl (own_pw nd0 0 9 (by decide) rfl rfl))).other W9 (Or.inl (own_pw nd0 0 10 (by decide) rfl rfl))).other W19 (Or.inr (sn_cN0_moves_waitingBytes hw))).other W25 (Or.inl (own_pw nd0 0 5 (by decide) rfl rfl))).other W31 (Or.inl (own_pw nd0 0 7 (by decide) rfl rfl))).other W35 (Or.inr (sn_cN0_moves_admitted hw)))
  have F_transitions_a1_43 := ((F_transitions_a1_26.other W31 (Or.inl (own_pw nd0 0 7 (by decide) rfl rfl))).other W35 (Or.inr (sn_cN0_transitions_admitted hw)))
  have F_frames_a1_44 := ((((((F_frames_a1.other W3 (Or.inl (own_pw nd0 0 9 (by decide) rfl rfl))).other W9 (Or.inl (own_pw nd0 0 10 (by decide) rfl rfl))).other W19 (Or.inr (sn_cN0_frames_waitingBytes hw))).other W25 (Or.inl (own_pw nd0 0 5 (by decide) rfl rfl))).other W31 (Or.inl (own_pw nd0 0 7 (by decide) rfl rfl))).other W35 (Or.inr (sn_cN0_frames_admitted hw)))
  have F_targets_a1_45 := ((((((F_targets_a1.other W3 (Or.inl (own_pw nd0 0 9 (by decide) rfl rfl))).other W9 (Or.inl (own_pw nd0 0 10 (by decide) rfl rfl))).other W19 (Or.inr (sn_cN0_targets_waitingBytes hw))).other W25 (Or.inl (own_pw nd0 0 5 (by decide) rfl rfl))).other W31 (Or.inl (own_pw nd0 0 7 (by decide) rfl rfl))).other W35 (Or.inr (sn_cN0_targets_admitted hw)))
  have F_stored_a1_46 := (((((F_stored_a1_4.other W9 (Or.inl (own_pw nd0 0 10 (by decide) rfl rfl))).other W19 (Or.inr (sn_cN0_stored_waitingBytes hw))).other W25 (Or.inl (own_pw nd0 0 5 (by decide) rfl rfl))).other W31 (Or.inl (own_pw nd0 0 7 (by decide) rfl rfl))).other W35 (Or.inr (sn_cN0_stored_admitted hw)))
  have F_count_a1_47 := ((((((F_count_a1.other W3 (Or.inl (own_pw nd0 0 9 (by decide) rfl rfl))).other W9 (Or.inl (own_pw nd0 0 10 (by decide) rfl rfl))).other W19 (Or.inr (sn_cN0_count_waitingBytes hw))).other W25 (Or.inl (own_pw nd0 0 5 (by decide) rfl rfl))).other W31 (Or.inl (own_pw nd0 0 7 (by decide) rfl rfl))).other W35 (Or.inr (sn_cN0_count_admitted hw)))
  have F_waitingBytes_a1_48 := (((F_waitingBytes_a1_19.other W25 (Or.inl (own_pw nd0 0 5 (by decide) rfl rfl))).other W31 (Or.inl (own_pw nd0 0 7 (by decide) rfl rfl))).other W35 (Or.inr (sn_cN0_waitingBytes_admitted hw)))
  have V_tg_49 := (((((V_tg_3.other W9 (own_pw nd0 9 10 (by decide) rfl rfl)).other W19 (Ne.symm (own_pw nd0 0 9 (by decide) rfl rfl))).other W25 (Ne.symm (own_pw nd0 5 9 (by decide) rfl rfl))).other W31 (Ne.symm (own_pw nd0 7 9 (by decide) rfl rfl))).other W35 (Ne.symm (own_pw nd0 0 9 (by decide) rfl rfl)))
  have V_sd_50 := ((((V_sd_9.other W19 (Ne.symm (own_pw nd0 0 10 (by decide) rfl rfl))).other W25 (Ne.symm (own_pw nd0 5 10 (by decide) rfl rfl))).other W31 (Ne.symm (own_pw nd0 7 10 (by decide) rfl rfl))).other W35 (Ne.symm (own_pw nd0 0 10 (by decide) rfl rfl)))
  have V_ky_51 := ((V_ky_25.other W31 (own_pw nd0 5 7 (by decide) rfl rfl)).other W35 (Ne.symm (own_pw nd0 0 5 (by decide) rfl rfl)))
  have V_tr_52 := (V_tr_31.other W35 (Ne.symm (own_pw nd0 0 7 (by decide) rfl rfl)))
  obtain ⟨fs, hr, hrun, hended, hW, hsame⟩ := X35.leave (v := none) (fun _ => rfl)
  subst hA0
  refine ⟨_, _, K _ (X35.returnOut hx Bd.returns (hb hby d6_72) hr), hrun, hended, _, _, rfl, ?_, ⟨_, rfl⟩, hW, hsame.mono (by decide) (by decide)⟩
  show Q_admit10 Z a1 p1 ac ix bn ch ky mv tr fr tg sd k_tg k_sd k_ky k_tr tg0 tg1 tg2 sd0 sd1 sd2 ky0 ky2 tr0 tr1 tr2 kx kv kk pk cnt wb h0 n0 _ T35.heap _
  rw [e35]
  exact ⟨rfl, N35, Kp35, E_a1_36, F_actors_a1_37, F_indices_a1_38, F_branchNumbers_a1_39, F_chose_a1_40, F_keys_a1_41, F_moves_a1_42, F_transitions_a1_43, F_frames_a1_44, F_targets_a1_45, F_stored_a1_46, F_count_a1_47, F_admitted_a1_35, F_waitingBytes_a1_48, V_tg_49, V_sd_50, V_ky_51, V_tr_52⟩
def Q_admit11 (Z : State) (a1 : Addr) (p1 : Int32) (ac : Addr) (ix : Addr) (bn : Addr) (ch : Addr) (ky : Addr) (mv : Addr) (tr : Addr) (fr : Addr) (tg : Addr) (sd : Addr) (k_tg : ClassId) (k_sd : ClassId) (k_ky : ClassId) (k_tr : ClassId) (tg0 : Value) (tg1 : Value) (tg2 : Value) (sd0 : Value) (sd1 : Value) (sd2 : Value) (ky0 : Value) (ky2 : Value) (tr0 : Value) (tr1 : Value) (tr2 : Value) (kx : Addr) (kv : List Value) (kk : ClassId) (pk : Int32) (cnt : Int32) (wb : Int64) (h0 : Heap) (n0 : Nat) (v : Option Value) (h : Heap) (L : List Loc) : Prop := v = none ∧ Fr n0 L ∧ Keep h0 h [a1, tg, sd, ky, tr] ∧ Exa Z h a1 cN0 ∧ Fld Z h a1 cN0 "actors" "[I" (.ref ac) ∧ Fld Z h a1 cN0 "indices" "[I" (.ref ix) ∧ Fld Z h a1 cN0 "branchNumbers" "[I" (.ref bn) ∧ Fld Z h a1 cN0 "chose" "[Z" (.ref ch) ∧ Fld Z h a1 cN0 "keys" "[[B" (.ref ky) ∧ Fld Z h a1 cN0 "moves" cN1 (.ref mv) ∧ Fld Z h a1 cN0 "transitions" cN2 (.ref tr) ∧ Fld Z h a1 cN0 "frames" "[J" (.ref fr) ∧ Fld Z h a1 cN0 "targets" "[I" (.ref tg) ∧ Fld Z h a1 cN0 "stored" "[Z" (.ref sd) ∧ Fld Z h a1 cN0 "count" "I" (.int cnt) ∧ Fld Z h a1 cN0 "admitted" "I" (.int (2 : Int32)) ∧ Fld Z h a1 cN0 "waitingBytes" "J" (.long (wb - ((pk + (1 : Int32)).toInt64))) ∧ OAr Z h tg k_tg .int (oV tg0 (.int p1) tg2 (.int (0 : Int32))) ∧ OAr Z h sd k_sd .boolean (oV sd0 (.int (1 : Int32)) sd2 (.int (0 : Int32))) ∧ OAr Z h ky k_ky (.array .byte) (oV ky0 .null ky2 .null) ∧ OAr Z h tr k_tr (.object "com/example/flote/flote/search/Search$Branches") (oV tr0 .null tr2 .null)
set_option maxRecDepth 65536 in
set_option maxHeartbeats 40000000 in
theorem rm_admit11 (l : Launch) (Z : State) (a0 : Array Value) (hw : ∀ d ∈ tables_1, d.before a0 Z = true) (ws : List Jvm.Cond) (a1 : Addr) (p1 : Int32) (ac : Addr) (ix : Addr) (bn : Addr) (ch : Addr) (ky : Addr) (mv : Addr) (tr : Addr) (fr : Addr) (tg : Addr) (sd : Addr) (k_tg : ClassId) (k_sd : ClassId) (k_ky : ClassId) (k_tr : ClassId) (tg0 : Value) (tg1 : Value) (tg2 : Value) (sd0 : Value) (sd1 : Value) (sd2 : Value) (ky0 : Value) (ky2 : Value) (tr0 : Value) (tr1 : Value) (tr2 : Value) (kx : Addr) (kv : List Value) (kk : ClassId) (pk : Int32) (cnt : Int32) (wb : Int64) (h0 : Heap) (n0 : Nat) (Z0 : n0 ≤ h0.size) (E_a1 : Exa Z h0 a1 cN0) (F_actors_a1 : Fld Z h0 a1 cN0 "actors" "[I" (.ref ac)) (F_indices_a1 : Fld Z h0 a1 cN0 "indices" "[I" (.ref ix)) (F_branchNumbers_a1 : Fld Z h0 a1 cN0 "branchNumbers" "[I" (.ref bn)) (F_chose_a1 : Fld Z h0 a1 cN0 "chose" "[Z" (.ref ch)) (F_keys_a1 : Fld Z h0 a1 cN0 "keys" "[[B" (.ref ky)) (F_moves_a1 : Fld Z h0 a1 cN0 "moves" cN1 (.ref mv)) (F_transitions_a1 : Fld Z h0 a1 cN0 "transitions" cN2 (.ref tr)) (F_frames_a1 : Fld Z h0 a1 cN0 "frames" "[J" (.ref fr)) (F_targets_a1 : Fld Z h0 a1 cN0 "targets" "[I" (.ref tg)) (F_stored_a1 : Fld Z h0 a1 cN0 "stored" "[Z" (.ref sd)) (F_count_a1 : Fld Z h0 a1 cN0 "count" "I" (.int cnt)) (F_admitted_a1 : Fld Z h0 a1 cN0 "admitted" "I" (.int (1 : Int32))) (F_waitingBytes_a1 : Fld Z h0 a1 cN0 "waitingBytes" "J" (.long wb)) (V_tg : OAr Z h0 tg k_tg .int (oV tg0 tg1 tg2 (.int (0 : Int32)))) (V_sd : OAr Z h0 sd k_sd .boolean (oV sd0 sd1 sd2 (.int (0 : Int32)))) (V_tr : OAr Z h0 tr k_tr (.object "com/example/flote/flote/search/Search$Branches") (oV tr0 tr1 tr2 .null)) (V_ky : OAr Z h0 ky k_ky (.array .byte) (oV ky0 (.ref kx) ky2 .null)) (V_kx : OAr Z h0 kx kk .byte kv) (hk : kv.length.toInt32 = pk) (g_a1 : n0 ≤ a1) (g_tg : n0 ≤ tg) (g_sd : n0 ≤ sd) (g_ky : n0 ≤ ky) (g_tr : n0 ≤ tr) (nd0 : OND [a1, ac, ix, bn, ch, ky, mv, tr, fr, tg, sd, kx]) :
    MetFree l mN4 (head1 (Jvm.Cond.code mN4 prog_108_method_18_code 3 none :: ws) ({ frames := 0, cells := 0, slots := 0, locals := 0 } : Room)) (fun a U => a = #[(.ref a1), (.int p1), (.int (1 : Int32))] ∧ Z.Warmed39 U.vm ∧ U.heap = h0) (fun _ _ _ _ _ => True) (fun _ U o U' => ∃ v L, o = .returned v ∧ Q_admit11 Z a1 p1 ac ix bn ch ky mv tr fr tg sd k_tg k_sd k_ky k_tr tg0 tg1 tg2 sd0 sd1 sd2 ky0 ky2 tr0 tr1 tr2 kx kv kk pk cnt wb h0 n0 v U'.heap L ∧ FrameEnd U o U' L ({ frames := 0, cells := 0, slots := 0, locals := 0 } : Room).cells ({ frames := 0, cells := 0, slots := 0, locals := 0 } : Room).slots) := by
  refine MetFree.of_bodySF (plainFor_of_name pn_com_example_flote_flote_search_Reached) hisR ?_
  intro p e s m args below meth c s₁ Bd hml0 hP hK
  obtain ⟨rfl, hZ, hh⟩ := hP
  have hx := Bd.exec
  have hby := Bd.bytes
  have hml : c.maxLocals = 3 := hml0
  have hown : s.vm.findClass "com/example/flote/flote/search/Reached" = some m.cls := findClass_of_methodNamed Bd.named
  have hnm := (name_of_methodNamed Bd.named Bd.method).1
  have X0 : Stand p l e ({ frames := 0, cells := 0, slots := 0, locals := 0 } : Room) s m #[(.ref a1), (.int p1), (.int (1 : Int32))] below meth c s₁ [] 0 0 := Stand.of_body Bd
  have e0 : s₁.heap = h0 := by rw [← hh, Bd.state]; rfl
  have N0 := Fr.nil n0
  obtain ⟨A0, hA0⟩ : ∃ z, z = s₁.setTop (entryFrame m #[(.ref a1), (.int p1), (.int (1 : Int32))] 3) := ⟨_, rfl⟩
  have K : OGo p e below A0 s₁ (mkF m 0 #[rv a1, iv p1, iv 1] []) := fun t k => hA0 ▸ castTop (ef_6 m a1 p1 (1 : Int32)) k
  replace K : OGo p e below A0 s₁ (mkF m 1 #[rv a1, iv p1, iv 1] [(.ref a1)]) := fun t k => K t (XS.aloadN X0.here hx rfl (hb hby d6_0) rfl rfl k)
  obtain ⟨T1, X1, e1, st1⟩ := getF X0 hx hZ hown (host := "") (Or.inl (ow hw 35 rfl)) Via.refl e0 F_targets_a1 (g := (mkF m 1 #[rv a1, iv p1, iv 1] [(.ref a1)])) rfl rfl (hb hby d6_1)
  replace K : OGo p e below A0 T1 (mkF m 4 #[rv a1, iv p1, iv 1] [(.ref tg)]) := fun t k => K t (st1 t k)
  replace K : OGo p e below A0 T1 (mkF m 5 #[rv a1, iv p1, iv 1] [(.ref a1), (.ref tg)]) := fun t k => K t (XS.aloadN X1.here hx rfl (hb hby d6_4) rfl rfl k)
  obtain ⟨T2, X2, e2, st2⟩ := getF X1 hx hZ hown (host := "") (Or.inl (ow hw 50 rfl)) Via.refl e1 F_admitted_a1 (g := (mkF m 5 #[rv a1, iv p1, iv 1] [(.ref a1), (.ref tg)])) rfl rfl (hb hby d6_5)
  replace K : OGo p e below A0 T2 (mkF m 8 #[rv a1, iv p1, iv 1] [(.int 1), (.ref tg)]) := fun t k => K t (st2 t k)
  replace K : OGo p e below A0 T2 (mkF m 9 #[rv a1, iv p1, iv 1] [(.int p1), (.int 1), (.ref tg)]) := fun t k => K t (XS.iloadN X2.here hx rfl (hb hby d6_8) rfl k)
  obtain ⟨T3, h3, X3, e3, W3, V3, st3⟩ := own_stI X2 hx hZ e2 V_tg (j := (1 : Int32)) (by decide) (Nat.le_of_ble_eq_true rfl) (g := (mkF m 9 #[rv a1, iv p1, iv 1] [(.int p1), (.int 1), (.ref tg)])) rfl rfl (hb hby d6_9)
  have Z3 : n0 ≤ h3.size := Nat.le_trans Z0 (Keep.of_wr W3).1
  have Kp3 : Keep h0 h3 [a1, tg, sd, ky, tr] := (Keep.refl h0 [a1, tg, sd, ky, tr]).wr W3 (Or.inl (List.mem_of_getElem? (i := 1) rfl))
  have V_tg_3 : OAr Z h3 tg k_tg .int (oV tg0 (.int p1) tg2 (.int (0 : Int32))) := V3
  have N3 := Fr.snoc X3 N0 g_tg
  replace K : OGo p e below A0 T3 (mkF m 10 #[rv a1, iv p1, iv 1] []) := fun t k => K t (st3 t k)
  replace K : OGo p e below A0 T3 (mkF m 11 #[rv a1, iv p1, iv 1] [(.ref a1)]) := fun t k => K t (XS.aloadN X3.here hx rfl (hb hby d6_10) rfl rfl k)
  have F_stored_a1_4 := (F_stored_a1.other W3 (Or.inl (own_pw nd0 0 9 (by decide) rfl rfl)))
  obtain ⟨T5, X5, e5, st5⟩ := getF X3 hx hZ hown (host := "") (Or.inl (ow hw 37 rfl)) Via.refl e3 F_stored_a1_4 (g := (mkF m 11 #[rv a1, iv p1, iv 1] [(.ref a1)])) rfl rfl (hb hby d6_11)
  replace K : OGo p e below A0 T5 (mkF m 14 #[rv a1, iv p1, iv 1] [(.ref sd)]) := fun t k => K t (st5 t k)
  replace K : OGo p e below A0 T5 (mkF m 15 #[rv a1, iv p1, iv 1] [(.ref a1), (.ref sd)]) := fun t k => K t (XS.aloadN X5.here hx rfl (hb hby d6_14) rfl rfl k)
  have F_admitted_a1_6 := (F_admitted_a1.other W3 (Or.inl (own_pw nd0 0 9 (by decide) rfl rfl)))
  obtain ⟨T7, X7, e7, st7⟩ := getF X5 hx hZ hown (host := "") (Or.inl (ow hw 50 rfl)) Via.refl e5 F_admitted_a1_6 (g := (mkF m 15 #[rv a1, iv p1, iv 1] [(.ref a1), (.ref sd)])) rfl rfl (hb hby d6_15)
  replace K : OGo p e below A0 T7 (mkF m 18 #[rv a1, iv p1, iv 1] [(.int 1), (.ref sd)]) := fun t k => K t (st7 t k)
  replace K : OGo p e below A0 T7 (mkF m 19 #[rv a1, iv p1, iv 1] [(.int 1), (.int 1), (.ref sd)]) := fun t k => K t (XS.iloadN X7.here hx rfl (hb hby d6_18) rfl k)
  have V_sd_8 := (V_sd.other W3 (Ne.symm (own_pw nd0 9 10 (by decide) rfl rfl)))
  obtain ⟨T9, h9, X9, e9, W9, V9, st9⟩ := own_stZ X7 hx hZ e7 V_sd_8 (j := (1 : Int32)) (by decide) (Nat.le_of_ble_eq_true rfl) (g := (mkF m 19 #[rv a1, iv p1, iv 1] [(.int 1), (.int 1), (.ref sd)])) rfl rfl (hb hby d6_19)
  have Z9 : n0 ≤ h9.size := Nat.le_trans Z3 (Keep.of_wr W9).1
  have Kp9 : Keep h0 h9 [a1, tg, sd, ky, tr] := Kp3.wr W9 (Or.inl (List.mem_of_getElem? (i := 2) rfl))
  have V_sd_9 : OAr Z h9 sd k_sd .boolean (oV sd0 (.int (1 : Int32)) sd2 (.int (0 : Int32))) := V9
  have N9 := Fr.snoc X9 N3 g_sd
  replace K : OGo p e below A0 T9 (mkF m 20 #[rv a1, iv p1, iv 1] []) := fun t k => K t (st9 t k)
  replace K : OGo p e below A0 T9 (mkF m 21 #[rv a1, iv p1, iv 1] [(.ref a1)]) := fun t k => K t (XS.aloadN X9.here hx rfl (hb hby d6_20) rfl rfl k)
  replace K : OGo p e below A0 T9 (mkF m 22 #[rv a1, iv p1, iv 1] [(.ref a1), (.ref a1)]) := fun t k => K t (XS.dup X9.here hx rfl (hb hby d6_21) rfl rfl k)
  have F_waitingBytes_a1_10 := ((F_waitingBytes_a1.other W3 (Or.inl (own_pw nd0 0 9 (by decide) rfl rfl))).other W9 (Or.inl (own_pw nd0 0 10 (by decide) rfl rfl)))
  obtain ⟨T11, X11, e11, st11⟩ := getF X9 hx hZ hown (host := "") (Or.inl (ow hw 59 rfl)) Via.refl e9 F_waitingBytes_a1_10 (g := (mkF m 22 #[rv a1, iv p1, iv 1] [(.ref a1), (.ref a1)])) rfl rfl (hb hby d6_22)
  replace K : OGo p e below A0 T11 (mkF m 25 #[rv a1, iv p1, iv 1] [(.long wb), (.ref a1)]) := fun t k => K t (st11 t k)
  replace K : OGo p e below A0 T11 (mkF m 26 #[rv a1, iv p1, iv 1] [(.ref a1), (.long wb), (.ref a1)]) := fun t k => K t (XS.aloadN X11.here hx rfl (hb hby d6_25) rfl rfl k)
  have F_keys_a1_12 := ((F_keys_a1.other W3 (Or.inl (own_pw nd0 0 9 (by decide) rfl rfl))).other W9 (Or.inl (own_pw nd0 0 10 (by decide) rfl rfl)))
  obtain ⟨T13, X13, e13, st13⟩ := getF X11 hx hZ hown (host := "") (Or.inl (ow hw 22 rfl)) Via.refl e11 F_keys_a1_12 (g := (mkF m 26 #[rv a1, iv p1, iv 1] [(.ref a1), (.long wb), (.ref a1)])) rfl rfl (hb hby d6_26)
  replace K : OGo p e below A0 T13 (mkF m 29 #[rv a1, iv p1, iv 1] [(.ref ky), (.long wb), (.ref a1)]) := fun t k => K t (st13 t k)
  replace K : OGo p e below A0 T13 (mkF m 30 #[rv a1, iv p1, iv 1] [(.ref a1), (.ref ky), (.long wb), (.ref a1)]) := fun t k => K t (XS.aloadN X13.here hx rfl (hb hby d6_29) rfl rfl k)
  have F_admitted_a1_14 := (F_admitted_a1_6.other W9 (Or.inl (own_pw nd0 0 10 (by decide) rfl rfl)))
  obtain ⟨T15, X15, e15, st15⟩ := getF X13 hx hZ hown (host := "") (Or.inl (ow hw 50 rfl)) Via.refl e13 F_admitted_a1_14 (g := (mkF m 30 #[rv a1, iv p1, iv 1] [(.ref a1), (.ref ky), (.long wb), (.ref a1)])) rfl rfl (hb hby d6_30)
  replace K : OGo p e below A0 T15 (mkF m 33 #[rv a1, iv p1, iv 1] [(.int 1), (.ref ky), (.long wb), (.ref a1)]) := fun t k => K t (st15 t k)
  have V_ky_16 := ((V_ky.other W3 (own_pw nd0 5 9 (by decide) rfl rfl)).other W9 (own_pw nd0 5 10 (by decide) rfl rfl))
  replace K : OGo p e below A0 T15 (mkF m 34 #[rv a1, iv p1, iv 1] [(.ref kx), (.long wb), (.ref a1)]) := fun t k => K t (own_ldA X15 hx hZ e15 V_ky_16 rfl (j := (1 : Int32)) (v := (.ref kx)) (by decide) rfl (g := (mkF m 33 #[rv a1, iv p1, iv 1] [(.int 1), (.ref ky), (.long wb), (.ref a1)])) rfl rfl (hb hby d6_33) t k)
  have V_kx_17 := ((V_kx.other W3 (Ne.symm (own_pw nd0 9 11 (by decide) rfl rfl))).other W9 (Ne.symm (own_pw nd0 10 11 (by decide) rfl rfl)))
  replace K : OGo p e below A0 T15 (mkF m 35 #[rv a1, iv p1, iv 1] [(.int pk), (.long wb), (.ref a1)]) := fun t k => K t (own_len X15 hx hZ e15 V_kx_17 (n := pk) hk (g := (mkF m 34 #[rv a1, iv p1, iv 1] [(.ref kx), (.long wb), (.ref a1)])) rfl rfl (hb hby d6_34) t k)
  replace K : OGo p e below A0 T15 (mkF m 36 #[rv a1, iv p1, iv 1] [(.int 1), (.int pk), (.long wb), (.ref a1)]) := fun t k => K t (XS.iconst X15.here hx rfl (hb hby d6_35) k)
  replace K : OGo p e below A0 T15 (mkF m 37 #[rv a1, iv p1, iv 1] [(.int (pk + (1 : Int32))), (.long wb), (.ref a1)]) := fun t k => K t (XS.iadd X15.here hx rfl (hb hby d6_36) rfl k)
  replace K : OGo p e below A0 T15 (mkF m 38 #[rv a1, iv p1, iv 1] [(.long ((pk + (1 : Int32)).toInt64)), (.long wb), (.ref a1)]) := fun t k => K t (XS.i2l X15.here hx rfl (hb hby d6_37) rfl k)
  replace K : OGo p e below A0 T15 (mkF m 39 #[rv a1, iv p1, iv 1] [(.long (wb - ((pk + (1 : Int32)).toInt64))), (.ref a1)]) := fun t k => K t (XS.lsub X15.here hx rfl (hb hby d6_38) rfl k)
  have E_a1_18 := ((E_a1.wr W3).wr W9)
  obtain ⟨T19, h19, X19, e19, W19, st19⟩ := putF X15 hx hZ hown (host := "") (Or.inl (ow hw 59 rfl)) Via.refl e15 F_waitingBytes_a1_10 E_a1_18 (Or.inl (ow hw 60 rfl)) (ow hw 2 rfl) (ty := .long) (by decide) rfl rfl (g := (mkF m 39 #[rv a1, iv p1, iv 1] [(.long (wb - ((pk + (1 : Int32)).toInt64))), (.ref a1)])) rfl rfl (hb hby d6_39)
  have Z19 : n0 ≤ h19.size := Nat.le_trans Z9 (Keep.of_wr W19).1
  have Kp19 : Keep h0 h19 [a1, tg, sd, ky, tr] := Kp9.wr W19 (Or.inl (List.mem_of_getElem? (i := 0) rfl))
  have F_waitingBytes_a1_19 := F_waitingBytes_a1_10.same W19
  have N19 := Fr.snoc X19 N9 g_a1
  replace K : OGo p e below A0 T19 (mkF m 42 #[rv a1, iv p1, iv 1] []) := fun t k => K t (st19 t k)
  replace K : OGo p e below A0 T19 (mkF m 43 #[rv a1, iv p1, iv 1] [(.ref a1)]) := fun t k => K t (XS.aloadN X19.here hx rfl (hb hby d6_42) rfl rfl k)
  have F_keys_a1_20 := (F_keys_a1_12.other W19 (Or.inr (sn_cN0_keys_waitingBytes hw)))
  obtain ⟨T21, X21, e21, st21⟩ := getF X19 hx hZ hown (host := "") (Or.inl (ow hw 22 rfl)) Via.refl e19 F_keys_a1_20 (g := (mkF m 43 #[rv a1, iv p1, iv 1] [(.ref a1)])) rfl rfl (hb hby d6_43)
  replace K : OGo p e below A0 T21 (mkF m 46 #[rv a1, iv p1, iv 1] [(.ref ky)]) := fun t k => K t (st21 t k)
  replace K : OGo p e below A0 T21 (mkF m 47 #[rv a1, iv p1, iv 1] [(.ref a1), (.ref ky)]) := fun t k => K t (XS.aloadN X21.here hx rfl (hb hby d6_46) rfl rfl k)
  have F_admitted_a1_22 := (F_admitted_a1_14.other W19 (Or.inr (sn_cN0_admitted_waitingBytes hw)))
  obtain ⟨T23, X23, e23, st23⟩ := getF X21 hx hZ hown (host := "") (Or.inl (ow hw 50 rfl)) Via.refl e21 F_admitted_a1_22 (g := (mkF m 47 #[rv a1, iv p1, iv 1] [(.ref a1), (.ref ky)])) rfl rfl (hb hby d6_47)
  replace K : OGo p e below A0 T23 (mkF m 50 #[rv a1, iv p1, iv 1] [(.int 1), (.ref ky)]) := fun t k => K t (st23 t k)
  replace K : OGo p e below A0 T23 (mkF m 51 #[rv a1, iv p1, iv 1] [.null, (.int 1), (.ref ky)]) := fun t k => K t (XS.aconstNull X23.here hx rfl (hb hby d6_50) k)
  have V_ky_24 := (V_ky_16.other W19 (Ne.symm (own_pw nd0 0 5 (by decide) rfl rfl)))
  obtain ⟨T25, h25, X25, e25, W25, V25, st25⟩ := own_stR X23 hx hZ e23 V_ky_24 rfl (j := (1 : Int32)) (by decide) (Nat.le_of_ble_eq_true rfl) (Or.inl rfl) (g := (mkF m 51 #[rv a1, iv p1, iv 1] [.null, (.int 1), (.ref ky)])) rfl rfl (hb hby d6_51)
  have Z25 : n0 ≤ h25.size := Nat.le_trans Z19 (Keep.of_wr W25).1
  have Kp25 : Keep h0 h25 [a1, tg, sd, ky, tr] := Kp19.wr W25 (Or.inl (List.mem_of_getElem? (i := 3) rfl))
  have V_ky_25 : OAr Z h25 ky k_ky (.array .byte) (oV ky0 .null ky2 .null) := V25
  have N25 := Fr.snoc X25 N19 g_ky
  replace K : OGo p e below A0 T25 (mkF m 52 #[rv a1, iv p1, iv 1] []) := fun t k => K t (st25 t k)
  replace K : OGo p e below A0 T25 (mkF m 53 #[rv a1, iv p1, iv 1] [(.ref a1)]) := fun t k => K t (XS.aloadN X25.here hx rfl (hb hby d6_52) rfl rfl k)
  have F_transitions_a1_26 := ((((F_transitions_a1.other W3 (Or.inl (own_pw nd0 0 9 (by decide) rfl rfl))).other W9 (Or.inl (own_pw nd0 0 10 (by decide) rfl rfl))).other W19 (Or.inr (sn_cN0_transitions_waitingBytes hw))).other W25 (Or.inl (own_pw nd0 0 5 (by decide) rfl rfl)))
  obtain ⟨T27, X27, e27, st27⟩ := getF X25 hx hZ hown (host := "") (Or.inl (ow hw 30 rfl)) Via.refl e25 F_transitions_a1_26 (g := (mkF m 53 #[rv a1, iv p1, iv 1] [(.ref a1)])) rfl rfl (hb hby d6_53)
  replace K : OGo p e below A0 T27 (mkF m 56 #[rv a1, iv p1, iv 1] [(.ref tr)]) := fun t k => K t (st27 t k)
  replace K : OGo p e below A0 T27 (mkF m 57 #[rv a1, iv p1, iv 1] [(.ref a1), (.ref tr)]) := fun t k => K t (XS.aloadN X27.here hx rfl (hb hby d6_56) rfl rfl k)
  have F_admitted_a1_28 := (F_admitted_a1_22.other W25 (Or.inl (own_pw nd0 0 5 (by decide) rfl rfl)))
  obtain ⟨T29, X29, e29, st29⟩ := getF X27 hx hZ hown (host := "") (Or.inl (ow hw 50 rfl)) Via.refl e27 F_admitted_a1_28 (g := (mkF m 57 #[rv a1, iv p1, iv 1] [(.ref a1), (.ref tr)])) rfl rfl (hb hby d6_57)
  replace K : OGo p e below A0 T29 (mkF m 60 #[rv a1, iv p1, iv 1] [(.int 1), (.ref tr)]) := fun t k => K t (st29 t k)
  replace K : OGo p e below A0 T29 (mkF m 61 #[rv a1, iv p1, iv 1] [.null, (.int 1), (.ref tr)]) := fun t k => K t (XS.aconstNull X29.here hx rfl (hb hby d6_60) k)
  have V_tr_30 := ((((V_tr.other W3 (own_pw nd0 7 9 (by decide) rfl rfl)).other W9 (own_pw nd0 7 10 (by decide) rfl rfl)).other W19 (Ne.symm (own_pw nd0 0 7 (by decide) rfl rfl))).other W25 (Ne.symm (own_pw nd0 5 7 (by decide) rfl rfl)))
  obtain ⟨T31, h31, X31, e31, W31, V31, st31⟩ := own_stR X29 hx hZ e29 V_tr_30 rfl (j := (1 : Int32)) (by decide) (Nat.le_of_ble_eq_true rfl) (Or.inl rfl) (g := (mkF m 61 #[rv a1, iv p1, iv 1] [.null, (.int 1), (.ref tr)])) rfl rfl (hb hby d6_61)
  have Z31 : n0 ≤ h31.size := Nat.le_trans Z25 (Keep.of_wr W31).1
  have Kp31 : Keep h0 h31 [a1, tg, sd, ky, tr] := Kp25.wr W31 (Or.inl (List.mem_of_getElem? (i := 4) rfl))
  have V_tr_31 : OAr Z h31 tr k_tr (.object "com/example/flote/flote/search/Search$Branches") (oV tr0 .null tr2 .null) := V31
  have N31 := Fr.snoc X31 N25 g_tr
  replace K : OGo p e below A0 T31 (mkF m 62 #[rv a1, iv p1, iv 1] []) := fun t k => K t (st31 t k)
  replace K : OGo p e below A0 T31 (mkF m 63 #[rv a1, iv p1, iv 1] [(.ref a1)]) := fun t k => K t (XS.aloadN X31.here hx rfl (hb hby d6_62) rfl rfl k)
  replace K : OGo p e below A0 T31 (mkF m 64 #[rv a1, iv p1, iv 1] [(.ref a1), (.ref a1)]) := fun t k => K t (XS.dup X31.here hx rfl (hb hby d6_63) rfl rfl k)
  have F_admitted_a1_32 := (F_admitted_a1_28.other W31 (Or.inl (own_pw nd0 0 7 (by decide) rfl rfl)))
  obtain ⟨T33, X33, e33, st33⟩ := getF X31 hx hZ hown (host := "") (Or.inl (ow hw 50 rfl)) Via.refl e31 F_admitted_a1_32 (g := (mkF m 64 #[rv a1, iv p1, iv 1] [(.ref a1), (.ref a1)])) rfl rfl (hb hby d6_64)
  replace K : OGo p e below A0 T33 (mkF m 67 #[rv a1, iv p1, iv 1] [(.int 1), (.ref a1)]) := fun t k => K t (st33 t k)
  replace K : OGo p e below A0 T33 (mkF m 68 #[rv a1, iv p1, iv 1] [(.int 1), (.int 1), (.ref a1)]) := fun t k => K t (XS.iconst X33.here hx rfl (hb hby d6_67) k)
  replace K : OGo p e below A0 T33 (mkF m 69 #[rv a1, iv p1, iv 1] [(.int 2), (.ref a1)]) := fun t k => K t (XS.iadd X33.here hx rfl (hb hby d6_68) rfl k)
  have E_a1_34 := (((E_a1_18.wr W19).wr W25).wr W31)
  obtain ⟨T35, h35, X35, e35, W35, st35⟩ := putF X33 hx hZ hown (host := "") (Or.inl (ow hw 50 rfl)) Via.refl e33 F_admitted_a1_32 E_a1_34 (Or.inl (ow hw 51 rfl)) (ow hw 2 rfl) (ty := .int) (by decide) rfl rfl (g := (mkF m 69 #[rv a1, iv p1, iv 1] [(.int 2), (.ref a1)])) rfl rfl (hb hby d6_69)
  have Z35 : n0 ≤ h35.size := Nat.le_trans Z31 (Keep.of_wr W35).1
  have Kp35 : Keep h0 h35 [a1, tg, sd, ky, tr] := Kp31.wr W35 (Or.inl (List.mem_of_getElem? (i := 0) rfl))
  have F_admitted_a1_35 := F_admitted_a1_32.same W35
  have N35 := Fr.snoc X35 N31 g_a1
  replace K : OGo p e below A0 T35 (mkF m 72 #[rv a1, iv p1, iv 1] []) := fun t k => K t (st35 t k)
  have E_a1_36 := (E_a1_34.wr W35)
  have F_actors_a1_37 := ((((((F_actors_a1.other W3 (Or.inl (own_pw nd0 0 9 (by decide) rfl rfl))).other W9 (Or.inl (own_pw nd0 0 10 (by decide) rfl rfl))).other W19 (Or.inr (sn_cN0_actors_waitingBytes hw))).other W25 (Or.inl (own_pw nd0 0 5 (by decide) rfl rfl))).other W31 (Or.inl (own_pw nd0 0 7 (by decide) rfl rfl))).other W35 (Or.inr (sn_cN0_actors_admitted hw)))
  have F_indices_a1_38 := ((((((F_indices_a1.other W3 (Or.inl (own_pw nd0 0 9 (by decide) rfl rfl))).other W9 (Or.inl (own_pw nd0 0 10 (by decide) rfl rfl))).other W19 (Or.inr (sn_cN0_indices_waitingBytes hw))).other W25 (Or.inl (own_pw nd0 0 5 (by decide) rfl rfl))).other W31 (Or.inl (own_pw nd0 0 7 (by decide) rfl rfl))).other W35 (Or.inr (sn_cN0_indices_admitted hw)))
  have F_branchNumbers_a1_39 := ((((((F_branchNumbers_a1.other W3 (Or.inl (own_pw nd0 0 9 (by decide) rfl rfl))).other W9 (Or.inl (own_pw nd0 0 10 (by decide) rfl rfl))).other W19 (Or.inr (sn_cN0_branchNumbers_waitingBytes hw))).other W25 (Or.inl (own_pw nd0 0 5 (by decide) rfl rfl))).other W31 (Or.inl (own_pw nd0 0 7 (by decide) rfl rfl))).other W35 (Or.inr (sn_cN0_branchNumbers_admitted hw)))
  have F_chose_a1_40 := ((((((F_chose_a1.other W3 (Or.inl (own_pw nd0 0 9 (by decide) rfl rfl))).other W9 (Or.inl (own_pw nd0 0 10 (by decide) rfl rfl))).other W19 (Or.inr (sn_cN0_chose_waitingBytes hw))).other W25 (Or.inl (own_pw nd0 0 5 (by decide) rfl rfl))).other W31 (Or.inl (own_pw nd0 0 7 (by decide) rfl rfl))).other W35 (Or.inr (sn_cN0_chose_admitted hw)))
  have F_keys_a1_41 := (((F_keys_a1_20.other W25 (Or.inl (own_pw nd0 0 5 (by decide) rfl rfl))).other W31 (Or.inl (own_pw nd0 0 7 (by decide) rfl rfl))).other W35 (Or.inr (sn_cN0_keys_admitted hw)))
  have F_moves_a1_42 := ((((((F_moves_a1.other W3 (Or.inl (own_pw nd0 0 9 (by decide) rfl rfl))).other W9 (Or.inl (own_pw nd0 0 10 (by decide) rfl rfl))).other W19 (Or.inr (sn_cN0_moves_waitingBytes hw))).other W25 (Or.inl (own_pw nd0 0 5 (by decide) rfl rfl))).other W31 (Or.inl (own_pw nd0 0 7 (by decide) rfl rfl))).other W35 (Or.inr (sn_cN0_moves_admitted hw)))
  have F_transitions_a1_43 := ((F_transitions_a1_26.other W31 (Or.inl (own_pw nd0 0 7 (by decide) rfl rfl))).other W35 (Or.inr (sn_cN0_transitions_admitted hw)))
  have F_frames_a1_44 := ((((((F_frames_a1.other W3 (Or.inl (own_pw nd0 0 9 (by decide) rfl rfl))).other W9 (Or.inl (own_pw nd0 0 10 (by decide) rfl rfl))).other W19 (Or.inr (sn_cN0_frames_waitingBytes hw))).other W25 (Or.inl (own_pw nd0 0 5 (by decide) rfl rfl))).other W31 (Or.inl (own_pw nd0 0 7 (by decide) rfl rfl))).other W35 (Or.inr (sn_cN0_frames_admitted hw)))
  have F_targets_a1_45 := ((((((F_targets_a1.other W3 (Or.inl (own_pw nd0 0 9 (by decide) rfl rfl))).other W9 (Or.inl (own_pw nd0 0 10 (by decide) rfl rfl))).other W19 (Or.inr (sn_cN0_targets_waitingBytes hw))).other W25 (Or.inl (own_pw nd0 0 5 (by decide) rfl rfl))).other W31 (Or.inl (own_pw nd0 0 7 (by decide) rfl rfl))).other W35 (Or.inr (sn_cN0_targets_admitted hw)))
  have F_stored_a1_46 := (((((F_stored_a1_4.other W9 (Or.inl (own_pw nd0 0 10 (by decide) rfl rfl))).other W19 (Or.inr (sn_cN0_stored_waitingBytes hw))).other W25 (Or.inl (own_pw nd0 0 5 (by decide) rfl rfl))).other W31 (Or.inl (own_pw nd0 0 7 (by decide) rfl rfl))).other W35 (Or.inr (sn_cN0_stored_admitted hw)))
  have F_count_a1_47 := ((((((F_count_a1.other W3 (Or.inl (own_pw nd0 0 9 (by decide) rfl rfl))).other W9 (Or.inl (own_pw nd0 0 10 (by decide) rfl rfl))).other W19 (Or.inr (sn_cN0_count_waitingBytes hw))).other W25 (Or.inl (own_pw nd0 0 5 (by decide) rfl rfl))).other W31 (Or.inl (own_pw nd0 0 7 (by decide) rfl rfl))).other W35 (Or.inr (sn_cN0_count_admitted hw)))
  have F_waitingBytes_a1_48 := (((F_waitingBytes_a1_19.other W25 (Or.inl (own_pw nd0 0 5 (by decide) rfl rfl))).other W31 (Or.inl (own_pw nd0 0 7 (by decide) rfl rfl))).other W35 (Or.inr (sn_cN0_waitingBytes_admitted hw)))
  have V_tg_49 := (((((V_tg_3.other W9 (own_pw nd0 9 10 (by decide) rfl rfl)).other W19 (Ne.symm (own_pw nd0 0 9 (by decide) rfl rfl))).other W25 (Ne.symm (own_pw nd0 5 9 (by decide) rfl rfl))).other W31 (Ne.symm (own_pw nd0 7 9 (by decide) rfl rfl))).other W35 (Ne.symm (own_pw nd0 0 9 (by decide) rfl rfl)))
  have V_sd_50 := ((((V_sd_9.other W19 (Ne.symm (own_pw nd0 0 10 (by decide) rfl rfl))).other W25 (Ne.symm (own_pw nd0 5 10 (by decide) rfl rfl))).other W31 (Ne.symm (own_pw nd0 7 10 (by decide) rfl rfl))).other W35 (Ne.symm (own_pw nd0 0 10 (by decide) rfl rfl)))
  have V_ky_51 := ((V_ky_25.other W31 (own_pw nd0 5 7 (by decide) rfl rfl)).other W35 (Ne.symm (own_pw nd0 0 5 (by decide) rfl rfl)))
  have V_tr_52 := (V_tr_31.other W35 (Ne.symm (own_pw nd0 0 7 (by decide) rfl rfl)))
  obtain ⟨fs, hr, hrun, hended, hW, hsame⟩ := X35.leave (v := none) (fun _ => rfl)
  subst hA0
  refine ⟨_, _, K _ (X35.returnOut hx Bd.returns (hb hby d6_72) hr), hrun, hended, _, _, rfl, ?_, ⟨_, rfl⟩, hW, hsame.mono (by decide) (by decide)⟩
  show Q_admit11 Z a1 p1 ac ix bn ch ky mv tr fr tg sd k_tg k_sd k_ky k_tr tg0 tg1 tg2 sd0 sd1 sd2 ky0 ky2 tr0 tr1 tr2 kx kv kk pk cnt wb h0 n0 _ T35.heap _
  rw [e35]
  exact ⟨rfl, N35, Kp35, E_a1_36, F_actors_a1_37, F_indices_a1_38, F_branchNumbers_a1_39, F_chose_a1_40, F_keys_a1_41, F_moves_a1_42, F_transitions_a1_43, F_frames_a1_44, F_targets_a1_45, F_stored_a1_46, F_count_a1_47, F_admitted_a1_35, F_waitingBytes_a1_48, V_tg_49, V_sd_50, V_ky_51, V_tr_52⟩
theorem ef_7 (m : MethodId) (x0 : Addr) : entryFrame m #[(.ref x0)] 1 = mkF m 0 #[.val (.ref x0)] [] := by first | (simp [entryFrame, mkF, argsToLocals, Value.category]; done) | rfl
theorem d7_0 : decode prog_108_method_6_code 0 = .ok (.aload_n 0, 1) := by decide +kernel
theorem d7_1 : decode prog_108_method_6_code 1 = .ok (.getfield 63, 3) := by decide +kernel
theorem d7_4 : decode prog_108_method_6_code 4 = .ok (.ireturn, 1) := by decide +kernel
def Q_admitted (Z : State) (a1 : Addr) (w : Int32) (h0 : Heap) (n0 : Nat) (v : Option Value) (h : Heap) (L : List Loc) : Prop := v = some (.int w) ∧ Fr n0 L ∧ h = h0
set_option maxRecDepth 65536 in
set_option maxHeartbeats 40000000 in
theorem rm_admitted (l : Launch) (Z : State) (a0 : Array Value) (hw : ∀ d ∈ tables_1, d.before a0 Z = true) (ws : List Jvm.Cond) (a1 : Addr) (w : Int32) (h0 : Heap) (n0 : Nat) (Z0 : n0 ≤ h0.size) (F_admitted_a1 : Fld Z h0 a1 cN0 "admitted" "I" (.int w)) :
    MetFree l mN5 (head1 (Jvm.Cond.code mN5 prog_108_method_6_code 1 (some .int) :: ws) ({ frames := 0, cells := 0, slots := 0, locals := 0 } : Room)) (fun a U => a = #[(.ref a1)] ∧ Z.Warmed39 U.vm ∧ U.heap = h0) (fun _ _ _ _ _ => True) (fun _ U o U' => ∃ v L, o = .returned v ∧ Q_admitted Z a1 w h0 n0 v U'.heap L ∧ FrameEnd U o U' L ({ frames := 0, cells := 0, slots := 0, locals := 0 } : Room).cells ({ frames := 0, cells := 0, slots := 0, locals := 0 } : Room).slots) := by
  refine MetFree.of_bodySF (plainFor_of_name pn_com_example_flote_flote_search_Reached) hisR ?_
  intro p e s m args below meth c s₁ Bd hml0 hP hK
  obtain ⟨rfl, hZ, hh⟩ := hP
  have hx := Bd.exec
  have hby := Bd.bytes
  have hml : c.maxLocals = 1 := hml0
  have hown : s.vm.findClass "com/example/flote/flote/search/Reached" = some m.cls := findClass_of_methodNamed Bd.named
  have hnm := (name_of_methodNamed Bd.named Bd.method).1
  have X0 : Stand p l e ({ frames := 0, cells := 0, slots := 0, locals := 0 } : Room) s m #[(.ref a1)] below meth c s₁ [] 0 0 := Stand.of_body Bd
  have e0 : s₁.heap = h0 := by rw [← hh, Bd.state]; rfl
  have N0 := Fr.nil n0
  obtain ⟨A0, hA0⟩ : ∃ z, z = s₁.setTop (entryFrame m #[(.ref a1)] 1) := ⟨_, rfl⟩
  have K : OGo p e below A0 s₁ (mkF m 0 #[rv a1] []) := fun t k => hA0 ▸ castTop (ef_7 m a1) k
  replace K : OGo p e below A0 s₁ (mkF m 1 #[rv a1] [(.ref a1)]) := fun t k => K t (XS.aloadN X0.here hx rfl (hb hby d7_0) rfl rfl k)
  obtain ⟨T1, X1, e1, st1⟩ := getF X0 hx hZ hown (host := "") (Or.inl (ow hw 50 rfl)) Via.refl e0 F_admitted_a1 (g := (mkF m 1 #[rv a1] [(.ref a1)])) rfl rfl (hb hby d7_1)
  replace K : OGo p e below A0 T1 (mkF m 4 #[rv a1] [(.int w)]) := fun t k => K t (st1 t k)
  obtain ⟨fs, hr, hrun, hended, hW, hsame⟩ := X1.leave (v := some (.int w)) (fun h => by rw [Bd.returns] at h; cases h)
  subst hA0
  refine ⟨_, _, K _ (retOut X1 hx Bd.returns rfl (Or.inl ⟨rfl, Or.inl rfl, _, rfl⟩) (hb hby d7_4) hr), hrun, hended, _, _, rfl, ?_, ⟨_, rfl⟩, hW, hsame.mono (by decide) (by decide)⟩
  show Q_admitted Z a1 w h0 n0 _ T1.heap _
  rw [e1]
  exact ⟨rfl, N0, rfl⟩
theorem ef_11 (m : MethodId) (x0 : Addr) : entryFrame m #[(.ref x0)] 1 = mkF m 0 #[.val (.ref x0)] [] := by first | (simp [entryFrame, mkF, argsToLocals, Value.category]; done) | rfl
theorem d11_0 : decode prog_108_method_7_code 0 = .ok (.aload_n 0, 1) := by decide +kernel
theorem d11_1 : decode prog_108_method_7_code 1 = .ok (.getfield 55, 3) := by decide +kernel
theorem d11_4 : decode prog_108_method_7_code 4 = .ok (.lreturn, 1) := by decide +kernel
def Q_waiting (Z : State) (a1 : Addr) (w : Int64) (h0 : Heap) (n0 : Nat) (v : Option Value) (h : Heap) (L : List Loc) : Prop := v = some (.long w) ∧ Fr n0 L ∧ h = h0
set_option maxRecDepth 65536 in
set_option maxHeartbeats 40000000 in
theorem rm_waiting (l : Launch) (Z : State) (a0 : Array Value) (hw : ∀ d ∈ tables_1, d.before a0 Z = true) (ws : List Jvm.Cond) (a1 : Addr) (w : Int64) (h0 : Heap) (n0 : Nat) (Z0 : n0 ≤ h0.size) (F_waitingBytes_a1 : Fld Z h0 a1 cN0 "waitingBytes" "J" (.long w)) :
    MetFree l mN6 (head1 (Jvm.Cond.code mN6 prog_108_method_7_code 1 (some .long) :: ws) ({ frames := 0, cells := 0, slots := 0, locals := 0 } : Room)) (fun a U => a = #[(.ref a1)] ∧ Z.Warmed39 U.vm ∧ U.heap = h0) (fun _ _ _ _ _ => True) (fun _ U o U' => ∃ v L, o = .returned v ∧ Q_waiting Z a1 w h0 n0 v U'.heap L ∧ FrameEnd U o U' L ({ frames := 0, cells := 0, slots := 0, locals := 0 } : Room).cells ({ frames := 0, cells := 0, slots := 0, locals := 0 } : Room).slots) := by
  refine MetFree.of_bodySF (plainFor_of_name pn_com_example_flote_flote_search_Reached) hisR ?_
  intro p e s m args below meth c s₁ Bd hml0 hP hK
  obtain ⟨rfl, hZ, hh⟩ := hP
  have hx := Bd.exec
  have hby := Bd.bytes
  have hml : c.maxLocals = 1 := hml0
  have hown : s.vm.findClass "com/example/flote/flote/search/Reached" = some m.cls := findClass_of_methodNamed Bd.named
  have hnm := (name_of_methodNamed Bd.named Bd.method).1
  have X0 : Stand p l e ({ frames := 0, cells := 0, slots := 0, locals := 0 } : Room) s m #[(.ref a1)] below meth c s₁ [] 0 0 := Stand.of_body Bd
  have e0 : s₁.heap = h0 := by rw [← hh, Bd.state]; rfl
  have N0 := Fr.nil n0
  obtain ⟨A0, hA0⟩ : ∃ z, z = s₁.setTop (entryFrame m #[(.ref a1)] 1) := ⟨_, rfl⟩
  have K : OGo p e below A0 s₁ (mkF m 0 #[rv a1] []) := fun t k => hA0 ▸ castTop (ef_11 m a1) k
  replace K : OGo p e below A0 s₁ (mkF m 1 #[rv a1] [(.ref a1)]) := fun t k => K t (XS.aloadN X0.here hx rfl (hb hby d11_0) rfl rfl k)
  obtain ⟨T1, X1, e1, st1⟩ := getF X0 hx hZ hown (host := "") (Or.inl (ow hw 59 rfl)) Via.refl e0 F_waitingBytes_a1 (g := (mkF m 1 #[rv a1] [(.ref a1)])) rfl rfl (hb hby d11_1)
  replace K : OGo p e below A0 T1 (mkF m 4 #[rv a1] [(.long w)]) := fun t k => K t (st1 t k)
  obtain ⟨fs, hr, hrun, hended, hW, hsame⟩ := X1.leave (v := some (.long w)) (fun h => by rw [Bd.returns] at h; cases h)
  subst hA0
  refine ⟨_, _, K _ (retOut X1 hx Bd.returns rfl (Or.inr (Or.inl ⟨rfl, rfl, _, rfl⟩)) (hb hby d11_4) hr), hrun, hended, _, _, rfl, ?_, ⟨_, rfl⟩, hW, hsame.mono (by decide) (by decide)⟩
  show Q_waiting Z a1 w h0 n0 _ T1.heap _
  rw [e1]
  exact ⟨rfl, N0, rfl⟩
theorem ef_8 (m : MethodId) (x0 : Addr) (x1 : Int32) : entryFrame m #[(.ref x0), (.int x1)] 2 = mkF m 0 #[.val (.ref x0), .val (.int x1)] [] := by first | (simp [entryFrame, mkF, argsToLocals, Value.category]; done) | rfl
theorem d8_0 : decode prog_108_method_16_code 0 = .ok (.aload_n 0, 1) := by decide +kernel
theorem d8_1 : decode prog_108_method_16_code 1 = .ok (.getfield 45, 3) := by decide +kernel
theorem d8_4 : decode prog_108_method_16_code 4 = .ok (.iload_n 1, 1) := by decide +kernel
theorem d8_5 : decode prog_108_method_16_code 5 = .ok (.iaload, 1) := by decide +kernel
theorem d8_6 : decode prog_108_method_16_code 6 = .ok (.ireturn, 1) := by decide +kernel
def Q_target (Z : State) (a1 : Addr) (p1 : Int32) (x : Addr) (kx : ClassId) (va : List Value) (w : Int32) (h0 : Heap) (n0 : Nat) (v : Option Value) (h : Heap) (L : List Loc) : Prop := v = some (.int w) ∧ Fr n0 L ∧ h = h0
set_option maxRecDepth 65536 in
set_option maxHeartbeats 40000000 in
theorem rm_target (l : Launch) (Z : State) (a0 : Array Value) (hw : ∀ d ∈ tables_1, d.before a0 Z = true) (ws : List Jvm.Cond) (a1 : Addr) (p1 : Int32) (x : Addr) (kx : ClassId) (va : List Value) (w : Int32) (h0 : Heap) (n0 : Nat) (Z0 : n0 ≤ h0.size) (F_targets_a1 : Fld Z h0 a1 cN0 "targets" "[I" (.ref x)) (V_x : OAr Z h0 x kx .int va) (h0i : ¬ p1 < 0) (hv : va[p1.toNatClampNeg]? = some (.int w)) :
    MetFree l mN7 (head1 (Jvm.Cond.code mN7 prog_108_method_16_code 2 (some .int) :: ws) ({ frames := 0, cells := 0, slots := 0, locals := 0 } : Room)) (fun a U => a = #[(.ref a1), (.int p1)] ∧ Z.Warmed39 U.vm ∧ U.heap = h0) (fun _ _ _ _ _ => True) (fun _ U o U' => ∃ v L, o = .returned v ∧ Q_target Z a1 p1 x kx va w h0 n0 v U'.heap L ∧ FrameEnd U o U' L ({ frames := 0, cells := 0, slots := 0, locals := 0 } : Room).cells ({ frames := 0, cells := 0, slots := 0, locals := 0 } : Room).slots) := by
  refine MetFree.of_bodySF (plainFor_of_name pn_com_example_flote_flote_search_Reached) hisR ?_
  intro p e s m args below meth c s₁ Bd hml0 hP hK
  obtain ⟨rfl, hZ, hh⟩ := hP
  have hx := Bd.exec
  have hby := Bd.bytes
  have hml : c.maxLocals = 2 := hml0
  have hown : s.vm.findClass "com/example/flote/flote/search/Reached" = some m.cls := findClass_of_methodNamed Bd.named
  have hnm := (name_of_methodNamed Bd.named Bd.method).1
  have X0 : Stand p l e ({ frames := 0, cells := 0, slots := 0, locals := 0 } : Room) s m #[(.ref a1), (.int p1)] below meth c s₁ [] 0 0 := Stand.of_body Bd
  have e0 : s₁.heap = h0 := by rw [← hh, Bd.state]; rfl
  have N0 := Fr.nil n0
  obtain ⟨A0, hA0⟩ : ∃ z, z = s₁.setTop (entryFrame m #[(.ref a1), (.int p1)] 2) := ⟨_, rfl⟩
  have K : OGo p e below A0 s₁ (mkF m 0 #[rv a1, iv p1] []) := fun t k => hA0 ▸ castTop (ef_8 m a1 p1) k
  replace K : OGo p e below A0 s₁ (mkF m 1 #[rv a1, iv p1] [(.ref a1)]) := fun t k => K t (XS.aloadN X0.here hx rfl (hb hby d8_0) rfl rfl k)
  obtain ⟨T1, X1, e1, st1⟩ := getF X0 hx hZ hown (host := "") (Or.inl (ow hw 35 rfl)) Via.refl e0 F_targets_a1 (g := (mkF m 1 #[rv a1, iv p1] [(.ref a1)])) rfl rfl (hb hby d8_1)
  replace K : OGo p e below A0 T1 (mkF m 4 #[rv a1, iv p1] [(.ref x)]) := fun t k => K t (st1 t k)
  replace K : OGo p e below A0 T1 (mkF m 5 #[rv a1, iv p1] [(.int p1), (.ref x)]) := fun t k => K t (XS.iloadN X1.here hx rfl (hb hby d8_4) rfl k)
  replace K : OGo p e below A0 T1 (mkF m 6 #[rv a1, iv p1] [(.int w)]) := fun t k => K t (own_ldI X1 hx hZ e1 V_x (j := p1) (v := (.int w)) h0i hv (g := (mkF m 5 #[rv a1, iv p1] [(.int p1), (.ref x)])) rfl rfl (hb hby d8_5) t k)
  obtain ⟨fs, hr, hrun, hended, hW, hsame⟩ := X1.leave (v := some (.int w)) (fun h => by rw [Bd.returns] at h; cases h)
  subst hA0
  refine ⟨_, _, K _ (retOut X1 hx Bd.returns rfl (Or.inl ⟨rfl, Or.inl rfl, _, rfl⟩) (hb hby d8_6) hr), hrun, hended, _, _, rfl, ?_, ⟨_, rfl⟩, hW, hsame.mono (by decide) (by decide)⟩
  show Q_target Z a1 p1 x kx va w h0 n0 _ T1.heap _
  rw [e1]
  exact ⟨rfl, N0, rfl⟩
theorem ef_12 (m : MethodId) (x0 : Addr) (x1 : Int32) : entryFrame m #[(.ref x0), (.int x1)] 2 = mkF m 0 #[.val (.ref x0), .val (.int x1)] [] := by first | (simp [entryFrame, mkF, argsToLocals, Value.category]; done) | rfl
theorem d12_0 : decode prog_108_method_8_code 0 = .ok (.aload_n 0, 1) := by decide +kernel
theorem d12_1 : decode prog_108_method_8_code 1 = .ok (.getfield 7, 3) := by decide +kernel
theorem d12_4 : decode prog_108_method_8_code 4 = .ok (.iload_n 1, 1) := by decide +kernel
theorem d12_5 : decode prog_108_method_8_code 5 = .ok (.iaload, 1) := by decide +kernel
theorem d12_6 : decode prog_108_method_8_code 6 = .ok (.ireturn, 1) := by decide +kernel
def Q_actor (Z : State) (a1 : Addr) (p1 : Int32) (x : Addr) (kx : ClassId) (va : List Value) (w : Int32) (h0 : Heap) (n0 : Nat) (v : Option Value) (h : Heap) (L : List Loc) : Prop := v = some (.int w) ∧ Fr n0 L ∧ h = h0
set_option maxRecDepth 65536 in
set_option maxHeartbeats 40000000 in
theorem rm_actor (l : Launch) (Z : State) (a0 : Array Value) (hw : ∀ d ∈ tables_1, d.before a0 Z = true) (ws : List Jvm.Cond) (a1 : Addr) (p1 : Int32) (x : Addr) (kx : ClassId) (va : List Value) (w : Int32) (h0 : Heap) (n0 : Nat) (Z0 : n0 ≤ h0.size) (F_actors_a1 : Fld Z h0 a1 cN0 "actors" "[I" (.ref x)) (V_x : OAr Z h0 x kx .int va) (h0i : ¬ p1 < 0) (hv : va[p1.toNatClampNeg]? = some (.int w)) :
    MetFree l mN8 (head1 (Jvm.Cond.code mN8 prog_108_method_8_code 2 (some .int) :: ws) ({ frames := 0, cells := 0, slots := 0, locals := 0 } : Room)) (fun a U => a = #[(.ref a1), (.int p1)] ∧ Z.Warmed39 U.vm ∧ U.heap = h0) (fun _ _ _ _ _ => True) (fun _ U o U' => ∃ v L, o = .returned v ∧ Q_actor Z a1 p1 x kx va w h0 n0 v U'.heap L ∧ FrameEnd U o U' L ({ frames := 0, cells := 0, slots := 0, locals := 0 } : Room).cells ({ frames := 0, cells := 0, slots := 0, locals := 0 } : Room).slots) := by
  refine MetFree.of_bodySF (plainFor_of_name pn_com_example_flote_flote_search_Reached) hisR ?_
  intro p e s m args below meth c s₁ Bd hml0 hP hK
  obtain ⟨rfl, hZ, hh⟩ := hP
  have hx := Bd.exec
  have hby := Bd.bytes
  have hml : c.maxLocals = 2 := hml0
  have hown : s.vm.findClass "com/example/flote/flote/search/Reached" = some m.cls := findClass_of_methodNamed Bd.named
  have hnm := (name_of_methodNamed Bd.named Bd.method).1
  have X0 : Stand p l e ({ frames := 0, cells := 0, slots := 0, locals := 0 } : Room) s m #[(.ref a1), (.int p1)] below meth c s₁ [] 0 0 := Stand.of_body Bd
  have e0 : s₁.heap = h0 := by rw [← hh, Bd.state]; rfl
  have N0 := Fr.nil n0
  obtain ⟨A0, hA0⟩ : ∃ z, z = s₁.setTop (entryFrame m #[(.ref a1), (.int p1)] 2) := ⟨_, rfl⟩
  have K : OGo p e below A0 s₁ (mkF m 0 #[rv a1, iv p1] []) := fun t k => hA0 ▸ castTop (ef_12 m a1 p1) k
  replace K : OGo p e below A0 s₁ (mkF m 1 #[rv a1, iv p1] [(.ref a1)]) := fun t k => K t (XS.aloadN X0.here hx rfl (hb hby d12_0) rfl rfl k)
  obtain ⟨T1, X1, e1, st1⟩ := getF X0 hx hZ hown (host := "") (Or.inl (ow hw 11 rfl)) Via.refl e0 F_actors_a1 (g := (mkF m 1 #[rv a1, iv p1] [(.ref a1)])) rfl rfl (hb hby d12_1)
  replace K : OGo p e below A0 T1 (mkF m 4 #[rv a1, iv p1] [(.ref x)]) := fun t k => K t (st1 t k)
  replace K : OGo p e below A0 T1 (mkF m 5 #[rv a1, iv p1] [(.int p1), (.ref x)]) := fun t k => K t (XS.iloadN X1.here hx rfl (hb hby d12_4) rfl k)
  replace K : OGo p e below A0 T1 (mkF m 6 #[rv a1, iv p1] [(.int w)]) := fun t k => K t (own_ldI X1 hx hZ e1 V_x (j := p1) (v := (.int w)) h0i hv (g := (mkF m 5 #[rv a1, iv p1] [(.int p1), (.ref x)])) rfl rfl (hb hby d12_5) t k)
  obtain ⟨fs, hr, hrun, hended, hW, hsame⟩ := X1.leave (v := some (.int w)) (fun h => by rw [Bd.returns] at h; cases h)
  subst hA0
  refine ⟨_, _, K _ (retOut X1 hx Bd.returns rfl (Or.inl ⟨rfl, Or.inl rfl, _, rfl⟩) (hb hby d12_6) hr), hrun, hended, _, _, rfl, ?_, ⟨_, rfl⟩, hW, hsame.mono (by decide) (by decide)⟩
  show Q_actor Z a1 p1 x kx va w h0 n0 _ T1.heap _
  rw [e1]
  exact ⟨rfl, N0, rfl⟩
theorem ef_9 (m : MethodId) (x0 : Addr) (x1 : Int32) : entryFrame m #[(.ref x0), (.int x1)] 2 = mkF m 0 #[.val (.ref x0), .val (.int x1)] [] := by first | (simp [entryFrame, mkF, argsToLocals, Value.category]; done) | rfl
theorem d9_0 : decode prog_108_method_17_code 0 = .ok (.aload_n 0, 1) := by decide +kernel
theorem d9_1 : decode prog_108_method_17_code 1 = .ok (.getfield 48, 3) := by decide +kernel
theorem d9_4 : decode prog_108_method_17_code 4 = .ok (.iload_n 1, 1) := by decide +kernel
theorem d9_5 : decode prog_108_method_17_code 5 = .ok (.baload, 1) := by decide +kernel
theorem d9_6 : decode prog_108_method_17_code 6 = .ok (.ireturn, 1) := by decide +kernel
def Q_stores (Z : State) (a1 : Addr) (p1 : Int32) (x : Addr) (kx : ClassId) (va : List Value) (w : Int32) (h0 : Heap) (n0 : Nat) (v : Option Value) (h : Heap) (L : List Loc) : Prop := v = some (.int w) ∧ Fr n0 L ∧ h = h0
set_option maxRecDepth 65536 in
set_option maxHeartbeats 40000000 in
theorem rm_stores (l : Launch) (Z : State) (a0 : Array Value) (hw : ∀ d ∈ tables_1, d.before a0 Z = true) (ws : List Jvm.Cond) (a1 : Addr) (p1 : Int32) (x : Addr) (kx : ClassId) (va : List Value) (w : Int32) (h0 : Heap) (n0 : Nat) (Z0 : n0 ≤ h0.size) (F_stored_a1 : Fld Z h0 a1 cN0 "stored" "[Z" (.ref x)) (V_x : OAr Z h0 x kx .boolean va) (h0i : ¬ p1 < 0) (hv : va[p1.toNatClampNeg]? = some (.int w)) (hn : nar .boolean w = w) :
    MetFree l mN9 (head1 (Jvm.Cond.code mN9 prog_108_method_17_code 2 (some .boolean) :: ws) ({ frames := 0, cells := 0, slots := 0, locals := 0 } : Room)) (fun a U => a = #[(.ref a1), (.int p1)] ∧ Z.Warmed39 U.vm ∧ U.heap = h0) (fun _ _ _ _ _ => True) (fun _ U o U' => ∃ v L, o = .returned v ∧ Q_stores Z a1 p1 x kx va w h0 n0 v U'.heap L ∧ FrameEnd U o U' L ({ frames := 0, cells := 0, slots := 0, locals := 0 } : Room).cells ({ frames := 0, cells := 0, slots := 0, locals := 0 } : Room).slots) := by
  refine MetFree.of_bodySF (plainFor_of_name pn_com_example_flote_flote_search_Reached) hisR ?_
  intro p e s m args below meth c s₁ Bd hml0 hP hK
  obtain ⟨rfl, hZ, hh⟩ := hP
  have hx := Bd.exec
  have hby := Bd.bytes
  have hml : c.maxLocals = 2 := hml0
  have hown : s.vm.findClass "com/example/flote/flote/search/Reached" = some m.cls := findClass_of_methodNamed Bd.named
  have hnm := (name_of_methodNamed Bd.named Bd.method).1
  have X0 : Stand p l e ({ frames := 0, cells := 0, slots := 0, locals := 0 } : Room) s m #[(.ref a1), (.int p1)] below meth c s₁ [] 0 0 := Stand.of_body Bd
  have e0 : s₁.heap = h0 := by rw [← hh, Bd.state]; rfl
  have N0 := Fr.nil n0
  obtain ⟨A0, hA0⟩ : ∃ z, z = s₁.setTop (entryFrame m #[(.ref a1), (.int p1)] 2) := ⟨_, rfl⟩
  have K : OGo p e below A0 s₁ (mkF m 0 #[rv a1, iv p1] []) := fun t k => hA0 ▸ castTop (ef_9 m a1 p1) k
  replace K : OGo p e below A0 s₁ (mkF m 1 #[rv a1, iv p1] [(.ref a1)]) := fun t k => K t (XS.aloadN X0.here hx rfl (hb hby d9_0) rfl rfl k)
  obtain ⟨T1, X1, e1, st1⟩ := getF X0 hx hZ hown (host := "") (Or.inl (ow hw 37 rfl)) Via.refl e0 F_stored_a1 (g := (mkF m 1 #[rv a1, iv p1] [(.ref a1)])) rfl rfl (hb hby d9_1)
  replace K : OGo p e below A0 T1 (mkF m 4 #[rv a1, iv p1] [(.ref x)]) := fun t k => K t (st1 t k)
  replace K : OGo p e below A0 T1 (mkF m 5 #[rv a1, iv p1] [(.int p1), (.ref x)]) := fun t k => K t (XS.iloadN X1.here hx rfl (hb hby d9_4) rfl k)
  replace K : OGo p e below A0 T1 (mkF m 6 #[rv a1, iv p1] [(.int w)]) := fun t k => K t (own_ldZ X1 hx hZ e1 V_x (j := p1) (v := (.int w)) h0i hv (g := (mkF m 5 #[rv a1, iv p1] [(.int p1), (.ref x)])) rfl rfl (hb hby d9_5) t k)
  obtain ⟨fs, hr, hrun, hended, hW, hsame⟩ := X1.leave (v := some (.int (nar .boolean w))) (fun h => by rw [Bd.returns] at h; cases h)
  subst hA0
  refine ⟨_, _, K _ (retN X1 hx (t := .boolean) Bd.returns (by simp) (hb hby d9_6) hr), hrun, hended, _, _, rfl, ?_, ⟨_, rfl⟩, hW, hsame.mono (by decide) (by decide)⟩
  show Q_stores Z a1 p1 x kx va w h0 n0 _ T1.heap _
  rw [e1]
  exact ⟨(by rw [hn]), N0, rfl⟩
theorem ef_10 (m : MethodId) (x0 : Addr) (x1 : Int32) : entryFrame m #[(.ref x0), (.int x1)] 2 = mkF m 0 #[.val (.ref x0), .val (.int x1)] [] := by first | (simp [entryFrame, mkF, argsToLocals, Value.category]; done) | rfl
theorem d10_0 : decode prog_108_method_12_code 0 = .ok (.aload_n 0, 1) := by decide +kernel
theorem d10_1 : decode prog_108_method_12_code 1 = .ok (.getfield 25, 3) := by decide +kernel
theorem d10_4 : decode prog_108_method_12_code 4 = .ok (.iload_n 1, 1) := by decide +kernel
theorem d10_5 : decode prog_108_method_12_code 5 = .ok (.aaload, 1) := by decide +kernel
theorem d10_6 : decode prog_108_method_12_code 6 = .ok (.areturn, 1) := by decide +kernel
def Q_keyN (Z : State) (a1 : Addr) (p1 : Int32) (x : Addr) (kx : ClassId) (va : List Value) (h0 : Heap) (n0 : Nat) (v : Option Value) (h : Heap) (L : List Loc) : Prop := v = some .null ∧ Fr n0 L ∧ h = h0
set_option maxRecDepth 65536 in
set_option maxHeartbeats 40000000 in
theorem rm_keyN (l : Launch) (Z : State) (a0 : Array Value) (hw : ∀ d ∈ tables_1, d.before a0 Z = true) (ws : List Jvm.Cond) (a1 : Addr) (p1 : Int32) (x : Addr) (kx : ClassId) (va : List Value) (h0 : Heap) (n0 : Nat) (Z0 : n0 ≤ h0.size) (F_keys_a1 : Fld Z h0 a1 cN0 "keys" "[[B" (.ref x)) (V_x : OAr Z h0 x kx (.array .byte) va) (h0i : ¬ p1 < 0) (hv : va[p1.toNatClampNeg]? = some .null) :
    MetFree l mN10 (head1 (Jvm.Cond.code mN10 prog_108_method_12_code 2 (some (.array .byte)) :: ws) ({ frames := 0, cells := 0, slots := 0, locals := 0 } : Room)) (fun a U => a = #[(.ref a1), (.int p1)] ∧ Z.Warmed39 U.vm ∧ U.heap = h0) (fun _ _ _ _ _ => True) (fun _ U o U' => ∃ v L, o = .returned v ∧ Q_keyN Z a1 p1 x kx va h0 n0 v U'.heap L ∧ FrameEnd U o U' L ({ frames := 0, cells := 0, slots := 0, locals := 0 } : Room).cells ({ frames := 0, cells := 0, slots := 0, locals := 0 } : Room).slots) := by
  refine MetFree.of_bodySF (plainFor_of_name pn_com_example_flote_flote_search_Reached) hisR ?_
  intro p e s m args below meth c s₁ Bd hml0 hP hK
  obtain ⟨rfl, hZ, hh⟩ := hP
  have hx := Bd.exec
  have hby := Bd.bytes
  have hml : c.maxLocals = 2 := hml0
  have hown : s.vm.findClass "com/example/flote/flote/search/Reached" = some m.cls := findClass_of_methodNamed Bd.named
  have hnm := (name_of_methodNamed Bd.named Bd.method).1
  have X0 : Stand p l e ({ frames := 0, cells := 0, slots := 0, locals := 0 } : Room) s m #[(.ref a1), (.int p1)] below meth c s₁ [] 0 0 := Stand.of_body Bd
  have e0 : s₁.heap = h0 := by rw [← hh, Bd.state]; rfl
  have N0 := Fr.nil n0
  obtain ⟨A0, hA0⟩ : ∃ z, z = s₁.setTop (entryFrame m #[(.ref a1), (.int p1)] 2) := ⟨_, rfl⟩
  have K : OGo p e below A0 s₁ (mkF m 0 #[rv a1, iv p1] []) := fun t k => hA0 ▸ castTop (ef_10 m a1 p1) k
  replace K : OGo p e below A0 s₁ (mkF m 1 #[rv a1, iv p1] [(.ref a1)]) := fun t k => K t (XS.aloadN X0.here hx rfl (hb hby d10_0) rfl rfl k)
  obtain ⟨T1, X1, e1, st1⟩ := getF X0 hx hZ hown (host := "") (Or.inl (ow hw 22 rfl)) Via.refl e0 F_keys_a1 (g := (mkF m 1 #[rv a1, iv p1] [(.ref a1)])) rfl rfl (hb hby d10_1)
  replace K : OGo p e below A0 T1 (mkF m 4 #[rv a1, iv p1] [(.ref x)]) := fun t k => K t (st1 t k)
  replace K : OGo p e below A0 T1 (mkF m 5 #[rv a1, iv p1] [(.int p1), (.ref x)]) := fun t k => K t (XS.iloadN X1.here hx rfl (hb hby d10_4) rfl k)
  replace K : OGo p e below A0 T1 (mkF m 6 #[rv a1, iv p1] [.null]) := fun t k => K t (own_ldA X1 hx hZ e1 V_x rfl (j := p1) (v := .null) h0i hv (g := (mkF m 5 #[rv a1, iv p1] [(.int p1), (.ref x)])) rfl rfl (hb hby d10_5) t k)
  obtain ⟨fs, hr, hrun, hended, hW, hsame⟩ := X1.leave (v := some .null) (fun h => by rw [Bd.returns] at h; cases h)
  subst hA0
  refine ⟨_, _, K _ (retOut X1 hx Bd.returns rfl (Or.inr (Or.inr (Or.inr (Or.inr ⟨rfl, rfl, rfl⟩)))) (hb hby d10_6) hr), hrun, hended, _, _, rfl, ?_, ⟨_, rfl⟩, hW, hsame.mono (by decide) (by decide)⟩
  show Q_keyN Z a1 p1 x kx va h0 n0 _ T1.heap _
  rw [e1]
  exact ⟨rfl, N0, rfl⟩
def Q_keyR (Z : State) (a1 : Addr) (p1 : Int32) (x : Addr) (kx : ClassId) (va : List Value) (w : Addr) (h0 : Heap) (n0 : Nat) (v : Option Value) (h : Heap) (L : List Loc) : Prop := v = some (.ref w) ∧ Fr n0 L ∧ h = h0
set_option maxRecDepth 65536 in
set_option maxHeartbeats 40000000 in
theorem rm_keyR (l : Launch) (Z : State) (a0 : Array Value) (hw : ∀ d ∈ tables_1, d.before a0 Z = true) (ws : List Jvm.Cond) (a1 : Addr) (p1 : Int32) (x : Addr) (kx : ClassId) (va : List Value) (w : Addr) (h0 : Heap) (n0 : Nat) (Z0 : n0 ≤ h0.size) (F_keys_a1 : Fld Z h0 a1 cN0 "keys" "[[B" (.ref x)) (V_x : OAr Z h0 x kx (.array .byte) va) (h0i : ¬ p1 < 0) (hv : va[p1.toNatClampNeg]? = some (.ref w)) :
    MetFree l mN10 (head1 (Jvm.Cond.code mN10 prog_108_method_12_code 2 (some (.array .byte)) :: ws) ({ frames := 0, cells := 0, slots := 0, locals := 0 } : Room)) (fun a U => a = #[(.ref a1), (.int p1)] ∧ Z.Warmed39 U.vm ∧ U.heap = h0) (fun _ _ _ _ _ => True) (fun _ U o U' => ∃ v L, o = .returned v ∧ Q_keyR Z a1 p1 x kx va w h0 n0 v U'.heap L ∧ FrameEnd U o U' L ({ frames := 0, cells := 0, slots := 0, locals := 0 } : Room).cells ({ frames := 0, cells := 0, slots := 0, locals := 0 } : Room).slots) := by
  refine MetFree.of_bodySF (plainFor_of_name pn_com_example_flote_flote_search_Reached) hisR ?_
  intro p e s m args below meth c s₁ Bd hml0 hP hK
  obtain ⟨rfl, hZ, hh⟩ := hP
  have hx := Bd.exec
  have hby := Bd.bytes
  have hml : c.maxLocals = 2 := hml0
  have hown : s.vm.findClass "com/example/flote/flote/search/Reached" = some m.cls := findClass_of_methodNamed Bd.named
  have hnm := (name_of_methodNamed Bd.named Bd.method).1
  have X0 : Stand p l e ({ frames := 0, cells := 0, slots := 0, locals := 0 } : Room) s m #[(.ref a1), (.int p1)] below meth c s₁ [] 0 0 := Stand.of_body Bd
  have e0 : s₁.heap = h0 := by rw [← hh, Bd.state]; rfl
  have N0 := Fr.nil n0
  obtain ⟨A0, hA0⟩ : ∃ z, z = s₁.setTop (entryFrame m #[(.ref a1), (.int p1)] 2) := ⟨_, rfl⟩
  have K : OGo p e below A0 s₁ (mkF m 0 #[rv a1, iv p1] []) := fun t k => hA0 ▸ castTop (ef_10 m a1 p1) k
  replace K : OGo p e below A0 s₁ (mkF m 1 #[rv a1, iv p1] [(.ref a1)]) := fun t k => K t (XS.aloadN X0.here hx rfl (hb hby d10_0) rfl rfl k)
  obtain ⟨T1, X1, e1, st1⟩ := getF X0 hx hZ hown (host := "") (Or.inl (ow hw 22 rfl)) Via.refl e0 F_keys_a1 (g := (mkF m 1 #[rv a1, iv p1] [(.ref a1)])) rfl rfl (hb hby d10_1)
  replace K : OGo p e below A0 T1 (mkF m 4 #[rv a1, iv p1] [(.ref x)]) := fun t k => K t (st1 t k)
  replace K : OGo p e below A0 T1 (mkF m 5 #[rv a1, iv p1] [(.int p1), (.ref x)]) := fun t k => K t (XS.iloadN X1.here hx rfl (hb hby d10_4) rfl k)
  replace K : OGo p e below A0 T1 (mkF m 6 #[rv a1, iv p1] [(.ref w)]) := fun t k => K t (own_ldA X1 hx hZ e1 V_x rfl (j := p1) (v := (.ref w)) h0i hv (g := (mkF m 5 #[rv a1, iv p1] [(.int p1), (.ref x)])) rfl rfl (hb hby d10_5) t k)
  obtain ⟨fs, hr, hrun, hended, hW, hsame⟩ := X1.leave (v := some (.ref w)) (fun h => by rw [Bd.returns] at h; cases h)
  subst hA0
  refine ⟨_, _, K _ (retOut X1 hx Bd.returns rfl (Or.inr (Or.inr (Or.inr (Or.inr ⟨rfl, rfl, rfl⟩)))) (hb hby d10_6) hr), hrun, hended, _, _, rfl, ?_, ⟨_, rfl⟩, hW, hsame.mono (by decide) (by decide)⟩
  show Q_keyR Z a1 p1 x kx va w h0 n0 _ T1.heap _
  rw [e1]
  exact ⟨rfl, N0, rfl⟩
theorem pn_com_example_flote_flote_search_ReachedAdmitPinLaw : plainName "com/example/flote/flote/search/ReachedAdmitPinLaw" = true := by first | (simp [plainName, overriddenIn]; done) | decide +kernel
theorem ef_0 (m : MethodId) (x0 : Int32) (x1 : Int32) (x2 : Int32) (x3 : Int32) : entryFrame m #[(.int x0), (.int x1), (.int x2), (.int x3)] maxLocals = mkF m 0 #[.val (.int x0), .val (.int x1), .val (.int x2), .val (.int x3), .unset, .unset, .unset, .unset, .unset, .unset, .unset, .unset, .unset] [] := by first | (simp [entryFrame, mkF, argsToLocals, Value.category, maxLocals]; done) | rfl
theorem pd___V : parseMethodDescriptor "()V" = some ⟨[], none⟩ := by decide +kernel
theorem pd__IIIZ_BLcom_example_flote_flote_search_Search_Moves_JLcom_example_flote_flote_search_Search_Branches__V : parseMethodDescriptor "(IIIZ[BLcom/example/flote/flote/search/Search$Moves;JLcom/example/flote/flote/search/Search$Branches;)V" = some ⟨[.int, .int, .int, .boolean, (.array .byte), (.object "com/example/flote/flote/search/Search$Moves"), .long, (.object "com/example/flote/flote/search/Search$Branches")], none⟩ := by decide +kernel
theorem pd__IZ_V : parseMethodDescriptor "(IZ)V" = some ⟨[.int, .boolean], none⟩ := by decide +kernel
theorem pd__I_I : parseMethodDescriptor "(I)I" = some ⟨[.int], some .int⟩ := by decide +kernel
theorem pd__I_Z : parseMethodDescriptor "(I)Z" = some ⟨[.int], some .boolean⟩ := by decide +kernel
theorem pd__I__B : parseMethodDescriptor "(I)[B" = some ⟨[.int], some (.array .byte)⟩ := by decide +kernel
theorem pd___J : parseMethodDescriptor "()J" = some ⟨[], some .long⟩ := by decide +kernel
theorem pd__IJ_V : parseMethodDescriptor "(IJ)V" = some ⟨[.int, .long], none⟩ := by decide +kernel
def Q_law (Z : State) (p1 : Int32) (p2 : Int32) (p3 : Int32) (p4 : Int32) (h0 : Heap) (n0 : Nat) (v : Option Value) (h : Heap) (L : List Loc) : Prop := v = some (.int (1 : Int32)) ∧ Fr n0 L
set_option maxRecDepth 65536 in
set_option maxHeartbeats 40000000 in
theorem rm_law (l : Launch) (Z : State) (a0 : Array Value) (hw : ∀ d ∈ tables_1, d.before a0 Z = true) (ws : List Jvm.Cond) (p1 : Int32) (p2 : Int32) (p3 : Int32) (p4 : Int32) (h0 : Heap) (n0 : Nat) (Z0 : n0 ≤ h0.size) :
    MetFree l x (head1 (Jvm.Cond.code x code maxLocals ret :: ws) room_1) (fun a U => a = #[(.int p1), (.int p2), (.int p3), (.int p4)] ∧ Z.Warmed39 U.vm ∧ U.heap = h0) (fun _ _ _ _ _ => True) (fun _ U o U' => ∃ v L, o = .returned v ∧ Q_law Z p1 p2 p3 p4 h0 n0 v U'.heap L ∧ FrameEnd U o U' L room_1.cells room_1.slots) := by
  refine MetFree.of_bodySF (plainFor_of_name pn_com_example_flote_flote_search_ReachedAdmitPinLaw) hisR ?_
  intro p e s m args below meth c s₁ Bd hml0 hP hK
  obtain ⟨rfl, hZ, hh⟩ := hP
  have hx := Bd.exec
  have hby := Bd.bytes
  have hml : c.maxLocals = 13 := hml0
  have hown : s.vm.findClass "com/example/flote/flote/search/ReachedAdmitPinLaw" = some m.cls := findClass_of_methodNamed Bd.named
  have hnm := (name_of_methodNamed Bd.named Bd.method).1
  have X0 : Stand p l e room_1 s m #[(.int p1), (.int p2), (.int p3), (.int p4)] below meth c s₁ [] 0 0 := Stand.of_body Bd
  have e0 : s₁.heap = h0 := by rw [← hh, Bd.state]; rfl
  have N0 := Fr.nil n0
  obtain ⟨A0, hA0⟩ : ∃ z, z = s₁.setTop (entryFrame m #[(.int p1), (.int p2), (.int p3), (.int p4)] maxLocals) := ⟨_, rfl⟩
  have K : OGo p e below A0 s₁ (mkF m 0 #[iv p1, iv p2, iv p3, iv p4, .unset, .unset, .unset, .unset, .unset, .unset, .unset, .unset, .unset] []) := fun t k => hA0 ▸ castTop (ef_0 m p1 p2 p3 p4) k
  replace K : OGo p e below A0 s₁ (mkF m 1 #[iv p1, iv p2, iv p3, iv p4, .unset, .unset, .unset, .unset, .unset, .unset, .unset, .unset, .unset] [(.int p3)]) := fun t k => K t (XS.iloadN X0.here hx rfl (hb hby at_0) rfl k)
  replace K : OGo p e below A0 s₁ (mkF m 2 #[iv p1, iv p2, iv p3, iv p4, .unset, .unset, .unset, .unset, .unset, .unset, .unset, .unset, .unset] [(.int 1), (.int p3)]) := fun t k => K t (XS.iconst X0.here hx rfl (hb hby at_1) k)
  replace K : OGo p e below A0 s₁ (mkF m 3 #[iv p1, iv p2, iv p3, iv p4, .unset, .unset, .unset, .unset, .unset, .unset, .unset, .unset, .unset] [(.int (p3 &&& (1 : Int32)))]) := fun t k => K t (XS.iand X0.here hx rfl (hb hby at_2) rfl k)
  by_cases hc3 : (p3 &&& (1 : Int32)) = (0 : Int32)
  · replace K : OGo p e below A0 s₁ (mkF m 10 #[iv p1, iv p2, iv p3, iv p4, .unset, .unset, .unset, .unset, .unset, .unset, .unset, .unset, .unset] []) := fun t k => K t (XS.ifYes X0.here hx rfl (pc0 := 3) (pc' := 10) rfl (hb hby at_3) rfl ((if0 _ _).trans (teq hc3).1) (by decide) (by decide) k)
    replace K : OGo p e below A0 s₁ (mkF m 11 #[iv p1, iv p2, iv p3, iv p4, .unset, .unset, .unset, .unset, .unset, .unset, .unset, .unset, .unset] [(.int 0)]) := fun t k => K t (XS.iconst X0.here hx rfl (hb hby at_10) k)
    replace K : OGo p e below A0 s₁ (mkF m 13 #[iv p1, iv p2, iv p3, iv p4, iv 0, .unset, .unset, .unset, .unset, .unset, .unset, .unset, .unset] []) := fun t k => K t (XS.istore X0.here hx rfl (hb hby at_11) rfl (l' := #[iv p1, iv p2, iv p3, iv p4, iv 0, .unset, .unset, .unset, .unset, .unset, .unset, .unset, .unset]) rfl k)
    replace K : OGo p e below A0 s₁ (mkF m 14 #[iv p1, iv p2, iv p3, iv p4, iv 0, .unset, .unset, .unset, .unset, .unset, .unset, .unset, .unset] [(.int p3)]) := fun t k => K t (XS.iloadN X0.here hx rfl (hb hby at_13) rfl k)
    replace K : OGo p e below A0 s₁ (mkF m 15 #[iv p1, iv p2, iv p3, iv p4, iv 0, .unset, .unset, .unset, .unset, .unset, .unset, .unset, .unset] [(.int 2), (.int p3)]) := fun t k => K t (XS.iconst X0.here hx rfl (hb hby at_14) k)
    replace K : OGo p e below A0 s₁ (mkF m 16 #[iv p1, iv p2, iv p3, iv p4, iv 0, .unset, .unset, .unset, .unset, .unset, .unset, .unset, .unset] [(.int (p3 &&& (2 : Int32)))]) := fun t k => K t (XS.iand X0.here hx rfl (hb hby at_15) rfl k)
    by_cases hc16 : (p3 &&& (2 : Int32)) = (0 : Int32)
    · replace K : OGo p e below A0 s₁ (mkF m 23 #[iv p1, iv p2, iv p3, iv p4, iv 0, .unset, .unset, .unset, .unset, .unset, .unset, .unset, .unset] []) := fun t k => K t (XS.ifYes X0.here hx rfl (pc0 := 16) (pc' := 23) rfl (hb hby at_16) rfl ((if0 _ _).trans (teq hc16).1) (by decide) (by decide) k)
      replace K : OGo p e below A0 s₁ (mkF m 24 #[iv p1, iv p2, iv p3, iv p4, iv 0, .unset, .unset, .unset, .unset, .unset, .unset, .unset, .unset] [(.int 0)]) := fun t k => K t (XS.iconst X0.here hx rfl (hb hby at_23) k)
      replace K : OGo p e below A0 s₁ (mkF m 26 #[iv p1, iv p2, iv p3, iv p4, iv 0, iv 0, .unset, .unset, .unset, .unset, .unset, .unset, .unset] []) := fun t k => K t (XS.istore X0.here hx rfl (hb hby at_24) rfl (l' := #[iv p1, iv p2, iv p3, iv p4, iv 0, iv 0, .unset, .unset, .unset, .unset, .unset, .unset, .unset]) rfl k)
      replace K : OGo p e below A0 s₁ (mkF m 27 #[iv p1, iv p2, iv p3, iv p4, iv 0, iv 0, .unset, .unset, .unset, .unset, .unset, .unset, .unset] [(.int p4)]) := fun t k => K t (XS.iloadN X0.here hx rfl (hb hby at_26) rfl k)
      replace K : OGo p e below A0 s₁ (mkF m 29 #[iv p1, iv p2, iv p3, iv p4, iv 0, iv 0, .unset, .unset, .unset, .unset, .unset, .unset, .unset] [(.int 15), (.int p4)]) := fun t k => K t (XS.bipush X0.here hx rfl (hb hby at_27) k)
      replace K : OGo p e below A0 s₁ (mkF m 30 #[iv p1, iv p2, iv p3, iv p4, iv 0, iv 0, .unset, .unset, .unset, .unset, .unset, .unset, .unset] [(.int (p4 &&& (15 : Int32)))]) := fun t k => K t (XS.iand X0.here hx rfl (hb hby at_29) rfl k)
      obtain ⟨l1, hv_l1⟩ : ∃ z : Int32, z = (p4 &&& (15 : Int32)) := ⟨_, rfl⟩
      rw [← hv_l1] at K
      have hl1 : 0 ≤ l1.toInt ∧ l1.toInt ≤ 15 := hv_l1 ▸ own_and15 _
      replace K : OGo p e below A0 s₁ (mkF m 32 #[iv p1, iv p2, iv p3, iv p4, iv 0, iv 0, iv l1, .unset, .unset, .unset, .unset, .unset, .unset] []) := fun t k => K t (XS.istore X0.here hx rfl (hb hby at_30) rfl (l' := #[iv p1, iv p2, iv p3, iv p4, iv 0, iv 0, iv l1, .unset, .unset, .unset, .unset, .unset, .unset]) rfl k)
      replace K : OGo p e below A0 s₁ (mkF m 33 #[iv p1, iv p2, iv p3, iv p4, iv 0, iv 0, iv l1, .unset, .unset, .unset, .unset, .unset, .unset] [(.int p4)]) := fun t k => K t (XS.iloadN X0.here hx rfl (hb hby at_32) rfl k)
      replace K : OGo p e below A0 s₁ (mkF m 34 #[iv p1, iv p2, iv p3, iv p4, iv 0, iv 0, iv l1, .unset, .unset, .unset, .unset, .unset, .unset] [(.int 4), (.int p4)]) := fun t k => K t (XS.iconst X0.here hx rfl (hb hby at_33) k)
      replace K : OGo p e below A0 s₁ (mkF m 35 #[iv p1, iv p2, iv p3, iv p4, iv 0, iv 0, iv l1, .unset, .unset, .unset, .unset, .unset, .unset] [(.int ((p4.toUInt32 >>> ((4 : Int32) &&& 31).toUInt32).toInt32))]) := fun t k => K t (XS.iushr X0.here hx rfl (hb hby at_34) rfl k)
      replace K : OGo p e below A0 s₁ (mkF m 37 #[iv p1, iv p2, iv p3, iv p4, iv 0, iv 0, iv l1, .unset, .unset, .unset, .unset, .unset, .unset] [(.int 15), (.int ((p4.toUInt32 >>> ((4 : Int32) &&& 31).toUInt32).toInt32))]) := fun t k => K t (XS.bipush X0.here hx rfl (hb hby at_35) k)
      replace K : OGo p e below A0 s₁ (mkF m 38 #[iv p1, iv p2, iv p3, iv p4, iv 0, iv 0, iv l1, .unset, .unset, .unset, .unset, .unset, .unset] [(.int (((p4.toUInt32 >>> ((4 : Int32) &&& 31).toUInt32).toInt32) &&& (15 : Int32)))]) := fun t k => K t (XS.iand X0.here hx rfl (hb hby at_37) rfl k)
      obtain ⟨l2, hv_l2⟩ : ∃ z : Int32, z = (((p4.toUInt32 >>> ((4 : Int32) &&& 31).toUInt32).toInt32) &&& (15 : Int32)) := ⟨_, rfl⟩
      rw [← hv_l2] at K
      have hl2 : 0 ≤ l2.toInt ∧ l2.toInt ≤ 15 := hv_l2 ▸ own_and15 _
      replace K : OGo p e below A0 s₁ (mkF m 40 #[iv p1, iv p2, iv p3, iv p4, iv 0, iv 0, iv l1, iv l2, .unset, .unset, .unset, .unset, .unset] []) := fun t k => K t (XS.istore X0.here hx rfl (hb hby at_38) rfl (l' := #[iv p1, iv p2, iv p3, iv p4, iv 0, iv 0, iv l1, iv l2, .unset, .unset, .unset, .unset, .unset]) rfl k)
      replace K : OGo p e below A0 s₁ (mkF m 42 #[iv p1, iv p2, iv p3, iv p4, iv 0, iv 0, iv l1, iv l2, .unset, .unset, .unset, .unset, .unset] [(.int l1)]) := fun t k => K t (XS.iload X0.here hx rfl (hb hby at_40) rfl k)
      obtain ⟨T1, h1, k1, X1, e1, E1, A1, Q1, st1⟩ := newPE X0 hx hZ (ow hw 0 rfl) e0 (g := (mkF m 42 #[iv p1, iv p2, iv p3, iv p4, iv 0, iv 0, iv l1, iv l2, .unset, .unset, .unset, .unset, .unset] [(.int l1)])) rfl (hb hby at_42) rfl (own_nn hl1) (cap := 15) (own_cap hl1) (by decide) (by decide) (by decide) (ad := "[B") (by decide)
      obtain ⟨b1, gz1⟩ : ∃ z, z = h0.size := ⟨_, rfl⟩
      rw [← gz1] at A1 Q1 st1
      have g_b1 : n0 ≤ b1 := Nat.le_trans Z0 (Nat.le_of_eq gz1.symm)
      have Z1 : n0 ≤ h1.size := Nat.le_trans Z0 E1.1
      have V_b1 : OAr Z h1 b1 k1 .byte (List.replicate l1.toNatClampNeg (.int (0 : Int32))) := OAr.new A1
      replace K : OGo p e below A0 T1 (mkF m 44 #[iv p1, iv p2, iv p3, iv p4, iv 0, iv 0, iv l1, iv l2, .unset, .unset, .unset, .unset, .unset] [(.ref b1)]) := fun t k => K t (st1 t k)
      replace K : OGo p e below A0 T1 (mkF m 46 #[iv p1, iv p2, iv p3, iv p4, iv 0, iv 0, iv l1, iv l2, rv b1, .unset, .unset, .unset, .unset] []) := fun t k => K t (XS.astore X1.here hx rfl (hb hby at_44) rfl rfl (l' := #[iv p1, iv p2, iv p3, iv p4, iv 0, iv 0, iv l1, iv l2, rv b1, .unset, .unset, .unset, .unset]) rfl k)
      replace K : OGo p e below A0 T1 (mkF m 48 #[iv p1, iv p2, iv p3, iv p4, iv 0, iv 0, iv l1, iv l2, rv b1, .unset, .unset, .unset, .unset] [(.int l2)]) := fun t k => K t (XS.iload X1.here hx rfl (hb hby at_46) rfl k)
      obtain ⟨T2, h2, k2, X2, e2, E2, A2, Q2, st2⟩ := newPE X1 hx hZ (ow hw 0 rfl) e1 (g := (mkF m 48 #[iv p1, iv p2, iv p3, iv p4, iv 0, iv 0, iv l1, iv l2, rv b1, .unset, .unset, .unset, .unset] [(.int l2)])) rfl (hb hby at_48) rfl (own_nn hl2) (cap := 15) (own_cap hl2) (by decide) (by decide) (by decide) (ad := "[B") (by decide)
      obtain ⟨b2, gz2⟩ : ∃ z, z = h1.size := ⟨_, rfl⟩
      rw [← gz2] at A2 Q2 st2
      have ne_b1_b2 : b1 ≠ b2 := Nat.ne_of_lt (Nat.lt_of_lt_of_le Q1.lt (Nat.le_of_eq gz2.symm))
      have g_b2 : n0 ≤ b2 := Nat.le_trans Z1 (Nat.le_of_eq gz2.symm)
      have Z2 : n0 ≤ h2.size := Nat.le_trans Z1 E2.1
      have V_b2 : OAr Z h2 b2 k2 .byte (List.replicate l2.toNatClampNeg (.int (0 : Int32))) := OAr.new A2
      replace K : OGo p e below A0 T2 (mkF m 50 #[iv p1, iv p2, iv p3, iv p4, iv 0, iv 0, iv l1, iv l2, rv b1, .unset, .unset, .unset, .unset] [(.ref b2)]) := fun t k => K t (st2 t k)
      replace K : OGo p e below A0 T2 (mkF m 52 #[iv p1, iv p2, iv p3, iv p4, iv 0, iv 0, iv l1, iv l2, rv b1, rv b2, .unset, .unset, .unset] []) := fun t k => K t (XS.astore X2.here hx rfl (hb hby at_50) rfl rfl (l' := #[iv p1, iv p2, iv p3, iv p4, iv 0, iv 0, iv l1, iv l2, rv b1, rv b2, .unset, .unset, .unset]) rfl k)
      obtain ⟨T3, h3, X3, e3, E3, A3, D3, -, st3⟩ := newO X2 hx hZ hown (ow hw 1 rfl) (ow hw 2 rfl) (ow hw 3 rfl) e2 (g := (mkF m 52 #[iv p1, iv p2, iv p3, iv p4, iv 0, iv 0, iv l1, iv l2, rv b1, rv b2, .unset, .unset, .unset] [])) rfl (hb hby at_52) (by decide) (by decide)
      obtain ⟨b3, gz3⟩ : ∃ z, z = h2.size := ⟨_, rfl⟩
      rw [← gz3] at A3 D3 st3
      have Q1_4 := (Q1.ext E2)
      have ne_b1_b3 : b1 ≠ b3 := Nat.ne_of_lt (Nat.lt_of_lt_of_le Q1_4.lt (Nat.le_of_eq gz3.symm))
      have ne_b2_b3 : b2 ≠ b3 := Nat.ne_of_lt (Nat.lt_of_lt_of_le Q2.lt (Nat.le_of_eq gz3.symm))
      have g_b3 : n0 ≤ b3 := Nat.le_trans Z2 (Nat.le_of_eq gz3.symm)
      have Z3 : n0 ≤ h3.size := Nat.le_trans Z2 E3.1
      have F_actors_b3 : Fld Z h3 b3 cN0 "actors" "[I" .null := D3 (Or.inl (ow hw 12 rfl)) (ty := (.array .int)) (by decide)
      have F_indices_b3 : Fld Z h3 b3 cN0 "indices" "[I" .null := D3 (Or.inl (ow hw 14 rfl)) (ty := (.array .int)) (by decide)
      have F_branchNumbers_b3 : Fld Z h3 b3 cN0 "branchNumbers" "[I" .null := D3 (Or.inl (ow hw 16 rfl)) (ty := (.array .int)) (by decide)
      have F_chose_b3 : Fld Z h3 b3 cN0 "chose" "[Z" .null := D3 (Or.inl (ow hw 19 rfl)) (ty := (.array .boolean)) (by decide)
      have F_keys_b3 : Fld Z h3 b3 cN0 "keys" "[[B" .null := D3 (Or.inl (ow hw 23 rfl)) (ty := (.array (.array .byte))) (by decide)
      have F_moves_b3 : Fld Z h3 b3 cN0 "moves" cN1 .null := D3 (Or.inl (ow hw 27 rfl)) (ty := (.array (.object "com/example/flote/flote/search/Search$Moves"))) (by decide)
      have F_transitions_b3 : Fld Z h3 b3 cN0 "transitions" cN2 .null := D3 (Or.inl (ow hw 31 rfl)) (ty := (.array (.object "com/example/flote/flote/search/Search$Branches"))) (by decide)
      have F_frames_b3 : Fld Z h3 b3 cN0 "frames" "[J" .null := D3 (Or.inl (ow hw 34 rfl)) (ty := (.array .long)) (by decide)
      have F_targets_b3 : Fld Z h3 b3 cN0 "targets" "[I" .null := D3 (Or.inl (ow hw 36 rfl)) (ty := (.array .int)) (by decide)
      have F_stored_b3 : Fld Z h3 b3 cN0 "stored" "[Z" .null := D3 (Or.inl (ow hw 38 rfl)) (ty := (.array .boolean)) (by decide)
      have F_count_b3 : Fld Z h3 b3 cN0 "count" "I" (.int (0 : Int32)) := D3 (Or.inl (ow hw 49 rfl)) (ty := .int) (by decide)
      have F_admitted_b3 : Fld Z h3 b3 cN0 "admitted" "I" (.int (0 : Int32)) := D3 (Or.inl (ow hw 51 rfl)) (ty := .int) (by decide)
      have F_waitingBytes_b3 : Fld Z h3 b3 cN0 "waitingBytes" "J" (.long (0 : Int64)) := D3 (Or.inl (ow hw 60 rfl)) (ty := .long) (by decide)
      replace K : OGo p e below A0 T3 (mkF m 55 #[iv p1, iv p2, iv p3, iv p4, iv 0, iv 0, iv l1, iv l2, rv b1, rv b2, .unset, .unset, .unset] [(.ref b3)]) := fun t k => K t (st3 t k)
      replace K : OGo p e below A0 T3 (mkF m 56 #[iv p1, iv p2, iv p3, iv p4, iv 0, iv 0, iv l1, iv l2, rv b1, rv b2, .unset, .unset, .unset] [(.ref b3), (.ref b3)]) := fun t k => K t (XS.dup X3.here hx rfl (hb hby at_55) rfl rfl k)
      obtain ⟨_, _, ⟨T5, L5, k5, n5⟩, -, X5, ⟨Lc5, hQ5, l5, y5, z5⟩, st5⟩ := X3.specialBack hx (y := mN0) rfl hown (mvT hZ (ow hw 4 rfl)) (mvT hZ (ow hw 5 rfl)) (mvT hZ (ow hw 6 rfl)) (by decide) (backOf (W := 1) (rm_init l Z a0 hw [] b3 h3 n0 Z3 A3 F_actors_b3 F_indices_b3 F_branchNumbers_b3 F_chose_b3 F_keys_b3 F_moves_b3 F_transitions_b3 F_frames_b3 F_targets_b3 F_stored_b3 F_count_b3 F_admitted_b3 F_waitingBytes_b3 g_b3) hZ (ow hw 6 rfl) (ow hw 3 rfl) (by decide) (by decide)) (g := (mkF m 56 #[iv p1, iv p2, iv p3, iv p4, iv 0, iv 0, iv l1, iv l2, rv b1, rv b2, .unset, .unset, .unset] [(.ref b3), (.ref b3)])) rfl (by rw [hml]; rfl) (Steps.refl _) (a := b3) (argsL := []) (rest := [(.ref b3)]) (lenOf pd___V rfl) rfl (by show 2 * 0 + _ ≤ _; exact Nat.le_of_eq rfl) (hb hby at_56) (fun _ _ => ⟨rfl, e3, (by decide : 3 + 10 ≤ _), (by decide : 43 + 160 ≤ _)⟩)
      dsimp only [Pt.U, Pt.locs, Pt.cells, Pt.slots] at X5 l5 y5 z5 st5 hQ5
      subst l5 y5 z5
      obtain ⟨hp5, e5⟩ : ∃ z, T5.heap = z := ⟨_, rfl⟩
      rw [e5] at hQ5
      obtain ⟨rfl, Nq5, ac_5, ix_5, bn_5, ch_5, ky_5, mv_5, tr_5, fr_5, tg_5, sd_5, k_ac_5, k_ix_5, k_bn_5, k_ch_5, k_ky_5, k_mv_5, k_tr_5, k_fr_5, k_tg_5, k_sd_5, K5, P5_0, P5_1, P5_2, P5_3, P5_4, P5_5, P5_6, P5_7, P5_8, P5_9, P5_10, P5_11, P5_12, P5_13, P5_14, P5_15, P5_16, P5_17, P5_18, P5_19, P5_20, P5_21, P5_22, P5_23, P5_24, P5_25, P5_26, P5_27, P5_28, P5_29, P5_30, P5_31, P5_32, P5_33, P5_34, P5_35⟩ := hQ5
      have Q1_6 := (Q1_4.ext E3)
      have ne_b1_ac_5 : b1 ≠ ac_5 := Nat.ne_of_lt (Nat.lt_of_lt_of_le Q1_6.lt P5_0)
      have Q2_7 := (Q2.ext E3)
      have ne_b2_ac_5 : b2 ≠ ac_5 := Nat.ne_of_lt (Nat.lt_of_lt_of_le Q2_7.lt P5_0)
      have ne_b3_ac_5 : b3 ≠ ac_5 := Nat.ne_of_lt (Nat.lt_of_lt_of_le A3.lt P5_0)
      have g_ac_5 : n0 ≤ ac_5 := Nat.le_trans Z3 P5_0
      have ne_b1_ix_5 : b1 ≠ ix_5 := Nat.ne_of_lt (Nat.lt_of_lt_of_le Q1_6.lt P5_1)
      have ne_b2_ix_5 : b2 ≠ ix_5 := Nat.ne_of_lt (Nat.lt_of_lt_of_le Q2_7.lt P5_1)
      have ne_b3_ix_5 : b3 ≠ ix_5 := Nat.ne_of_lt (Nat.lt_of_lt_of_le A3.lt P5_1)
      have g_ix_5 : n0 ≤ ix_5 := Nat.le_trans Z3 P5_1
      have ne_b1_bn_5 : b1 ≠ bn_5 := Nat.ne_of_lt (Nat.lt_of_lt_of_le Q1_6.lt P5_2)
      have ne_b2_bn_5 : b2 ≠ bn_5 := Nat.ne_of_lt (Nat.lt_of_lt_of_le Q2_7.lt P5_2)
      have ne_b3_bn_5 : b3 ≠ bn_5 := Nat.ne_of_lt (Nat.lt_of_lt_of_le A3.lt P5_2)
      have g_bn_5 : n0 ≤ bn_5 := Nat.le_trans Z3 P5_2
      have ne_b1_ch_5 : b1 ≠ ch_5 := Nat.ne_of_lt (Nat.lt_of_lt_of_le Q1_6.lt P5_3)
      have ne_b2_ch_5 : b2 ≠ ch_5 := Nat.ne_of_lt (Nat.lt_of_lt_of_le Q2_7.lt P5_3)
      have ne_b3_ch_5 : b3 ≠ ch_5 := Nat.ne_of_lt (Nat.lt_of_lt_of_le A3.lt P5_3)
      have g_ch_5 : n0 ≤ ch_5 := Nat.le_trans Z3 P5_3
      have ne_b1_ky_5 : b1 ≠ ky_5 := Nat.ne_of_lt (Nat.lt_of_lt_of_le Q1_6.lt P5_4)
      have ne_b2_ky_5 : b2 ≠ ky_5 := Nat.ne_of_lt (Nat.lt_of_lt_of_le Q2_7.lt P5_4)
      have ne_b3_ky_5 : b3 ≠ ky_5 := Nat.ne_of_lt (Nat.lt_of_lt_of_le A3.lt P5_4)
      have g_ky_5 : n0 ≤ ky_5 := Nat.le_trans Z3 P5_4
      have ne_b1_mv_5 : b1 ≠ mv_5 := Nat.ne_of_lt (Nat.lt_of_lt_of_le Q1_6.lt P5_5)
      have ne_b2_mv_5 : b2 ≠ mv_5 := Nat.ne_of_lt (Nat.lt_of_lt_of_le Q2_7.lt P5_5)
      have ne_b3_mv_5 : b3 ≠ mv_5 := Nat.ne_of_lt (Nat.lt_of_lt_of_le A3.lt P5_5)
      have g_mv_5 : n0 ≤ mv_5 := Nat.le_trans Z3 P5_5
      have ne_b1_tr_5 : b1 ≠ tr_5 := Nat.ne_of_lt (Nat.lt_of_lt_of_le Q1_6.lt P5_6)
      have ne_b2_tr_5 : b2 ≠ tr_5 := Nat.ne_of_lt (Nat.lt_of_lt_of_le Q2_7.lt P5_6)
      have ne_b3_tr_5 : b3 ≠ tr_5 := Nat.ne_of_lt (Nat.lt_of_lt_of_le A3.lt P5_6)
      have g_tr_5 : n0 ≤ tr_5 := Nat.le_trans Z3 P5_6
      have ne_b1_fr_5 : b1 ≠ fr_5 := Nat.ne_of_lt (Nat.lt_of_lt_of_le Q1_6.lt P5_7)
      have ne_b2_fr_5 : b2 ≠ fr_5 := Nat.ne_of_lt (Nat.lt_of_lt_of_le Q2_7.lt P5_7)
      have ne_b3_fr_5 : b3 ≠ fr_5 := Nat.ne_of_lt (Nat.lt_of_lt_of_le A3.lt P5_7)
      have g_fr_5 : n0 ≤ fr_5 := Nat.le_trans Z3 P5_7
      have ne_b1_tg_5 : b1 ≠ tg_5 := Nat.ne_of_lt (Nat.lt_of_lt_of_le Q1_6.lt P5_8)
      have ne_b2_tg_5 : b2 ≠ tg_5 := Nat.ne_of_lt (Nat.lt_of_lt_of_le Q2_7.lt P5_8)
      have ne_b3_tg_5 : b3 ≠ tg_5 := Nat.ne_of_lt (Nat.lt_of_lt_of_le A3.lt P5_8)
      have g_tg_5 : n0 ≤ tg_5 := Nat.le_trans Z3 P5_8
      have ne_b1_sd_5 : b1 ≠ sd_5 := Nat.ne_of_lt (Nat.lt_of_lt_of_le Q1_6.lt P5_9)
      have ne_b2_sd_5 : b2 ≠ sd_5 := Nat.ne_of_lt (Nat.lt_of_lt_of_le Q2_7.lt P5_9)
      have ne_b3_sd_5 : b3 ≠ sd_5 := Nat.ne_of_lt (Nat.lt_of_lt_of_le A3.lt P5_9)
      have g_sd_5 : n0 ≤ sd_5 := Nat.le_trans Z3 P5_9
      have Z5 : n0 ≤ hp5.size := Nat.le_trans Z3 K5.1
      have N5 := Fr.app N0 Nq5
      replace K : OGo p e below A0 T5 (mkF m 59 #[iv p1, iv p2, iv p3, iv p4, iv 0, iv 0, iv l1, iv l2, rv b1, rv b2, .unset, .unset, .unset] [(.ref b3)]) := fun t k => K t (st5.trans k)
      replace K : OGo p e below A0 T5 (mkF m 61 #[iv p1, iv p2, iv p3, iv p4, iv 0, iv 0, iv l1, iv l2, rv b1, rv b2, rv b3, .unset, .unset] []) := fun t k => K t (XS.astore X5.here hx rfl (hb hby at_59) rfl rfl (l' := #[iv p1, iv p2, iv p3, iv p4, iv 0, iv 0, iv l1, iv l2, rv b1, rv b2, rv b3, .unset, .unset]) rfl k)
      replace K : OGo p e below A0 T5 (mkF m 62 #[iv p1, iv p2, iv p3, iv p4, iv 0, iv 0, iv l1, iv l2, rv b1, rv b2, rv b3, .unset, .unset] [(.int 0)]) := fun t k => K t (XS.iconst X5.here hx rfl (hb hby at_61) k)
      replace K : OGo p e below A0 T5 (mkF m 64 #[iv p1, iv p2, iv p3, iv p4, iv 0, iv 0, iv l1, iv l2, rv b1, rv b2, rv b3, iv 0, .unset] []) := fun t k => K t (XS.istore X5.here hx rfl (hb hby at_62) rfl (l' := #[iv p1, iv p2, iv p3, iv p4, iv 0, iv 0, iv l1, iv l2, rv b1, rv b2, rv b3, iv 0, .unset]) rfl k)
      replace K : OGo p e below A0 T5 (mkF m 66 #[iv p1, iv p2, iv p3, iv p4, iv 0, iv 0, iv l1, iv l2, rv b1, rv b2, rv b3, iv 0, .unset] [(.int 0)]) := fun t k => K t (XS.iload X5.here hx rfl (hb hby at_64) rfl k)
      replace K : OGo p e below A0 T5 (mkF m 79 #[iv p1, iv p2, iv p3, iv p4, iv 0, iv 0, iv l1, iv l2, rv b1, rv b2, rv b3, iv 0, .unset] []) := fun t k => K t (XS.ifYes X5.here hx rfl (pc0 := 66) (pc' := 79) rfl (hb hby at_66) rfl ((if0 _ _).trans (teq ((by decide : (0 : Int32) = (0 : Int32)) : (0 : Int32) = (0 : Int32))).1) (by decide) (by decide) k)
      replace K : OGo p e below A0 T5 (mkF m 81 #[iv p1, iv p2, iv p3, iv p4, iv 0, iv 0, iv l1, iv l2, rv b1, rv b2, rv b3, iv 0, .unset] [(.ref b3)]) := fun t k => K t (XS.aload X5.here hx rfl (hb hby at_79) rfl rfl k)
      replace K : OGo p e below A0 T5 (mkF m 82 #[iv p1, iv p2, iv p3, iv p4, iv 0, iv 0, iv l1, iv l2, rv b1, rv b2, rv b3, iv 0, .unset] [(.int 1), (.ref b3)]) := fun t k => K t (XS.iconst X5.here hx rfl (hb hby at_81) k)
      replace K : OGo p e below A0 T5 (mkF m 83 #[iv p1, iv p2, iv p3, iv p4, iv 0, iv 0, iv l1, iv l2, rv b1, rv b2, rv b3, iv 0, .unset] [(.int 2), (.int 1), (.ref b3)]) := fun t k => K t (XS.iconst X5.here hx rfl (hb hby at_82) k)
      replace K : OGo p e below A0 T5 (mkF m 84 #[iv p1, iv p2, iv p3, iv p4, iv 0, iv 0, iv l1, iv l2, rv b1, rv b2, rv b3, iv 0, .unset] [(.int 3), (.int 2), (.int 1), (.ref b3)]) := fun t k => K t (XS.iconst X5.here hx rfl (hb hby at_83) k)
      replace K : OGo p e below A0 T5 (mkF m 85 #[iv p1, iv p2, iv p3, iv p4, iv 0, iv 0, iv l1, iv l2, rv b1, rv b2, rv b3, iv 0, .unset] [(.int 0), (.int 3), (.int 2), (.int 1), (.ref b3)]) := fun t k => K t (XS.iconst X5.here hx rfl (hb hby at_84) k)
      replace K : OGo p e below A0 T5 (mkF m 87 #[iv p1, iv p2, iv p3, iv p4, iv 0, iv 0, iv l1, iv l2, rv b1, rv b2, rv b3, iv 0, .unset] [(.ref b1), (.int 0), (.int 3), (.int 2), (.int 1), (.ref b3)]) := fun t k => K t (XS.aload X5.here hx rfl (hb hby at_85) rfl rfl k)
      replace K : OGo p e below A0 T5 (mkF m 88 #[iv p1, iv p2, iv p3, iv p4, iv 0, iv 0, iv l1, iv l2, rv b1, rv b2, rv b3, iv 0, .unset] [.null, (.ref b1), (.int 0), (.int 3), (.int 2), (.int 1), (.ref b3)]) := fun t k => K t (XS.aconstNull X5.here hx rfl (hb hby at_87) k)
      replace K : OGo p e below A0 T5 (mkF m 91 #[iv p1, iv p2, iv p3, iv p4, iv 0, iv 0, iv l1, iv l2, rv b1, rv b2, rv b3, iv 0, .unset] [(.long 5), .null, (.ref b1), (.int 0), (.int 3), (.int 2), (.int 1), (.ref b3)]) := fun t k => K t (X5.ldc2Long hx hown (mvT hZ (ow hw 52 rfl)) (g := (mkF m 88 #[iv p1, iv p2, iv p3, iv p4, iv 0, iv 0, iv l1, iv l2, rv b1, rv b2, rv b3, iv 0, .unset] [.null, (.ref b1), (.int 0), (.int 3), (.int 2), (.int 1), (.ref b3)])) rfl (hb hby at_88) t k)
      replace K : OGo p e below A0 T5 (mkF m 92 #[iv p1, iv p2, iv p3, iv p4, iv 0, iv 0, iv l1, iv l2, rv b1, rv b2, rv b3, iv 0, .unset] [.null, (.long 5), .null, (.ref b1), (.int 0), (.int 3), (.int 2), (.int 1), (.ref b3)]) := fun t k => K t (XS.aconstNull X5.here hx rfl (hb hby at_91) k)
      have V_b1_9 := (((V_b1.ext E2).ext E3).keep K5 (ninS ne_b1_b3 nin0))
      have Q1_10 := (Q1_6.keep K5)
      have nd11 : OND [b3, ac_5, ix_5, bn_5, ch_5, ky_5, mv_5, tr_5, fr_5, tg_5, sd_5, b1] := (ondS (allS ne_b3_ac_5 (allS ne_b3_ix_5 (allS ne_b3_bn_5 (allS ne_b3_ch_5 (allS ne_b3_ky_5 (allS ne_b3_mv_5 (allS ne_b3_tr_5 (allS ne_b3_fr_5 (allS ne_b3_tg_5 (allS ne_b3_sd_5 (allS (Ne.symm ne_b1_b3) all0))))))))))) (ondS (allS (own_pw P5_10 0 1 (by decide) rfl rfl) (allS (own_pw P5_10 0 2 (by decide) rfl rfl) (allS (own_pw P5_10 0 3 (by decide) rfl rfl) (allS (own_pw P5_10 0 4 (by decide) rfl rfl) (allS (own_pw P5_10 0 5 (by decide) rfl rfl) (allS (own_pw P5_10 0 6 (by decide) rfl rfl) (allS (own_pw P5_10 0 7 (by decide) rfl rfl) (allS (own_pw P5_10 0 8 (by decide) rfl rfl) (allS (own_pw P5_10 0 9 (by decide) rfl rfl) (allS (Ne.symm ne_b1_ac_5) all0)))))))))) (ondS (allS (own_pw P5_10 1 2 (by decide) rfl rfl) (allS (own_pw P5_10 1 3 (by decide) rfl rfl) (allS (own_pw P5_10 1 4 (by decide) rfl rfl) (allS (own_pw P5_10 1 5 (by decide) rfl rfl) (allS (own_pw P5_10 1 6 (by decide) rfl rfl) (allS (own_pw P5_10 1 7 (by decide) rfl rfl) (allS (own_pw P5_10 1 8 (by decide) rfl rfl) (allS (own_pw P5_10 1 9 (by decide) rfl rfl) (allS (Ne.symm ne_b1_ix_5) all0))))))))) (ondS (allS (own_pw P5_10 2 3 (by decide) rfl rfl) (allS (own_pw P5_10 2 4 (by decide) rfl rfl) (allS (own_pw P5_10 2 5 (by decide) rfl rfl) (allS (own_pw P5_10 2 6 (by decide) rfl rfl) (allS (own_pw P5_10 2 7 (by decide) rfl rfl) (allS (own_pw P5_10 2 8 (by decide) rfl rfl) (allS (own_pw P5_10 2 9 (by decide) rfl rfl) (allS (Ne.symm ne_b1_bn_5) all0)))))))) (ondS (allS (own_pw P5_10 3 4 (by decide) rfl rfl) (allS (own_pw P5_10 3 5 (by decide) rfl rfl) (allS (own_pw P5_10 3 6 (by decide) rfl rfl) (allS (own_pw P5_10 3 7 (by decide) rfl rfl) (allS (own_pw P5_10 3 8 (by decide) rfl rfl) (allS (own_pw P5_10 3 9 (by decide) rfl rfl) (allS (Ne.symm ne_b1_ch_5) all0))))))) (ondS (allS (own_pw P5_10 4 5 (by decide) rfl rfl) (allS (own_pw P5_10 4 6 (by decide) rfl rfl) (allS (own_pw P5_10 4 7 (by decide) rfl rfl) (allS (own_pw P5_10 4 8 (by decide) rfl rfl) (allS (own_pw P5_10 4 9 (by decide) rfl rfl) (allS (Ne.symm ne_b1_ky_5) all0)))))) (ondS (allS (own_pw P5_10 5 6 (by decide) rfl rfl) (allS (own_pw P5_10 5 7 (by decide) rfl rfl) (allS (own_pw P5_10 5 8 (by decide) rfl rfl) (allS (own_pw P5_10 5 9 (by decide) rfl rfl) (allS (Ne.symm ne_b1_mv_5) all0))))) (ondS (allS (own_pw P5_10 6 7 (by decide) rfl rfl) (allS (own_pw P5_10 6 8 (by decide) rfl rfl) (allS (own_pw P5_10 6 9 (by decide) rfl rfl) (allS (Ne.symm ne_b1_tr_5) all0)))) (ondS (allS (own_pw P5_10 7 8 (by decide) rfl rfl) (allS (own_pw P5_10 7 9 (by decide) rfl rfl) (allS (Ne.symm ne_b1_fr_5) all0))) (ondS (allS (own_pw P5_10 8 9 (by decide) rfl rfl) (allS (Ne.symm ne_b1_tg_5) all0)) (ondS (allS (Ne.symm ne_b1_sd_5) all0) (ondS all0 ond0))))))))))))
      obtain ⟨cq8, kq8, qv8a, qv8b, qv8c⟩ := isOf hZ e5 P5_12
      obtain ⟨_, _, ⟨T8, L8, k8, n8⟩, -, X8, ⟨Lc8, hQ8, l8, y8, z8⟩, st8⟩ := X5.virtualBack hx (y := mN3) (z := mN3) hown (mvT hZ (ow hw 53 rfl)) (mvT hZ (ow hw 54 rfl)) (notFace_of_selects (args := #[]) (mvT hZ (ow hw 56 rfl))) (mvT hZ (ow hw 56 rfl)) (mvT hZ (ow hw 55 rfl)) (by decide) (backOf (W := 0) (rm_add0 l Z a0 hw [] b3 (1 : Int32) (2 : Int32) (3 : Int32) (0 : Int32) b1 (5 : Int64) ac_5 ix_5 bn_5 ch_5 ky_5 mv_5 tr_5 fr_5 tg_5 sd_5 k_ac_5 k_ix_5 k_bn_5 k_ch_5 k_ky_5 k_mv_5 k_tr_5 k_fr_5 (.int (0 : Int32)) (.int (0 : Int32)) (.int (0 : Int32)) (.int (0 : Int32)) (.int (0 : Int32)) (.int (0 : Int32)) (.int (0 : Int32)) (.int (0 : Int32)) (.int (0 : Int32)) (.int (0 : Int32)) (.int (0 : Int32)) (.int (0 : Int32)) .null .null .null .null .null .null .null .null .null (.long (0 : Int64)) (.long (0 : Int64)) (.long (0 : Int64)) (List.replicate l1.toNatClampNeg (.int (0 : Int32))) k1 l1 (0 : Int32) (0 : Int64) hp5 n0 Z5 P5_12 P5_13 P5_14 P5_15 P5_16 P5_17 P5_18 P5_19 P5_20 P5_21 P5_22 P5_23 P5_24 P5_25 P5_26 P5_27 P5_28 P5_29 P5_30 P5_31 P5_32 P5_33 V_b1_9 Q1_10 (own_rl hl1 _) P5_11 g_b3 g_ac_5 g_ix_5 g_bn_5 g_ch_5 g_ky_5 g_mv_5 g_tr_5 g_fr_5 nd11) hZ (ow hw 57 rfl) (ow hw 3 rfl) (by decide) (by decide)) qv8a qv8c (g := (mkF m 92 #[iv p1, iv p2, iv p3, iv p4, iv 0, iv 0, iv l1, iv l2, rv b1, rv b2, rv b3, iv 0, .unset] [.null, (.long 5), .null, (.ref b1), (.int 0), (.int 3), (.int 2), (.int 1), (.ref b3)])) rfl (by rw [hml]; rfl) (Steps.refl _) (argsL := [(.int (1 : Int32)), (.int (2 : Int32)), (.int (3 : Int32)), (.int (0 : Int32)), (.ref b1), .null, (.long (5 : Int64)), .null]) (rest := []) (lenOf pd__IIIZ_BLcom_example_flote_flote_search_Search_Moves_JLcom_example_flote_flote_search_Search_Branches__V rfl) rfl (by show 2 * 0 + _ ≤ _; exact Nat.le_of_eq rfl) (hb hby at_92) (fun _ _ => ⟨rfl, e5, (by decide : 13 + 0 ≤ _), (by decide : 203 + 0 ≤ _)⟩)
      dsimp only [Pt.U, Pt.locs, Pt.cells, Pt.slots] at X8 l8 y8 z8 st8 hQ8
      subst l8 y8 z8
      obtain ⟨hp8, e8⟩ : ∃ z, T8.heap = z := ⟨_, rfl⟩
      rw [e8] at hQ8
      obtain ⟨rfl, Nq8, K8, P8_0, P8_1, P8_2, P8_3, P8_4, P8_5, P8_6, P8_7, P8_8, P8_9, P8_10, P8_11, P8_12, P8_13, P8_14, P8_15, P8_16, P8_17, P8_18, P8_19, P8_20, P8_21⟩ := hQ8
      have Z8 : n0 ≤ hp8.size := Nat.le_trans Z5 K8.1
      have N8 := Fr.app N5 Nq8
      replace K : OGo p e below A0 T8 (mkF m 95 #[iv p1, iv p2, iv p3, iv p4, iv 0, iv 0, iv l1, iv l2, rv b1, rv b2, rv b3, iv 0, .unset] []) := fun t k => K t (st8.trans k)
      replace K : OGo p e below A0 T8 (mkF m 97 #[iv p1, iv p2, iv p3, iv p4, iv 0, iv 0, iv l1, iv l2, rv b1, rv b2, rv b3, iv 0, .unset] [(.ref b3)]) := fun t k => K t (XS.aload X8.here hx rfl (hb hby at_95) rfl rfl k)
      replace K : OGo p e below A0 T8 (mkF m 98 #[iv p1, iv p2, iv p3, iv p4, iv 0, iv 0, iv l1, iv l2, rv b1, rv b2, rv b3, iv 0, .unset] [(.int 4), (.ref b3)]) := fun t k => K t (XS.iconst X8.here hx rfl (hb hby at_97) k)
      replace K : OGo p e below A0 T8 (mkF m 99 #[iv p1, iv p2, iv p3, iv p4, iv 0, iv 0, iv l1, iv l2, rv b1, rv b2, rv b3, iv 0, .unset] [(.int 5), (.int 4), (.ref b3)]) := fun t k => K t (XS.iconst X8.here hx rfl (hb hby at_98) k)
      replace K : OGo p e below A0 T8 (mkF m 101 #[iv p1, iv p2, iv p3, iv p4, iv 0, iv 0, iv l1, iv l2, rv b1, rv b2, rv b3, iv 0, .unset] [(.int 6), (.int 5), (.int 4), (.ref b3)]) := fun t k => K t (XS.bipush X8.here hx rfl (hb hby at_99) k)
      replace K : OGo p e below A0 T8 (mkF m 102 #[iv p1, iv p2, iv p3, iv p4, iv 0, iv 0, iv l1, iv l2, rv b1, rv b2, rv b3, iv 0, .unset] [(.int 1), (.int 6), (.int 5), (.int 4), (.ref b3)]) := fun t k => K t (XS.iconst X8.here hx rfl (hb hby at_101) k)
      replace K : OGo p e below A0 T8 (mkF m 104 #[iv p1, iv p2, iv p3, iv p4, iv 0, iv 0, iv l1, iv l2, rv b1, rv b2, rv b3, iv 0, .unset] [(.ref b2), (.int 1), (.int 6), (.int 5), (.int 4), (.ref b3)]) := fun t k => K t (XS.aload X8.here hx rfl (hb hby at_102) rfl rfl k)
      replace K : OGo p e below A0 T8 (mkF m 105 #[iv p1, iv p2, iv p3, iv p4, iv 0, iv 0, iv l1, iv l2, rv b1, rv b2, rv b3, iv 0, .unset] [.null, (.ref b2), (.int 1), (.int 6), (.int 5), (.int 4), (.ref b3)]) := fun t k => K t (XS.aconstNull X8.here hx rfl (hb hby at_104) k)
      replace K : OGo p e below A0 T8 (mkF m 108 #[iv p1, iv p2, iv p3, iv p4, iv 0, iv 0, iv l1, iv l2, rv b1, rv b2, rv b3, iv 0, .unset] [(.long 7), .null, (.ref b2), (.int 1), (.int 6), (.int 5), (.int 4), (.ref b3)]) := fun t k => K t (X8.ldc2Long hx hown (mvT hZ (ow hw 61 rfl)) (g := (mkF m 105 #[iv p1, iv p2, iv p3, iv p4, iv 0, iv 0, iv l1, iv l2, rv b1, rv b2, rv b3, iv 0, .unset] [.null, (.ref b2), (.int 1), (.int 6), (.int 5), (.int 4), (.ref b3)])) rfl (hb hby at_105) t k)
      replace K : OGo p e below A0 T8 (mkF m 109 #[iv p1, iv p2, iv p3, iv p4, iv 0, iv 0, iv l1, iv l2, rv b1, rv b2, rv b3, iv 0, .unset] [.null, (.long 7), .null, (.ref b2), (.int 1), (.int 6), (.int 5), (.int 4), (.ref b3)]) := fun t k => K t (XS.aconstNull X8.here hx rfl (hb hby at_108) k)
      have V_b2_13 := (((V_b2.ext E3).keep K5 (ninS ne_b2_b3 nin0)).keep K8 (ninS ne_b2_b3 (ninS ne_b2_ac_5 (ninS ne_b2_ix_5 (ninS ne_b2_bn_5 (ninS ne_b2_ch_5 (ninS ne_b2_ky_5 (ninS ne_b2_mv_5 (ninS ne_b2_tr_5 (ninS ne_b2_fr_5 nin0))))))))))
      have Q2_14 := ((Q2_7.keep K5).keep K8)
      have nd15 : OND [b3, ac_5, ix_5, bn_5, ch_5, ky_5, mv_5, tr_5, fr_5, tg_5, sd_5, b2] := (ondS (allS ne_b3_ac_5 (allS ne_b3_ix_5 (allS ne_b3_bn_5 (allS ne_b3_ch_5 (allS ne_b3_ky_5 (allS ne_b3_mv_5 (allS ne_b3_tr_5 (allS ne_b3_fr_5 (allS ne_b3_tg_5 (allS ne_b3_sd_5 (allS (Ne.symm ne_b2_b3) all0))))))))))) (ondS (allS (own_pw P5_10 0 1 (by decide) rfl rfl) (allS (own_pw P5_10 0 2 (by decide) rfl rfl) (allS (own_pw P5_10 0 3 (by decide) rfl rfl) (allS (own_pw P5_10 0 4 (by decide) rfl rfl) (allS (own_pw P5_10 0 5 (by decide) rfl rfl) (allS (own_pw P5_10 0 6 (by decide) rfl rfl) (allS (own_pw P5_10 0 7 (by decide) rfl rfl) (allS (own_pw P5_10 0 8 (by decide) rfl rfl) (allS (own_pw P5_10 0 9 (by decide) rfl rfl) (allS (Ne.symm ne_b2_ac_5) all0)))))))))) (ondS (allS (own_pw P5_10 1 2 (by decide) rfl rfl) (allS (own_pw P5_10 1 3 (by decide) rfl rfl) (allS (own_pw P5_10 1 4 (by decide) rfl rfl) (allS (own_pw P5_10 1 5 (by decide) rfl rfl) (allS (own_pw P5_10 1 6 (by decide) rfl rfl) (allS (own_pw P5_10 1 7 (by decide) rfl rfl) (allS (own_pw P5_10 1 8 (by decide) rfl rfl) (allS (own_pw P5_10 1 9 (by decide) rfl rfl) (allS (Ne.symm ne_b2_ix_5) all0))))))))) (ondS (allS (own_pw P5_10 2 3 (by decide) rfl rfl) (allS (own_pw P5_10 2 4 (by decide) rfl rfl) (allS (own_pw P5_10 2 5 (by decide) rfl rfl) (allS (own_pw P5_10 2 6 (by decide) rfl rfl) (allS (own_pw P5_10 2 7 (by decide) rfl rfl) (allS (own_pw P5_10 2 8 (by decide) rfl rfl) (allS (own_pw P5_10 2 9 (by decide) rfl rfl) (allS (Ne.symm ne_b2_bn_5) all0)))))))) (ondS (allS (own_pw P5_10 3 4 (by decide) rfl rfl) (allS (own_pw P5_10 3 5 (by decide) rfl rfl) (allS (own_pw P5_10 3 6 (by decide) rfl rfl) (allS (own_pw P5_10 3 7 (by decide) rfl rfl) (allS (own_pw P5_10 3 8 (by decide) rfl rfl) (allS (own_pw P5_10 3 9 (by decide) rfl rfl) (allS (Ne.symm ne_b2_ch_5) all0))))))) (ondS (allS (own_pw P5_10 4 5 (by decide) rfl rfl) (allS (own_pw P5_10 4 6 (by decide) rfl rfl) (allS (own_pw P5_10 4 7 (by decide) rfl rfl) (allS (own_pw P5_10 4 8 (by decide) rfl rfl) (allS (own_pw P5_10 4 9 (by decide) rfl rfl) (allS (Ne.symm ne_b2_ky_5) all0)))))) (ondS (allS (own_pw P5_10 5 6 (by decide) rfl rfl) (allS (own_pw P5_10 5 7 (by decide) rfl rfl) (allS (own_pw P5_10 5 8 (by decide) rfl rfl) (allS (own_pw P5_10 5 9 (by decide) rfl rfl) (allS (Ne.symm ne_b2_mv_5) all0))))) (ondS (allS (own_pw P5_10 6 7 (by decide) rfl rfl) (allS (own_pw P5_10 6 8 (by decide) rfl rfl) (allS (own_pw P5_10 6 9 (by decide) rfl rfl) (allS (Ne.symm ne_b2_tr_5) all0)))) (ondS (allS (own_pw P5_10 7 8 (by decide) rfl rfl) (allS (own_pw P5_10 7 9 (by decide) rfl rfl) (allS (Ne.symm ne_b2_fr_5) all0))) (ondS (allS (own_pw P5_10 8 9 (by decide) rfl rfl) (allS (Ne.symm ne_b2_tg_5) all0)) (ondS (allS (Ne.symm ne_b2_sd_5) all0) (ondS all0 ond0))))))))))))
      obtain ⟨cq12, kq12, qv12a, qv12b, qv12c⟩ := isOf hZ e8 P8_0
      obtain ⟨_, _, ⟨T12, L12, k12, n12⟩, -, X12, ⟨Lc12, hQ12, l12, y12, z12⟩, st12⟩ := X8.virtualBack hx (y := mN3) (z := mN3) hown (mvT hZ (ow hw 53 rfl)) (mvT hZ (ow hw 54 rfl)) (notFace_of_selects (args := #[]) (mvT hZ (ow hw 56 rfl))) (mvT hZ (ow hw 56 rfl)) (mvT hZ (ow hw 55 rfl)) (by decide) (backOf (W := 0) (rm_add1 l Z a0 hw [] b3 (4 : Int32) (5 : Int32) (6 : Int32) (1 : Int32) b2 (7 : Int64) ac_5 ix_5 bn_5 ch_5 ky_5 mv_5 tr_5 fr_5 tg_5 sd_5 k_ac_5 k_ix_5 k_bn_5 k_ch_5 k_ky_5 k_mv_5 k_tr_5 k_fr_5 (.int (1 : Int32)) (.int (0 : Int32)) (.int (0 : Int32)) (.int (2 : Int32)) (.int (0 : Int32)) (.int (0 : Int32)) (.int (3 : Int32)) (.int (0 : Int32)) (.int (0 : Int32)) (.int (nar .boolean (0 : Int32))) (.int (0 : Int32)) (.int (0 : Int32)) (.ref b1) .null .null .null .null .null .null .null .null (.long (5 : Int64)) (.long (0 : Int64)) (.long (0 : Int64)) (List.replicate l2.toNatClampNeg (.int (0 : Int32))) k2 l2 (0 : Int32) ((0 : Int64) + ((l1 + (1 : Int32)).toInt64)) hp8 n0 Z8 P8_0 P8_1 P8_2 P8_3 P8_4 P8_5 P8_6 P8_7 P8_8 P8_9 P8_10 P8_11 P8_12 P8_13 P8_14 P8_15 P8_16 P8_17 P8_18 P8_19 P8_20 P8_21 V_b2_13 Q2_14 (own_rl hl2 _) P5_11 g_b3 g_ac_5 g_ix_5 g_bn_5 g_ch_5 g_ky_5 g_mv_5 g_tr_5 g_fr_5 nd15) hZ (ow hw 57 rfl) (ow hw 3 rfl) (by decide) (by decide)) qv12a qv12c (g := (mkF m 109 #[iv p1, iv p2, iv p3, iv p4, iv 0, iv 0, iv l1, iv l2, rv b1, rv b2, rv b3, iv 0, .unset] [.null, (.long 7), .null, (.ref b2), (.int 1), (.int 6), (.int 5), (.int 4), (.ref b3)])) rfl (by rw [hml]; rfl) (Steps.refl _) (argsL := [(.int (4 : Int32)), (.int (5 : Int32)), (.int (6 : Int32)), (.int (1 : Int32)), (.ref b2), .null, (.long (7 : Int64)), .null]) (rest := []) (lenOf pd__IIIZ_BLcom_example_flote_flote_search_Search_Moves_JLcom_example_flote_flote_search_Search_Branches__V rfl) rfl (by show 2 * 0 + _ ≤ _; exact Nat.le_of_eq rfl) (hb hby at_109) (fun _ _ => ⟨rfl, e8, (by decide : 13 + 0 ≤ _), (by decide : 203 + 0 ≤ _)⟩)
      dsimp only [Pt.U, Pt.locs, Pt.cells, Pt.slots] at X12 l12 y12 z12 st12 hQ12
      subst l12 y12 z12
      obtain ⟨hp12, e12⟩ : ∃ z, T12.heap = z := ⟨_, rfl⟩
      rw [e12] at hQ12
      obtain ⟨rfl, Nq12, K12, P12_0, P12_1, P12_2, P12_3, P12_4, P12_5, P12_6, P12_7, P12_8, P12_9, P12_10, P12_11, P12_12, P12_13, P12_14, P12_15, P12_16, P12_17, P12_18, P12_19, P12_20, P12_21⟩ := hQ12
      have Z12 : n0 ≤ hp12.size := Nat.le_trans Z8 K12.1
      have N12 := Fr.app N8 Nq12
      replace K : OGo p e below A0 T12 (mkF m 112 #[iv p1, iv p2, iv p3, iv p4, iv 0, iv 0, iv l1, iv l2, rv b1, rv b2, rv b3, iv 0, .unset] []) := fun t k => K t (st12.trans k)
      replace K : OGo p e below A0 T12 (mkF m 114 #[iv p1, iv p2, iv p3, iv p4, iv 0, iv 0, iv l1, iv l2, rv b1, rv b2, rv b3, iv 0, .unset] [(.ref b3)]) := fun t k => K t (XS.aload X12.here hx rfl (hb hby at_112) rfl rfl k)
      replace K : OGo p e below A0 T12 (mkF m 115 #[iv p1, iv p2, iv p3, iv p4, iv 0, iv 0, iv l1, iv l2, rv b1, rv b2, rv b3, iv 0, .unset] [(.int p1), (.ref b3)]) := fun t k => K t (XS.iloadN X12.here hx rfl (hb hby at_114) rfl k)
      replace K : OGo p e below A0 T12 (mkF m 117 #[iv p1, iv p2, iv p3, iv p4, iv 0, iv 0, iv l1, iv l2, rv b1, rv b2, rv b3, iv 0, .unset] [(.int 0), (.int p1), (.ref b3)]) := fun t k => K t (XS.iload X12.here hx rfl (hb hby at_115) rfl k)
      have V_tg_5_17 := ((P5_34.keep K8 (ninS (Ne.symm ne_b3_tg_5) (ninS (Ne.symm (own_pw P5_10 0 8 (by decide) rfl rfl)) (ninS (Ne.symm (own_pw P5_10 1 8 (by decide) rfl rfl)) (ninS (Ne.symm (own_pw P5_10 2 8 (by decide) rfl rfl)) (ninS (Ne.symm (own_pw P5_10 3 8 (by decide) rfl rfl)) (ninS (Ne.symm (own_pw P5_10 4 8 (by decide) rfl rfl)) (ninS (Ne.symm (own_pw P5_10 5 8 (by decide) rfl rfl)) (ninS (Ne.symm (own_pw P5_10 6 8 (by decide) rfl rfl)) (ninS (Ne.symm (own_pw P5_10 7 8 (by decide) rfl rfl)) nin0)))))))))).keep K12 (ninS (Ne.symm ne_b3_tg_5) (ninS (Ne.symm (own_pw P5_10 0 8 (by decide) rfl rfl)) (ninS (Ne.symm (own_pw P5_10 1 8 (by decide) rfl rfl)) (ninS (Ne.symm (own_pw P5_10 2 8 (by decide) rfl rfl)) (ninS (Ne.symm (own_pw P5_10 3 8 (by decide) rfl rfl)) (ninS (Ne.symm (own_pw P5_10 4 8 (by decide) rfl rfl)) (ninS (Ne.symm (own_pw P5_10 5 8 (by decide) rfl rfl)) (ninS (Ne.symm (own_pw P5_10 6 8 (by decide) rfl rfl)) (ninS (Ne.symm (own_pw P5_10 7 8 (by decide) rfl rfl)) nin0))))))))))
      have V_sd_5_18 := ((P5_35.keep K8 (ninS (Ne.symm ne_b3_sd_5) (ninS (Ne.symm (own_pw P5_10 0 9 (by decide) rfl rfl)) (ninS (Ne.symm (own_pw P5_10 1 9 (by decide) rfl rfl)) (ninS (Ne.symm (own_pw P5_10 2 9 (by decide) rfl rfl)) (ninS (Ne.symm (own_pw P5_10 3 9 (by decide) rfl rfl)) (ninS (Ne.symm (own_pw P5_10 4 9 (by decide) rfl rfl)) (ninS (Ne.symm (own_pw P5_10 5 9 (by decide) rfl rfl)) (ninS (Ne.symm (own_pw P5_10 6 9 (by decide) rfl rfl)) (ninS (Ne.symm (own_pw P5_10 7 9 (by decide) rfl rfl)) nin0)))))))))).keep K12 (ninS (Ne.symm ne_b3_sd_5) (ninS (Ne.symm (own_pw P5_10 0 9 (by decide) rfl rfl)) (ninS (Ne.symm (own_pw P5_10 1 9 (by decide) rfl rfl)) (ninS (Ne.symm (own_pw P5_10 2 9 (by decide) rfl rfl)) (ninS (Ne.symm (own_pw P5_10 3 9 (by decide) rfl rfl)) (ninS (Ne.symm (own_pw P5_10 4 9 (by decide) rfl rfl)) (ninS (Ne.symm (own_pw P5_10 5 9 (by decide) rfl rfl)) (ninS (Ne.symm (own_pw P5_10 6 9 (by decide) rfl rfl)) (ninS (Ne.symm (own_pw P5_10 7 9 (by decide) rfl rfl)) nin0))))))))))
      have V_b1_19 := ((V_b1_9.keep K8 (ninS ne_b1_b3 (ninS ne_b1_ac_5 (ninS ne_b1_ix_5 (ninS ne_b1_bn_5 (ninS ne_b1_ch_5 (ninS ne_b1_ky_5 (ninS ne_b1_mv_5 (ninS ne_b1_tr_5 (ninS ne_b1_fr_5 nin0)))))))))).keep K12 (ninS ne_b1_b3 (ninS ne_b1_ac_5 (ninS ne_b1_ix_5 (ninS ne_b1_bn_5 (ninS ne_b1_ch_5 (ninS ne_b1_ky_5 (ninS ne_b1_mv_5 (ninS ne_b1_tr_5 (ninS ne_b1_fr_5 nin0))))))))))
      obtain ⟨cq16, kq16, qv16a, qv16b, qv16c⟩ := isOf hZ e12 P12_0
      obtain ⟨_, _, ⟨T16, L16, k16, n16⟩, -, X16, ⟨Lc16, hQ16, l16, y16, z16⟩, st16⟩ := X12.virtualBack hx (y := mN4) (z := mN4) hown (mvT hZ (ow hw 62 rfl)) (mvT hZ (ow hw 63 rfl)) (notFace_of_selects (args := #[]) (mvT hZ (ow hw 65 rfl))) (mvT hZ (ow hw 65 rfl)) (mvT hZ (ow hw 64 rfl)) (by decide) (backOf (W := 0) (rm_admit00 l Z a0 hw [] b3 p1 ac_5 ix_5 bn_5 ch_5 ky_5 mv_5 tr_5 fr_5 tg_5 sd_5 k_tg_5 k_sd_5 k_ky_5 k_tr_5 (.int (0 : Int32)) (.int (0 : Int32)) (.int (0 : Int32)) (.int (0 : Int32)) (.int (0 : Int32)) (.int (0 : Int32)) (.ref b2) .null .null .null .null b1 (List.replicate l1.toNatClampNeg (.int (0 : Int32))) k1 l1 (2 : Int32) (((0 : Int64) + ((l1 + (1 : Int32)).toInt64)) + ((l2 + (1 : Int32)).toInt64)) hp12 n0 Z12 P12_0 P12_1 P12_2 P12_3 P12_4 P12_5 P12_6 P12_7 P12_8 P12_9 P12_10 P12_11 P12_12 P12_13 V_tg_5_17 V_sd_5_18 P12_20 P12_18 V_b1_19 (own_rl hl1 _) g_b3 g_tg_5 g_sd_5 g_ky_5 g_tr_5 nd11) hZ (ow hw 66 rfl) (ow hw 3 rfl) (by decide) (by decide)) qv16a qv16c (g := (mkF m 117 #[iv p1, iv p2, iv p3, iv p4, iv 0, iv 0, iv l1, iv l2, rv b1, rv b2, rv b3, iv 0, .unset] [(.int 0), (.int p1), (.ref b3)])) rfl (by rw [hml]; rfl) (Steps.refl _) (argsL := [(.int p1), (.int (0 : Int32))]) (rest := []) (lenOf pd__IZ_V rfl) rfl (by show 2 * 0 + _ ≤ _; exact Nat.le_of_eq rfl) (hb hby at_117) (fun _ _ => ⟨rfl, e12, (by decide : 13 + 0 ≤ _), (by decide : 203 + 0 ≤ _)⟩)
      dsimp only [Pt.U, Pt.locs, Pt.cells, Pt.slots] at X16 l16 y16 z16 st16 hQ16
      subst l16 y16 z16
      obtain ⟨hp16, e16⟩ : ∃ z, T16.heap = z := ⟨_, rfl⟩
      rw [e16] at hQ16
      obtain ⟨rfl, Nq16, K16, P16_0, P16_1, P16_2, P16_3, P16_4, P16_5, P16_6, P16_7, P16_8, P16_9, P16_10, P16_11, P16_12, P16_13, P16_14, P16_15, P16_16, P16_17⟩ := hQ16
      have Z16 : n0 ≤ hp16.size := Nat.le_trans Z12 K16.1
      have N16 := Fr.app N12 Nq16
      replace K : OGo p e below A0 T16 (mkF m 120 #[iv p1, iv p2, iv p3, iv p4, iv 0, iv 0, iv l1, iv l2, rv b1, rv b2, rv b3, iv 0, .unset] []) := fun t k => K t (st16.trans k)
      replace K : OGo p e below A0 T16 (mkF m 122 #[iv p1, iv p2, iv p3, iv p4, iv 0, iv 0, iv l1, iv l2, rv b1, rv b2, rv b3, iv 0, .unset] [(.ref b3)]) := fun t k => K t (XS.aload X16.here hx rfl (hb hby at_120) rfl rfl k)
      obtain ⟨cq20, kq20, qv20a, qv20b, qv20c⟩ := isOf hZ e16 P16_0
      obtain ⟨_, _, ⟨T20, L20, k20, n20⟩, -, X20, ⟨Lc20, hQ20, l20, y20, z20⟩, st20⟩ := X16.virtualBack hx (y := mN5) (z := mN5) hown (mvT hZ (ow hw 67 rfl)) (mvT hZ (ow hw 68 rfl)) (notFace_of_selects (args := #[]) (mvT hZ (ow hw 70 rfl))) (mvT hZ (ow hw 70 rfl)) (mvT hZ (ow hw 69 rfl)) (by decide) (backOf (W := 0) (rm_admitted l Z a0 hw [] b3 (1 : Int32) hp16 n0 Z16 P16_12) hZ (ow hw 71 rfl) (ow hw 3 rfl) (by decide) (by decide)) qv20a qv20c (g := (mkF m 122 #[iv p1, iv p2, iv p3, iv p4, iv 0, iv 0, iv l1, iv l2, rv b1, rv b2, rv b3, iv 0, .unset] [(.ref b3)])) rfl (by rw [hml]; rfl) (Steps.refl _) (argsL := []) (rest := []) (lenOf pd___I rfl) rfl (by show 2 * 0 + _ ≤ _; exact Nat.le_of_eq rfl) (hb hby at_122) (fun _ _ => ⟨rfl, e16, (by decide : 13 + 0 ≤ _), (by decide : 203 + 0 ≤ _)⟩)
      dsimp only [Pt.U, Pt.locs, Pt.cells, Pt.slots] at X20 l20 y20 z20 st20 hQ20
      subst l20 y20 z20
      obtain ⟨rfl, Nq20, e20⟩ := hQ20
      have N20 := Fr.app N16 Nq20
      replace K : OGo p e below A0 T20 (mkF m 125 #[iv p1, iv p2, iv p3, iv p4, iv 0, iv 0, iv l1, iv l2, rv b1, rv b2, rv b3, iv 0, .unset] [(.int 1)]) := fun t k => K t (st20.trans k)
      replace K : OGo p e below A0 T20 (mkF m 127 #[iv p1, iv p2, iv p3, iv p4, iv 0, iv 0, iv l1, iv l2, rv b1, rv b2, rv b3, iv 0, .unset] [(.int 0), (.int 1)]) := fun t k => K t (XS.iload X20.here hx rfl (hb hby at_125) rfl k)
      replace K : OGo p e below A0 T20 (mkF m 128 #[iv p1, iv p2, iv p3, iv p4, iv 0, iv 0, iv l1, iv l2, rv b1, rv b2, rv b3, iv 0, .unset] [(.int 1), (.int 0), (.int 1)]) := fun t k => K t (XS.iconst X20.here hx rfl (hb hby at_127) k)
      replace K : OGo p e below A0 T20 (mkF m 129 #[iv p1, iv p2, iv p3, iv p4, iv 0, iv 0, iv l1, iv l2, rv b1, rv b2, rv b3, iv 0, .unset] [(.int 1), (.int 1)]) := fun t k => K t (XS.iadd X20.here hx rfl (hb hby at_128) rfl k)
      replace K : OGo p e below A0 T20 (mkF m 132 #[iv p1, iv p2, iv p3, iv p4, iv 0, iv 0, iv l1, iv l2, rv b1, rv b2, rv b3, iv 0, .unset] []) := fun t k => K t (XS.icmpNo X20.here hx rfl (hb hby at_129) rfl (teq ((by decide : (1 : Int32) = (1 : Int32)) : (1 : Int32) = (1 : Int32))).2 k)
      replace K : OGo p e below A0 T20 (mkF m 134 #[iv p1, iv p2, iv p3, iv p4, iv 0, iv 0, iv l1, iv l2, rv b1, rv b2, rv b3, iv 0, .unset] [(.ref b3)]) := fun t k => K t (XS.aload X20.here hx rfl (hb hby at_132) rfl rfl k)
      replace K : OGo p e below A0 T20 (mkF m 136 #[iv p1, iv p2, iv p3, iv p4, iv 0, iv 0, iv l1, iv l2, rv b1, rv b2, rv b3, iv 0, .unset] [(.int 0), (.ref b3)]) := fun t k => K t (XS.iload X20.here hx rfl (hb hby at_134) rfl k)
      obtain ⟨cq21, kq21, qv21a, qv21b, qv21c⟩ := isOf hZ e20 P16_0
      obtain ⟨_, _, ⟨T21, L21, k21, n21⟩, -, X21, ⟨Lc21, hQ21, l21, y21, z21⟩, st21⟩ := X20.virtualBack hx (y := mN7) (z := mN7) hown (mvT hZ (ow hw 72 rfl)) (mvT hZ (ow hw 73 rfl)) (notFace_of_selects (args := #[]) (mvT hZ (ow hw 75 rfl))) (mvT hZ (ow hw 75 rfl)) (mvT hZ (ow hw 74 rfl)) (by decide) (backOf (W := 0) (rm_target l Z a0 hw [] b3 (0 : Int32) tg_5 k_tg_5 [(.int p1), (.int (0 : Int32)), (.int (0 : Int32)), (.int (0 : Int32)), (.int (0 : Int32)), (.int (0 : Int32)), (.int (0 : Int32)), (.int (0 : Int32)), (.int (0 : Int32)), (.int (0 : Int32)), (.int (0 : Int32)), (.int (0 : Int32)), (.int (0 : Int32)), (.int (0 : Int32)), (.int (0 : Int32)), (.int (0 : Int32))] p1 hp16 n0 Z16 P16_9 P16_14 (by decide) rfl) hZ (ow hw 76 rfl) (ow hw 3 rfl) (by decide) (by decide)) qv21a qv21c (g := (mkF m 136 #[iv p1, iv p2, iv p3, iv p4, iv 0, iv 0, iv l1, iv l2, rv b1, rv b2, rv b3, iv 0, .unset] [(.int 0), (.ref b3)])) rfl (by rw [hml]; rfl) (Steps.refl _) (argsL := [(.int (0 : Int32))]) (rest := []) (lenOf pd__I_I rfl) rfl (by show 2 * 0 + _ ≤ _; exact Nat.le_of_eq rfl) (hb hby at_136) (fun _ _ => ⟨rfl, e20, (by decide : 13 + 0 ≤ _), (by decide : 203 + 0 ≤ _)⟩)
      dsimp only [Pt.U, Pt.locs, Pt.cells, Pt.slots] at X21 l21 y21 z21 st21 hQ21
      subst l21 y21 z21
      obtain ⟨rfl, Nq21, e21⟩ := hQ21
      have N21 := Fr.app N20 Nq21
      replace K : OGo p e below A0 T21 (mkF m 139 #[iv p1, iv p2, iv p3, iv p4, iv 0, iv 0, iv l1, iv l2, rv b1, rv b2, rv b3, iv 0, .unset] [(.int p1)]) := fun t k => K t (st21.trans k)
      replace K : OGo p e below A0 T21 (mkF m 140 #[iv p1, iv p2, iv p3, iv p4, iv 0, iv 0, iv l1, iv l2, rv b1, rv b2, rv b3, iv 0, .unset] [(.int p1), (.int p1)]) := fun t k => K t (XS.iloadN X21.here hx rfl (hb hby at_139) rfl k)
      replace K : OGo p e below A0 T21 (mkF m 143 #[iv p1, iv p2, iv p3, iv p4, iv 0, iv 0, iv l1, iv l2, rv b1, rv b2, rv b3, iv 0, .unset] []) := fun t k => K t (XS.icmpNo X21.here hx rfl (hb hby at_140) rfl (teq ((rfl : p1 = p1) : p1 = p1)).2 k)
      replace K : OGo p e below A0 T21 (mkF m 145 #[iv p1, iv p2, iv p3, iv p4, iv 0, iv 0, iv l1, iv l2, rv b1, rv b2, rv b3, iv 0, .unset] [(.ref b3)]) := fun t k => K t (XS.aload X21.here hx rfl (hb hby at_143) rfl rfl k)
      replace K : OGo p e below A0 T21 (mkF m 147 #[iv p1, iv p2, iv p3, iv p4, iv 0, iv 0, iv l1, iv l2, rv b1, rv b2, rv b3, iv 0, .unset] [(.int 0), (.ref b3)]) := fun t k => K t (XS.iload X21.here hx rfl (hb hby at_145) rfl k)
      obtain ⟨cq22, kq22, qv22a, qv22b, qv22c⟩ := isOf hZ e21 P16_0
      obtain ⟨_, _, ⟨T22, L22, k22, n22⟩, -, X22, ⟨Lc22, hQ22, l22, y22, z22⟩, st22⟩ := X21.virtualBack hx (y := mN9) (z := mN9) hown (mvT hZ (ow hw 77 rfl)) (mvT hZ (ow hw 78 rfl)) (notFace_of_selects (args := #[]) (mvT hZ (ow hw 80 rfl))) (mvT hZ (ow hw 80 rfl)) (mvT hZ (ow hw 79 rfl)) (by decide) (backOf (W := 0) (rm_stores l Z a0 hw [] b3 (0 : Int32) sd_5 k_sd_5 [(.int (0 : Int32)), (.int (0 : Int32)), (.int (0 : Int32)), (.int (0 : Int32)), (.int (0 : Int32)), (.int (0 : Int32)), (.int (0 : Int32)), (.int (0 : Int32)), (.int (0 : Int32)), (.int (0 : Int32)), (.int (0 : Int32)), (.int (0 : Int32)), (.int (0 : Int32)), (.int (0 : Int32)), (.int (0 : Int32)), (.int (0 : Int32))] (0 : Int32) hp16 n0 Z16 P16_10 P16_15 (by decide) rfl rfl) hZ (ow hw 81 rfl) (ow hw 3 rfl) (by decide) (by decide)) qv22a qv22c (g := (mkF m 147 #[iv p1, iv p2, iv p3, iv p4, iv 0, iv 0, iv l1, iv l2, rv b1, rv b2, rv b3, iv 0, .unset] [(.int 0), (.ref b3)])) rfl (by rw [hml]; rfl) (Steps.refl _) (argsL := [(.int (0 : Int32))]) (rest := []) (lenOf pd__I_Z rfl) rfl (by show 2 * 0 + _ ≤ _; exact Nat.le_of_eq rfl) (hb hby at_147) (fun _ _ => ⟨rfl, e21, (by decide : 13 + 0 ≤ _), (by decide : 203 + 0 ≤ _)⟩)
      dsimp only [Pt.U, Pt.locs, Pt.cells, Pt.slots] at X22 l22 y22 z22 st22 hQ22
      subst l22 y22 z22
      obtain ⟨rfl, Nq22, e22⟩ := hQ22
      have N22 := Fr.app N21 Nq22
      replace K : OGo p e below A0 T22 (mkF m 150 #[iv p1, iv p2, iv p3, iv p4, iv 0, iv 0, iv l1, iv l2, rv b1, rv b2, rv b3, iv 0, .unset] [(.int 0)]) := fun t k => K t (st22.trans k)
      replace K : OGo p e below A0 T22 (mkF m 152 #[iv p1, iv p2, iv p3, iv p4, iv 0, iv 0, iv l1, iv l2, rv b1, rv b2, rv b3, iv 0, .unset] [(.int 0), (.int 0)]) := fun t k => K t (XS.iload X22.here hx rfl (hb hby at_150) rfl k)
      replace K : OGo p e below A0 T22 (mkF m 155 #[iv p1, iv p2, iv p3, iv p4, iv 0, iv 0, iv l1, iv l2, rv b1, rv b2, rv b3, iv 0, .unset] []) := fun t k => K t (XS.icmpNo X22.here hx rfl (hb hby at_152) rfl (teq ((by decide : (0 : Int32) = (0 : Int32)) : (0 : Int32) = (0 : Int32))).2 k)
      replace K : OGo p e below A0 T22 (mkF m 157 #[iv p1, iv p2, iv p3, iv p4, iv 0, iv 0, iv l1, iv l2, rv b1, rv b2, rv b3, iv 0, .unset] [(.ref b3)]) := fun t k => K t (XS.aload X22.here hx rfl (hb hby at_155) rfl rfl k)
      replace K : OGo p e below A0 T22 (mkF m 159 #[iv p1, iv p2, iv p3, iv p4, iv 0, iv 0, iv l1, iv l2, rv b1, rv b2, rv b3, iv 0, .unset] [(.int 0), (.ref b3)]) := fun t k => K t (XS.iload X22.here hx rfl (hb hby at_157) rfl k)
      obtain ⟨cq23, kq23, qv23a, qv23b, qv23c⟩ := isOf hZ e22 P16_0
      obtain ⟨_, _, ⟨T23, L23, k23, n23⟩, -, X23, ⟨Lc23, hQ23, l23, y23, z23⟩, st23⟩ := X22.virtualBack hx (y := mN10) (z := mN10) hown (mvT hZ (ow hw 82 rfl)) (mvT hZ (ow hw 83 rfl)) (notFace_of_selects (args := #[]) (mvT hZ (ow hw 85 rfl))) (mvT hZ (ow hw 85 rfl)) (mvT hZ (ow hw 84 rfl)) (by decide) (backOf (W := 0) (rm_keyN l Z a0 hw [] b3 (0 : Int32) ky_5 k_ky_5 [.null, (.ref b2), .null, .null, .null, .null, .null, .null, .null, .null, .null, .null, .null, .null, .null, .null] hp16 n0 Z16 P16_5 P16_16 (by decide) rfl) hZ (ow hw 86 rfl) (ow hw 3 rfl) (by decide) (by decide)) qv23a qv23c (g := (mkF m 159 #[iv p1, iv p2, iv p3, iv p4, iv 0, iv 0, iv l1, iv l2, rv b1, rv b2, rv b3, iv 0, .unset] [(.int 0), (.ref b3)])) rfl (by rw [hml]; rfl) (Steps.refl _) (argsL := [(.int (0 : Int32))]) (rest := []) (lenOf pd__I__B rfl) rfl (by show 2 * 0 + _ ≤ _; exact Nat.le_of_eq rfl) (hb hby at_159) (fun _ _ => ⟨rfl, e22, (by decide : 13 + 0 ≤ _), (by decide : 203 + 0 ≤ _)⟩)
      dsimp only [Pt.U, Pt.locs, Pt.cells, Pt.slots] at X23 l23 y23 z23 st23 hQ23
      subst l23 y23 z23
      obtain ⟨rfl, Nq23, e23⟩ := hQ23
      have N23 := Fr.app N22 Nq23
      replace K : OGo p e below A0 T23 (mkF m 162 #[iv p1, iv p2, iv p3, iv p4, iv 0, iv 0, iv l1, iv l2, rv b1, rv b2, rv b3, iv 0, .unset] [.null]) := fun t k => K t (st23.trans k)
      replace K : OGo p e below A0 T23 (mkF m 165 #[iv p1, iv p2, iv p3, iv p4, iv 0, iv 0, iv l1, iv l2, rv b1, rv b2, rv b3, iv 0, .unset] []) := fun t k => K t (XS.ifnonnullNo X23.here hx rfl (hb hby at_162) rfl k)
      replace K : OGo p e below A0 T23 (mkF m 167 #[iv p1, iv p2, iv p3, iv p4, iv 0, iv 0, iv l1, iv l2, rv b1, rv b2, rv b3, iv 0, .unset] [(.ref b3)]) := fun t k => K t (XS.aload X23.here hx rfl (hb hby at_165) rfl rfl k)
      replace K : OGo p e below A0 T23 (mkF m 169 #[iv p1, iv p2, iv p3, iv p4, iv 0, iv 0, iv l1, iv l2, rv b1, rv b2, rv b3, iv 0, .unset] [(.int 0), (.ref b3)]) := fun t k => K t (XS.iload X23.here hx rfl (hb hby at_167) rfl k)
      replace K : OGo p e below A0 T23 (mkF m 170 #[iv p1, iv p2, iv p3, iv p4, iv 0, iv 0, iv l1, iv l2, rv b1, rv b2, rv b3, iv 0, .unset] [(.int 1), (.int 0), (.ref b3)]) := fun t k => K t (XS.iconst X23.here hx rfl (hb hby at_169) k)
      replace K : OGo p e below A0 T23 (mkF m 171 #[iv p1, iv p2, iv p3, iv p4, iv 0, iv 0, iv l1, iv l2, rv b1, rv b2, rv b3, iv 0, .unset] [(.int 1), (.ref b3)]) := fun t k => K t (XS.iadd X23.here hx rfl (hb hby at_170) rfl k)
      obtain ⟨cq24, kq24, qv24a, qv24b, qv24c⟩ := isOf hZ e23 P16_0
      obtain ⟨_, _, ⟨T24, L24, k24, n24⟩, -, X24, ⟨Lc24, hQ24, l24, y24, z24⟩, st24⟩ := X23.virtualBack hx (y := mN10) (z := mN10) hown (mvT hZ (ow hw 82 rfl)) (mvT hZ (ow hw 83 rfl)) (notFace_of_selects (args := #[]) (mvT hZ (ow hw 85 rfl))) (mvT hZ (ow hw 85 rfl)) (mvT hZ (ow hw 84 rfl)) (by decide) (backOf (W := 0) (rm_keyR l Z a0 hw [] b3 (1 : Int32) ky_5 k_ky_5 [.null, (.ref b2), .null, .null, .null, .null, .null, .null, .null, .null, .null, .null, .null, .null, .null, .null] b2 hp16 n0 Z16 P16_5 P16_16 (by decide) rfl) hZ (ow hw 86 rfl) (ow hw 3 rfl) (by decide) (by decide)) qv24a qv24c (g := (mkF m 171 #[iv p1, iv p2, iv p3, iv p4, iv 0, iv 0, iv l1, iv l2, rv b1, rv b2, rv b3, iv 0, .unset] [(.int 1), (.ref b3)])) rfl (by rw [hml]; rfl) (Steps.refl _) (argsL := [(.int (1 : Int32))]) (rest := []) (lenOf pd__I__B rfl) rfl (by show 2 * 0 + _ ≤ _; exact Nat.le_of_eq rfl) (hb hby at_171) (fun _ _ => ⟨rfl, e23, (by decide : 13 + 0 ≤ _), (by decide : 203 + 0 ≤ _)⟩)
      dsimp only [Pt.U, Pt.locs, Pt.cells, Pt.slots] at X24 l24 y24 z24 st24 hQ24
      subst l24 y24 z24
      obtain ⟨rfl, Nq24, e24⟩ := hQ24
      have N24 := Fr.app N23 Nq24
      replace K : OGo p e below A0 T24 (mkF m 174 #[iv p1, iv p2, iv p3, iv p4, iv 0, iv 0, iv l1, iv l2, rv b1, rv b2, rv b3, iv 0, .unset] [(.ref b2)]) := fun t k => K t (st24.trans k)
      replace K : OGo p e below A0 T24 (mkF m 176 #[iv p1, iv p2, iv p3, iv p4, iv 0, iv 0, iv l1, iv l2, rv b1, rv b2, rv b3, iv 0, .unset] [(.ref b2), (.ref b2)]) := fun t k => K t (XS.aload X24.here hx rfl (hb hby at_174) rfl rfl k)
      replace K : OGo p e below A0 T24 (mkF m 179 #[iv p1, iv p2, iv p3, iv p4, iv 0, iv 0, iv l1, iv l2, rv b1, rv b2, rv b3, iv 0, .unset] []) := fun t k => K t (Jvm.RoadKit.acmp (g := (mkF m 176 #[iv p1, iv p2, iv p3, iv p4, iv 0, iv 0, iv l1, iv l2, rv b1, rv b2, rv b3, iv 0, .unset] [(.ref b2), (.ref b2)])) X24 hx rfl rfl rfl (pc0 := 176) (pc' := 179) (same := true) rfl (hb hby at_176) rfl (decide_eq_true rfl) (by decide) (by decide) k)
      replace K : OGo p e below A0 T24 (mkF m 181 #[iv p1, iv p2, iv p3, iv p4, iv 0, iv 0, iv l1, iv l2, rv b1, rv b2, rv b3, iv 0, .unset] [(.ref b3)]) := fun t k => K t (XS.aload X24.here hx rfl (hb hby at_179) rfl rfl k)
      obtain ⟨cq25, kq25, qv25a, qv25b, qv25c⟩ := isOf hZ e24 P16_0
      obtain ⟨_, _, ⟨T25, L25, k25, n25⟩, -, X25, ⟨Lc25, hQ25, l25, y25, z25⟩, st25⟩ := X24.virtualBack hx (y := mN6) (z := mN6) hown (mvT hZ (ow hw 87 rfl)) (mvT hZ (ow hw 88 rfl)) (notFace_of_selects (args := #[]) (mvT hZ (ow hw 90 rfl))) (mvT hZ (ow hw 90 rfl)) (mvT hZ (ow hw 89 rfl)) (by decide) (backOf (W := 0) (rm_waiting l Z a0 hw [] b3 ((((0 : Int64) + ((l1 + (1 : Int32)).toInt64)) + ((l2 + (1 : Int32)).toInt64)) - ((l1 + (1 : Int32)).toInt64)) hp16 n0 Z16 P16_13) hZ (ow hw 91 rfl) (ow hw 3 rfl) (by decide) (by decide)) qv25a qv25c (g := (mkF m 181 #[iv p1, iv p2, iv p3, iv p4, iv 0, iv 0, iv l1, iv l2, rv b1, rv b2, rv b3, iv 0, .unset] [(.ref b3)])) rfl (by rw [hml]; rfl) (Steps.refl _) (argsL := []) (rest := []) (lenOf pd___J rfl) rfl (by show 2 * 0 + _ ≤ _; exact Nat.le_of_eq rfl) (hb hby at_181) (fun _ _ => ⟨rfl, e24, (by decide : 13 + 0 ≤ _), (by decide : 203 + 0 ≤ _)⟩)
      dsimp only [Pt.U, Pt.locs, Pt.cells, Pt.slots] at X25 l25 y25 z25 st25 hQ25
      subst l25 y25 z25
      obtain ⟨rfl, Nq25, e25⟩ := hQ25
      have N25 := Fr.app N24 Nq25
      replace K : OGo p e below A0 T25 (mkF m 184 #[iv p1, iv p2, iv p3, iv p4, iv 0, iv 0, iv l1, iv l2, rv b1, rv b2, rv b3, iv 0, .unset] [(.long ((((0 : Int64) + ((l1 + (1 : Int32)).toInt64)) + ((l2 + (1 : Int32)).toInt64)) - ((l1 + (1 : Int32)).toInt64)))]) := fun t k => K t (st25.trans k)
      replace K : OGo p e below A0 T25 (mkF m 186 #[iv p1, iv p2, iv p3, iv p4, iv 0, iv 0, iv l1, iv l2, rv b1, rv b2, rv b3, iv 0, .unset] [(.int l2), (.long ((((0 : Int64) + ((l1 + (1 : Int32)).toInt64)) + ((l2 + (1 : Int32)).toInt64)) - ((l1 + (1 : Int32)).toInt64)))]) := fun t k => K t (XS.iload X25.here hx rfl (hb hby at_184) rfl k)
      replace K : OGo p e below A0 T25 (mkF m 187 #[iv p1, iv p2, iv p3, iv p4, iv 0, iv 0, iv l1, iv l2, rv b1, rv b2, rv b3, iv 0, .unset] [(.int 1), (.int l2), (.long ((((0 : Int64) + ((l1 + (1 : Int32)).toInt64)) + ((l2 + (1 : Int32)).toInt64)) - ((l1 + (1 : Int32)).toInt64)))]) := fun t k => K t (XS.iconst X25.here hx rfl (hb hby at_186) k)
      replace K : OGo p e below A0 T25 (mkF m 188 #[iv p1, iv p2, iv p3, iv p4, iv 0, iv 0, iv l1, iv l2, rv b1, rv b2, rv b3, iv 0, .unset] [(.int (l2 + (1 : Int32))), (.long ((((0 : Int64) + ((l1 + (1 : Int32)).toInt64)) + ((l2 + (1 : Int32)).toInt64)) - ((l1 + (1 : Int32)).toInt64)))]) := fun t k => K t (XS.iadd X25.here hx rfl (hb hby at_187) rfl k)
      replace K : OGo p e below A0 T25 (mkF m 189 #[iv p1, iv p2, iv p3, iv p4, iv 0, iv 0, iv l1, iv l2, rv b1, rv b2, rv b3, iv 0, .unset] [(.long ((l2 + (1 : Int32)).toInt64)), (.long ((((0 : Int64) + ((l1 + (1 : Int32)).toInt64)) + ((l2 + (1 : Int32)).toInt64)) - ((l1 + (1 : Int32)).toInt64)))]) := fun t k => K t (XS.i2l X25.here hx rfl (hb hby at_188) rfl k)
      replace K : OGo p e below A0 T25 (mkF m 190 #[iv p1, iv p2, iv p3, iv p4, iv 0, iv 0, iv l1, iv l2, rv b1, rv b2, rv b3, iv 0, .unset] [(.int (lcmpW ((((0 : Int64) + ((l1 + (1 : Int32)).toInt64)) + ((l2 + (1 : Int32)).toInt64)) - ((l1 + (1 : Int32)).toInt64)) ((l2 + (1 : Int32)).toInt64)))]) := fun t k => K t (XS.lcmp X25.here hx rfl (hb hby at_189) rfl k)
      replace K : OGo p e below A0 T25 (mkF m 193 #[iv p1, iv p2, iv p3, iv p4, iv 0, iv 0, iv l1, iv l2, rv b1, rv b2, rv b3, iv 0, .unset] []) := fun t k => K t (XS.ifNo X25.here hx rfl (hb hby at_190) rfl ((if0 _ _).trans (teq ((lw_eq ((((0 : Int64) + ((l1 + (1 : Int32)).toInt64)) + ((l2 + (1 : Int32)).toInt64)) - ((l1 + (1 : Int32)).toInt64)) ((l2 + (1 : Int32)).toInt64)).mpr ((own_wb _ _) : ((((0 : Int64) + ((l1 + (1 : Int32)).toInt64)) + ((l2 + (1 : Int32)).toInt64)) - ((l1 + (1 : Int32)).toInt64)) = ((l2 + (1 : Int32)).toInt64)))).2) k)
      replace K : OGo p e below A0 T25 (mkF m 195 #[iv p1, iv p2, iv p3, iv p4, iv 0, iv 0, iv l1, iv l2, rv b1, rv b2, rv b3, iv 0, .unset] [(.ref b3)]) := fun t k => K t (XS.aload X25.here hx rfl (hb hby at_193) rfl rfl k)
      replace K : OGo p e below A0 T25 (mkF m 197 #[iv p1, iv p2, iv p3, iv p4, iv 0, iv 0, iv l1, iv l2, rv b1, rv b2, rv b3, iv 0, .unset] [(.int 0), (.ref b3)]) := fun t k => K t (XS.iload X25.here hx rfl (hb hby at_195) rfl k)
      have V_ac_5_27 := (P12_14.keep K16 (ninS (Ne.symm ne_b3_ac_5) (ninS (own_pw P5_10 0 8 (by decide) rfl rfl) (ninS (own_pw P5_10 0 9 (by decide) rfl rfl) (ninS (own_pw P5_10 0 4 (by decide) rfl rfl) (ninS (own_pw P5_10 0 6 (by decide) rfl rfl) nin0))))))
      obtain ⟨cq26, kq26, qv26a, qv26b, qv26c⟩ := isOf hZ e25 P16_0
      obtain ⟨_, _, ⟨T26, L26, k26, n26⟩, -, X26, ⟨Lc26, hQ26, l26, y26, z26⟩, st26⟩ := X25.virtualBack hx (y := mN8) (z := mN8) hown (mvT hZ (ow hw 92 rfl)) (mvT hZ (ow hw 93 rfl)) (notFace_of_selects (args := #[]) (mvT hZ (ow hw 95 rfl))) (mvT hZ (ow hw 95 rfl)) (mvT hZ (ow hw 94 rfl)) (by decide) (backOf (W := 0) (rm_actor l Z a0 hw [] b3 (0 : Int32) ac_5 k_ac_5 [(.int (1 : Int32)), (.int (4 : Int32)), (.int (0 : Int32)), (.int (0 : Int32)), (.int (0 : Int32)), (.int (0 : Int32)), (.int (0 : Int32)), (.int (0 : Int32)), (.int (0 : Int32)), (.int (0 : Int32)), (.int (0 : Int32)), (.int (0 : Int32)), (.int (0 : Int32)), (.int (0 : Int32)), (.int (0 : Int32)), (.int (0 : Int32))] (1 : Int32) hp16 n0 Z16 P16_1 V_ac_5_27 (by decide) rfl) hZ (ow hw 96 rfl) (ow hw 3 rfl) (by decide) (by decide)) qv26a qv26c (g := (mkF m 197 #[iv p1, iv p2, iv p3, iv p4, iv 0, iv 0, iv l1, iv l2, rv b1, rv b2, rv b3, iv 0, .unset] [(.int 0), (.ref b3)])) rfl (by rw [hml]; rfl) (Steps.refl _) (argsL := [(.int (0 : Int32))]) (rest := []) (lenOf pd__I_I rfl) rfl (by show 2 * 0 + _ ≤ _; exact Nat.le_of_eq rfl) (hb hby at_197) (fun _ _ => ⟨rfl, e25, (by decide : 13 + 0 ≤ _), (by decide : 203 + 0 ≤ _)⟩)
      dsimp only [Pt.U, Pt.locs, Pt.cells, Pt.slots] at X26 l26 y26 z26 st26 hQ26
      subst l26 y26 z26
      obtain ⟨rfl, Nq26, e26⟩ := hQ26
      have N26 := Fr.app N25 Nq26
      replace K : OGo p e below A0 T26 (mkF m 200 #[iv p1, iv p2, iv p3, iv p4, iv 0, iv 0, iv l1, iv l2, rv b1, rv b2, rv b3, iv 0, .unset] [(.int 1)]) := fun t k => K t (st26.trans k)
      replace K : OGo p e below A0 T26 (mkF m 201 #[iv p1, iv p2, iv p3, iv p4, iv 0, iv 0, iv l1, iv l2, rv b1, rv b2, rv b3, iv 0, .unset] [(.int 1), (.int 1)]) := fun t k => K t (XS.iconst X26.here hx rfl (hb hby at_200) k)
      replace K : OGo p e below A0 T26 (mkF m 204 #[iv p1, iv p2, iv p3, iv p4, iv 0, iv 0, iv l1, iv l2, rv b1, rv b2, rv b3, iv 0, .unset] []) := fun t k => K t (XS.icmpNo X26.here hx rfl (hb hby at_201) rfl (teq ((by decide : (1 : Int32) = (1 : Int32)) : (1 : Int32) = (1 : Int32))).2 k)
      replace K : OGo p e below A0 T26 (mkF m 205 #[iv p1, iv p2, iv p3, iv p4, iv 0, iv 0, iv l1, iv l2, rv b1, rv b2, rv b3, iv 0, .unset] [(.int 1)]) := fun t k => K t (XS.iconst X26.here hx rfl (hb hby at_204) k)
      replace K : OGo p e below A0 T26 (mkF m 209 #[iv p1, iv p2, iv p3, iv p4, iv 0, iv 0, iv l1, iv l2, rv b1, rv b2, rv b3, iv 0, .unset] [(.int 1)]) := fun t k => K t (XS.goto X26.here hx rfl (pc0 := 205) (pc' := 209) rfl (hb hby at_205) (by decide) (by decide) k)
      replace K : OGo p e below A0 T26 (mkF m 211 #[iv p1, iv p2, iv p3, iv p4, iv 0, iv 0, iv l1, iv l2, rv b1, rv b2, rv b3, iv 0, iv 1] []) := fun t k => K t (XS.istore X26.here hx rfl (hb hby at_209) rfl (l' := #[iv p1, iv p2, iv p3, iv p4, iv 0, iv 0, iv l1, iv l2, rv b1, rv b2, rv b3, iv 0, iv 1]) rfl k)
      replace K : OGo p e below A0 T26 (mkF m 213 #[iv p1, iv p2, iv p3, iv p4, iv 0, iv 0, iv l1, iv l2, rv b1, rv b2, rv b3, iv 0, iv 1] [(.int 0)]) := fun t k => K t (XS.iload X26.here hx rfl (hb hby at_211) rfl k)
      replace K : OGo p e below A0 T26 (mkF m 238 #[iv p1, iv p2, iv p3, iv p4, iv 0, iv 0, iv l1, iv l2, rv b1, rv b2, rv b3, iv 0, iv 1] []) := fun t k => K t (XS.ifYes X26.here hx rfl (pc0 := 213) (pc' := 238) rfl (hb hby at_213) rfl ((if0 _ _).trans (teq ((by decide : (0 : Int32) = (0 : Int32)) : (0 : Int32) = (0 : Int32))).1) (by decide) (by decide) k)
      replace K : OGo p e below A0 T26 (mkF m 240 #[iv p1, iv p2, iv p3, iv p4, iv 0, iv 0, iv l1, iv l2, rv b1, rv b2, rv b3, iv 0, iv 1] [(.int 1)]) := fun t k => K t (XS.iload X26.here hx rfl (hb hby at_238) rfl k)
      obtain ⟨fs, hr, hrun, hended, hW, hsame⟩ := X26.leave (v := some (.int (1 : Int32))) (fun h => by rw [Bd.returns] at h; cases h)
      subst hA0
      refine ⟨_, _, K _ (retN X26 hx (t := .boolean) Bd.returns (by simp) (hb hby at_240) hr), hrun, hended, _, _, rfl, ?_, ⟨_, rfl⟩, hW, hsame.mono (by decide) (by decide)⟩
      show Q_law Z p1 p2 p3 p4 h0 n0 _ T26.heap _
      rw [e26]
      exact ⟨rfl, N26⟩
    · replace K : OGo p e below A0 s₁ (mkF m 19 #[iv p1, iv p2, iv p3, iv p4, iv 0, .unset, .unset, .unset, .unset, .unset, .unset, .unset, .unset] []) := fun t k => K t (XS.ifNo X0.here hx rfl (hb hby at_16) rfl ((if0 _ _).trans (feq hc16).1) k)
      replace K : OGo p e below A0 s₁ (mkF m 20 #[iv p1, iv p2, iv p3, iv p4, iv 0, .unset, .unset, .unset, .unset, .unset, .unset, .unset, .unset] [(.int 1)]) := fun t k => K t (XS.iconst X0.here hx rfl (hb hby at_19) k)
      replace K : OGo p e below A0 s₁ (mkF m 24 #[iv p1, iv p2, iv p3, iv p4, iv 0, .unset, .unset, .unset, .unset, .unset, .unset, .unset, .unset] [(.int 1)]) := fun t k => K t (XS.goto X0.here hx rfl (pc0 := 20) (pc' := 24) rfl (hb hby at_20) (by decide) (by decide) k)
      replace K : OGo p e below A0 s₁ (mkF m 26 #[iv p1, iv p2, iv p3, iv p4, iv 0, iv 1, .unset, .unset, .unset, .unset, .unset, .unset, .unset] []) := fun t k => K t (XS.istore X0.here hx rfl (hb hby at_24) rfl (l' := #[iv p1, iv p2, iv p3, iv p4, iv 0, iv 1, .unset, .unset, .unset, .unset, .unset, .unset, .unset]) rfl k)
      replace K : OGo p e below A0 s₁ (mkF m 27 #[iv p1, iv p2, iv p3, iv p4, iv 0, iv 1, .unset, .unset, .unset, .unset, .unset, .unset, .unset] [(.int p4)]) := fun t k => K t (XS.iloadN X0.here hx rfl (hb hby at_26) rfl k)
      replace K : OGo p e below A0 s₁ (mkF m 29 #[iv p1, iv p2, iv p3, iv p4, iv 0, iv 1, .unset, .unset, .unset, .unset, .unset, .unset, .unset] [(.int 15), (.int p4)]) := fun t k => K t (XS.bipush X0.here hx rfl (hb hby at_27) k)
      replace K : OGo p e below A0 s₁ (mkF m 30 #[iv p1, iv p2, iv p3, iv p4, iv 0, iv 1, .unset, .unset, .unset, .unset, .unset, .unset, .unset] [(.int (p4 &&& (15 : Int32)))]) := fun t k => K t (XS.iand X0.here hx rfl (hb hby at_29) rfl k)
      obtain ⟨l1, hv_l1⟩ : ∃ z : Int32, z = (p4 &&& (15 : Int32)) := ⟨_, rfl⟩
      rw [← hv_l1] at K
      have hl1 : 0 ≤ l1.toInt ∧ l1.toInt ≤ 15 := hv_l1 ▸ own_and15 _
      replace K : OGo p e below A0 s₁ (mkF m 32 #[iv p1, iv p2, iv p3, iv p4, iv 0, iv 1, iv l1, .unset, .unset, .unset, .unset, .unset, .unset] []) := fun t k => K t (XS.istore X0.here hx rfl (hb hby at_30) rfl (l' := #[iv p1, iv p2, iv p3, iv p4, iv 0, iv 1, iv l1, .unset, .unset, .unset, .unset, .unset, .unset]) rfl k)
      replace K : OGo p e below A0 s₁ (mkF m 33 #[iv p1, iv p2, iv p3, iv p4, iv 0, iv 1, iv l1, .unset, .unset, .unset, .unset, .unset, .unset] [(.int p4)]) := fun t k => K t (XS.iloadN X0.here hx rfl (hb hby at_32) rfl k)
      replace K : OGo p e below A0 s₁ (mkF m 34 #[iv p1, iv p2, iv p3, iv p4, iv 0, iv 1, iv l1, .unset, .unset, .unset, .unset, .unset, .unset] [(.int 4), (.int p4)]) := fun t k => K t (XS.iconst X0.here hx rfl (hb hby at_33) k)
      replace K : OGo p e below A0 s₁ (mkF m 35 #[iv p1, iv p2, iv p3, iv p4, iv 0, iv 1, iv l1, .unset, .unset, .unset, .unset, .unset, .unset] [(.int ((p4.toUInt32 >>> ((4 : Int32) &&& 31).toUInt32).toInt32))]) := fun t k => K t (XS.iushr X0.here hx rfl (hb hby at_34) rfl k)
      replace K : OGo p e below A0 s₁ (mkF m 37 #[iv p1, iv p2, iv p3, iv p4, iv 0, iv 1, iv l1, .unset, .unset, .unset, .unset, .unset, .unset] [(.int 15), (.int ((p4.toUInt32 >>> ((4 : Int32) &&& 31).toUInt32).toInt32))]) := fun t k => K t (XS.bipush X0.here hx rfl (hb hby at_35) k)
      replace K : OGo p e below A0 s₁ (mkF m 38 #[iv p1, iv p2, iv p3, iv p4, iv 0, iv 1, iv l1, .unset, .unset, .unset, .unset, .unset, .unset] [(.int (((p4.toUInt32 >>> ((4 : Int32) &&& 31).toUInt32).toInt32) &&& (15 : Int32)))]) := fun t k => K t (XS.iand X0.here hx rfl (hb hby at_37) rfl k)
      obtain ⟨l2, hv_l2⟩ : ∃ z : Int32, z = (((p4.toUInt32 >>> ((4 : Int32) &&& 31).toUInt32).toInt32) &&& (15 : Int32)) := ⟨_, rfl⟩
      rw [← hv_l2] at K
      have hl2 : 0 ≤ l2.toInt ∧ l2.toInt ≤ 15 := hv_l2 ▸ own_and15 _
      replace K : OGo p e below A0 s₁ (mkF m 40 #[iv p1, iv p2, iv p3, iv p4, iv 0, iv 1, iv l1, iv l2, .unset, .unset, .unset, .unset, .unset] []) := fun t k => K t (XS.istore X0.here hx rfl (hb hby at_38) rfl (l' := #[iv p1, iv p2, iv p3, iv p4, iv 0, iv 1, iv l1, iv l2, .unset, .unset, .unset, .unset, .unset]) rfl k)
      replace K : OGo p e below A0 s₁ (mkF m 42 #[iv p1, iv p2, iv p3, iv p4, iv 0, iv 1, iv l1, iv l2, .unset, .unset, .unset, .unset, .unset] [(.int l1)]) := fun t k => K t (XS.iload X0.here hx rfl (hb hby at_40) rfl k)
      obtain ⟨T28, h28, k28, X28, e28, E28, A28, Q28, st28⟩ := newPE X0 hx hZ (ow hw 0 rfl) e0 (g := (mkF m 42 #[iv p1, iv p2, iv p3, iv p4, iv 0, iv 1, iv l1, iv l2, .unset, .unset, .unset, .unset, .unset] [(.int l1)])) rfl (hb hby at_42) rfl (own_nn hl1) (cap := 15) (own_cap hl1) (by decide) (by decide) (by decide) (ad := "[B") (by decide)
      obtain ⟨b28, gz28⟩ : ∃ z, z = h0.size := ⟨_, rfl⟩
      rw [← gz28] at A28 Q28 st28
      have g_b28 : n0 ≤ b28 := Nat.le_trans Z0 (Nat.le_of_eq gz28.symm)
      have Z28 : n0 ≤ h28.size := Nat.le_trans Z0 E28.1
      have V_b28 : OAr Z h28 b28 k28 .byte (List.replicate l1.toNatClampNeg (.int (0 : Int32))) := OAr.new A28
      replace K : OGo p e below A0 T28 (mkF m 44 #[iv p1, iv p2, iv p3, iv p4, iv 0, iv 1, iv l1, iv l2, .unset, .unset, .unset, .unset, .unset] [(.ref b28)]) := fun t k => K t (st28 t k)
      replace K : OGo p e below A0 T28 (mkF m 46 #[iv p1, iv p2, iv p3, iv p4, iv 0, iv 1, iv l1, iv l2, rv b28, .unset, .unset, .unset, .unset] []) := fun t k => K t (XS.astore X28.here hx rfl (hb hby at_44) rfl rfl (l' := #[iv p1, iv p2, iv p3, iv p4, iv 0, iv 1, iv l1, iv l2, rv b28, .unset, .unset, .unset, .unset]) rfl k)
      replace K : OGo p e below A0 T28 (mkF m 48 #[iv p1, iv p2, iv p3, iv p4, iv 0, iv 1, iv l1, iv l2, rv b28, .unset, .unset, .unset, .unset] [(.int l2)]) := fun t k => K t (XS.iload X28.here hx rfl (hb hby at_46) rfl k)
      obtain ⟨T29, h29, k29, X29, e29, E29, A29, Q29, st29⟩ := newPE X28 hx hZ (ow hw 0 rfl) e28 (g := (mkF m 48 #[iv p1, iv p2, iv p3, iv p4, iv 0, iv 1, iv l1, iv l2, rv b28, .unset, .unset, .unset, .unset] [(.int l2)])) rfl (hb hby at_48) rfl (own_nn hl2) (cap := 15) (own_cap hl2) (by decide) (by decide) (by decide) (ad := "[B") (by decide)
      obtain ⟨b29, gz29⟩ : ∃ z, z = h28.size := ⟨_, rfl⟩
      rw [← gz29] at A29 Q29 st29
      have ne_b28_b29 : b28 ≠ b29 := Nat.ne_of_lt (Nat.lt_of_lt_of_le Q28.lt (Nat.le_of_eq gz29.symm))
      have g_b29 : n0 ≤ b29 := Nat.le_trans Z28 (Nat.le_of_eq gz29.symm)
      have Z29 : n0 ≤ h29.size := Nat.le_trans Z28 E29.1
      have V_b29 : OAr Z h29 b29 k29 .byte (List.replicate l2.toNatClampNeg (.int (0 : Int32))) := OAr.new A29
      replace K : OGo p e below A0 T29 (mkF m 50 #[iv p1, iv p2, iv p3, iv p4, iv 0, iv 1, iv l1, iv l2, rv b28, .unset, .unset, .unset, .unset] [(.ref b29)]) := fun t k => K t (st29 t k)
      replace K : OGo p e below A0 T29 (mkF m 52 #[iv p1, iv p2, iv p3, iv p4, iv 0, iv 1, iv l1, iv l2, rv b28, rv b29, .unset, .unset, .unset] []) := fun t k => K t (XS.astore X29.here hx rfl (hb hby at_50) rfl rfl (l' := #[iv p1, iv p2, iv p3, iv p4, iv 0, iv 1, iv l1, iv l2, rv b28, rv b29, .unset, .unset, .unset]) rfl k)
      obtain ⟨T30, h30, X30, e30, E30, A30, D30, -, st30⟩ := newO X29 hx hZ hown (ow hw 1 rfl) (ow hw 2 rfl) (ow hw 3 rfl) e29 (g := (mkF m 52 #[iv p1, iv p2, iv p3, iv p4, iv 0, iv 1, iv l1, iv l2, rv b28, rv b29, .unset, .unset, .unset] [])) rfl (hb hby at_52) (by decide) (by decide)
      obtain ⟨b30, gz30⟩ : ∃ z, z = h29.size := ⟨_, rfl⟩
      rw [← gz30] at A30 D30 st30
      have Q28_31 := (Q28.ext E29)
      have ne_b28_b30 : b28 ≠ b30 := Nat.ne_of_lt (Nat.lt_of_lt_of_le Q28_31.lt (Nat.le_of_eq gz30.symm))
      have ne_b29_b30 : b29 ≠ b30 := Nat.ne_of_lt (Nat.lt_of_lt_of_le Q29.lt (Nat.le_of_eq gz30.symm))
      have g_b30 : n0 ≤ b30 := Nat.le_trans Z29 (Nat.le_of_eq gz30.symm)
      have Z30 : n0 ≤ h30.size := Nat.le_trans Z29 E30.1
      have F_actors_b30 : Fld Z h30 b30 cN0 "actors" "[I" .null := D30 (Or.inl (ow hw 12 rfl)) (ty := (.array .int)) (by decide)
      have F_indices_b30 : Fld Z h30 b30 cN0 "indices" "[I" .null := D30 (Or.inl (ow hw 14 rfl)) (ty := (.array .int)) (by decide)
      have F_branchNumbers_b30 : Fld Z h30 b30 cN0 "branchNumbers" "[I" .null := D30 (Or.inl (ow hw 16 rfl)) (ty := (.array .int)) (by decide)
      have F_chose_b30 : Fld Z h30 b30 cN0 "chose" "[Z" .null := D30 (Or.inl (ow hw 19 rfl)) (ty := (.array .boolean)) (by decide)
      have F_keys_b30 : Fld Z h30 b30 cN0 "keys" "[[B" .null := D30 (Or.inl (ow hw 23 rfl)) (ty := (.array (.array .byte))) (by decide)
      have F_moves_b30 : Fld Z h30 b30 cN0 "moves" cN1 .null := D30 (Or.inl (ow hw 27 rfl)) (ty := (.array (.object "com/example/flote/flote/search/Search$Moves"))) (by decide)
      have F_transitions_b30 : Fld Z h30 b30 cN0 "transitions" cN2 .null := D30 (Or.inl (ow hw 31 rfl)) (ty := (.array (.object "com/example/flote/flote/search/Search$Branches"))) (by decide)
      have F_frames_b30 : Fld Z h30 b30 cN0 "frames" "[J" .null := D30 (Or.inl (ow hw 34 rfl)) (ty := (.array .long)) (by decide)
      have F_targets_b30 : Fld Z h30 b30 cN0 "targets" "[I" .null := D30 (Or.inl (ow hw 36 rfl)) (ty := (.array .int)) (by decide)
      have F_stored_b30 : Fld Z h30 b30 cN0 "stored" "[Z" .null := D30 (Or.inl (ow hw 38 rfl)) (ty := (.array .boolean)) (by decide)
      have F_count_b30 : Fld Z h30 b30 cN0 "count" "I" (.int (0 : Int32)) := D30 (Or.inl (ow hw 49 rfl)) (ty := .int) (by decide)
      have F_admitted_b30 : Fld Z h30 b30 cN0 "admitted" "I" (.int (0 : Int32)) := D30 (Or.inl (ow hw 51 rfl)) (ty := .int) (by decide)
      have F_waitingBytes_b30 : Fld Z h30 b30 cN0 "waitingBytes" "J" (.long (0 : Int64)) := D30 (Or.inl (ow hw 60 rfl)) (ty := .long) (by decide)
      replace K : OGo p e below A0 T30 (mkF m 55 #[iv p1, iv p2, iv p3, iv p4, iv 0, iv 1, iv l1, iv l2, rv b28, rv b29, .unset, .unset, .unset] [(.ref b30)]) := fun t k => K t (st30 t k)
      replace K : OGo p e below A0 T30 (mkF m 56 #[iv p1, iv p2, iv p3, iv p4, iv 0, iv 1, iv l1, iv l2, rv b28, rv b29, .unset, .unset, .unset] [(.ref b30), (.ref b30)]) := fun t k => K t (XS.dup X30.here hx rfl (hb hby at_55) rfl rfl k)
      obtain ⟨_, _, ⟨T32, L32, k32, n32⟩, -, X32, ⟨Lc32, hQ32, l32, y32, z32⟩, st32⟩ := X30.specialBack hx (y := mN0) rfl hown (mvT hZ (ow hw 4 rfl)) (mvT hZ (ow hw 5 rfl)) (mvT hZ (ow hw 6 rfl)) (by decide) (backOf (W := 1) (rm_init l Z a0 hw [] b30 h30 n0 Z30 A30 F_actors_b30 F_indices_b30 F_branchNumbers_b30 F_chose_b30 F_keys_b30 F_moves_b30 F_transitions_b30 F_frames_b30 F_targets_b30 F_stored_b30 F_count_b30 F_admitted_b30 F_waitingBytes_b30 g_b30) hZ (ow hw 6 rfl) (ow hw 3 rfl) (by decide) (by decide)) (g := (mkF m 56 #[iv p1, iv p2, iv p3, iv p4, iv 0, iv 1, iv l1, iv l2, rv b28, rv b29, .unset, .unset, .unset] [(.ref b30), (.ref b30)])) rfl (by rw [hml]; rfl) (Steps.refl _) (a := b30) (argsL := []) (rest := [(.ref b30)]) (lenOf pd___V rfl) rfl (by show 2 * 0 + _ ≤ _; exact Nat.le_of_eq rfl) (hb hby at_56) (fun _ _ => ⟨rfl, e30, (by decide : 3 + 10 ≤ _), (by decide : 43 + 160 ≤ _)⟩)
      dsimp only [Pt.U, Pt.locs, Pt.cells, Pt.slots] at X32 l32 y32 z32 st32 hQ32
      subst l32 y32 z32
      obtain ⟨hp32, e32⟩ : ∃ z, T32.heap = z := ⟨_, rfl⟩
      rw [e32] at hQ32
      obtain ⟨rfl, Nq32, ac_32, ix_32, bn_32, ch_32, ky_32, mv_32, tr_32, fr_32, tg_32, sd_32, k_ac_32, k_ix_32, k_bn_32, k_ch_32, k_ky_32, k_mv_32, k_tr_32, k_fr_32, k_tg_32, k_sd_32, K32, P32_0, P32_1, P32_2, P32_3, P32_4, P32_5, P32_6, P32_7, P32_8, P32_9, P32_10, P32_11, P32_12, P32_13, P32_14, P32_15, P32_16, P32_17, P32_18, P32_19, P32_20, P32_21, P32_22, P32_23, P32_24, P32_25, P32_26, P32_27, P32_28, P32_29, P32_30, P32_31, P32_32, P32_33, P32_34, P32_35⟩ := hQ32
      have Q28_33 := (Q28_31.ext E30)
      have ne_b28_ac_32 : b28 ≠ ac_32 := Nat.ne_of_lt (Nat.lt_of_lt_of_le Q28_33.lt P32_0)
      have Q29_34 := (Q29.ext E30)
      have ne_b29_ac_32 : b29 ≠ ac_32 := Nat.ne_of_lt (Nat.lt_of_lt_of_le Q29_34.lt P32_0)
      have ne_b30_ac_32 : b30 ≠ ac_32 := Nat.ne_of_lt (Nat.lt_of_lt_of_le A30.lt P32_0)
      have g_ac_32 : n0 ≤ ac_32 := Nat.le_trans Z30 P32_0
      have ne_b28_ix_32 : b28 ≠ ix_32 := Nat.ne_of_lt (Nat.lt_of_lt_of_le Q28_33.lt P32_1)
      have ne_b29_ix_32 : b29 ≠ ix_32 := Nat.ne_of_lt (Nat.lt_of_lt_of_le Q29_34.lt P32_1)
      have ne_b30_ix_32 : b30 ≠ ix_32 := Nat.ne_of_lt (Nat.lt_of_lt_of_le A30.lt P32_1)
      have g_ix_32 : n0 ≤ ix_32 := Nat.le_trans Z30 P32_1
      have ne_b28_bn_32 : b28 ≠ bn_32 := Nat.ne_of_lt (Nat.lt_of_lt_of_le Q28_33.lt P32_2)
      have ne_b29_bn_32 : b29 ≠ bn_32 := Nat.ne_of_lt (Nat.lt_of_lt_of_le Q29_34.lt P32_2)
      have ne_b30_bn_32 : b30 ≠ bn_32 := Nat.ne_of_lt (Nat.lt_of_lt_of_le A30.lt P32_2)
      have g_bn_32 : n0 ≤ bn_32 := Nat.le_trans Z30 P32_2
      have ne_b28_ch_32 : b28 ≠ ch_32 := Nat.ne_of_lt (Nat.lt_of_lt_of_le Q28_33.lt P32_3)
      have ne_b29_ch_32 : b29 ≠ ch_32 := Nat.ne_of_lt (Nat.lt_of_lt_of_le Q29_34.lt P32_3)
      have ne_b30_ch_32 : b30 ≠ ch_32 := Nat.ne_of_lt (Nat.lt_of_lt_of_le A30.lt P32_3)
      have g_ch_32 : n0 ≤ ch_32 := Nat.le_trans Z30 P32_3
      have ne_b28_ky_32 : b28 ≠ ky_32 := Nat.ne_of_lt (Nat.lt_of_lt_of_le Q28_33.lt P32_4)
      have ne_b29_ky_32 : b29 ≠ ky_32 := Nat.ne_of_lt (Nat.lt_of_lt_of_le Q29_34.lt P32_4)
      have ne_b30_ky_32 : b30 ≠ ky_32 := Nat.ne_of_lt (Nat.lt_of_lt_of_le A30.lt P32_4)
      have g_ky_32 : n0 ≤ ky_32 := Nat.le_trans Z30 P32_4
      have ne_b28_mv_32 : b28 ≠ mv_32 := Nat.ne_of_lt (Nat.lt_of_lt_of_le Q28_33.lt P32_5)
      have ne_b29_mv_32 : b29 ≠ mv_32 := Nat.ne_of_lt (Nat.lt_of_lt_of_le Q29_34.lt P32_5)
      have ne_b30_mv_32 : b30 ≠ mv_32 := Nat.ne_of_lt (Nat.lt_of_lt_of_le A30.lt P32_5)
      have g_mv_32 : n0 ≤ mv_32 := Nat.le_trans Z30 P32_5
      have ne_b28_tr_32 : b28 ≠ tr_32 := Nat.ne_of_lt (Nat.lt_of_lt_of_le Q28_33.lt P32_6)
      have ne_b29_tr_32 : b29 ≠ tr_32 := Nat.ne_of_lt (Nat.lt_of_lt_of_le Q29_34.lt P32_6)
      have ne_b30_tr_32 : b30 ≠ tr_32 := Nat.ne_of_lt (Nat.lt_of_lt_of_le A30.lt P32_6)
      have g_tr_32 : n0 ≤ tr_32 := Nat.le_trans Z30 P32_6
      have ne_b28_fr_32 : b28 ≠ fr_32 := Nat.ne_of_lt (Nat.lt_of_lt_of_le Q28_33.lt P32_7)
      have ne_b29_fr_32 : b29 ≠ fr_32 := Nat.ne_of_lt (Nat.lt_of_lt_of_le Q29_34.lt P32_7)
      have ne_b30_fr_32 : b30 ≠ fr_32 := Nat.ne_of_lt (Nat.lt_of_lt_of_le A30.lt P32_7)
      have g_fr_32 : n0 ≤ fr_32 := Nat.le_trans Z30 P32_7
      have ne_b28_tg_32 : b28 ≠ tg_32 := Nat.ne_of_lt (Nat.lt_of_lt_of_le Q28_33.lt P32_8)
      have ne_b29_tg_32 : b29 ≠ tg_32 := Nat.ne_of_lt (Nat.lt_of_lt_of_le Q29_34.lt P32_8)
      have ne_b30_tg_32 : b30 ≠ tg_32 := Nat.ne_of_lt (Nat.lt_of_lt_of_le A30.lt P32_8)
      have g_tg_32 : n0 ≤ tg_32 := Nat.le_trans Z30 P32_8
      have ne_b28_sd_32 : b28 ≠ sd_32 := Nat.ne_of_lt (Nat.lt_of_lt_of_le Q28_33.lt P32_9)
      have ne_b29_sd_32 : b29 ≠ sd_32 := Nat.ne_of_lt (Nat.lt_of_lt_of_le Q29_34.lt P32_9)
      have ne_b30_sd_32 : b30 ≠ sd_32 := Nat.ne_of_lt (Nat.lt_of_lt_of_le A30.lt P32_9)
      have g_sd_32 : n0 ≤ sd_32 := Nat.le_trans Z30 P32_9
      have Z32 : n0 ≤ hp32.size := Nat.le_trans Z30 K32.1
      have N32 := Fr.app N0 Nq32
      replace K : OGo p e below A0 T32 (mkF m 59 #[iv p1, iv p2, iv p3, iv p4, iv 0, iv 1, iv l1, iv l2, rv b28, rv b29, .unset, .unset, .unset] [(.ref b30)]) := fun t k => K t (st32.trans k)
      replace K : OGo p e below A0 T32 (mkF m 61 #[iv p1, iv p2, iv p3, iv p4, iv 0, iv 1, iv l1, iv l2, rv b28, rv b29, rv b30, .unset, .unset] []) := fun t k => K t (XS.astore X32.here hx rfl (hb hby at_59) rfl rfl (l' := #[iv p1, iv p2, iv p3, iv p4, iv 0, iv 1, iv l1, iv l2, rv b28, rv b29, rv b30, .unset, .unset]) rfl k)
      replace K : OGo p e below A0 T32 (mkF m 62 #[iv p1, iv p2, iv p3, iv p4, iv 0, iv 1, iv l1, iv l2, rv b28, rv b29, rv b30, .unset, .unset] [(.int 0)]) := fun t k => K t (XS.iconst X32.here hx rfl (hb hby at_61) k)
      replace K : OGo p e below A0 T32 (mkF m 64 #[iv p1, iv p2, iv p3, iv p4, iv 0, iv 1, iv l1, iv l2, rv b28, rv b29, rv b30, iv 0, .unset] []) := fun t k => K t (XS.istore X32.here hx rfl (hb hby at_62) rfl (l' := #[iv p1, iv p2, iv p3, iv p4, iv 0, iv 1, iv l1, iv l2, rv b28, rv b29, rv b30, iv 0, .unset]) rfl k)
      replace K : OGo p e below A0 T32 (mkF m 66 #[iv p1, iv p2, iv p3, iv p4, iv 0, iv 1, iv l1, iv l2, rv b28, rv b29, rv b30, iv 0, .unset] [(.int 1)]) := fun t k => K t (XS.iload X32.here hx rfl (hb hby at_64) rfl k)
      replace K : OGo p e below A0 T32 (mkF m 69 #[iv p1, iv p2, iv p3, iv p4, iv 0, iv 1, iv l1, iv l2, rv b28, rv b29, rv b30, iv 0, .unset] []) := fun t k => K t (XS.ifNo X32.here hx rfl (hb hby at_66) rfl ((if0 _ _).trans (feq ((by decide : ¬ ((1 : Int32) = (0 : Int32))) : ¬ ((1 : Int32) = (0 : Int32)))).1) k)
      replace K : OGo p e below A0 T32 (mkF m 71 #[iv p1, iv p2, iv p3, iv p4, iv 0, iv 1, iv l1, iv l2, rv b28, rv b29, rv b30, iv 0, .unset] [(.ref b30)]) := fun t k => K t (XS.aload X32.here hx rfl (hb hby at_69) rfl rfl k)
      replace K : OGo p e below A0 T32 (mkF m 72 #[iv p1, iv p2, iv p3, iv p4, iv 0, iv 1, iv l1, iv l2, rv b28, rv b29, rv b30, iv 0, .unset] [(.int p2), (.ref b30)]) := fun t k => K t (XS.iloadN X32.here hx rfl (hb hby at_71) rfl k)
      replace K : OGo p e below A0 T32 (mkF m 73 #[iv p1, iv p2, iv p3, iv p4, iv 0, iv 1, iv l1, iv l2, rv b28, rv b29, rv b30, iv 0, .unset] [(.long 0), (.int p2), (.ref b30)]) := fun t k => K t (XS.lconst X32.here hx rfl (hb hby at_72) k)
      have nd36 : OND [b30, ac_32, ix_32, bn_32, ch_32, ky_32, mv_32, tr_32, fr_32, tg_32, sd_32] := (ondS (allS ne_b30_ac_32 (allS ne_b30_ix_32 (allS ne_b30_bn_32 (allS ne_b30_ch_32 (allS ne_b30_ky_32 (allS ne_b30_mv_32 (allS ne_b30_tr_32 (allS ne_b30_fr_32 (allS ne_b30_tg_32 (allS ne_b30_sd_32 all0)))))))))) (ondS (allS (own_pw P32_10 0 1 (by decide) rfl rfl) (allS (own_pw P32_10 0 2 (by decide) rfl rfl) (allS (own_pw P32_10 0 3 (by decide) rfl rfl) (allS (own_pw P32_10 0 4 (by decide) rfl rfl) (allS (own_pw P32_10 0 5 (by decide) rfl rfl) (allS (own_pw P32_10 0 6 (by decide) rfl rfl) (allS (own_pw P32_10 0 7 (by decide) rfl rfl) (allS (own_pw P32_10 0 8 (by decide) rfl rfl) (allS (own_pw P32_10 0 9 (by decide) rfl rfl) all0))))))))) (ondS (allS (own_pw P32_10 1 2 (by decide) rfl rfl) (allS (own_pw P32_10 1 3 (by decide) rfl rfl) (allS (own_pw P32_10 1 4 (by decide) rfl rfl) (allS (own_pw P32_10 1 5 (by decide) rfl rfl) (allS (own_pw P32_10 1 6 (by decide) rfl rfl) (allS (own_pw P32_10 1 7 (by decide) rfl rfl) (allS (own_pw P32_10 1 8 (by decide) rfl rfl) (allS (own_pw P32_10 1 9 (by decide) rfl rfl) all0)))))))) (ondS (allS (own_pw P32_10 2 3 (by decide) rfl rfl) (allS (own_pw P32_10 2 4 (by decide) rfl rfl) (allS (own_pw P32_10 2 5 (by decide) rfl rfl) (allS (own_pw P32_10 2 6 (by decide) rfl rfl) (allS (own_pw P32_10 2 7 (by decide) rfl rfl) (allS (own_pw P32_10 2 8 (by decide) rfl rfl) (allS (own_pw P32_10 2 9 (by decide) rfl rfl) all0))))))) (ondS (allS (own_pw P32_10 3 4 (by decide) rfl rfl) (allS (own_pw P32_10 3 5 (by decide) rfl rfl) (allS (own_pw P32_10 3 6 (by decide) rfl rfl) (allS (own_pw P32_10 3 7 (by decide) rfl rfl) (allS (own_pw P32_10 3 8 (by decide) rfl rfl) (allS (own_pw P32_10 3 9 (by decide) rfl rfl) all0)))))) (ondS (allS (own_pw P32_10 4 5 (by decide) rfl rfl) (allS (own_pw P32_10 4 6 (by decide) rfl rfl) (allS (own_pw P32_10 4 7 (by decide) rfl rfl) (allS (own_pw P32_10 4 8 (by decide) rfl rfl) (allS (own_pw P32_10 4 9 (by decide) rfl rfl) all0))))) (ondS (allS (own_pw P32_10 5 6 (by decide) rfl rfl) (allS (own_pw P32_10 5 7 (by decide) rfl rfl) (allS (own_pw P32_10 5 8 (by decide) rfl rfl) (allS (own_pw P32_10 5 9 (by decide) rfl rfl) all0)))) (ondS (allS (own_pw P32_10 6 7 (by decide) rfl rfl) (allS (own_pw P32_10 6 8 (by decide) rfl rfl) (allS (own_pw P32_10 6 9 (by decide) rfl rfl) all0))) (ondS (allS (own_pw P32_10 7 8 (by decide) rfl rfl) (allS (own_pw P32_10 7 9 (by decide) rfl rfl) all0)) (ondS (allS (own_pw P32_10 8 9 (by decide) rfl rfl) all0) (ondS all0 ond0)))))))))))
      obtain ⟨cq35, kq35, qv35a, qv35b, qv35c⟩ := isOf hZ e32 P32_12
      obtain ⟨_, _, ⟨T35, L35, k35, n35⟩, -, X35, ⟨Lc35, hQ35, l35, y35, z35⟩, st35⟩ := X32.virtualBack hx (y := mN2) (z := mN2) hown (mvT hZ (ow hw 39 rfl)) (mvT hZ (ow hw 40 rfl)) (notFace_of_selects (args := #[]) (mvT hZ (ow hw 42 rfl))) (mvT hZ (ow hw 42 rfl)) (mvT hZ (ow hw 41 rfl)) (by decide) (backOf (W := 0) (rm_addAdm l Z a0 hw [] b30 p2 (0 : Int64) ac_32 ix_32 bn_32 ch_32 ky_32 mv_32 tr_32 fr_32 tg_32 sd_32 k_ac_32 k_fr_32 k_tg_32 k_sd_32 (.int (0 : Int32)) (.int (0 : Int32)) (.int (0 : Int32)) (.long (0 : Int64)) (.long (0 : Int64)) (.long (0 : Int64)) (.int (0 : Int32)) (.int (0 : Int32)) (.int (0 : Int32)) (.int (0 : Int32)) (.int (0 : Int32)) (.int (0 : Int32)) (0 : Int64) hp32 n0 Z32 P32_12 P32_13 P32_14 P32_15 P32_16 P32_17 P32_18 P32_19 P32_20 P32_21 P32_22 P32_23 P32_24 P32_25 P32_26 P32_33 P32_34 P32_35 g_b30 g_fr_32 g_tg_32 g_sd_32 nd36) hZ (ow hw 43 rfl) (ow hw 3 rfl) (by decide) (by decide)) qv35a qv35c (g := (mkF m 73 #[iv p1, iv p2, iv p3, iv p4, iv 0, iv 1, iv l1, iv l2, rv b28, rv b29, rv b30, iv 0, .unset] [(.long 0), (.int p2), (.ref b30)])) rfl (by rw [hml]; rfl) (Steps.refl _) (argsL := [(.int p2), (.long (0 : Int64))]) (rest := []) (lenOf pd__IJ_V rfl) rfl (by show 2 * 0 + _ ≤ _; exact Nat.le_of_eq rfl) (hb hby at_73) (fun _ _ => ⟨rfl, e32, (by decide : 13 + 0 ≤ _), (by decide : 203 + 0 ≤ _)⟩)
      dsimp only [Pt.U, Pt.locs, Pt.cells, Pt.slots] at X35 l35 y35 z35 st35 hQ35
      subst l35 y35 z35
      obtain ⟨hp35, e35⟩ : ∃ z, T35.heap = z := ⟨_, rfl⟩
      rw [e35] at hQ35
      obtain ⟨rfl, Nq35, K35, P35_0, P35_1, P35_2, P35_3, P35_4, P35_5, P35_6, P35_7, P35_8, P35_9, P35_10, P35_11, P35_12, P35_13, P35_14, P35_15, P35_16⟩ := hQ35
      have Z35 : n0 ≤ hp35.size := Nat.le_trans Z32 K35.1
      have N35 := Fr.app N32 Nq35
      replace K : OGo p e below A0 T35 (mkF m 76 #[iv p1, iv p2, iv p3, iv p4, iv 0, iv 1, iv l1, iv l2, rv b28, rv b29, rv b30, iv 0, .unset] []) := fun t k => K t (st35.trans k)
      replace K : OGo p e below A0 T35 (mkF m 77 #[iv p1, iv p2, iv p3, iv p4, iv 0, iv 1, iv l1, iv l2, rv b28, rv b29, rv b30, iv 0, .unset] [(.int 1)]) := fun t k => K t (XS.iconst X35.here hx rfl (hb hby at_76) k)
      replace K : OGo p e below A0 T35 (mkF m 79 #[iv p1, iv p2, iv p3, iv p4, iv 0, iv 1, iv l1, iv l2, rv b28, rv b29, rv b30, iv 1, .unset] []) := fun t k => K t (XS.istore X35.here hx rfl (hb hby at_77) rfl (l' := #[iv p1, iv p2, iv p3, iv p4, iv 0, iv 1, iv l1, iv l2, rv b28, rv b29, rv b30, iv 1, .unset]) rfl k)
      replace K : OGo p e below A0 T35 (mkF m 81 #[iv p1, iv p2, iv p3, iv p4, iv 0, iv 1, iv l1, iv l2, rv b28, rv b29, rv b30, iv 1, .unset] [(.ref b30)]) := fun t k => K t (XS.aload X35.here hx rfl (hb hby at_79) rfl rfl k)
      replace K : OGo p e below A0 T35 (mkF m 82 #[iv p1, iv p2, iv p3, iv p4, iv 0, iv 1, iv l1, iv l2, rv b28, rv b29, rv b30, iv 1, .unset] [(.int 1), (.ref b30)]) := fun t k => K t (XS.iconst X35.here hx rfl (hb hby at_81) k)
      replace K : OGo p e below A0 T35 (mkF m 83 #[iv p1, iv p2, iv p3, iv p4, iv 0, iv 1, iv l1, iv l2, rv b28, rv b29, rv b30, iv 1, .unset] [(.int 2), (.int 1), (.ref b30)]) := fun t k => K t (XS.iconst X35.here hx rfl (hb hby at_82) k)
      replace K : OGo p e below A0 T35 (mkF m 84 #[iv p1, iv p2, iv p3, iv p4, iv 0, iv 1, iv l1, iv l2, rv b28, rv b29, rv b30, iv 1, .unset] [(.int 3), (.int 2), (.int 1), (.ref b30)]) := fun t k => K t (XS.iconst X35.here hx rfl (hb hby at_83) k)
      replace K : OGo p e below A0 T35 (mkF m 85 #[iv p1, iv p2, iv p3, iv p4, iv 0, iv 1, iv l1, iv l2, rv b28, rv b29, rv b30, iv 1, .unset] [(.int 0), (.int 3), (.int 2), (.int 1), (.ref b30)]) := fun t k => K t (XS.iconst X35.here hx rfl (hb hby at_84) k)
      replace K : OGo p e below A0 T35 (mkF m 87 #[iv p1, iv p2, iv p3, iv p4, iv 0, iv 1, iv l1, iv l2, rv b28, rv b29, rv b30, iv 1, .unset] [(.ref b28), (.int 0), (.int 3), (.int 2), (.int 1), (.ref b30)]) := fun t k => K t (XS.aload X35.here hx rfl (hb hby at_85) rfl rfl k)
      replace K : OGo p e below A0 T35 (mkF m 88 #[iv p1, iv p2, iv p3, iv p4, iv 0, iv 1, iv l1, iv l2, rv b28, rv b29, rv b30, iv 1, .unset] [.null, (.ref b28), (.int 0), (.int 3), (.int 2), (.int 1), (.ref b30)]) := fun t k => K t (XS.aconstNull X35.here hx rfl (hb hby at_87) k)
      replace K : OGo p e below A0 T35 (mkF m 91 #[iv p1, iv p2, iv p3, iv p4, iv 0, iv 1, iv l1, iv l2, rv b28, rv b29, rv b30, iv 1, .unset] [(.long 5), .null, (.ref b28), (.int 0), (.int 3), (.int 2), (.int 1), (.ref b30)]) := fun t k => K t (X35.ldc2Long hx hown (mvT hZ (ow hw 52 rfl)) (g := (mkF m 88 #[iv p1, iv p2, iv p3, iv p4, iv 0, iv 1, iv l1, iv l2, rv b28, rv b29, rv b30, iv 1, .unset] [.null, (.ref b28), (.int 0), (.int 3), (.int 2), (.int 1), (.ref b30)])) rfl (hb hby at_88) t k)
      replace K : OGo p e below A0 T35 (mkF m 92 #[iv p1, iv p2, iv p3, iv p4, iv 0, iv 1, iv l1, iv l2, rv b28, rv b29, rv b30, iv 1, .unset] [.null, (.long 5), .null, (.ref b28), (.int 0), (.int 3), (.int 2), (.int 1), (.ref b30)]) := fun t k => K t (XS.aconstNull X35.here hx rfl (hb hby at_91) k)
      have V_ac_32_38 := (P32_26.keep K35 (ninS (Ne.symm ne_b30_ac_32) (ninS (own_pw P32_10 0 7 (by decide) rfl rfl) (ninS (own_pw P32_10 0 8 (by decide) rfl rfl) (ninS (own_pw P32_10 0 9 (by decide) rfl rfl) nin0)))))
      have V_ix_32_39 := (P32_27.keep K35 (ninS (Ne.symm ne_b30_ix_32) (ninS (own_pw P32_10 1 7 (by decide) rfl rfl) (ninS (own_pw P32_10 1 8 (by decide) rfl rfl) (ninS (own_pw P32_10 1 9 (by decide) rfl rfl) nin0)))))
      have V_bn_32_40 := (P32_28.keep K35 (ninS (Ne.symm ne_b30_bn_32) (ninS (own_pw P32_10 2 7 (by decide) rfl rfl) (ninS (own_pw P32_10 2 8 (by decide) rfl rfl) (ninS (own_pw P32_10 2 9 (by decide) rfl rfl) nin0)))))
      have V_ch_32_41 := (P32_29.keep K35 (ninS (Ne.symm ne_b30_ch_32) (ninS (own_pw P32_10 3 7 (by decide) rfl rfl) (ninS (own_pw P32_10 3 8 (by decide) rfl rfl) (ninS (own_pw P32_10 3 9 (by decide) rfl rfl) nin0)))))
      have V_ky_32_42 := (P32_30.keep K35 (ninS (Ne.symm ne_b30_ky_32) (ninS (own_pw P32_10 4 7 (by decide) rfl rfl) (ninS (own_pw P32_10 4 8 (by decide) rfl rfl) (ninS (own_pw P32_10 4 9 (by decide) rfl rfl) nin0)))))
      have V_mv_32_43 := (P32_31.keep K35 (ninS (Ne.symm ne_b30_mv_32) (ninS (own_pw P32_10 5 7 (by decide) rfl rfl) (ninS (own_pw P32_10 5 8 (by decide) rfl rfl) (ninS (own_pw P32_10 5 9 (by decide) rfl rfl) nin0)))))
      have V_tr_32_44 := (P32_32.keep K35 (ninS (Ne.symm ne_b30_tr_32) (ninS (own_pw P32_10 6 7 (by decide) rfl rfl) (ninS (own_pw P32_10 6 8 (by decide) rfl rfl) (ninS (own_pw P32_10 6 9 (by decide) rfl rfl) nin0)))))
      have V_b28_45 := ((((V_b28.ext E29).ext E30).keep K32 (ninS ne_b28_b30 nin0)).keep K35 (ninS ne_b28_b30 (ninS ne_b28_fr_32 (ninS ne_b28_tg_32 (ninS ne_b28_sd_32 nin0)))))
      have Q28_46 := ((Q28_33.keep K32).keep K35)
      have nd47 : OND [b30, ac_32, ix_32, bn_32, ch_32, ky_32, mv_32, tr_32, fr_32, tg_32, sd_32, b28] := (ondS (allS ne_b30_ac_32 (allS ne_b30_ix_32 (allS ne_b30_bn_32 (allS ne_b30_ch_32 (allS ne_b30_ky_32 (allS ne_b30_mv_32 (allS ne_b30_tr_32 (allS ne_b30_fr_32 (allS ne_b30_tg_32 (allS ne_b30_sd_32 (allS (Ne.symm ne_b28_b30) all0))))))))))) (ondS (allS (own_pw P32_10 0 1 (by decide) rfl rfl) (allS (own_pw P32_10 0 2 (by decide) rfl rfl) (allS (own_pw P32_10 0 3 (by decide) rfl rfl) (allS (own_pw P32_10 0 4 (by decide) rfl rfl) (allS (own_pw P32_10 0 5 (by decide) rfl rfl) (allS (own_pw P32_10 0 6 (by decide) rfl rfl) (allS (own_pw P32_10 0 7 (by decide) rfl rfl) (allS (own_pw P32_10 0 8 (by decide) rfl rfl) (allS (own_pw P32_10 0 9 (by decide) rfl rfl) (allS (Ne.symm ne_b28_ac_32) all0)))))))))) (ondS (allS (own_pw P32_10 1 2 (by decide) rfl rfl) (allS (own_pw P32_10 1 3 (by decide) rfl rfl) (allS (own_pw P32_10 1 4 (by decide) rfl rfl) (allS (own_pw P32_10 1 5 (by decide) rfl rfl) (allS (own_pw P32_10 1 6 (by decide) rfl rfl) (allS (own_pw P32_10 1 7 (by decide) rfl rfl) (allS (own_pw P32_10 1 8 (by decide) rfl rfl) (allS (own_pw P32_10 1 9 (by decide) rfl rfl) (allS (Ne.symm ne_b28_ix_32) all0))))))))) (ondS (allS (own_pw P32_10 2 3 (by decide) rfl rfl) (allS (own_pw P32_10 2 4 (by decide) rfl rfl) (allS (own_pw P32_10 2 5 (by decide) rfl rfl) (allS (own_pw P32_10 2 6 (by decide) rfl rfl) (allS (own_pw P32_10 2 7 (by decide) rfl rfl) (allS (own_pw P32_10 2 8 (by decide) rfl rfl) (allS (own_pw P32_10 2 9 (by decide) rfl rfl) (allS (Ne.symm ne_b28_bn_32) all0)))))))) (ondS (allS (own_pw P32_10 3 4 (by decide) rfl rfl) (allS (own_pw P32_10 3 5 (by decide) rfl rfl) (allS (own_pw P32_10 3 6 (by decide) rfl rfl) (allS (own_pw P32_10 3 7 (by decide) rfl rfl) (allS (own_pw P32_10 3 8 (by decide) rfl rfl) (allS (own_pw P32_10 3 9 (by decide) rfl rfl) (allS (Ne.symm ne_b28_ch_32) all0))))))) (ondS (allS (own_pw P32_10 4 5 (by decide) rfl rfl) (allS (own_pw P32_10 4 6 (by decide) rfl rfl) (allS (own_pw P32_10 4 7 (by decide) rfl rfl) (allS (own_pw P32_10 4 8 (by decide) rfl rfl) (allS (own_pw P32_10 4 9 (by decide) rfl rfl) (allS (Ne.symm ne_b28_ky_32) all0)))))) (ondS (allS (own_pw P32_10 5 6 (by decide) rfl rfl) (allS (own_pw P32_10 5 7 (by decide) rfl rfl) (allS (own_pw P32_10 5 8 (by decide) rfl rfl) (allS (own_pw P32_10 5 9 (by decide) rfl rfl) (allS (Ne.symm ne_b28_mv_32) all0))))) (ondS (allS (own_pw P32_10 6 7 (by decide) rfl rfl) (allS (own_pw P32_10 6 8 (by decide) rfl rfl) (allS (own_pw P32_10 6 9 (by decide) rfl rfl) (allS (Ne.symm ne_b28_tr_32) all0)))) (ondS (allS (own_pw P32_10 7 8 (by decide) rfl rfl) (allS (own_pw P32_10 7 9 (by decide) rfl rfl) (allS (Ne.symm ne_b28_fr_32) all0))) (ondS (allS (own_pw P32_10 8 9 (by decide) rfl rfl) (allS (Ne.symm ne_b28_tg_32) all0)) (ondS (allS (Ne.symm ne_b28_sd_32) all0) (ondS all0 ond0))))))))))))
      obtain ⟨cq37, kq37, qv37a, qv37b, qv37c⟩ := isOf hZ e35 P35_0
      obtain ⟨_, _, ⟨T37, L37, k37, n37⟩, -, X37, ⟨Lc37, hQ37, l37, y37, z37⟩, st37⟩ := X35.virtualBack hx (y := mN3) (z := mN3) hown (mvT hZ (ow hw 53 rfl)) (mvT hZ (ow hw 54 rfl)) (notFace_of_selects (args := #[]) (mvT hZ (ow hw 56 rfl))) (mvT hZ (ow hw 56 rfl)) (mvT hZ (ow hw 55 rfl)) (by decide) (backOf (W := 0) (rm_add1 l Z a0 hw [] b30 (1 : Int32) (2 : Int32) (3 : Int32) (0 : Int32) b28 (5 : Int64) ac_32 ix_32 bn_32 ch_32 ky_32 mv_32 tr_32 fr_32 tg_32 sd_32 k_ac_32 k_ix_32 k_bn_32 k_ch_32 k_ky_32 k_mv_32 k_tr_32 k_fr_32 (.int (0 : Int32)) (.int (0 : Int32)) (.int (0 : Int32)) (.int (0 : Int32)) (.int (0 : Int32)) (.int (0 : Int32)) (.int (0 : Int32)) (.int (0 : Int32)) (.int (0 : Int32)) (.int (0 : Int32)) (.int (0 : Int32)) (.int (0 : Int32)) .null .null .null .null .null .null .null .null .null (.long (0 : Int64)) (.long (0 : Int64)) (.long (0 : Int64)) (List.replicate l1.toNatClampNeg (.int (0 : Int32))) k28 l1 (1 : Int32) (0 : Int64) hp35 n0 Z35 P35_0 P35_1 P35_2 P35_3 P35_4 P35_5 P35_6 P35_7 P35_8 P35_9 P35_10 P35_11 P35_12 P35_13 V_ac_32_38 V_ix_32_39 V_bn_32_40 V_ch_32_41 V_ky_32_42 V_mv_32_43 V_tr_32_44 P35_14 V_b28_45 Q28_46 (own_rl hl1 _) P32_11 g_b30 g_ac_32 g_ix_32 g_bn_32 g_ch_32 g_ky_32 g_mv_32 g_tr_32 g_fr_32 nd47) hZ (ow hw 57 rfl) (ow hw 3 rfl) (by decide) (by decide)) qv37a qv37c (g := (mkF m 92 #[iv p1, iv p2, iv p3, iv p4, iv 0, iv 1, iv l1, iv l2, rv b28, rv b29, rv b30, iv 1, .unset] [.null, (.long 5), .null, (.ref b28), (.int 0), (.int 3), (.int 2), (.int 1), (.ref b30)])) rfl (by rw [hml]; rfl) (Steps.refl _) (argsL := [(.int (1 : Int32)), (.int (2 : Int32)), (.int (3 : Int32)), (.int (0 : Int32)), (.ref b28), .null, (.long (5 : Int64)), .null]) (rest := []) (lenOf pd__IIIZ_BLcom_example_flote_flote_search_Search_Moves_JLcom_example_flote_flote_search_Search_Branches__V rfl) rfl (by show 2 * 0 + _ ≤ _; exact Nat.le_of_eq rfl) (hb hby at_92) (fun _ _ => ⟨rfl, e35, (by decide : 13 + 0 ≤ _), (by decide : 203 + 0 ≤ _)⟩)
      dsimp only [Pt.U, Pt.locs, Pt.cells, Pt.slots] at X37 l37 y37 z37 st37 hQ37
      subst l37 y37 z37
      obtain ⟨hp37, e37⟩ : ∃ z, T37.heap = z := ⟨_, rfl⟩
      rw [e37] at hQ37
      obtain ⟨rfl, Nq37, K37, P37_0, P37_1, P37_2, P37_3, P37_4, P37_5, P37_6, P37_7, P37_8, P37_9, P37_10, P37_11, P37_12, P37_13, P37_14, P37_15, P37_16, P37_17, P37_18, P37_19, P37_20, P37_21⟩ := hQ37
      have Z37 : n0 ≤ hp37.size := Nat.le_trans Z35 K37.1
      have N37 := Fr.app N35 Nq37
      replace K : OGo p e below A0 T37 (mkF m 95 #[iv p1, iv p2, iv p3, iv p4, iv 0, iv 1, iv l1, iv l2, rv b28, rv b29, rv b30, iv 1, .unset] []) := fun t k => K t (st37.trans k)
      replace K : OGo p e below A0 T37 (mkF m 97 #[iv p1, iv p2, iv p3, iv p4, iv 0, iv 1, iv l1, iv l2, rv b28, rv b29, rv b30, iv 1, .unset] [(.ref b30)]) := fun t k => K t (XS.aload X37.here hx rfl (hb hby at_95) rfl rfl k)
      replace K : OGo p e below A0 T37 (mkF m 98 #[iv p1, iv p2, iv p3, iv p4, iv 0, iv 1, iv l1, iv l2, rv b28, rv b29, rv b30, iv 1, .unset] [(.int 4), (.ref b30)]) := fun t k => K t (XS.iconst X37.here hx rfl (hb hby at_97) k)
      replace K : OGo p e below A0 T37 (mkF m 99 #[iv p1, iv p2, iv p3, iv p4, iv 0, iv 1, iv l1, iv l2, rv b28, rv b29, rv b30, iv 1, .unset] [(.int 5), (.int 4), (.ref b30)]) := fun t k => K t (XS.iconst X37.here hx rfl (hb hby at_98) k)
      replace K : OGo p e below A0 T37 (mkF m 101 #[iv p1, iv p2, iv p3, iv p4, iv 0, iv 1, iv l1, iv l2, rv b28, rv b29, rv b30, iv 1, .unset] [(.int 6), (.int 5), (.int 4), (.ref b30)]) := fun t k => K t (XS.bipush X37.here hx rfl (hb hby at_99) k)
      replace K : OGo p e below A0 T37 (mkF m 102 #[iv p1, iv p2, iv p3, iv p4, iv 0, iv 1, iv l1, iv l2, rv b28, rv b29, rv b30, iv 1, .unset] [(.int 1), (.int 6), (.int 5), (.int 4), (.ref b30)]) := fun t k => K t (XS.iconst X37.here hx rfl (hb hby at_101) k)
      replace K : OGo p e below A0 T37 (mkF m 104 #[iv p1, iv p2, iv p3, iv p4, iv 0, iv 1, iv l1, iv l2, rv b28, rv b29, rv b30, iv 1, .unset] [(.ref b29), (.int 1), (.int 6), (.int 5), (.int 4), (.ref b30)]) := fun t k => K t (XS.aload X37.here hx rfl (hb hby at_102) rfl rfl k)
      replace K : OGo p e below A0 T37 (mkF m 105 #[iv p1, iv p2, iv p3, iv p4, iv 0, iv 1, iv l1, iv l2, rv b28, rv b29, rv b30, iv 1, .unset] [.null, (.ref b29), (.int 1), (.int 6), (.int 5), (.int 4), (.ref b30)]) := fun t k => K t (XS.aconstNull X37.here hx rfl (hb hby at_104) k)
      replace K : OGo p e below A0 T37 (mkF m 108 #[iv p1, iv p2, iv p3, iv p4, iv 0, iv 1, iv l1, iv l2, rv b28, rv b29, rv b30, iv 1, .unset] [(.long 7), .null, (.ref b29), (.int 1), (.int 6), (.int 5), (.int 4), (.ref b30)]) := fun t k => K t (X37.ldc2Long hx hown (mvT hZ (ow hw 61 rfl)) (g := (mkF m 105 #[iv p1, iv p2, iv p3, iv p4, iv 0, iv 1, iv l1, iv l2, rv b28, rv b29, rv b30, iv 1, .unset] [.null, (.ref b29), (.int 1), (.int 6), (.int 5), (.int 4), (.ref b30)])) rfl (hb hby at_105) t k)
      replace K : OGo p e below A0 T37 (mkF m 109 #[iv p1, iv p2, iv p3, iv p4, iv 0, iv 1, iv l1, iv l2, rv b28, rv b29, rv b30, iv 1, .unset] [.null, (.long 7), .null, (.ref b29), (.int 1), (.int 6), (.int 5), (.int 4), (.ref b30)]) := fun t k => K t (XS.aconstNull X37.here hx rfl (hb hby at_108) k)
      have V_b29_49 := ((((V_b29.ext E30).keep K32 (ninS ne_b29_b30 nin0)).keep K35 (ninS ne_b29_b30 (ninS ne_b29_fr_32 (ninS ne_b29_tg_32 (ninS ne_b29_sd_32 nin0))))).keep K37 (ninS ne_b29_b30 (ninS ne_b29_ac_32 (ninS ne_b29_ix_32 (ninS ne_b29_bn_32 (ninS ne_b29_ch_32 (ninS ne_b29_ky_32 (ninS ne_b29_mv_32 (ninS ne_b29_tr_32 (ninS ne_b29_fr_32 nin0))))))))))
      have Q29_50 := (((Q29_34.keep K32).keep K35).keep K37)
      have nd51 : OND [b30, ac_32, ix_32, bn_32, ch_32, ky_32, mv_32, tr_32, fr_32, tg_32, sd_32, b29] := (ondS (allS ne_b30_ac_32 (allS ne_b30_ix_32 (allS ne_b30_bn_32 (allS ne_b30_ch_32 (allS ne_b30_ky_32 (allS ne_b30_mv_32 (allS ne_b30_tr_32 (allS ne_b30_fr_32 (allS ne_b30_tg_32 (allS ne_b30_sd_32 (allS (Ne.symm ne_b29_b30) all0))))))))))) (ondS (allS (own_pw P32_10 0 1 (by decide) rfl rfl) (allS (own_pw P32_10 0 2 (by decide) rfl rfl) (allS (own_pw P32_10 0 3 (by decide) rfl rfl) (allS (own_pw P32_10 0 4 (by decide) rfl rfl) (allS (own_pw P32_10 0 5 (by decide) rfl rfl) (allS (own_pw P32_10 0 6 (by decide) rfl rfl) (allS (own_pw P32_10 0 7 (by decide) rfl rfl) (allS (own_pw P32_10 0 8 (by decide) rfl rfl) (allS (own_pw P32_10 0 9 (by decide) rfl rfl) (allS (Ne.symm ne_b29_ac_32) all0)))))))))) (ondS (allS (own_pw P32_10 1 2 (by decide) rfl rfl) (allS (own_pw P32_10 1 3 (by decide) rfl rfl) (allS (own_pw P32_10 1 4 (by decide) rfl rfl) (allS (own_pw P32_10 1 5 (by decide) rfl rfl) (allS (own_pw P32_10 1 6 (by decide) rfl rfl) (allS (own_pw P32_10 1 7 (by decide) rfl rfl) (allS (own_pw P32_10 1 8 (by decide) rfl rfl) (allS (own_pw P32_10 1 9 (by decide) rfl rfl) (allS (Ne.symm ne_b29_ix_32) all0))))))))) (ondS (allS (own_pw P32_10 2 3 (by decide) rfl rfl) (allS (own_pw P32_10 2 4 (by decide) rfl rfl) (allS (own_pw P32_10 2 5 (by decide) rfl rfl) (allS (own_pw P32_10 2 6 (by decide) rfl rfl) (allS (own_pw P32_10 2 7 (by decide) rfl rfl) (allS (own_pw P32_10 2 8 (by decide) rfl rfl) (allS (own_pw P32_10 2 9 (by decide) rfl rfl) (allS (Ne.symm ne_b29_bn_32) all0)))))))) (ondS (allS (own_pw P32_10 3 4 (by decide) rfl rfl) (allS (own_pw P32_10 3 5 (by decide) rfl rfl) (allS (own_pw P32_10 3 6 (by decide) rfl rfl) (allS (own_pw P32_10 3 7 (by decide) rfl rfl) (allS (own_pw P32_10 3 8 (by decide) rfl rfl) (allS (own_pw P32_10 3 9 (by decide) rfl rfl) (allS (Ne.symm ne_b29_ch_32) all0))))))) (ondS (allS (own_pw P32_10 4 5 (by decide) rfl rfl) (allS (own_pw P32_10 4 6 (by decide) rfl rfl) (allS (own_pw P32_10 4 7 (by decide) rfl rfl) (allS (own_pw P32_10 4 8 (by decide) rfl rfl) (allS (own_pw P32_10 4 9 (by decide) rfl rfl) (allS (Ne.symm ne_b29_ky_32) all0)))))) (ondS (allS (own_pw P32_10 5 6 (by decide) rfl rfl) (allS (own_pw P32_10 5 7 (by decide) rfl rfl) (allS (own_pw P32_10 5 8 (by decide) rfl rfl) (allS (own_pw P32_10 5 9 (by decide) rfl rfl) (allS (Ne.symm ne_b29_mv_32) all0))))) (ondS (allS (own_pw P32_10 6 7 (by decide) rfl rfl) (allS (own_pw P32_10 6 8 (by decide) rfl rfl) (allS (own_pw P32_10 6 9 (by decide) rfl rfl) (allS (Ne.symm ne_b29_tr_32) all0)))) (ondS (allS (own_pw P32_10 7 8 (by decide) rfl rfl) (allS (own_pw P32_10 7 9 (by decide) rfl rfl) (allS (Ne.symm ne_b29_fr_32) all0))) (ondS (allS (own_pw P32_10 8 9 (by decide) rfl rfl) (allS (Ne.symm ne_b29_tg_32) all0)) (ondS (allS (Ne.symm ne_b29_sd_32) all0) (ondS all0 ond0))))))))))))
      obtain ⟨cq48, kq48, qv48a, qv48b, qv48c⟩ := isOf hZ e37 P37_0
      obtain ⟨_, _, ⟨T48, L48, k48, n48⟩, -, X48, ⟨Lc48, hQ48, l48, y48, z48⟩, st48⟩ := X37.virtualBack hx (y := mN3) (z := mN3) hown (mvT hZ (ow hw 53 rfl)) (mvT hZ (ow hw 54 rfl)) (notFace_of_selects (args := #[]) (mvT hZ (ow hw 56 rfl))) (mvT hZ (ow hw 56 rfl)) (mvT hZ (ow hw 55 rfl)) (by decide) (backOf (W := 0) (rm_add2 l Z a0 hw [] b30 (4 : Int32) (5 : Int32) (6 : Int32) (1 : Int32) b29 (7 : Int64) ac_32 ix_32 bn_32 ch_32 ky_32 mv_32 tr_32 fr_32 tg_32 sd_32 k_ac_32 k_ix_32 k_bn_32 k_ch_32 k_ky_32 k_mv_32 k_tr_32 k_fr_32 (.int (0 : Int32)) (.int (1 : Int32)) (.int (0 : Int32)) (.int (0 : Int32)) (.int (2 : Int32)) (.int (0 : Int32)) (.int (0 : Int32)) (.int (3 : Int32)) (.int (0 : Int32)) (.int (0 : Int32)) (.int (nar .boolean (0 : Int32))) (.int (0 : Int32)) .null (.ref b28) .null .null .null .null .null .null .null (.long (0 : Int64)) (.long (5 : Int64)) (.long (0 : Int64)) (List.replicate l2.toNatClampNeg (.int (0 : Int32))) k29 l2 (1 : Int32) ((0 : Int64) + ((l1 + (1 : Int32)).toInt64)) hp37 n0 Z37 P37_0 P37_1 P37_2 P37_3 P37_4 P37_5 P37_6 P37_7 P37_8 P37_9 P37_10 P37_11 P37_12 P37_13 P37_14 P37_15 P37_16 P37_17 P37_18 P37_19 P37_20 P37_21 V_b29_49 Q29_50 (own_rl hl2 _) P32_11 g_b30 g_ac_32 g_ix_32 g_bn_32 g_ch_32 g_ky_32 g_mv_32 g_tr_32 g_fr_32 nd51) hZ (ow hw 57 rfl) (ow hw 3 rfl) (by decide) (by decide)) qv48a qv48c (g := (mkF m 109 #[iv p1, iv p2, iv p3, iv p4, iv 0, iv 1, iv l1, iv l2, rv b28, rv b29, rv b30, iv 1, .unset] [.null, (.long 7), .null, (.ref b29), (.int 1), (.int 6), (.int 5), (.int 4), (.ref b30)])) rfl (by rw [hml]; rfl) (Steps.refl _) (argsL := [(.int (4 : Int32)), (.int (5 : Int32)), (.int (6 : Int32)), (.int (1 : Int32)), (.ref b29), .null, (.long (7 : Int64)), .null]) (rest := []) (lenOf pd__IIIZ_BLcom_example_flote_flote_search_Search_Moves_JLcom_example_flote_flote_search_Search_Branches__V rfl) rfl (by show 2 * 0 + _ ≤ _; exact Nat.le_of_eq rfl) (hb hby at_109) (fun _ _ => ⟨rfl, e37, (by decide : 13 + 0 ≤ _), (by decide : 203 + 0 ≤ _)⟩)
      dsimp only [Pt.U, Pt.locs, Pt.cells, Pt.slots] at X48 l48 y48 z48 st48 hQ48
      subst l48 y48 z48
      obtain ⟨hp48, e48⟩ : ∃ z, T48.heap = z := ⟨_, rfl⟩
      rw [e48] at hQ48
      obtain ⟨rfl, Nq48, K48, P48_0, P48_1, P48_2, P48_3, P48_4, P48_5, P48_6, P48_7, P48_8, P48_9, P48_10, P48_11, P48_12, P48_13, P48_14, P48_15, P48_16, P48_17, P48_18, P48_19, P48_20, P48_21⟩ := hQ48
      have Z48 : n0 ≤ hp48.size := Nat.le_trans Z37 K48.1
      have N48 := Fr.app N37 Nq48
      replace K : OGo p e below A0 T48 (mkF m 112 #[iv p1, iv p2, iv p3, iv p4, iv 0, iv 1, iv l1, iv l2, rv b28, rv b29, rv b30, iv 1, .unset] []) := fun t k => K t (st48.trans k)
      replace K : OGo p e below A0 T48 (mkF m 114 #[iv p1, iv p2, iv p3, iv p4, iv 0, iv 1, iv l1, iv l2, rv b28, rv b29, rv b30, iv 1, .unset] [(.ref b30)]) := fun t k => K t (XS.aload X48.here hx rfl (hb hby at_112) rfl rfl k)
      replace K : OGo p e below A0 T48 (mkF m 115 #[iv p1, iv p2, iv p3, iv p4, iv 0, iv 1, iv l1, iv l2, rv b28, rv b29, rv b30, iv 1, .unset] [(.int p1), (.ref b30)]) := fun t k => K t (XS.iloadN X48.here hx rfl (hb hby at_114) rfl k)
      replace K : OGo p e below A0 T48 (mkF m 117 #[iv p1, iv p2, iv p3, iv p4, iv 0, iv 1, iv l1, iv l2, rv b28, rv b29, rv b30, iv 1, .unset] [(.int 0), (.int p1), (.ref b30)]) := fun t k => K t (XS.iload X48.here hx rfl (hb hby at_115) rfl k)
      have V_tg_32_53 := ((P35_15.keep K37 (ninS (Ne.symm ne_b30_tg_32) (ninS (Ne.symm (own_pw P32_10 0 8 (by decide) rfl rfl)) (ninS (Ne.symm (own_pw P32_10 1 8 (by decide) rfl rfl)) (ninS (Ne.symm (own_pw P32_10 2 8 (by decide) rfl rfl)) (ninS (Ne.symm (own_pw P32_10 3 8 (by decide) rfl rfl)) (ninS (Ne.symm (own_pw P32_10 4 8 (by decide) rfl rfl)) (ninS (Ne.symm (own_pw P32_10 5 8 (by decide) rfl rfl)) (ninS (Ne.symm (own_pw P32_10 6 8 (by decide) rfl rfl)) (ninS (Ne.symm (own_pw P32_10 7 8 (by decide) rfl rfl)) nin0)))))))))).keep K48 (ninS (Ne.symm ne_b30_tg_32) (ninS (Ne.symm (own_pw P32_10 0 8 (by decide) rfl rfl)) (ninS (Ne.symm (own_pw P32_10 1 8 (by decide) rfl rfl)) (ninS (Ne.symm (own_pw P32_10 2 8 (by decide) rfl rfl)) (ninS (Ne.symm (own_pw P32_10 3 8 (by decide) rfl rfl)) (ninS (Ne.symm (own_pw P32_10 4 8 (by decide) rfl rfl)) (ninS (Ne.symm (own_pw P32_10 5 8 (by decide) rfl rfl)) (ninS (Ne.symm (own_pw P32_10 6 8 (by decide) rfl rfl)) (ninS (Ne.symm (own_pw P32_10 7 8 (by decide) rfl rfl)) nin0))))))))))
      have V_sd_32_54 := ((P35_16.keep K37 (ninS (Ne.symm ne_b30_sd_32) (ninS (Ne.symm (own_pw P32_10 0 9 (by decide) rfl rfl)) (ninS (Ne.symm (own_pw P32_10 1 9 (by decide) rfl rfl)) (ninS (Ne.symm (own_pw P32_10 2 9 (by decide) rfl rfl)) (ninS (Ne.symm (own_pw P32_10 3 9 (by decide) rfl rfl)) (ninS (Ne.symm (own_pw P32_10 4 9 (by decide) rfl rfl)) (ninS (Ne.symm (own_pw P32_10 5 9 (by decide) rfl rfl)) (ninS (Ne.symm (own_pw P32_10 6 9 (by decide) rfl rfl)) (ninS (Ne.symm (own_pw P32_10 7 9 (by decide) rfl rfl)) nin0)))))))))).keep K48 (ninS (Ne.symm ne_b30_sd_32) (ninS (Ne.symm (own_pw P32_10 0 9 (by decide) rfl rfl)) (ninS (Ne.symm (own_pw P32_10 1 9 (by decide) rfl rfl)) (ninS (Ne.symm (own_pw P32_10 2 9 (by decide) rfl rfl)) (ninS (Ne.symm (own_pw P32_10 3 9 (by decide) rfl rfl)) (ninS (Ne.symm (own_pw P32_10 4 9 (by decide) rfl rfl)) (ninS (Ne.symm (own_pw P32_10 5 9 (by decide) rfl rfl)) (ninS (Ne.symm (own_pw P32_10 6 9 (by decide) rfl rfl)) (ninS (Ne.symm (own_pw P32_10 7 9 (by decide) rfl rfl)) nin0))))))))))
      have V_b28_55 := ((V_b28_45.keep K37 (ninS ne_b28_b30 (ninS ne_b28_ac_32 (ninS ne_b28_ix_32 (ninS ne_b28_bn_32 (ninS ne_b28_ch_32 (ninS ne_b28_ky_32 (ninS ne_b28_mv_32 (ninS ne_b28_tr_32 (ninS ne_b28_fr_32 nin0)))))))))).keep K48 (ninS ne_b28_b30 (ninS ne_b28_ac_32 (ninS ne_b28_ix_32 (ninS ne_b28_bn_32 (ninS ne_b28_ch_32 (ninS ne_b28_ky_32 (ninS ne_b28_mv_32 (ninS ne_b28_tr_32 (ninS ne_b28_fr_32 nin0))))))))))
      obtain ⟨cq52, kq52, qv52a, qv52b, qv52c⟩ := isOf hZ e48 P48_0
      obtain ⟨_, _, ⟨T52, L52, k52, n52⟩, -, X52, ⟨Lc52, hQ52, l52, y52, z52⟩, st52⟩ := X48.virtualBack hx (y := mN4) (z := mN4) hown (mvT hZ (ow hw 62 rfl)) (mvT hZ (ow hw 63 rfl)) (notFace_of_selects (args := #[]) (mvT hZ (ow hw 65 rfl))) (mvT hZ (ow hw 65 rfl)) (mvT hZ (ow hw 64 rfl)) (by decide) (backOf (W := 0) (rm_admit10 l Z a0 hw [] b30 p1 ac_32 ix_32 bn_32 ch_32 ky_32 mv_32 tr_32 fr_32 tg_32 sd_32 k_tg_32 k_sd_32 k_ky_32 k_tr_32 (.int p2) (.int (0 : Int32)) (.int (0 : Int32)) (.int (0 : Int32)) (.int (0 : Int32)) (.int (0 : Int32)) .null (.ref b29) .null .null .null b28 (List.replicate l1.toNatClampNeg (.int (0 : Int32))) k28 l1 (3 : Int32) (((0 : Int64) + ((l1 + (1 : Int32)).toInt64)) + ((l2 + (1 : Int32)).toInt64)) hp48 n0 Z48 P48_0 P48_1 P48_2 P48_3 P48_4 P48_5 P48_6 P48_7 P48_8 P48_9 P48_10 P48_11 P48_12 P48_13 V_tg_32_53 V_sd_32_54 P48_20 P48_18 V_b28_55 (own_rl hl1 _) g_b30 g_tg_32 g_sd_32 g_ky_32 g_tr_32 nd47) hZ (ow hw 66 rfl) (ow hw 3 rfl) (by decide) (by decide)) qv52a qv52c (g := (mkF m 117 #[iv p1, iv p2, iv p3, iv p4, iv 0, iv 1, iv l1, iv l2, rv b28, rv b29, rv b30, iv 1, .unset] [(.int 0), (.int p1), (.ref b30)])) rfl (by rw [hml]; rfl) (Steps.refl _) (argsL := [(.int p1), (.int (0 : Int32))]) (rest := []) (lenOf pd__IZ_V rfl) rfl (by show 2 * 0 + _ ≤ _; exact Nat.le_of_eq rfl) (hb hby at_117) (fun _ _ => ⟨rfl, e48, (by decide : 13 + 0 ≤ _), (by decide : 203 + 0 ≤ _)⟩)
      dsimp only [Pt.U, Pt.locs, Pt.cells, Pt.slots] at X52 l52 y52 z52 st52 hQ52
      subst l52 y52 z52
      obtain ⟨hp52, e52⟩ : ∃ z, T52.heap = z := ⟨_, rfl⟩
      rw [e52] at hQ52
      obtain ⟨rfl, Nq52, K52, P52_0, P52_1, P52_2, P52_3, P52_4, P52_5, P52_6, P52_7, P52_8, P52_9, P52_10, P52_11, P52_12, P52_13, P52_14, P52_15, P52_16, P52_17⟩ := hQ52
      have Z52 : n0 ≤ hp52.size := Nat.le_trans Z48 K52.1
      have N52 := Fr.app N48 Nq52
      replace K : OGo p e below A0 T52 (mkF m 120 #[iv p1, iv p2, iv p3, iv p4, iv 0, iv 1, iv l1, iv l2, rv b28, rv b29, rv b30, iv 1, .unset] []) := fun t k => K t (st52.trans k)
      replace K : OGo p e below A0 T52 (mkF m 122 #[iv p1, iv p2, iv p3, iv p4, iv 0, iv 1, iv l1, iv l2, rv b28, rv b29, rv b30, iv 1, .unset] [(.ref b30)]) := fun t k => K t (XS.aload X52.here hx rfl (hb hby at_120) rfl rfl k)
      obtain ⟨cq56, kq56, qv56a, qv56b, qv56c⟩ := isOf hZ e52 P52_0
      obtain ⟨_, _, ⟨T56, L56, k56, n56⟩, -, X56, ⟨Lc56, hQ56, l56, y56, z56⟩, st56⟩ := X52.virtualBack hx (y := mN5) (z := mN5) hown (mvT hZ (ow hw 67 rfl)) (mvT hZ (ow hw 68 rfl)) (notFace_of_selects (args := #[]) (mvT hZ (ow hw 70 rfl))) (mvT hZ (ow hw 70 rfl)) (mvT hZ (ow hw 69 rfl)) (by decide) (backOf (W := 0) (rm_admitted l Z a0 hw [] b30 (2 : Int32) hp52 n0 Z52 P52_12) hZ (ow hw 71 rfl) (ow hw 3 rfl) (by decide) (by decide)) qv56a qv56c (g := (mkF m 122 #[iv p1, iv p2, iv p3, iv p4, iv 0, iv 1, iv l1, iv l2, rv b28, rv b29, rv b30, iv 1, .unset] [(.ref b30)])) rfl (by rw [hml]; rfl) (Steps.refl _) (argsL := []) (rest := []) (lenOf pd___I rfl) rfl (by show 2 * 0 + _ ≤ _; exact Nat.le_of_eq rfl) (hb hby at_122) (fun _ _ => ⟨rfl, e52, (by decide : 13 + 0 ≤ _), (by decide : 203 + 0 ≤ _)⟩)
      dsimp only [Pt.U, Pt.locs, Pt.cells, Pt.slots] at X56 l56 y56 z56 st56 hQ56
      subst l56 y56 z56
      obtain ⟨rfl, Nq56, e56⟩ := hQ56
      have N56 := Fr.app N52 Nq56
      replace K : OGo p e below A0 T56 (mkF m 125 #[iv p1, iv p2, iv p3, iv p4, iv 0, iv 1, iv l1, iv l2, rv b28, rv b29, rv b30, iv 1, .unset] [(.int 2)]) := fun t k => K t (st56.trans k)
      replace K : OGo p e below A0 T56 (mkF m 127 #[iv p1, iv p2, iv p3, iv p4, iv 0, iv 1, iv l1, iv l2, rv b28, rv b29, rv b30, iv 1, .unset] [(.int 1), (.int 2)]) := fun t k => K t (XS.iload X56.here hx rfl (hb hby at_125) rfl k)
      replace K : OGo p e below A0 T56 (mkF m 128 #[iv p1, iv p2, iv p3, iv p4, iv 0, iv 1, iv l1, iv l2, rv b28, rv b29, rv b30, iv 1, .unset] [(.int 1), (.int 1), (.int 2)]) := fun t k => K t (XS.iconst X56.here hx rfl (hb hby at_127) k)
      replace K : OGo p e below A0 T56 (mkF m 129 #[iv p1, iv p2, iv p3, iv p4, iv 0, iv 1, iv l1, iv l2, rv b28, rv b29, rv b30, iv 1, .unset] [(.int 2), (.int 2)]) := fun t k => K t (XS.iadd X56.here hx rfl (hb hby at_128) rfl k)
      replace K : OGo p e below A0 T56 (mkF m 132 #[iv p1, iv p2, iv p3, iv p4, iv 0, iv 1, iv l1, iv l2, rv b28, rv b29, rv b30, iv 1, .unset] []) := fun t k => K t (XS.icmpNo X56.here hx rfl (hb hby at_129) rfl (teq ((by decide : (2 : Int32) = (2 : Int32)) : (2 : Int32) = (2 : Int32))).2 k)
      replace K : OGo p e below A0 T56 (mkF m 134 #[iv p1, iv p2, iv p3, iv p4, iv 0, iv 1, iv l1, iv l2, rv b28, rv b29, rv b30, iv 1, .unset] [(.ref b30)]) := fun t k => K t (XS.aload X56.here hx rfl (hb hby at_132) rfl rfl k)
      replace K : OGo p e below A0 T56 (mkF m 136 #[iv p1, iv p2, iv p3, iv p4, iv 0, iv 1, iv l1, iv l2, rv b28, rv b29, rv b30, iv 1, .unset] [(.int 1), (.ref b30)]) := fun t k => K t (XS.iload X56.here hx rfl (hb hby at_134) rfl k)
      obtain ⟨cq57, kq57, qv57a, qv57b, qv57c⟩ := isOf hZ e56 P52_0
      obtain ⟨_, _, ⟨T57, L57, k57, n57⟩, -, X57, ⟨Lc57, hQ57, l57, y57, z57⟩, st57⟩ := X56.virtualBack hx (y := mN7) (z := mN7) hown (mvT hZ (ow hw 72 rfl)) (mvT hZ (ow hw 73 rfl)) (notFace_of_selects (args := #[]) (mvT hZ (ow hw 75 rfl))) (mvT hZ (ow hw 75 rfl)) (mvT hZ (ow hw 74 rfl)) (by decide) (backOf (W := 0) (rm_target l Z a0 hw [] b30 (1 : Int32) tg_32 k_tg_32 [(.int p2), (.int p1), (.int (0 : Int32)), (.int (0 : Int32)), (.int (0 : Int32)), (.int (0 : Int32)), (.int (0 : Int32)), (.int (0 : Int32)), (.int (0 : Int32)), (.int (0 : Int32)), (.int (0 : Int32)), (.int (0 : Int32)), (.int (0 : Int32)), (.int (0 : Int32)), (.int (0 : Int32)), (.int (0 : Int32))] p1 hp52 n0 Z52 P52_9 P52_14 (by decide) rfl) hZ (ow hw 76 rfl) (ow hw 3 rfl) (by decide) (by decide)) qv57a qv57c (g := (mkF m 136 #[iv p1, iv p2, iv p3, iv p4, iv 0, iv 1, iv l1, iv l2, rv b28, rv b29, rv b30, iv 1, .unset] [(.int 1), (.ref b30)])) rfl (by rw [hml]; rfl) (Steps.refl _) (argsL := [(.int (1 : Int32))]) (rest := []) (lenOf pd__I_I rfl) rfl (by show 2 * 0 + _ ≤ _; exact Nat.le_of_eq rfl) (hb hby at_136) (fun _ _ => ⟨rfl, e56, (by decide : 13 + 0 ≤ _), (by decide : 203 + 0 ≤ _)⟩)
      dsimp only [Pt.U, Pt.locs, Pt.cells, Pt.slots] at X57 l57 y57 z57 st57 hQ57
      subst l57 y57 z57
      obtain ⟨rfl, Nq57, e57⟩ := hQ57
      have N57 := Fr.app N56 Nq57
      replace K : OGo p e below A0 T57 (mkF m 139 #[iv p1, iv p2, iv p3, iv p4, iv 0, iv 1, iv l1, iv l2, rv b28, rv b29, rv b30, iv 1, .unset] [(.int p1)]) := fun t k => K t (st57.trans k)
      replace K : OGo p e below A0 T57 (mkF m 140 #[iv p1, iv p2, iv p3, iv p4, iv 0, iv 1, iv l1, iv l2, rv b28, rv b29, rv b30, iv 1, .unset] [(.int p1), (.int p1)]) := fun t k => K t (XS.iloadN X57.here hx rfl (hb hby at_139) rfl k)
      replace K : OGo p e below A0 T57 (mkF m 143 #[iv p1, iv p2, iv p3, iv p4, iv 0, iv 1, iv l1, iv l2, rv b28, rv b29, rv b30, iv 1, .unset] []) := fun t k => K t (XS.icmpNo X57.here hx rfl (hb hby at_140) rfl (teq ((rfl : p1 = p1) : p1 = p1)).2 k)
      replace K : OGo p e below A0 T57 (mkF m 145 #[iv p1, iv p2, iv p3, iv p4, iv 0, iv 1, iv l1, iv l2, rv b28, rv b29, rv b30, iv 1, .unset] [(.ref b30)]) := fun t k => K t (XS.aload X57.here hx rfl (hb hby at_143) rfl rfl k)
      replace K : OGo p e below A0 T57 (mkF m 147 #[iv p1, iv p2, iv p3, iv p4, iv 0, iv 1, iv l1, iv l2, rv b28, rv b29, rv b30, iv 1, .unset] [(.int 1), (.ref b30)]) := fun t k => K t (XS.iload X57.here hx rfl (hb hby at_145) rfl k)
      obtain ⟨cq58, kq58, qv58a, qv58b, qv58c⟩ := isOf hZ e57 P52_0
      obtain ⟨_, _, ⟨T58, L58, k58, n58⟩, -, X58, ⟨Lc58, hQ58, l58, y58, z58⟩, st58⟩ := X57.virtualBack hx (y := mN9) (z := mN9) hown (mvT hZ (ow hw 77 rfl)) (mvT hZ (ow hw 78 rfl)) (notFace_of_selects (args := #[]) (mvT hZ (ow hw 80 rfl))) (mvT hZ (ow hw 80 rfl)) (mvT hZ (ow hw 79 rfl)) (by decide) (backOf (W := 0) (rm_stores l Z a0 hw [] b30 (1 : Int32) sd_32 k_sd_32 [(.int (0 : Int32)), (.int (0 : Int32)), (.int (0 : Int32)), (.int (0 : Int32)), (.int (0 : Int32)), (.int (0 : Int32)), (.int (0 : Int32)), (.int (0 : Int32)), (.int (0 : Int32)), (.int (0 : Int32)), (.int (0 : Int32)), (.int (0 : Int32)), (.int (0 : Int32)), (.int (0 : Int32)), (.int (0 : Int32)), (.int (0 : Int32))] (0 : Int32) hp52 n0 Z52 P52_10 P52_15 (by decide) rfl rfl) hZ (ow hw 81 rfl) (ow hw 3 rfl) (by decide) (by decide)) qv58a qv58c (g := (mkF m 147 #[iv p1, iv p2, iv p3, iv p4, iv 0, iv 1, iv l1, iv l2, rv b28, rv b29, rv b30, iv 1, .unset] [(.int 1), (.ref b30)])) rfl (by rw [hml]; rfl) (Steps.refl _) (argsL := [(.int (1 : Int32))]) (rest := []) (lenOf pd__I_Z rfl) rfl (by show 2 * 0 + _ ≤ _; exact Nat.le_of_eq rfl) (hb hby at_147) (fun _ _ => ⟨rfl, e57, (by decide : 13 + 0 ≤ _), (by decide : 203 + 0 ≤ _)⟩)
      dsimp only [Pt.U, Pt.locs, Pt.cells, Pt.slots] at X58 l58 y58 z58 st58 hQ58
      subst l58 y58 z58
      obtain ⟨rfl, Nq58, e58⟩ := hQ58
      have N58 := Fr.app N57 Nq58
      replace K : OGo p e below A0 T58 (mkF m 150 #[iv p1, iv p2, iv p3, iv p4, iv 0, iv 1, iv l1, iv l2, rv b28, rv b29, rv b30, iv 1, .unset] [(.int 0)]) := fun t k => K t (st58.trans k)
      replace K : OGo p e below A0 T58 (mkF m 152 #[iv p1, iv p2, iv p3, iv p4, iv 0, iv 1, iv l1, iv l2, rv b28, rv b29, rv b30, iv 1, .unset] [(.int 0), (.int 0)]) := fun t k => K t (XS.iload X58.here hx rfl (hb hby at_150) rfl k)
      replace K : OGo p e below A0 T58 (mkF m 155 #[iv p1, iv p2, iv p3, iv p4, iv 0, iv 1, iv l1, iv l2, rv b28, rv b29, rv b30, iv 1, .unset] []) := fun t k => K t (XS.icmpNo X58.here hx rfl (hb hby at_152) rfl (teq ((by decide : (0 : Int32) = (0 : Int32)) : (0 : Int32) = (0 : Int32))).2 k)
      replace K : OGo p e below A0 T58 (mkF m 157 #[iv p1, iv p2, iv p3, iv p4, iv 0, iv 1, iv l1, iv l2, rv b28, rv b29, rv b30, iv 1, .unset] [(.ref b30)]) := fun t k => K t (XS.aload X58.here hx rfl (hb hby at_155) rfl rfl k)
      replace K : OGo p e below A0 T58 (mkF m 159 #[iv p1, iv p2, iv p3, iv p4, iv 0, iv 1, iv l1, iv l2, rv b28, rv b29, rv b30, iv 1, .unset] [(.int 1), (.ref b30)]) := fun t k => K t (XS.iload X58.here hx rfl (hb hby at_157) rfl k)
      obtain ⟨cq59, kq59, qv59a, qv59b, qv59c⟩ := isOf hZ e58 P52_0
      obtain ⟨_, _, ⟨T59, L59, k59, n59⟩, -, X59, ⟨Lc59, hQ59, l59, y59, z59⟩, st59⟩ := X58.virtualBack hx (y := mN10) (z := mN10) hown (mvT hZ (ow hw 82 rfl)) (mvT hZ (ow hw 83 rfl)) (notFace_of_selects (args := #[]) (mvT hZ (ow hw 85 rfl))) (mvT hZ (ow hw 85 rfl)) (mvT hZ (ow hw 84 rfl)) (by decide) (backOf (W := 0) (rm_keyN l Z a0 hw [] b30 (1 : Int32) ky_32 k_ky_32 [.null, .null, (.ref b29), .null, .null, .null, .null, .null, .null, .null, .null, .null, .null, .null, .null, .null] hp52 n0 Z52 P52_5 P52_16 (by decide) rfl) hZ (ow hw 86 rfl) (ow hw 3 rfl) (by decide) (by decide)) qv59a qv59c (g := (mkF m 159 #[iv p1, iv p2, iv p3, iv p4, iv 0, iv 1, iv l1, iv l2, rv b28, rv b29, rv b30, iv 1, .unset] [(.int 1), (.ref b30)])) rfl (by rw [hml]; rfl) (Steps.refl _) (argsL := [(.int (1 : Int32))]) (rest := []) (lenOf pd__I__B rfl) rfl (by show 2 * 0 + _ ≤ _; exact Nat.le_of_eq rfl) (hb hby at_159) (fun _ _ => ⟨rfl, e58, (by decide : 13 + 0 ≤ _), (by decide : 203 + 0 ≤ _)⟩)
      dsimp only [Pt.U, Pt.locs, Pt.cells, Pt.slots] at X59 l59 y59 z59 st59 hQ59
      subst l59 y59 z59
      obtain ⟨rfl, Nq59, e59⟩ := hQ59
      have N59 := Fr.app N58 Nq59
      replace K : OGo p e below A0 T59 (mkF m 162 #[iv p1, iv p2, iv p3, iv p4, iv 0, iv 1, iv l1, iv l2, rv b28, rv b29, rv b30, iv 1, .unset] [.null]) := fun t k => K t (st59.trans k)
      replace K : OGo p e below A0 T59 (mkF m 165 #[iv p1, iv p2, iv p3, iv p4, iv 0, iv 1, iv l1, iv l2, rv b28, rv b29, rv b30, iv 1, .unset] []) := fun t k => K t (XS.ifnonnullNo X59.here hx rfl (hb hby at_162) rfl k)
      replace K : OGo p e below A0 T59 (mkF m 167 #[iv p1, iv p2, iv p3, iv p4, iv 0, iv 1, iv l1, iv l2, rv b28, rv b29, rv b30, iv 1, .unset] [(.ref b30)]) := fun t k => K t (XS.aload X59.here hx rfl (hb hby at_165) rfl rfl k)
      replace K : OGo p e below A0 T59 (mkF m 169 #[iv p1, iv p2, iv p3, iv p4, iv 0, iv 1, iv l1, iv l2, rv b28, rv b29, rv b30, iv 1, .unset] [(.int 1), (.ref b30)]) := fun t k => K t (XS.iload X59.here hx rfl (hb hby at_167) rfl k)
      replace K : OGo p e below A0 T59 (mkF m 170 #[iv p1, iv p2, iv p3, iv p4, iv 0, iv 1, iv l1, iv l2, rv b28, rv b29, rv b30, iv 1, .unset] [(.int 1), (.int 1), (.ref b30)]) := fun t k => K t (XS.iconst X59.here hx rfl (hb hby at_169) k)
      replace K : OGo p e below A0 T59 (mkF m 171 #[iv p1, iv p2, iv p3, iv p4, iv 0, iv 1, iv l1, iv l2, rv b28, rv b29, rv b30, iv 1, .unset] [(.int 2), (.ref b30)]) := fun t k => K t (XS.iadd X59.here hx rfl (hb hby at_170) rfl k)
      obtain ⟨cq60, kq60, qv60a, qv60b, qv60c⟩ := isOf hZ e59 P52_0
      obtain ⟨_, _, ⟨T60, L60, k60, n60⟩, -, X60, ⟨Lc60, hQ60, l60, y60, z60⟩, st60⟩ := X59.virtualBack hx (y := mN10) (z := mN10) hown (mvT hZ (ow hw 82 rfl)) (mvT hZ (ow hw 83 rfl)) (notFace_of_selects (args := #[]) (mvT hZ (ow hw 85 rfl))) (mvT hZ (ow hw 85 rfl)) (mvT hZ (ow hw 84 rfl)) (by decide) (backOf (W := 0) (rm_keyR l Z a0 hw [] b30 (2 : Int32) ky_32 k_ky_32 [.null, .null, (.ref b29), .null, .null, .null, .null, .null, .null, .null, .null, .null, .null, .null, .null, .null] b29 hp52 n0 Z52 P52_5 P52_16 (by decide) rfl) hZ (ow hw 86 rfl) (ow hw 3 rfl) (by decide) (by decide)) qv60a qv60c (g := (mkF m 171 #[iv p1, iv p2, iv p3, iv p4, iv 0, iv 1, iv l1, iv l2, rv b28, rv b29, rv b30, iv 1, .unset] [(.int 2), (.ref b30)])) rfl (by rw [hml]; rfl) (Steps.refl _) (argsL := [(.int (2 : Int32))]) (rest := []) (lenOf pd__I__B rfl) rfl (by show 2 * 0 + _ ≤ _; exact Nat.le_of_eq rfl) (hb hby at_171) (fun _ _ => ⟨rfl, e59, (by decide : 13 + 0 ≤ _), (by decide : 203 + 0 ≤ _)⟩)
      dsimp only [Pt.U, Pt.locs, Pt.cells, Pt.slots] at X60 l60 y60 z60 st60 hQ60
      subst l60 y60 z60
      obtain ⟨rfl, Nq60, e60⟩ := hQ60
      have N60 := Fr.app N59 Nq60
      replace K : OGo p e below A0 T60 (mkF m 174 #[iv p1, iv p2, iv p3, iv p4, iv 0, iv 1, iv l1, iv l2, rv b28, rv b29, rv b30, iv 1, .unset] [(.ref b29)]) := fun t k => K t (st60.trans k)
      replace K : OGo p e below A0 T60 (mkF m 176 #[iv p1, iv p2, iv p3, iv p4, iv 0, iv 1, iv l1, iv l2, rv b28, rv b29, rv b30, iv 1, .unset] [(.ref b29), (.ref b29)]) := fun t k => K t (XS.aload X60.here hx rfl (hb hby at_174) rfl rfl k)
      replace K : OGo p e below A0 T60 (mkF m 179 #[iv p1, iv p2, iv p3, iv p4, iv 0, iv 1, iv l1, iv l2, rv b28, rv b29, rv b30, iv 1, .unset] []) := fun t k => K t (Jvm.RoadKit.acmp (g := (mkF m 176 #[iv p1, iv p2, iv p3, iv p4, iv 0, iv 1, iv l1, iv l2, rv b28, rv b29, rv b30, iv 1, .unset] [(.ref b29), (.ref b29)])) X60 hx rfl rfl rfl (pc0 := 176) (pc' := 179) (same := true) rfl (hb hby at_176) rfl (decide_eq_true rfl) (by decide) (by decide) k)
      replace K : OGo p e below A0 T60 (mkF m 181 #[iv p1, iv p2, iv p3, iv p4, iv 0, iv 1, iv l1, iv l2, rv b28, rv b29, rv b30, iv 1, .unset] [(.ref b30)]) := fun t k => K t (XS.aload X60.here hx rfl (hb hby at_179) rfl rfl k)
      obtain ⟨cq61, kq61, qv61a, qv61b, qv61c⟩ := isOf hZ e60 P52_0
      obtain ⟨_, _, ⟨T61, L61, k61, n61⟩, -, X61, ⟨Lc61, hQ61, l61, y61, z61⟩, st61⟩ := X60.virtualBack hx (y := mN6) (z := mN6) hown (mvT hZ (ow hw 87 rfl)) (mvT hZ (ow hw 88 rfl)) (notFace_of_selects (args := #[]) (mvT hZ (ow hw 90 rfl))) (mvT hZ (ow hw 90 rfl)) (mvT hZ (ow hw 89 rfl)) (by decide) (backOf (W := 0) (rm_waiting l Z a0 hw [] b30 ((((0 : Int64) + ((l1 + (1 : Int32)).toInt64)) + ((l2 + (1 : Int32)).toInt64)) - ((l1 + (1 : Int32)).toInt64)) hp52 n0 Z52 P52_13) hZ (ow hw 91 rfl) (ow hw 3 rfl) (by decide) (by decide)) qv61a qv61c (g := (mkF m 181 #[iv p1, iv p2, iv p3, iv p4, iv 0, iv 1, iv l1, iv l2, rv b28, rv b29, rv b30, iv 1, .unset] [(.ref b30)])) rfl (by rw [hml]; rfl) (Steps.refl _) (argsL := []) (rest := []) (lenOf pd___J rfl) rfl (by show 2 * 0 + _ ≤ _; exact Nat.le_of_eq rfl) (hb hby at_181) (fun _ _ => ⟨rfl, e60, (by decide : 13 + 0 ≤ _), (by decide : 203 + 0 ≤ _)⟩)
      dsimp only [Pt.U, Pt.locs, Pt.cells, Pt.slots] at X61 l61 y61 z61 st61 hQ61
      subst l61 y61 z61
      obtain ⟨rfl, Nq61, e61⟩ := hQ61
      have N61 := Fr.app N60 Nq61
      replace K : OGo p e below A0 T61 (mkF m 184 #[iv p1, iv p2, iv p3, iv p4, iv 0, iv 1, iv l1, iv l2, rv b28, rv b29, rv b30, iv 1, .unset] [(.long ((((0 : Int64) + ((l1 + (1 : Int32)).toInt64)) + ((l2 + (1 : Int32)).toInt64)) - ((l1 + (1 : Int32)).toInt64)))]) := fun t k => K t (st61.trans k)
      replace K : OGo p e below A0 T61 (mkF m 186 #[iv p1, iv p2, iv p3, iv p4, iv 0, iv 1, iv l1, iv l2, rv b28, rv b29, rv b30, iv 1, .unset] [(.int l2), (.long ((((0 : Int64) + ((l1 + (1 : Int32)).toInt64)) + ((l2 + (1 : Int32)).toInt64)) - ((l1 + (1 : Int32)).toInt64)))]) := fun t k => K t (XS.iload X61.here hx rfl (hb hby at_184) rfl k)
      replace K : OGo p e below A0 T61 (mkF m 187 #[iv p1, iv p2, iv p3, iv p4, iv 0, iv 1, iv l1, iv l2, rv b28, rv b29, rv b30, iv 1, .unset] [(.int 1), (.int l2), (.long ((((0 : Int64) + ((l1 + (1 : Int32)).toInt64)) + ((l2 + (1 : Int32)).toInt64)) - ((l1 + (1 : Int32)).toInt64)))]) := fun t k => K t (XS.iconst X61.here hx rfl (hb hby at_186) k)
      replace K : OGo p e below A0 T61 (mkF m 188 #[iv p1, iv p2, iv p3, iv p4, iv 0, iv 1, iv l1, iv l2, rv b28, rv b29, rv b30, iv 1, .unset] [(.int (l2 + (1 : Int32))), (.long ((((0 : Int64) + ((l1 + (1 : Int32)).toInt64)) + ((l2 + (1 : Int32)).toInt64)) - ((l1 + (1 : Int32)).toInt64)))]) := fun t k => K t (XS.iadd X61.here hx rfl (hb hby at_187) rfl k)
      replace K : OGo p e below A0 T61 (mkF m 189 #[iv p1, iv p2, iv p3, iv p4, iv 0, iv 1, iv l1, iv l2, rv b28, rv b29, rv b30, iv 1, .unset] [(.long ((l2 + (1 : Int32)).toInt64)), (.long ((((0 : Int64) + ((l1 + (1 : Int32)).toInt64)) + ((l2 + (1 : Int32)).toInt64)) - ((l1 + (1 : Int32)).toInt64)))]) := fun t k => K t (XS.i2l X61.here hx rfl (hb hby at_188) rfl k)
      replace K : OGo p e below A0 T61 (mkF m 190 #[iv p1, iv p2, iv p3, iv p4, iv 0, iv 1, iv l1, iv l2, rv b28, rv b29, rv b30, iv 1, .unset] [(.int (lcmpW ((((0 : Int64) + ((l1 + (1 : Int32)).toInt64)) + ((l2 + (1 : Int32)).toInt64)) - ((l1 + (1 : Int32)).toInt64)) ((l2 + (1 : Int32)).toInt64)))]) := fun t k => K t (XS.lcmp X61.here hx rfl (hb hby at_189) rfl k)
      replace K : OGo p e below A0 T61 (mkF m 193 #[iv p1, iv p2, iv p3, iv p4, iv 0, iv 1, iv l1, iv l2, rv b28, rv b29, rv b30, iv 1, .unset] []) := fun t k => K t (XS.ifNo X61.here hx rfl (hb hby at_190) rfl ((if0 _ _).trans (teq ((lw_eq ((((0 : Int64) + ((l1 + (1 : Int32)).toInt64)) + ((l2 + (1 : Int32)).toInt64)) - ((l1 + (1 : Int32)).toInt64)) ((l2 + (1 : Int32)).toInt64)).mpr ((own_wb _ _) : ((((0 : Int64) + ((l1 + (1 : Int32)).toInt64)) + ((l2 + (1 : Int32)).toInt64)) - ((l1 + (1 : Int32)).toInt64)) = ((l2 + (1 : Int32)).toInt64)))).2) k)
      replace K : OGo p e below A0 T61 (mkF m 195 #[iv p1, iv p2, iv p3, iv p4, iv 0, iv 1, iv l1, iv l2, rv b28, rv b29, rv b30, iv 1, .unset] [(.ref b30)]) := fun t k => K t (XS.aload X61.here hx rfl (hb hby at_193) rfl rfl k)
      replace K : OGo p e below A0 T61 (mkF m 197 #[iv p1, iv p2, iv p3, iv p4, iv 0, iv 1, iv l1, iv l2, rv b28, rv b29, rv b30, iv 1, .unset] [(.int 1), (.ref b30)]) := fun t k => K t (XS.iload X61.here hx rfl (hb hby at_195) rfl k)
      have V_ac_32_63 := (P48_14.keep K52 (ninS (Ne.symm ne_b30_ac_32) (ninS (own_pw P32_10 0 8 (by decide) rfl rfl) (ninS (own_pw P32_10 0 9 (by decide) rfl rfl) (ninS (own_pw P32_10 0 4 (by decide) rfl rfl) (ninS (own_pw P32_10 0 6 (by decide) rfl rfl) nin0))))))
      obtain ⟨cq62, kq62, qv62a, qv62b, qv62c⟩ := isOf hZ e61 P52_0
      obtain ⟨_, _, ⟨T62, L62, k62, n62⟩, -, X62, ⟨Lc62, hQ62, l62, y62, z62⟩, st62⟩ := X61.virtualBack hx (y := mN8) (z := mN8) hown (mvT hZ (ow hw 92 rfl)) (mvT hZ (ow hw 93 rfl)) (notFace_of_selects (args := #[]) (mvT hZ (ow hw 95 rfl))) (mvT hZ (ow hw 95 rfl)) (mvT hZ (ow hw 94 rfl)) (by decide) (backOf (W := 0) (rm_actor l Z a0 hw [] b30 (1 : Int32) ac_32 k_ac_32 [(.int (0 : Int32)), (.int (1 : Int32)), (.int (4 : Int32)), (.int (0 : Int32)), (.int (0 : Int32)), (.int (0 : Int32)), (.int (0 : Int32)), (.int (0 : Int32)), (.int (0 : Int32)), (.int (0 : Int32)), (.int (0 : Int32)), (.int (0 : Int32)), (.int (0 : Int32)), (.int (0 : Int32)), (.int (0 : Int32)), (.int (0 : Int32))] (1 : Int32) hp52 n0 Z52 P52_1 V_ac_32_63 (by decide) rfl) hZ (ow hw 96 rfl) (ow hw 3 rfl) (by decide) (by decide)) qv62a qv62c (g := (mkF m 197 #[iv p1, iv p2, iv p3, iv p4, iv 0, iv 1, iv l1, iv l2, rv b28, rv b29, rv b30, iv 1, .unset] [(.int 1), (.ref b30)])) rfl (by rw [hml]; rfl) (Steps.refl _) (argsL := [(.int (1 : Int32))]) (rest := []) (lenOf pd__I_I rfl) rfl (by show 2 * 0 + _ ≤ _; exact Nat.le_of_eq rfl) (hb hby at_197) (fun _ _ => ⟨rfl, e61, (by decide : 13 + 0 ≤ _), (by decide : 203 + 0 ≤ _)⟩)
      dsimp only [Pt.U, Pt.locs, Pt.cells, Pt.slots] at X62 l62 y62 z62 st62 hQ62
      subst l62 y62 z62
      obtain ⟨rfl, Nq62, e62⟩ := hQ62
      have N62 := Fr.app N61 Nq62
      replace K : OGo p e below A0 T62 (mkF m 200 #[iv p1, iv p2, iv p3, iv p4, iv 0, iv 1, iv l1, iv l2, rv b28, rv b29, rv b30, iv 1, .unset] [(.int 1)]) := fun t k => K t (st62.trans k)
      replace K : OGo p e below A0 T62 (mkF m 201 #[iv p1, iv p2, iv p3, iv p4, iv 0, iv 1, iv l1, iv l2, rv b28, rv b29, rv b30, iv 1, .unset] [(.int 1), (.int 1)]) := fun t k => K t (XS.iconst X62.here hx rfl (hb hby at_200) k)
      replace K : OGo p e below A0 T62 (mkF m 204 #[iv p1, iv p2, iv p3, iv p4, iv 0, iv 1, iv l1, iv l2, rv b28, rv b29, rv b30, iv 1, .unset] []) := fun t k => K t (XS.icmpNo X62.here hx rfl (hb hby at_201) rfl (teq ((by decide : (1 : Int32) = (1 : Int32)) : (1 : Int32) = (1 : Int32))).2 k)
      replace K : OGo p e below A0 T62 (mkF m 205 #[iv p1, iv p2, iv p3, iv p4, iv 0, iv 1, iv l1, iv l2, rv b28, rv b29, rv b30, iv 1, .unset] [(.int 1)]) := fun t k => K t (XS.iconst X62.here hx rfl (hb hby at_204) k)
      replace K : OGo p e below A0 T62 (mkF m 209 #[iv p1, iv p2, iv p3, iv p4, iv 0, iv 1, iv l1, iv l2, rv b28, rv b29, rv b30, iv 1, .unset] [(.int 1)]) := fun t k => K t (XS.goto X62.here hx rfl (pc0 := 205) (pc' := 209) rfl (hb hby at_205) (by decide) (by decide) k)
      replace K : OGo p e below A0 T62 (mkF m 211 #[iv p1, iv p2, iv p3, iv p4, iv 0, iv 1, iv l1, iv l2, rv b28, rv b29, rv b30, iv 1, iv 1] []) := fun t k => K t (XS.istore X62.here hx rfl (hb hby at_209) rfl (l' := #[iv p1, iv p2, iv p3, iv p4, iv 0, iv 1, iv l1, iv l2, rv b28, rv b29, rv b30, iv 1, iv 1]) rfl k)
      replace K : OGo p e below A0 T62 (mkF m 213 #[iv p1, iv p2, iv p3, iv p4, iv 0, iv 1, iv l1, iv l2, rv b28, rv b29, rv b30, iv 1, iv 1] [(.int 1)]) := fun t k => K t (XS.iload X62.here hx rfl (hb hby at_211) rfl k)
      replace K : OGo p e below A0 T62 (mkF m 216 #[iv p1, iv p2, iv p3, iv p4, iv 0, iv 1, iv l1, iv l2, rv b28, rv b29, rv b30, iv 1, iv 1] []) := fun t k => K t (XS.ifNo X62.here hx rfl (hb hby at_213) rfl ((if0 _ _).trans (feq ((by decide : ¬ ((1 : Int32) = (0 : Int32))) : ¬ ((1 : Int32) = (0 : Int32)))).1) k)
      replace K : OGo p e below A0 T62 (mkF m 218 #[iv p1, iv p2, iv p3, iv p4, iv 0, iv 1, iv l1, iv l2, rv b28, rv b29, rv b30, iv 1, iv 1] [(.int 1)]) := fun t k => K t (XS.iload X62.here hx rfl (hb hby at_216) rfl k)
      replace K : OGo p e below A0 T62 (mkF m 221 #[iv p1, iv p2, iv p3, iv p4, iv 0, iv 1, iv l1, iv l2, rv b28, rv b29, rv b30, iv 1, iv 1] []) := fun t k => K t (XS.ifNo X62.here hx rfl (hb hby at_218) rfl ((if0 _ _).trans (feq ((by decide : ¬ ((1 : Int32) = (0 : Int32))) : ¬ ((1 : Int32) = (0 : Int32)))).1) k)
      replace K : OGo p e below A0 T62 (mkF m 223 #[iv p1, iv p2, iv p3, iv p4, iv 0, iv 1, iv l1, iv l2, rv b28, rv b29, rv b30, iv 1, iv 1] [(.ref b30)]) := fun t k => K t (XS.aload X62.here hx rfl (hb hby at_221) rfl rfl k)
      replace K : OGo p e below A0 T62 (mkF m 224 #[iv p1, iv p2, iv p3, iv p4, iv 0, iv 1, iv l1, iv l2, rv b28, rv b29, rv b30, iv 1, iv 1] [(.int 0), (.ref b30)]) := fun t k => K t (XS.iconst X62.here hx rfl (hb hby at_223) k)
      obtain ⟨cq64, kq64, qv64a, qv64b, qv64c⟩ := isOf hZ e62 P52_0
      obtain ⟨_, _, ⟨T64, L64, k64, n64⟩, -, X64, ⟨Lc64, hQ64, l64, y64, z64⟩, st64⟩ := X62.virtualBack hx (y := mN7) (z := mN7) hown (mvT hZ (ow hw 72 rfl)) (mvT hZ (ow hw 73 rfl)) (notFace_of_selects (args := #[]) (mvT hZ (ow hw 75 rfl))) (mvT hZ (ow hw 75 rfl)) (mvT hZ (ow hw 74 rfl)) (by decide) (backOf (W := 0) (rm_target l Z a0 hw [] b30 (0 : Int32) tg_32 k_tg_32 [(.int p2), (.int p1), (.int (0 : Int32)), (.int (0 : Int32)), (.int (0 : Int32)), (.int (0 : Int32)), (.int (0 : Int32)), (.int (0 : Int32)), (.int (0 : Int32)), (.int (0 : Int32)), (.int (0 : Int32)), (.int (0 : Int32)), (.int (0 : Int32)), (.int (0 : Int32)), (.int (0 : Int32)), (.int (0 : Int32))] p2 hp52 n0 Z52 P52_9 P52_14 (by decide) rfl) hZ (ow hw 76 rfl) (ow hw 3 rfl) (by decide) (by decide)) qv64a qv64c (g := (mkF m 224 #[iv p1, iv p2, iv p3, iv p4, iv 0, iv 1, iv l1, iv l2, rv b28, rv b29, rv b30, iv 1, iv 1] [(.int 0), (.ref b30)])) rfl (by rw [hml]; rfl) (Steps.refl _) (argsL := [(.int (0 : Int32))]) (rest := []) (lenOf pd__I_I rfl) rfl (by show 2 * 0 + _ ≤ _; exact Nat.le_of_eq rfl) (hb hby at_224) (fun _ _ => ⟨rfl, e62, (by decide : 13 + 0 ≤ _), (by decide : 203 + 0 ≤ _)⟩)
      dsimp only [Pt.U, Pt.locs, Pt.cells, Pt.slots] at X64 l64 y64 z64 st64 hQ64
      subst l64 y64 z64
      obtain ⟨rfl, Nq64, e64⟩ := hQ64
      have N64 := Fr.app N62 Nq64
      replace K : OGo p e below A0 T64 (mkF m 227 #[iv p1, iv p2, iv p3, iv p4, iv 0, iv 1, iv l1, iv l2, rv b28, rv b29, rv b30, iv 1, iv 1] [(.int p2)]) := fun t k => K t (st64.trans k)
      replace K : OGo p e below A0 T64 (mkF m 228 #[iv p1, iv p2, iv p3, iv p4, iv 0, iv 1, iv l1, iv l2, rv b28, rv b29, rv b30, iv 1, iv 1] [(.int p2), (.int p2)]) := fun t k => K t (XS.iloadN X64.here hx rfl (hb hby at_227) rfl k)
      replace K : OGo p e below A0 T64 (mkF m 231 #[iv p1, iv p2, iv p3, iv p4, iv 0, iv 1, iv l1, iv l2, rv b28, rv b29, rv b30, iv 1, iv 1] []) := fun t k => K t (XS.icmpNo X64.here hx rfl (hb hby at_228) rfl (teq ((rfl : p2 = p2) : p2 = p2)).2 k)
      replace K : OGo p e below A0 T64 (mkF m 232 #[iv p1, iv p2, iv p3, iv p4, iv 0, iv 1, iv l1, iv l2, rv b28, rv b29, rv b30, iv 1, iv 1] [(.int 1)]) := fun t k => K t (XS.iconst X64.here hx rfl (hb hby at_231) k)
      replace K : OGo p e below A0 T64 (mkF m 236 #[iv p1, iv p2, iv p3, iv p4, iv 0, iv 1, iv l1, iv l2, rv b28, rv b29, rv b30, iv 1, iv 1] [(.int 1)]) := fun t k => K t (XS.goto X64.here hx rfl (pc0 := 232) (pc' := 236) rfl (hb hby at_232) (by decide) (by decide) k)
      replace K : OGo p e below A0 T64 (mkF m 238 #[iv p1, iv p2, iv p3, iv p4, iv 0, iv 1, iv l1, iv l2, rv b28, rv b29, rv b30, iv 1, iv 1] []) := fun t k => K t (XS.istore X64.here hx rfl (hb hby at_236) rfl (l' := #[iv p1, iv p2, iv p3, iv p4, iv 0, iv 1, iv l1, iv l2, rv b28, rv b29, rv b30, iv 1, iv 1]) rfl k)
      replace K : OGo p e below A0 T64 (mkF m 240 #[iv p1, iv p2, iv p3, iv p4, iv 0, iv 1, iv l1, iv l2, rv b28, rv b29, rv b30, iv 1, iv 1] [(.int 1)]) := fun t k => K t (XS.iload X64.here hx rfl (hb hby at_238) rfl k)
      obtain ⟨fs, hr, hrun, hended, hW, hsame⟩ := X64.leave (v := some (.int (1 : Int32))) (fun h => by rw [Bd.returns] at h; cases h)
      subst hA0
      refine ⟨_, _, K _ (retN X64 hx (t := .boolean) Bd.returns (by simp) (hb hby at_240) hr), hrun, hended, _, _, rfl, ?_, ⟨_, rfl⟩, hW, hsame.mono (by decide) (by decide)⟩
      show Q_law Z p1 p2 p3 p4 h0 n0 _ T64.heap _
      rw [e64]
      exact ⟨rfl, N64⟩
  · replace K : OGo p e below A0 s₁ (mkF m 6 #[iv p1, iv p2, iv p3, iv p4, .unset, .unset, .unset, .unset, .unset, .unset, .unset, .unset, .unset] []) := fun t k => K t (XS.ifNo X0.here hx rfl (hb hby at_3) rfl ((if0 _ _).trans (feq hc3).1) k)
    replace K : OGo p e below A0 s₁ (mkF m 7 #[iv p1, iv p2, iv p3, iv p4, .unset, .unset, .unset, .unset, .unset, .unset, .unset, .unset, .unset] [(.int 1)]) := fun t k => K t (XS.iconst X0.here hx rfl (hb hby at_6) k)
    replace K : OGo p e below A0 s₁ (mkF m 11 #[iv p1, iv p2, iv p3, iv p4, .unset, .unset, .unset, .unset, .unset, .unset, .unset, .unset, .unset] [(.int 1)]) := fun t k => K t (XS.goto X0.here hx rfl (pc0 := 7) (pc' := 11) rfl (hb hby at_7) (by decide) (by decide) k)
    replace K : OGo p e below A0 s₁ (mkF m 13 #[iv p1, iv p2, iv p3, iv p4, iv 1, .unset, .unset, .unset, .unset, .unset, .unset, .unset, .unset] []) := fun t k => K t (XS.istore X0.here hx rfl (hb hby at_11) rfl (l' := #[iv p1, iv p2, iv p3, iv p4, iv 1, .unset, .unset, .unset, .unset, .unset, .unset, .unset, .unset]) rfl k)
    replace K : OGo p e below A0 s₁ (mkF m 14 #[iv p1, iv p2, iv p3, iv p4, iv 1, .unset, .unset, .unset, .unset, .unset, .unset, .unset, .unset] [(.int p3)]) := fun t k => K t (XS.iloadN X0.here hx rfl (hb hby at_13) rfl k)
    replace K : OGo p e below A0 s₁ (mkF m 15 #[iv p1, iv p2, iv p3, iv p4, iv 1, .unset, .unset, .unset, .unset, .unset, .unset, .unset, .unset] [(.int 2), (.int p3)]) := fun t k => K t (XS.iconst X0.here hx rfl (hb hby at_14) k)
    replace K : OGo p e below A0 s₁ (mkF m 16 #[iv p1, iv p2, iv p3, iv p4, iv 1, .unset, .unset, .unset, .unset, .unset, .unset, .unset, .unset] [(.int (p3 &&& (2 : Int32)))]) := fun t k => K t (XS.iand X0.here hx rfl (hb hby at_15) rfl k)
    by_cases hc16 : (p3 &&& (2 : Int32)) = (0 : Int32)
    · replace K : OGo p e below A0 s₁ (mkF m 23 #[iv p1, iv p2, iv p3, iv p4, iv 1, .unset, .unset, .unset, .unset, .unset, .unset, .unset, .unset] []) := fun t k => K t (XS.ifYes X0.here hx rfl (pc0 := 16) (pc' := 23) rfl (hb hby at_16) rfl ((if0 _ _).trans (teq hc16).1) (by decide) (by decide) k)
      replace K : OGo p e below A0 s₁ (mkF m 24 #[iv p1, iv p2, iv p3, iv p4, iv 1, .unset, .unset, .unset, .unset, .unset, .unset, .unset, .unset] [(.int 0)]) := fun t k => K t (XS.iconst X0.here hx rfl (hb hby at_23) k)
      replace K : OGo p e below A0 s₁ (mkF m 26 #[iv p1, iv p2, iv p3, iv p4, iv 1, iv 0, .unset, .unset, .unset, .unset, .unset, .unset, .unset] []) := fun t k => K t (XS.istore X0.here hx rfl (hb hby at_24) rfl (l' := #[iv p1, iv p2, iv p3, iv p4, iv 1, iv 0, .unset, .unset, .unset, .unset, .unset, .unset, .unset]) rfl k)
      replace K : OGo p e below A0 s₁ (mkF m 27 #[iv p1, iv p2, iv p3, iv p4, iv 1, iv 0, .unset, .unset, .unset, .unset, .unset, .unset, .unset] [(.int p4)]) := fun t k => K t (XS.iloadN X0.here hx rfl (hb hby at_26) rfl k)
      replace K : OGo p e below A0 s₁ (mkF m 29 #[iv p1, iv p2, iv p3, iv p4, iv 1, iv 0, .unset, .unset, .unset, .unset, .unset, .unset, .unset] [(.int 15), (.int p4)]) := fun t k => K t (XS.bipush X0.here hx rfl (hb hby at_27) k)
      replace K : OGo p e below A0 s₁ (mkF m 30 #[iv p1, iv p2, iv p3, iv p4, iv 1, iv 0, .unset, .unset, .unset, .unset, .unset, .unset, .unset] [(.int (p4 &&& (15 : Int32)))]) := fun t k => K t (XS.iand X0.here hx rfl (hb hby at_29) rfl k)
      obtain ⟨l1, hv_l1⟩ : ∃ z : Int32, z = (p4 &&& (15 : Int32)) := ⟨_, rfl⟩
      rw [← hv_l1] at K
      have hl1 : 0 ≤ l1.toInt ∧ l1.toInt ≤ 15 := hv_l1 ▸ own_and15 _
      replace K : OGo p e below A0 s₁ (mkF m 32 #[iv p1, iv p2, iv p3, iv p4, iv 1, iv 0, iv l1, .unset, .unset, .unset, .unset, .unset, .unset] []) := fun t k => K t (XS.istore X0.here hx rfl (hb hby at_30) rfl (l' := #[iv p1, iv p2, iv p3, iv p4, iv 1, iv 0, iv l1, .unset, .unset, .unset, .unset, .unset, .unset]) rfl k)
      replace K : OGo p e below A0 s₁ (mkF m 33 #[iv p1, iv p2, iv p3, iv p4, iv 1, iv 0, iv l1, .unset, .unset, .unset, .unset, .unset, .unset] [(.int p4)]) := fun t k => K t (XS.iloadN X0.here hx rfl (hb hby at_32) rfl k)
      replace K : OGo p e below A0 s₁ (mkF m 34 #[iv p1, iv p2, iv p3, iv p4, iv 1, iv 0, iv l1, .unset, .unset, .unset, .unset, .unset, .unset] [(.int 4), (.int p4)]) := fun t k => K t (XS.iconst X0.here hx rfl (hb hby at_33) k)
      replace K : OGo p e below A0 s₁ (mkF m 35 #[iv p1, iv p2, iv p3, iv p4, iv 1, iv 0, iv l1, .unset, .unset, .unset, .unset, .unset, .unset] [(.int ((p4.toUInt32 >>> ((4 : Int32) &&& 31).toUInt32).toInt32))]) := fun t k => K t (XS.iushr X0.here hx rfl (hb hby at_34) rfl k)
      replace K : OGo p e below A0 s₁ (mkF m 37 #[iv p1, iv p2, iv p3, iv p4, iv 1, iv 0, iv l1, .unset, .unset, .unset, .unset, .unset, .unset] [(.int 15), (.int ((p4.toUInt32 >>> ((4 : Int32) &&& 31).toUInt32).toInt32))]) := fun t k => K t (XS.bipush X0.here hx rfl (hb hby at_35) k)
      replace K : OGo p e below A0 s₁ (mkF m 38 #[iv p1, iv p2, iv p3, iv p4, iv 1, iv 0, iv l1, .unset, .unset, .unset, .unset, .unset, .unset] [(.int (((p4.toUInt32 >>> ((4 : Int32) &&& 31).toUInt32).toInt32) &&& (15 : Int32)))]) := fun t k => K t (XS.iand X0.here hx rfl (hb hby at_37) rfl k)
      obtain ⟨l2, hv_l2⟩ : ∃ z : Int32, z = (((p4.toUInt32 >>> ((4 : Int32) &&& 31).toUInt32).toInt32) &&& (15 : Int32)) := ⟨_, rfl⟩
      rw [← hv_l2] at K
      have hl2 : 0 ≤ l2.toInt ∧ l2.toInt ≤ 15 := hv_l2 ▸ own_and15 _
      replace K : OGo p e below A0 s₁ (mkF m 40 #[iv p1, iv p2, iv p3, iv p4, iv 1, iv 0, iv l1, iv l2, .unset, .unset, .unset, .unset, .unset] []) := fun t k => K t (XS.istore X0.here hx rfl (hb hby at_38) rfl (l' := #[iv p1, iv p2, iv p3, iv p4, iv 1, iv 0, iv l1, iv l2, .unset, .unset, .unset, .unset, .unset]) rfl k)
      replace K : OGo p e below A0 s₁ (mkF m 42 #[iv p1, iv p2, iv p3, iv p4, iv 1, iv 0, iv l1, iv l2, .unset, .unset, .unset, .unset, .unset] [(.int l1)]) := fun t k => K t (XS.iload X0.here hx rfl (hb hby at_40) rfl k)
      obtain ⟨T65, h65, k65, X65, e65, E65, A65, Q65, st65⟩ := newPE X0 hx hZ (ow hw 0 rfl) e0 (g := (mkF m 42 #[iv p1, iv p2, iv p3, iv p4, iv 1, iv 0, iv l1, iv l2, .unset, .unset, .unset, .unset, .unset] [(.int l1)])) rfl (hb hby at_42) rfl (own_nn hl1) (cap := 15) (own_cap hl1) (by decide) (by decide) (by decide) (ad := "[B") (by decide)
      obtain ⟨b65, gz65⟩ : ∃ z, z = h0.size := ⟨_, rfl⟩
      rw [← gz65] at A65 Q65 st65
      have g_b65 : n0 ≤ b65 := Nat.le_trans Z0 (Nat.le_of_eq gz65.symm)
      have Z65 : n0 ≤ h65.size := Nat.le_trans Z0 E65.1
      have V_b65 : OAr Z h65 b65 k65 .byte (List.replicate l1.toNatClampNeg (.int (0 : Int32))) := OAr.new A65
      replace K : OGo p e below A0 T65 (mkF m 44 #[iv p1, iv p2, iv p3, iv p4, iv 1, iv 0, iv l1, iv l2, .unset, .unset, .unset, .unset, .unset] [(.ref b65)]) := fun t k => K t (st65 t k)
      replace K : OGo p e below A0 T65 (mkF m 46 #[iv p1, iv p2, iv p3, iv p4, iv 1, iv 0, iv l1, iv l2, rv b65, .unset, .unset, .unset, .unset] []) := fun t k => K t (XS.astore X65.here hx rfl (hb hby at_44) rfl rfl (l' := #[iv p1, iv p2, iv p3, iv p4, iv 1, iv 0, iv l1, iv l2, rv b65, .unset, .unset, .unset, .unset]) rfl k)
      replace K : OGo p e below A0 T65 (mkF m 48 #[iv p1, iv p2, iv p3, iv p4, iv 1, iv 0, iv l1, iv l2, rv b65, .unset, .unset, .unset, .unset] [(.int l2)]) := fun t k => K t (XS.iload X65.here hx rfl (hb hby at_46) rfl k)
      obtain ⟨T66, h66, k66, X66, e66, E66, A66, Q66, st66⟩ := newPE X65 hx hZ (ow hw 0 rfl) e65 (g := (mkF m 48 #[iv p1, iv p2, iv p3, iv p4, iv 1, iv 0, iv l1, iv l2, rv b65, .unset, .unset, .unset, .unset] [(.int l2)])) rfl (hb hby at_48) rfl (own_nn hl2) (cap := 15) (own_cap hl2) (by decide) (by decide) (by decide) (ad := "[B") (by decide)
      obtain ⟨b66, gz66⟩ : ∃ z, z = h65.size := ⟨_, rfl⟩
      rw [← gz66] at A66 Q66 st66
      have ne_b65_b66 : b65 ≠ b66 := Nat.ne_of_lt (Nat.lt_of_lt_of_le Q65.lt (Nat.le_of_eq gz66.symm))
      have g_b66 : n0 ≤ b66 := Nat.le_trans Z65 (Nat.le_of_eq gz66.symm)
      have Z66 : n0 ≤ h66.size := Nat.le_trans Z65 E66.1
      have V_b66 : OAr Z h66 b66 k66 .byte (List.replicate l2.toNatClampNeg (.int (0 : Int32))) := OAr.new A66
      replace K : OGo p e below A0 T66 (mkF m 50 #[iv p1, iv p2, iv p3, iv p4, iv 1, iv 0, iv l1, iv l2, rv b65, .unset, .unset, .unset, .unset] [(.ref b66)]) := fun t k => K t (st66 t k)
      replace K : OGo p e below A0 T66 (mkF m 52 #[iv p1, iv p2, iv p3, iv p4, iv 1, iv 0, iv l1, iv l2, rv b65, rv b66, .unset, .unset, .unset] []) := fun t k => K t (XS.astore X66.here hx rfl (hb hby at_50) rfl rfl (l' := #[iv p1, iv p2, iv p3, iv p4, iv 1, iv 0, iv l1, iv l2, rv b65, rv b66, .unset, .unset, .unset]) rfl k)
      obtain ⟨T67, h67, X67, e67, E67, A67, D67, -, st67⟩ := newO X66 hx hZ hown (ow hw 1 rfl) (ow hw 2 rfl) (ow hw 3 rfl) e66 (g := (mkF m 52 #[iv p1, iv p2, iv p3, iv p4, iv 1, iv 0, iv l1, iv l2, rv b65, rv b66, .unset, .unset, .unset] [])) rfl (hb hby at_52) (by decide) (by decide)
      obtain ⟨b67, gz67⟩ : ∃ z, z = h66.size := ⟨_, rfl⟩
      rw [← gz67] at A67 D67 st67
      have Q65_68 := (Q65.ext E66)
      have ne_b65_b67 : b65 ≠ b67 := Nat.ne_of_lt (Nat.lt_of_lt_of_le Q65_68.lt (Nat.le_of_eq gz67.symm))
      have ne_b66_b67 : b66 ≠ b67 := Nat.ne_of_lt (Nat.lt_of_lt_of_le Q66.lt (Nat.le_of_eq gz67.symm))
      have g_b67 : n0 ≤ b67 := Nat.le_trans Z66 (Nat.le_of_eq gz67.symm)
      have Z67 : n0 ≤ h67.size := Nat.le_trans Z66 E67.1
      have F_actors_b67 : Fld Z h67 b67 cN0 "actors" "[I" .null := D67 (Or.inl (ow hw 12 rfl)) (ty := (.array .int)) (by decide)
      have F_indices_b67 : Fld Z h67 b67 cN0 "indices" "[I" .null := D67 (Or.inl (ow hw 14 rfl)) (ty := (.array .int)) (by decide)
      have F_branchNumbers_b67 : Fld Z h67 b67 cN0 "branchNumbers" "[I" .null := D67 (Or.inl (ow hw 16 rfl)) (ty := (.array .int)) (by decide)
      have F_chose_b67 : Fld Z h67 b67 cN0 "chose" "[Z" .null := D67 (Or.inl (ow hw 19 rfl)) (ty := (.array .boolean)) (by decide)
      have F_keys_b67 : Fld Z h67 b67 cN0 "keys" "[[B" .null := D67 (Or.inl (ow hw 23 rfl)) (ty := (.array (.array .byte))) (by decide)
      have F_moves_b67 : Fld Z h67 b67 cN0 "moves" cN1 .null := D67 (Or.inl (ow hw 27 rfl)) (ty := (.array (.object "com/example/flote/flote/search/Search$Moves"))) (by decide)
      have F_transitions_b67 : Fld Z h67 b67 cN0 "transitions" cN2 .null := D67 (Or.inl (ow hw 31 rfl)) (ty := (.array (.object "com/example/flote/flote/search/Search$Branches"))) (by decide)
      have F_frames_b67 : Fld Z h67 b67 cN0 "frames" "[J" .null := D67 (Or.inl (ow hw 34 rfl)) (ty := (.array .long)) (by decide)
      have F_targets_b67 : Fld Z h67 b67 cN0 "targets" "[I" .null := D67 (Or.inl (ow hw 36 rfl)) (ty := (.array .int)) (by decide)
      have F_stored_b67 : Fld Z h67 b67 cN0 "stored" "[Z" .null := D67 (Or.inl (ow hw 38 rfl)) (ty := (.array .boolean)) (by decide)
      have F_count_b67 : Fld Z h67 b67 cN0 "count" "I" (.int (0 : Int32)) := D67 (Or.inl (ow hw 49 rfl)) (ty := .int) (by decide)
      have F_admitted_b67 : Fld Z h67 b67 cN0 "admitted" "I" (.int (0 : Int32)) := D67 (Or.inl (ow hw 51 rfl)) (ty := .int) (by decide)
      have F_waitingBytes_b67 : Fld Z h67 b67 cN0 "waitingBytes" "J" (.long (0 : Int64)) := D67 (Or.inl (ow hw 60 rfl)) (ty := .long) (by decide)
      replace K : OGo p e below A0 T67 (mkF m 55 #[iv p1, iv p2, iv p3, iv p4, iv 1, iv 0, iv l1, iv l2, rv b65, rv b66, .unset, .unset, .unset] [(.ref b67)]) := fun t k => K t (st67 t k)
      replace K : OGo p e below A0 T67 (mkF m 56 #[iv p1, iv p2, iv p3, iv p4, iv 1, iv 0, iv l1, iv l2, rv b65, rv b66, .unset, .unset, .unset] [(.ref b67), (.ref b67)]) := fun t k => K t (XS.dup X67.here hx rfl (hb hby at_55) rfl rfl k)
      obtain ⟨_, _, ⟨T69, L69, k69, n69⟩, -, X69, ⟨Lc69, hQ69, l69, y69, z69⟩, st69⟩ := X67.specialBack hx (y := mN0) rfl hown (mvT hZ (ow hw 4 rfl)) (mvT hZ (ow hw 5 rfl)) (mvT hZ (ow hw 6 rfl)) (by decide) (backOf (W := 1) (rm_init l Z a0 hw [] b67 h67 n0 Z67 A67 F_actors_b67 F_indices_b67 F_branchNumbers_b67 F_chose_b67 F_keys_b67 F_moves_b67 F_transitions_b67 F_frames_b67 F_targets_b67 F_stored_b67 F_count_b67 F_admitted_b67 F_waitingBytes_b67 g_b67) hZ (ow hw 6 rfl) (ow hw 3 rfl) (by decide) (by decide)) (g := (mkF m 56 #[iv p1, iv p2, iv p3, iv p4, iv 1, iv 0, iv l1, iv l2, rv b65, rv b66, .unset, .unset, .unset] [(.ref b67), (.ref b67)])) rfl (by rw [hml]; rfl) (Steps.refl _) (a := b67) (argsL := []) (rest := [(.ref b67)]) (lenOf pd___V rfl) rfl (by show 2 * 0 + _ ≤ _; exact Nat.le_of_eq rfl) (hb hby at_56) (fun _ _ => ⟨rfl, e67, (by decide : 3 + 10 ≤ _), (by decide : 43 + 160 ≤ _)⟩)
      dsimp only [Pt.U, Pt.locs, Pt.cells, Pt.slots] at X69 l69 y69 z69 st69 hQ69
      subst l69 y69 z69
      obtain ⟨hp69, e69⟩ : ∃ z, T69.heap = z := ⟨_, rfl⟩
      rw [e69] at hQ69
      obtain ⟨rfl, Nq69, ac_69, ix_69, bn_69, ch_69, ky_69, mv_69, tr_69, fr_69, tg_69, sd_69, k_ac_69, k_ix_69, k_bn_69, k_ch_69, k_ky_69, k_mv_69, k_tr_69, k_fr_69, k_tg_69, k_sd_69, K69, P69_0, P69_1, P69_2, P69_3, P69_4, P69_5, P69_6, P69_7, P69_8, P69_9, P69_10, P69_11, P69_12, P69_13, P69_14, P69_15, P69_16, P69_17, P69_18, P69_19, P69_20, P69_21, P69_22, P69_23, P69_24, P69_25, P69_26, P69_27, P69_28, P69_29, P69_30, P69_31, P69_32, P69_33, P69_34, P69_35⟩ := hQ69
      have Q65_70 := (Q65_68.ext E67)
      have ne_b65_ac_69 : b65 ≠ ac_69 := Nat.ne_of_lt (Nat.lt_of_lt_of_le Q65_70.lt P69_0)
      have Q66_71 := (Q66.ext E67)
      have ne_b66_ac_69 : b66 ≠ ac_69 := Nat.ne_of_lt (Nat.lt_of_lt_of_le Q66_71.lt P69_0)
      have ne_b67_ac_69 : b67 ≠ ac_69 := Nat.ne_of_lt (Nat.lt_of_lt_of_le A67.lt P69_0)
      have g_ac_69 : n0 ≤ ac_69 := Nat.le_trans Z67 P69_0
      have ne_b65_ix_69 : b65 ≠ ix_69 := Nat.ne_of_lt (Nat.lt_of_lt_of_le Q65_70.lt P69_1)
      have ne_b66_ix_69 : b66 ≠ ix_69 := Nat.ne_of_lt (Nat.lt_of_lt_of_le Q66_71.lt P69_1)
      have ne_b67_ix_69 : b67 ≠ ix_69 := Nat.ne_of_lt (Nat.lt_of_lt_of_le A67.lt P69_1)
      have g_ix_69 : n0 ≤ ix_69 := Nat.le_trans Z67 P69_1
      have ne_b65_bn_69 : b65 ≠ bn_69 := Nat.ne_of_lt (Nat.lt_of_lt_of_le Q65_70.lt P69_2)
      have ne_b66_bn_69 : b66 ≠ bn_69 := Nat.ne_of_lt (Nat.lt_of_lt_of_le Q66_71.lt P69_2)
      have ne_b67_bn_69 : b67 ≠ bn_69 := Nat.ne_of_lt (Nat.lt_of_lt_of_le A67.lt P69_2)
      have g_bn_69 : n0 ≤ bn_69 := Nat.le_trans Z67 P69_2
      have ne_b65_ch_69 : b65 ≠ ch_69 := Nat.ne_of_lt (Nat.lt_of_lt_of_le Q65_70.lt P69_3)
      have ne_b66_ch_69 : b66 ≠ ch_69 := Nat.ne_of_lt (Nat.lt_of_lt_of_le Q66_71.lt P69_3)
      have ne_b67_ch_69 : b67 ≠ ch_69 := Nat.ne_of_lt (Nat.lt_of_lt_of_le A67.lt P69_3)
      have g_ch_69 : n0 ≤ ch_69 := Nat.le_trans Z67 P69_3
      have ne_b65_ky_69 : b65 ≠ ky_69 := Nat.ne_of_lt (Nat.lt_of_lt_of_le Q65_70.lt P69_4)
      have ne_b66_ky_69 : b66 ≠ ky_69 := Nat.ne_of_lt (Nat.lt_of_lt_of_le Q66_71.lt P69_4)
      have ne_b67_ky_69 : b67 ≠ ky_69 := Nat.ne_of_lt (Nat.lt_of_lt_of_le A67.lt P69_4)
      have g_ky_69 : n0 ≤ ky_69 := Nat.le_trans Z67 P69_4
      have ne_b65_mv_69 : b65 ≠ mv_69 := Nat.ne_of_lt (Nat.lt_of_lt_of_le Q65_70.lt P69_5)
      have ne_b66_mv_69 : b66 ≠ mv_69 := Nat.ne_of_lt (Nat.lt_of_lt_of_le Q66_71.lt P69_5)
      have ne_b67_mv_69 : b67 ≠ mv_69 := Nat.ne_of_lt (Nat.lt_of_lt_of_le A67.lt P69_5)
      have g_mv_69 : n0 ≤ mv_69 := Nat.le_trans Z67 P69_5
      have ne_b65_tr_69 : b65 ≠ tr_69 := Nat.ne_of_lt (Nat.lt_of_lt_of_le Q65_70.lt P69_6)
      have ne_b66_tr_69 : b66 ≠ tr_69 := Nat.ne_of_lt (Nat.lt_of_lt_of_le Q66_71.lt P69_6)
      have ne_b67_tr_69 : b67 ≠ tr_69 := Nat.ne_of_lt (Nat.lt_of_lt_of_le A67.lt P69_6)
      have g_tr_69 : n0 ≤ tr_69 := Nat.le_trans Z67 P69_6
      have ne_b65_fr_69 : b65 ≠ fr_69 := Nat.ne_of_lt (Nat.lt_of_lt_of_le Q65_70.lt P69_7)
      have ne_b66_fr_69 : b66 ≠ fr_69 := Nat.ne_of_lt (Nat.lt_of_lt_of_le Q66_71.lt P69_7)
      have ne_b67_fr_69 : b67 ≠ fr_69 := Nat.ne_of_lt (Nat.lt_of_lt_of_le A67.lt P69_7)
      have g_fr_69 : n0 ≤ fr_69 := Nat.le_trans Z67 P69_7
      have ne_b65_tg_69 : b65 ≠ tg_69 := Nat.ne_of_lt (Nat.lt_of_lt_of_le Q65_70.lt P69_8)
      have ne_b66_tg_69 : b66 ≠ tg_69 := Nat.ne_of_lt (Nat.lt_of_lt_of_le Q66_71.lt P69_8)
      have ne_b67_tg_69 : b67 ≠ tg_69 := Nat.ne_of_lt (Nat.lt_of_lt_of_le A67.lt P69_8)
      have g_tg_69 : n0 ≤ tg_69 := Nat.le_trans Z67 P69_8
      have ne_b65_sd_69 : b65 ≠ sd_69 := Nat.ne_of_lt (Nat.lt_of_lt_of_le Q65_70.lt P69_9)
      have ne_b66_sd_69 : b66 ≠ sd_69 := Nat.ne_of_lt (Nat.lt_of_lt_of_le Q66_71.lt P69_9)
      have ne_b67_sd_69 : b67 ≠ sd_69 := Nat.ne_of_lt (Nat.lt_of_lt_of_le A67.lt P69_9)
      have g_sd_69 : n0 ≤ sd_69 := Nat.le_trans Z67 P69_9
      have Z69 : n0 ≤ hp69.size := Nat.le_trans Z67 K69.1
      have N69 := Fr.app N0 Nq69
      replace K : OGo p e below A0 T69 (mkF m 59 #[iv p1, iv p2, iv p3, iv p4, iv 1, iv 0, iv l1, iv l2, rv b65, rv b66, .unset, .unset, .unset] [(.ref b67)]) := fun t k => K t (st69.trans k)
      replace K : OGo p e below A0 T69 (mkF m 61 #[iv p1, iv p2, iv p3, iv p4, iv 1, iv 0, iv l1, iv l2, rv b65, rv b66, rv b67, .unset, .unset] []) := fun t k => K t (XS.astore X69.here hx rfl (hb hby at_59) rfl rfl (l' := #[iv p1, iv p2, iv p3, iv p4, iv 1, iv 0, iv l1, iv l2, rv b65, rv b66, rv b67, .unset, .unset]) rfl k)
      replace K : OGo p e below A0 T69 (mkF m 62 #[iv p1, iv p2, iv p3, iv p4, iv 1, iv 0, iv l1, iv l2, rv b65, rv b66, rv b67, .unset, .unset] [(.int 0)]) := fun t k => K t (XS.iconst X69.here hx rfl (hb hby at_61) k)
      replace K : OGo p e below A0 T69 (mkF m 64 #[iv p1, iv p2, iv p3, iv p4, iv 1, iv 0, iv l1, iv l2, rv b65, rv b66, rv b67, iv 0, .unset] []) := fun t k => K t (XS.istore X69.here hx rfl (hb hby at_62) rfl (l' := #[iv p1, iv p2, iv p3, iv p4, iv 1, iv 0, iv l1, iv l2, rv b65, rv b66, rv b67, iv 0, .unset]) rfl k)
      replace K : OGo p e below A0 T69 (mkF m 66 #[iv p1, iv p2, iv p3, iv p4, iv 1, iv 0, iv l1, iv l2, rv b65, rv b66, rv b67, iv 0, .unset] [(.int 0)]) := fun t k => K t (XS.iload X69.here hx rfl (hb hby at_64) rfl k)
      replace K : OGo p e below A0 T69 (mkF m 79 #[iv p1, iv p2, iv p3, iv p4, iv 1, iv 0, iv l1, iv l2, rv b65, rv b66, rv b67, iv 0, .unset] []) := fun t k => K t (XS.ifYes X69.here hx rfl (pc0 := 66) (pc' := 79) rfl (hb hby at_66) rfl ((if0 _ _).trans (teq ((by decide : (0 : Int32) = (0 : Int32)) : (0 : Int32) = (0 : Int32))).1) (by decide) (by decide) k)
      replace K : OGo p e below A0 T69 (mkF m 81 #[iv p1, iv p2, iv p3, iv p4, iv 1, iv 0, iv l1, iv l2, rv b65, rv b66, rv b67, iv 0, .unset] [(.ref b67)]) := fun t k => K t (XS.aload X69.here hx rfl (hb hby at_79) rfl rfl k)
      replace K : OGo p e below A0 T69 (mkF m 82 #[iv p1, iv p2, iv p3, iv p4, iv 1, iv 0, iv l1, iv l2, rv b65, rv b66, rv b67, iv 0, .unset] [(.int 1), (.ref b67)]) := fun t k => K t (XS.iconst X69.here hx rfl (hb hby at_81) k)
      replace K : OGo p e below A0 T69 (mkF m 83 #[iv p1, iv p2, iv p3, iv p4, iv 1, iv 0, iv l1, iv l2, rv b65, rv b66, rv b67, iv 0, .unset] [(.int 2), (.int 1), (.ref b67)]) := fun t k => K t (XS.iconst X69.here hx rfl (hb hby at_82) k)
      replace K : OGo p e below A0 T69 (mkF m 84 #[iv p1, iv p2, iv p3, iv p4, iv 1, iv 0, iv l1, iv l2, rv b65, rv b66, rv b67, iv 0, .unset] [(.int 3), (.int 2), (.int 1), (.ref b67)]) := fun t k => K t (XS.iconst X69.here hx rfl (hb hby at_83) k)
      replace K : OGo p e below A0 T69 (mkF m 85 #[iv p1, iv p2, iv p3, iv p4, iv 1, iv 0, iv l1, iv l2, rv b65, rv b66, rv b67, iv 0, .unset] [(.int 0), (.int 3), (.int 2), (.int 1), (.ref b67)]) := fun t k => K t (XS.iconst X69.here hx rfl (hb hby at_84) k)
      replace K : OGo p e below A0 T69 (mkF m 87 #[iv p1, iv p2, iv p3, iv p4, iv 1, iv 0, iv l1, iv l2, rv b65, rv b66, rv b67, iv 0, .unset] [(.ref b65), (.int 0), (.int 3), (.int 2), (.int 1), (.ref b67)]) := fun t k => K t (XS.aload X69.here hx rfl (hb hby at_85) rfl rfl k)
      replace K : OGo p e below A0 T69 (mkF m 88 #[iv p1, iv p2, iv p3, iv p4, iv 1, iv 0, iv l1, iv l2, rv b65, rv b66, rv b67, iv 0, .unset] [.null, (.ref b65), (.int 0), (.int 3), (.int 2), (.int 1), (.ref b67)]) := fun t k => K t (XS.aconstNull X69.here hx rfl (hb hby at_87) k)
      replace K : OGo p e below A0 T69 (mkF m 91 #[iv p1, iv p2, iv p3, iv p4, iv 1, iv 0, iv l1, iv l2, rv b65, rv b66, rv b67, iv 0, .unset] [(.long 5), .null, (.ref b65), (.int 0), (.int 3), (.int 2), (.int 1), (.ref b67)]) := fun t k => K t (X69.ldc2Long hx hown (mvT hZ (ow hw 52 rfl)) (g := (mkF m 88 #[iv p1, iv p2, iv p3, iv p4, iv 1, iv 0, iv l1, iv l2, rv b65, rv b66, rv b67, iv 0, .unset] [.null, (.ref b65), (.int 0), (.int 3), (.int 2), (.int 1), (.ref b67)])) rfl (hb hby at_88) t k)
      replace K : OGo p e below A0 T69 (mkF m 92 #[iv p1, iv p2, iv p3, iv p4, iv 1, iv 0, iv l1, iv l2, rv b65, rv b66, rv b67, iv 0, .unset] [.null, (.long 5), .null, (.ref b65), (.int 0), (.int 3), (.int 2), (.int 1), (.ref b67)]) := fun t k => K t (XS.aconstNull X69.here hx rfl (hb hby at_91) k)
      have V_b65_73 := (((V_b65.ext E66).ext E67).keep K69 (ninS ne_b65_b67 nin0))
      have Q65_74 := (Q65_70.keep K69)
      have nd75 : OND [b67, ac_69, ix_69, bn_69, ch_69, ky_69, mv_69, tr_69, fr_69, tg_69, sd_69, b65] := (ondS (allS ne_b67_ac_69 (allS ne_b67_ix_69 (allS ne_b67_bn_69 (allS ne_b67_ch_69 (allS ne_b67_ky_69 (allS ne_b67_mv_69 (allS ne_b67_tr_69 (allS ne_b67_fr_69 (allS ne_b67_tg_69 (allS ne_b67_sd_69 (allS (Ne.symm ne_b65_b67) all0))))))))))) (ondS (allS (own_pw P69_10 0 1 (by decide) rfl rfl) (allS (own_pw P69_10 0 2 (by decide) rfl rfl) (allS (own_pw P69_10 0 3 (by decide) rfl rfl) (allS (own_pw P69_10 0 4 (by decide) rfl rfl) (allS (own_pw P69_10 0 5 (by decide) rfl rfl) (allS (own_pw P69_10 0 6 (by decide) rfl rfl) (allS (own_pw P69_10 0 7 (by decide) rfl rfl) (allS (own_pw P69_10 0 8 (by decide) rfl rfl) (allS (own_pw P69_10 0 9 (by decide) rfl rfl) (allS (Ne.symm ne_b65_ac_69) all0)))))))))) (ondS (allS (own_pw P69_10 1 2 (by decide) rfl rfl) (allS (own_pw P69_10 1 3 (by decide) rfl rfl) (allS (own_pw P69_10 1 4 (by decide) rfl rfl) (allS (own_pw P69_10 1 5 (by decide) rfl rfl) (allS (own_pw P69_10 1 6 (by decide) rfl rfl) (allS (own_pw P69_10 1 7 (by decide) rfl rfl) (allS (own_pw P69_10 1 8 (by decide) rfl rfl) (allS (own_pw P69_10 1 9 (by decide) rfl rfl) (allS (Ne.symm ne_b65_ix_69) all0))))))))) (ondS (allS (own_pw P69_10 2 3 (by decide) rfl rfl) (allS (own_pw P69_10 2 4 (by decide) rfl rfl) (allS (own_pw P69_10 2 5 (by decide) rfl rfl) (allS (own_pw P69_10 2 6 (by decide) rfl rfl) (allS (own_pw P69_10 2 7 (by decide) rfl rfl) (allS (own_pw P69_10 2 8 (by decide) rfl rfl) (allS (own_pw P69_10 2 9 (by decide) rfl rfl) (allS (Ne.symm ne_b65_bn_69) all0)))))))) (ondS (allS (own_pw P69_10 3 4 (by decide) rfl rfl) (allS (own_pw P69_10 3 5 (by decide) rfl rfl) (allS (own_pw P69_10 3 6 (by decide) rfl rfl) (allS (own_pw P69_10 3 7 (by decide) rfl rfl) (allS (own_pw P69_10 3 8 (by decide) rfl rfl) (allS (own_pw P69_10 3 9 (by decide) rfl rfl) (allS (Ne.symm ne_b65_ch_69) all0))))))) (ondS (allS (own_pw P69_10 4 5 (by decide) rfl rfl) (allS (own_pw P69_10 4 6 (by decide) rfl rfl) (allS (own_pw P69_10 4 7 (by decide) rfl rfl) (allS (own_pw P69_10 4 8 (by decide) rfl rfl) (allS (own_pw P69_10 4 9 (by decide) rfl rfl) (allS (Ne.symm ne_b65_ky_69) all0)))))) (ondS (allS (own_pw P69_10 5 6 (by decide) rfl rfl) (allS (own_pw P69_10 5 7 (by decide) rfl rfl) (allS (own_pw P69_10 5 8 (by decide) rfl rfl) (allS (own_pw P69_10 5 9 (by decide) rfl rfl) (allS (Ne.symm ne_b65_mv_69) all0))))) (ondS (allS (own_pw P69_10 6 7 (by decide) rfl rfl) (allS (own_pw P69_10 6 8 (by decide) rfl rfl) (allS (own_pw P69_10 6 9 (by decide) rfl rfl) (allS (Ne.symm ne_b65_tr_69) all0)))) (ondS (allS (own_pw P69_10 7 8 (by decide) rfl rfl) (allS (own_pw P69_10 7 9 (by decide) rfl rfl) (allS (Ne.symm ne_b65_fr_69) all0))) (ondS (allS (own_pw P69_10 8 9 (by decide) rfl rfl) (allS (Ne.symm ne_b65_tg_69) all0)) (ondS (allS (Ne.symm ne_b65_sd_69) all0) (ondS all0 ond0))))))))))))
      obtain ⟨cq72, kq72, qv72a, qv72b, qv72c⟩ := isOf hZ e69 P69_12
      obtain ⟨_, _, ⟨T72, L72, k72, n72⟩, -, X72, ⟨Lc72, hQ72, l72, y72, z72⟩, st72⟩ := X69.virtualBack hx (y := mN3) (z := mN3) hown (mvT hZ (ow hw 53 rfl)) (mvT hZ (ow hw 54 rfl)) (notFace_of_selects (args := #[]) (mvT hZ (ow hw 56 rfl))) (mvT hZ (ow hw 56 rfl)) (mvT hZ (ow hw 55 rfl)) (by decide) (backOf (W := 0) (rm_add0 l Z a0 hw [] b67 (1 : Int32) (2 : Int32) (3 : Int32) (0 : Int32) b65 (5 : Int64) ac_69 ix_69 bn_69 ch_69 ky_69 mv_69 tr_69 fr_69 tg_69 sd_69 k_ac_69 k_ix_69 k_bn_69 k_ch_69 k_ky_69 k_mv_69 k_tr_69 k_fr_69 (.int (0 : Int32)) (.int (0 : Int32)) (.int (0 : Int32)) (.int (0 : Int32)) (.int (0 : Int32)) (.int (0 : Int32)) (.int (0 : Int32)) (.int (0 : Int32)) (.int (0 : Int32)) (.int (0 : Int32)) (.int (0 : Int32)) (.int (0 : Int32)) .null .null .null .null .null .null .null .null .null (.long (0 : Int64)) (.long (0 : Int64)) (.long (0 : Int64)) (List.replicate l1.toNatClampNeg (.int (0 : Int32))) k65 l1 (0 : Int32) (0 : Int64) hp69 n0 Z69 P69_12 P69_13 P69_14 P69_15 P69_16 P69_17 P69_18 P69_19 P69_20 P69_21 P69_22 P69_23 P69_24 P69_25 P69_26 P69_27 P69_28 P69_29 P69_30 P69_31 P69_32 P69_33 V_b65_73 Q65_74 (own_rl hl1 _) P69_11 g_b67 g_ac_69 g_ix_69 g_bn_69 g_ch_69 g_ky_69 g_mv_69 g_tr_69 g_fr_69 nd75) hZ (ow hw 57 rfl) (ow hw 3 rfl) (by decide) (by decide)) qv72a qv72c (g := (mkF m 92 #[iv p1, iv p2, iv p3, iv p4, iv 1, iv 0, iv l1, iv l2, rv b65, rv b66, rv b67, iv 0, .unset] [.null, (.long 5), .null, (.ref b65), (.int 0), (.int 3), (.int 2), (.int 1), (.ref b67)])) rfl (by rw [hml]; rfl) (Steps.refl _) (argsL := [(.int (1 : Int32)), (.int (2 : Int32)), (.int (3 : Int32)), (.int (0 : Int32)), (.ref b65), .null, (.long (5 : Int64)), .null]) (rest := []) (lenOf pd__IIIZ_BLcom_example_flote_flote_search_Search_Moves_JLcom_example_flote_flote_search_Search_Branches__V rfl) rfl (by show 2 * 0 + _ ≤ _; exact Nat.le_of_eq rfl) (hb hby at_92) (fun _ _ => ⟨rfl, e69, (by decide : 13 + 0 ≤ _), (by decide : 203 + 0 ≤ _)⟩)
      dsimp only [Pt.U, Pt.locs, Pt.cells, Pt.slots] at X72 l72 y72 z72 st72 hQ72
      subst l72 y72 z72
      obtain ⟨hp72, e72⟩ : ∃ z, T72.heap = z := ⟨_, rfl⟩
      rw [e72] at hQ72
      obtain ⟨rfl, Nq72, K72, P72_0, P72_1, P72_2, P72_3, P72_4, P72_5, P72_6, P72_7, P72_8, P72_9, P72_10, P72_11, P72_12, P72_13, P72_14, P72_15, P72_16, P72_17, P72_18, P72_19, P72_20, P72_21⟩ := hQ72
      have Z72 : n0 ≤ hp72.size := Nat.le_trans Z69 K72.1
      have N72 := Fr.app N69 Nq72
      replace K : OGo p e below A0 T72 (mkF m 95 #[iv p1, iv p2, iv p3, iv p4, iv 1, iv 0, iv l1, iv l2, rv b65, rv b66, rv b67, iv 0, .unset] []) := fun t k => K t (st72.trans k)
      replace K : OGo p e below A0 T72 (mkF m 97 #[iv p1, iv p2, iv p3, iv p4, iv 1, iv 0, iv l1, iv l2, rv b65, rv b66, rv b67, iv 0, .unset] [(.ref b67)]) := fun t k => K t (XS.aload X72.here hx rfl (hb hby at_95) rfl rfl k)
      replace K : OGo p e below A0 T72 (mkF m 98 #[iv p1, iv p2, iv p3, iv p4, iv 1, iv 0, iv l1, iv l2, rv b65, rv b66, rv b67, iv 0, .unset] [(.int 4), (.ref b67)]) := fun t k => K t (XS.iconst X72.here hx rfl (hb hby at_97) k)
      replace K : OGo p e below A0 T72 (mkF m 99 #[iv p1, iv p2, iv p3, iv p4, iv 1, iv 0, iv l1, iv l2, rv b65, rv b66, rv b67, iv 0, .unset] [(.int 5), (.int 4), (.ref b67)]) := fun t k => K t (XS.iconst X72.here hx rfl (hb hby at_98) k)
      replace K : OGo p e below A0 T72 (mkF m 101 #[iv p1, iv p2, iv p3, iv p4, iv 1, iv 0, iv l1, iv l2, rv b65, rv b66, rv b67, iv 0, .unset] [(.int 6), (.int 5), (.int 4), (.ref b67)]) := fun t k => K t (XS.bipush X72.here hx rfl (hb hby at_99) k)
      replace K : OGo p e below A0 T72 (mkF m 102 #[iv p1, iv p2, iv p3, iv p4, iv 1, iv 0, iv l1, iv l2, rv b65, rv b66, rv b67, iv 0, .unset] [(.int 1), (.int 6), (.int 5), (.int 4), (.ref b67)]) := fun t k => K t (XS.iconst X72.here hx rfl (hb hby at_101) k)
      replace K : OGo p e below A0 T72 (mkF m 104 #[iv p1, iv p2, iv p3, iv p4, iv 1, iv 0, iv l1, iv l2, rv b65, rv b66, rv b67, iv 0, .unset] [(.ref b66), (.int 1), (.int 6), (.int 5), (.int 4), (.ref b67)]) := fun t k => K t (XS.aload X72.here hx rfl (hb hby at_102) rfl rfl k)
      replace K : OGo p e below A0 T72 (mkF m 105 #[iv p1, iv p2, iv p3, iv p4, iv 1, iv 0, iv l1, iv l2, rv b65, rv b66, rv b67, iv 0, .unset] [.null, (.ref b66), (.int 1), (.int 6), (.int 5), (.int 4), (.ref b67)]) := fun t k => K t (XS.aconstNull X72.here hx rfl (hb hby at_104) k)
      replace K : OGo p e below A0 T72 (mkF m 108 #[iv p1, iv p2, iv p3, iv p4, iv 1, iv 0, iv l1, iv l2, rv b65, rv b66, rv b67, iv 0, .unset] [(.long 7), .null, (.ref b66), (.int 1), (.int 6), (.int 5), (.int 4), (.ref b67)]) := fun t k => K t (X72.ldc2Long hx hown (mvT hZ (ow hw 61 rfl)) (g := (mkF m 105 #[iv p1, iv p2, iv p3, iv p4, iv 1, iv 0, iv l1, iv l2, rv b65, rv b66, rv b67, iv 0, .unset] [.null, (.ref b66), (.int 1), (.int 6), (.int 5), (.int 4), (.ref b67)])) rfl (hb hby at_105) t k)
      replace K : OGo p e below A0 T72 (mkF m 109 #[iv p1, iv p2, iv p3, iv p4, iv 1, iv 0, iv l1, iv l2, rv b65, rv b66, rv b67, iv 0, .unset] [.null, (.long 7), .null, (.ref b66), (.int 1), (.int 6), (.int 5), (.int 4), (.ref b67)]) := fun t k => K t (XS.aconstNull X72.here hx rfl (hb hby at_108) k)
      have V_b66_77 := (((V_b66.ext E67).keep K69 (ninS ne_b66_b67 nin0)).keep K72 (ninS ne_b66_b67 (ninS ne_b66_ac_69 (ninS ne_b66_ix_69 (ninS ne_b66_bn_69 (ninS ne_b66_ch_69 (ninS ne_b66_ky_69 (ninS ne_b66_mv_69 (ninS ne_b66_tr_69 (ninS ne_b66_fr_69 nin0))))))))))
      have Q66_78 := ((Q66_71.keep K69).keep K72)
      have nd79 : OND [b67, ac_69, ix_69, bn_69, ch_69, ky_69, mv_69, tr_69, fr_69, tg_69, sd_69, b66] := (ondS (allS ne_b67_ac_69 (allS ne_b67_ix_69 (allS ne_b67_bn_69 (allS ne_b67_ch_69 (allS ne_b67_ky_69 (allS ne_b67_mv_69 (allS ne_b67_tr_69 (allS ne_b67_fr_69 (allS ne_b67_tg_69 (allS ne_b67_sd_69 (allS (Ne.symm ne_b66_b67) all0))))))))))) (ondS (allS (own_pw P69_10 0 1 (by decide) rfl rfl) (allS (own_pw P69_10 0 2 (by decide) rfl rfl) (allS (own_pw P69_10 0 3 (by decide) rfl rfl) (allS (own_pw P69_10 0 4 (by decide) rfl rfl) (allS (own_pw P69_10 0 5 (by decide) rfl rfl) (allS (own_pw P69_10 0 6 (by decide) rfl rfl) (allS (own_pw P69_10 0 7 (by decide) rfl rfl) (allS (own_pw P69_10 0 8 (by decide) rfl rfl) (allS (own_pw P69_10 0 9 (by decide) rfl rfl) (allS (Ne.symm ne_b66_ac_69) all0)))))))))) (ondS (allS (own_pw P69_10 1 2 (by decide) rfl rfl) (allS (own_pw P69_10 1 3 (by decide) rfl rfl) (allS (own_pw P69_10 1 4 (by decide) rfl rfl) (allS (own_pw P69_10 1 5 (by decide) rfl rfl) (allS (own_pw P69_10 1 6 (by decide) rfl rfl) (allS (own_pw P69_10 1 7 (by decide) rfl rfl) (allS (own_pw P69_10 1 8 (by decide) rfl rfl) (allS (own_pw P69_10 1 9 (by decide) rfl rfl) (allS (Ne.symm ne_b66_ix_69) all0))))))))) (ondS (allS (own_pw P69_10 2 3 (by decide) rfl rfl) (allS (own_pw P69_10 2 4 (by decide) rfl rfl) (allS (own_pw P69_10 2 5 (by decide) rfl rfl) (allS (own_pw P69_10 2 6 (by decide) rfl rfl) (allS (own_pw P69_10 2 7 (by decide) rfl rfl) (allS (own_pw P69_10 2 8 (by decide) rfl rfl) (allS (own_pw P69_10 2 9 (by decide) rfl rfl) (allS (Ne.symm ne_b66_bn_69) all0)))))))) (ondS (allS (own_pw P69_10 3 4 (by decide) rfl rfl) (allS (own_pw P69_10 3 5 (by decide) rfl rfl) (allS (own_pw P69_10 3 6 (by decide) rfl rfl) (allS (own_pw P69_10 3 7 (by decide) rfl rfl) (allS (own_pw P69_10 3 8 (by decide) rfl rfl) (allS (own_pw P69_10 3 9 (by decide) rfl rfl) (allS (Ne.symm ne_b66_ch_69) all0))))))) (ondS (allS (own_pw P69_10 4 5 (by decide) rfl rfl) (allS (own_pw P69_10 4 6 (by decide) rfl rfl) (allS (own_pw P69_10 4 7 (by decide) rfl rfl) (allS (own_pw P69_10 4 8 (by decide) rfl rfl) (allS (own_pw P69_10 4 9 (by decide) rfl rfl) (allS (Ne.symm ne_b66_ky_69) all0)))))) (ondS (allS (own_pw P69_10 5 6 (by decide) rfl rfl) (allS (own_pw P69_10 5 7 (by decide) rfl rfl) (allS (own_pw P69_10 5 8 (by decide) rfl rfl) (allS (own_pw P69_10 5 9 (by decide) rfl rfl) (allS (Ne.symm ne_b66_mv_69) all0))))) (ondS (allS (own_pw P69_10 6 7 (by decide) rfl rfl) (allS (own_pw P69_10 6 8 (by decide) rfl rfl) (allS (own_pw P69_10 6 9 (by decide) rfl rfl) (allS (Ne.symm ne_b66_tr_69) all0)))) (ondS (allS (own_pw P69_10 7 8 (by decide) rfl rfl) (allS (own_pw P69_10 7 9 (by decide) rfl rfl) (allS (Ne.symm ne_b66_fr_69) all0))) (ondS (allS (own_pw P69_10 8 9 (by decide) rfl rfl) (allS (Ne.symm ne_b66_tg_69) all0)) (ondS (allS (Ne.symm ne_b66_sd_69) all0) (ondS all0 ond0))))))))))))
      obtain ⟨cq76, kq76, qv76a, qv76b, qv76c⟩ := isOf hZ e72 P72_0
      obtain ⟨_, _, ⟨T76, L76, k76, n76⟩, -, X76, ⟨Lc76, hQ76, l76, y76, z76⟩, st76⟩ := X72.virtualBack hx (y := mN3) (z := mN3) hown (mvT hZ (ow hw 53 rfl)) (mvT hZ (ow hw 54 rfl)) (notFace_of_selects (args := #[]) (mvT hZ (ow hw 56 rfl))) (mvT hZ (ow hw 56 rfl)) (mvT hZ (ow hw 55 rfl)) (by decide) (backOf (W := 0) (rm_add1 l Z a0 hw [] b67 (4 : Int32) (5 : Int32) (6 : Int32) (1 : Int32) b66 (7 : Int64) ac_69 ix_69 bn_69 ch_69 ky_69 mv_69 tr_69 fr_69 tg_69 sd_69 k_ac_69 k_ix_69 k_bn_69 k_ch_69 k_ky_69 k_mv_69 k_tr_69 k_fr_69 (.int (1 : Int32)) (.int (0 : Int32)) (.int (0 : Int32)) (.int (2 : Int32)) (.int (0 : Int32)) (.int (0 : Int32)) (.int (3 : Int32)) (.int (0 : Int32)) (.int (0 : Int32)) (.int (nar .boolean (0 : Int32))) (.int (0 : Int32)) (.int (0 : Int32)) (.ref b65) .null .null .null .null .null .null .null .null (.long (5 : Int64)) (.long (0 : Int64)) (.long (0 : Int64)) (List.replicate l2.toNatClampNeg (.int (0 : Int32))) k66 l2 (0 : Int32) ((0 : Int64) + ((l1 + (1 : Int32)).toInt64)) hp72 n0 Z72 P72_0 P72_1 P72_2 P72_3 P72_4 P72_5 P72_6 P72_7 P72_8 P72_9 P72_10 P72_11 P72_12 P72_13 P72_14 P72_15 P72_16 P72_17 P72_18 P72_19 P72_20 P72_21 V_b66_77 Q66_78 (own_rl hl2 _) P69_11 g_b67 g_ac_69 g_ix_69 g_bn_69 g_ch_69 g_ky_69 g_mv_69 g_tr_69 g_fr_69 nd79) hZ (ow hw 57 rfl) (ow hw 3 rfl) (by decide) (by decide)) qv76a qv76c (g := (mkF m 109 #[iv p1, iv p2, iv p3, iv p4, iv 1, iv 0, iv l1, iv l2, rv b65, rv b66, rv b67, iv 0, .unset] [.null, (.long 7), .null, (.ref b66), (.int 1), (.int 6), (.int 5), (.int 4), (.ref b67)])) rfl (by rw [hml]; rfl) (Steps.refl _) (argsL := [(.int (4 : Int32)), (.int (5 : Int32)), (.int (6 : Int32)), (.int (1 : Int32)), (.ref b66), .null, (.long (7 : Int64)), .null]) (rest := []) (lenOf pd__IIIZ_BLcom_example_flote_flote_search_Search_Moves_JLcom_example_flote_flote_search_Search_Branches__V rfl) rfl (by show 2 * 0 + _ ≤ _; exact Nat.le_of_eq rfl) (hb hby at_109) (fun _ _ => ⟨rfl, e72, (by decide : 13 + 0 ≤ _), (by decide : 203 + 0 ≤ _)⟩)
      dsimp only [Pt.U, Pt.locs, Pt.cells, Pt.slots] at X76 l76 y76 z76 st76 hQ76
      subst l76 y76 z76
      obtain ⟨hp76, e76⟩ : ∃ z, T76.heap = z := ⟨_, rfl⟩
      rw [e76] at hQ76
      obtain ⟨rfl, Nq76, K76, P76_0, P76_1, P76_2, P76_3, P76_4, P76_5, P76_6, P76_7, P76_8, P76_9, P76_10, P76_11, P76_12, P76_13, P76_14, P76_15, P76_16, P76_17, P76_18, P76_19, P76_20, P76_21⟩ := hQ76
      have Z76 : n0 ≤ hp76.size := Nat.le_trans Z72 K76.1
      have N76 := Fr.app N72 Nq76
      replace K : OGo p e below A0 T76 (mkF m 112 #[iv p1, iv p2, iv p3, iv p4, iv 1, iv 0, iv l1, iv l2, rv b65, rv b66, rv b67, iv 0, .unset] []) := fun t k => K t (st76.trans k)
      replace K : OGo p e below A0 T76 (mkF m 114 #[iv p1, iv p2, iv p3, iv p4, iv 1, iv 0, iv l1, iv l2, rv b65, rv b66, rv b67, iv 0, .unset] [(.ref b67)]) := fun t k => K t (XS.aload X76.here hx rfl (hb hby at_112) rfl rfl k)
      replace K : OGo p e below A0 T76 (mkF m 115 #[iv p1, iv p2, iv p3, iv p4, iv 1, iv 0, iv l1, iv l2, rv b65, rv b66, rv b67, iv 0, .unset] [(.int p1), (.ref b67)]) := fun t k => K t (XS.iloadN X76.here hx rfl (hb hby at_114) rfl k)
      replace K : OGo p e below A0 T76 (mkF m 117 #[iv p1, iv p2, iv p3, iv p4, iv 1, iv 0, iv l1, iv l2, rv b65, rv b66, rv b67, iv 0, .unset] [(.int 1), (.int p1), (.ref b67)]) := fun t k => K t (XS.iload X76.here hx rfl (hb hby at_115) rfl k)
      have V_tg_69_81 := ((P69_34.keep K72 (ninS (Ne.symm ne_b67_tg_69) (ninS (Ne.symm (own_pw P69_10 0 8 (by decide) rfl rfl)) (ninS (Ne.symm (own_pw P69_10 1 8 (by decide) rfl rfl)) (ninS (Ne.symm (own_pw P69_10 2 8 (by decide) rfl rfl)) (ninS (Ne.symm (own_pw P69_10 3 8 (by decide) rfl rfl)) (ninS (Ne.symm (own_pw P69_10 4 8 (by decide) rfl rfl)) (ninS (Ne.symm (own_pw P69_10 5 8 (by decide) rfl rfl)) (ninS (Ne.symm (own_pw P69_10 6 8 (by decide) rfl rfl)) (ninS (Ne.symm (own_pw P69_10 7 8 (by decide) rfl rfl)) nin0)))))))))).keep K76 (ninS (Ne.symm ne_b67_tg_69) (ninS (Ne.symm (own_pw P69_10 0 8 (by decide) rfl rfl)) (ninS (Ne.symm (own_pw P69_10 1 8 (by decide) rfl rfl)) (ninS (Ne.symm (own_pw P69_10 2 8 (by decide) rfl rfl)) (ninS (Ne.symm (own_pw P69_10 3 8 (by decide) rfl rfl)) (ninS (Ne.symm (own_pw P69_10 4 8 (by decide) rfl rfl)) (ninS (Ne.symm (own_pw P69_10 5 8 (by decide) rfl rfl)) (ninS (Ne.symm (own_pw P69_10 6 8 (by decide) rfl rfl)) (ninS (Ne.symm (own_pw P69_10 7 8 (by decide) rfl rfl)) nin0))))))))))
      have V_sd_69_82 := ((P69_35.keep K72 (ninS (Ne.symm ne_b67_sd_69) (ninS (Ne.symm (own_pw P69_10 0 9 (by decide) rfl rfl)) (ninS (Ne.symm (own_pw P69_10 1 9 (by decide) rfl rfl)) (ninS (Ne.symm (own_pw P69_10 2 9 (by decide) rfl rfl)) (ninS (Ne.symm (own_pw P69_10 3 9 (by decide) rfl rfl)) (ninS (Ne.symm (own_pw P69_10 4 9 (by decide) rfl rfl)) (ninS (Ne.symm (own_pw P69_10 5 9 (by decide) rfl rfl)) (ninS (Ne.symm (own_pw P69_10 6 9 (by decide) rfl rfl)) (ninS (Ne.symm (own_pw P69_10 7 9 (by decide) rfl rfl)) nin0)))))))))).keep K76 (ninS (Ne.symm ne_b67_sd_69) (ninS (Ne.symm (own_pw P69_10 0 9 (by decide) rfl rfl)) (ninS (Ne.symm (own_pw P69_10 1 9 (by decide) rfl rfl)) (ninS (Ne.symm (own_pw P69_10 2 9 (by decide) rfl rfl)) (ninS (Ne.symm (own_pw P69_10 3 9 (by decide) rfl rfl)) (ninS (Ne.symm (own_pw P69_10 4 9 (by decide) rfl rfl)) (ninS (Ne.symm (own_pw P69_10 5 9 (by decide) rfl rfl)) (ninS (Ne.symm (own_pw P69_10 6 9 (by decide) rfl rfl)) (ninS (Ne.symm (own_pw P69_10 7 9 (by decide) rfl rfl)) nin0))))))))))
      have V_b65_83 := ((V_b65_73.keep K72 (ninS ne_b65_b67 (ninS ne_b65_ac_69 (ninS ne_b65_ix_69 (ninS ne_b65_bn_69 (ninS ne_b65_ch_69 (ninS ne_b65_ky_69 (ninS ne_b65_mv_69 (ninS ne_b65_tr_69 (ninS ne_b65_fr_69 nin0)))))))))).keep K76 (ninS ne_b65_b67 (ninS ne_b65_ac_69 (ninS ne_b65_ix_69 (ninS ne_b65_bn_69 (ninS ne_b65_ch_69 (ninS ne_b65_ky_69 (ninS ne_b65_mv_69 (ninS ne_b65_tr_69 (ninS ne_b65_fr_69 nin0))))))))))
      obtain ⟨cq80, kq80, qv80a, qv80b, qv80c⟩ := isOf hZ e76 P76_0
      obtain ⟨_, _, ⟨T80, L80, k80, n80⟩, -, X80, ⟨Lc80, hQ80, l80, y80, z80⟩, st80⟩ := X76.virtualBack hx (y := mN4) (z := mN4) hown (mvT hZ (ow hw 62 rfl)) (mvT hZ (ow hw 63 rfl)) (notFace_of_selects (args := #[]) (mvT hZ (ow hw 65 rfl))) (mvT hZ (ow hw 65 rfl)) (mvT hZ (ow hw 64 rfl)) (by decide) (backOf (W := 0) (rm_admit01 l Z a0 hw [] b67 p1 ac_69 ix_69 bn_69 ch_69 ky_69 mv_69 tr_69 fr_69 tg_69 sd_69 k_tg_69 k_sd_69 k_ky_69 k_tr_69 (.int (0 : Int32)) (.int (0 : Int32)) (.int (0 : Int32)) (.int (0 : Int32)) (.int (0 : Int32)) (.int (0 : Int32)) (.ref b66) .null .null .null .null b65 (List.replicate l1.toNatClampNeg (.int (0 : Int32))) k65 l1 (2 : Int32) (((0 : Int64) + ((l1 + (1 : Int32)).toInt64)) + ((l2 + (1 : Int32)).toInt64)) hp76 n0 Z76 P76_0 P76_1 P76_2 P76_3 P76_4 P76_5 P76_6 P76_7 P76_8 P76_9 P76_10 P76_11 P76_12 P76_13 V_tg_69_81 V_sd_69_82 P76_20 P76_18 V_b65_83 (own_rl hl1 _) g_b67 g_tg_69 g_sd_69 g_ky_69 g_tr_69 nd75) hZ (ow hw 66 rfl) (ow hw 3 rfl) (by decide) (by decide)) qv80a qv80c (g := (mkF m 117 #[iv p1, iv p2, iv p3, iv p4, iv 1, iv 0, iv l1, iv l2, rv b65, rv b66, rv b67, iv 0, .unset] [(.int 1), (.int p1), (.ref b67)])) rfl (by rw [hml]; rfl) (Steps.refl _) (argsL := [(.int p1), (.int (1 : Int32))]) (rest := []) (lenOf pd__IZ_V rfl) rfl (by show 2 * 0 + _ ≤ _; exact Nat.le_of_eq rfl) (hb hby at_117) (fun _ _ => ⟨rfl, e76, (by decide : 13 + 0 ≤ _), (by decide : 203 + 0 ≤ _)⟩)
      dsimp only [Pt.U, Pt.locs, Pt.cells, Pt.slots] at X80 l80 y80 z80 st80 hQ80
      subst l80 y80 z80
      obtain ⟨hp80, e80⟩ : ∃ z, T80.heap = z := ⟨_, rfl⟩
      rw [e80] at hQ80
      obtain ⟨rfl, Nq80, K80, P80_0, P80_1, P80_2, P80_3, P80_4, P80_5, P80_6, P80_7, P80_8, P80_9, P80_10, P80_11, P80_12, P80_13, P80_14, P80_15, P80_16, P80_17⟩ := hQ80
      have Z80 : n0 ≤ hp80.size := Nat.le_trans Z76 K80.1
      have N80 := Fr.app N76 Nq80
      replace K : OGo p e below A0 T80 (mkF m 120 #[iv p1, iv p2, iv p3, iv p4, iv 1, iv 0, iv l1, iv l2, rv b65, rv b66, rv b67, iv 0, .unset] []) := fun t k => K t (st80.trans k)
      replace K : OGo p e below A0 T80 (mkF m 122 #[iv p1, iv p2, iv p3, iv p4, iv 1, iv 0, iv l1, iv l2, rv b65, rv b66, rv b67, iv 0, .unset] [(.ref b67)]) := fun t k => K t (XS.aload X80.here hx rfl (hb hby at_120) rfl rfl k)
      obtain ⟨cq84, kq84, qv84a, qv84b, qv84c⟩ := isOf hZ e80 P80_0
      obtain ⟨_, _, ⟨T84, L84, k84, n84⟩, -, X84, ⟨Lc84, hQ84, l84, y84, z84⟩, st84⟩ := X80.virtualBack hx (y := mN5) (z := mN5) hown (mvT hZ (ow hw 67 rfl)) (mvT hZ (ow hw 68 rfl)) (notFace_of_selects (args := #[]) (mvT hZ (ow hw 70 rfl))) (mvT hZ (ow hw 70 rfl)) (mvT hZ (ow hw 69 rfl)) (by decide) (backOf (W := 0) (rm_admitted l Z a0 hw [] b67 (1 : Int32) hp80 n0 Z80 P80_12) hZ (ow hw 71 rfl) (ow hw 3 rfl) (by decide) (by decide)) qv84a qv84c (g := (mkF m 122 #[iv p1, iv p2, iv p3, iv p4, iv 1, iv 0, iv l1, iv l2, rv b65, rv b66, rv b67, iv 0, .unset] [(.ref b67)])) rfl (by rw [hml]; rfl) (Steps.refl _) (argsL := []) (rest := []) (lenOf pd___I rfl) rfl (by show 2 * 0 + _ ≤ _; exact Nat.le_of_eq rfl) (hb hby at_122) (fun _ _ => ⟨rfl, e80, (by decide : 13 + 0 ≤ _), (by decide : 203 + 0 ≤ _)⟩)
      dsimp only [Pt.U, Pt.locs, Pt.cells, Pt.slots] at X84 l84 y84 z84 st84 hQ84
      subst l84 y84 z84
      obtain ⟨rfl, Nq84, e84⟩ := hQ84
      have N84 := Fr.app N80 Nq84
      replace K : OGo p e below A0 T84 (mkF m 125 #[iv p1, iv p2, iv p3, iv p4, iv 1, iv 0, iv l1, iv l2, rv b65, rv b66, rv b67, iv 0, .unset] [(.int 1)]) := fun t k => K t (st84.trans k)
      replace K : OGo p e below A0 T84 (mkF m 127 #[iv p1, iv p2, iv p3, iv p4, iv 1, iv 0, iv l1, iv l2, rv b65, rv b66, rv b67, iv 0, .unset] [(.int 0), (.int 1)]) := fun t k => K t (XS.iload X84.here hx rfl (hb hby at_125) rfl k)
      replace K : OGo p e below A0 T84 (mkF m 128 #[iv p1, iv p2, iv p3, iv p4, iv 1, iv 0, iv l1, iv l2, rv b65, rv b66, rv b67, iv 0, .unset] [(.int 1), (.int 0), (.int 1)]) := fun t k => K t (XS.iconst X84.here hx rfl (hb hby at_127) k)
      replace K : OGo p e below A0 T84 (mkF m 129 #[iv p1, iv p2, iv p3, iv p4, iv 1, iv 0, iv l1, iv l2, rv b65, rv b66, rv b67, iv 0, .unset] [(.int 1), (.int 1)]) := fun t k => K t (XS.iadd X84.here hx rfl (hb hby at_128) rfl k)
      replace K : OGo p e below A0 T84 (mkF m 132 #[iv p1, iv p2, iv p3, iv p4, iv 1, iv 0, iv l1, iv l2, rv b65, rv b66, rv b67, iv 0, .unset] []) := fun t k => K t (XS.icmpNo X84.here hx rfl (hb hby at_129) rfl (teq ((by decide : (1 : Int32) = (1 : Int32)) : (1 : Int32) = (1 : Int32))).2 k)
      replace K : OGo p e below A0 T84 (mkF m 134 #[iv p1, iv p2, iv p3, iv p4, iv 1, iv 0, iv l1, iv l2, rv b65, rv b66, rv b67, iv 0, .unset] [(.ref b67)]) := fun t k => K t (XS.aload X84.here hx rfl (hb hby at_132) rfl rfl k)
      replace K : OGo p e below A0 T84 (mkF m 136 #[iv p1, iv p2, iv p3, iv p4, iv 1, iv 0, iv l1, iv l2, rv b65, rv b66, rv b67, iv 0, .unset] [(.int 0), (.ref b67)]) := fun t k => K t (XS.iload X84.here hx rfl (hb hby at_134) rfl k)
      obtain ⟨cq85, kq85, qv85a, qv85b, qv85c⟩ := isOf hZ e84 P80_0
      obtain ⟨_, _, ⟨T85, L85, k85, n85⟩, -, X85, ⟨Lc85, hQ85, l85, y85, z85⟩, st85⟩ := X84.virtualBack hx (y := mN7) (z := mN7) hown (mvT hZ (ow hw 72 rfl)) (mvT hZ (ow hw 73 rfl)) (notFace_of_selects (args := #[]) (mvT hZ (ow hw 75 rfl))) (mvT hZ (ow hw 75 rfl)) (mvT hZ (ow hw 74 rfl)) (by decide) (backOf (W := 0) (rm_target l Z a0 hw [] b67 (0 : Int32) tg_69 k_tg_69 [(.int p1), (.int (0 : Int32)), (.int (0 : Int32)), (.int (0 : Int32)), (.int (0 : Int32)), (.int (0 : Int32)), (.int (0 : Int32)), (.int (0 : Int32)), (.int (0 : Int32)), (.int (0 : Int32)), (.int (0 : Int32)), (.int (0 : Int32)), (.int (0 : Int32)), (.int (0 : Int32)), (.int (0 : Int32)), (.int (0 : Int32))] p1 hp80 n0 Z80 P80_9 P80_14 (by decide) rfl) hZ (ow hw 76 rfl) (ow hw 3 rfl) (by decide) (by decide)) qv85a qv85c (g := (mkF m 136 #[iv p1, iv p2, iv p3, iv p4, iv 1, iv 0, iv l1, iv l2, rv b65, rv b66, rv b67, iv 0, .unset] [(.int 0), (.ref b67)])) rfl (by rw [hml]; rfl) (Steps.refl _) (argsL := [(.int (0 : Int32))]) (rest := []) (lenOf pd__I_I rfl) rfl (by show 2 * 0 + _ ≤ _; exact Nat.le_of_eq rfl) (hb hby at_136) (fun _ _ => ⟨rfl, e84, (by decide : 13 + 0 ≤ _), (by decide : 203 + 0 ≤ _)⟩)
      dsimp only [Pt.U, Pt.locs, Pt.cells, Pt.slots] at X85 l85 y85 z85 st85 hQ85
      subst l85 y85 z85
      obtain ⟨rfl, Nq85, e85⟩ := hQ85
      have N85 := Fr.app N84 Nq85
      replace K : OGo p e below A0 T85 (mkF m 139 #[iv p1, iv p2, iv p3, iv p4, iv 1, iv 0, iv l1, iv l2, rv b65, rv b66, rv b67, iv 0, .unset] [(.int p1)]) := fun t k => K t (st85.trans k)
      replace K : OGo p e below A0 T85 (mkF m 140 #[iv p1, iv p2, iv p3, iv p4, iv 1, iv 0, iv l1, iv l2, rv b65, rv b66, rv b67, iv 0, .unset] [(.int p1), (.int p1)]) := fun t k => K t (XS.iloadN X85.here hx rfl (hb hby at_139) rfl k)
      replace K : OGo p e below A0 T85 (mkF m 143 #[iv p1, iv p2, iv p3, iv p4, iv 1, iv 0, iv l1, iv l2, rv b65, rv b66, rv b67, iv 0, .unset] []) := fun t k => K t (XS.icmpNo X85.here hx rfl (hb hby at_140) rfl (teq ((rfl : p1 = p1) : p1 = p1)).2 k)
      replace K : OGo p e below A0 T85 (mkF m 145 #[iv p1, iv p2, iv p3, iv p4, iv 1, iv 0, iv l1, iv l2, rv b65, rv b66, rv b67, iv 0, .unset] [(.ref b67)]) := fun t k => K t (XS.aload X85.here hx rfl (hb hby at_143) rfl rfl k)
      replace K : OGo p e below A0 T85 (mkF m 147 #[iv p1, iv p2, iv p3, iv p4, iv 1, iv 0, iv l1, iv l2, rv b65, rv b66, rv b67, iv 0, .unset] [(.int 0), (.ref b67)]) := fun t k => K t (XS.iload X85.here hx rfl (hb hby at_145) rfl k)
      obtain ⟨cq86, kq86, qv86a, qv86b, qv86c⟩ := isOf hZ e85 P80_0
      obtain ⟨_, _, ⟨T86, L86, k86, n86⟩, -, X86, ⟨Lc86, hQ86, l86, y86, z86⟩, st86⟩ := X85.virtualBack hx (y := mN9) (z := mN9) hown (mvT hZ (ow hw 77 rfl)) (mvT hZ (ow hw 78 rfl)) (notFace_of_selects (args := #[]) (mvT hZ (ow hw 80 rfl))) (mvT hZ (ow hw 80 rfl)) (mvT hZ (ow hw 79 rfl)) (by decide) (backOf (W := 0) (rm_stores l Z a0 hw [] b67 (0 : Int32) sd_69 k_sd_69 [(.int (1 : Int32)), (.int (0 : Int32)), (.int (0 : Int32)), (.int (0 : Int32)), (.int (0 : Int32)), (.int (0 : Int32)), (.int (0 : Int32)), (.int (0 : Int32)), (.int (0 : Int32)), (.int (0 : Int32)), (.int (0 : Int32)), (.int (0 : Int32)), (.int (0 : Int32)), (.int (0 : Int32)), (.int (0 : Int32)), (.int (0 : Int32))] (1 : Int32) hp80 n0 Z80 P80_10 P80_15 (by decide) rfl rfl) hZ (ow hw 81 rfl) (ow hw 3 rfl) (by decide) (by decide)) qv86a qv86c (g := (mkF m 147 #[iv p1, iv p2, iv p3, iv p4, iv 1, iv 0, iv l1, iv l2, rv b65, rv b66, rv b67, iv 0, .unset] [(.int 0), (.ref b67)])) rfl (by rw [hml]; rfl) (Steps.refl _) (argsL := [(.int (0 : Int32))]) (rest := []) (lenOf pd__I_Z rfl) rfl (by show 2 * 0 + _ ≤ _; exact Nat.le_of_eq rfl) (hb hby at_147) (fun _ _ => ⟨rfl, e85, (by decide : 13 + 0 ≤ _), (by decide : 203 + 0 ≤ _)⟩)
      dsimp only [Pt.U, Pt.locs, Pt.cells, Pt.slots] at X86 l86 y86 z86 st86 hQ86
      subst l86 y86 z86
      obtain ⟨rfl, Nq86, e86⟩ := hQ86
      have N86 := Fr.app N85 Nq86
      replace K : OGo p e below A0 T86 (mkF m 150 #[iv p1, iv p2, iv p3, iv p4, iv 1, iv 0, iv l1, iv l2, rv b65, rv b66, rv b67, iv 0, .unset] [(.int 1)]) := fun t k => K t (st86.trans k)
      replace K : OGo p e below A0 T86 (mkF m 152 #[iv p1, iv p2, iv p3, iv p4, iv 1, iv 0, iv l1, iv l2, rv b65, rv b66, rv b67, iv 0, .unset] [(.int 1), (.int 1)]) := fun t k => K t (XS.iload X86.here hx rfl (hb hby at_150) rfl k)
      replace K : OGo p e below A0 T86 (mkF m 155 #[iv p1, iv p2, iv p3, iv p4, iv 1, iv 0, iv l1, iv l2, rv b65, rv b66, rv b67, iv 0, .unset] []) := fun t k => K t (XS.icmpNo X86.here hx rfl (hb hby at_152) rfl (teq ((by decide : (1 : Int32) = (1 : Int32)) : (1 : Int32) = (1 : Int32))).2 k)
      replace K : OGo p e below A0 T86 (mkF m 157 #[iv p1, iv p2, iv p3, iv p4, iv 1, iv 0, iv l1, iv l2, rv b65, rv b66, rv b67, iv 0, .unset] [(.ref b67)]) := fun t k => K t (XS.aload X86.here hx rfl (hb hby at_155) rfl rfl k)
      replace K : OGo p e below A0 T86 (mkF m 159 #[iv p1, iv p2, iv p3, iv p4, iv 1, iv 0, iv l1, iv l2, rv b65, rv b66, rv b67, iv 0, .unset] [(.int 0), (.ref b67)]) := fun t k => K t (XS.iload X86.here hx rfl (hb hby at_157) rfl k)
      obtain ⟨cq87, kq87, qv87a, qv87b, qv87c⟩ := isOf hZ e86 P80_0
      obtain ⟨_, _, ⟨T87, L87, k87, n87⟩, -, X87, ⟨Lc87, hQ87, l87, y87, z87⟩, st87⟩ := X86.virtualBack hx (y := mN10) (z := mN10) hown (mvT hZ (ow hw 82 rfl)) (mvT hZ (ow hw 83 rfl)) (notFace_of_selects (args := #[]) (mvT hZ (ow hw 85 rfl))) (mvT hZ (ow hw 85 rfl)) (mvT hZ (ow hw 84 rfl)) (by decide) (backOf (W := 0) (rm_keyN l Z a0 hw [] b67 (0 : Int32) ky_69 k_ky_69 [.null, (.ref b66), .null, .null, .null, .null, .null, .null, .null, .null, .null, .null, .null, .null, .null, .null] hp80 n0 Z80 P80_5 P80_16 (by decide) rfl) hZ (ow hw 86 rfl) (ow hw 3 rfl) (by decide) (by decide)) qv87a qv87c (g := (mkF m 159 #[iv p1, iv p2, iv p3, iv p4, iv 1, iv 0, iv l1, iv l2, rv b65, rv b66, rv b67, iv 0, .unset] [(.int 0), (.ref b67)])) rfl (by rw [hml]; rfl) (Steps.refl _) (argsL := [(.int (0 : Int32))]) (rest := []) (lenOf pd__I__B rfl) rfl (by show 2 * 0 + _ ≤ _; exact Nat.le_of_eq rfl) (hb hby at_159) (fun _ _ => ⟨rfl, e86, (by decide : 13 + 0 ≤ _), (by decide : 203 + 0 ≤ _)⟩)
      dsimp only [Pt.U, Pt.locs, Pt.cells, Pt.slots] at X87 l87 y87 z87 st87 hQ87
      subst l87 y87 z87
      obtain ⟨rfl, Nq87, e87⟩ := hQ87
      have N87 := Fr.app N86 Nq87
      replace K : OGo p e below A0 T87 (mkF m 162 #[iv p1, iv p2, iv p3, iv p4, iv 1, iv 0, iv l1, iv l2, rv b65, rv b66, rv b67, iv 0, .unset] [.null]) := fun t k => K t (st87.trans k)
      replace K : OGo p e below A0 T87 (mkF m 165 #[iv p1, iv p2, iv p3, iv p4, iv 1, iv 0, iv l1, iv l2, rv b65, rv b66, rv b67, iv 0, .unset] []) := fun t k => K t (XS.ifnonnullNo X87.here hx rfl (hb hby at_162) rfl k)
      replace K : OGo p e below A0 T87 (mkF m 167 #[iv p1, iv p2, iv p3, iv p4, iv 1, iv 0, iv l1, iv l2, rv b65, rv b66, rv b67, iv 0, .unset] [(.ref b67)]) := fun t k => K t (XS.aload X87.here hx rfl (hb hby at_165) rfl rfl k)
      replace K : OGo p e below A0 T87 (mkF m 169 #[iv p1, iv p2, iv p3, iv p4, iv 1, iv 0, iv l1, iv l2, rv b65, rv b66, rv b67, iv 0, .unset] [(.int 0), (.ref b67)]) := fun t k => K t (XS.iload X87.here hx rfl (hb hby at_167) rfl k)
      replace K : OGo p e below A0 T87 (mkF m 170 #[iv p1, iv p2, iv p3, iv p4, iv 1, iv 0, iv l1, iv l2, rv b65, rv b66, rv b67, iv 0, .unset] [(.int 1), (.int 0), (.ref b67)]) := fun t k => K t (XS.iconst X87.here hx rfl (hb hby at_169) k)
      replace K : OGo p e below A0 T87 (mkF m 171 #[iv p1, iv p2, iv p3, iv p4, iv 1, iv 0, iv l1, iv l2, rv b65, rv b66, rv b67, iv 0, .unset] [(.int 1), (.ref b67)]) := fun t k => K t (XS.iadd X87.here hx rfl (hb hby at_170) rfl k)
      obtain ⟨cq88, kq88, qv88a, qv88b, qv88c⟩ := isOf hZ e87 P80_0
      obtain ⟨_, _, ⟨T88, L88, k88, n88⟩, -, X88, ⟨Lc88, hQ88, l88, y88, z88⟩, st88⟩ := X87.virtualBack hx (y := mN10) (z := mN10) hown (mvT hZ (ow hw 82 rfl)) (mvT hZ (ow hw 83 rfl)) (notFace_of_selects (args := #[]) (mvT hZ (ow hw 85 rfl))) (mvT hZ (ow hw 85 rfl)) (mvT hZ (ow hw 84 rfl)) (by decide) (backOf (W := 0) (rm_keyR l Z a0 hw [] b67 (1 : Int32) ky_69 k_ky_69 [.null, (.ref b66), .null, .null, .null, .null, .null, .null, .null, .null, .null, .null, .null, .null, .null, .null] b66 hp80 n0 Z80 P80_5 P80_16 (by decide) rfl) hZ (ow hw 86 rfl) (ow hw 3 rfl) (by decide) (by decide)) qv88a qv88c (g := (mkF m 171 #[iv p1, iv p2, iv p3, iv p4, iv 1, iv 0, iv l1, iv l2, rv b65, rv b66, rv b67, iv 0, .unset] [(.int 1), (.ref b67)])) rfl (by rw [hml]; rfl) (Steps.refl _) (argsL := [(.int (1 : Int32))]) (rest := []) (lenOf pd__I__B rfl) rfl (by show 2 * 0 + _ ≤ _; exact Nat.le_of_eq rfl) (hb hby at_171) (fun _ _ => ⟨rfl, e87, (by decide : 13 + 0 ≤ _), (by decide : 203 + 0 ≤ _)⟩)
      dsimp only [Pt.U, Pt.locs, Pt.cells, Pt.slots] at X88 l88 y88 z88 st88 hQ88
      subst l88 y88 z88
      obtain ⟨rfl, Nq88, e88⟩ := hQ88
      have N88 := Fr.app N87 Nq88
      replace K : OGo p e below A0 T88 (mkF m 174 #[iv p1, iv p2, iv p3, iv p4, iv 1, iv 0, iv l1, iv l2, rv b65, rv b66, rv b67, iv 0, .unset] [(.ref b66)]) := fun t k => K t (st88.trans k)
      replace K : OGo p e below A0 T88 (mkF m 176 #[iv p1, iv p2, iv p3, iv p4, iv 1, iv 0, iv l1, iv l2, rv b65, rv b66, rv b67, iv 0, .unset] [(.ref b66), (.ref b66)]) := fun t k => K t (XS.aload X88.here hx rfl (hb hby at_174) rfl rfl k)
      replace K : OGo p e below A0 T88 (mkF m 179 #[iv p1, iv p2, iv p3, iv p4, iv 1, iv 0, iv l1, iv l2, rv b65, rv b66, rv b67, iv 0, .unset] []) := fun t k => K t (Jvm.RoadKit.acmp (g := (mkF m 176 #[iv p1, iv p2, iv p3, iv p4, iv 1, iv 0, iv l1, iv l2, rv b65, rv b66, rv b67, iv 0, .unset] [(.ref b66), (.ref b66)])) X88 hx rfl rfl rfl (pc0 := 176) (pc' := 179) (same := true) rfl (hb hby at_176) rfl (decide_eq_true rfl) (by decide) (by decide) k)
      replace K : OGo p e below A0 T88 (mkF m 181 #[iv p1, iv p2, iv p3, iv p4, iv 1, iv 0, iv l1, iv l2, rv b65, rv b66, rv b67, iv 0, .unset] [(.ref b67)]) := fun t k => K t (XS.aload X88.here hx rfl (hb hby at_179) rfl rfl k)
      obtain ⟨cq89, kq89, qv89a, qv89b, qv89c⟩ := isOf hZ e88 P80_0
      obtain ⟨_, _, ⟨T89, L89, k89, n89⟩, -, X89, ⟨Lc89, hQ89, l89, y89, z89⟩, st89⟩ := X88.virtualBack hx (y := mN6) (z := mN6) hown (mvT hZ (ow hw 87 rfl)) (mvT hZ (ow hw 88 rfl)) (notFace_of_selects (args := #[]) (mvT hZ (ow hw 90 rfl))) (mvT hZ (ow hw 90 rfl)) (mvT hZ (ow hw 89 rfl)) (by decide) (backOf (W := 0) (rm_waiting l Z a0 hw [] b67 ((((0 : Int64) + ((l1 + (1 : Int32)).toInt64)) + ((l2 + (1 : Int32)).toInt64)) - ((l1 + (1 : Int32)).toInt64)) hp80 n0 Z80 P80_13) hZ (ow hw 91 rfl) (ow hw 3 rfl) (by decide) (by decide)) qv89a qv89c (g := (mkF m 181 #[iv p1, iv p2, iv p3, iv p4, iv 1, iv 0, iv l1, iv l2, rv b65, rv b66, rv b67, iv 0, .unset] [(.ref b67)])) rfl (by rw [hml]; rfl) (Steps.refl _) (argsL := []) (rest := []) (lenOf pd___J rfl) rfl (by show 2 * 0 + _ ≤ _; exact Nat.le_of_eq rfl) (hb hby at_181) (fun _ _ => ⟨rfl, e88, (by decide : 13 + 0 ≤ _), (by decide : 203 + 0 ≤ _)⟩)
      dsimp only [Pt.U, Pt.locs, Pt.cells, Pt.slots] at X89 l89 y89 z89 st89 hQ89
      subst l89 y89 z89
      obtain ⟨rfl, Nq89, e89⟩ := hQ89
      have N89 := Fr.app N88 Nq89
      replace K : OGo p e below A0 T89 (mkF m 184 #[iv p1, iv p2, iv p3, iv p4, iv 1, iv 0, iv l1, iv l2, rv b65, rv b66, rv b67, iv 0, .unset] [(.long ((((0 : Int64) + ((l1 + (1 : Int32)).toInt64)) + ((l2 + (1 : Int32)).toInt64)) - ((l1 + (1 : Int32)).toInt64)))]) := fun t k => K t (st89.trans k)
      replace K : OGo p e below A0 T89 (mkF m 186 #[iv p1, iv p2, iv p3, iv p4, iv 1, iv 0, iv l1, iv l2, rv b65, rv b66, rv b67, iv 0, .unset] [(.int l2), (.long ((((0 : Int64) + ((l1 + (1 : Int32)).toInt64)) + ((l2 + (1 : Int32)).toInt64)) - ((l1 + (1 : Int32)).toInt64)))]) := fun t k => K t (XS.iload X89.here hx rfl (hb hby at_184) rfl k)
      replace K : OGo p e below A0 T89 (mkF m 187 #[iv p1, iv p2, iv p3, iv p4, iv 1, iv 0, iv l1, iv l2, rv b65, rv b66, rv b67, iv 0, .unset] [(.int 1), (.int l2), (.long ((((0 : Int64) + ((l1 + (1 : Int32)).toInt64)) + ((l2 + (1 : Int32)).toInt64)) - ((l1 + (1 : Int32)).toInt64)))]) := fun t k => K t (XS.iconst X89.here hx rfl (hb hby at_186) k)
      replace K : OGo p e below A0 T89 (mkF m 188 #[iv p1, iv p2, iv p3, iv p4, iv 1, iv 0, iv l1, iv l2, rv b65, rv b66, rv b67, iv 0, .unset] [(.int (l2 + (1 : Int32))), (.long ((((0 : Int64) + ((l1 + (1 : Int32)).toInt64)) + ((l2 + (1 : Int32)).toInt64)) - ((l1 + (1 : Int32)).toInt64)))]) := fun t k => K t (XS.iadd X89.here hx rfl (hb hby at_187) rfl k)
      replace K : OGo p e below A0 T89 (mkF m 189 #[iv p1, iv p2, iv p3, iv p4, iv 1, iv 0, iv l1, iv l2, rv b65, rv b66, rv b67, iv 0, .unset] [(.long ((l2 + (1 : Int32)).toInt64)), (.long ((((0 : Int64) + ((l1 + (1 : Int32)).toInt64)) + ((l2 + (1 : Int32)).toInt64)) - ((l1 + (1 : Int32)).toInt64)))]) := fun t k => K t (XS.i2l X89.here hx rfl (hb hby at_188) rfl k)
      replace K : OGo p e below A0 T89 (mkF m 190 #[iv p1, iv p2, iv p3, iv p4, iv 1, iv 0, iv l1, iv l2, rv b65, rv b66, rv b67, iv 0, .unset] [(.int (lcmpW ((((0 : Int64) + ((l1 + (1 : Int32)).toInt64)) + ((l2 + (1 : Int32)).toInt64)) - ((l1 + (1 : Int32)).toInt64)) ((l2 + (1 : Int32)).toInt64)))]) := fun t k => K t (XS.lcmp X89.here hx rfl (hb hby at_189) rfl k)
      replace K : OGo p e below A0 T89 (mkF m 193 #[iv p1, iv p2, iv p3, iv p4, iv 1, iv 0, iv l1, iv l2, rv b65, rv b66, rv b67, iv 0, .unset] []) := fun t k => K t (XS.ifNo X89.here hx rfl (hb hby at_190) rfl ((if0 _ _).trans (teq ((lw_eq ((((0 : Int64) + ((l1 + (1 : Int32)).toInt64)) + ((l2 + (1 : Int32)).toInt64)) - ((l1 + (1 : Int32)).toInt64)) ((l2 + (1 : Int32)).toInt64)).mpr ((own_wb _ _) : ((((0 : Int64) + ((l1 + (1 : Int32)).toInt64)) + ((l2 + (1 : Int32)).toInt64)) - ((l1 + (1 : Int32)).toInt64)) = ((l2 + (1 : Int32)).toInt64)))).2) k)
      replace K : OGo p e below A0 T89 (mkF m 195 #[iv p1, iv p2, iv p3, iv p4, iv 1, iv 0, iv l1, iv l2, rv b65, rv b66, rv b67, iv 0, .unset] [(.ref b67)]) := fun t k => K t (XS.aload X89.here hx rfl (hb hby at_193) rfl rfl k)
      replace K : OGo p e below A0 T89 (mkF m 197 #[iv p1, iv p2, iv p3, iv p4, iv 1, iv 0, iv l1, iv l2, rv b65, rv b66, rv b67, iv 0, .unset] [(.int 0), (.ref b67)]) := fun t k => K t (XS.iload X89.here hx rfl (hb hby at_195) rfl k)
      have V_ac_69_91 := (P76_14.keep K80 (ninS (Ne.symm ne_b67_ac_69) (ninS (own_pw P69_10 0 8 (by decide) rfl rfl) (ninS (own_pw P69_10 0 9 (by decide) rfl rfl) (ninS (own_pw P69_10 0 4 (by decide) rfl rfl) (ninS (own_pw P69_10 0 6 (by decide) rfl rfl) nin0))))))
      obtain ⟨cq90, kq90, qv90a, qv90b, qv90c⟩ := isOf hZ e89 P80_0
      obtain ⟨_, _, ⟨T90, L90, k90, n90⟩, -, X90, ⟨Lc90, hQ90, l90, y90, z90⟩, st90⟩ := X89.virtualBack hx (y := mN8) (z := mN8) hown (mvT hZ (ow hw 92 rfl)) (mvT hZ (ow hw 93 rfl)) (notFace_of_selects (args := #[]) (mvT hZ (ow hw 95 rfl))) (mvT hZ (ow hw 95 rfl)) (mvT hZ (ow hw 94 rfl)) (by decide) (backOf (W := 0) (rm_actor l Z a0 hw [] b67 (0 : Int32) ac_69 k_ac_69 [(.int (1 : Int32)), (.int (4 : Int32)), (.int (0 : Int32)), (.int (0 : Int32)), (.int (0 : Int32)), (.int (0 : Int32)), (.int (0 : Int32)), (.int (0 : Int32)), (.int (0 : Int32)), (.int (0 : Int32)), (.int (0 : Int32)), (.int (0 : Int32)), (.int (0 : Int32)), (.int (0 : Int32)), (.int (0 : Int32)), (.int (0 : Int32))] (1 : Int32) hp80 n0 Z80 P80_1 V_ac_69_91 (by decide) rfl) hZ (ow hw 96 rfl) (ow hw 3 rfl) (by decide) (by decide)) qv90a qv90c (g := (mkF m 197 #[iv p1, iv p2, iv p3, iv p4, iv 1, iv 0, iv l1, iv l2, rv b65, rv b66, rv b67, iv 0, .unset] [(.int 0), (.ref b67)])) rfl (by rw [hml]; rfl) (Steps.refl _) (argsL := [(.int (0 : Int32))]) (rest := []) (lenOf pd__I_I rfl) rfl (by show 2 * 0 + _ ≤ _; exact Nat.le_of_eq rfl) (hb hby at_197) (fun _ _ => ⟨rfl, e89, (by decide : 13 + 0 ≤ _), (by decide : 203 + 0 ≤ _)⟩)
      dsimp only [Pt.U, Pt.locs, Pt.cells, Pt.slots] at X90 l90 y90 z90 st90 hQ90
      subst l90 y90 z90
      obtain ⟨rfl, Nq90, e90⟩ := hQ90
      have N90 := Fr.app N89 Nq90
      replace K : OGo p e below A0 T90 (mkF m 200 #[iv p1, iv p2, iv p3, iv p4, iv 1, iv 0, iv l1, iv l2, rv b65, rv b66, rv b67, iv 0, .unset] [(.int 1)]) := fun t k => K t (st90.trans k)
      replace K : OGo p e below A0 T90 (mkF m 201 #[iv p1, iv p2, iv p3, iv p4, iv 1, iv 0, iv l1, iv l2, rv b65, rv b66, rv b67, iv 0, .unset] [(.int 1), (.int 1)]) := fun t k => K t (XS.iconst X90.here hx rfl (hb hby at_200) k)
      replace K : OGo p e below A0 T90 (mkF m 204 #[iv p1, iv p2, iv p3, iv p4, iv 1, iv 0, iv l1, iv l2, rv b65, rv b66, rv b67, iv 0, .unset] []) := fun t k => K t (XS.icmpNo X90.here hx rfl (hb hby at_201) rfl (teq ((by decide : (1 : Int32) = (1 : Int32)) : (1 : Int32) = (1 : Int32))).2 k)
      replace K : OGo p e below A0 T90 (mkF m 205 #[iv p1, iv p2, iv p3, iv p4, iv 1, iv 0, iv l1, iv l2, rv b65, rv b66, rv b67, iv 0, .unset] [(.int 1)]) := fun t k => K t (XS.iconst X90.here hx rfl (hb hby at_204) k)
      replace K : OGo p e below A0 T90 (mkF m 209 #[iv p1, iv p2, iv p3, iv p4, iv 1, iv 0, iv l1, iv l2, rv b65, rv b66, rv b67, iv 0, .unset] [(.int 1)]) := fun t k => K t (XS.goto X90.here hx rfl (pc0 := 205) (pc' := 209) rfl (hb hby at_205) (by decide) (by decide) k)
      replace K : OGo p e below A0 T90 (mkF m 211 #[iv p1, iv p2, iv p3, iv p4, iv 1, iv 0, iv l1, iv l2, rv b65, rv b66, rv b67, iv 0, iv 1] []) := fun t k => K t (XS.istore X90.here hx rfl (hb hby at_209) rfl (l' := #[iv p1, iv p2, iv p3, iv p4, iv 1, iv 0, iv l1, iv l2, rv b65, rv b66, rv b67, iv 0, iv 1]) rfl k)
      replace K : OGo p e below A0 T90 (mkF m 213 #[iv p1, iv p2, iv p3, iv p4, iv 1, iv 0, iv l1, iv l2, rv b65, rv b66, rv b67, iv 0, iv 1] [(.int 0)]) := fun t k => K t (XS.iload X90.here hx rfl (hb hby at_211) rfl k)
      replace K : OGo p e below A0 T90 (mkF m 238 #[iv p1, iv p2, iv p3, iv p4, iv 1, iv 0, iv l1, iv l2, rv b65, rv b66, rv b67, iv 0, iv 1] []) := fun t k => K t (XS.ifYes X90.here hx rfl (pc0 := 213) (pc' := 238) rfl (hb hby at_213) rfl ((if0 _ _).trans (teq ((by decide : (0 : Int32) = (0 : Int32)) : (0 : Int32) = (0 : Int32))).1) (by decide) (by decide) k)
      replace K : OGo p e below A0 T90 (mkF m 240 #[iv p1, iv p2, iv p3, iv p4, iv 1, iv 0, iv l1, iv l2, rv b65, rv b66, rv b67, iv 0, iv 1] [(.int 1)]) := fun t k => K t (XS.iload X90.here hx rfl (hb hby at_238) rfl k)
      obtain ⟨fs, hr, hrun, hended, hW, hsame⟩ := X90.leave (v := some (.int (1 : Int32))) (fun h => by rw [Bd.returns] at h; cases h)
      subst hA0
      refine ⟨_, _, K _ (retN X90 hx (t := .boolean) Bd.returns (by simp) (hb hby at_240) hr), hrun, hended, _, _, rfl, ?_, ⟨_, rfl⟩, hW, hsame.mono (by decide) (by decide)⟩
      show Q_law Z p1 p2 p3 p4 h0 n0 _ T90.heap _
      rw [e90]
      exact ⟨rfl, N90⟩
    · replace K : OGo p e below A0 s₁ (mkF m 19 #[iv p1, iv p2, iv p3, iv p4, iv 1, .unset, .unset, .unset, .unset, .unset, .unset, .unset, .unset] []) := fun t k => K t (XS.ifNo X0.here hx rfl (hb hby at_16) rfl ((if0 _ _).trans (feq hc16).1) k)
      replace K : OGo p e below A0 s₁ (mkF m 20 #[iv p1, iv p2, iv p3, iv p4, iv 1, .unset, .unset, .unset, .unset, .unset, .unset, .unset, .unset] [(.int 1)]) := fun t k => K t (XS.iconst X0.here hx rfl (hb hby at_19) k)
      replace K : OGo p e below A0 s₁ (mkF m 24 #[iv p1, iv p2, iv p3, iv p4, iv 1, .unset, .unset, .unset, .unset, .unset, .unset, .unset, .unset] [(.int 1)]) := fun t k => K t (XS.goto X0.here hx rfl (pc0 := 20) (pc' := 24) rfl (hb hby at_20) (by decide) (by decide) k)
      replace K : OGo p e below A0 s₁ (mkF m 26 #[iv p1, iv p2, iv p3, iv p4, iv 1, iv 1, .unset, .unset, .unset, .unset, .unset, .unset, .unset] []) := fun t k => K t (XS.istore X0.here hx rfl (hb hby at_24) rfl (l' := #[iv p1, iv p2, iv p3, iv p4, iv 1, iv 1, .unset, .unset, .unset, .unset, .unset, .unset, .unset]) rfl k)
      replace K : OGo p e below A0 s₁ (mkF m 27 #[iv p1, iv p2, iv p3, iv p4, iv 1, iv 1, .unset, .unset, .unset, .unset, .unset, .unset, .unset] [(.int p4)]) := fun t k => K t (XS.iloadN X0.here hx rfl (hb hby at_26) rfl k)
      replace K : OGo p e below A0 s₁ (mkF m 29 #[iv p1, iv p2, iv p3, iv p4, iv 1, iv 1, .unset, .unset, .unset, .unset, .unset, .unset, .unset] [(.int 15), (.int p4)]) := fun t k => K t (XS.bipush X0.here hx rfl (hb hby at_27) k)
      replace K : OGo p e below A0 s₁ (mkF m 30 #[iv p1, iv p2, iv p3, iv p4, iv 1, iv 1, .unset, .unset, .unset, .unset, .unset, .unset, .unset] [(.int (p4 &&& (15 : Int32)))]) := fun t k => K t (XS.iand X0.here hx rfl (hb hby at_29) rfl k)
      obtain ⟨l1, hv_l1⟩ : ∃ z : Int32, z = (p4 &&& (15 : Int32)) := ⟨_, rfl⟩
      rw [← hv_l1] at K
      have hl1 : 0 ≤ l1.toInt ∧ l1.toInt ≤ 15 := hv_l1 ▸ own_and15 _
      replace K : OGo p e below A0 s₁ (mkF m 32 #[iv p1, iv p2, iv p3, iv p4, iv 1, iv 1, iv l1, .unset, .unset, .unset, .unset, .unset, .unset] []) := fun t k => K t (XS.istore X0.here hx rfl (hb hby at_30) rfl (l' := #[iv p1, iv p2, iv p3, iv p4, iv 1, iv 1, iv l1, .unset, .unset, .unset, .unset, .unset, .unset]) rfl k)
      replace K : OGo p e below A0 s₁ (mkF m 33 #[iv p1, iv p2, iv p3, iv p4, iv 1, iv 1, iv l1, .unset, .unset, .unset, .unset, .unset, .unset] [(.int p4)]) := fun t k => K t (XS.iloadN X0.here hx rfl (hb hby at_32) rfl k)
      replace K : OGo p e below A0 s₁ (mkF m 34 #[iv p1, iv p2, iv p3, iv p4, iv 1, iv 1, iv l1, .unset, .unset, .unset, .unset, .unset, .unset] [(.int 4), (.int p4)]) := fun t k => K t (XS.iconst X0.here hx rfl (hb hby at_33) k)
      replace K : OGo p e below A0 s₁ (mkF m 35 #[iv p1, iv p2, iv p3, iv p4, iv 1, iv 1, iv l1, .unset, .unset, .unset, .unset, .unset, .unset] [(.int ((p4.toUInt32 >>> ((4 : Int32) &&& 31).toUInt32).toInt32))]) := fun t k => K t (XS.iushr X0.here hx rfl (hb hby at_34) rfl k)
      replace K : OGo p e below A0 s₁ (mkF m 37 #[iv p1, iv p2, iv p3, iv p4, iv 1, iv 1, iv l1, .unset, .unset, .unset, .unset, .unset, .unset] [(.int 15), (.int ((p4.toUInt32 >>> ((4 : Int32) &&& 31).toUInt32).toInt32))]) := fun t k => K t (XS.bipush X0.here hx rfl (hb hby at_35) k)
      replace K : OGo p e below A0 s₁ (mkF m 38 #[iv p1, iv p2, iv p3, iv p4, iv 1, iv 1, iv l1, .unset, .unset, .unset, .unset, .unset, .unset] [(.int (((p4.toUInt32 >>> ((4 : Int32) &&& 31).toUInt32).toInt32) &&& (15 : Int32)))]) := fun t k => K t (XS.iand X0.here hx rfl (hb hby at_37) rfl k)
      obtain ⟨l2, hv_l2⟩ : ∃ z : Int32, z = (((p4.toUInt32 >>> ((4 : Int32) &&& 31).toUInt32).toInt32) &&& (15 : Int32)) := ⟨_, rfl⟩
      rw [← hv_l2] at K
      have hl2 : 0 ≤ l2.toInt ∧ l2.toInt ≤ 15 := hv_l2 ▸ own_and15 _
      replace K : OGo p e below A0 s₁ (mkF m 40 #[iv p1, iv p2, iv p3, iv p4, iv 1, iv 1, iv l1, iv l2, .unset, .unset, .unset, .unset, .unset] []) := fun t k => K t (XS.istore X0.here hx rfl (hb hby at_38) rfl (l' := #[iv p1, iv p2, iv p3, iv p4, iv 1, iv 1, iv l1, iv l2, .unset, .unset, .unset, .unset, .unset]) rfl k)
      replace K : OGo p e below A0 s₁ (mkF m 42 #[iv p1, iv p2, iv p3, iv p4, iv 1, iv 1, iv l1, iv l2, .unset, .unset, .unset, .unset, .unset] [(.int l1)]) := fun t k => K t (XS.iload X0.here hx rfl (hb hby at_40) rfl k)
      obtain ⟨T92, h92, k92, X92, e92, E92, A92, Q92, st92⟩ := newPE X0 hx hZ (ow hw 0 rfl) e0 (g := (mkF m 42 #[iv p1, iv p2, iv p3, iv p4, iv 1, iv 1, iv l1, iv l2, .unset, .unset, .unset, .unset, .unset] [(.int l1)])) rfl (hb hby at_42) rfl (own_nn hl1) (cap := 15) (own_cap hl1) (by decide) (by decide) (by decide) (ad := "[B") (by decide)
      obtain ⟨b92, gz92⟩ : ∃ z, z = h0.size := ⟨_, rfl⟩
      rw [← gz92] at A92 Q92 st92
      have g_b92 : n0 ≤ b92 := Nat.le_trans Z0 (Nat.le_of_eq gz92.symm)
      have Z92 : n0 ≤ h92.size := Nat.le_trans Z0 E92.1
      have V_b92 : OAr Z h92 b92 k92 .byte (List.replicate l1.toNatClampNeg (.int (0 : Int32))) := OAr.new A92
      replace K : OGo p e below A0 T92 (mkF m 44 #[iv p1, iv p2, iv p3, iv p4, iv 1, iv 1, iv l1, iv l2, .unset, .unset, .unset, .unset, .unset] [(.ref b92)]) := fun t k => K t (st92 t k)
      replace K : OGo p e below A0 T92 (mkF m 46 #[iv p1, iv p2, iv p3, iv p4, iv 1, iv 1, iv l1, iv l2, rv b92, .unset, .unset, .unset, .unset] []) := fun t k => K t (XS.astore X92.here hx rfl (hb hby at_44) rfl rfl (l' := #[iv p1, iv p2, iv p3, iv p4, iv 1, iv 1, iv l1, iv l2, rv b92, .unset, .unset, .unset, .unset]) rfl k)
      replace K : OGo p e below A0 T92 (mkF m 48 #[iv p1, iv p2, iv p3, iv p4, iv 1, iv 1, iv l1, iv l2, rv b92, .unset, .unset, .unset, .unset] [(.int l2)]) := fun t k => K t (XS.iload X92.here hx rfl (hb hby at_46) rfl k)
      obtain ⟨T93, h93, k93, X93, e93, E93, A93, Q93, st93⟩ := newPE X92 hx hZ (ow hw 0 rfl) e92 (g := (mkF m 48 #[iv p1, iv p2, iv p3, iv p4, iv 1, iv 1, iv l1, iv l2, rv b92, .unset, .unset, .unset, .unset] [(.int l2)])) rfl (hb hby at_48) rfl (own_nn hl2) (cap := 15) (own_cap hl2) (by decide) (by decide) (by decide) (ad := "[B") (by decide)
      obtain ⟨b93, gz93⟩ : ∃ z, z = h92.size := ⟨_, rfl⟩
      rw [← gz93] at A93 Q93 st93
      have ne_b92_b93 : b92 ≠ b93 := Nat.ne_of_lt (Nat.lt_of_lt_of_le Q92.lt (Nat.le_of_eq gz93.symm))
      have g_b93 : n0 ≤ b93 := Nat.le_trans Z92 (Nat.le_of_eq gz93.symm)
      have Z93 : n0 ≤ h93.size := Nat.le_trans Z92 E93.1
      have V_b93 : OAr Z h93 b93 k93 .byte (List.replicate l2.toNatClampNeg (.int (0 : Int32))) := OAr.new A93
      replace K : OGo p e below A0 T93 (mkF m 50 #[iv p1, iv p2, iv p3, iv p4, iv 1, iv 1, iv l1, iv l2, rv b92, .unset, .unset, .unset, .unset] [(.ref b93)]) := fun t k => K t (st93 t k)
      replace K : OGo p e below A0 T93 (mkF m 52 #[iv p1, iv p2, iv p3, iv p4, iv 1, iv 1, iv l1, iv l2, rv b92, rv b93, .unset, .unset, .unset] []) := fun t k => K t (XS.astore X93.here hx rfl (hb hby at_50) rfl rfl (l' := #[iv p1, iv p2, iv p3, iv p4, iv 1, iv 1, iv l1, iv l2, rv b92, rv b93, .unset, .unset, .unset]) rfl k)
      obtain ⟨T94, h94, X94, e94, E94, A94, D94, -, st94⟩ := newO X93 hx hZ hown (ow hw 1 rfl) (ow hw 2 rfl) (ow hw 3 rfl) e93 (g := (mkF m 52 #[iv p1, iv p2, iv p3, iv p4, iv 1, iv 1, iv l1, iv l2, rv b92, rv b93, .unset, .unset, .unset] [])) rfl (hb hby at_52) (by decide) (by decide)
      obtain ⟨b94, gz94⟩ : ∃ z, z = h93.size := ⟨_, rfl⟩
      rw [← gz94] at A94 D94 st94
      have Q92_95 := (Q92.ext E93)
      have ne_b92_b94 : b92 ≠ b94 := Nat.ne_of_lt (Nat.lt_of_lt_of_le Q92_95.lt (Nat.le_of_eq gz94.symm))
      have ne_b93_b94 : b93 ≠ b94 := Nat.ne_of_lt (Nat.lt_of_lt_of_le Q93.lt (Nat.le_of_eq gz94.symm))
      have g_b94 : n0 ≤ b94 := Nat.le_trans Z93 (Nat.le_of_eq gz94.symm)
      have Z94 : n0 ≤ h94.size := Nat.le_trans Z93 E94.1
      have F_actors_b94 : Fld Z h94 b94 cN0 "actors" "[I" .null := D94 (Or.inl (ow hw 12 rfl)) (ty := (.array .int)) (by decide)
      have F_indices_b94 : Fld Z h94 b94 cN0 "indices" "[I" .null := D94 (Or.inl (ow hw 14 rfl)) (ty := (.array .int)) (by decide)
      have F_branchNumbers_b94 : Fld Z h94 b94 cN0 "branchNumbers" "[I" .null := D94 (Or.inl (ow hw 16 rfl)) (ty := (.array .int)) (by decide)
      have F_chose_b94 : Fld Z h94 b94 cN0 "chose" "[Z" .null := D94 (Or.inl (ow hw 19 rfl)) (ty := (.array .boolean)) (by decide)
      have F_keys_b94 : Fld Z h94 b94 cN0 "keys" "[[B" .null := D94 (Or.inl (ow hw 23 rfl)) (ty := (.array (.array .byte))) (by decide)
      have F_moves_b94 : Fld Z h94 b94 cN0 "moves" cN1 .null := D94 (Or.inl (ow hw 27 rfl)) (ty := (.array (.object "com/example/flote/flote/search/Search$Moves"))) (by decide)
      have F_transitions_b94 : Fld Z h94 b94 cN0 "transitions" cN2 .null := D94 (Or.inl (ow hw 31 rfl)) (ty := (.array (.object "com/example/flote/flote/search/Search$Branches"))) (by decide)
      have F_frames_b94 : Fld Z h94 b94 cN0 "frames" "[J" .null := D94 (Or.inl (ow hw 34 rfl)) (ty := (.array .long)) (by decide)
      have F_targets_b94 : Fld Z h94 b94 cN0 "targets" "[I" .null := D94 (Or.inl (ow hw 36 rfl)) (ty := (.array .int)) (by decide)
      have F_stored_b94 : Fld Z h94 b94 cN0 "stored" "[Z" .null := D94 (Or.inl (ow hw 38 rfl)) (ty := (.array .boolean)) (by decide)
      have F_count_b94 : Fld Z h94 b94 cN0 "count" "I" (.int (0 : Int32)) := D94 (Or.inl (ow hw 49 rfl)) (ty := .int) (by decide)
      have F_admitted_b94 : Fld Z h94 b94 cN0 "admitted" "I" (.int (0 : Int32)) := D94 (Or.inl (ow hw 51 rfl)) (ty := .int) (by decide)
      have F_waitingBytes_b94 : Fld Z h94 b94 cN0 "waitingBytes" "J" (.long (0 : Int64)) := D94 (Or.inl (ow hw 60 rfl)) (ty := .long) (by decide)
      replace K : OGo p e below A0 T94 (mkF m 55 #[iv p1, iv p2, iv p3, iv p4, iv 1, iv 1, iv l1, iv l2, rv b92, rv b93, .unset, .unset, .unset] [(.ref b94)]) := fun t k => K t (st94 t k)
      replace K : OGo p e below A0 T94 (mkF m 56 #[iv p1, iv p2, iv p3, iv p4, iv 1, iv 1, iv l1, iv l2, rv b92, rv b93, .unset, .unset, .unset] [(.ref b94), (.ref b94)]) := fun t k => K t (XS.dup X94.here hx rfl (hb hby at_55) rfl rfl k)
      obtain ⟨_, _, ⟨T96, L96, k96, n96⟩, -, X96, ⟨Lc96, hQ96, l96, y96, z96⟩, st96⟩ := X94.specialBack hx (y := mN0) rfl hown (mvT hZ (ow hw 4 rfl)) (mvT hZ (ow hw 5 rfl)) (mvT hZ (ow hw 6 rfl)) (by decide) (backOf (W := 1) (rm_init l Z a0 hw [] b94 h94 n0 Z94 A94 F_actors_b94 F_indices_b94 F_branchNumbers_b94 F_chose_b94 F_keys_b94 F_moves_b94 F_transitions_b94 F_frames_b94 F_targets_b94 F_stored_b94 F_count_b94 F_admitted_b94 F_waitingBytes_b94 g_b94) hZ (ow hw 6 rfl) (ow hw 3 rfl) (by decide) (by decide)) (g := (mkF m 56 #[iv p1, iv p2, iv p3, iv p4, iv 1, iv 1, iv l1, iv l2, rv b92, rv b93, .unset, .unset, .unset] [(.ref b94), (.ref b94)])) rfl (by rw [hml]; rfl) (Steps.refl _) (a := b94) (argsL := []) (rest := [(.ref b94)]) (lenOf pd___V rfl) rfl (by show 2 * 0 + _ ≤ _; exact Nat.le_of_eq rfl) (hb hby at_56) (fun _ _ => ⟨rfl, e94, (by decide : 3 + 10 ≤ _), (by decide : 43 + 160 ≤ _)⟩)
      dsimp only [Pt.U, Pt.locs, Pt.cells, Pt.slots] at X96 l96 y96 z96 st96 hQ96
      subst l96 y96 z96
      obtain ⟨hp96, e96⟩ : ∃ z, T96.heap = z := ⟨_, rfl⟩
      rw [e96] at hQ96
      obtain ⟨rfl, Nq96, ac_96, ix_96, bn_96, ch_96, ky_96, mv_96, tr_96, fr_96, tg_96, sd_96, k_ac_96, k_ix_96, k_bn_96, k_ch_96, k_ky_96, k_mv_96, k_tr_96, k_fr_96, k_tg_96, k_sd_96, K96, P96_0, P96_1, P96_2, P96_3, P96_4, P96_5, P96_6, P96_7, P96_8, P96_9, P96_10, P96_11, P96_12, P96_13, P96_14, P96_15, P96_16, P96_17, P96_18, P96_19, P96_20, P96_21, P96_22, P96_23, P96_24, P96_25, P96_26, P96_27, P96_28, P96_29, P96_30, P96_31, P96_32, P96_33, P96_34, P96_35⟩ := hQ96
      have Q92_97 := (Q92_95.ext E94)
      have ne_b92_ac_96 : b92 ≠ ac_96 := Nat.ne_of_lt (Nat.lt_of_lt_of_le Q92_97.lt P96_0)
      have Q93_98 := (Q93.ext E94)
      have ne_b93_ac_96 : b93 ≠ ac_96 := Nat.ne_of_lt (Nat.lt_of_lt_of_le Q93_98.lt P96_0)
      have ne_b94_ac_96 : b94 ≠ ac_96 := Nat.ne_of_lt (Nat.lt_of_lt_of_le A94.lt P96_0)
      have g_ac_96 : n0 ≤ ac_96 := Nat.le_trans Z94 P96_0
      have ne_b92_ix_96 : b92 ≠ ix_96 := Nat.ne_of_lt (Nat.lt_of_lt_of_le Q92_97.lt P96_1)
      have ne_b93_ix_96 : b93 ≠ ix_96 := Nat.ne_of_lt (Nat.lt_of_lt_of_le Q93_98.lt P96_1)
      have ne_b94_ix_96 : b94 ≠ ix_96 := Nat.ne_of_lt (Nat.lt_of_lt_of_le A94.lt P96_1)
      have g_ix_96 : n0 ≤ ix_96 := Nat.le_trans Z94 P96_1
      have ne_b92_bn_96 : b92 ≠ bn_96 := Nat.ne_of_lt (Nat.lt_of_lt_of_le Q92_97.lt P96_2)
      have ne_b93_bn_96 : b93 ≠ bn_96 := Nat.ne_of_lt (Nat.lt_of_lt_of_le Q93_98.lt P96_2)
      have ne_b94_bn_96 : b94 ≠ bn_96 := Nat.ne_of_lt (Nat.lt_of_lt_of_le A94.lt P96_2)
      have g_bn_96 : n0 ≤ bn_96 := Nat.le_trans Z94 P96_2
      have ne_b92_ch_96 : b92 ≠ ch_96 := Nat.ne_of_lt (Nat.lt_of_lt_of_le Q92_97.lt P96_3)
      have ne_b93_ch_96 : b93 ≠ ch_96 := Nat.ne_of_lt (Nat.lt_of_lt_of_le Q93_98.lt P96_3)
      have ne_b94_ch_96 : b94 ≠ ch_96 := Nat.ne_of_lt (Nat.lt_of_lt_of_le A94.lt P96_3)
      have g_ch_96 : n0 ≤ ch_96 := Nat.le_trans Z94 P96_3
      have ne_b92_ky_96 : b92 ≠ ky_96 := Nat.ne_of_lt (Nat.lt_of_lt_of_le Q92_97.lt P96_4)
      have ne_b93_ky_96 : b93 ≠ ky_96 := Nat.ne_of_lt (Nat.lt_of_lt_of_le Q93_98.lt P96_4)
      have ne_b94_ky_96 : b94 ≠ ky_96 := Nat.ne_of_lt (Nat.lt_of_lt_of_le A94.lt P96_4)
      have g_ky_96 : n0 ≤ ky_96 := Nat.le_trans Z94 P96_4
      have ne_b92_mv_96 : b92 ≠ mv_96 := Nat.ne_of_lt (Nat.lt_of_lt_of_le Q92_97.lt P96_5)
      have ne_b93_mv_96 : b93 ≠ mv_96 := Nat.ne_of_lt (Nat.lt_of_lt_of_le Q93_98.lt P96_5)
      have ne_b94_mv_96 : b94 ≠ mv_96 := Nat.ne_of_lt (Nat.lt_of_lt_of_le A94.lt P96_5)
      have g_mv_96 : n0 ≤ mv_96 := Nat.le_trans Z94 P96_5
      have ne_b92_tr_96 : b92 ≠ tr_96 := Nat.ne_of_lt (Nat.lt_of_lt_of_le Q92_97.lt P96_6)
      have ne_b93_tr_96 : b93 ≠ tr_96 := Nat.ne_of_lt (Nat.lt_of_lt_of_le Q93_98.lt P96_6)
      have ne_b94_tr_96 : b94 ≠ tr_96 := Nat.ne_of_lt (Nat.lt_of_lt_of_le A94.lt P96_6)
      have g_tr_96 : n0 ≤ tr_96 := Nat.le_trans Z94 P96_6
      have ne_b92_fr_96 : b92 ≠ fr_96 := Nat.ne_of_lt (Nat.lt_of_lt_of_le Q92_97.lt P96_7)
      have ne_b93_fr_96 : b93 ≠ fr_96 := Nat.ne_of_lt (Nat.lt_of_lt_of_le Q93_98.lt P96_7)
      have ne_b94_fr_96 : b94 ≠ fr_96 := Nat.ne_of_lt (Nat.lt_of_lt_of_le A94.lt P96_7)
      have g_fr_96 : n0 ≤ fr_96 := Nat.le_trans Z94 P96_7
      have ne_b92_tg_96 : b92 ≠ tg_96 := Nat.ne_of_lt (Nat.lt_of_lt_of_le Q92_97.lt P96_8)
      have ne_b93_tg_96 : b93 ≠ tg_96 := Nat.ne_of_lt (Nat.lt_of_lt_of_le Q93_98.lt P96_8)
      have ne_b94_tg_96 : b94 ≠ tg_96 := Nat.ne_of_lt (Nat.lt_of_lt_of_le A94.lt P96_8)
      have g_tg_96 : n0 ≤ tg_96 := Nat.le_trans Z94 P96_8
      have ne_b92_sd_96 : b92 ≠ sd_96 := Nat.ne_of_lt (Nat.lt_of_lt_of_le Q92_97.lt P96_9)
      have ne_b93_sd_96 : b93 ≠ sd_96 := Nat.ne_of_lt (Nat.lt_of_lt_of_le Q93_98.lt P96_9)
      have ne_b94_sd_96 : b94 ≠ sd_96 := Nat.ne_of_lt (Nat.lt_of_lt_of_le A94.lt P96_9)
      have g_sd_96 : n0 ≤ sd_96 := Nat.le_trans Z94 P96_9
      have Z96 : n0 ≤ hp96.size := Nat.le_trans Z94 K96.1
      have N96 := Fr.app N0 Nq96
      replace K : OGo p e below A0 T96 (mkF m 59 #[iv p1, iv p2, iv p3, iv p4, iv 1, iv 1, iv l1, iv l2, rv b92, rv b93, .unset, .unset, .unset] [(.ref b94)]) := fun t k => K t (st96.trans k)
      replace K : OGo p e below A0 T96 (mkF m 61 #[iv p1, iv p2, iv p3, iv p4, iv 1, iv 1, iv l1, iv l2, rv b92, rv b93, rv b94, .unset, .unset] []) := fun t k => K t (XS.astore X96.here hx rfl (hb hby at_59) rfl rfl (l' := #[iv p1, iv p2, iv p3, iv p4, iv 1, iv 1, iv l1, iv l2, rv b92, rv b93, rv b94, .unset, .unset]) rfl k)
      replace K : OGo p e below A0 T96 (mkF m 62 #[iv p1, iv p2, iv p3, iv p4, iv 1, iv 1, iv l1, iv l2, rv b92, rv b93, rv b94, .unset, .unset] [(.int 0)]) := fun t k => K t (XS.iconst X96.here hx rfl (hb hby at_61) k)
      replace K : OGo p e below A0 T96 (mkF m 64 #[iv p1, iv p2, iv p3, iv p4, iv 1, iv 1, iv l1, iv l2, rv b92, rv b93, rv b94, iv 0, .unset] []) := fun t k => K t (XS.istore X96.here hx rfl (hb hby at_62) rfl (l' := #[iv p1, iv p2, iv p3, iv p4, iv 1, iv 1, iv l1, iv l2, rv b92, rv b93, rv b94, iv 0, .unset]) rfl k)
      replace K : OGo p e below A0 T96 (mkF m 66 #[iv p1, iv p2, iv p3, iv p4, iv 1, iv 1, iv l1, iv l2, rv b92, rv b93, rv b94, iv 0, .unset] [(.int 1)]) := fun t k => K t (XS.iload X96.here hx rfl (hb hby at_64) rfl k)
      replace K : OGo p e below A0 T96 (mkF m 69 #[iv p1, iv p2, iv p3, iv p4, iv 1, iv 1, iv l1, iv l2, rv b92, rv b93, rv b94, iv 0, .unset] []) := fun t k => K t (XS.ifNo X96.here hx rfl (hb hby at_66) rfl ((if0 _ _).trans (feq ((by decide : ¬ ((1 : Int32) = (0 : Int32))) : ¬ ((1 : Int32) = (0 : Int32)))).1) k)
      replace K : OGo p e below A0 T96 (mkF m 71 #[iv p1, iv p2, iv p3, iv p4, iv 1, iv 1, iv l1, iv l2, rv b92, rv b93, rv b94, iv 0, .unset] [(.ref b94)]) := fun t k => K t (XS.aload X96.here hx rfl (hb hby at_69) rfl rfl k)
      replace K : OGo p e below A0 T96 (mkF m 72 #[iv p1, iv p2, iv p3, iv p4, iv 1, iv 1, iv l1, iv l2, rv b92, rv b93, rv b94, iv 0, .unset] [(.int p2), (.ref b94)]) := fun t k => K t (XS.iloadN X96.here hx rfl (hb hby at_71) rfl k)
      replace K : OGo p e below A0 T96 (mkF m 73 #[iv p1, iv p2, iv p3, iv p4, iv 1, iv 1, iv l1, iv l2, rv b92, rv b93, rv b94, iv 0, .unset] [(.long 0), (.int p2), (.ref b94)]) := fun t k => K t (XS.lconst X96.here hx rfl (hb hby at_72) k)
      have nd100 : OND [b94, ac_96, ix_96, bn_96, ch_96, ky_96, mv_96, tr_96, fr_96, tg_96, sd_96] := (ondS (allS ne_b94_ac_96 (allS ne_b94_ix_96 (allS ne_b94_bn_96 (allS ne_b94_ch_96 (allS ne_b94_ky_96 (allS ne_b94_mv_96 (allS ne_b94_tr_96 (allS ne_b94_fr_96 (allS ne_b94_tg_96 (allS ne_b94_sd_96 all0)))))))))) (ondS (allS (own_pw P96_10 0 1 (by decide) rfl rfl) (allS (own_pw P96_10 0 2 (by decide) rfl rfl) (allS (own_pw P96_10 0 3 (by decide) rfl rfl) (allS (own_pw P96_10 0 4 (by decide) rfl rfl) (allS (own_pw P96_10 0 5 (by decide) rfl rfl) (allS (own_pw P96_10 0 6 (by decide) rfl rfl) (allS (own_pw P96_10 0 7 (by decide) rfl rfl) (allS (own_pw P96_10 0 8 (by decide) rfl rfl) (allS (own_pw P96_10 0 9 (by decide) rfl rfl) all0))))))))) (ondS (allS (own_pw P96_10 1 2 (by decide) rfl rfl) (allS (own_pw P96_10 1 3 (by decide) rfl rfl) (allS (own_pw P96_10 1 4 (by decide) rfl rfl) (allS (own_pw P96_10 1 5 (by decide) rfl rfl) (allS (own_pw P96_10 1 6 (by decide) rfl rfl) (allS (own_pw P96_10 1 7 (by decide) rfl rfl) (allS (own_pw P96_10 1 8 (by decide) rfl rfl) (allS (own_pw P96_10 1 9 (by decide) rfl rfl) all0)))))))) (ondS (allS (own_pw P96_10 2 3 (by decide) rfl rfl) (allS (own_pw P96_10 2 4 (by decide) rfl rfl) (allS (own_pw P96_10 2 5 (by decide) rfl rfl) (allS (own_pw P96_10 2 6 (by decide) rfl rfl) (allS (own_pw P96_10 2 7 (by decide) rfl rfl) (allS (own_pw P96_10 2 8 (by decide) rfl rfl) (allS (own_pw P96_10 2 9 (by decide) rfl rfl) all0))))))) (ondS (allS (own_pw P96_10 3 4 (by decide) rfl rfl) (allS (own_pw P96_10 3 5 (by decide) rfl rfl) (allS (own_pw P96_10 3 6 (by decide) rfl rfl) (allS (own_pw P96_10 3 7 (by decide) rfl rfl) (allS (own_pw P96_10 3 8 (by decide) rfl rfl) (allS (own_pw P96_10 3 9 (by decide) rfl rfl) all0)))))) (ondS (allS (own_pw P96_10 4 5 (by decide) rfl rfl) (allS (own_pw P96_10 4 6 (by decide) rfl rfl) (allS (own_pw P96_10 4 7 (by decide) rfl rfl) (allS (own_pw P96_10 4 8 (by decide) rfl rfl) (allS (own_pw P96_10 4 9 (by decide) rfl rfl) all0))))) (ondS (allS (own_pw P96_10 5 6 (by decide) rfl rfl) (allS (own_pw P96_10 5 7 (by decide) rfl rfl) (allS (own_pw P96_10 5 8 (by decide) rfl rfl) (allS (own_pw P96_10 5 9 (by decide) rfl rfl) all0)))) (ondS (allS (own_pw P96_10 6 7 (by decide) rfl rfl) (allS (own_pw P96_10 6 8 (by decide) rfl rfl) (allS (own_pw P96_10 6 9 (by decide) rfl rfl) all0))) (ondS (allS (own_pw P96_10 7 8 (by decide) rfl rfl) (allS (own_pw P96_10 7 9 (by decide) rfl rfl) all0)) (ondS (allS (own_pw P96_10 8 9 (by decide) rfl rfl) all0) (ondS all0 ond0)))))))))))
      obtain ⟨cq99, kq99, qv99a, qv99b, qv99c⟩ := isOf hZ e96 P96_12
      obtain ⟨_, _, ⟨T99, L99, k99, n99⟩, -, X99, ⟨Lc99, hQ99, l99, y99, z99⟩, st99⟩ := X96.virtualBack hx (y := mN2) (z := mN2) hown (mvT hZ (ow hw 39 rfl)) (mvT hZ (ow hw 40 rfl)) (notFace_of_selects (args := #[]) (mvT hZ (ow hw 42 rfl))) (mvT hZ (ow hw 42 rfl)) (mvT hZ (ow hw 41 rfl)) (by decide) (backOf (W := 0) (rm_addAdm l Z a0 hw [] b94 p2 (0 : Int64) ac_96 ix_96 bn_96 ch_96 ky_96 mv_96 tr_96 fr_96 tg_96 sd_96 k_ac_96 k_fr_96 k_tg_96 k_sd_96 (.int (0 : Int32)) (.int (0 : Int32)) (.int (0 : Int32)) (.long (0 : Int64)) (.long (0 : Int64)) (.long (0 : Int64)) (.int (0 : Int32)) (.int (0 : Int32)) (.int (0 : Int32)) (.int (0 : Int32)) (.int (0 : Int32)) (.int (0 : Int32)) (0 : Int64) hp96 n0 Z96 P96_12 P96_13 P96_14 P96_15 P96_16 P96_17 P96_18 P96_19 P96_20 P96_21 P96_22 P96_23 P96_24 P96_25 P96_26 P96_33 P96_34 P96_35 g_b94 g_fr_96 g_tg_96 g_sd_96 nd100) hZ (ow hw 43 rfl) (ow hw 3 rfl) (by decide) (by decide)) qv99a qv99c (g := (mkF m 73 #[iv p1, iv p2, iv p3, iv p4, iv 1, iv 1, iv l1, iv l2, rv b92, rv b93, rv b94, iv 0, .unset] [(.long 0), (.int p2), (.ref b94)])) rfl (by rw [hml]; rfl) (Steps.refl _) (argsL := [(.int p2), (.long (0 : Int64))]) (rest := []) (lenOf pd__IJ_V rfl) rfl (by show 2 * 0 + _ ≤ _; exact Nat.le_of_eq rfl) (hb hby at_73) (fun _ _ => ⟨rfl, e96, (by decide : 13 + 0 ≤ _), (by decide : 203 + 0 ≤ _)⟩)
      dsimp only [Pt.U, Pt.locs, Pt.cells, Pt.slots] at X99 l99 y99 z99 st99 hQ99
      subst l99 y99 z99
      obtain ⟨hp99, e99⟩ : ∃ z, T99.heap = z := ⟨_, rfl⟩
      rw [e99] at hQ99
      obtain ⟨rfl, Nq99, K99, P99_0, P99_1, P99_2, P99_3, P99_4, P99_5, P99_6, P99_7, P99_8, P99_9, P99_10, P99_11, P99_12, P99_13, P99_14, P99_15, P99_16⟩ := hQ99
      have Z99 : n0 ≤ hp99.size := Nat.le_trans Z96 K99.1
      have N99 := Fr.app N96 Nq99
      replace K : OGo p e below A0 T99 (mkF m 76 #[iv p1, iv p2, iv p3, iv p4, iv 1, iv 1, iv l1, iv l2, rv b92, rv b93, rv b94, iv 0, .unset] []) := fun t k => K t (st99.trans k)
      replace K : OGo p e below A0 T99 (mkF m 77 #[iv p1, iv p2, iv p3, iv p4, iv 1, iv 1, iv l1, iv l2, rv b92, rv b93, rv b94, iv 0, .unset] [(.int 1)]) := fun t k => K t (XS.iconst X99.here hx rfl (hb hby at_76) k)
      replace K : OGo p e below A0 T99 (mkF m 79 #[iv p1, iv p2, iv p3, iv p4, iv 1, iv 1, iv l1, iv l2, rv b92, rv b93, rv b94, iv 1, .unset] []) := fun t k => K t (XS.istore X99.here hx rfl (hb hby at_77) rfl (l' := #[iv p1, iv p2, iv p3, iv p4, iv 1, iv 1, iv l1, iv l2, rv b92, rv b93, rv b94, iv 1, .unset]) rfl k)
      replace K : OGo p e below A0 T99 (mkF m 81 #[iv p1, iv p2, iv p3, iv p4, iv 1, iv 1, iv l1, iv l2, rv b92, rv b93, rv b94, iv 1, .unset] [(.ref b94)]) := fun t k => K t (XS.aload X99.here hx rfl (hb hby at_79) rfl rfl k)
      replace K : OGo p e below A0 T99 (mkF m 82 #[iv p1, iv p2, iv p3, iv p4, iv 1, iv 1, iv l1, iv l2, rv b92, rv b93, rv b94, iv 1, .unset] [(.int 1), (.ref b94)]) := fun t k => K t (XS.iconst X99.here hx rfl (hb hby at_81) k)
      replace K : OGo p e below A0 T99 (mkF m 83 #[iv p1, iv p2, iv p3, iv p4, iv 1, iv 1, iv l1, iv l2, rv b92, rv b93, rv b94, iv 1, .unset] [(.int 2), (.int 1), (.ref b94)]) := fun t k => K t (XS.iconst X99.here hx rfl (hb hby at_82) k)
      replace K : OGo p e below A0 T99 (mkF m 84 #[iv p1, iv p2, iv p3, iv p4, iv 1, iv 1, iv l1, iv l2, rv b92, rv b93, rv b94, iv 1, .unset] [(.int 3), (.int 2), (.int 1), (.ref b94)]) := fun t k => K t (XS.iconst X99.here hx rfl (hb hby at_83) k)
      replace K : OGo p e below A0 T99 (mkF m 85 #[iv p1, iv p2, iv p3, iv p4, iv 1, iv 1, iv l1, iv l2, rv b92, rv b93, rv b94, iv 1, .unset] [(.int 0), (.int 3), (.int 2), (.int 1), (.ref b94)]) := fun t k => K t (XS.iconst X99.here hx rfl (hb hby at_84) k)
      replace K : OGo p e below A0 T99 (mkF m 87 #[iv p1, iv p2, iv p3, iv p4, iv 1, iv 1, iv l1, iv l2, rv b92, rv b93, rv b94, iv 1, .unset] [(.ref b92), (.int 0), (.int 3), (.int 2), (.int 1), (.ref b94)]) := fun t k => K t (XS.aload X99.here hx rfl (hb hby at_85) rfl rfl k)
      replace K : OGo p e below A0 T99 (mkF m 88 #[iv p1, iv p2, iv p3, iv p4, iv 1, iv 1, iv l1, iv l2, rv b92, rv b93, rv b94, iv 1, .unset] [.null, (.ref b92), (.int 0), (.int 3), (.int 2), (.int 1), (.ref b94)]) := fun t k => K t (XS.aconstNull X99.here hx rfl (hb hby at_87) k)
      replace K : OGo p e below A0 T99 (mkF m 91 #[iv p1, iv p2, iv p3, iv p4, iv 1, iv 1, iv l1, iv l2, rv b92, rv b93, rv b94, iv 1, .unset] [(.long 5), .null, (.ref b92), (.int 0), (.int 3), (.int 2), (.int 1), (.ref b94)]) := fun t k => K t (X99.ldc2Long hx hown (mvT hZ (ow hw 52 rfl)) (g := (mkF m 88 #[iv p1, iv p2, iv p3, iv p4, iv 1, iv 1, iv l1, iv l2, rv b92, rv b93, rv b94, iv 1, .unset] [.null, (.ref b92), (.int 0), (.int 3), (.int 2), (.int 1), (.ref b94)])) rfl (hb hby at_88) t k)
      replace K : OGo p e below A0 T99 (mkF m 92 #[iv p1, iv p2, iv p3, iv p4, iv 1, iv 1, iv l1, iv l2, rv b92, rv b93, rv b94, iv 1, .unset] [.null, (.long 5), .null, (.ref b92), (.int 0), (.int 3), (.int 2), (.int 1), (.ref b94)]) := fun t k => K t (XS.aconstNull X99.here hx rfl (hb hby at_91) k)
      have V_ac_96_102 := (P96_26.keep K99 (ninS (Ne.symm ne_b94_ac_96) (ninS (own_pw P96_10 0 7 (by decide) rfl rfl) (ninS (own_pw P96_10 0 8 (by decide) rfl rfl) (ninS (own_pw P96_10 0 9 (by decide) rfl rfl) nin0)))))
      have V_ix_96_103 := (P96_27.keep K99 (ninS (Ne.symm ne_b94_ix_96) (ninS (own_pw P96_10 1 7 (by decide) rfl rfl) (ninS (own_pw P96_10 1 8 (by decide) rfl rfl) (ninS (own_pw P96_10 1 9 (by decide) rfl rfl) nin0)))))
      have V_bn_96_104 := (P96_28.keep K99 (ninS (Ne.symm ne_b94_bn_96) (ninS (own_pw P96_10 2 7 (by decide) rfl rfl) (ninS (own_pw P96_10 2 8 (by decide) rfl rfl) (ninS (own_pw P96_10 2 9 (by decide) rfl rfl) nin0)))))
      have V_ch_96_105 := (P96_29.keep K99 (ninS (Ne.symm ne_b94_ch_96) (ninS (own_pw P96_10 3 7 (by decide) rfl rfl) (ninS (own_pw P96_10 3 8 (by decide) rfl rfl) (ninS (own_pw P96_10 3 9 (by decide) rfl rfl) nin0)))))
      have V_ky_96_106 := (P96_30.keep K99 (ninS (Ne.symm ne_b94_ky_96) (ninS (own_pw P96_10 4 7 (by decide) rfl rfl) (ninS (own_pw P96_10 4 8 (by decide) rfl rfl) (ninS (own_pw P96_10 4 9 (by decide) rfl rfl) nin0)))))
      have V_mv_96_107 := (P96_31.keep K99 (ninS (Ne.symm ne_b94_mv_96) (ninS (own_pw P96_10 5 7 (by decide) rfl rfl) (ninS (own_pw P96_10 5 8 (by decide) rfl rfl) (ninS (own_pw P96_10 5 9 (by decide) rfl rfl) nin0)))))
      have V_tr_96_108 := (P96_32.keep K99 (ninS (Ne.symm ne_b94_tr_96) (ninS (own_pw P96_10 6 7 (by decide) rfl rfl) (ninS (own_pw P96_10 6 8 (by decide) rfl rfl) (ninS (own_pw P96_10 6 9 (by decide) rfl rfl) nin0)))))
      have V_b92_109 := ((((V_b92.ext E93).ext E94).keep K96 (ninS ne_b92_b94 nin0)).keep K99 (ninS ne_b92_b94 (ninS ne_b92_fr_96 (ninS ne_b92_tg_96 (ninS ne_b92_sd_96 nin0)))))
      have Q92_110 := ((Q92_97.keep K96).keep K99)
      have nd111 : OND [b94, ac_96, ix_96, bn_96, ch_96, ky_96, mv_96, tr_96, fr_96, tg_96, sd_96, b92] := (ondS (allS ne_b94_ac_96 (allS ne_b94_ix_96 (allS ne_b94_bn_96 (allS ne_b94_ch_96 (allS ne_b94_ky_96 (allS ne_b94_mv_96 (allS ne_b94_tr_96 (allS ne_b94_fr_96 (allS ne_b94_tg_96 (allS ne_b94_sd_96 (allS (Ne.symm ne_b92_b94) all0))))))))))) (ondS (allS (own_pw P96_10 0 1 (by decide) rfl rfl) (allS (own_pw P96_10 0 2 (by decide) rfl rfl) (allS (own_pw P96_10 0 3 (by decide) rfl rfl) (allS (own_pw P96_10 0 4 (by decide) rfl rfl) (allS (own_pw P96_10 0 5 (by decide) rfl rfl) (allS (own_pw P96_10 0 6 (by decide) rfl rfl) (allS (own_pw P96_10 0 7 (by decide) rfl rfl) (allS (own_pw P96_10 0 8 (by decide) rfl rfl) (allS (own_pw P96_10 0 9 (by decide) rfl rfl) (allS (Ne.symm ne_b92_ac_96) all0)))))))))) (ondS (allS (own_pw P96_10 1 2 (by decide) rfl rfl) (allS (own_pw P96_10 1 3 (by decide) rfl rfl) (allS (own_pw P96_10 1 4 (by decide) rfl rfl) (allS (own_pw P96_10 1 5 (by decide) rfl rfl) (allS (own_pw P96_10 1 6 (by decide) rfl rfl) (allS (own_pw P96_10 1 7 (by decide) rfl rfl) (allS (own_pw P96_10 1 8 (by decide) rfl rfl) (allS (own_pw P96_10 1 9 (by decide) rfl rfl) (allS (Ne.symm ne_b92_ix_96) all0))))))))) (ondS (allS (own_pw P96_10 2 3 (by decide) rfl rfl) (allS (own_pw P96_10 2 4 (by decide) rfl rfl) (allS (own_pw P96_10 2 5 (by decide) rfl rfl) (allS (own_pw P96_10 2 6 (by decide) rfl rfl) (allS (own_pw P96_10 2 7 (by decide) rfl rfl) (allS (own_pw P96_10 2 8 (by decide) rfl rfl) (allS (own_pw P96_10 2 9 (by decide) rfl rfl) (allS (Ne.symm ne_b92_bn_96) all0)))))))) (ondS (allS (own_pw P96_10 3 4 (by decide) rfl rfl) (allS (own_pw P96_10 3 5 (by decide) rfl rfl) (allS (own_pw P96_10 3 6 (by decide) rfl rfl) (allS (own_pw P96_10 3 7 (by decide) rfl rfl) (allS (own_pw P96_10 3 8 (by decide) rfl rfl) (allS (own_pw P96_10 3 9 (by decide) rfl rfl) (allS (Ne.symm ne_b92_ch_96) all0))))))) (ondS (allS (own_pw P96_10 4 5 (by decide) rfl rfl) (allS (own_pw P96_10 4 6 (by decide) rfl rfl) (allS (own_pw P96_10 4 7 (by decide) rfl rfl) (allS (own_pw P96_10 4 8 (by decide) rfl rfl) (allS (own_pw P96_10 4 9 (by decide) rfl rfl) (allS (Ne.symm ne_b92_ky_96) all0)))))) (ondS (allS (own_pw P96_10 5 6 (by decide) rfl rfl) (allS (own_pw P96_10 5 7 (by decide) rfl rfl) (allS (own_pw P96_10 5 8 (by decide) rfl rfl) (allS (own_pw P96_10 5 9 (by decide) rfl rfl) (allS (Ne.symm ne_b92_mv_96) all0))))) (ondS (allS (own_pw P96_10 6 7 (by decide) rfl rfl) (allS (own_pw P96_10 6 8 (by decide) rfl rfl) (allS (own_pw P96_10 6 9 (by decide) rfl rfl) (allS (Ne.symm ne_b92_tr_96) all0)))) (ondS (allS (own_pw P96_10 7 8 (by decide) rfl rfl) (allS (own_pw P96_10 7 9 (by decide) rfl rfl) (allS (Ne.symm ne_b92_fr_96) all0))) (ondS (allS (own_pw P96_10 8 9 (by decide) rfl rfl) (allS (Ne.symm ne_b92_tg_96) all0)) (ondS (allS (Ne.symm ne_b92_sd_96) all0) (ondS all0 ond0))))))))))))
      obtain ⟨cq101, kq101, qv101a, qv101b, qv101c⟩ := isOf hZ e99 P99_0
      obtain ⟨_, _, ⟨T101, L101, k101, n101⟩, -, X101, ⟨Lc101, hQ101, l101, y101, z101⟩, st101⟩ := X99.virtualBack hx (y := mN3) (z := mN3) hown (mvT hZ (ow hw 53 rfl)) (mvT hZ (ow hw 54 rfl)) (notFace_of_selects (args := #[]) (mvT hZ (ow hw 56 rfl))) (mvT hZ (ow hw 56 rfl)) (mvT hZ (ow hw 55 rfl)) (by decide) (backOf (W := 0) (rm_add1 l Z a0 hw [] b94 (1 : Int32) (2 : Int32) (3 : Int32) (0 : Int32) b92 (5 : Int64) ac_96 ix_96 bn_96 ch_96 ky_96 mv_96 tr_96 fr_96 tg_96 sd_96 k_ac_96 k_ix_96 k_bn_96 k_ch_96 k_ky_96 k_mv_96 k_tr_96 k_fr_96 (.int (0 : Int32)) (.int (0 : Int32)) (.int (0 : Int32)) (.int (0 : Int32)) (.int (0 : Int32)) (.int (0 : Int32)) (.int (0 : Int32)) (.int (0 : Int32)) (.int (0 : Int32)) (.int (0 : Int32)) (.int (0 : Int32)) (.int (0 : Int32)) .null .null .null .null .null .null .null .null .null (.long (0 : Int64)) (.long (0 : Int64)) (.long (0 : Int64)) (List.replicate l1.toNatClampNeg (.int (0 : Int32))) k92 l1 (1 : Int32) (0 : Int64) hp99 n0 Z99 P99_0 P99_1 P99_2 P99_3 P99_4 P99_5 P99_6 P99_7 P99_8 P99_9 P99_10 P99_11 P99_12 P99_13 V_ac_96_102 V_ix_96_103 V_bn_96_104 V_ch_96_105 V_ky_96_106 V_mv_96_107 V_tr_96_108 P99_14 V_b92_109 Q92_110 (own_rl hl1 _) P96_11 g_b94 g_ac_96 g_ix_96 g_bn_96 g_ch_96 g_ky_96 g_mv_96 g_tr_96 g_fr_96 nd111) hZ (ow hw 57 rfl) (ow hw 3 rfl) (by decide) (by decide)) qv101a qv101c (g := (mkF m 92 #[iv p1, iv p2, iv p3, iv p4, iv 1, iv 1, iv l1, iv l2, rv b92, rv b93, rv b94, iv 1, .unset] [.null, (.long 5), .null, (.ref b92), (.int 0), (.int 3), (.int 2), (.int 1), (.ref b94)])) rfl (by rw [hml]; rfl) (Steps.refl _) (argsL := [(.int (1 : Int32)), (.int (2 : Int32)), (.int (3 : Int32)), (.int (0 : Int32)), (.ref b92), .null, (.long (5 : Int64)), .null]) (rest := []) (lenOf pd__IIIZ_BLcom_example_flote_flote_search_Search_Moves_JLcom_example_flote_flote_search_Search_Branches__V rfl) rfl (by show 2 * 0 + _ ≤ _; exact Nat.le_of_eq rfl) (hb hby at_92) (fun _ _ => ⟨rfl, e99, (by decide : 13 + 0 ≤ _), (by decide : 203 + 0 ≤ _)⟩)
      dsimp only [Pt.U, Pt.locs, Pt.cells, Pt.slots] at X101 l101 y101 z101 st101 hQ101
      subst l101 y101 z101
      obtain ⟨hp101, e101⟩ : ∃ z, T101.heap = z := ⟨_, rfl⟩
      rw [e101] at hQ101
      obtain ⟨rfl, Nq101, K101, P101_0, P101_1, P101_2, P101_3, P101_4, P101_5, P101_6, P101_7, P101_8, P101_9, P101_10, P101_11, P101_12, P101_13, P101_14, P101_15, P101_16, P101_17, P101_18, P101_19, P101_20, P101_21⟩ := hQ101
      have Z101 : n0 ≤ hp101.size := Nat.le_trans Z99 K101.1
      have N101 := Fr.app N99 Nq101
      replace K : OGo p e below A0 T101 (mkF m 95 #[iv p1, iv p2, iv p3, iv p4, iv 1, iv 1, iv l1, iv l2, rv b92, rv b93, rv b94, iv 1, .unset] []) := fun t k => K t (st101.trans k)
      replace K : OGo p e below A0 T101 (mkF m 97 #[iv p1, iv p2, iv p3, iv p4, iv 1, iv 1, iv l1, iv l2, rv b92, rv b93, rv b94, iv 1, .unset] [(.ref b94)]) := fun t k => K t (XS.aload X101.here hx rfl (hb hby at_95) rfl rfl k)
      replace K : OGo p e below A0 T101 (mkF m 98 #[iv p1, iv p2, iv p3, iv p4, iv 1, iv 1, iv l1, iv l2, rv b92, rv b93, rv b94, iv 1, .unset] [(.int 4), (.ref b94)]) := fun t k => K t (XS.iconst X101.here hx rfl (hb hby at_97) k)
      replace K : OGo p e below A0 T101 (mkF m 99 #[iv p1, iv p2, iv p3, iv p4, iv 1, iv 1, iv l1, iv l2, rv b92, rv b93, rv b94, iv 1, .unset] [(.int 5), (.int 4), (.ref b94)]) := fun t k => K t (XS.iconst X101.here hx rfl (hb hby at_98) k)
      replace K : OGo p e below A0 T101 (mkF m 101 #[iv p1, iv p2, iv p3, iv p4, iv 1, iv 1, iv l1, iv l2, rv b92, rv b93, rv b94, iv 1, .unset] [(.int 6), (.int 5), (.int 4), (.ref b94)]) := fun t k => K t (XS.bipush X101.here hx rfl (hb hby at_99) k)
      replace K : OGo p e below A0 T101 (mkF m 102 #[iv p1, iv p2, iv p3, iv p4, iv 1, iv 1, iv l1, iv l2, rv b92, rv b93, rv b94, iv 1, .unset] [(.int 1), (.int 6), (.int 5), (.int 4), (.ref b94)]) := fun t k => K t (XS.iconst X101.here hx rfl (hb hby at_101) k)
      replace K : OGo p e below A0 T101 (mkF m 104 #[iv p1, iv p2, iv p3, iv p4, iv 1, iv 1, iv l1, iv l2, rv b92, rv b93, rv b94, iv 1, .unset] [(.ref b93), (.int 1), (.int 6), (.int 5), (.int 4), (.ref b94)]) := fun t k => K t (XS.aload X101.here hx rfl (hb hby at_102) rfl rfl k)
      replace K : OGo p e below A0 T101 (mkF m 105 #[iv p1, iv p2, iv p3, iv p4, iv 1, iv 1, iv l1, iv l2, rv b92, rv b93, rv b94, iv 1, .unset] [.null, (.ref b93), (.int 1), (.int 6), (.int 5), (.int 4), (.ref b94)]) := fun t k => K t (XS.aconstNull X101.here hx rfl (hb hby at_104) k)
      replace K : OGo p e below A0 T101 (mkF m 108 #[iv p1, iv p2, iv p3, iv p4, iv 1, iv 1, iv l1, iv l2, rv b92, rv b93, rv b94, iv 1, .unset] [(.long 7), .null, (.ref b93), (.int 1), (.int 6), (.int 5), (.int 4), (.ref b94)]) := fun t k => K t (X101.ldc2Long hx hown (mvT hZ (ow hw 61 rfl)) (g := (mkF m 105 #[iv p1, iv p2, iv p3, iv p4, iv 1, iv 1, iv l1, iv l2, rv b92, rv b93, rv b94, iv 1, .unset] [.null, (.ref b93), (.int 1), (.int 6), (.int 5), (.int 4), (.ref b94)])) rfl (hb hby at_105) t k)
      replace K : OGo p e below A0 T101 (mkF m 109 #[iv p1, iv p2, iv p3, iv p4, iv 1, iv 1, iv l1, iv l2, rv b92, rv b93, rv b94, iv 1, .unset] [.null, (.long 7), .null, (.ref b93), (.int 1), (.int 6), (.int 5), (.int 4), (.ref b94)]) := fun t k => K t (XS.aconstNull X101.here hx rfl (hb hby at_108) k)
      have V_b93_113 := ((((V_b93.ext E94).keep K96 (ninS ne_b93_b94 nin0)).keep K99 (ninS ne_b93_b94 (ninS ne_b93_fr_96 (ninS ne_b93_tg_96 (ninS ne_b93_sd_96 nin0))))).keep K101 (ninS ne_b93_b94 (ninS ne_b93_ac_96 (ninS ne_b93_ix_96 (ninS ne_b93_bn_96 (ninS ne_b93_ch_96 (ninS ne_b93_ky_96 (ninS ne_b93_mv_96 (ninS ne_b93_tr_96 (ninS ne_b93_fr_96 nin0))))))))))
      have Q93_114 := (((Q93_98.keep K96).keep K99).keep K101)
      have nd115 : OND [b94, ac_96, ix_96, bn_96, ch_96, ky_96, mv_96, tr_96, fr_96, tg_96, sd_96, b93] := (ondS (allS ne_b94_ac_96 (allS ne_b94_ix_96 (allS ne_b94_bn_96 (allS ne_b94_ch_96 (allS ne_b94_ky_96 (allS ne_b94_mv_96 (allS ne_b94_tr_96 (allS ne_b94_fr_96 (allS ne_b94_tg_96 (allS ne_b94_sd_96 (allS (Ne.symm ne_b93_b94) all0))))))))))) (ondS (allS (own_pw P96_10 0 1 (by decide) rfl rfl) (allS (own_pw P96_10 0 2 (by decide) rfl rfl) (allS (own_pw P96_10 0 3 (by decide) rfl rfl) (allS (own_pw P96_10 0 4 (by decide) rfl rfl) (allS (own_pw P96_10 0 5 (by decide) rfl rfl) (allS (own_pw P96_10 0 6 (by decide) rfl rfl) (allS (own_pw P96_10 0 7 (by decide) rfl rfl) (allS (own_pw P96_10 0 8 (by decide) rfl rfl) (allS (own_pw P96_10 0 9 (by decide) rfl rfl) (allS (Ne.symm ne_b93_ac_96) all0)))))))))) (ondS (allS (own_pw P96_10 1 2 (by decide) rfl rfl) (allS (own_pw P96_10 1 3 (by decide) rfl rfl) (allS (own_pw P96_10 1 4 (by decide) rfl rfl) (allS (own_pw P96_10 1 5 (by decide) rfl rfl) (allS (own_pw P96_10 1 6 (by decide) rfl rfl) (allS (own_pw P96_10 1 7 (by decide) rfl rfl) (allS (own_pw P96_10 1 8 (by decide) rfl rfl) (allS (own_pw P96_10 1 9 (by decide) rfl rfl) (allS (Ne.symm ne_b93_ix_96) all0))))))))) (ondS (allS (own_pw P96_10 2 3 (by decide) rfl rfl) (allS (own_pw P96_10 2 4 (by decide) rfl rfl) (allS (own_pw P96_10 2 5 (by decide) rfl rfl) (allS (own_pw P96_10 2 6 (by decide) rfl rfl) (allS (own_pw P96_10 2 7 (by decide) rfl rfl) (allS (own_pw P96_10 2 8 (by decide) rfl rfl) (allS (own_pw P96_10 2 9 (by decide) rfl rfl) (allS (Ne.symm ne_b93_bn_96) all0)))))))) (ondS (allS (own_pw P96_10 3 4 (by decide) rfl rfl) (allS (own_pw P96_10 3 5 (by decide) rfl rfl) (allS (own_pw P96_10 3 6 (by decide) rfl rfl) (allS (own_pw P96_10 3 7 (by decide) rfl rfl) (allS (own_pw P96_10 3 8 (by decide) rfl rfl) (allS (own_pw P96_10 3 9 (by decide) rfl rfl) (allS (Ne.symm ne_b93_ch_96) all0))))))) (ondS (allS (own_pw P96_10 4 5 (by decide) rfl rfl) (allS (own_pw P96_10 4 6 (by decide) rfl rfl) (allS (own_pw P96_10 4 7 (by decide) rfl rfl) (allS (own_pw P96_10 4 8 (by decide) rfl rfl) (allS (own_pw P96_10 4 9 (by decide) rfl rfl) (allS (Ne.symm ne_b93_ky_96) all0)))))) (ondS (allS (own_pw P96_10 5 6 (by decide) rfl rfl) (allS (own_pw P96_10 5 7 (by decide) rfl rfl) (allS (own_pw P96_10 5 8 (by decide) rfl rfl) (allS (own_pw P96_10 5 9 (by decide) rfl rfl) (allS (Ne.symm ne_b93_mv_96) all0))))) (ondS (allS (own_pw P96_10 6 7 (by decide) rfl rfl) (allS (own_pw P96_10 6 8 (by decide) rfl rfl) (allS (own_pw P96_10 6 9 (by decide) rfl rfl) (allS (Ne.symm ne_b93_tr_96) all0)))) (ondS (allS (own_pw P96_10 7 8 (by decide) rfl rfl) (allS (own_pw P96_10 7 9 (by decide) rfl rfl) (allS (Ne.symm ne_b93_fr_96) all0))) (ondS (allS (own_pw P96_10 8 9 (by decide) rfl rfl) (allS (Ne.symm ne_b93_tg_96) all0)) (ondS (allS (Ne.symm ne_b93_sd_96) all0) (ondS all0 ond0))))))))))))
      obtain ⟨cq112, kq112, qv112a, qv112b, qv112c⟩ := isOf hZ e101 P101_0
      obtain ⟨_, _, ⟨T112, L112, k112, n112⟩, -, X112, ⟨Lc112, hQ112, l112, y112, z112⟩, st112⟩ := X101.virtualBack hx (y := mN3) (z := mN3) hown (mvT hZ (ow hw 53 rfl)) (mvT hZ (ow hw 54 rfl)) (notFace_of_selects (args := #[]) (mvT hZ (ow hw 56 rfl))) (mvT hZ (ow hw 56 rfl)) (mvT hZ (ow hw 55 rfl)) (by decide) (backOf (W := 0) (rm_add2 l Z a0 hw [] b94 (4 : Int32) (5 : Int32) (6 : Int32) (1 : Int32) b93 (7 : Int64) ac_96 ix_96 bn_96 ch_96 ky_96 mv_96 tr_96 fr_96 tg_96 sd_96 k_ac_96 k_ix_96 k_bn_96 k_ch_96 k_ky_96 k_mv_96 k_tr_96 k_fr_96 (.int (0 : Int32)) (.int (1 : Int32)) (.int (0 : Int32)) (.int (0 : Int32)) (.int (2 : Int32)) (.int (0 : Int32)) (.int (0 : Int32)) (.int (3 : Int32)) (.int (0 : Int32)) (.int (0 : Int32)) (.int (nar .boolean (0 : Int32))) (.int (0 : Int32)) .null (.ref b92) .null .null .null .null .null .null .null (.long (0 : Int64)) (.long (5 : Int64)) (.long (0 : Int64)) (List.replicate l2.toNatClampNeg (.int (0 : Int32))) k93 l2 (1 : Int32) ((0 : Int64) + ((l1 + (1 : Int32)).toInt64)) hp101 n0 Z101 P101_0 P101_1 P101_2 P101_3 P101_4 P101_5 P101_6 P101_7 P101_8 P101_9 P101_10 P101_11 P101_12 P101_13 P101_14 P101_15 P101_16 P101_17 P101_18 P101_19 P101_20 P101_21 V_b93_113 Q93_114 (own_rl hl2 _) P96_11 g_b94 g_ac_96 g_ix_96 g_bn_96 g_ch_96 g_ky_96 g_mv_96 g_tr_96 g_fr_96 nd115) hZ (ow hw 57 rfl) (ow hw 3 rfl) (by decide) (by decide)) qv112a qv112c (g := (mkF m 109 #[iv p1, iv p2, iv p3, iv p4, iv 1, iv 1, iv l1, iv l2, rv b92, rv b93, rv b94, iv 1, .unset] [.null, (.long 7), .null, (.ref b93), (.int 1), (.int 6), (.int 5), (.int 4), (.ref b94)])) rfl (by rw [hml]; rfl) (Steps.refl _) (argsL := [(.int (4 : Int32)), (.int (5 : Int32)), (.int (6 : Int32)), (.int (1 : Int32)), (.ref b93), .null, (.long (7 : Int64)), .null]) (rest := []) (lenOf pd__IIIZ_BLcom_example_flote_flote_search_Search_Moves_JLcom_example_flote_flote_search_Search_Branches__V rfl) rfl (by show 2 * 0 + _ ≤ _; exact Nat.le_of_eq rfl) (hb hby at_109) (fun _ _ => ⟨rfl, e101, (by decide : 13 + 0 ≤ _), (by decide : 203 + 0 ≤ _)⟩)
      dsimp only [Pt.U, Pt.locs, Pt.cells, Pt.slots] at X112 l112 y112 z112 st112 hQ112
      subst l112 y112 z112
      obtain ⟨hp112, e112⟩ : ∃ z, T112.heap = z := ⟨_, rfl⟩
      rw [e112] at hQ112
      obtain ⟨rfl, Nq112, K112, P112_0, P112_1, P112_2, P112_3, P112_4, P112_5, P112_6, P112_7, P112_8, P112_9, P112_10, P112_11, P112_12, P112_13, P112_14, P112_15, P112_16, P112_17, P112_18, P112_19, P112_20, P112_21⟩ := hQ112
      have Z112 : n0 ≤ hp112.size := Nat.le_trans Z101 K112.1
      have N112 := Fr.app N101 Nq112
      replace K : OGo p e below A0 T112 (mkF m 112 #[iv p1, iv p2, iv p3, iv p4, iv 1, iv 1, iv l1, iv l2, rv b92, rv b93, rv b94, iv 1, .unset] []) := fun t k => K t (st112.trans k)
      replace K : OGo p e below A0 T112 (mkF m 114 #[iv p1, iv p2, iv p3, iv p4, iv 1, iv 1, iv l1, iv l2, rv b92, rv b93, rv b94, iv 1, .unset] [(.ref b94)]) := fun t k => K t (XS.aload X112.here hx rfl (hb hby at_112) rfl rfl k)
      replace K : OGo p e below A0 T112 (mkF m 115 #[iv p1, iv p2, iv p3, iv p4, iv 1, iv 1, iv l1, iv l2, rv b92, rv b93, rv b94, iv 1, .unset] [(.int p1), (.ref b94)]) := fun t k => K t (XS.iloadN X112.here hx rfl (hb hby at_114) rfl k)
      replace K : OGo p e below A0 T112 (mkF m 117 #[iv p1, iv p2, iv p3, iv p4, iv 1, iv 1, iv l1, iv l2, rv b92, rv b93, rv b94, iv 1, .unset] [(.int 1), (.int p1), (.ref b94)]) := fun t k => K t (XS.iload X112.here hx rfl (hb hby at_115) rfl k)
      have V_tg_96_117 := ((P99_15.keep K101 (ninS (Ne.symm ne_b94_tg_96) (ninS (Ne.symm (own_pw P96_10 0 8 (by decide) rfl rfl)) (ninS (Ne.symm (own_pw P96_10 1 8 (by decide) rfl rfl)) (ninS (Ne.symm (own_pw P96_10 2 8 (by decide) rfl rfl)) (ninS (Ne.symm (own_pw P96_10 3 8 (by decide) rfl rfl)) (ninS (Ne.symm (own_pw P96_10 4 8 (by decide) rfl rfl)) (ninS (Ne.symm (own_pw P96_10 5 8 (by decide) rfl rfl)) (ninS (Ne.symm (own_pw P96_10 6 8 (by decide) rfl rfl)) (ninS (Ne.symm (own_pw P96_10 7 8 (by decide) rfl rfl)) nin0)))))))))).keep K112 (ninS (Ne.symm ne_b94_tg_96) (ninS (Ne.symm (own_pw P96_10 0 8 (by decide) rfl rfl)) (ninS (Ne.symm (own_pw P96_10 1 8 (by decide) rfl rfl)) (ninS (Ne.symm (own_pw P96_10 2 8 (by decide) rfl rfl)) (ninS (Ne.symm (own_pw P96_10 3 8 (by decide) rfl rfl)) (ninS (Ne.symm (own_pw P96_10 4 8 (by decide) rfl rfl)) (ninS (Ne.symm (own_pw P96_10 5 8 (by decide) rfl rfl)) (ninS (Ne.symm (own_pw P96_10 6 8 (by decide) rfl rfl)) (ninS (Ne.symm (own_pw P96_10 7 8 (by decide) rfl rfl)) nin0))))))))))
      have V_sd_96_118 := ((P99_16.keep K101 (ninS (Ne.symm ne_b94_sd_96) (ninS (Ne.symm (own_pw P96_10 0 9 (by decide) rfl rfl)) (ninS (Ne.symm (own_pw P96_10 1 9 (by decide) rfl rfl)) (ninS (Ne.symm (own_pw P96_10 2 9 (by decide) rfl rfl)) (ninS (Ne.symm (own_pw P96_10 3 9 (by decide) rfl rfl)) (ninS (Ne.symm (own_pw P96_10 4 9 (by decide) rfl rfl)) (ninS (Ne.symm (own_pw P96_10 5 9 (by decide) rfl rfl)) (ninS (Ne.symm (own_pw P96_10 6 9 (by decide) rfl rfl)) (ninS (Ne.symm (own_pw P96_10 7 9 (by decide) rfl rfl)) nin0)))))))))).keep K112 (ninS (Ne.symm ne_b94_sd_96) (ninS (Ne.symm (own_pw P96_10 0 9 (by decide) rfl rfl)) (ninS (Ne.symm (own_pw P96_10 1 9 (by decide) rfl rfl)) (ninS (Ne.symm (own_pw P96_10 2 9 (by decide) rfl rfl)) (ninS (Ne.symm (own_pw P96_10 3 9 (by decide) rfl rfl)) (ninS (Ne.symm (own_pw P96_10 4 9 (by decide) rfl rfl)) (ninS (Ne.symm (own_pw P96_10 5 9 (by decide) rfl rfl)) (ninS (Ne.symm (own_pw P96_10 6 9 (by decide) rfl rfl)) (ninS (Ne.symm (own_pw P96_10 7 9 (by decide) rfl rfl)) nin0))))))))))
      have V_b92_119 := ((V_b92_109.keep K101 (ninS ne_b92_b94 (ninS ne_b92_ac_96 (ninS ne_b92_ix_96 (ninS ne_b92_bn_96 (ninS ne_b92_ch_96 (ninS ne_b92_ky_96 (ninS ne_b92_mv_96 (ninS ne_b92_tr_96 (ninS ne_b92_fr_96 nin0)))))))))).keep K112 (ninS ne_b92_b94 (ninS ne_b92_ac_96 (ninS ne_b92_ix_96 (ninS ne_b92_bn_96 (ninS ne_b92_ch_96 (ninS ne_b92_ky_96 (ninS ne_b92_mv_96 (ninS ne_b92_tr_96 (ninS ne_b92_fr_96 nin0))))))))))
      obtain ⟨cq116, kq116, qv116a, qv116b, qv116c⟩ := isOf hZ e112 P112_0
      obtain ⟨_, _, ⟨T116, L116, k116, n116⟩, -, X116, ⟨Lc116, hQ116, l116, y116, z116⟩, st116⟩ := X112.virtualBack hx (y := mN4) (z := mN4) hown (mvT hZ (ow hw 62 rfl)) (mvT hZ (ow hw 63 rfl)) (notFace_of_selects (args := #[]) (mvT hZ (ow hw 65 rfl))) (mvT hZ (ow hw 65 rfl)) (mvT hZ (ow hw 64 rfl)) (by decide) (backOf (W := 0) (rm_admit11 l Z a0 hw [] b94 p1 ac_96 ix_96 bn_96 ch_96 ky_96 mv_96 tr_96 fr_96 tg_96 sd_96 k_tg_96 k_sd_96 k_ky_96 k_tr_96 (.int p2) (.int (0 : Int32)) (.int (0 : Int32)) (.int (0 : Int32)) (.int (0 : Int32)) (.int (0 : Int32)) .null (.ref b93) .null .null .null b92 (List.replicate l1.toNatClampNeg (.int (0 : Int32))) k92 l1 (3 : Int32) (((0 : Int64) + ((l1 + (1 : Int32)).toInt64)) + ((l2 + (1 : Int32)).toInt64)) hp112 n0 Z112 P112_0 P112_1 P112_2 P112_3 P112_4 P112_5 P112_6 P112_7 P112_8 P112_9 P112_10 P112_11 P112_12 P112_13 V_tg_96_117 V_sd_96_118 P112_20 P112_18 V_b92_119 (own_rl hl1 _) g_b94 g_tg_96 g_sd_96 g_ky_96 g_tr_96 nd111) hZ (ow hw 66 rfl) (ow hw 3 rfl) (by decide) (by decide)) qv116a qv116c (g := (mkF m 117 #[iv p1, iv p2, iv p3, iv p4, iv 1, iv 1, iv l1, iv l2, rv b92, rv b93, rv b94, iv 1, .unset] [(.int 1), (.int p1), (.ref b94)])) rfl (by rw [hml]; rfl) (Steps.refl _) (argsL := [(.int p1), (.int (1 : Int32))]) (rest := []) (lenOf pd__IZ_V rfl) rfl (by show 2 * 0 + _ ≤ _; exact Nat.le_of_eq rfl) (hb hby at_117) (fun _ _ => ⟨rfl, e112, (by decide : 13 + 0 ≤ _), (by decide : 203 + 0 ≤ _)⟩)
      dsimp only [Pt.U, Pt.locs, Pt.cells, Pt.slots] at X116 l116 y116 z116 st116 hQ116
      subst l116 y116 z116
      obtain ⟨hp116, e116⟩ : ∃ z, T116.heap = z := ⟨_, rfl⟩
      rw [e116] at hQ116
      obtain ⟨rfl, Nq116, K116, P116_0, P116_1, P116_2, P116_3, P116_4, P116_5, P116_6, P116_7, P116_8, P116_9, P116_10, P116_11, P116_12, P116_13, P116_14, P116_15, P116_16, P116_17⟩ := hQ116
      have Z116 : n0 ≤ hp116.size := Nat.le_trans Z112 K116.1
      have N116 := Fr.app N112 Nq116
      replace K : OGo p e below A0 T116 (mkF m 120 #[iv p1, iv p2, iv p3, iv p4, iv 1, iv 1, iv l1, iv l2, rv b92, rv b93, rv b94, iv 1, .unset] []) := fun t k => K t (st116.trans k)
      replace K : OGo p e below A0 T116 (mkF m 122 #[iv p1, iv p2, iv p3, iv p4, iv 1, iv 1, iv l1, iv l2, rv b92, rv b93, rv b94, iv 1, .unset] [(.ref b94)]) := fun t k => K t (XS.aload X116.here hx rfl (hb hby at_120) rfl rfl k)
      obtain ⟨cq120, kq120, qv120a, qv120b, qv120c⟩ := isOf hZ e116 P116_0
      obtain ⟨_, _, ⟨T120, L120, k120, n120⟩, -, X120, ⟨Lc120, hQ120, l120, y120, z120⟩, st120⟩ := X116.virtualBack hx (y := mN5) (z := mN5) hown (mvT hZ (ow hw 67 rfl)) (mvT hZ (ow hw 68 rfl)) (notFace_of_selects (args := #[]) (mvT hZ (ow hw 70 rfl))) (mvT hZ (ow hw 70 rfl)) (mvT hZ (ow hw 69 rfl)) (by decide) (backOf (W := 0) (rm_admitted l Z a0 hw [] b94 (2 : Int32) hp116 n0 Z116 P116_12) hZ (ow hw 71 rfl) (ow hw 3 rfl) (by decide) (by decide)) qv120a qv120c (g := (mkF m 122 #[iv p1, iv p2, iv p3, iv p4, iv 1, iv 1, iv l1, iv l2, rv b92, rv b93, rv b94, iv 1, .unset] [(.ref b94)])) rfl (by rw [hml]; rfl) (Steps.refl _) (argsL := []) (rest := []) (lenOf pd___I rfl) rfl (by show 2 * 0 + _ ≤ _; exact Nat.le_of_eq rfl) (hb hby at_122) (fun _ _ => ⟨rfl, e116, (by decide : 13 + 0 ≤ _), (by decide : 203 + 0 ≤ _)⟩)
      dsimp only [Pt.U, Pt.locs, Pt.cells, Pt.slots] at X120 l120 y120 z120 st120 hQ120
      subst l120 y120 z120
      obtain ⟨rfl, Nq120, e120⟩ := hQ120
      have N120 := Fr.app N116 Nq120
      replace K : OGo p e below A0 T120 (mkF m 125 #[iv p1, iv p2, iv p3, iv p4, iv 1, iv 1, iv l1, iv l2, rv b92, rv b93, rv b94, iv 1, .unset] [(.int 2)]) := fun t k => K t (st120.trans k)
      replace K : OGo p e below A0 T120 (mkF m 127 #[iv p1, iv p2, iv p3, iv p4, iv 1, iv 1, iv l1, iv l2, rv b92, rv b93, rv b94, iv 1, .unset] [(.int 1), (.int 2)]) := fun t k => K t (XS.iload X120.here hx rfl (hb hby at_125) rfl k)
      replace K : OGo p e below A0 T120 (mkF m 128 #[iv p1, iv p2, iv p3, iv p4, iv 1, iv 1, iv l1, iv l2, rv b92, rv b93, rv b94, iv 1, .unset] [(.int 1), (.int 1), (.int 2)]) := fun t k => K t (XS.iconst X120.here hx rfl (hb hby at_127) k)
      replace K : OGo p e below A0 T120 (mkF m 129 #[iv p1, iv p2, iv p3, iv p4, iv 1, iv 1, iv l1, iv l2, rv b92, rv b93, rv b94, iv 1, .unset] [(.int 2), (.int 2)]) := fun t k => K t (XS.iadd X120.here hx rfl (hb hby at_128) rfl k)
      replace K : OGo p e below A0 T120 (mkF m 132 #[iv p1, iv p2, iv p3, iv p4, iv 1, iv 1, iv l1, iv l2, rv b92, rv b93, rv b94, iv 1, .unset] []) := fun t k => K t (XS.icmpNo X120.here hx rfl (hb hby at_129) rfl (teq ((by decide : (2 : Int32) = (2 : Int32)) : (2 : Int32) = (2 : Int32))).2 k)
      replace K : OGo p e below A0 T120 (mkF m 134 #[iv p1, iv p2, iv p3, iv p4, iv 1, iv 1, iv l1, iv l2, rv b92, rv b93, rv b94, iv 1, .unset] [(.ref b94)]) := fun t k => K t (XS.aload X120.here hx rfl (hb hby at_132) rfl rfl k)
      replace K : OGo p e below A0 T120 (mkF m 136 #[iv p1, iv p2, iv p3, iv p4, iv 1, iv 1, iv l1, iv l2, rv b92, rv b93, rv b94, iv 1, .unset] [(.int 1), (.ref b94)]) := fun t k => K t (XS.iload X120.here hx rfl (hb hby at_134) rfl k)
      obtain ⟨cq121, kq121, qv121a, qv121b, qv121c⟩ := isOf hZ e120 P116_0
      obtain ⟨_, _, ⟨T121, L121, k121, n121⟩, -, X121, ⟨Lc121, hQ121, l121, y121, z121⟩, st121⟩ := X120.virtualBack hx (y := mN7) (z := mN7) hown (mvT hZ (ow hw 72 rfl)) (mvT hZ (ow hw 73 rfl)) (notFace_of_selects (args := #[]) (mvT hZ (ow hw 75 rfl))) (mvT hZ (ow hw 75 rfl)) (mvT hZ (ow hw 74 rfl)) (by decide) (backOf (W := 0) (rm_target l Z a0 hw [] b94 (1 : Int32) tg_96 k_tg_96 [(.int p2), (.int p1), (.int (0 : Int32)), (.int (0 : Int32)), (.int (0 : Int32)), (.int (0 : Int32)), (.int (0 : Int32)), (.int (0 : Int32)), (.int (0 : Int32)), (.int (0 : Int32)), (.int (0 : Int32)), (.int (0 : Int32)), (.int (0 : Int32)), (.int (0 : Int32)), (.int (0 : Int32)), (.int (0 : Int32))] p1 hp116 n0 Z116 P116_9 P116_14 (by decide) rfl) hZ (ow hw 76 rfl) (ow hw 3 rfl) (by decide) (by decide)) qv121a qv121c (g := (mkF m 136 #[iv p1, iv p2, iv p3, iv p4, iv 1, iv 1, iv l1, iv l2, rv b92, rv b93, rv b94, iv 1, .unset] [(.int 1), (.ref b94)])) rfl (by rw [hml]; rfl) (Steps.refl _) (argsL := [(.int (1 : Int32))]) (rest := []) (lenOf pd__I_I rfl) rfl (by show 2 * 0 + _ ≤ _; exact Nat.le_of_eq rfl) (hb hby at_136) (fun _ _ => ⟨rfl, e120, (by decide : 13 + 0 ≤ _), (by decide : 203 + 0 ≤ _)⟩)
      dsimp only [Pt.U, Pt.locs, Pt.cells, Pt.slots] at X121 l121 y121 z121 st121 hQ121
      subst l121 y121 z121
      obtain ⟨rfl, Nq121, e121⟩ := hQ121
      have N121 := Fr.app N120 Nq121
      replace K : OGo p e below A0 T121 (mkF m 139 #[iv p1, iv p2, iv p3, iv p4, iv 1, iv 1, iv l1, iv l2, rv b92, rv b93, rv b94, iv 1, .unset] [(.int p1)]) := fun t k => K t (st121.trans k)
      replace K : OGo p e below A0 T121 (mkF m 140 #[iv p1, iv p2, iv p3, iv p4, iv 1, iv 1, iv l1, iv l2, rv b92, rv b93, rv b94, iv 1, .unset] [(.int p1), (.int p1)]) := fun t k => K t (XS.iloadN X121.here hx rfl (hb hby at_139) rfl k)
      replace K : OGo p e below A0 T121 (mkF m 143 #[iv p1, iv p2, iv p3, iv p4, iv 1, iv 1, iv l1, iv l2, rv b92, rv b93, rv b94, iv 1, .unset] []) := fun t k => K t (XS.icmpNo X121.here hx rfl (hb hby at_140) rfl (teq ((rfl : p1 = p1) : p1 = p1)).2 k)
      replace K : OGo p e below A0 T121 (mkF m 145 #[iv p1, iv p2, iv p3, iv p4, iv 1, iv 1, iv l1, iv l2, rv b92, rv b93, rv b94, iv 1, .unset] [(.ref b94)]) := fun t k => K t (XS.aload X121.here hx rfl (hb hby at_143) rfl rfl k)
      replace K : OGo p e below A0 T121 (mkF m 147 #[iv p1, iv p2, iv p3, iv p4, iv 1, iv 1, iv l1, iv l2, rv b92, rv b93, rv b94, iv 1, .unset] [(.int 1), (.ref b94)]) := fun t k => K t (XS.iload X121.here hx rfl (hb hby at_145) rfl k)
      obtain ⟨cq122, kq122, qv122a, qv122b, qv122c⟩ := isOf hZ e121 P116_0
      obtain ⟨_, _, ⟨T122, L122, k122, n122⟩, -, X122, ⟨Lc122, hQ122, l122, y122, z122⟩, st122⟩ := X121.virtualBack hx (y := mN9) (z := mN9) hown (mvT hZ (ow hw 77 rfl)) (mvT hZ (ow hw 78 rfl)) (notFace_of_selects (args := #[]) (mvT hZ (ow hw 80 rfl))) (mvT hZ (ow hw 80 rfl)) (mvT hZ (ow hw 79 rfl)) (by decide) (backOf (W := 0) (rm_stores l Z a0 hw [] b94 (1 : Int32) sd_96 k_sd_96 [(.int (0 : Int32)), (.int (1 : Int32)), (.int (0 : Int32)), (.int (0 : Int32)), (.int (0 : Int32)), (.int (0 : Int32)), (.int (0 : Int32)), (.int (0 : Int32)), (.int (0 : Int32)), (.int (0 : Int32)), (.int (0 : Int32)), (.int (0 : Int32)), (.int (0 : Int32)), (.int (0 : Int32)), (.int (0 : Int32)), (.int (0 : Int32))] (1 : Int32) hp116 n0 Z116 P116_10 P116_15 (by decide) rfl rfl) hZ (ow hw 81 rfl) (ow hw 3 rfl) (by decide) (by decide)) qv122a qv122c (g := (mkF m 147 #[iv p1, iv p2, iv p3, iv p4, iv 1, iv 1, iv l1, iv l2, rv b92, rv b93, rv b94, iv 1, .unset] [(.int 1), (.ref b94)])) rfl (by rw [hml]; rfl) (Steps.refl _) (argsL := [(.int (1 : Int32))]) (rest := []) (lenOf pd__I_Z rfl) rfl (by show 2 * 0 + _ ≤ _; exact Nat.le_of_eq rfl) (hb hby at_147) (fun _ _ => ⟨rfl, e121, (by decide : 13 + 0 ≤ _), (by decide : 203 + 0 ≤ _)⟩)
      dsimp only [Pt.U, Pt.locs, Pt.cells, Pt.slots] at X122 l122 y122 z122 st122 hQ122
      subst l122 y122 z122
      obtain ⟨rfl, Nq122, e122⟩ := hQ122
      have N122 := Fr.app N121 Nq122
      replace K : OGo p e below A0 T122 (mkF m 150 #[iv p1, iv p2, iv p3, iv p4, iv 1, iv 1, iv l1, iv l2, rv b92, rv b93, rv b94, iv 1, .unset] [(.int 1)]) := fun t k => K t (st122.trans k)
      replace K : OGo p e below A0 T122 (mkF m 152 #[iv p1, iv p2, iv p3, iv p4, iv 1, iv 1, iv l1, iv l2, rv b92, rv b93, rv b94, iv 1, .unset] [(.int 1), (.int 1)]) := fun t k => K t (XS.iload X122.here hx rfl (hb hby at_150) rfl k)
      replace K : OGo p e below A0 T122 (mkF m 155 #[iv p1, iv p2, iv p3, iv p4, iv 1, iv 1, iv l1, iv l2, rv b92, rv b93, rv b94, iv 1, .unset] []) := fun t k => K t (XS.icmpNo X122.here hx rfl (hb hby at_152) rfl (teq ((by decide : (1 : Int32) = (1 : Int32)) : (1 : Int32) = (1 : Int32))).2 k)
      replace K : OGo p e below A0 T122 (mkF m 157 #[iv p1, iv p2, iv p3, iv p4, iv 1, iv 1, iv l1, iv l2, rv b92, rv b93, rv b94, iv 1, .unset] [(.ref b94)]) := fun t k => K t (XS.aload X122.here hx rfl (hb hby at_155) rfl rfl k)
      replace K : OGo p e below A0 T122 (mkF m 159 #[iv p1, iv p2, iv p3, iv p4, iv 1, iv 1, iv l1, iv l2, rv b92, rv b93, rv b94, iv 1, .unset] [(.int 1), (.ref b94)]) := fun t k => K t (XS.iload X122.here hx rfl (hb hby at_157) rfl k)
      obtain ⟨cq123, kq123, qv123a, qv123b, qv123c⟩ := isOf hZ e122 P116_0
      obtain ⟨_, _, ⟨T123, L123, k123, n123⟩, -, X123, ⟨Lc123, hQ123, l123, y123, z123⟩, st123⟩ := X122.virtualBack hx (y := mN10) (z := mN10) hown (mvT hZ (ow hw 82 rfl)) (mvT hZ (ow hw 83 rfl)) (notFace_of_selects (args := #[]) (mvT hZ (ow hw 85 rfl))) (mvT hZ (ow hw 85 rfl)) (mvT hZ (ow hw 84 rfl)) (by decide) (backOf (W := 0) (rm_keyN l Z a0 hw [] b94 (1 : Int32) ky_96 k_ky_96 [.null, .null, (.ref b93), .null, .null, .null, .null, .null, .null, .null, .null, .null, .null, .null, .null, .null] hp116 n0 Z116 P116_5 P116_16 (by decide) rfl) hZ (ow hw 86 rfl) (ow hw 3 rfl) (by decide) (by decide)) qv123a qv123c (g := (mkF m 159 #[iv p1, iv p2, iv p3, iv p4, iv 1, iv 1, iv l1, iv l2, rv b92, rv b93, rv b94, iv 1, .unset] [(.int 1), (.ref b94)])) rfl (by rw [hml]; rfl) (Steps.refl _) (argsL := [(.int (1 : Int32))]) (rest := []) (lenOf pd__I__B rfl) rfl (by show 2 * 0 + _ ≤ _; exact Nat.le_of_eq rfl) (hb hby at_159) (fun _ _ => ⟨rfl, e122, (by decide : 13 + 0 ≤ _), (by decide : 203 + 0 ≤ _)⟩)
      dsimp only [Pt.U, Pt.locs, Pt.cells, Pt.slots] at X123 l123 y123 z123 st123 hQ123
      subst l123 y123 z123
      obtain ⟨rfl, Nq123, e123⟩ := hQ123
      have N123 := Fr.app N122 Nq123
      replace K : OGo p e below A0 T123 (mkF m 162 #[iv p1, iv p2, iv p3, iv p4, iv 1, iv 1, iv l1, iv l2, rv b92, rv b93, rv b94, iv 1, .unset] [.null]) := fun t k => K t (st123.trans k)
      replace K : OGo p e below A0 T123 (mkF m 165 #[iv p1, iv p2, iv p3, iv p4, iv 1, iv 1, iv l1, iv l2, rv b92, rv b93, rv b94, iv 1, .unset] []) := fun t k => K t (XS.ifnonnullNo X123.here hx rfl (hb hby at_162) rfl k)
      replace K : OGo p e below A0 T123 (mkF m 167 #[iv p1, iv p2, iv p3, iv p4, iv 1, iv 1, iv l1, iv l2, rv b92, rv b93, rv b94, iv 1, .unset] [(.ref b94)]) := fun t k => K t (XS.aload X123.here hx rfl (hb hby at_165) rfl rfl k)
      replace K : OGo p e below A0 T123 (mkF m 169 #[iv p1, iv p2, iv p3, iv p4, iv 1, iv 1, iv l1, iv l2, rv b92, rv b93, rv b94, iv 1, .unset] [(.int 1), (.ref b94)]) := fun t k => K t (XS.iload X123.here hx rfl (hb hby at_167) rfl k)
      replace K : OGo p e below A0 T123 (mkF m 170 #[iv p1, iv p2, iv p3, iv p4, iv 1, iv 1, iv l1, iv l2, rv b92, rv b93, rv b94, iv 1, .unset] [(.int 1), (.int 1), (.ref b94)]) := fun t k => K t (XS.iconst X123.here hx rfl (hb hby at_169) k)
      replace K : OGo p e below A0 T123 (mkF m 171 #[iv p1, iv p2, iv p3, iv p4, iv 1, iv 1, iv l1, iv l2, rv b92, rv b93, rv b94, iv 1, .unset] [(.int 2), (.ref b94)]) := fun t k => K t (XS.iadd X123.here hx rfl (hb hby at_170) rfl k)
      obtain ⟨cq124, kq124, qv124a, qv124b, qv124c⟩ := isOf hZ e123 P116_0
      obtain ⟨_, _, ⟨T124, L124, k124, n124⟩, -, X124, ⟨Lc124, hQ124, l124, y124, z124⟩, st124⟩ := X123.virtualBack hx (y := mN10) (z := mN10) hown (mvT hZ (ow hw 82 rfl)) (mvT hZ (ow hw 83 rfl)) (notFace_of_selects (args := #[]) (mvT hZ (ow hw 85 rfl))) (mvT hZ (ow hw 85 rfl)) (mvT hZ (ow hw 84 rfl)) (by decide) (backOf (W := 0) (rm_keyR l Z a0 hw [] b94 (2 : Int32) ky_96 k_ky_96 [.null, .null, (.ref b93), .null, .null, .null, .null, .null, .null, .null, .null, .null, .null, .null, .null, .null] b93 hp116 n0 Z116 P116_5 P116_16 (by decide) rfl) hZ (ow hw 86 rfl) (ow hw 3 rfl) (by decide) (by decide)) qv124a qv124c (g := (mkF m 171 #[iv p1, iv p2, iv p3, iv p4, iv 1, iv 1, iv l1, iv l2, rv b92, rv b93, rv b94, iv 1, .unset] [(.int 2), (.ref b94)])) rfl (by rw [hml]; rfl) (Steps.refl _) (argsL := [(.int (2 : Int32))]) (rest := []) (lenOf pd__I__B rfl) rfl (by show 2 * 0 + _ ≤ _; exact Nat.le_of_eq rfl) (hb hby at_171) (fun _ _ => ⟨rfl, e123, (by decide : 13 + 0 ≤ _), (by decide : 203 + 0 ≤ _)⟩)
      dsimp only [Pt.U, Pt.locs, Pt.cells, Pt.slots] at X124 l124 y124 z124 st124 hQ124
      subst l124 y124 z124
      obtain ⟨rfl, Nq124, e124⟩ := hQ124
      have N124 := Fr.app N123 Nq124
      replace K : OGo p e below A0 T124 (mkF m 174 #[iv p1, iv p2, iv p3, iv p4, iv 1, iv 1, iv l1, iv l2, rv b92, rv b93, rv b94, iv 1, .unset] [(.ref b93)]) := fun t k => K t (st124.trans k)
      replace K : OGo p e below A0 T124 (mkF m 176 #[iv p1, iv p2, iv p3, iv p4, iv 1, iv 1, iv l1, iv l2, rv b92, rv b93, rv b94, iv 1, .unset] [(.ref b93), (.ref b93)]) := fun t k => K t (XS.aload X124.here hx rfl (hb hby at_174) rfl rfl k)
      replace K : OGo p e below A0 T124 (mkF m 179 #[iv p1, iv p2, iv p3, iv p4, iv 1, iv 1, iv l1, iv l2, rv b92, rv b93, rv b94, iv 1, .unset] []) := fun t k => K t (Jvm.RoadKit.acmp (g := (mkF m 176 #[iv p1, iv p2, iv p3, iv p4, iv 1, iv 1, iv l1, iv l2, rv b92, rv b93, rv b94, iv 1, .unset] [(.ref b93), (.ref b93)])) X124 hx rfl rfl rfl (pc0 := 176) (pc' := 179) (same := true) rfl (hb hby at_176) rfl (decide_eq_true rfl) (by decide) (by decide) k)
      replace K : OGo p e below A0 T124 (mkF m 181 #[iv p1, iv p2, iv p3, iv p4, iv 1, iv 1, iv l1, iv l2, rv b92, rv b93, rv b94, iv 1, .unset] [(.ref b94)]) := fun t k => K t (XS.aload X124.here hx rfl (hb hby at_179) rfl rfl k)
      obtain ⟨cq125, kq125, qv125a, qv125b, qv125c⟩ := isOf hZ e124 P116_0
      obtain ⟨_, _, ⟨T125, L125, k125, n125⟩, -, X125, ⟨Lc125, hQ125, l125, y125, z125⟩, st125⟩ := X124.virtualBack hx (y := mN6) (z := mN6) hown (mvT hZ (ow hw 87 rfl)) (mvT hZ (ow hw 88 rfl)) (notFace_of_selects (args := #[]) (mvT hZ (ow hw 90 rfl))) (mvT hZ (ow hw 90 rfl)) (mvT hZ (ow hw 89 rfl)) (by decide) (backOf (W := 0) (rm_waiting l Z a0 hw [] b94 ((((0 : Int64) + ((l1 + (1 : Int32)).toInt64)) + ((l2 + (1 : Int32)).toInt64)) - ((l1 + (1 : Int32)).toInt64)) hp116 n0 Z116 P116_13) hZ (ow hw 91 rfl) (ow hw 3 rfl) (by decide) (by decide)) qv125a qv125c (g := (mkF m 181 #[iv p1, iv p2, iv p3, iv p4, iv 1, iv 1, iv l1, iv l2, rv b92, rv b93, rv b94, iv 1, .unset] [(.ref b94)])) rfl (by rw [hml]; rfl) (Steps.refl _) (argsL := []) (rest := []) (lenOf pd___J rfl) rfl (by show 2 * 0 + _ ≤ _; exact Nat.le_of_eq rfl) (hb hby at_181) (fun _ _ => ⟨rfl, e124, (by decide : 13 + 0 ≤ _), (by decide : 203 + 0 ≤ _)⟩)
      dsimp only [Pt.U, Pt.locs, Pt.cells, Pt.slots] at X125 l125 y125 z125 st125 hQ125
      subst l125 y125 z125
      obtain ⟨rfl, Nq125, e125⟩ := hQ125
      have N125 := Fr.app N124 Nq125
      replace K : OGo p e below A0 T125 (mkF m 184 #[iv p1, iv p2, iv p3, iv p4, iv 1, iv 1, iv l1, iv l2, rv b92, rv b93, rv b94, iv 1, .unset] [(.long ((((0 : Int64) + ((l1 + (1 : Int32)).toInt64)) + ((l2 + (1 : Int32)).toInt64)) - ((l1 + (1 : Int32)).toInt64)))]) := fun t k => K t (st125.trans k)
      replace K : OGo p e below A0 T125 (mkF m 186 #[iv p1, iv p2, iv p3, iv p4, iv 1, iv 1, iv l1, iv l2, rv b92, rv b93, rv b94, iv 1, .unset] [(.int l2), (.long ((((0 : Int64) + ((l1 + (1 : Int32)).toInt64)) + ((l2 + (1 : Int32)).toInt64)) - ((l1 + (1 : Int32)).toInt64)))]) := fun t k => K t (XS.iload X125.here hx rfl (hb hby at_184) rfl k)
      replace K : OGo p e below A0 T125 (mkF m 187 #[iv p1, iv p2, iv p3, iv p4, iv 1, iv 1, iv l1, iv l2, rv b92, rv b93, rv b94, iv 1, .unset] [(.int 1), (.int l2), (.long ((((0 : Int64) + ((l1 + (1 : Int32)).toInt64)) + ((l2 + (1 : Int32)).toInt64)) - ((l1 + (1 : Int32)).toInt64)))]) := fun t k => K t (XS.iconst X125.here hx rfl (hb hby at_186) k)
      replace K : OGo p e below A0 T125 (mkF m 188 #[iv p1, iv p2, iv p3, iv p4, iv 1, iv 1, iv l1, iv l2, rv b92, rv b93, rv b94, iv 1, .unset] [(.int (l2 + (1 : Int32))), (.long ((((0 : Int64) + ((l1 + (1 : Int32)).toInt64)) + ((l2 + (1 : Int32)).toInt64)) - ((l1 + (1 : Int32)).toInt64)))]) := fun t k => K t (XS.iadd X125.here hx rfl (hb hby at_187) rfl k)
      replace K : OGo p e below A0 T125 (mkF m 189 #[iv p1, iv p2, iv p3, iv p4, iv 1, iv 1, iv l1, iv l2, rv b92, rv b93, rv b94, iv 1, .unset] [(.long ((l2 + (1 : Int32)).toInt64)), (.long ((((0 : Int64) + ((l1 + (1 : Int32)).toInt64)) + ((l2 + (1 : Int32)).toInt64)) - ((l1 + (1 : Int32)).toInt64)))]) := fun t k => K t (XS.i2l X125.here hx rfl (hb hby at_188) rfl k)
      replace K : OGo p e below A0 T125 (mkF m 190 #[iv p1, iv p2, iv p3, iv p4, iv 1, iv 1, iv l1, iv l2, rv b92, rv b93, rv b94, iv 1, .unset] [(.int (lcmpW ((((0 : Int64) + ((l1 + (1 : Int32)).toInt64)) + ((l2 + (1 : Int32)).toInt64)) - ((l1 + (1 : Int32)).toInt64)) ((l2 + (1 : Int32)).toInt64)))]) := fun t k => K t (XS.lcmp X125.here hx rfl (hb hby at_189) rfl k)
      replace K : OGo p e below A0 T125 (mkF m 193 #[iv p1, iv p2, iv p3, iv p4, iv 1, iv 1, iv l1, iv l2, rv b92, rv b93, rv b94, iv 1, .unset] []) := fun t k => K t (XS.ifNo X125.here hx rfl (hb hby at_190) rfl ((if0 _ _).trans (teq ((lw_eq ((((0 : Int64) + ((l1 + (1 : Int32)).toInt64)) + ((l2 + (1 : Int32)).toInt64)) - ((l1 + (1 : Int32)).toInt64)) ((l2 + (1 : Int32)).toInt64)).mpr ((own_wb _ _) : ((((0 : Int64) + ((l1 + (1 : Int32)).toInt64)) + ((l2 + (1 : Int32)).toInt64)) - ((l1 + (1 : Int32)).toInt64)) = ((l2 + (1 : Int32)).toInt64)))).2) k)
      replace K : OGo p e below A0 T125 (mkF m 195 #[iv p1, iv p2, iv p3, iv p4, iv 1, iv 1, iv l1, iv l2, rv b92, rv b93, rv b94, iv 1, .unset] [(.ref b94)]) := fun t k => K t (XS.aload X125.here hx rfl (hb hby at_193) rfl rfl k)
      replace K : OGo p e below A0 T125 (mkF m 197 #[iv p1, iv p2, iv p3, iv p4, iv 1, iv 1, iv l1, iv l2, rv b92, rv b93, rv b94, iv 1, .unset] [(.int 1), (.ref b94)]) := fun t k => K t (XS.iload X125.here hx rfl (hb hby at_195) rfl k)
      have V_ac_96_127 := (P112_14.keep K116 (ninS (Ne.symm ne_b94_ac_96) (ninS (own_pw P96_10 0 8 (by decide) rfl rfl) (ninS (own_pw P96_10 0 9 (by decide) rfl rfl) (ninS (own_pw P96_10 0 4 (by decide) rfl rfl) (ninS (own_pw P96_10 0 6 (by decide) rfl rfl) nin0))))))
      obtain ⟨cq126, kq126, qv126a, qv126b, qv126c⟩ := isOf hZ e125 P116_0
      obtain ⟨_, _, ⟨T126, L126, k126, n126⟩, -, X126, ⟨Lc126, hQ126, l126, y126, z126⟩, st126⟩ := X125.virtualBack hx (y := mN8) (z := mN8) hown (mvT hZ (ow hw 92 rfl)) (mvT hZ (ow hw 93 rfl)) (notFace_of_selects (args := #[]) (mvT hZ (ow hw 95 rfl))) (mvT hZ (ow hw 95 rfl)) (mvT hZ (ow hw 94 rfl)) (by decide) (backOf (W := 0) (rm_actor l Z a0 hw [] b94 (1 : Int32) ac_96 k_ac_96 [(.int (0 : Int32)), (.int (1 : Int32)), (.int (4 : Int32)), (.int (0 : Int32)), (.int (0 : Int32)), (.int (0 : Int32)), (.int (0 : Int32)), (.int (0 : Int32)), (.int (0 : Int32)), (.int (0 : Int32)), (.int (0 : Int32)), (.int (0 : Int32)), (.int (0 : Int32)), (.int (0 : Int32)), (.int (0 : Int32)), (.int (0 : Int32))] (1 : Int32) hp116 n0 Z116 P116_1 V_ac_96_127 (by decide) rfl) hZ (ow hw 96 rfl) (ow hw 3 rfl) (by decide) (by decide)) qv126a qv126c (g := (mkF m 197 #[iv p1, iv p2, iv p3, iv p4, iv 1, iv 1, iv l1, iv l2, rv b92, rv b93, rv b94, iv 1, .unset] [(.int 1), (.ref b94)])) rfl (by rw [hml]; rfl) (Steps.refl _) (argsL := [(.int (1 : Int32))]) (rest := []) (lenOf pd__I_I rfl) rfl (by show 2 * 0 + _ ≤ _; exact Nat.le_of_eq rfl) (hb hby at_197) (fun _ _ => ⟨rfl, e125, (by decide : 13 + 0 ≤ _), (by decide : 203 + 0 ≤ _)⟩)
      dsimp only [Pt.U, Pt.locs, Pt.cells, Pt.slots] at X126 l126 y126 z126 st126 hQ126
      subst l126 y126 z126
      obtain ⟨rfl, Nq126, e126⟩ := hQ126
      have N126 := Fr.app N125 Nq126
      replace K : OGo p e below A0 T126 (mkF m 200 #[iv p1, iv p2, iv p3, iv p4, iv 1, iv 1, iv l1, iv l2, rv b92, rv b93, rv b94, iv 1, .unset] [(.int 1)]) := fun t k => K t (st126.trans k)
      replace K : OGo p e below A0 T126 (mkF m 201 #[iv p1, iv p2, iv p3, iv p4, iv 1, iv 1, iv l1, iv l2, rv b92, rv b93, rv b94, iv 1, .unset] [(.int 1), (.int 1)]) := fun t k => K t (XS.iconst X126.here hx rfl (hb hby at_200) k)
      replace K : OGo p e below A0 T126 (mkF m 204 #[iv p1, iv p2, iv p3, iv p4, iv 1, iv 1, iv l1, iv l2, rv b92, rv b93, rv b94, iv 1, .unset] []) := fun t k => K t (XS.icmpNo X126.here hx rfl (hb hby at_201) rfl (teq ((by decide : (1 : Int32) = (1 : Int32)) : (1 : Int32) = (1 : Int32))).2 k)
      replace K : OGo p e below A0 T126 (mkF m 205 #[iv p1, iv p2, iv p3, iv p4, iv 1, iv 1, iv l1, iv l2, rv b92, rv b93, rv b94, iv 1, .unset] [(.int 1)]) := fun t k => K t (XS.iconst X126.here hx rfl (hb hby at_204) k)
      replace K : OGo p e below A0 T126 (mkF m 209 #[iv p1, iv p2, iv p3, iv p4, iv 1, iv 1, iv l1, iv l2, rv b92, rv b93, rv b94, iv 1, .unset] [(.int 1)]) := fun t k => K t (XS.goto X126.here hx rfl (pc0 := 205) (pc' := 209) rfl (hb hby at_205) (by decide) (by decide) k)
      replace K : OGo p e below A0 T126 (mkF m 211 #[iv p1, iv p2, iv p3, iv p4, iv 1, iv 1, iv l1, iv l2, rv b92, rv b93, rv b94, iv 1, iv 1] []) := fun t k => K t (XS.istore X126.here hx rfl (hb hby at_209) rfl (l' := #[iv p1, iv p2, iv p3, iv p4, iv 1, iv 1, iv l1, iv l2, rv b92, rv b93, rv b94, iv 1, iv 1]) rfl k)
      replace K : OGo p e below A0 T126 (mkF m 213 #[iv p1, iv p2, iv p3, iv p4, iv 1, iv 1, iv l1, iv l2, rv b92, rv b93, rv b94, iv 1, iv 1] [(.int 1)]) := fun t k => K t (XS.iload X126.here hx rfl (hb hby at_211) rfl k)
      replace K : OGo p e below A0 T126 (mkF m 216 #[iv p1, iv p2, iv p3, iv p4, iv 1, iv 1, iv l1, iv l2, rv b92, rv b93, rv b94, iv 1, iv 1] []) := fun t k => K t (XS.ifNo X126.here hx rfl (hb hby at_213) rfl ((if0 _ _).trans (feq ((by decide : ¬ ((1 : Int32) = (0 : Int32))) : ¬ ((1 : Int32) = (0 : Int32)))).1) k)
      replace K : OGo p e below A0 T126 (mkF m 218 #[iv p1, iv p2, iv p3, iv p4, iv 1, iv 1, iv l1, iv l2, rv b92, rv b93, rv b94, iv 1, iv 1] [(.int 1)]) := fun t k => K t (XS.iload X126.here hx rfl (hb hby at_216) rfl k)
      replace K : OGo p e below A0 T126 (mkF m 221 #[iv p1, iv p2, iv p3, iv p4, iv 1, iv 1, iv l1, iv l2, rv b92, rv b93, rv b94, iv 1, iv 1] []) := fun t k => K t (XS.ifNo X126.here hx rfl (hb hby at_218) rfl ((if0 _ _).trans (feq ((by decide : ¬ ((1 : Int32) = (0 : Int32))) : ¬ ((1 : Int32) = (0 : Int32)))).1) k)
      replace K : OGo p e below A0 T126 (mkF m 223 #[iv p1, iv p2, iv p3, iv p4, iv 1, iv 1, iv l1, iv l2, rv b92, rv b93, rv b94, iv 1, iv 1] [(.ref b94)]) := fun t k => K t (XS.aload X126.here hx rfl (hb hby at_221) rfl rfl k)
      replace K : OGo p e below A0 T126 (mkF m 224 #[iv p1, iv p2, iv p3, iv p4, iv 1, iv 1, iv l1, iv l2, rv b92, rv b93, rv b94, iv 1, iv 1] [(.int 0), (.ref b94)]) := fun t k => K t (XS.iconst X126.here hx rfl (hb hby at_223) k)
      obtain ⟨cq128, kq128, qv128a, qv128b, qv128c⟩ := isOf hZ e126 P116_0
      obtain ⟨_, _, ⟨T128, L128, k128, n128⟩, -, X128, ⟨Lc128, hQ128, l128, y128, z128⟩, st128⟩ := X126.virtualBack hx (y := mN7) (z := mN7) hown (mvT hZ (ow hw 72 rfl)) (mvT hZ (ow hw 73 rfl)) (notFace_of_selects (args := #[]) (mvT hZ (ow hw 75 rfl))) (mvT hZ (ow hw 75 rfl)) (mvT hZ (ow hw 74 rfl)) (by decide) (backOf (W := 0) (rm_target l Z a0 hw [] b94 (0 : Int32) tg_96 k_tg_96 [(.int p2), (.int p1), (.int (0 : Int32)), (.int (0 : Int32)), (.int (0 : Int32)), (.int (0 : Int32)), (.int (0 : Int32)), (.int (0 : Int32)), (.int (0 : Int32)), (.int (0 : Int32)), (.int (0 : Int32)), (.int (0 : Int32)), (.int (0 : Int32)), (.int (0 : Int32)), (.int (0 : Int32)), (.int (0 : Int32))] p2 hp116 n0 Z116 P116_9 P116_14 (by decide) rfl) hZ (ow hw 76 rfl) (ow hw 3 rfl) (by decide) (by decide)) qv128a qv128c (g := (mkF m 224 #[iv p1, iv p2, iv p3, iv p4, iv 1, iv 1, iv l1, iv l2, rv b92, rv b93, rv b94, iv 1, iv 1] [(.int 0), (.ref b94)])) rfl (by rw [hml]; rfl) (Steps.refl _) (argsL := [(.int (0 : Int32))]) (rest := []) (lenOf pd__I_I rfl) rfl (by show 2 * 0 + _ ≤ _; exact Nat.le_of_eq rfl) (hb hby at_224) (fun _ _ => ⟨rfl, e126, (by decide : 13 + 0 ≤ _), (by decide : 203 + 0 ≤ _)⟩)
      dsimp only [Pt.U, Pt.locs, Pt.cells, Pt.slots] at X128 l128 y128 z128 st128 hQ128
      subst l128 y128 z128
      obtain ⟨rfl, Nq128, e128⟩ := hQ128
      have N128 := Fr.app N126 Nq128
      replace K : OGo p e below A0 T128 (mkF m 227 #[iv p1, iv p2, iv p3, iv p4, iv 1, iv 1, iv l1, iv l2, rv b92, rv b93, rv b94, iv 1, iv 1] [(.int p2)]) := fun t k => K t (st128.trans k)
      replace K : OGo p e below A0 T128 (mkF m 228 #[iv p1, iv p2, iv p3, iv p4, iv 1, iv 1, iv l1, iv l2, rv b92, rv b93, rv b94, iv 1, iv 1] [(.int p2), (.int p2)]) := fun t k => K t (XS.iloadN X128.here hx rfl (hb hby at_227) rfl k)
      replace K : OGo p e below A0 T128 (mkF m 231 #[iv p1, iv p2, iv p3, iv p4, iv 1, iv 1, iv l1, iv l2, rv b92, rv b93, rv b94, iv 1, iv 1] []) := fun t k => K t (XS.icmpNo X128.here hx rfl (hb hby at_228) rfl (teq ((rfl : p2 = p2) : p2 = p2)).2 k)
      replace K : OGo p e below A0 T128 (mkF m 232 #[iv p1, iv p2, iv p3, iv p4, iv 1, iv 1, iv l1, iv l2, rv b92, rv b93, rv b94, iv 1, iv 1] [(.int 1)]) := fun t k => K t (XS.iconst X128.here hx rfl (hb hby at_231) k)
      replace K : OGo p e below A0 T128 (mkF m 236 #[iv p1, iv p2, iv p3, iv p4, iv 1, iv 1, iv l1, iv l2, rv b92, rv b93, rv b94, iv 1, iv 1] [(.int 1)]) := fun t k => K t (XS.goto X128.here hx rfl (pc0 := 232) (pc' := 236) rfl (hb hby at_232) (by decide) (by decide) k)
      replace K : OGo p e below A0 T128 (mkF m 238 #[iv p1, iv p2, iv p3, iv p4, iv 1, iv 1, iv l1, iv l2, rv b92, rv b93, rv b94, iv 1, iv 1] []) := fun t k => K t (XS.istore X128.here hx rfl (hb hby at_236) rfl (l' := #[iv p1, iv p2, iv p3, iv p4, iv 1, iv 1, iv l1, iv l2, rv b92, rv b93, rv b94, iv 1, iv 1]) rfl k)
      replace K : OGo p e below A0 T128 (mkF m 240 #[iv p1, iv p2, iv p3, iv p4, iv 1, iv 1, iv l1, iv l2, rv b92, rv b93, rv b94, iv 1, iv 1] [(.int 1)]) := fun t k => K t (XS.iload X128.here hx rfl (hb hby at_238) rfl k)
      obtain ⟨fs, hr, hrun, hended, hW, hsame⟩ := X128.leave (v := some (.int (1 : Int32))) (fun h => by rw [Bd.returns] at h; cases h)
      subst hA0
      refine ⟨_, _, K _ (retN X128 hx (t := .boolean) Bd.returns (by simp) (hb hby at_240) hr), hrun, hended, _, _, rfl, ?_, ⟨_, rfl⟩, hW, hsame.mono (by decide) (by decide)⟩
      show Q_law Z p1 p2 p3 p4 h0 n0 _ T128.heap _
      rw [e128]
      exact ⟨rfl, N128⟩
set_option maxRecDepth 65536 in
set_option maxHeartbeats 40000000 in
theorem comes_1 {Post : Tables → Env → Array Value → State → Outcome → State → Prop} (hpost : ∀ tb e args s v u, (limb_1_1.after args s (.returned v) u = true ∧ limb_1_2.after args s (.returned v) u = true ∧ True) → FrameEnd s (.returned v) u (Jvm.fieldLocs frame_1_writes args s ++ Jvm.arrayLocs frame_1_arrays args s ++ Jvm.staticLocs frame_1_statics s) 40 512 → Post tb e args s (.returned v) u) :
    ArmFor flags0 classFile x code maxLocals ret World_1 tables_1 room_1 Calls_1 rest_1 Pre_1 Post := by
  intro l hfl _ _ p e ha hc hk s m args below hf hA hF happ hP
  obtain ⟨hcalls, hrest, hpre⟩ := hP
  obtain ⟨-, -, -, hnamed, -, -, -, hat⟩ := (Spec.applies_iff hf).mp happ
  obtain ⟨hg, hn⟩ := and_e (Cond.before_iff.mp (show (Jvm.Cond.and given_1 narrow_1).before args s = true from hpre))
  obtain ⟨gv1, gv2⟩ := and_e hg
  obtain ⟨gv3, gv4⟩ := and_e gv2
  obtain ⟨gv5, gv6⟩ := and_e gv4
  obtain ⟨gv7, gv8⟩ := and_e gv6
  obtain ⟨w0, w1, w2, w3, rfl⟩ : ∃ w0 w1 w2 w3 : Value, args = #[w0, w1, w2, w3] := by
    have hs : args.size = 4 := by simpa [Cond.value, given_1] using gv1
    obtain ⟨L⟩ := args
    match L, hs with
    | [w0, w1, w2, w3], _ => exact ⟨w0, w1, w2, w3, rfl⟩
  have hw := fun d (hd : d ∈ tables_1) => atoms_spec (ws := Jvm.Cond.code x code maxLocals ret :: tables_1) hat d (List.mem_cons_of_mem _ hd)
  have hfit : Fit s := fun {y c} hc i hi => by
    obtain ⟨ha, rfl⟩ := Array.getElem?_eq_some_iff.mp hc
    have q := List.all_eq_true.mp ((Array.all_eq_true_iff_forall_mem.mp hF) _ (Array.getElem_mem ha)) i (List.mem_range.mpr hi)
    simpa [Array.getElem?_eq_getElem hi] using q
  obtain ⟨i0, ei0⟩ := is_v gv3
  obtain rfl : w0 = (.int i0) := Option.some.inj ei0
  obtain ⟨i1, ei1⟩ := is_v gv5
  obtain rfl : w1 = (.int i1) := Option.some.inj ei1
  obtain ⟨i2, ei2⟩ := is_v gv7
  obtain rfl : w2 = (.int i2) := Option.some.inj ei2
  obtain ⟨i3, ei3⟩ := is_v gv8
  obtain rfl : w3 = (.int i3) := Option.some.inj ei3
  obtain ⟨n, o, h1, h2, h3, _, L, rfl, ⟨rfl, N⟩, hq⟩ := rm_law l s _ hw tables_1 i0 i1 i2 i3 s.heap s.heap.size (Nat.le_refl _)  p e ha hc hk s m _ below hf ((Spec.applies_iff_loose hf).mp happ).1 ⟨rfl, State.Warmed39.refl s, rfl⟩ trivial
  refine ⟨n, _, h1, h2, h3, hpost _ _ _ _ _ _ ⟨Cond.after_iff.mpr rfl, Cond.after_iff.mpr (eq_i res_at (Term.int_eval (1)) rfl), trivial⟩ ⟨hq.1, hq.2.1, (hq.2.2.sift fun y hy => Or.inr (N y hy)).mono (by decide) (by decide)⟩⟩
theorem main_1_1 : Claimed_1_1 := comes_1 fun _ _ _ _ _ _ h hF => ⟨h.1, hF⟩
theorem main_1_2 : Claimed_1_2 := comes_1 fun _ _ _ _ _ _ h hF => ⟨h.2.1, hF⟩
end Jvm.Pilot.@@N@@
namespace Jvm.Pilot.@@N@@
open Jvm Jvm.ClassFile Sem Op Lib Jvm.Free Jvm.Stand Jvm.Pilot.@@N@@.Jvm.D
/-! MADE BY PROGRAM (witnessworld.py) out of the Statement's table words and the real class files: 20 classes; the members and pool entries that the words name. The judged class is class 1, her method 1. -/
namespace start1
open Jvm.ClassFile
def u (s : String) : CpInfo := .utf8 (stringToUtf16 s)
/-- a pool by its gaps: so many unusable entries, then the entry; so many at the end -/
def gap : Nat → List CpInfo → List CpInfo
  | 0, r => r
  | n + 1, r => .unusable :: gap n r
def poolList (es : List (Nat × CpInfo)) (last : Nat) : List CpInfo := es.foldr (fun e r => gap e.1 (e.2 :: r)) (gap last [])
def pool (es : List (Nat × CpInfo)) (last : Nat) : Array CpInfo := ⟨poolList es last⟩
def fileOf (pool : Array CpInfo) (this : Nat) (attrs : Array Attribute := #[]) (ms : Array MethodInfo := #[]) (fl : Nat := 33) (sup : Nat := 0) (ifs : Array Nat := #[]) (fds : Array FieldInfo := #[]) : ClassFile where
  minorVersion := 0
  majorVersion := 65
  constantPool := pool
  accessFlags := fl
  thisClass := this
  superClass := sup
  interfaces := ifs
  fields := fds
  methods := ms
  attributes := attrs
def plain (name : String) (sup : Option ClassId) : Class where
  name := name
  kind := .ordinary
  loader := none
  accessFlags := 33
  super := sup
  interfaces := #[]
  cf := none
  fields := #[]
  methods := #[]
  instanceTypes := #[]
  staticTypes := #[]
  resolved := #[]
  callSites := []
  init := .initialized
  statics := none
  mirror := none

def pool0 : Array CpInfo := pool [(5, u "<init>"), (0, u "()V"), (1, .class_ 10), (1, u "java/lang/Object")] 113

def k0c0 : Code := { maxStack := 0, maxLocals := 1, code := object_method_1_code, exceptionTable := #[], attributes := #[] }
def k0m0 : Method := { name := "<init>", desc := "()V", sig := { parameters := [], returnType := none }, accessFlags := 1, code := some k0c0 }
/-- java/lang/Object -/
def k0 : Class := { plain "java/lang/Object" none with
  accessFlags := 33
  interfaces := #[]
  cf := some (fileOf pool0 8 #[] #[{ accessFlags := 1, nameIndex := 5, descriptorIndex := 6, attributes := #[] }] 33 0 #[] #[])
  fields := #[]
  methods := #[k0m0]
  instanceTypes := #[]
  staticTypes := #[]
  resolved := Array.replicate 124 none
  statics := none }

def pool1 : Array CpInfo := pool [(2, .class_ 4), (0, .nameAndType 5 6), (0, u "java/lang/Object"), (0, u "<init>"), (0, u "()V"), (0, .class_ 8), (0, u "com/example/flote/flote/search/Reached"), (0, .methodref 7 3), (0, .methodref 7 11), (0, .nameAndType 12 13), (0, u "addAdmitted"), (0, u "(IJ)V"), (0, .long 5), (1, .methodref 7 17), (0, .nameAndType 18 19), (0, u "add"), (0, u "(IIIZ[BLcom/example/flote/flote/search/Search$Moves;JLcom/example/flote/flote/search/Search$Branches;)V"), (0, .long 7), (1, .methodref 7 23), (0, .nameAndType 24 25), (0, u "admit"), (0, u "(IZ)V"), (0, .methodref 7 27), (0, .nameAndType 28 29), (0, u "admitted"), (0, u "()I"), (0, .methodref 7 31), (0, .nameAndType 32 33), (0, u "target"), (0, u "(I)I"), (0, .methodref 7 35), (0, .nameAndType 36 37), (0, u "stores"), (0, u "(I)Z"), (0, .methodref 7 39), (0, .nameAndType 40 41), (0, u "key"), (0, u "(I)[B"), (0, .methodref 7 43), (0, .nameAndType 44 45), (0, u "waitingBytes"), (0, u "()J"), (0, .methodref 7 47), (0, .nameAndType 48 33), (0, u "actor"), (0, .class_ 50), (0, u "com/example/flote/flote/search/ReachedAdmitPinLaw"), (2, u "law"), (0, u "(IIII)Z")] 14

def k1m0 : Method := { name := "<init>", desc := "()V", sig := { parameters := [], returnType := none }, accessFlags := 1, code := none }
def k1c1 : Code := { maxStack := 10, maxLocals := 13, code := code, exceptionTable := #[], attributes := #[] }
def k1m1 : Method := { name := "law", desc := "(IIII)Z", sig := { parameters := [.int, .int, .int, .int], returnType := some .boolean }, accessFlags := 9, code := some k1c1 }
/-- com/example/flote/flote/search/ReachedAdmitPinLaw -/
def k1 : Class := { plain "com/example/flote/flote/search/ReachedAdmitPinLaw" (some 0) with
  accessFlags := 49
  interfaces := #[]
  cf := some (fileOf pool1 49 #[] #[{ accessFlags := 1, nameIndex := 5, descriptorIndex := 6, attributes := #[] }, { accessFlags := 9, nameIndex := 53, descriptorIndex := 54, attributes := #[] }] 49 2 #[] #[])
  fields := #[]
  methods := #[k1m0, k1m1]
  instanceTypes := #[]
  staticTypes := #[]
  resolved := Array.replicate 69 none
  statics := none }

def pool2 : Array CpInfo := pool [(1, .methodref 2 3), (0, .class_ 4), (0, .nameAndType 5 6), (0, u "java/lang/Object"), (0, u "<init>"), (0, u "()V"), (0, .fieldref 8 9), (0, .class_ 10), (0, .nameAndType 11 12), (0, u "com/example/flote/flote/search/Reached"), (0, u "actors"), (0, u "[I"), (0, .fieldref 8 14), (0, .nameAndType 15 12), (0, u "indices"), (0, .fieldref 8 17), (0, .nameAndType 18 12), (0, u "branchNumbers"), (0, .fieldref 8 20), (0, .nameAndType 21 22), (0, u "chose"), (0, u "[Z"), (0, .class_ 24), (0, u "[B"), (0, .fieldref 8 26), (0, .nameAndType 27 28), (0, u "keys"), (0, u "[[B"), (0, .class_ 30), (0, u "com/example/flote/flote/search/Search$Moves"), (0, .fieldref 8 32), (0, .nameAndType 33 34), (0, u "moves"), (0, u "[Lcom/example/flote/flote/search/Search$Moves;"), (0, .class_ 36), (0, u "com/example/flote/flote/search/Search$Branches"), (0, .fieldref 8 38), (0, .nameAndType 39 40), (0, u "transitions"), (0, u "[Lcom/example/flote/flote/search/Search$Branches;"), (0, .fieldref 8 42), (0, .nameAndType 43 44), (0, u "frames"), (0, u "[J"), (0, .fieldref 8 46), (0, .nameAndType 47 12), (0, u "targets"), (0, .fieldref 8 49), (0, .nameAndType 50 22), (0, u "stored"), (0, .methodref 8 52), (0, .nameAndType 53 54), (0, u "next"), (0, u "()I"), (0, .fieldref 8 56), (0, .nameAndType 57 58), (0, u "waitingBytes"), (0, u "J"), (0, .fieldref 8 60), (0, .nameAndType 61 62), (0, u "count"), (0, u "I"), (0, .fieldref 8 64), (0, .nameAndType 65 62), (0, u "admitted"), (27, u "add"), (0, u "(IIIZ[BLcom/example/flote/flote/search/Search$Moves;JLcom/example/flote/flote/search/Search$Branches;)V"), (0, u "addAdmitted"), (0, u "(IJ)V"), (3, u "()J"), (0, u "actor"), (0, u "(I)I"), (2, u "(I)Z"), (0, u "key"), (0, u "(I)[B"), (5, u "target"), (0, u "stores"), (0, u "admit"), (0, u "(IZ)V")] 8

def k2c0 : Code := { maxStack := 2, maxLocals := 1, code := prog_108_method_1_code, exceptionTable := #[], attributes := #[] }
def k2m0 : Method := { name := "<init>", desc := "()V", sig := { parameters := [], returnType := none }, accessFlags := 0, code := some k2c0 }
def k2c1 : Code := { maxStack := 5, maxLocals := 11, code := prog_108_method_2_code, exceptionTable := #[], attributes := #[] }
def k2m1 : Method := { name := "add", desc := "(IIIZ[BLcom/example/flote/flote/search/Search$Moves;JLcom/example/flote/flote/search/Search$Branches;)V", sig := { parameters := [.int, .int, .int, .boolean, (.array .byte), (.object "com/example/flote/flote/search/Search$Moves"), .long, (.object "com/example/flote/flote/search/Search$Branches")], returnType := none }, accessFlags := 0, code := some k2c1 }
def k2c2 : Code := { maxStack := 4, maxLocals := 5, code := prog_108_method_3_code, exceptionTable := #[], attributes := #[] }
def k2m2 : Method := { name := "addAdmitted", desc := "(IJ)V", sig := { parameters := [.int, .long], returnType := none }, accessFlags := 0, code := some k2c2 }
def k2c3 : Code := { maxStack := 1, maxLocals := 1, code := prog_108_method_6_code, exceptionTable := #[], attributes := #[] }
def k2m3 : Method := { name := "admitted", desc := "()I", sig := { parameters := [], returnType := some .int }, accessFlags := 0, code := some k2c3 }
def k2c4 : Code := { maxStack := 2, maxLocals := 1, code := prog_108_method_7_code, exceptionTable := #[], attributes := #[] }
def k2m4 : Method := { name := "waitingBytes", desc := "()J", sig := { parameters := [], returnType := some .long }, accessFlags := 0, code := some k2c4 }
def k2c5 : Code := { maxStack := 2, maxLocals := 2, code := prog_108_method_8_code, exceptionTable := #[], attributes := #[] }
def k2m5 : Method := { name := "actor", desc := "(I)I", sig := { parameters := [.int], returnType := some .int }, accessFlags := 0, code := some k2c5 }
def k2c6 : Code := { maxStack := 2, maxLocals := 2, code := prog_108_method_12_code, exceptionTable := #[], attributes := #[] }
def k2m6 : Method := { name := "key", desc := "(I)[B", sig := { parameters := [.int], returnType := some (.array .byte) }, accessFlags := 0, code := some k2c6 }
def k2c7 : Code := { maxStack := 2, maxLocals := 2, code := prog_108_method_16_code, exceptionTable := #[], attributes := #[] }
def k2m7 : Method := { name := "target", desc := "(I)I", sig := { parameters := [.int], returnType := some .int }, accessFlags := 0, code := some k2c7 }
def k2c8 : Code := { maxStack := 2, maxLocals := 2, code := prog_108_method_17_code, exceptionTable := #[], attributes := #[] }
def k2m8 : Method := { name := "stores", desc := "(I)Z", sig := { parameters := [.int], returnType := some .boolean }, accessFlags := 0, code := some k2c8 }
def k2c9 : Code := { maxStack := 5, maxLocals := 3, code := prog_108_method_18_code, exceptionTable := #[], attributes := #[] }
def k2m9 : Method := { name := "admit", desc := "(IZ)V", sig := { parameters := [.int, .boolean], returnType := none }, accessFlags := 0, code := some k2c9 }
def k2c10 : Code := { maxStack := 4, maxLocals := 2, code := prog_108_method_21_code, exceptionTable := #[], attributes := #[] }
def k2m10 : Method := { name := "next", desc := "()I", sig := { parameters := [], returnType := some .int }, accessFlags := 2, code := some k2c10 }
/-- com/example/flote/flote/search/Reached -/
def k2 : Class := { plain "com/example/flote/flote/search/Reached" (some 0) with
  accessFlags := 48
  interfaces := #[]
  cf := some (fileOf pool2 8 #[] #[{ accessFlags := 0, nameIndex := 5, descriptorIndex := 6, attributes := #[] }, { accessFlags := 0, nameIndex := 93, descriptorIndex := 94, attributes := #[] }, { accessFlags := 0, nameIndex := 95, descriptorIndex := 96, attributes := #[] }, { accessFlags := 0, nameIndex := 65, descriptorIndex := 54, attributes := #[] }, { accessFlags := 0, nameIndex := 57, descriptorIndex := 100, attributes := #[] }, { accessFlags := 0, nameIndex := 101, descriptorIndex := 102, attributes := #[] }, { accessFlags := 0, nameIndex := 106, descriptorIndex := 107, attributes := #[] }, { accessFlags := 0, nameIndex := 113, descriptorIndex := 102, attributes := #[] }, { accessFlags := 0, nameIndex := 114, descriptorIndex := 105, attributes := #[] }, { accessFlags := 0, nameIndex := 115, descriptorIndex := 116, attributes := #[] }, { accessFlags := 2, nameIndex := 53, descriptorIndex := 54, attributes := #[] }] 48 2 #[] #[{ accessFlags := 2, nameIndex := 61, descriptorIndex := 62, attributes := #[] }, { accessFlags := 2, nameIndex := 65, descriptorIndex := 62, attributes := #[] }, { accessFlags := 2, nameIndex := 57, descriptorIndex := 58, attributes := #[] }, { accessFlags := 2, nameIndex := 11, descriptorIndex := 12, attributes := #[] }, { accessFlags := 2, nameIndex := 15, descriptorIndex := 12, attributes := #[] }, { accessFlags := 2, nameIndex := 18, descriptorIndex := 12, attributes := #[] }, { accessFlags := 2, nameIndex := 21, descriptorIndex := 22, attributes := #[] }, { accessFlags := 2, nameIndex := 27, descriptorIndex := 28, attributes := #[] }, { accessFlags := 2, nameIndex := 33, descriptorIndex := 34, attributes := #[] }, { accessFlags := 2, nameIndex := 39, descriptorIndex := 40, attributes := #[] }, { accessFlags := 2, nameIndex := 43, descriptorIndex := 44, attributes := #[] }, { accessFlags := 2, nameIndex := 47, descriptorIndex := 12, attributes := #[] }, { accessFlags := 2, nameIndex := 50, descriptorIndex := 22, attributes := #[] }])
  fields := #[{ name := "count", type := .int, accessFlags := 2, slot := 0, constantValue := 0 }, { name := "admitted", type := .int, accessFlags := 2, slot := 1, constantValue := 0 }, { name := "waitingBytes", type := .long, accessFlags := 2, slot := 2, constantValue := 0 }, { name := "actors", type := (.array .int), accessFlags := 2, slot := 3, constantValue := 0 }, { name := "indices", type := (.array .int), accessFlags := 2, slot := 4, constantValue := 0 }, { name := "branchNumbers", type := (.array .int), accessFlags := 2, slot := 5, constantValue := 0 }, { name := "chose", type := (.array .boolean), accessFlags := 2, slot := 6, constantValue := 0 }, { name := "keys", type := (.array (.array .byte)), accessFlags := 2, slot := 7, constantValue := 0 }, { name := "moves", type := (.array (.object "com/example/flote/flote/search/Search$Moves")), accessFlags := 2, slot := 8, constantValue := 0 }, { name := "transitions", type := (.array (.object "com/example/flote/flote/search/Search$Branches")), accessFlags := 2, slot := 9, constantValue := 0 }, { name := "frames", type := (.array .long), accessFlags := 2, slot := 10, constantValue := 0 }, { name := "targets", type := (.array .int), accessFlags := 2, slot := 11, constantValue := 0 }, { name := "stored", type := (.array .boolean), accessFlags := 2, slot := 12, constantValue := 0 }]
  methods := #[k2m0, k2m1, k2m2, k2m3, k2m4, k2m5, k2m6, k2m7, k2m8, k2m9, k2m10]
  instanceTypes := #[.int, .int, .long, (.array .int), (.array .int), (.array .int), (.array .boolean), (.array (.array .byte)), (.array (.object "com/example/flote/flote/search/Search$Moves")), (.array (.object "com/example/flote/flote/search/Search$Branches")), (.array .long), (.array .int), (.array .boolean)]
  staticTypes := #[]
  resolved := Array.replicate 125 none
  statics := none }

def pool3 : Array CpInfo := pool [(1, .class_ 2), (0, u "java/lang/constant/Constable"), (0, .class_ 4), (0, u "java/lang/Object")] 6

/-- java/lang/constant/Constable -/
def k3 : Class := { plain "java/lang/constant/Constable" (some 0) with
  accessFlags := 1537
  interfaces := #[]
  cf := some (fileOf pool3 1 #[] #[] 1537 3 #[] #[])
  fields := #[]
  methods := #[]
  instanceTypes := #[]
  staticTypes := #[]
  resolved := Array.replicate 11 none
  statics := none }

def pool4 : Array CpInfo := pool [(1, .class_ 2), (0, u "java/lang/Comparable"), (0, .class_ 4), (0, u "java/lang/Object")] 7

/-- java/lang/Comparable -/
def k4 : Class := { plain "java/lang/Comparable" (some 0) with
  accessFlags := 1537
  interfaces := #[]
  cf := some (fileOf pool4 1 #[] #[] 1537 3 #[] #[])
  fields := #[]
  methods := #[]
  instanceTypes := #[]
  staticTypes := #[]
  resolved := Array.replicate 12 none
  statics := none }

def pool5 : Array CpInfo := pool [(1, .class_ 2), (0, u "java/io/Serializable"), (0, .class_ 4), (0, u "java/lang/Object")] 2

/-- java/io/Serializable -/
def k5 : Class := { plain "java/io/Serializable" (some 0) with
  accessFlags := 1537
  interfaces := #[]
  cf := some (fileOf pool5 1 #[] #[] 1537 3 #[] #[])
  fields := #[]
  methods := #[]
  instanceTypes := #[]
  staticTypes := #[]
  resolved := Array.replicate 7 none
  statics := none }

def pool6 : Array CpInfo := pool [(2, .class_ 4), (1, u "java/lang/Enum"), (0, u "name"), (0, u "Ljava/lang/String;"), (2, u "ordinal"), (0, u "I"), (1, .class_ 14), (1, u "java/lang/Object"), (4, u "hash"), (86, .class_ 108), (1, u "java/lang/Enum$EnumDesc"), (2, .class_ 112), (0, u "java/lang/constant/Constable"), (0, .class_ 114), (0, u "java/lang/Comparable"), (0, .class_ 116), (0, u "java/io/Serializable")] 87

/-- java/lang/Enum -/
def k6 : Class := { plain "java/lang/Enum" (some 0) with
  accessFlags := 1057
  interfaces := #[3, 4, 5]
  cf := some (fileOf pool6 2 #[.nestMembers #[106]] #[] 1057 12 #[111, 113, 115] #[{ accessFlags := 18, nameIndex := 5, descriptorIndex := 6, attributes := #[] }, { accessFlags := 18, nameIndex := 9, descriptorIndex := 10, attributes := #[] }, { accessFlags := 2, nameIndex := 19, descriptorIndex := 10, attributes := #[] }])
  fields := #[{ name := "name", type := (.object "java/lang/String"), accessFlags := 18, slot := 0, constantValue := 0 }, { name := "ordinal", type := .int, accessFlags := 18, slot := 1, constantValue := 0 }, { name := "hash", type := .int, accessFlags := 2, slot := 2, constantValue := 0 }]
  methods := #[]
  instanceTypes := #[(.object "java/lang/String"), .int, .int]
  staticTypes := #[]
  resolved := Array.replicate 204 none
  statics := none }

def pool7 : Array CpInfo := pool [(1, .class_ 2), (0, u "com/example/flote/flote/search/Search$Moves"), (2, u "TAKING"), (0, u "Lcom/example/flote/flote/search/Search$Moves;"), (2, u "GOING_ON"), (2, u "RESTING"), (2, u "$VALUES"), (0, u "[Lcom/example/flote/flote/search/Search$Moves;"), (6, .class_ 25), (1, u "java/lang/Enum"), (8, u "withoutMessages"), (0, u "Z"), (2, u "byMessages"), (23, .class_ 63), (0, u "com/example/flote/flote/search/Search")] 2

/-- com/example/flote/flote/search/Search$Moves -/
def k7 : Class := { plain "com/example/flote/flote/search/Search$Moves" (some 6) with
  accessFlags := 16433
  interfaces := #[]
  cf := some (fileOf pool7 1 #[.nestHost 62] #[] 16433 23 #[] #[{ accessFlags := 16409, nameIndex := 5, descriptorIndex := 6, attributes := #[] }, { accessFlags := 16409, nameIndex := 9, descriptorIndex := 6, attributes := #[] }, { accessFlags := 16409, nameIndex := 12, descriptorIndex := 6, attributes := #[] }, { accessFlags := 18, nameIndex := 34, descriptorIndex := 35, attributes := #[] }, { accessFlags := 18, nameIndex := 38, descriptorIndex := 35, attributes := #[] }, { accessFlags := 4122, nameIndex := 15, descriptorIndex := 16, attributes := #[] }])
  fields := #[{ name := "TAKING", type := (.object "com/example/flote/flote/search/Search$Moves"), accessFlags := 16409, slot := 0, constantValue := 0 }, { name := "GOING_ON", type := (.object "com/example/flote/flote/search/Search$Moves"), accessFlags := 16409, slot := 1, constantValue := 0 }, { name := "RESTING", type := (.object "com/example/flote/flote/search/Search$Moves"), accessFlags := 16409, slot := 2, constantValue := 0 }, { name := "withoutMessages", type := .boolean, accessFlags := 18, slot := 3, constantValue := 0 }, { name := "byMessages", type := .boolean, accessFlags := 18, slot := 4, constantValue := 0 }, { name := "$VALUES", type := (.array (.object "com/example/flote/flote/search/Search$Moves")), accessFlags := 4122, slot := 3, constantValue := 0 }]
  methods := #[]
  instanceTypes := #[(.object "java/lang/String"), .int, .int, .boolean, .boolean]
  staticTypes := #[(.object "com/example/flote/flote/search/Search$Moves"), (.object "com/example/flote/flote/search/Search$Moves"), (.object "com/example/flote/flote/search/Search$Moves"), (.array (.object "com/example/flote/flote/search/Search$Moves"))]
  resolved := Array.replicate 66 none
  statics := none }

def pool8 : Array CpInfo := pool [(2, .class_ 4), (1, u "java/lang/Object"), (0, u "<init>"), (0, u "()V"), (4, .class_ 13), (1, u "com/example/flote/flote/search/Search$Branches"), (0, u "targets"), (0, u "Lcom/example/flote/flote/search/StateSet;"), (2, u "timelessTargets"), (0, u "count"), (0, u "I"), (5, .class_ 27), (0, u "com/example/flote/flote/search/Search")] 2

def k8m0 : Method := { name := "<init>", desc := "()V", sig := { parameters := [], returnType := none }, accessFlags := 0, code := none }
/-- com/example/flote/flote/search/Search$Branches -/
def k8 : Class := { plain "com/example/flote/flote/search/Search$Branches" (some 0) with
  accessFlags := 48
  interfaces := #[]
  cf := some (fileOf pool8 11 #[.nestHost 26] #[{ accessFlags := 0, nameIndex := 5, descriptorIndex := 6, attributes := #[] }] 48 2 #[] #[{ accessFlags := 18, nameIndex := 14, descriptorIndex := 15, attributes := #[] }, { accessFlags := 18, nameIndex := 18, descriptorIndex := 15, attributes := #[] }, { accessFlags := 2, nameIndex := 19, descriptorIndex := 20, attributes := #[] }])
  fields := #[{ name := "targets", type := (.object "com/example/flote/flote/search/StateSet"), accessFlags := 18, slot := 0, constantValue := 0 }, { name := "timelessTargets", type := (.object "com/example/flote/flote/search/StateSet"), accessFlags := 18, slot := 1, constantValue := 0 }, { name := "count", type := .int, accessFlags := 2, slot := 2, constantValue := 0 }]
  methods := #[k8m0]
  instanceTypes := #[(.object "com/example/flote/flote/search/StateSet"), (.object "com/example/flote/flote/search/StateSet"), .int]
  staticTypes := #[]
  resolved := Array.replicate 30 none
  statics := none }

def pool9 : Array CpInfo := pool [(1, u "java/lang/Cloneable"), (0, .class_ 1), (0, u "java/lang/Object"), (0, .class_ 3)] 3

/-- java/lang/Cloneable -/
def k9 : Class := { plain "java/lang/Cloneable" (some 0) with
  accessFlags := 1537
  interfaces := #[]
  cf := some (fileOf pool9 2 #[] #[] 1537 4 #[] #[])
  fields := #[]
  methods := #[]
  instanceTypes := #[]
  staticTypes := #[]
  resolved := Array.replicate 8 none
  statics := none }

/-- the primitive boolean -/
def k10 : Class := { plain "boolean" none with kind := .primitive 'Z', accessFlags := 0x411 }
/-- [Z -/
def k11 : Class := { plain "[Z" (some 0) with kind := .array 10 .boolean, interfaces := #[9, 5], accessFlags := 1041 }

/-- the primitive byte -/
def k12 : Class := { plain "byte" none with kind := .primitive 'B', accessFlags := 0x411 }
/-- [B -/
def k13 : Class := { plain "[B" (some 0) with kind := .array 12 .byte, interfaces := #[9, 5], accessFlags := 1041 }

/-- the primitive int -/
def k14 : Class := { plain "int" none with kind := .primitive 'I', accessFlags := 0x411 }
/-- [I -/
def k15 : Class := { plain "[I" (some 0) with kind := .array 14 .int, interfaces := #[9, 5], accessFlags := 1041 }

/-- the primitive long -/
def k16 : Class := { plain "long" none with kind := .primitive 'J', accessFlags := 0x411 }
/-- [J -/
def k17 : Class := { plain "[J" (some 0) with kind := .array 16 .long, interfaces := #[9, 5], accessFlags := 1041 }

/-- [Lcom/example/flote/flote/search/Search$Branches; -/
def k18 : Class := { plain "[Lcom/example/flote/flote/search/Search$Branches;" (some 0) with kind := .array 8 (.object "com/example/flote/flote/search/Search$Branches"), interfaces := #[9, 5], accessFlags := 1041 }

/-- [Lcom/example/flote/flote/search/Search$Moves; -/
def k19 : Class := { plain "[Lcom/example/flote/flote/search/Search$Moves;" (some 0) with kind := .array 7 (.object "com/example/flote/flote/search/Search$Moves"), interfaces := #[9, 5], accessFlags := 1041 }

/-- [[B -/
def k20 : Class := { plain "[[B" (some 0) with kind := .array 13 (.array .byte), interfaces := #[9, 5], accessFlags := 1041 }

def heap : Heap := #[]
def classes : Array Class := #[k0, k1, k2, k3, k4, k5, k6, k7, k8, k9, k10, k11, k12, k13, k14, k15, k16, k17, k18, k19, k20]
def interned : List (Array UInt16 × Addr) := []
def slotsUsed : Nat := 0
def theMethod : MethodId := ⟨1, 1⟩
def args0 : Array Value := #[.int 5, .int 7, .int 3, .int 35]
def aboutOver (below : List Frame) : State where
  vm := { classes := classes, interned := interned.toArray }
  heap := heap
  slotsUsed := slotsUsed
  threads := #[{ frames := .invoking theMethod args0 :: below }]
def below0 : List Frame := [.native { method := ⟨0, 0⟩, args := #[] }]
def about1 : State := aboutOver below0
def p0 : Program := .bare "" "" ""
def e0 : Env := launch0.env 0 0 0
theorem w_frames : about1.frames = Frame.invoking theMethod args0 :: below0 := rfl
set_option maxRecDepth 65536 in
theorem w_args : argsFit about1.vm theMethod args0 = true := by decide +kernel
set_option maxRecDepth 65536 in
theorem w_heap : heapFits about1 = true := by decide +kernel
set_option maxRecDepth 65536 in
theorem w_runnable : about1.curStatus? = some .runnable := by decide +kernel
set_option maxRecDepth 65536 in
theorem w_alone : about1.alone = true := by decide +kernel
set_option maxRecDepth 65536 in
theorem w_named : about1.methodNamed? x = some theMethod := by decide +kernel
set_option maxRecDepth 65536 in
theorem w_hears : about1.hears theMethod below0 = true := by decide +kernel
set_option maxRecDepth 65536 in
theorem w_ripe : about1.ripe theMethod args0 below0 = true := by decide +kernel
theorem w_running : about1.status = .running := rfl
set_option maxRecDepth 65536 in
theorem w_room : about1.hasRoom e0.platform room_1 = true :=
  launch0.hasRoom_least _ room_1 (by decide +kernel) (by decide +kernel) (by decide +kernel) (by decide +kernel) (by decide +kernel) (by decide +kernel)
theorem allAtoms_all (ts : List Jvm.Cond) (a : Array Jvm.Value) (st : Jvm.State) : (allAtoms ts).before a st = ts.all (fun c => c.before a st) := by
  induction ts with
  | nil => rfl
  | cons c t ih =>
    show (Jvm.Cond.and c (allAtoms t)).before a st = _
    rw [Jvm.Cond.before_and, ih, List.all_cons]
def words1 : List Jvm.Cond := Jvm.Cond.code x code maxLocals ret :: tables_1
/-- a 'code' word, met by the world's own term for the bytes: nothing is compared byte by byte -/
theorem code_word {y : MethodName} {bytes : ByteArray} {mx : Nat} {rt : Option FieldType} {a : Array Value} {s : State} {m : MethodId} {meth : Method} {c : Code} (h1 : s.methodNamed? y = some m) (h2 : s.vm.method? m = some meth) (h3 : meth.code = some c) (h4 : c.code = bytes)
    (h5 : (c.maxLocals == mx && c.exceptionTable.isEmpty && decide (c.maxStack ≤ mostOperands) && decide (meth.sig.returnType = rt) && !meth.locks && decide (parseMethodDescriptor y.desc = some meth.sig)) = true) : (Jvm.Cond.code y bytes mx rt).before a s = true := by
  simp only [Bool.and_eq_true, beq_iff_eq, Bool.not_eq_true', decide_eq_true_eq] at h5
  obtain ⟨⟨⟨⟨⟨g1, g2⟩, g3⟩, g4⟩, g5⟩, g6⟩ := h5
  simp [Cond.before, Cond.holds, Cond.value, h1, h2, h3, h4, g1, g2, g3, g4, g5, g6]
def isCode : Jvm.Cond → Bool
  | .code _ _ _ _ => true
  | _ => false
theorem all_split {L : List Jvm.Cond} {P : Jvm.Cond → Bool} (h1 : L.all (fun c => isCode c || P c) = true) (h2 : ∀ c ∈ L.filter isCode, P c = true) : L.all P = true := by
  refine List.all_eq_true.mpr fun c hc => ?_
  have h := List.all_eq_true.mp h1 c hc
  rcases Bool.eq_false_or_eq_true (isCode c) with hi | hi
  · exact h2 c (List.mem_filter.mpr ⟨hc, hi⟩)
  · simpa [hi] using h
set_option maxRecDepth 65536 in
theorem w_c0 : (Jvm.Cond.code x code maxLocals ret).before args0 about1 = true := code_word (m := ⟨1, 1⟩) (meth := k1m1) (c := k1c1) (by decide +kernel) rfl rfl rfl (by decide +kernel)
set_option maxRecDepth 65536 in
theorem w_c1 : (Jvm.Cond.code ({ cls := "com/example/flote/flote/search/Reached", name := "<init>", desc := "()V" } : Jvm.MethodName) prog_108_method_1_code (1 : Nat) (Option.none : Option Jvm.ClassFile.FieldType)).before args0 about1 = true := code_word (m := ⟨2, 0⟩) (meth := k2m0) (c := k2c0) (by decide +kernel) rfl rfl rfl (by decide +kernel)
set_option maxRecDepth 65536 in
theorem w_c2 : (Jvm.Cond.code ({ cls := "java/lang/Object", name := "<init>", desc := "()V" } : Jvm.MethodName) object_method_1_code (1 : Nat) (Option.none : Option Jvm.ClassFile.FieldType)).before args0 about1 = true := code_word (m := ⟨0, 0⟩) (meth := k0m0) (c := k0c0) (by decide +kernel) rfl rfl rfl (by decide +kernel)
set_option maxRecDepth 65536 in
theorem w_c3 : (Jvm.Cond.code ({ cls := "com/example/flote/flote/search/Reached", name := "addAdmitted", desc := "(IJ)V" } : Jvm.MethodName) prog_108_method_3_code (5 : Nat) (Option.none : Option Jvm.ClassFile.FieldType)).before args0 about1 = true := code_word (m := ⟨2, 2⟩) (meth := k2m2) (c := k2c2) (by decide +kernel) rfl rfl rfl (by decide +kernel)
set_option maxRecDepth 65536 in
theorem w_c4 : (Jvm.Cond.code ({ cls := "com/example/flote/flote/search/Reached", name := "next", desc := "()I" } : Jvm.MethodName) prog_108_method_21_code (2 : Nat) (Option.some Jvm.ClassFile.FieldType.int)).before args0 about1 = true := code_word (m := ⟨2, 10⟩) (meth := k2m10) (c := k2c10) (by decide +kernel) rfl rfl rfl (by decide +kernel)
set_option maxRecDepth 65536 in
theorem w_c5 : (Jvm.Cond.code ({ cls := "com/example/flote/flote/search/Reached", name := "add", desc := "(IIIZ[BLcom/example/flote/flote/search/Search$Moves;JLcom/example/flote/flote/search/Search$Branches;)V" } : Jvm.MethodName) prog_108_method_2_code (11 : Nat) (Option.none : Option Jvm.ClassFile.FieldType)).before args0 about1 = true := code_word (m := ⟨2, 1⟩) (meth := k2m1) (c := k2c1) (by decide +kernel) rfl rfl rfl (by decide +kernel)
set_option maxRecDepth 65536 in
theorem w_c6 : (Jvm.Cond.code ({ cls := "com/example/flote/flote/search/Reached", name := "admit", desc := "(IZ)V" } : Jvm.MethodName) prog_108_method_18_code (3 : Nat) (Option.none : Option Jvm.ClassFile.FieldType)).before args0 about1 = true := code_word (m := ⟨2, 9⟩) (meth := k2m9) (c := k2c9) (by decide +kernel) rfl rfl rfl (by decide +kernel)
set_option maxRecDepth 65536 in
theorem w_c7 : (Jvm.Cond.code ({ cls := "com/example/flote/flote/search/Reached", name := "admitted", desc := "()I" } : Jvm.MethodName) prog_108_method_6_code (1 : Nat) (Option.some Jvm.ClassFile.FieldType.int)).before args0 about1 = true := code_word (m := ⟨2, 3⟩) (meth := k2m3) (c := k2c3) (by decide +kernel) rfl rfl rfl (by decide +kernel)
set_option maxRecDepth 65536 in
theorem w_c8 : (Jvm.Cond.code ({ cls := "com/example/flote/flote/search/Reached", name := "target", desc := "(I)I" } : Jvm.MethodName) prog_108_method_16_code (2 : Nat) (Option.some Jvm.ClassFile.FieldType.int)).before args0 about1 = true := code_word (m := ⟨2, 7⟩) (meth := k2m7) (c := k2c7) (by decide +kernel) rfl rfl rfl (by decide +kernel)
set_option maxRecDepth 65536 in
theorem w_c9 : (Jvm.Cond.code ({ cls := "com/example/flote/flote/search/Reached", name := "stores", desc := "(I)Z" } : Jvm.MethodName) prog_108_method_17_code (2 : Nat) (Option.some Jvm.ClassFile.FieldType.boolean)).before args0 about1 = true := code_word (m := ⟨2, 8⟩) (meth := k2m8) (c := k2c8) (by decide +kernel) rfl rfl rfl (by decide +kernel)
set_option maxRecDepth 65536 in
theorem w_c10 : (Jvm.Cond.code ({ cls := "com/example/flote/flote/search/Reached", name := "key", desc := "(I)[B" } : Jvm.MethodName) prog_108_method_12_code (2 : Nat) (Option.some (Jvm.ClassFile.FieldType.array Jvm.ClassFile.FieldType.byte))).before args0 about1 = true := code_word (m := ⟨2, 6⟩) (meth := k2m6) (c := k2c6) (by decide +kernel) rfl rfl rfl (by decide +kernel)
set_option maxRecDepth 65536 in
theorem w_c11 : (Jvm.Cond.code ({ cls := "com/example/flote/flote/search/Reached", name := "waitingBytes", desc := "()J" } : Jvm.MethodName) prog_108_method_7_code (1 : Nat) (Option.some Jvm.ClassFile.FieldType.long)).before args0 about1 = true := code_word (m := ⟨2, 4⟩) (meth := k2m4) (c := k2c4) (by decide +kernel) rfl rfl rfl (by decide +kernel)
set_option maxRecDepth 65536 in
theorem w_c12 : (Jvm.Cond.code ({ cls := "com/example/flote/flote/search/Reached", name := "actor", desc := "(I)I" } : Jvm.MethodName) prog_108_method_8_code (2 : Nat) (Option.some Jvm.ClassFile.FieldType.int)).before args0 about1 = true := code_word (m := ⟨2, 5⟩) (meth := k2m5) (c := k2c5) (by decide +kernel) rfl rfl rfl (by decide +kernel)
def codes1 : List Jvm.Cond := [Jvm.Cond.code x code maxLocals ret, Jvm.Cond.code ({ cls := "com/example/flote/flote/search/Reached", name := "<init>", desc := "()V" } : Jvm.MethodName) prog_108_method_1_code (1 : Nat) (Option.none : Option Jvm.ClassFile.FieldType), Jvm.Cond.code ({ cls := "java/lang/Object", name := "<init>", desc := "()V" } : Jvm.MethodName) object_method_1_code (1 : Nat) (Option.none : Option Jvm.ClassFile.FieldType), Jvm.Cond.code ({ cls := "com/example/flote/flote/search/Reached", name := "addAdmitted", desc := "(IJ)V" } : Jvm.MethodName) prog_108_method_3_code (5 : Nat) (Option.none : Option Jvm.ClassFile.FieldType), Jvm.Cond.code ({ cls := "com/example/flote/flote/search/Reached", name := "next", desc := "()I" } : Jvm.MethodName) prog_108_method_21_code (2 : Nat) (Option.some Jvm.ClassFile.FieldType.int), Jvm.Cond.code ({ cls := "com/example/flote/flote/search/Reached", name := "add", desc := "(IIIZ[BLcom/example/flote/flote/search/Search$Moves;JLcom/example/flote/flote/search/Search$Branches;)V" } : Jvm.MethodName) prog_108_method_2_code (11 : Nat) (Option.none : Option Jvm.ClassFile.FieldType), Jvm.Cond.code ({ cls := "com/example/flote/flote/search/Reached", name := "admit", desc := "(IZ)V" } : Jvm.MethodName) prog_108_method_18_code (3 : Nat) (Option.none : Option Jvm.ClassFile.FieldType), Jvm.Cond.code ({ cls := "com/example/flote/flote/search/Reached", name := "admitted", desc := "()I" } : Jvm.MethodName) prog_108_method_6_code (1 : Nat) (Option.some Jvm.ClassFile.FieldType.int), Jvm.Cond.code ({ cls := "com/example/flote/flote/search/Reached", name := "target", desc := "(I)I" } : Jvm.MethodName) prog_108_method_16_code (2 : Nat) (Option.some Jvm.ClassFile.FieldType.int), Jvm.Cond.code ({ cls := "com/example/flote/flote/search/Reached", name := "stores", desc := "(I)Z" } : Jvm.MethodName) prog_108_method_17_code (2 : Nat) (Option.some Jvm.ClassFile.FieldType.boolean), Jvm.Cond.code ({ cls := "com/example/flote/flote/search/Reached", name := "key", desc := "(I)[B" } : Jvm.MethodName) prog_108_method_12_code (2 : Nat) (Option.some (Jvm.ClassFile.FieldType.array Jvm.ClassFile.FieldType.byte)), Jvm.Cond.code ({ cls := "com/example/flote/flote/search/Reached", name := "waitingBytes", desc := "()J" } : Jvm.MethodName) prog_108_method_7_code (1 : Nat) (Option.some Jvm.ClassFile.FieldType.long), Jvm.Cond.code ({ cls := "com/example/flote/flote/search/Reached", name := "actor", desc := "(I)I" } : Jvm.MethodName) prog_108_method_8_code (2 : Nat) (Option.some Jvm.ClassFile.FieldType.int)]
set_option maxRecDepth 65536 in
theorem codes_eq : words1.filter isCode = codes1 := rfl
theorem w_codes : ∀ c ∈ words1.filter isCode, c.before args0 about1 = true := by
  rw [codes_eq]
  intro c hc
  simp only [codes1, List.mem_cons, List.not_mem_nil, or_false] at hc
  rcases hc with rfl | rfl | rfl | rfl | rfl | rfl | rfl | rfl | rfl | rfl | rfl | rfl | rfl
  · exact w_c0
  · exact w_c1
  · exact w_c2
  · exact w_c3
  · exact w_c4
  · exact w_c5
  · exact w_c6
  · exact w_c7
  · exact w_c8
  · exact w_c9
  · exact w_c10
  · exact w_c11
  · exact w_c12
set_option maxRecDepth 65536 in
theorem w_t1 : (words1.take 24).all (fun c => isCode c || c.before args0 about1) = true := by decide +kernel
set_option maxRecDepth 65536 in
theorem w_t2 : ((words1.drop 24).take 24).all (fun c => isCode c || c.before args0 about1) = true := by decide +kernel
set_option maxRecDepth 65536 in
theorem w_t3 : (((words1.drop 24).drop 24).take 24).all (fun c => isCode c || c.before args0 about1) = true := by decide +kernel
set_option maxRecDepth 65536 in
theorem w_t4 : ((((words1.drop 24).drop 24).drop 24).take 24).all (fun c => isCode c || c.before args0 about1) = true := by decide +kernel
set_option maxRecDepth 65536 in
theorem w_t5 : ((((words1.drop 24).drop 24).drop 24).drop 24).all (fun c => isCode c || c.before args0 about1) = true := by decide +kernel
theorem w_tables : (allAtoms (Jvm.Cond.code x code maxLocals ret :: tables_1)).before args0 about1 = true := by
  rw [allAtoms_all]
  show words1.all (fun c => c.before args0 about1) = true
  refine all_split ?_ w_codes
  rw [← List.take_append_drop 24 words1, List.all_append, w_t1, ← List.take_append_drop 24 (words1.drop 24), List.all_append, w_t2, ← List.take_append_drop 24 ((words1.drop 24).drop 24), List.all_append, w_t3, ← List.take_append_drop 24 (((words1.drop 24).drop 24).drop 24), List.all_append, w_t4, w_t5]
  rfl
set_option maxRecDepth 65536 in
theorem w_case : (Jvm.Cond.and given_1 narrow_1).before args0 about1 = true := by decide +kernel
theorem w_applies : (headSpec (Jvm.Cond.code x code maxLocals ret :: tables_1) room_1).applies x e0.platform about1 = true :=
  (Spec.applies_iff w_frames).mpr ⟨w_running, w_runnable, w_alone, w_named, w_hears, w_ripe, w_room, w_tables⟩
theorem atStart : AtStart classFile x code maxLocals ret World_1 tables_1 room_1 Calls_1 rest_1 Pre_1 launch0 p0 e0 about1 theMethod args0 below0 :=
  ⟨lists_1, trivial, launch0.admits_env _ _ _, launch0.least_env, fairChoices_fair.cas, fairChoices_fair.clock, w_frames, w_args, w_heap, w_applies, trivial, trivial, w_case⟩
end start1
theorem witness_1 : WitnessClaimed_1 := ⟨start1.p0, start1.e0, start1.about1, start1.theMethod, start1.args0, start1.below0, start1.atStart⟩
end Jvm.Pilot.@@N@@
