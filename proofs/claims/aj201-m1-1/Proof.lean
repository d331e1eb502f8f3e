import JvmDerived
import JvmDerived.Pilot.@@N@@Statement
import JvmDerived.Pilot.@@N@@Code
set_option linter.unusedVariables false
set_option linter.unusedSimpArgs false
@@BLOCK:NumsL.lean.txt@@
namespace Jvm.Pilot.@@N@@
open Jvm Jvm.ClassFile Sem Op Lib Jvm.Free Jvm.Stand Jvm.LawKit Jvm.RoadKit Bundle Jvm.Pilot.@@N@@.Jvm.D
def own_Goes (p : Program) (e : Env) (below : List Frame) (s : State) (Q : Option Value → Heap → List Loc → Prop) (ce sl : Nat) (A : State) : Prop :=
  ∃ s₂ o, Steps p.tables e below A s₂ ∧ s₂.status = .running ∧ Ended s₂ below o ∧ ∃ v L, o = .returned v ∧ Q v s₂.heap L ∧ FrameEnd s o s₂ L ce sl
theorem own_pre {p : Program} {e : Env} {below : List Frame} {s : State} {Q : Option Value → Heap → List Loc → Prop} {ce sl : Nat} {A B : State} (h : ∀ t, Steps p.tables e below A t → Steps p.tables e below B t) (G : own_Goes p e below s Q ce sl A) : own_Goes p e below s Q ce sl B := by
  obtain ⟨s₂, o, h1, r⟩ := G
  exact ⟨s₂, o, h _ h1, r⟩
theorem own_end {p : Program} {l : Launch} {e : Env} {R : Room} {s : State} {m : MethodId} {args : Array Value} {below : List Frame} {meth : Method} {c : Code} {T : State} {locs : List Loc} {cells slots : Nat} (X : Stand p l e R s m args below meth c T locs cells slots)
    {v : Option Value} {Q : Option Value → Heap → List Loc → Prop} {ce sl : Nat} {A : State} (hlocks : meth.locks = false) (hv : meth.sig.returnType = none → v = none)
    (hstep : ∀ fs, (∀ (f : JFrame) (acts : List Action), f.method = m → f.locked = none → f.entered = [] → (doReturn e (T.setTop f) acts v).1 = T.setFrames fs) → Steps p.tables e below A (T.setFrames fs))
    (hQ : Q v T.heap locs) (hc : cells ≤ ce) (hs : slots ≤ sl) : own_Goes p e below s Q ce sl A := by
  obtain ⟨fs, hr, hrun, hended, hW, hsame⟩ := X.leave hv hlocks
  exact ⟨_, _, hstep fs hr, hrun, hended, _, _, rfl, hQ, ⟨_, rfl⟩, hW, hsame.mono hc hs⟩
theorem own_lrem_eq (x y : Int64) : x - (x / y) * y = x % y := Int64.toInt_inj.mp (by rw [Jvm.Kit.i64_rem, Int64.toInt_mod])
theorem own_lrem {tb : Tables} [Ours tb] {e : Env} {below : List Frame} {T target : State} {m : MethodId} {c : Code} {g : JFrame} (h : At T m c below) (hx : tb.exec = Jvm.exec) (hg : g.method = m) {x y : Int64} {rest : List Value} (hd : decode c.code g.pc = .ok (.lrem, 1)) (hs : g.stack = .long y :: .long x :: rest) (hy : y ≠ 0)
    (hr : Steps tb e below (T.setTop { g with pc := g.pc + 1, stack := .long (x % y) :: rest }) target) : Steps tb e below (T.setTop g) target :=
  XS.lrem h hx hg hd hs hy (by rw [own_lrem_eq]; exact hr)
theorem own_h {a0 : Array Value} {Z : State} {L : List Jvm.Cond} (hw : ∀ d ∈ L, d.before a0 Z = true) (i : Nat) {d : Jvm.Cond} (h : L[i]? = some d) : d.before a0 Z = true := hw _ (List.mem_of_getElem? h)
abbrev own_In (j : Int32) (n : Nat) : Prop := 0 ≤ j.toInt ∧ j.toInt < (n : Int)
def own_at (xs : List Int32) (j : Int32) : Int32 := xs.getD j.toNatClampNeg 0
def own_atJ (xs : List Int64) (j : Int32) : Int64 := xs.getD j.toNatClampNeg 0
def own_len {α : Type} (xs : List α) : Int32 := xs.length.toInt32
theorem own_getD (xs : List Int32) (i : Nat) : (xs.map Value.int).getD i (.int 0) = .int (xs.getD i 0) := by
  simp only [List.getD_eq_getElem?_getD, List.getElem?_map]
  cases xs[i]? <;> rfl
theorem own_getDJ (xs : List Int64) (i : Nat) : (xs.map Value.long).getD i (.long 0) = .long (xs.getD i 0) := by
  simp only [List.getD_eq_getElem?_getD, List.getElem?_map]
  cases xs[i]? <;> rfl
theorem own_pad {ty : FieldType} {Z : State} {h : Heap} {a : Addr} {k : ClassId} {n : Int32} {dv : Value} (F : Arv Z h a k ty n [] dv) : Arv Z h a k ty n (List.replicate n.toNatClampNeg dv) dv := F.pad (pad_rep [] dv n.toNatClampNeg)
section OwnArr
variable {p : Program} {l : Launch} {e : Env} {R : Room} {s : State} {m : MethodId} {args : Array Value} {below : List Frame} {meth : Method} {c : Code} {T : State} {locs : List Loc} {cells slots : Nat} {Z : State} {h h' : Heap} {a b : Addr} {sl : Nat} {v d : Value} {ws : List Addr} {ty : FieldType} {vs : List Value}
def own_Arr (ty : FieldType) (d : Value) (Z : State) (h : Heap) (a : Addr) (vs : List Value) : Prop := ∃ k n, Arv Z h a k ty n vs d ∧ n.toNatClampNeg = vs.length
theorem own_Arr.ext (F : own_Arr ty d Z h a vs) (E : Ext h h') : own_Arr ty d Z h' a vs := by obtain ⟨k, n, A, r⟩ := F; exact ⟨k, n, A.ext E, r⟩
theorem own_Arr.other (F : own_Arr ty d Z h b vs) (W : Wr h h' a sl v) (q : b ≠ a) : own_Arr ty d Z h' b vs := by obtain ⟨k, n, A, r⟩ := F; exact ⟨k, n, A.other W q, r⟩
theorem own_Arr.keep (F : own_Arr ty d Z h a vs) (K : Keep h h' ws) (q : a ∉ ws) : own_Arr ty d Z h' a vs := by obtain ⟨k, n, A, r⟩ := F; exact ⟨k, n, A.keep K q, r⟩
theorem own_Arr.lt (F : own_Arr ty d Z h a vs) : a < h.size := by obtain ⟨k, n, A, r⟩ := F; exact A.lt
theorem own_inb {cl : Cell} {n j : Int32} {N : Nat} (S : cl.slots.size = n.toNatClampNeg) (q : n.toNatClampNeg = N) (hj : own_In j N) : ¬ (j < 0 ∨ cl.slots.size ≤ j.toNatClampNeg) := by
  rw [S, q]; obtain ⟨q1, q2⟩ := hj
  have e0 : (0 : Int32).toInt = 0 := rfl
  simp only [Int32.lt_iff_toInt_lt, Int32.toNatClampNeg, e0] at *; omega
theorem own_ixlt {j : Int32} {N : Nat} (hj : own_In j N) : j.toNatClampNeg < N := by obtain ⟨q1, q2⟩ := hj; simp only [Int32.toNatClampNeg]; omega
def own_Ints (Z : State) (h : Heap) (a : Addr) (xs : List Int32) : Prop := own_Arr .int (.int 0) Z h a (xs.map Value.int)
def own_Longs (Z : State) (h : Heap) (a : Addr) (xs : List Int64) : Prop := own_Arr .long (.long 0) Z h a (xs.map Value.long)
def own_Bytes (Z : State) (h : Heap) (a : Addr) (xs : List Int32) : Prop := own_Arr .byte (.int 0) Z h a (xs.map Value.int)
def own_Chars (Z : State) (h : Heap) (a : Addr) (xs : List Int32) : Prop := own_Arr .char (.int 0) Z h a (xs.map Value.int)
theorem own_Ints.ext {xs : List Int32} (F : own_Ints Z h a xs) (E : Ext h h') : own_Ints Z h' a xs := own_Arr.ext F E
theorem own_Ints.other {xs : List Int32} (F : own_Ints Z h b xs) (W : Wr h h' a sl v) (q : b ≠ a) : own_Ints Z h' b xs := own_Arr.other F W q
theorem own_Ints.keep {xs : List Int32} (F : own_Ints Z h a xs) (K : Keep h h' ws) (q : a ∉ ws) : own_Ints Z h' a xs := own_Arr.keep F K q
theorem own_Ints.lt {xs : List Int32} (F : own_Ints Z h a xs) : a < h.size := own_Arr.lt F
theorem own_newI {k : ClassId} {n : Int32} (A : Arr Z h a (newA k .int n) .int) (q : ¬ n < 0) : own_Ints Z h a (List.replicate n.toNatClampNeg 0) := by
  refine ⟨k, n, ?_, by simp⟩
  have := own_pad (Arv.new A q)
  rw [List.map_replicate]
  exact this
theorem own_iaload {target : State} (X : Stand p l e R s m args below meth c T locs cells slots) (hx : p.tables.exec = Jvm.exec) (hZ : Z.Warmed39 s.vm) (eT : T.heap = h) {xs : List Int32} {j : Int32} (F : own_Ints Z h a xs) (hj : own_In j xs.length) {g : JFrame} (hg : g.method = m) {rest : List Value} (hs : g.stack = .int j :: .ref a :: rest) (hd : decode c.code g.pc = .ok (.iaload, 1))
    (hr : Steps p.tables e below (T.setTop { g with pc := g.pc + 1, stack := .int (own_at xs j) :: rest }) target) : Steps p.tables e below (T.setTop g) target := by
  obtain ⟨k, n, ⟨cl, A, q1, S, q3, H, G⟩, q⟩ := F
  have hin := own_inb S q (by rw [List.length_map]; exact hj)
  exact X.iaload hx (j := j) (v := .int (own_at xs j)) (by rw [eT]; exact A.1) (State.isArrayOf_alike hZ.alike A.2.1) A.2.2 hin (H.at hin (own_getD xs _)) (g := g) hg hs hd _ hr
theorem own_arrlenI {target : State} (X : Stand p l e R s m args below meth c T locs cells slots) (hx : p.tables.exec = Jvm.exec) (hZ : Z.Warmed39 s.vm) (eT : T.heap = h) {xs : List Int32} (F : own_Ints Z h a xs) {g : JFrame} (hg : g.method = m) {rest : List Value} (hs : g.stack = .ref a :: rest) (hd : decode c.code g.pc = .ok (.arraylength, 1))
    (hr : Steps p.tables e below (T.setTop { g with pc := g.pc + 1, stack := .int (own_len xs) :: rest }) target) : Steps p.tables e below (T.setTop g) target := by
  obtain ⟨k, n, ⟨cl, A, q1, S, q3, H, G⟩, q⟩ := F
  refine X.arraylength hx (by rw [eT]; exact A.1) (State.isArrayOf_alike hZ.alike A.2.1) (g := g) hg hs hd _ ?_
  have e1 : cl.slots.size = xs.length := by rw [S, q, List.length_map]
  rw [e1]
  exact hr
theorem own_iastore (X : Stand p l e R s m args below meth c T locs cells slots) (hx : p.tables.exec = Jvm.exec) (hZ : Z.Warmed39 s.vm) (eT : T.heap = h) {xs : List Int32} {j : Int32} {x : Int32} (F : own_Ints Z h a xs) (hj : own_In j xs.length) {g : JFrame} (hg : g.method = m) {rest : List Value} (hs : g.stack = .int x :: .int j :: .ref a :: rest) (hd : decode c.code g.pc = .ok (.iastore, 1)) :
    ∃ T' h', Stand p l e R s m args below meth c T' (locs ++ [⟨a, j.toNatClampNeg⟩]) cells slots ∧ T'.heap = h' ∧ Wr h h' a j.toNatClampNeg (.int (x)) ∧ own_Ints Z h' a (xs.set j.toNatClampNeg (x)) ∧ ∀ target, Steps p.tables e below (T'.setTop { g with pc := g.pc + 1, stack := rest }) target → Steps p.tables e below (T.setTop g) target := by
  obtain ⟨k, n, ⟨cl, A, q1, S, q3, H, G⟩, q⟩ := F
  have hin := own_inb S q (by rw [List.length_map]; exact hj)
  obtain ⟨T', h', X', e', W, st⟩ := stI X hx hZ eT A (j := j) (x := x) hin (g := g) hg hs hd
  refine ⟨T', h', X', e', W, ⟨k, n, ?_, by rw [q]; simp⟩, st⟩
  rw [List.map_set]
  exact Arv.set A q1 S q3 H G rfl W _ rfl (by rw [List.length_map]; exact own_ixlt hj)
theorem own_Longs.ext {xs : List Int64} (F : own_Longs Z h a xs) (E : Ext h h') : own_Longs Z h' a xs := own_Arr.ext F E
theorem own_Longs.other {xs : List Int64} (F : own_Longs Z h b xs) (W : Wr h h' a sl v) (q : b ≠ a) : own_Longs Z h' b xs := own_Arr.other F W q
theorem own_Longs.keep {xs : List Int64} (F : own_Longs Z h a xs) (K : Keep h h' ws) (q : a ∉ ws) : own_Longs Z h' a xs := own_Arr.keep F K q
theorem own_Longs.lt {xs : List Int64} (F : own_Longs Z h a xs) : a < h.size := own_Arr.lt F
theorem own_newJ {k : ClassId} {n : Int32} (A : Arr Z h a (newA k .long n) .long) (q : ¬ n < 0) : own_Longs Z h a (List.replicate n.toNatClampNeg 0) := by
  refine ⟨k, n, ?_, by simp⟩
  have := own_pad (Arv.new A q)
  rw [List.map_replicate]
  exact this
theorem own_laload {target : State} (X : Stand p l e R s m args below meth c T locs cells slots) (hx : p.tables.exec = Jvm.exec) (hZ : Z.Warmed39 s.vm) (eT : T.heap = h) {xs : List Int64} {j : Int32} (F : own_Longs Z h a xs) (hj : own_In j xs.length) {g : JFrame} (hg : g.method = m) {rest : List Value} (hs : g.stack = .int j :: .ref a :: rest) (hd : decode c.code g.pc = .ok (.laload, 1))
    (hr : Steps p.tables e below (T.setTop { g with pc := g.pc + 1, stack := .long (own_atJ xs j) :: rest }) target) : Steps p.tables e below (T.setTop g) target := by
  obtain ⟨k, n, ⟨cl, A, q1, S, q3, H, G⟩, q⟩ := F
  have hin := own_inb S q (by rw [List.length_map]; exact hj)
  exact X.laload hx (j := j) (v := .long (own_atJ xs j)) (by rw [eT]; exact A.1) (State.isArrayOf_alike hZ.alike A.2.1) A.2.2 hin (H.at hin (own_getDJ xs _)) (g := g) hg hs hd _ hr
theorem own_arrlenJ {target : State} (X : Stand p l e R s m args below meth c T locs cells slots) (hx : p.tables.exec = Jvm.exec) (hZ : Z.Warmed39 s.vm) (eT : T.heap = h) {xs : List Int64} (F : own_Longs Z h a xs) {g : JFrame} (hg : g.method = m) {rest : List Value} (hs : g.stack = .ref a :: rest) (hd : decode c.code g.pc = .ok (.arraylength, 1))
    (hr : Steps p.tables e below (T.setTop { g with pc := g.pc + 1, stack := .int (own_len xs) :: rest }) target) : Steps p.tables e below (T.setTop g) target := by
  obtain ⟨k, n, ⟨cl, A, q1, S, q3, H, G⟩, q⟩ := F
  refine X.arraylength hx (by rw [eT]; exact A.1) (State.isArrayOf_alike hZ.alike A.2.1) (g := g) hg hs hd _ ?_
  have e1 : cl.slots.size = xs.length := by rw [S, q, List.length_map]
  rw [e1]
  exact hr
theorem own_lastore (X : Stand p l e R s m args below meth c T locs cells slots) (hx : p.tables.exec = Jvm.exec) (hZ : Z.Warmed39 s.vm) (eT : T.heap = h) {xs : List Int64} {j : Int32} {x : Int64} (F : own_Longs Z h a xs) (hj : own_In j xs.length) {g : JFrame} (hg : g.method = m) {rest : List Value} (hs : g.stack = .long x :: .int j :: .ref a :: rest) (hd : decode c.code g.pc = .ok (.lastore, 1)) :
    ∃ T' h', Stand p l e R s m args below meth c T' (locs ++ [⟨a, j.toNatClampNeg⟩]) cells slots ∧ T'.heap = h' ∧ Wr h h' a j.toNatClampNeg (.long (x)) ∧ own_Longs Z h' a (xs.set j.toNatClampNeg (x)) ∧ ∀ target, Steps p.tables e below (T'.setTop { g with pc := g.pc + 1, stack := rest }) target → Steps p.tables e below (T.setTop g) target := by
  obtain ⟨k, n, ⟨cl, A, q1, S, q3, H, G⟩, q⟩ := F
  have hin := own_inb S q (by rw [List.length_map]; exact hj)
  obtain ⟨T', h', X', e', W, st⟩ := stJ X hx hZ eT A (j := j) (x := x) hin (g := g) hg hs hd
  refine ⟨T', h', X', e', W, ⟨k, n, ?_, by rw [q]; simp⟩, st⟩
  rw [List.map_set]
  exact Arv.set A q1 S q3 H G rfl W _ rfl (by rw [List.length_map]; exact own_ixlt hj)
theorem own_Bytes.ext {xs : List Int32} (F : own_Bytes Z h a xs) (E : Ext h h') : own_Bytes Z h' a xs := own_Arr.ext F E
theorem own_Bytes.other {xs : List Int32} (F : own_Bytes Z h b xs) (W : Wr h h' a sl v) (q : b ≠ a) : own_Bytes Z h' b xs := own_Arr.other F W q
theorem own_Bytes.keep {xs : List Int32} (F : own_Bytes Z h a xs) (K : Keep h h' ws) (q : a ∉ ws) : own_Bytes Z h' a xs := own_Arr.keep F K q
theorem own_Bytes.lt {xs : List Int32} (F : own_Bytes Z h a xs) : a < h.size := own_Arr.lt F
theorem own_newB {k : ClassId} {n : Int32} (A : Arr Z h a (newA k .byte n) .byte) (q : ¬ n < 0) : own_Bytes Z h a (List.replicate n.toNatClampNeg 0) := by
  refine ⟨k, n, ?_, by simp⟩
  have := own_pad (Arv.new A q)
  rw [List.map_replicate]
  exact this
theorem own_baload {target : State} (X : Stand p l e R s m args below meth c T locs cells slots) (hx : p.tables.exec = Jvm.exec) (hZ : Z.Warmed39 s.vm) (eT : T.heap = h) {xs : List Int32} {j : Int32} (F : own_Bytes Z h a xs) (hj : own_In j xs.length) {g : JFrame} (hg : g.method = m) {rest : List Value} (hs : g.stack = .int j :: .ref a :: rest) (hd : decode c.code g.pc = .ok (.baload, 1))
    (hr : Steps p.tables e below (T.setTop { g with pc := g.pc + 1, stack := .int (own_at xs j) :: rest }) target) : Steps p.tables e below (T.setTop g) target := by
  obtain ⟨k, n, ⟨cl, A, q1, S, q3, H, G⟩, q⟩ := F
  have hin := own_inb S q (by rw [List.length_map]; exact hj)
  exact X.baloadBytes hx (j := j) (v := .int (own_at xs j)) (by rw [eT]; exact A.1) (State.isArrayOf_alike hZ.alike A.2.1) A.2.2 hin (H.at hin (own_getD xs _)) (g := g) hg hs hd _ hr
theorem own_arrlenB {target : State} (X : Stand p l e R s m args below meth c T locs cells slots) (hx : p.tables.exec = Jvm.exec) (hZ : Z.Warmed39 s.vm) (eT : T.heap = h) {xs : List Int32} (F : own_Bytes Z h a xs) {g : JFrame} (hg : g.method = m) {rest : List Value} (hs : g.stack = .ref a :: rest) (hd : decode c.code g.pc = .ok (.arraylength, 1))
    (hr : Steps p.tables e below (T.setTop { g with pc := g.pc + 1, stack := .int (own_len xs) :: rest }) target) : Steps p.tables e below (T.setTop g) target := by
  obtain ⟨k, n, ⟨cl, A, q1, S, q3, H, G⟩, q⟩ := F
  refine X.arraylength hx (by rw [eT]; exact A.1) (State.isArrayOf_alike hZ.alike A.2.1) (g := g) hg hs hd _ ?_
  have e1 : cl.slots.size = xs.length := by rw [S, q, List.length_map]
  rw [e1]
  exact hr
theorem own_bastore (X : Stand p l e R s m args below meth c T locs cells slots) (hx : p.tables.exec = Jvm.exec) (hZ : Z.Warmed39 s.vm) (eT : T.heap = h) {xs : List Int32} {j : Int32} {x : Int32} (F : own_Bytes Z h a xs) (hj : own_In j xs.length) {g : JFrame} (hg : g.method = m) {rest : List Value} (hs : g.stack = .int x :: .int j :: .ref a :: rest) (hd : decode c.code g.pc = .ok (.bastore, 1)) :
    ∃ T' h', Stand p l e R s m args below meth c T' (locs ++ [⟨a, j.toNatClampNeg⟩]) cells slots ∧ T'.heap = h' ∧ Wr h h' a j.toNatClampNeg (.int (x.toInt8.toInt32)) ∧ own_Bytes Z h' a (xs.set j.toNatClampNeg (x.toInt8.toInt32)) ∧ ∀ target, Steps p.tables e below (T'.setTop { g with pc := g.pc + 1, stack := rest }) target → Steps p.tables e below (T.setTop g) target := by
  obtain ⟨k, n, ⟨cl, A, q1, S, q3, H, G⟩, q⟩ := F
  have hin := own_inb S q (by rw [List.length_map]; exact hj)
  obtain ⟨T', h', X', e', W, st⟩ := stB X hx hZ eT A (j := j) (x := x) hin (g := g) hg hs hd
  refine ⟨T', h', X', e', W, ⟨k, n, ?_, by rw [q]; simp⟩, st⟩
  rw [List.map_set]
  exact Arv.set A q1 S q3 H G (fits_nar_byte x) W _ rfl (by rw [List.length_map]; exact own_ixlt hj)
theorem own_Chars.ext {xs : List Int32} (F : own_Chars Z h a xs) (E : Ext h h') : own_Chars Z h' a xs := own_Arr.ext F E
theorem own_Chars.other {xs : List Int32} (F : own_Chars Z h b xs) (W : Wr h h' a sl v) (q : b ≠ a) : own_Chars Z h' b xs := own_Arr.other F W q
theorem own_Chars.keep {xs : List Int32} (F : own_Chars Z h a xs) (K : Keep h h' ws) (q : a ∉ ws) : own_Chars Z h' a xs := own_Arr.keep F K q
theorem own_Chars.lt {xs : List Int32} (F : own_Chars Z h a xs) : a < h.size := own_Arr.lt F
theorem own_newC {k : ClassId} {n : Int32} (A : Arr Z h a (newA k .char n) .char) (q : ¬ n < 0) : own_Chars Z h a (List.replicate n.toNatClampNeg 0) := by
  refine ⟨k, n, ?_, by simp⟩
  have := own_pad (Arv.new A q)
  rw [List.map_replicate]
  exact this
theorem own_caload {target : State} (X : Stand p l e R s m args below meth c T locs cells slots) (hx : p.tables.exec = Jvm.exec) (hZ : Z.Warmed39 s.vm) (eT : T.heap = h) {xs : List Int32} {j : Int32} (F : own_Chars Z h a xs) (hj : own_In j xs.length) {g : JFrame} (hg : g.method = m) {rest : List Value} (hs : g.stack = .int j :: .ref a :: rest) (hd : decode c.code g.pc = .ok (.caload, 1))
    (hr : Steps p.tables e below (T.setTop { g with pc := g.pc + 1, stack := .int (own_at xs j) :: rest }) target) : Steps p.tables e below (T.setTop g) target := by
  obtain ⟨k, n, ⟨cl, A, q1, S, q3, H, G⟩, q⟩ := F
  have hin := own_inb S q (by rw [List.length_map]; exact hj)
  exact X.caload hx (j := j) (v := .int (own_at xs j)) (by rw [eT]; exact A.1) (State.isArrayOf_alike hZ.alike A.2.1) A.2.2 hin (H.at hin (own_getD xs _)) (g := g) hg hs hd _ hr
theorem own_arrlenC {target : State} (X : Stand p l e R s m args below meth c T locs cells slots) (hx : p.tables.exec = Jvm.exec) (hZ : Z.Warmed39 s.vm) (eT : T.heap = h) {xs : List Int32} (F : own_Chars Z h a xs) {g : JFrame} (hg : g.method = m) {rest : List Value} (hs : g.stack = .ref a :: rest) (hd : decode c.code g.pc = .ok (.arraylength, 1))
    (hr : Steps p.tables e below (T.setTop { g with pc := g.pc + 1, stack := .int (own_len xs) :: rest }) target) : Steps p.tables e below (T.setTop g) target := by
  obtain ⟨k, n, ⟨cl, A, q1, S, q3, H, G⟩, q⟩ := F
  refine X.arraylength hx (by rw [eT]; exact A.1) (State.isArrayOf_alike hZ.alike A.2.1) (g := g) hg hs hd _ ?_
  have e1 : cl.slots.size = xs.length := by rw [S, q, List.length_map]
  rw [e1]
  exact hr
theorem own_castore (X : Stand p l e R s m args below meth c T locs cells slots) (hx : p.tables.exec = Jvm.exec) (hZ : Z.Warmed39 s.vm) (eT : T.heap = h) {xs : List Int32} {j : Int32} {x : Int32} (F : own_Chars Z h a xs) (hj : own_In j xs.length) {g : JFrame} (hg : g.method = m) {rest : List Value} (hs : g.stack = .int x :: .int j :: .ref a :: rest) (hd : decode c.code g.pc = .ok (.castore, 1)) :
    ∃ T' h', Stand p l e R s m args below meth c T' (locs ++ [⟨a, j.toNatClampNeg⟩]) cells slots ∧ T'.heap = h' ∧ Wr h h' a j.toNatClampNeg (.int (x.toUInt32.toUInt16.toUInt32.toInt32)) ∧ own_Chars Z h' a (xs.set j.toNatClampNeg (x.toUInt32.toUInt16.toUInt32.toInt32)) ∧ ∀ target, Steps p.tables e below (T'.setTop { g with pc := g.pc + 1, stack := rest }) target → Steps p.tables e below (T.setTop g) target := by
  obtain ⟨k, n, ⟨cl, A, q1, S, q3, H, G⟩, q⟩ := F
  have hin := own_inb S q (by rw [List.length_map]; exact hj)
  obtain ⟨T', h', X', e', W, st⟩ := stC X hx hZ eT A (j := j) (x := x) hin (g := g) hg hs hd
  refine ⟨T', h', X', e', W, ⟨k, n, ?_, by rw [q]; simp⟩, st⟩
  rw [List.map_set]
  exact Arv.set A q1 S q3 H G (fits_nar_char x) W _ rfl (by rw [List.length_map]; exact own_ixlt hj)
end OwnArr
theorem own_lit {j : Int32} {n : Nat} (h : (decide (0 ≤ j.toInt) && decide (j.toInt < (n : Int))) = true) : own_In j n := by
  simp only [Bool.and_eq_true, decide_eq_true_eq] at h; exact h
def own_er (p3 p4 : Int32) : Int32 := (((p4 <<< ((12:Int32) &&& 31)) - p3) * (6:Int32))
def own_upd (ws : List Int32) (j x er : Int32) : List Int32 := (ws.set j.toNatClampNeg ((own_at ws j) + ((x * er) >>> ((14:Int32) &&& 31))))
def own_train (x0 x1 x2 : Int32) (ws : List Int32) (p2 er : Int32) : List Int32 := own_upd (own_upd (own_upd ws (p2 + (0:Int32)) x0 er) (p2 + (1:Int32)) x1 er) (p2 + (2:Int32)) x2 er
theorem own_pn0 : plainName "com/example/rowfold/rowfold/codec/Learning" = true := by first | (simp [plainName, overriddenIn]; done) | decide +kernel
theorem d1_0 : decode prog_10_method_6_code 0 = .ok (.iload 4, 2) := by decide +kernel
theorem d1_2 : decode prog_10_method_6_code 2 = .ok (.bipush 12, 2) := by decide +kernel
theorem d1_4 : decode prog_10_method_6_code 4 = .ok (.ishl, 1) := by decide +kernel
theorem d1_5 : decode prog_10_method_6_code 5 = .ok (.iload_n 3, 1) := by decide +kernel
theorem d1_6 : decode prog_10_method_6_code 6 = .ok (.isub, 1) := by decide +kernel
theorem d1_7 : decode prog_10_method_6_code 7 = .ok (.bipush 6, 2) := by decide +kernel
theorem d1_9 : decode prog_10_method_6_code 9 = .ok (.imul, 1) := by decide +kernel
theorem d1_10 : decode prog_10_method_6_code 10 = .ok (.istore 5, 2) := by decide +kernel
theorem d1_12 : decode prog_10_method_6_code 12 = .ok (.iconst 0, 1) := by decide +kernel
theorem d1_13 : decode prog_10_method_6_code 13 = .ok (.istore 6, 2) := by decide +kernel
theorem d1_15 : decode prog_10_method_6_code 15 = .ok (.iload 6, 2) := by decide +kernel
theorem d1_17 : decode prog_10_method_6_code 17 = .ok (.aload_n 0, 1) := by decide +kernel
theorem d1_18 : decode prog_10_method_6_code 18 = .ok (.arraylength, 1) := by decide +kernel
theorem d1_19 : decode prog_10_method_6_code 19 = .ok (.if_icmp .ge 28, 3) := by decide +kernel
theorem d1_22 : decode prog_10_method_6_code 22 = .ok (.aload_n 1, 1) := by decide +kernel
theorem d1_23 : decode prog_10_method_6_code 23 = .ok (.iload_n 2, 1) := by decide +kernel
theorem d1_24 : decode prog_10_method_6_code 24 = .ok (.iload 6, 2) := by decide +kernel
theorem d1_26 : decode prog_10_method_6_code 26 = .ok (.iadd, 1) := by decide +kernel
theorem d1_27 : decode prog_10_method_6_code 27 = .ok (.dup2, 1) := by decide +kernel
theorem d1_28 : decode prog_10_method_6_code 28 = .ok (.iaload, 1) := by decide +kernel
theorem d1_29 : decode prog_10_method_6_code 29 = .ok (.aload_n 0, 1) := by decide +kernel
theorem d1_30 : decode prog_10_method_6_code 30 = .ok (.iload 6, 2) := by decide +kernel
theorem d1_32 : decode prog_10_method_6_code 32 = .ok (.iaload, 1) := by decide +kernel
theorem d1_33 : decode prog_10_method_6_code 33 = .ok (.iload 5, 2) := by decide +kernel
theorem d1_35 : decode prog_10_method_6_code 35 = .ok (.imul, 1) := by decide +kernel
theorem d1_36 : decode prog_10_method_6_code 36 = .ok (.bipush 14, 2) := by decide +kernel
theorem d1_38 : decode prog_10_method_6_code 38 = .ok (.ishr, 1) := by decide +kernel
theorem d1_39 : decode prog_10_method_6_code 39 = .ok (.iadd, 1) := by decide +kernel
theorem d1_40 : decode prog_10_method_6_code 40 = .ok (.iastore, 1) := by decide +kernel
theorem d1_41 : decode prog_10_method_6_code 41 = .ok (.iinc 6 1, 3) := by decide +kernel
theorem d1_44 : decode prog_10_method_6_code 44 = .ok (.goto (-29), 3) := by decide +kernel
theorem d1_47 : decode prog_10_method_6_code 47 = .ok (.return_, 1) := by decide +kernel
theorem ef1 (m : MethodId) (a0 : Addr) (a1 : Addr) (p2 : Int32) (p3 : Int32) (p4 : Int32) : entryFrame m #[(.ref a0), (.ref a1), (.int p2), (.int p3), (.int p4)] 7 = mkF m 0 #[rv a0, rv a1, iv p2, iv p3, iv p4, .unset, .unset] [] := by first | (simp [entryFrame, mkF, argsToLocals, Value.category]; done) | rfl
def Q1 (Z : State) (a0 : Addr) (a1 : Addr) (p2 : Int32) (p3 : Int32) (p4 : Int32) (x0 : Int32) (x1 : Int32) (x2 : Int32) (wl : List Int32) (h0 : Heap) (n0 : Nat) (v : Option Value) (h : Heap) (L : List Loc) : Prop := v = none ∧ Fr n0 L ∧ Keep h0 h [a1] ∧ own_Ints Z h a1 (own_train x0 x1 x2 wl p2 (own_er p3 p4))
set_option maxRecDepth 65536 in
set_option maxHeartbeats 40000000 in
theorem rm1 (l : Launch) (Z : State) (aZ : Array Value) (hw : ∀ d ∈ tables_1, d.before aZ Z = true) (ws : List Jvm.Cond) (a0 : Addr) (a1 : Addr) (p2 : Int32) (p3 : Int32) (p4 : Int32) (x0 : Int32) (x1 : Int32) (x2 : Int32) (wl : List Int32) (h0 : Heap) (n0 : Nat) (Z0 : n0 ≤ h0.size) (P0 : own_Ints Z h0 a0 [x0, x1, x2]) (P1 : own_Ints Z h0 a1 wl) (nq_a0_a1 : a0 ≠ a1) (gq_a1 : n0 ≤ a1) (hin0 : own_In (p2 + (0:Int32)) wl.length) (hin1 : own_In (p2 + (1:Int32)) wl.length) (hin2 : own_In (p2 + (2:Int32)) wl.length) :
    MetFree l (⟨"com/example/rowfold/rowfold/codec/Learning", "train", "([I[IIII)V"⟩ : MethodName) (head1 (Jvm.Cond.code (⟨"com/example/rowfold/rowfold/codec/Learning", "train", "([I[IIII)V"⟩ : MethodName) prog_10_method_6_code 7 none :: ws) ({ frames := 0, cells := 0, slots := 0, locals := 0 } : Room)) (fun a U => a = #[(.ref a0), (.ref a1), (.int p2), (.int p3), (.int p4)] ∧ Z.Warmed39 U.vm ∧ U.heap = h0) (fun _ _ _ _ _ => True) (fun _ U o U' => ∃ v L, o = .returned v ∧ Q1 Z a0 a1 p2 p3 p4 x0 x1 x2 wl h0 n0 v U'.heap L ∧ FrameEnd U o U' L ({ frames := 0, cells := 0, slots := 0, locals := 0 } : Room).cells ({ frames := 0, cells := 0, slots := 0, locals := 0 } : Room).slots) := by
  refine MetFree.of_bodySF (plainFor_of_name own_pn0) hisR ?_
  intro p e s m args below meth c s₁ Bd hml0 hP hK
  obtain ⟨rfl, hZ, hh⟩ := hP
  have hx := Bd.exec
  have hby := Bd.bytes
  have hml : c.maxLocals = 7 := hml0
  have hown : s.vm.findClass "com/example/rowfold/rowfold/codec/Learning" = some m.cls := findClass_of_methodNamed Bd.named
  have hnm := (name_of_methodNamed Bd.named Bd.method).1
  have X0 : Stand p l e ({ frames := 0, cells := 0, slots := 0, locals := 0 } : Room) s m #[(.ref a0), (.ref a1), (.int p2), (.int p3), (.int p4)] below meth c s₁ [] 0 0 := Stand.of_body Bd
  have e0 : s₁.heap = h0 := by rw [← hh, Bd.state]; rfl
  have N0 := Fr.nil n0
  have Kp0 : Keep h0 h0 [a1] := Keep.refl _ _
  show own_Goes p e below s (Q1 Z a0 a1 p2 p3 p4 x0 x1 x2 wl h0 n0) ({ frames := 0, cells := 0, slots := 0, locals := 0 } : Room).cells ({ frames := 0, cells := 0, slots := 0, locals := 0 } : Room).slots _
  refine own_pre (fun t k => castTop (ef1 m a0 a1 p2 p3 p4) k) ?_
  obtain ⟨w1_1, hw1_1⟩ : ∃ z : Int32, z = (((p4 <<< ((12:Int32) &&& 31)) - p3) * (6:Int32)) := ⟨_, rfl⟩
  have hbn1 : own_In (p2 + (0:Int32)) wl.length := (by first | exact hin0 | (simp only [List.length_set]; exact hin0))
  have hbn2 : own_In (0:Int32) [x0, x1, x2].length := own_lit rfl
  refine own_pre (A := s₁.setTop (mkF m 40 #[rv a0, rv a1, iv p2, iv p3, iv p4, iv w1_1, iv (0:Int32)] [(.int ((own_at wl (p2 + (0:Int32))) + ((x0 * w1_1) >>> ((14:Int32) &&& 31)))), (.int (p2 + (0:Int32))), (.ref a1)])) (fun t k => ?_) ?_
  · show Steps p.tables e below (s₁.setTop (mkF m 0 #[rv a0, rv a1, iv p2, iv p3, iv p4, .unset, .unset] [])) _
    refine XS.iload X0.here hx rfl (hb hby d1_0) rfl ?_
    show Steps p.tables e below (s₁.setTop (mkF m 2 #[rv a0, rv a1, iv p2, iv p3, iv p4, .unset, .unset] [(.int p4)])) _
    refine XS.bipush X0.here hx rfl (hb hby d1_2) ?_
    show Steps p.tables e below (s₁.setTop (mkF m 4 #[rv a0, rv a1, iv p2, iv p3, iv p4, .unset, .unset] [(.int (12:Int32)), (.int p4)])) _
    refine XS.ishl X0.here hx rfl (hb hby d1_4) rfl ?_
    show Steps p.tables e below (s₁.setTop (mkF m 5 #[rv a0, rv a1, iv p2, iv p3, iv p4, .unset, .unset] [(.int (p4 <<< ((12:Int32) &&& 31)))])) _
    refine XS.iloadN X0.here hx rfl (hb hby d1_5) rfl ?_
    show Steps p.tables e below (s₁.setTop (mkF m 6 #[rv a0, rv a1, iv p2, iv p3, iv p4, .unset, .unset] [(.int p3), (.int (p4 <<< ((12:Int32) &&& 31)))])) _
    refine XS.isub X0.here hx rfl (hb hby d1_6) rfl ?_
    show Steps p.tables e below (s₁.setTop (mkF m 7 #[rv a0, rv a1, iv p2, iv p3, iv p4, .unset, .unset] [(.int ((p4 <<< ((12:Int32) &&& 31)) - p3))])) _
    refine XS.bipush X0.here hx rfl (hb hby d1_7) ?_
    show Steps p.tables e below (s₁.setTop (mkF m 9 #[rv a0, rv a1, iv p2, iv p3, iv p4, .unset, .unset] [(.int (6:Int32)), (.int ((p4 <<< ((12:Int32) &&& 31)) - p3))])) _
    refine XS.imul X0.here hx rfl (hb hby d1_9) rfl ?_
    show Steps p.tables e below (s₁.setTop (mkF m 10 #[rv a0, rv a1, iv p2, iv p3, iv p4, .unset, .unset] [(.int (((p4 <<< ((12:Int32) &&& 31)) - p3) * (6:Int32)))])) _
    refine XS.istore X0.here hx rfl (hb hby d1_10) rfl (l' := #[rv a0, rv a1, iv p2, iv p3, iv p4, iv w1_1, .unset]) (by rw [hw1_1]; rfl) ?_
    show Steps p.tables e below (s₁.setTop (mkF m 12 #[rv a0, rv a1, iv p2, iv p3, iv p4, iv w1_1, .unset] [])) _
    refine XS.iconst X0.here hx rfl (hb hby d1_12) ?_
    show Steps p.tables e below (s₁.setTop (mkF m 13 #[rv a0, rv a1, iv p2, iv p3, iv p4, iv w1_1, .unset] [(.int (0:Int32))])) _
    refine XS.istore X0.here hx rfl (hb hby d1_13) rfl (l' := #[rv a0, rv a1, iv p2, iv p3, iv p4, iv w1_1, iv (0:Int32)]) rfl ?_
    show Steps p.tables e below (s₁.setTop (mkF m 15 #[rv a0, rv a1, iv p2, iv p3, iv p4, iv w1_1, iv (0:Int32)] [])) _
    refine XS.iload X0.here hx rfl (hb hby d1_15) rfl ?_
    show Steps p.tables e below (s₁.setTop (mkF m 17 #[rv a0, rv a1, iv p2, iv p3, iv p4, iv w1_1, iv (0:Int32)] [(.int (0:Int32))])) _
    refine XS.aloadN X0.here hx rfl (hb hby d1_17) rfl rfl ?_
    show Steps p.tables e below (s₁.setTop (mkF m 18 #[rv a0, rv a1, iv p2, iv p3, iv p4, iv w1_1, iv (0:Int32)] [(.ref a0), (.int (0:Int32))])) _
    refine own_arrlenI X0 hx hZ e0 P0 rfl rfl (hb hby d1_18) ?_
    show Steps p.tables e below (s₁.setTop (mkF m 19 #[rv a0, rv a1, iv p2, iv p3, iv p4, iv w1_1, iv (0:Int32)] [(.int (3:Int32)), (.int (0:Int32))])) _
    refine XS.icmpNo X0.here hx rfl (hb hby d1_19) rfl (XT.ii_ge_f (by decide)) ?_
    show Steps p.tables e below (s₁.setTop (mkF m 22 #[rv a0, rv a1, iv p2, iv p3, iv p4, iv w1_1, iv (0:Int32)] [])) _
    refine XS.aloadN X0.here hx rfl (hb hby d1_22) rfl rfl ?_
    show Steps p.tables e below (s₁.setTop (mkF m 23 #[rv a0, rv a1, iv p2, iv p3, iv p4, iv w1_1, iv (0:Int32)] [(.ref a1)])) _
    refine XS.iloadN X0.here hx rfl (hb hby d1_23) rfl ?_
    show Steps p.tables e below (s₁.setTop (mkF m 24 #[rv a0, rv a1, iv p2, iv p3, iv p4, iv w1_1, iv (0:Int32)] [(.int p2), (.ref a1)])) _
    refine XS.iload X0.here hx rfl (hb hby d1_24) rfl ?_
    show Steps p.tables e below (s₁.setTop (mkF m 26 #[rv a0, rv a1, iv p2, iv p3, iv p4, iv w1_1, iv (0:Int32)] [(.int (0:Int32)), (.int p2), (.ref a1)])) _
    refine XS.iadd X0.here hx rfl (hb hby d1_26) rfl ?_
    show Steps p.tables e below (s₁.setTop (mkF m 27 #[rv a0, rv a1, iv p2, iv p3, iv p4, iv w1_1, iv (0:Int32)] [(.int (p2 + (0:Int32))), (.ref a1)])) _
    refine XT.dup2 X0.here hx rfl (hb hby d1_27) rfl rfl rfl ?_
    show Steps p.tables e below (s₁.setTop (mkF m 28 #[rv a0, rv a1, iv p2, iv p3, iv p4, iv w1_1, iv (0:Int32)] [(.int (p2 + (0:Int32))), (.ref a1), (.int (p2 + (0:Int32))), (.ref a1)])) _
    refine own_iaload X0 hx hZ e0 P1 hbn1 rfl rfl (hb hby d1_28) ?_
    show Steps p.tables e below (s₁.setTop (mkF m 29 #[rv a0, rv a1, iv p2, iv p3, iv p4, iv w1_1, iv (0:Int32)] [(.int (own_at wl (p2 + (0:Int32)))), (.int (p2 + (0:Int32))), (.ref a1)])) _
    refine XS.aloadN X0.here hx rfl (hb hby d1_29) rfl rfl ?_
    show Steps p.tables e below (s₁.setTop (mkF m 30 #[rv a0, rv a1, iv p2, iv p3, iv p4, iv w1_1, iv (0:Int32)] [(.ref a0), (.int (own_at wl (p2 + (0:Int32)))), (.int (p2 + (0:Int32))), (.ref a1)])) _
    refine XS.iload X0.here hx rfl (hb hby d1_30) rfl ?_
    show Steps p.tables e below (s₁.setTop (mkF m 32 #[rv a0, rv a1, iv p2, iv p3, iv p4, iv w1_1, iv (0:Int32)] [(.int (0:Int32)), (.ref a0), (.int (own_at wl (p2 + (0:Int32)))), (.int (p2 + (0:Int32))), (.ref a1)])) _
    refine own_iaload X0 hx hZ e0 P0 hbn2 rfl rfl (hb hby d1_32) ?_
    show Steps p.tables e below (s₁.setTop (mkF m 33 #[rv a0, rv a1, iv p2, iv p3, iv p4, iv w1_1, iv (0:Int32)] [(.int x0), (.int (own_at wl (p2 + (0:Int32)))), (.int (p2 + (0:Int32))), (.ref a1)])) _
    refine XS.iload X0.here hx rfl (hb hby d1_33) rfl ?_
    show Steps p.tables e below (s₁.setTop (mkF m 35 #[rv a0, rv a1, iv p2, iv p3, iv p4, iv w1_1, iv (0:Int32)] [(.int w1_1), (.int x0), (.int (own_at wl (p2 + (0:Int32)))), (.int (p2 + (0:Int32))), (.ref a1)])) _
    refine XS.imul X0.here hx rfl (hb hby d1_35) rfl ?_
    show Steps p.tables e below (s₁.setTop (mkF m 36 #[rv a0, rv a1, iv p2, iv p3, iv p4, iv w1_1, iv (0:Int32)] [(.int (x0 * w1_1)), (.int (own_at wl (p2 + (0:Int32)))), (.int (p2 + (0:Int32))), (.ref a1)])) _
    refine XS.bipush X0.here hx rfl (hb hby d1_36) ?_
    show Steps p.tables e below (s₁.setTop (mkF m 38 #[rv a0, rv a1, iv p2, iv p3, iv p4, iv w1_1, iv (0:Int32)] [(.int (14:Int32)), (.int (x0 * w1_1)), (.int (own_at wl (p2 + (0:Int32)))), (.int (p2 + (0:Int32))), (.ref a1)])) _
    refine XS.ishr X0.here hx rfl (hb hby d1_38) rfl ?_
    show Steps p.tables e below (s₁.setTop (mkF m 39 #[rv a0, rv a1, iv p2, iv p3, iv p4, iv w1_1, iv (0:Int32)] [(.int ((x0 * w1_1) >>> ((14:Int32) &&& 31))), (.int (own_at wl (p2 + (0:Int32)))), (.int (p2 + (0:Int32))), (.ref a1)])) _
    refine XS.iadd X0.here hx rfl (hb hby d1_39) rfl ?_
    exact k
  have hbn4 : own_In (p2 + (0:Int32)) wl.length := (by first | exact hin0 | (simp only [List.length_set]; exact hin0))
  obtain ⟨T3, h3, X3, e3, W3, V3, st3⟩ := own_iastore X0 hx hZ e0 P1 (j := (p2 + (0:Int32))) (x := ((own_at wl (p2 + (0:Int32))) + ((x0 * w1_1) >>> ((14:Int32) &&& 31)))) hbn4 (g := (mkF m 40 #[rv a0, rv a1, iv p2, iv p3, iv p4, iv w1_1, iv (0:Int32)] [(.int ((own_at wl (p2 + (0:Int32))) + ((x0 * w1_1) >>> ((14:Int32) &&& 31)))), (.int (p2 + (0:Int32))), (.ref a1)])) rfl rfl (hb hby d1_40)
  have Kp3 : Keep h0 h3 [a1] := Kp0.wr W3 (Or.inl (List.mem_of_getElem? (i := 0) rfl))
  have Z5 : n0 ≤ h3.size := Nat.le_trans Z0 (Nat.le_of_eq W3.size.symm)
  have N3 := Fr.snoc X3 N0 gq_a1
  have Vw3 : own_Ints Z h3 a1 (wl.set (p2 + (0:Int32)).toNatClampNeg ((own_at wl (p2 + (0:Int32))) + ((x0 * w1_1) >>> ((14:Int32) &&& 31)))) := V3
  refine own_pre st3 ?_
  have F6 := (P0.other W3 nq_a0_a1)
  have hbn7 : own_In (p2 + (1:Int32)) (wl.set (p2 + (0:Int32)).toNatClampNeg ((own_at wl (p2 + (0:Int32))) + ((x0 * w1_1) >>> ((14:Int32) &&& 31)))).length := (by first | exact hin1 | (simp only [List.length_set]; exact hin1))
  have hbn8 : own_In (1:Int32) [x0, x1, x2].length := own_lit rfl
  refine own_pre (A := T3.setTop (mkF m 40 #[rv a0, rv a1, iv p2, iv p3, iv p4, iv w1_1, iv (1:Int32)] [(.int ((own_at (wl.set (p2 + (0:Int32)).toNatClampNeg ((own_at wl (p2 + (0:Int32))) + ((x0 * w1_1) >>> ((14:Int32) &&& 31)))) (p2 + (1:Int32))) + ((x1 * w1_1) >>> ((14:Int32) &&& 31)))), (.int (p2 + (1:Int32))), (.ref a1)])) (fun t k => ?_) ?_
  · show Steps p.tables e below (T3.setTop (mkF m 41 #[rv a0, rv a1, iv p2, iv p3, iv p4, iv w1_1, iv (0:Int32)] [])) _
    refine XS.iinc X3.here hx rfl (hb hby d1_41) rfl (l' := #[rv a0, rv a1, iv p2, iv p3, iv p4, iv w1_1, iv (1:Int32)]) rfl ?_
    show Steps p.tables e below (T3.setTop (mkF m 44 #[rv a0, rv a1, iv p2, iv p3, iv p4, iv w1_1, iv (1:Int32)] [])) _
    refine XS.goto X3.here hx rfl (pc0 := 44) (pc' := 15) rfl (hb hby d1_44) (by decide) (by decide) ?_
    show Steps p.tables e below (T3.setTop (mkF m 15 #[rv a0, rv a1, iv p2, iv p3, iv p4, iv w1_1, iv (1:Int32)] [])) _
    refine XS.iload X3.here hx rfl (hb hby d1_15) rfl ?_
    show Steps p.tables e below (T3.setTop (mkF m 17 #[rv a0, rv a1, iv p2, iv p3, iv p4, iv w1_1, iv (1:Int32)] [(.int (1:Int32))])) _
    refine XS.aloadN X3.here hx rfl (hb hby d1_17) rfl rfl ?_
    show Steps p.tables e below (T3.setTop (mkF m 18 #[rv a0, rv a1, iv p2, iv p3, iv p4, iv w1_1, iv (1:Int32)] [(.ref a0), (.int (1:Int32))])) _
    refine own_arrlenI X3 hx hZ e3 F6 rfl rfl (hb hby d1_18) ?_
    show Steps p.tables e below (T3.setTop (mkF m 19 #[rv a0, rv a1, iv p2, iv p3, iv p4, iv w1_1, iv (1:Int32)] [(.int (3:Int32)), (.int (1:Int32))])) _
    refine XS.icmpNo X3.here hx rfl (hb hby d1_19) rfl (XT.ii_ge_f (by decide)) ?_
    show Steps p.tables e below (T3.setTop (mkF m 22 #[rv a0, rv a1, iv p2, iv p3, iv p4, iv w1_1, iv (1:Int32)] [])) _
    refine XS.aloadN X3.here hx rfl (hb hby d1_22) rfl rfl ?_
    show Steps p.tables e below (T3.setTop (mkF m 23 #[rv a0, rv a1, iv p2, iv p3, iv p4, iv w1_1, iv (1:Int32)] [(.ref a1)])) _
    refine XS.iloadN X3.here hx rfl (hb hby d1_23) rfl ?_
    show Steps p.tables e below (T3.setTop (mkF m 24 #[rv a0, rv a1, iv p2, iv p3, iv p4, iv w1_1, iv (1:Int32)] [(.int p2), (.ref a1)])) _
    refine XS.iload X3.here hx rfl (hb hby d1_24) rfl ?_
    show Steps p.tables e below (T3.setTop (mkF m 26 #[rv a0, rv a1, iv p2, iv p3, iv p4, iv w1_1, iv (1:Int32)] [(.int (1:Int32)), (.int p2), (.ref a1)])) _
    refine XS.iadd X3.here hx rfl (hb hby d1_26) rfl ?_
    show Steps p.tables e below (T3.setTop (mkF m 27 #[rv a0, rv a1, iv p2, iv p3, iv p4, iv w1_1, iv (1:Int32)] [(.int (p2 + (1:Int32))), (.ref a1)])) _
    refine XT.dup2 X3.here hx rfl (hb hby d1_27) rfl rfl rfl ?_
    show Steps p.tables e below (T3.setTop (mkF m 28 #[rv a0, rv a1, iv p2, iv p3, iv p4, iv w1_1, iv (1:Int32)] [(.int (p2 + (1:Int32))), (.ref a1), (.int (p2 + (1:Int32))), (.ref a1)])) _
    refine own_iaload X3 hx hZ e3 Vw3 hbn7 rfl rfl (hb hby d1_28) ?_
    show Steps p.tables e below (T3.setTop (mkF m 29 #[rv a0, rv a1, iv p2, iv p3, iv p4, iv w1_1, iv (1:Int32)] [(.int (own_at (wl.set (p2 + (0:Int32)).toNatClampNeg ((own_at wl (p2 + (0:Int32))) + ((x0 * w1_1) >>> ((14:Int32) &&& 31)))) (p2 + (1:Int32)))), (.int (p2 + (1:Int32))), (.ref a1)])) _
    refine XS.aloadN X3.here hx rfl (hb hby d1_29) rfl rfl ?_
    show Steps p.tables e below (T3.setTop (mkF m 30 #[rv a0, rv a1, iv p2, iv p3, iv p4, iv w1_1, iv (1:Int32)] [(.ref a0), (.int (own_at (wl.set (p2 + (0:Int32)).toNatClampNeg ((own_at wl (p2 + (0:Int32))) + ((x0 * w1_1) >>> ((14:Int32) &&& 31)))) (p2 + (1:Int32)))), (.int (p2 + (1:Int32))), (.ref a1)])) _
    refine XS.iload X3.here hx rfl (hb hby d1_30) rfl ?_
    show Steps p.tables e below (T3.setTop (mkF m 32 #[rv a0, rv a1, iv p2, iv p3, iv p4, iv w1_1, iv (1:Int32)] [(.int (1:Int32)), (.ref a0), (.int (own_at (wl.set (p2 + (0:Int32)).toNatClampNeg ((own_at wl (p2 + (0:Int32))) + ((x0 * w1_1) >>> ((14:Int32) &&& 31)))) (p2 + (1:Int32)))), (.int (p2 + (1:Int32))), (.ref a1)])) _
    refine own_iaload X3 hx hZ e3 F6 hbn8 rfl rfl (hb hby d1_32) ?_
    show Steps p.tables e below (T3.setTop (mkF m 33 #[rv a0, rv a1, iv p2, iv p3, iv p4, iv w1_1, iv (1:Int32)] [(.int x1), (.int (own_at (wl.set (p2 + (0:Int32)).toNatClampNeg ((own_at wl (p2 + (0:Int32))) + ((x0 * w1_1) >>> ((14:Int32) &&& 31)))) (p2 + (1:Int32)))), (.int (p2 + (1:Int32))), (.ref a1)])) _
    refine XS.iload X3.here hx rfl (hb hby d1_33) rfl ?_
    show Steps p.tables e below (T3.setTop (mkF m 35 #[rv a0, rv a1, iv p2, iv p3, iv p4, iv w1_1, iv (1:Int32)] [(.int w1_1), (.int x1), (.int (own_at (wl.set (p2 + (0:Int32)).toNatClampNeg ((own_at wl (p2 + (0:Int32))) + ((x0 * w1_1) >>> ((14:Int32) &&& 31)))) (p2 + (1:Int32)))), (.int (p2 + (1:Int32))), (.ref a1)])) _
    refine XS.imul X3.here hx rfl (hb hby d1_35) rfl ?_
    show Steps p.tables e below (T3.setTop (mkF m 36 #[rv a0, rv a1, iv p2, iv p3, iv p4, iv w1_1, iv (1:Int32)] [(.int (x1 * w1_1)), (.int (own_at (wl.set (p2 + (0:Int32)).toNatClampNeg ((own_at wl (p2 + (0:Int32))) + ((x0 * w1_1) >>> ((14:Int32) &&& 31)))) (p2 + (1:Int32)))), (.int (p2 + (1:Int32))), (.ref a1)])) _
    refine XS.bipush X3.here hx rfl (hb hby d1_36) ?_
    show Steps p.tables e below (T3.setTop (mkF m 38 #[rv a0, rv a1, iv p2, iv p3, iv p4, iv w1_1, iv (1:Int32)] [(.int (14:Int32)), (.int (x1 * w1_1)), (.int (own_at (wl.set (p2 + (0:Int32)).toNatClampNeg ((own_at wl (p2 + (0:Int32))) + ((x0 * w1_1) >>> ((14:Int32) &&& 31)))) (p2 + (1:Int32)))), (.int (p2 + (1:Int32))), (.ref a1)])) _
    refine XS.ishr X3.here hx rfl (hb hby d1_38) rfl ?_
    show Steps p.tables e below (T3.setTop (mkF m 39 #[rv a0, rv a1, iv p2, iv p3, iv p4, iv w1_1, iv (1:Int32)] [(.int ((x1 * w1_1) >>> ((14:Int32) &&& 31))), (.int (own_at (wl.set (p2 + (0:Int32)).toNatClampNeg ((own_at wl (p2 + (0:Int32))) + ((x0 * w1_1) >>> ((14:Int32) &&& 31)))) (p2 + (1:Int32)))), (.int (p2 + (1:Int32))), (.ref a1)])) _
    refine XS.iadd X3.here hx rfl (hb hby d1_39) rfl ?_
    exact k
  have hbn10 : own_In (p2 + (1:Int32)) (wl.set (p2 + (0:Int32)).toNatClampNeg ((own_at wl (p2 + (0:Int32))) + ((x0 * w1_1) >>> ((14:Int32) &&& 31)))).length := (by first | exact hin1 | (simp only [List.length_set]; exact hin1))
  obtain ⟨T9, h9, X9, e9, W9, V9, st9⟩ := own_iastore X3 hx hZ e3 Vw3 (j := (p2 + (1:Int32))) (x := ((own_at (wl.set (p2 + (0:Int32)).toNatClampNeg ((own_at wl (p2 + (0:Int32))) + ((x0 * w1_1) >>> ((14:Int32) &&& 31)))) (p2 + (1:Int32))) + ((x1 * w1_1) >>> ((14:Int32) &&& 31)))) hbn10 (g := (mkF m 40 #[rv a0, rv a1, iv p2, iv p3, iv p4, iv w1_1, iv (1:Int32)] [(.int ((own_at (wl.set (p2 + (0:Int32)).toNatClampNeg ((own_at wl (p2 + (0:Int32))) + ((x0 * w1_1) >>> ((14:Int32) &&& 31)))) (p2 + (1:Int32))) + ((x1 * w1_1) >>> ((14:Int32) &&& 31)))), (.int (p2 + (1:Int32))), (.ref a1)])) rfl rfl (hb hby d1_40)
  have Kp9 : Keep h0 h9 [a1] := Kp3.wr W9 (Or.inl (List.mem_of_getElem? (i := 0) rfl))
  have Z11 : n0 ≤ h9.size := Nat.le_trans Z5 (Nat.le_of_eq W9.size.symm)
  have N9 := Fr.snoc X9 N3 gq_a1
  have Vw9 : own_Ints Z h9 a1 ((wl.set (p2 + (0:Int32)).toNatClampNeg ((own_at wl (p2 + (0:Int32))) + ((x0 * w1_1) >>> ((14:Int32) &&& 31)))).set (p2 + (1:Int32)).toNatClampNeg ((own_at (wl.set (p2 + (0:Int32)).toNatClampNeg ((own_at wl (p2 + (0:Int32))) + ((x0 * w1_1) >>> ((14:Int32) &&& 31)))) (p2 + (1:Int32))) + ((x1 * w1_1) >>> ((14:Int32) &&& 31)))) := V9
  refine own_pre st9 ?_
  have F12 := (F6.other W9 nq_a0_a1)
  have hbn13 : own_In (p2 + (2:Int32)) ((wl.set (p2 + (0:Int32)).toNatClampNeg ((own_at wl (p2 + (0:Int32))) + ((x0 * w1_1) >>> ((14:Int32) &&& 31)))).set (p2 + (1:Int32)).toNatClampNeg ((own_at (wl.set (p2 + (0:Int32)).toNatClampNeg ((own_at wl (p2 + (0:Int32))) + ((x0 * w1_1) >>> ((14:Int32) &&& 31)))) (p2 + (1:Int32))) + ((x1 * w1_1) >>> ((14:Int32) &&& 31)))).length := (by first | exact hin2 | (simp only [List.length_set]; exact hin2))
  have hbn14 : own_In (2:Int32) [x0, x1, x2].length := own_lit rfl
  refine own_pre (A := T9.setTop (mkF m 40 #[rv a0, rv a1, iv p2, iv p3, iv p4, iv w1_1, iv (2:Int32)] [(.int ((own_at ((wl.set (p2 + (0:Int32)).toNatClampNeg ((own_at wl (p2 + (0:Int32))) + ((x0 * w1_1) >>> ((14:Int32) &&& 31)))).set (p2 + (1:Int32)).toNatClampNeg ((own_at (wl.set (p2 + (0:Int32)).toNatClampNeg ((own_at wl (p2 + (0:Int32))) + ((x0 * w1_1) >>> ((14:Int32) &&& 31)))) (p2 + (1:Int32))) + ((x1 * w1_1) >>> ((14:Int32) &&& 31)))) (p2 + (2:Int32))) + ((x2 * w1_1) >>> ((14:Int32) &&& 31)))), (.int (p2 + (2:Int32))), (.ref a1)])) (fun t k => ?_) ?_
  · show Steps p.tables e below (T9.setTop (mkF m 41 #[rv a0, rv a1, iv p2, iv p3, iv p4, iv w1_1, iv (1:Int32)] [])) _
    refine XS.iinc X9.here hx rfl (hb hby d1_41) rfl (l' := #[rv a0, rv a1, iv p2, iv p3, iv p4, iv w1_1, iv (2:Int32)]) rfl ?_
    show Steps p.tables e below (T9.setTop (mkF m 44 #[rv a0, rv a1, iv p2, iv p3, iv p4, iv w1_1, iv (2:Int32)] [])) _
    refine XS.goto X9.here hx rfl (pc0 := 44) (pc' := 15) rfl (hb hby d1_44) (by decide) (by decide) ?_
    show Steps p.tables e below (T9.setTop (mkF m 15 #[rv a0, rv a1, iv p2, iv p3, iv p4, iv w1_1, iv (2:Int32)] [])) _
    refine XS.iload X9.here hx rfl (hb hby d1_15) rfl ?_
    show Steps p.tables e below (T9.setTop (mkF m 17 #[rv a0, rv a1, iv p2, iv p3, iv p4, iv w1_1, iv (2:Int32)] [(.int (2:Int32))])) _
    refine XS.aloadN X9.here hx rfl (hb hby d1_17) rfl rfl ?_
    show Steps p.tables e below (T9.setTop (mkF m 18 #[rv a0, rv a1, iv p2, iv p3, iv p4, iv w1_1, iv (2:Int32)] [(.ref a0), (.int (2:Int32))])) _
    refine own_arrlenI X9 hx hZ e9 F12 rfl rfl (hb hby d1_18) ?_
    show Steps p.tables e below (T9.setTop (mkF m 19 #[rv a0, rv a1, iv p2, iv p3, iv p4, iv w1_1, iv (2:Int32)] [(.int (3:Int32)), (.int (2:Int32))])) _
    refine XS.icmpNo X9.here hx rfl (hb hby d1_19) rfl (XT.ii_ge_f (by decide)) ?_
    show Steps p.tables e below (T9.setTop (mkF m 22 #[rv a0, rv a1, iv p2, iv p3, iv p4, iv w1_1, iv (2:Int32)] [])) _
    refine XS.aloadN X9.here hx rfl (hb hby d1_22) rfl rfl ?_
    show Steps p.tables e below (T9.setTop (mkF m 23 #[rv a0, rv a1, iv p2, iv p3, iv p4, iv w1_1, iv (2:Int32)] [(.ref a1)])) _
    refine XS.iloadN X9.here hx rfl (hb hby d1_23) rfl ?_
    show Steps p.tables e below (T9.setTop (mkF m 24 #[rv a0, rv a1, iv p2, iv p3, iv p4, iv w1_1, iv (2:Int32)] [(.int p2), (.ref a1)])) _
    refine XS.iload X9.here hx rfl (hb hby d1_24) rfl ?_
    show Steps p.tables e below (T9.setTop (mkF m 26 #[rv a0, rv a1, iv p2, iv p3, iv p4, iv w1_1, iv (2:Int32)] [(.int (2:Int32)), (.int p2), (.ref a1)])) _
    refine XS.iadd X9.here hx rfl (hb hby d1_26) rfl ?_
    show Steps p.tables e below (T9.setTop (mkF m 27 #[rv a0, rv a1, iv p2, iv p3, iv p4, iv w1_1, iv (2:Int32)] [(.int (p2 + (2:Int32))), (.ref a1)])) _
    refine XT.dup2 X9.here hx rfl (hb hby d1_27) rfl rfl rfl ?_
    show Steps p.tables e below (T9.setTop (mkF m 28 #[rv a0, rv a1, iv p2, iv p3, iv p4, iv w1_1, iv (2:Int32)] [(.int (p2 + (2:Int32))), (.ref a1), (.int (p2 + (2:Int32))), (.ref a1)])) _
    refine own_iaload X9 hx hZ e9 Vw9 hbn13 rfl rfl (hb hby d1_28) ?_
    show Steps p.tables e below (T9.setTop (mkF m 29 #[rv a0, rv a1, iv p2, iv p3, iv p4, iv w1_1, iv (2:Int32)] [(.int (own_at ((wl.set (p2 + (0:Int32)).toNatClampNeg ((own_at wl (p2 + (0:Int32))) + ((x0 * w1_1) >>> ((14:Int32) &&& 31)))).set (p2 + (1:Int32)).toNatClampNeg ((own_at (wl.set (p2 + (0:Int32)).toNatClampNeg ((own_at wl (p2 + (0:Int32))) + ((x0 * w1_1) >>> ((14:Int32) &&& 31)))) (p2 + (1:Int32))) + ((x1 * w1_1) >>> ((14:Int32) &&& 31)))) (p2 + (2:Int32)))), (.int (p2 + (2:Int32))), (.ref a1)])) _
    refine XS.aloadN X9.here hx rfl (hb hby d1_29) rfl rfl ?_
    show Steps p.tables e below (T9.setTop (mkF m 30 #[rv a0, rv a1, iv p2, iv p3, iv p4, iv w1_1, iv (2:Int32)] [(.ref a0), (.int (own_at ((wl.set (p2 + (0:Int32)).toNatClampNeg ((own_at wl (p2 + (0:Int32))) + ((x0 * w1_1) >>> ((14:Int32) &&& 31)))).set (p2 + (1:Int32)).toNatClampNeg ((own_at (wl.set (p2 + (0:Int32)).toNatClampNeg ((own_at wl (p2 + (0:Int32))) + ((x0 * w1_1) >>> ((14:Int32) &&& 31)))) (p2 + (1:Int32))) + ((x1 * w1_1) >>> ((14:Int32) &&& 31)))) (p2 + (2:Int32)))), (.int (p2 + (2:Int32))), (.ref a1)])) _
    refine XS.iload X9.here hx rfl (hb hby d1_30) rfl ?_
    show Steps p.tables e below (T9.setTop (mkF m 32 #[rv a0, rv a1, iv p2, iv p3, iv p4, iv w1_1, iv (2:Int32)] [(.int (2:Int32)), (.ref a0), (.int (own_at ((wl.set (p2 + (0:Int32)).toNatClampNeg ((own_at wl (p2 + (0:Int32))) + ((x0 * w1_1) >>> ((14:Int32) &&& 31)))).set (p2 + (1:Int32)).toNatClampNeg ((own_at (wl.set (p2 + (0:Int32)).toNatClampNeg ((own_at wl (p2 + (0:Int32))) + ((x0 * w1_1) >>> ((14:Int32) &&& 31)))) (p2 + (1:Int32))) + ((x1 * w1_1) >>> ((14:Int32) &&& 31)))) (p2 + (2:Int32)))), (.int (p2 + (2:Int32))), (.ref a1)])) _
    refine own_iaload X9 hx hZ e9 F12 hbn14 rfl rfl (hb hby d1_32) ?_
    show Steps p.tables e below (T9.setTop (mkF m 33 #[rv a0, rv a1, iv p2, iv p3, iv p4, iv w1_1, iv (2:Int32)] [(.int x2), (.int (own_at ((wl.set (p2 + (0:Int32)).toNatClampNeg ((own_at wl (p2 + (0:Int32))) + ((x0 * w1_1) >>> ((14:Int32) &&& 31)))).set (p2 + (1:Int32)).toNatClampNeg ((own_at (wl.set (p2 + (0:Int32)).toNatClampNeg ((own_at wl (p2 + (0:Int32))) + ((x0 * w1_1) >>> ((14:Int32) &&& 31)))) (p2 + (1:Int32))) + ((x1 * w1_1) >>> ((14:Int32) &&& 31)))) (p2 + (2:Int32)))), (.int (p2 + (2:Int32))), (.ref a1)])) _
    refine XS.iload X9.here hx rfl (hb hby d1_33) rfl ?_
    show Steps p.tables e below (T9.setTop (mkF m 35 #[rv a0, rv a1, iv p2, iv p3, iv p4, iv w1_1, iv (2:Int32)] [(.int w1_1), (.int x2), (.int (own_at ((wl.set (p2 + (0:Int32)).toNatClampNeg ((own_at wl (p2 + (0:Int32))) + ((x0 * w1_1) >>> ((14:Int32) &&& 31)))).set (p2 + (1:Int32)).toNatClampNeg ((own_at (wl.set (p2 + (0:Int32)).toNatClampNeg ((own_at wl (p2 + (0:Int32))) + ((x0 * w1_1) >>> ((14:Int32) &&& 31)))) (p2 + (1:Int32))) + ((x1 * w1_1) >>> ((14:Int32) &&& 31)))) (p2 + (2:Int32)))), (.int (p2 + (2:Int32))), (.ref a1)])) _
    refine XS.imul X9.here hx rfl (hb hby d1_35) rfl ?_
    show Steps p.tables e below (T9.setTop (mkF m 36 #[rv a0, rv a1, iv p2, iv p3, iv p4, iv w1_1, iv (2:Int32)] [(.int (x2 * w1_1)), (.int (own_at ((wl.set (p2 + (0:Int32)).toNatClampNeg ((own_at wl (p2 + (0:Int32))) + ((x0 * w1_1) >>> ((14:Int32) &&& 31)))).set (p2 + (1:Int32)).toNatClampNeg ((own_at (wl.set (p2 + (0:Int32)).toNatClampNeg ((own_at wl (p2 + (0:Int32))) + ((x0 * w1_1) >>> ((14:Int32) &&& 31)))) (p2 + (1:Int32))) + ((x1 * w1_1) >>> ((14:Int32) &&& 31)))) (p2 + (2:Int32)))), (.int (p2 + (2:Int32))), (.ref a1)])) _
    refine XS.bipush X9.here hx rfl (hb hby d1_36) ?_
    show Steps p.tables e below (T9.setTop (mkF m 38 #[rv a0, rv a1, iv p2, iv p3, iv p4, iv w1_1, iv (2:Int32)] [(.int (14:Int32)), (.int (x2 * w1_1)), (.int (own_at ((wl.set (p2 + (0:Int32)).toNatClampNeg ((own_at wl (p2 + (0:Int32))) + ((x0 * w1_1) >>> ((14:Int32) &&& 31)))).set (p2 + (1:Int32)).toNatClampNeg ((own_at (wl.set (p2 + (0:Int32)).toNatClampNeg ((own_at wl (p2 + (0:Int32))) + ((x0 * w1_1) >>> ((14:Int32) &&& 31)))) (p2 + (1:Int32))) + ((x1 * w1_1) >>> ((14:Int32) &&& 31)))) (p2 + (2:Int32)))), (.int (p2 + (2:Int32))), (.ref a1)])) _
    refine XS.ishr X9.here hx rfl (hb hby d1_38) rfl ?_
    show Steps p.tables e below (T9.setTop (mkF m 39 #[rv a0, rv a1, iv p2, iv p3, iv p4, iv w1_1, iv (2:Int32)] [(.int ((x2 * w1_1) >>> ((14:Int32) &&& 31))), (.int (own_at ((wl.set (p2 + (0:Int32)).toNatClampNeg ((own_at wl (p2 + (0:Int32))) + ((x0 * w1_1) >>> ((14:Int32) &&& 31)))).set (p2 + (1:Int32)).toNatClampNeg ((own_at (wl.set (p2 + (0:Int32)).toNatClampNeg ((own_at wl (p2 + (0:Int32))) + ((x0 * w1_1) >>> ((14:Int32) &&& 31)))) (p2 + (1:Int32))) + ((x1 * w1_1) >>> ((14:Int32) &&& 31)))) (p2 + (2:Int32)))), (.int (p2 + (2:Int32))), (.ref a1)])) _
    refine XS.iadd X9.here hx rfl (hb hby d1_39) rfl ?_
    exact k
  have hbn16 : own_In (p2 + (2:Int32)) ((wl.set (p2 + (0:Int32)).toNatClampNeg ((own_at wl (p2 + (0:Int32))) + ((x0 * w1_1) >>> ((14:Int32) &&& 31)))).set (p2 + (1:Int32)).toNatClampNeg ((own_at (wl.set (p2 + (0:Int32)).toNatClampNeg ((own_at wl (p2 + (0:Int32))) + ((x0 * w1_1) >>> ((14:Int32) &&& 31)))) (p2 + (1:Int32))) + ((x1 * w1_1) >>> ((14:Int32) &&& 31)))).length := (by first | exact hin2 | (simp only [List.length_set]; exact hin2))
  obtain ⟨T15, h15, X15, e15, W15, V15, st15⟩ := own_iastore X9 hx hZ e9 Vw9 (j := (p2 + (2:Int32))) (x := ((own_at ((wl.set (p2 + (0:Int32)).toNatClampNeg ((own_at wl (p2 + (0:Int32))) + ((x0 * w1_1) >>> ((14:Int32) &&& 31)))).set (p2 + (1:Int32)).toNatClampNeg ((own_at (wl.set (p2 + (0:Int32)).toNatClampNeg ((own_at wl (p2 + (0:Int32))) + ((x0 * w1_1) >>> ((14:Int32) &&& 31)))) (p2 + (1:Int32))) + ((x1 * w1_1) >>> ((14:Int32) &&& 31)))) (p2 + (2:Int32))) + ((x2 * w1_1) >>> ((14:Int32) &&& 31)))) hbn16 (g := (mkF m 40 #[rv a0, rv a1, iv p2, iv p3, iv p4, iv w1_1, iv (2:Int32)] [(.int ((own_at ((wl.set (p2 + (0:Int32)).toNatClampNeg ((own_at wl (p2 + (0:Int32))) + ((x0 * w1_1) >>> ((14:Int32) &&& 31)))).set (p2 + (1:Int32)).toNatClampNeg ((own_at (wl.set (p2 + (0:Int32)).toNatClampNeg ((own_at wl (p2 + (0:Int32))) + ((x0 * w1_1) >>> ((14:Int32) &&& 31)))) (p2 + (1:Int32))) + ((x1 * w1_1) >>> ((14:Int32) &&& 31)))) (p2 + (2:Int32))) + ((x2 * w1_1) >>> ((14:Int32) &&& 31)))), (.int (p2 + (2:Int32))), (.ref a1)])) rfl rfl (hb hby d1_40)
  have Kp15 : Keep h0 h15 [a1] := Kp9.wr W15 (Or.inl (List.mem_of_getElem? (i := 0) rfl))
  have Z17 : n0 ≤ h15.size := Nat.le_trans Z11 (Nat.le_of_eq W15.size.symm)
  have N15 := Fr.snoc X15 N9 gq_a1
  have Vw15 : own_Ints Z h15 a1 (((wl.set (p2 + (0:Int32)).toNatClampNeg ((own_at wl (p2 + (0:Int32))) + ((x0 * w1_1) >>> ((14:Int32) &&& 31)))).set (p2 + (1:Int32)).toNatClampNeg ((own_at (wl.set (p2 + (0:Int32)).toNatClampNeg ((own_at wl (p2 + (0:Int32))) + ((x0 * w1_1) >>> ((14:Int32) &&& 31)))) (p2 + (1:Int32))) + ((x1 * w1_1) >>> ((14:Int32) &&& 31)))).set (p2 + (2:Int32)).toNatClampNeg ((own_at ((wl.set (p2 + (0:Int32)).toNatClampNeg ((own_at wl (p2 + (0:Int32))) + ((x0 * w1_1) >>> ((14:Int32) &&& 31)))).set (p2 + (1:Int32)).toNatClampNeg ((own_at (wl.set (p2 + (0:Int32)).toNatClampNeg ((own_at wl (p2 + (0:Int32))) + ((x0 * w1_1) >>> ((14:Int32) &&& 31)))) (p2 + (1:Int32))) + ((x1 * w1_1) >>> ((14:Int32) &&& 31)))) (p2 + (2:Int32))) + ((x2 * w1_1) >>> ((14:Int32) &&& 31)))) := V15
  refine own_pre st15 ?_
  have F18 := (F12.other W15 nq_a0_a1)
  refine own_pre (A := T15.setTop (mkF m 47 #[rv a0, rv a1, iv p2, iv p3, iv p4, iv w1_1, iv (3:Int32)] [])) (fun t k => ?_) ?_
  · show Steps p.tables e below (T15.setTop (mkF m 41 #[rv a0, rv a1, iv p2, iv p3, iv p4, iv w1_1, iv (2:Int32)] [])) _
    refine XS.iinc X15.here hx rfl (hb hby d1_41) rfl (l' := #[rv a0, rv a1, iv p2, iv p3, iv p4, iv w1_1, iv (3:Int32)]) rfl ?_
    show Steps p.tables e below (T15.setTop (mkF m 44 #[rv a0, rv a1, iv p2, iv p3, iv p4, iv w1_1, iv (3:Int32)] [])) _
    refine XS.goto X15.here hx rfl (pc0 := 44) (pc' := 15) rfl (hb hby d1_44) (by decide) (by decide) ?_
    show Steps p.tables e below (T15.setTop (mkF m 15 #[rv a0, rv a1, iv p2, iv p3, iv p4, iv w1_1, iv (3:Int32)] [])) _
    refine XS.iload X15.here hx rfl (hb hby d1_15) rfl ?_
    show Steps p.tables e below (T15.setTop (mkF m 17 #[rv a0, rv a1, iv p2, iv p3, iv p4, iv w1_1, iv (3:Int32)] [(.int (3:Int32))])) _
    refine XS.aloadN X15.here hx rfl (hb hby d1_17) rfl rfl ?_
    show Steps p.tables e below (T15.setTop (mkF m 18 #[rv a0, rv a1, iv p2, iv p3, iv p4, iv w1_1, iv (3:Int32)] [(.ref a0), (.int (3:Int32))])) _
    refine own_arrlenI X15 hx hZ e15 F18 rfl rfl (hb hby d1_18) ?_
    show Steps p.tables e below (T15.setTop (mkF m 19 #[rv a0, rv a1, iv p2, iv p3, iv p4, iv w1_1, iv (3:Int32)] [(.int (3:Int32)), (.int (3:Int32))])) _
    refine XS.icmpYes X15.here hx rfl (pc0 := 19) (pc' := 47) rfl (hb hby d1_19) rfl (XT.ii_ge_t (by decide)) (by decide) (by decide) ?_
    exact k
  exact own_end X15 (BodyLoose.notSynchronized Bd) (fun _ => rfl) (v := none) (fun fs hr => X15.returnOut hx Bd.returns (hb hby d1_47) hr) (by show Q1 Z a0 a1 p2 p3 p4 x0 x1 x2 wl h0 n0 _ T15.heap _; rw [e15]; exact ⟨rfl, N15, Kp15, (by subst hw1_1; first | exact Vw15)⟩) (by decide) (by decide)
theorem own_pn1 : plainName "com/example/rowfold/rowfold/codec/LearningTrainPinLaw" = true := by first | (simp [plainName, overriddenIn]; done) | decide +kernel
theorem d2_0 : decode method_3_code 0 = .ok (.iload_n 0, 1) := by decide +kernel
theorem d2_1 : decode method_3_code 1 = .ok (.iload_n 1, 1) := by decide +kernel
theorem d2_2 : decode method_3_code 2 = .ok (.if_icmp .lt 10, 3) := by decide +kernel
theorem d2_5 : decode method_3_code 5 = .ok (.iload_n 0, 1) := by decide +kernel
theorem d2_6 : decode method_3_code 6 = .ok (.iload_n 1, 1) := by decide +kernel
theorem d2_7 : decode method_3_code 7 = .ok (.iconst 2, 1) := by decide +kernel
theorem d2_8 : decode method_3_code 8 = .ok (.iadd, 1) := by decide +kernel
theorem d2_9 : decode method_3_code 9 = .ok (.if_icmp .le 19, 3) := by decide +kernel
theorem d2_12 : decode method_3_code 12 = .ok (.aload 4, 2) := by decide +kernel
theorem d2_14 : decode method_3_code 14 = .ok (.iload_n 0, 1) := by decide +kernel
theorem d2_15 : decode method_3_code 15 = .ok (.iaload, 1) := by decide +kernel
theorem d2_16 : decode method_3_code 16 = .ok (.aload_n 3, 1) := by decide +kernel
theorem d2_17 : decode method_3_code 17 = .ok (.iload_n 0, 1) := by decide +kernel
theorem d2_18 : decode method_3_code 18 = .ok (.iaload, 1) := by decide +kernel
theorem d2_19 : decode method_3_code 19 = .ok (.if_icmp .ne 7, 3) := by decide +kernel
theorem d2_22 : decode method_3_code 22 = .ok (.iconst 1, 1) := by decide +kernel
theorem d2_23 : decode method_3_code 23 = .ok (.goto 4, 3) := by decide +kernel
theorem d2_26 : decode method_3_code 26 = .ok (.iconst 0, 1) := by decide +kernel
theorem d2_27 : decode method_3_code 27 = .ok (.ireturn, 1) := by decide +kernel
theorem d2_28 : decode method_3_code 28 = .ok (.aload 4, 2) := by decide +kernel
theorem d2_30 : decode method_3_code 30 = .ok (.iload_n 0, 1) := by decide +kernel
theorem d2_31 : decode method_3_code 31 = .ok (.iaload, 1) := by decide +kernel
theorem d2_32 : decode method_3_code 32 = .ok (.aload_n 3, 1) := by decide +kernel
theorem d2_33 : decode method_3_code 33 = .ok (.iload_n 0, 1) := by decide +kernel
theorem d2_34 : decode method_3_code 34 = .ok (.iaload, 1) := by decide +kernel
theorem d2_35 : decode method_3_code 35 = .ok (.isub, 1) := by decide +kernel
theorem d2_36 : decode method_3_code 36 = .ok (.istore 7, 2) := by decide +kernel
theorem d2_38 : decode method_3_code 38 = .ok (.aload_n 2, 1) := by decide +kernel
theorem d2_39 : decode method_3_code 39 = .ok (.iload_n 0, 1) := by decide +kernel
theorem d2_40 : decode method_3_code 40 = .ok (.iload_n 1, 1) := by decide +kernel
theorem d2_41 : decode method_3_code 41 = .ok (.isub, 1) := by decide +kernel
theorem d2_42 : decode method_3_code 42 = .ok (.iaload, 1) := by decide +kernel
theorem d2_43 : decode method_3_code 43 = .ok (.i2l, 1) := by decide +kernel
theorem d2_44 : decode method_3_code 44 = .ok (.lload 5, 2) := by decide +kernel
theorem d2_46 : decode method_3_code 46 = .ok (.lmul, 1) := by decide +kernel
theorem d2_47 : decode method_3_code 47 = .ok (.ldc2_w 24, 3) := by decide +kernel
theorem d2_50 : decode method_3_code 50 = .ok (.lmul, 1) := by decide +kernel
theorem d2_51 : decode method_3_code 51 = .ok (.lstore 8, 2) := by decide +kernel
theorem d2_53 : decode method_3_code 53 = .ok (.iload 7, 2) := by decide +kernel
theorem d2_55 : decode method_3_code 55 = .ok (.i2l, 1) := by decide +kernel
theorem d2_56 : decode method_3_code 56 = .ok (.ldc2_w 26, 3) := by decide +kernel
theorem d2_59 : decode method_3_code 59 = .ok (.lmul, 1) := by decide +kernel
theorem d2_60 : decode method_3_code 60 = .ok (.lload 8, 2) := by decide +kernel
theorem d2_62 : decode method_3_code 62 = .ok (.lcmp, 1) := by decide +kernel
theorem d2_63 : decode method_3_code 63 = .ok (.ifCond .gt 22, 3) := by decide +kernel
theorem d2_66 : decode method_3_code 66 = .ok (.lload 8, 2) := by decide +kernel
theorem d2_68 : decode method_3_code 68 = .ok (.iload 7, 2) := by decide +kernel
theorem d2_70 : decode method_3_code 70 = .ok (.i2l, 1) := by decide +kernel
theorem d2_71 : decode method_3_code 71 = .ok (.lconst 1, 1) := by decide +kernel
theorem d2_72 : decode method_3_code 72 = .ok (.ladd, 1) := by decide +kernel
theorem d2_73 : decode method_3_code 73 = .ok (.ldc2_w 26, 3) := by decide +kernel
theorem d2_76 : decode method_3_code 76 = .ok (.lmul, 1) := by decide +kernel
theorem d2_77 : decode method_3_code 77 = .ok (.lcmp, 1) := by decide +kernel
theorem d2_78 : decode method_3_code 78 = .ok (.ifCond .ge 7, 3) := by decide +kernel
theorem d2_81 : decode method_3_code 81 = .ok (.iconst 1, 1) := by decide +kernel
theorem d2_82 : decode method_3_code 82 = .ok (.goto 4, 3) := by decide +kernel
theorem d2_85 : decode method_3_code 85 = .ok (.iconst 0, 1) := by decide +kernel
theorem d2_86 : decode method_3_code 86 = .ok (.ireturn, 1) := by decide +kernel
theorem ef2 (m : MethodId) (p0 : Int32) (p1 : Int32) (a2 : Addr) (a3 : Addr) (a4 : Addr) (q5 : Int64) : entryFrame m #[(.int p0), (.int p1), (.ref a2), (.ref a3), (.ref a4), (.long q5)] 10 = mkF m 0 #[iv p0, iv p1, rv a2, rv a3, rv a4, .val (.long q5), .second, .unset, .unset, .unset] [] := by first | (simp [entryFrame, mkF, argsToLocals, Value.category]; done) | rfl
def f2 (p0 : Int32) (p1 : Int32) (q5 : Int64) (xs : List Int32) (bs : List Int32) (cs : List Int32) : Int32 := (if p0 < p1 then (let w2_1 : Int32 := (if (own_at cs p0) = (own_at bs p0) then (1:Int32) else (0:Int32)); (w2_1 &&& 1)) else (if (p1 + (2:Int32)) < p0 then (let w2_2 : Int32 := (if (own_at cs p0) = (own_at bs p0) then (1:Int32) else (0:Int32)); (w2_2 &&& 1)) else (let w2_3 : Int32 := ((own_at cs p0) - (own_at bs p0)); let w2_4 : Int64 := ((((own_at xs (p0 - p1)).toInt64) * q5) * (6:Int64)); let w2_5 : Int32 := (if w2_4 < ((w2_3.toInt64) * (16384:Int64)) then (0:Int32) else (if w2_4 < (((w2_3.toInt64) + (1:Int64)) * (16384:Int64)) then (1:Int32) else (0:Int32))); (w2_5 &&& 1))))
def Q2 (Z : State) (p0 : Int32) (p1 : Int32) (a2 : Addr) (a3 : Addr) (a4 : Addr) (q5 : Int64) (xs : List Int32) (bs : List Int32) (cs : List Int32) (h0 : Heap) (n0 : Nat) (v : Option Value) (h : Heap) (L : List Loc) : Prop := v = some (.int (f2 p0 p1 q5 xs bs cs)) ∧ Fr n0 L ∧ h = h0
set_option maxRecDepth 65536 in
set_option maxHeartbeats 40000000 in
theorem rm2 (l : Launch) (Z : State) (aZ : Array Value) (hw : ∀ d ∈ tables_1, d.before aZ Z = true) (ws : List Jvm.Cond) (p0 : Int32) (p1 : Int32) (a2 : Addr) (a3 : Addr) (a4 : Addr) (q5 : Int64) (xs : List Int32) (bs : List Int32) (cs : List Int32) (h0 : Heap) (n0 : Nat) (Z0 : n0 ≤ h0.size) (P0 : own_Ints Z h0 a2 xs) (P1 : own_Ints Z h0 a3 bs) (P2 : own_Ints Z h0 a4 cs) (hbin : own_In p0 bs.length) (hain : own_In p0 cs.length) (hsub : ¬ (p0 < p1) → ¬ ((p1 + (2:Int32)) < p0) → own_In (p0 - p1) xs.length) :
    MetFree l (⟨"com/example/rowfold/rowfold/codec/LearningTrainPinLaw", "ok", "(II[I[I[IJ)Z"⟩ : MethodName) (head1 (Jvm.Cond.code (⟨"com/example/rowfold/rowfold/codec/LearningTrainPinLaw", "ok", "(II[I[I[IJ)Z"⟩ : MethodName) method_3_code 10 (some .boolean) :: ws) ({ frames := 0, cells := 0, slots := 0, locals := 0 } : Room)) (fun a U => a = #[(.int p0), (.int p1), (.ref a2), (.ref a3), (.ref a4), (.long q5)] ∧ Z.Warmed39 U.vm ∧ U.heap = h0) (fun _ _ _ _ _ => True) (fun _ U o U' => ∃ v L, o = .returned v ∧ Q2 Z p0 p1 a2 a3 a4 q5 xs bs cs h0 n0 v U'.heap L ∧ FrameEnd U o U' L ({ frames := 0, cells := 0, slots := 0, locals := 0 } : Room).cells ({ frames := 0, cells := 0, slots := 0, locals := 0 } : Room).slots) := by
  refine MetFree.of_bodySF (plainFor_of_name own_pn1) hisR ?_
  intro p e s m args below meth c s₁ Bd hml0 hP hK
  obtain ⟨rfl, hZ, hh⟩ := hP
  have hx := Bd.exec
  have hby := Bd.bytes
  have hml : c.maxLocals = 10 := hml0
  have hown : s.vm.findClass "com/example/rowfold/rowfold/codec/LearningTrainPinLaw" = some m.cls := findClass_of_methodNamed Bd.named
  have hnm := (name_of_methodNamed Bd.named Bd.method).1
  have X0 : Stand p l e ({ frames := 0, cells := 0, slots := 0, locals := 0 } : Room) s m #[(.int p0), (.int p1), (.ref a2), (.ref a3), (.ref a4), (.long q5)] below meth c s₁ [] 0 0 := Stand.of_body Bd
  have e0 : s₁.heap = h0 := by rw [← hh, Bd.state]; rfl
  have N0 := Fr.nil n0
  show own_Goes p e below s (Q2 Z p0 p1 a2 a3 a4 q5 xs bs cs h0 n0) ({ frames := 0, cells := 0, slots := 0, locals := 0 } : Room).cells ({ frames := 0, cells := 0, slots := 0, locals := 0 } : Room).slots _
  refine own_pre (fun t k => castTop (ef2 m p0 p1 a2 a3 a4 q5) k) ?_
  refine own_pre (A := s₁.setTop (mkF m 2 #[iv p0, iv p1, rv a2, rv a3, rv a4, .val (.long q5), .second, .unset, .unset, .unset] [(.int p1), (.int p0)])) (fun t k => ?_) ?_
  · show Steps p.tables e below (s₁.setTop (mkF m 0 #[iv p0, iv p1, rv a2, rv a3, rv a4, .val (.long q5), .second, .unset, .unset, .unset] [])) _
    refine XS.iloadN X0.here hx rfl (hb hby d2_0) rfl ?_
    show Steps p.tables e below (s₁.setTop (mkF m 1 #[iv p0, iv p1, rv a2, rv a3, rv a4, .val (.long q5), .second, .unset, .unset, .unset] [(.int p0)])) _
    refine XS.iloadN X0.here hx rfl (hb hby d2_1) rfl ?_
    exact k
  by_cases hs2_1 : p0 < p1
  · have hbn19 : own_In p0 cs.length := hain
    have hbn20 : own_In p0 bs.length := hbin
    refine own_pre (A := s₁.setTop (mkF m 19 #[iv p0, iv p1, rv a2, rv a3, rv a4, .val (.long q5), .second, .unset, .unset, .unset] [(.int (own_at bs p0)), (.int (own_at cs p0))])) (fun t k => ?_) ?_
    · show Steps p.tables e below (s₁.setTop (mkF m 2 #[iv p0, iv p1, rv a2, rv a3, rv a4, .val (.long q5), .second, .unset, .unset, .unset] [(.int p1), (.int p0)])) _
      refine XS.icmpYes X0.here hx rfl (pc0 := 2) (pc' := 12) rfl (hb hby d2_2) rfl (XT.ii_lt_t hs2_1) (by decide) (by decide) ?_
      show Steps p.tables e below (s₁.setTop (mkF m 12 #[iv p0, iv p1, rv a2, rv a3, rv a4, .val (.long q5), .second, .unset, .unset, .unset] [])) _
      refine XS.aload X0.here hx rfl (hb hby d2_12) rfl rfl ?_
      show Steps p.tables e below (s₁.setTop (mkF m 14 #[iv p0, iv p1, rv a2, rv a3, rv a4, .val (.long q5), .second, .unset, .unset, .unset] [(.ref a4)])) _
      refine XS.iloadN X0.here hx rfl (hb hby d2_14) rfl ?_
      show Steps p.tables e below (s₁.setTop (mkF m 15 #[iv p0, iv p1, rv a2, rv a3, rv a4, .val (.long q5), .second, .unset, .unset, .unset] [(.int p0), (.ref a4)])) _
      refine own_iaload X0 hx hZ e0 P2 hbn19 rfl rfl (hb hby d2_15) ?_
      show Steps p.tables e below (s₁.setTop (mkF m 16 #[iv p0, iv p1, rv a2, rv a3, rv a4, .val (.long q5), .second, .unset, .unset, .unset] [(.int (own_at cs p0))])) _
      refine XS.aloadN X0.here hx rfl (hb hby d2_16) rfl rfl ?_
      show Steps p.tables e below (s₁.setTop (mkF m 17 #[iv p0, iv p1, rv a2, rv a3, rv a4, .val (.long q5), .second, .unset, .unset, .unset] [(.ref a3), (.int (own_at cs p0))])) _
      refine XS.iloadN X0.here hx rfl (hb hby d2_17) rfl ?_
      show Steps p.tables e below (s₁.setTop (mkF m 18 #[iv p0, iv p1, rv a2, rv a3, rv a4, .val (.long q5), .second, .unset, .unset, .unset] [(.int p0), (.ref a3), (.int (own_at cs p0))])) _
      refine own_iaload X0 hx hZ e0 P1 hbn20 rfl rfl (hb hby d2_18) ?_
      exact k
    obtain ⟨w2_1, hw2_1⟩ : ∃ z : Int32, z = (if (own_at cs p0) = (own_at bs p0) then (1:Int32) else (0:Int32)) := ⟨_, rfl⟩
    refine own_pre (A := s₁.setTop (mkF m 27 #[iv p0, iv p1, rv a2, rv a3, rv a4, .val (.long q5), .second, .unset, .unset, .unset] [(.int w2_1)])) (fun t k => ?_) ?_
    · show Steps p.tables e below (s₁.setTop (mkF m 19 #[iv p0, iv p1, rv a2, rv a3, rv a4, .val (.long q5), .second, .unset, .unset, .unset] [(.int (own_at bs p0)), (.int (own_at cs p0))])) _
      by_cases hm19_2 : (own_at cs p0) = (own_at bs p0)
      · refine XS.icmpNo X0.here hx rfl (hb hby d2_19) rfl (XT.ii_ne_f hm19_2) ?_
        show Steps p.tables e below (s₁.setTop (mkF m 22 #[iv p0, iv p1, rv a2, rv a3, rv a4, .val (.long q5), .second, .unset, .unset, .unset] [])) _
        refine XS.iconst X0.here hx rfl (hb hby d2_22) ?_
        show Steps p.tables e below (s₁.setTop (mkF m 23 #[iv p0, iv p1, rv a2, rv a3, rv a4, .val (.long q5), .second, .unset, .unset, .unset] [(.int (1:Int32))])) _
        refine XS.goto X0.here hx rfl (pc0 := 23) (pc' := 27) rfl (hb hby d2_23) (by decide) (by decide) ?_
        rw [hw2_1.trans (if_pos hm19_2)] at k
        exact k
      · refine XS.icmpYes X0.here hx rfl (pc0 := 19) (pc' := 26) rfl (hb hby d2_19) rfl (XT.ii_ne_t hm19_2) (by decide) (by decide) ?_
        show Steps p.tables e below (s₁.setTop (mkF m 26 #[iv p0, iv p1, rv a2, rv a3, rv a4, .val (.long q5), .second, .unset, .unset, .unset] [])) _
        refine XS.iconst X0.here hx rfl (hb hby d2_26) ?_
        rw [hw2_1.trans (if_neg hm19_2)] at k
        exact k
    have hv21 : (w2_1 &&& 1) = f2 p0 p1 q5 xs bs cs := by subst hw2_1; simp only [f2, if_pos hs2_1]
    exact own_end X0 (BodyLoose.notSynchronized Bd) (fun h => by rw [Bd.returns] at h; cases h) (v := some (.int (w2_1 &&& 1))) (fun fs hr => retN X0 hx (t := .boolean) Bd.returns (by simp) (hb hby d2_27) hr) (by show Q2 Z p0 p1 a2 a3 a4 q5 xs bs cs h0 n0 _ s₁.heap _; rw [e0]; exact ⟨(congrArg (fun z => some (Value.int z)) hv21), N0, rfl⟩) (by decide) (by decide)
  · refine own_pre (A := s₁.setTop (mkF m 9 #[iv p0, iv p1, rv a2, rv a3, rv a4, .val (.long q5), .second, .unset, .unset, .unset] [(.int (p1 + (2:Int32))), (.int p0)])) (fun t k => ?_) ?_
    · show Steps p.tables e below (s₁.setTop (mkF m 2 #[iv p0, iv p1, rv a2, rv a3, rv a4, .val (.long q5), .second, .unset, .unset, .unset] [(.int p1), (.int p0)])) _
      refine XS.icmpNo X0.here hx rfl (hb hby d2_2) rfl (XT.ii_lt_f hs2_1) ?_
      show Steps p.tables e below (s₁.setTop (mkF m 5 #[iv p0, iv p1, rv a2, rv a3, rv a4, .val (.long q5), .second, .unset, .unset, .unset] [])) _
      refine XS.iloadN X0.here hx rfl (hb hby d2_5) rfl ?_
      show Steps p.tables e below (s₁.setTop (mkF m 6 #[iv p0, iv p1, rv a2, rv a3, rv a4, .val (.long q5), .second, .unset, .unset, .unset] [(.int p0)])) _
      refine XS.iloadN X0.here hx rfl (hb hby d2_6) rfl ?_
      show Steps p.tables e below (s₁.setTop (mkF m 7 #[iv p0, iv p1, rv a2, rv a3, rv a4, .val (.long q5), .second, .unset, .unset, .unset] [(.int p1), (.int p0)])) _
      refine XS.iconst X0.here hx rfl (hb hby d2_7) ?_
      show Steps p.tables e below (s₁.setTop (mkF m 8 #[iv p0, iv p1, rv a2, rv a3, rv a4, .val (.long q5), .second, .unset, .unset, .unset] [(.int (2:Int32)), (.int p1), (.int p0)])) _
      refine XS.iadd X0.here hx rfl (hb hby d2_8) rfl ?_
      exact k
    by_cases hs9_3 : (p1 + (2:Int32)) < p0
    · have hbn22 : own_In p0 cs.length := hain
      have hbn23 : own_In p0 bs.length := hbin
      refine own_pre (A := s₁.setTop (mkF m 19 #[iv p0, iv p1, rv a2, rv a3, rv a4, .val (.long q5), .second, .unset, .unset, .unset] [(.int (own_at bs p0)), (.int (own_at cs p0))])) (fun t k => ?_) ?_
      · show Steps p.tables e below (s₁.setTop (mkF m 9 #[iv p0, iv p1, rv a2, rv a3, rv a4, .val (.long q5), .second, .unset, .unset, .unset] [(.int (p1 + (2:Int32))), (.int p0)])) _
        refine XS.icmpNo X0.here hx rfl (hb hby d2_9) rfl (XT.ii_le_f hs9_3) ?_
        show Steps p.tables e below (s₁.setTop (mkF m 12 #[iv p0, iv p1, rv a2, rv a3, rv a4, .val (.long q5), .second, .unset, .unset, .unset] [])) _
        refine XS.aload X0.here hx rfl (hb hby d2_12) rfl rfl ?_
        show Steps p.tables e below (s₁.setTop (mkF m 14 #[iv p0, iv p1, rv a2, rv a3, rv a4, .val (.long q5), .second, .unset, .unset, .unset] [(.ref a4)])) _
        refine XS.iloadN X0.here hx rfl (hb hby d2_14) rfl ?_
        show Steps p.tables e below (s₁.setTop (mkF m 15 #[iv p0, iv p1, rv a2, rv a3, rv a4, .val (.long q5), .second, .unset, .unset, .unset] [(.int p0), (.ref a4)])) _
        refine own_iaload X0 hx hZ e0 P2 hbn22 rfl rfl (hb hby d2_15) ?_
        show Steps p.tables e below (s₁.setTop (mkF m 16 #[iv p0, iv p1, rv a2, rv a3, rv a4, .val (.long q5), .second, .unset, .unset, .unset] [(.int (own_at cs p0))])) _
        refine XS.aloadN X0.here hx rfl (hb hby d2_16) rfl rfl ?_
        show Steps p.tables e below (s₁.setTop (mkF m 17 #[iv p0, iv p1, rv a2, rv a3, rv a4, .val (.long q5), .second, .unset, .unset, .unset] [(.ref a3), (.int (own_at cs p0))])) _
        refine XS.iloadN X0.here hx rfl (hb hby d2_17) rfl ?_
        show Steps p.tables e below (s₁.setTop (mkF m 18 #[iv p0, iv p1, rv a2, rv a3, rv a4, .val (.long q5), .second, .unset, .unset, .unset] [(.int p0), (.ref a3), (.int (own_at cs p0))])) _
        refine own_iaload X0 hx hZ e0 P1 hbn23 rfl rfl (hb hby d2_18) ?_
        exact k
      obtain ⟨w2_2, hw2_2⟩ : ∃ z : Int32, z = (if (own_at cs p0) = (own_at bs p0) then (1:Int32) else (0:Int32)) := ⟨_, rfl⟩
      refine own_pre (A := s₁.setTop (mkF m 27 #[iv p0, iv p1, rv a2, rv a3, rv a4, .val (.long q5), .second, .unset, .unset, .unset] [(.int w2_2)])) (fun t k => ?_) ?_
      · show Steps p.tables e below (s₁.setTop (mkF m 19 #[iv p0, iv p1, rv a2, rv a3, rv a4, .val (.long q5), .second, .unset, .unset, .unset] [(.int (own_at bs p0)), (.int (own_at cs p0))])) _
        by_cases hm19_4 : (own_at cs p0) = (own_at bs p0)
        · refine XS.icmpNo X0.here hx rfl (hb hby d2_19) rfl (XT.ii_ne_f hm19_4) ?_
          show Steps p.tables e below (s₁.setTop (mkF m 22 #[iv p0, iv p1, rv a2, rv a3, rv a4, .val (.long q5), .second, .unset, .unset, .unset] [])) _
          refine XS.iconst X0.here hx rfl (hb hby d2_22) ?_
          show Steps p.tables e below (s₁.setTop (mkF m 23 #[iv p0, iv p1, rv a2, rv a3, rv a4, .val (.long q5), .second, .unset, .unset, .unset] [(.int (1:Int32))])) _
          refine XS.goto X0.here hx rfl (pc0 := 23) (pc' := 27) rfl (hb hby d2_23) (by decide) (by decide) ?_
          rw [hw2_2.trans (if_pos hm19_4)] at k
          exact k
        · refine XS.icmpYes X0.here hx rfl (pc0 := 19) (pc' := 26) rfl (hb hby d2_19) rfl (XT.ii_ne_t hm19_4) (by decide) (by decide) ?_
          show Steps p.tables e below (s₁.setTop (mkF m 26 #[iv p0, iv p1, rv a2, rv a3, rv a4, .val (.long q5), .second, .unset, .unset, .unset] [])) _
          refine XS.iconst X0.here hx rfl (hb hby d2_26) ?_
          rw [hw2_2.trans (if_neg hm19_4)] at k
          exact k
      have hv24 : (w2_2 &&& 1) = f2 p0 p1 q5 xs bs cs := by subst hw2_2; simp only [f2, if_neg hs2_1, if_pos hs9_3]
      exact own_end X0 (BodyLoose.notSynchronized Bd) (fun h => by rw [Bd.returns] at h; cases h) (v := some (.int (w2_2 &&& 1))) (fun fs hr => retN X0 hx (t := .boolean) Bd.returns (by simp) (hb hby d2_27) hr) (by show Q2 Z p0 p1 a2 a3 a4 q5 xs bs cs h0 n0 _ s₁.heap _; rw [e0]; exact ⟨(congrArg (fun z => some (Value.int z)) hv24), N0, rfl⟩) (by decide) (by decide)
    · have hbn25 : own_In p0 cs.length := hain
      have hbn26 : own_In p0 bs.length := hbin
      obtain ⟨w2_3, hw2_3⟩ : ∃ z : Int32, z = ((own_at cs p0) - (own_at bs p0)) := ⟨_, rfl⟩
      have hbn27 : own_In (p0 - p1) xs.length := hsub hs2_1 hs9_3
      obtain ⟨w2_4, hw2_4⟩ : ∃ z : Int64, z = ((((own_at xs (p0 - p1)).toInt64) * q5) * (6:Int64)) := ⟨_, rfl⟩
      refine own_pre (A := s₁.setTop (mkF m 63 #[iv p0, iv p1, rv a2, rv a3, rv a4, .val (.long q5), .second, iv w2_3, .val (.long w2_4), .second] [(.int (XT.cmpL ((w2_3.toInt64) * (16384:Int64)) w2_4))])) (fun t k => ?_) ?_
      · show Steps p.tables e below (s₁.setTop (mkF m 9 #[iv p0, iv p1, rv a2, rv a3, rv a4, .val (.long q5), .second, .unset, .unset, .unset] [(.int (p1 + (2:Int32))), (.int p0)])) _
        refine XS.icmpYes X0.here hx rfl (pc0 := 9) (pc' := 28) rfl (hb hby d2_9) rfl (XT.ii_le_t hs9_3) (by decide) (by decide) ?_
        show Steps p.tables e below (s₁.setTop (mkF m 28 #[iv p0, iv p1, rv a2, rv a3, rv a4, .val (.long q5), .second, .unset, .unset, .unset] [])) _
        refine XS.aload X0.here hx rfl (hb hby d2_28) rfl rfl ?_
        show Steps p.tables e below (s₁.setTop (mkF m 30 #[iv p0, iv p1, rv a2, rv a3, rv a4, .val (.long q5), .second, .unset, .unset, .unset] [(.ref a4)])) _
        refine XS.iloadN X0.here hx rfl (hb hby d2_30) rfl ?_
        show Steps p.tables e below (s₁.setTop (mkF m 31 #[iv p0, iv p1, rv a2, rv a3, rv a4, .val (.long q5), .second, .unset, .unset, .unset] [(.int p0), (.ref a4)])) _
        refine own_iaload X0 hx hZ e0 P2 hbn25 rfl rfl (hb hby d2_31) ?_
        show Steps p.tables e below (s₁.setTop (mkF m 32 #[iv p0, iv p1, rv a2, rv a3, rv a4, .val (.long q5), .second, .unset, .unset, .unset] [(.int (own_at cs p0))])) _
        refine XS.aloadN X0.here hx rfl (hb hby d2_32) rfl rfl ?_
        show Steps p.tables e below (s₁.setTop (mkF m 33 #[iv p0, iv p1, rv a2, rv a3, rv a4, .val (.long q5), .second, .unset, .unset, .unset] [(.ref a3), (.int (own_at cs p0))])) _
        refine XS.iloadN X0.here hx rfl (hb hby d2_33) rfl ?_
        show Steps p.tables e below (s₁.setTop (mkF m 34 #[iv p0, iv p1, rv a2, rv a3, rv a4, .val (.long q5), .second, .unset, .unset, .unset] [(.int p0), (.ref a3), (.int (own_at cs p0))])) _
        refine own_iaload X0 hx hZ e0 P1 hbn26 rfl rfl (hb hby d2_34) ?_
        show Steps p.tables e below (s₁.setTop (mkF m 35 #[iv p0, iv p1, rv a2, rv a3, rv a4, .val (.long q5), .second, .unset, .unset, .unset] [(.int (own_at bs p0)), (.int (own_at cs p0))])) _
        refine XS.isub X0.here hx rfl (hb hby d2_35) rfl ?_
        show Steps p.tables e below (s₁.setTop (mkF m 36 #[iv p0, iv p1, rv a2, rv a3, rv a4, .val (.long q5), .second, .unset, .unset, .unset] [(.int ((own_at cs p0) - (own_at bs p0)))])) _
        refine XS.istore X0.here hx rfl (hb hby d2_36) rfl (l' := #[iv p0, iv p1, rv a2, rv a3, rv a4, .val (.long q5), .second, iv w2_3, .unset, .unset]) (by rw [hw2_3]; rfl) ?_
        show Steps p.tables e below (s₁.setTop (mkF m 38 #[iv p0, iv p1, rv a2, rv a3, rv a4, .val (.long q5), .second, iv w2_3, .unset, .unset] [])) _
        refine XS.aloadN X0.here hx rfl (hb hby d2_38) rfl rfl ?_
        show Steps p.tables e below (s₁.setTop (mkF m 39 #[iv p0, iv p1, rv a2, rv a3, rv a4, .val (.long q5), .second, iv w2_3, .unset, .unset] [(.ref a2)])) _
        refine XS.iloadN X0.here hx rfl (hb hby d2_39) rfl ?_
        show Steps p.tables e below (s₁.setTop (mkF m 40 #[iv p0, iv p1, rv a2, rv a3, rv a4, .val (.long q5), .second, iv w2_3, .unset, .unset] [(.int p0), (.ref a2)])) _
        refine XS.iloadN X0.here hx rfl (hb hby d2_40) rfl ?_
        show Steps p.tables e below (s₁.setTop (mkF m 41 #[iv p0, iv p1, rv a2, rv a3, rv a4, .val (.long q5), .second, iv w2_3, .unset, .unset] [(.int p1), (.int p0), (.ref a2)])) _
        refine XS.isub X0.here hx rfl (hb hby d2_41) rfl ?_
        show Steps p.tables e below (s₁.setTop (mkF m 42 #[iv p0, iv p1, rv a2, rv a3, rv a4, .val (.long q5), .second, iv w2_3, .unset, .unset] [(.int (p0 - p1)), (.ref a2)])) _
        refine own_iaload X0 hx hZ e0 P0 hbn27 rfl rfl (hb hby d2_42) ?_
        show Steps p.tables e below (s₁.setTop (mkF m 43 #[iv p0, iv p1, rv a2, rv a3, rv a4, .val (.long q5), .second, iv w2_3, .unset, .unset] [(.int (own_at xs (p0 - p1)))])) _
        refine XS.i2l X0.here hx rfl (hb hby d2_43) rfl ?_
        show Steps p.tables e below (s₁.setTop (mkF m 44 #[iv p0, iv p1, rv a2, rv a3, rv a4, .val (.long q5), .second, iv w2_3, .unset, .unset] [(.long ((own_at xs (p0 - p1)).toInt64))])) _
        refine XS.lload X0.here hx rfl (hb hby d2_44) rfl ?_
        show Steps p.tables e below (s₁.setTop (mkF m 46 #[iv p0, iv p1, rv a2, rv a3, rv a4, .val (.long q5), .second, iv w2_3, .unset, .unset] [(.long q5), (.long ((own_at xs (p0 - p1)).toInt64))])) _
        refine XS.lmul X0.here hx rfl (hb hby d2_46) rfl ?_
        show Steps p.tables e below (s₁.setTop (mkF m 47 #[iv p0, iv p1, rv a2, rv a3, rv a4, .val (.long q5), .second, iv w2_3, .unset, .unset] [(.long (((own_at xs (p0 - p1)).toInt64) * q5))])) _
        refine Jvm.Stand.ldc2J X0 hx hown (mvT hZ (own_h hw 12 rfl)) rfl (hb hby d2_47) ?_
        show Steps p.tables e below (s₁.setTop (mkF m 50 #[iv p0, iv p1, rv a2, rv a3, rv a4, .val (.long q5), .second, iv w2_3, .unset, .unset] [(.long (6:Int64)), (.long (((own_at xs (p0 - p1)).toInt64) * q5))])) _
        refine XS.lmul X0.here hx rfl (hb hby d2_50) rfl ?_
        show Steps p.tables e below (s₁.setTop (mkF m 51 #[iv p0, iv p1, rv a2, rv a3, rv a4, .val (.long q5), .second, iv w2_3, .unset, .unset] [(.long ((((own_at xs (p0 - p1)).toInt64) * q5) * (6:Int64)))])) _
        refine XS.lstore X0.here hx rfl (hb hby d2_51) rfl (l' := #[iv p0, iv p1, rv a2, rv a3, rv a4, .val (.long q5), .second, iv w2_3, .val (.long w2_4), .second]) (by rw [hw2_4]; rfl) ?_
        show Steps p.tables e below (s₁.setTop (mkF m 53 #[iv p0, iv p1, rv a2, rv a3, rv a4, .val (.long q5), .second, iv w2_3, .val (.long w2_4), .second] [])) _
        refine XS.iload X0.here hx rfl (hb hby d2_53) rfl ?_
        show Steps p.tables e below (s₁.setTop (mkF m 55 #[iv p0, iv p1, rv a2, rv a3, rv a4, .val (.long q5), .second, iv w2_3, .val (.long w2_4), .second] [(.int w2_3)])) _
        refine XS.i2l X0.here hx rfl (hb hby d2_55) rfl ?_
        show Steps p.tables e below (s₁.setTop (mkF m 56 #[iv p0, iv p1, rv a2, rv a3, rv a4, .val (.long q5), .second, iv w2_3, .val (.long w2_4), .second] [(.long (w2_3.toInt64))])) _
        refine Jvm.Stand.ldc2J X0 hx hown (mvT hZ (own_h hw 13 rfl)) rfl (hb hby d2_56) ?_
        show Steps p.tables e below (s₁.setTop (mkF m 59 #[iv p0, iv p1, rv a2, rv a3, rv a4, .val (.long q5), .second, iv w2_3, .val (.long w2_4), .second] [(.long (16384:Int64)), (.long (w2_3.toInt64))])) _
        refine XS.lmul X0.here hx rfl (hb hby d2_59) rfl ?_
        show Steps p.tables e below (s₁.setTop (mkF m 60 #[iv p0, iv p1, rv a2, rv a3, rv a4, .val (.long q5), .second, iv w2_3, .val (.long w2_4), .second] [(.long ((w2_3.toInt64) * (16384:Int64)))])) _
        refine XS.lload X0.here hx rfl (hb hby d2_60) rfl ?_
        show Steps p.tables e below (s₁.setTop (mkF m 62 #[iv p0, iv p1, rv a2, rv a3, rv a4, .val (.long q5), .second, iv w2_3, .val (.long w2_4), .second] [(.long w2_4), (.long ((w2_3.toInt64) * (16384:Int64)))])) _
        refine XT.lcmp X0.here hx rfl (hb hby d2_62) rfl ?_
        exact k
      obtain ⟨w2_5, hw2_5⟩ : ∃ z : Int32, z = (if w2_4 < ((w2_3.toInt64) * (16384:Int64)) then (0:Int32) else (if w2_4 < (((w2_3.toInt64) + (1:Int64)) * (16384:Int64)) then (1:Int32) else (0:Int32))) := ⟨_, rfl⟩
      refine own_pre (A := s₁.setTop (mkF m 86 #[iv p0, iv p1, rv a2, rv a3, rv a4, .val (.long q5), .second, iv w2_3, .val (.long w2_4), .second] [(.int w2_5)])) (fun t k => ?_) ?_
      · show Steps p.tables e below (s₁.setTop (mkF m 63 #[iv p0, iv p1, rv a2, rv a3, rv a4, .val (.long q5), .second, iv w2_3, .val (.long w2_4), .second] [(.int (XT.cmpL ((w2_3.toInt64) * (16384:Int64)) w2_4))])) _
        by_cases hm63_5 : w2_4 < ((w2_3.toInt64) * (16384:Int64))
        · refine XS.ifYes X0.here hx rfl (pc0 := 63) (pc' := 85) rfl (hb hby d2_63) rfl (XT.ll_gt_t hm63_5) (by decide) (by decide) ?_
          show Steps p.tables e below (s₁.setTop (mkF m 85 #[iv p0, iv p1, rv a2, rv a3, rv a4, .val (.long q5), .second, iv w2_3, .val (.long w2_4), .second] [])) _
          refine XS.iconst X0.here hx rfl (hb hby d2_85) ?_
          rw [hw2_5.trans (if_pos hm63_5)] at k
          exact k
        · refine XS.ifNo X0.here hx rfl (hb hby d2_63) rfl (XT.ll_gt_f hm63_5) ?_
          show Steps p.tables e below (s₁.setTop (mkF m 66 #[iv p0, iv p1, rv a2, rv a3, rv a4, .val (.long q5), .second, iv w2_3, .val (.long w2_4), .second] [])) _
          refine XS.lload X0.here hx rfl (hb hby d2_66) rfl ?_
          show Steps p.tables e below (s₁.setTop (mkF m 68 #[iv p0, iv p1, rv a2, rv a3, rv a4, .val (.long q5), .second, iv w2_3, .val (.long w2_4), .second] [(.long w2_4)])) _
          refine XS.iload X0.here hx rfl (hb hby d2_68) rfl ?_
          show Steps p.tables e below (s₁.setTop (mkF m 70 #[iv p0, iv p1, rv a2, rv a3, rv a4, .val (.long q5), .second, iv w2_3, .val (.long w2_4), .second] [(.int w2_3), (.long w2_4)])) _
          refine XS.i2l X0.here hx rfl (hb hby d2_70) rfl ?_
          show Steps p.tables e below (s₁.setTop (mkF m 71 #[iv p0, iv p1, rv a2, rv a3, rv a4, .val (.long q5), .second, iv w2_3, .val (.long w2_4), .second] [(.long (w2_3.toInt64)), (.long w2_4)])) _
          refine XS.lconst X0.here hx rfl (hb hby d2_71) ?_
          show Steps p.tables e below (s₁.setTop (mkF m 72 #[iv p0, iv p1, rv a2, rv a3, rv a4, .val (.long q5), .second, iv w2_3, .val (.long w2_4), .second] [(.long (1:Int64)), (.long (w2_3.toInt64)), (.long w2_4)])) _
          refine XS.ladd X0.here hx rfl (hb hby d2_72) rfl ?_
          show Steps p.tables e below (s₁.setTop (mkF m 73 #[iv p0, iv p1, rv a2, rv a3, rv a4, .val (.long q5), .second, iv w2_3, .val (.long w2_4), .second] [(.long ((w2_3.toInt64) + (1:Int64))), (.long w2_4)])) _
          refine Jvm.Stand.ldc2J X0 hx hown (mvT hZ (own_h hw 13 rfl)) rfl (hb hby d2_73) ?_
          show Steps p.tables e below (s₁.setTop (mkF m 76 #[iv p0, iv p1, rv a2, rv a3, rv a4, .val (.long q5), .second, iv w2_3, .val (.long w2_4), .second] [(.long (16384:Int64)), (.long ((w2_3.toInt64) + (1:Int64))), (.long w2_4)])) _
          refine XS.lmul X0.here hx rfl (hb hby d2_76) rfl ?_
          show Steps p.tables e below (s₁.setTop (mkF m 77 #[iv p0, iv p1, rv a2, rv a3, rv a4, .val (.long q5), .second, iv w2_3, .val (.long w2_4), .second] [(.long (((w2_3.toInt64) + (1:Int64)) * (16384:Int64))), (.long w2_4)])) _
          refine XT.lcmp X0.here hx rfl (hb hby d2_77) rfl ?_
          show Steps p.tables e below (s₁.setTop (mkF m 78 #[iv p0, iv p1, rv a2, rv a3, rv a4, .val (.long q5), .second, iv w2_3, .val (.long w2_4), .second] [(.int (XT.cmpL w2_4 (((w2_3.toInt64) + (1:Int64)) * (16384:Int64))))])) _
          by_cases hm78_6 : w2_4 < (((w2_3.toInt64) + (1:Int64)) * (16384:Int64))
          · refine XS.ifNo X0.here hx rfl (hb hby d2_78) rfl (XT.ll_ge_f hm78_6) ?_
            show Steps p.tables e below (s₁.setTop (mkF m 81 #[iv p0, iv p1, rv a2, rv a3, rv a4, .val (.long q5), .second, iv w2_3, .val (.long w2_4), .second] [])) _
            refine XS.iconst X0.here hx rfl (hb hby d2_81) ?_
            show Steps p.tables e below (s₁.setTop (mkF m 82 #[iv p0, iv p1, rv a2, rv a3, rv a4, .val (.long q5), .second, iv w2_3, .val (.long w2_4), .second] [(.int (1:Int32))])) _
            refine XS.goto X0.here hx rfl (pc0 := 82) (pc' := 86) rfl (hb hby d2_82) (by decide) (by decide) ?_
            rw [hw2_5.trans ((if_neg hm63_5).trans (if_pos hm78_6))] at k
            exact k
          · refine XS.ifYes X0.here hx rfl (pc0 := 78) (pc' := 85) rfl (hb hby d2_78) rfl (XT.ll_ge_t hm78_6) (by decide) (by decide) ?_
            show Steps p.tables e below (s₁.setTop (mkF m 85 #[iv p0, iv p1, rv a2, rv a3, rv a4, .val (.long q5), .second, iv w2_3, .val (.long w2_4), .second] [])) _
            refine XS.iconst X0.here hx rfl (hb hby d2_85) ?_
            rw [hw2_5.trans ((if_neg hm63_5).trans (if_neg hm78_6))] at k
            exact k
      have hv28 : (w2_5 &&& 1) = f2 p0 p1 q5 xs bs cs := by subst hw2_3 hw2_4 hw2_5; simp only [f2, if_neg hs2_1, if_neg hs9_3]
      exact own_end X0 (BodyLoose.notSynchronized Bd) (fun h => by rw [Bd.returns] at h; cases h) (v := some (.int (w2_5 &&& 1))) (fun fs hr => retN X0 hx (t := .boolean) Bd.returns (by simp) (hb hby d2_86) hr) (by show Q2 Z p0 p1 a2 a3 a4 q5 xs bs cs h0 n0 _ s₁.heap _; rw [e0]; exact ⟨(congrArg (fun z => some (Value.int z)) hv28), N0, rfl⟩) (by decide) (by decide)
theorem own_trlen (x0 x1 x2 : Int32) (ws : List Int32) (p2 er : Int32) : (own_train x0 x1 x2 ws p2 er).length = ws.length := by simp [own_train, own_upd]
theorem own_a3 {p w : Int32} (hw : w = ((p &&& (2147483647:Int32)) % (3:Int32))) : w = 0 ∨ w = 1 ∨ w = 2 := by
  have e1 : (p &&& (2147483647:Int32)).toInt = p.toInt % 2 ^ 31 := Jvm.Kit.i32_mask p _ (k := 31) (by decide) (by decide)
  have l3 : (3:Int32).toInt = 3 := by decide
  have e : w.toInt = (p.toInt % 2 ^ 31) % 3 := by rw [hw, Int32.toInt_mod, e1, l3, Int.tmod_eq_emod_of_nonneg (by omega)]
  have l0 : (0:Int32).toInt = 0 := by decide
  have l1 : (1:Int32).toInt = 1 := by decide
  have l2 : (2:Int32).toInt = 2 := by decide
  simp only [← Int32.toInt_inj, l0, l1, l2]; omega
theorem own_at3 {p w : Int32} (hw : w = ((p &&& (2147483647:Int32)) % (3:Int32))) (n : Nat) (hn : 5 = n) : own_In (w + (0:Int32)) n ∧ own_In (w + (1:Int32)) n ∧ own_In (w + (2:Int32)) n := by
  subst hn
  rcases own_a3 hw with h | h | h <;> rw [h] <;> decide
theorem own_j5 (j : Int32) (hj : own_In j 5) : j = 0 ∨ j = 1 ∨ j = 2 ∨ j = 3 ∨ j = 4 := by
  have h0 : 0 ≤ j.toInt := hj.1
  have h1 : j.toInt < 5 := hj.2
  have l0 : (0:Int32).toInt = 0 := by decide
  have l1 : (1:Int32).toInt = 1 := by decide
  have l2 : (2:Int32).toInt = 2 := by decide
  have l3 : (3:Int32).toInt = 3 := by decide
  have l4 : (4:Int32).toInt = 4 := by decide
  simp only [← Int32.toInt_inj, l0, l1, l2, l3, l4]; omega
theorem own_sub3 {p w : Int32} (hw : w = ((p &&& (2147483647:Int32)) % (3:Int32))) (j : Int32) (hj : own_In j 5) (h1 : ¬ (j < w)) (h2 : ¬ ((w + (2:Int32)) < j)) : own_In (j - w) 3 := by
  have key : ∀ w ∈ [(0:Int32), 1, 2], ∀ j ∈ [(0:Int32), 1, 2, 3, 4], ¬ (j < w) → ¬ ((w + (2:Int32)) < j) → own_In (j - w) 3 := by decide
  exact key w (by rcases own_a3 hw with h | h | h <;> rw [h] <;> decide) j (by rcases own_j5 j hj with h | h | h | h | h <;> rw [h] <;> decide) h1 h2
theorem own_pd0 : parseMethodDescriptor "([I[IIII)V" = some ⟨[(.array .int), (.array .int), .int, .int, .int], none⟩ := by decide +kernel
def own_v89 (w0_1 : Int32) (w0_2 : Int32) (w0_3 : Int32) (w0_7 : Int32) (w0_8 : Int32) (w0_9 : Int32) (w0_10 : Int32) (w0_11 : Int32) (w0_6 : Int32) (w0_4 : Int32) (w0_5 : Int32) : List Int32 := (own_train w0_1 w0_2 w0_3 [w0_7, w0_8, w0_9, w0_10, w0_11] w0_6 (own_er w0_4 w0_5))
theorem own_pd1 : parseMethodDescriptor "(II[I[I[IJ)Z" = some ⟨[.int, .int, (.array .int), (.array .int), (.array .int), .long], some .boolean⟩ := by decide +kernel
def own_v94 (w0_6 : Int32) (w0_12 : Int64) (w0_1 : Int32) (w0_2 : Int32) (w0_3 : Int32) (w0_7 : Int32) (w0_8 : Int32) (w0_9 : Int32) (w0_10 : Int32) (w0_11 : Int32) (w0_4 : Int32) (w0_5 : Int32) : Int32 := (f2 (0:Int32) w0_6 w0_12 [w0_1, w0_2, w0_3] [w0_7, w0_8, w0_9, w0_10, w0_11] (own_v89 w0_1 w0_2 w0_3 w0_7 w0_8 w0_9 w0_10 w0_11 w0_6 w0_4 w0_5))
def own_v97 (w0_6 : Int32) (w0_12 : Int64) (w0_1 : Int32) (w0_2 : Int32) (w0_3 : Int32) (w0_7 : Int32) (w0_8 : Int32) (w0_9 : Int32) (w0_10 : Int32) (w0_11 : Int32) (w0_4 : Int32) (w0_5 : Int32) : Int32 := (f2 (1:Int32) w0_6 w0_12 [w0_1, w0_2, w0_3] [w0_7, w0_8, w0_9, w0_10, w0_11] (own_v89 w0_1 w0_2 w0_3 w0_7 w0_8 w0_9 w0_10 w0_11 w0_6 w0_4 w0_5))
def own_v100 (w0_6 : Int32) (w0_12 : Int64) (w0_1 : Int32) (w0_2 : Int32) (w0_3 : Int32) (w0_7 : Int32) (w0_8 : Int32) (w0_9 : Int32) (w0_10 : Int32) (w0_11 : Int32) (w0_4 : Int32) (w0_5 : Int32) : Int32 := (f2 (2:Int32) w0_6 w0_12 [w0_1, w0_2, w0_3] [w0_7, w0_8, w0_9, w0_10, w0_11] (own_v89 w0_1 w0_2 w0_3 w0_7 w0_8 w0_9 w0_10 w0_11 w0_6 w0_4 w0_5))
def own_v103 (w0_6 : Int32) (w0_12 : Int64) (w0_1 : Int32) (w0_2 : Int32) (w0_3 : Int32) (w0_7 : Int32) (w0_8 : Int32) (w0_9 : Int32) (w0_10 : Int32) (w0_11 : Int32) (w0_4 : Int32) (w0_5 : Int32) : Int32 := (f2 (3:Int32) w0_6 w0_12 [w0_1, w0_2, w0_3] [w0_7, w0_8, w0_9, w0_10, w0_11] (own_v89 w0_1 w0_2 w0_3 w0_7 w0_8 w0_9 w0_10 w0_11 w0_6 w0_4 w0_5))
def own_v106 (w0_6 : Int32) (w0_12 : Int64) (w0_1 : Int32) (w0_2 : Int32) (w0_3 : Int32) (w0_7 : Int32) (w0_8 : Int32) (w0_9 : Int32) (w0_10 : Int32) (w0_11 : Int32) (w0_4 : Int32) (w0_5 : Int32) : Int32 := (f2 (4:Int32) w0_6 w0_12 [w0_1, w0_2, w0_3] [w0_7, w0_8, w0_9, w0_10, w0_11] (own_v89 w0_1 w0_2 w0_3 w0_7 w0_8 w0_9 w0_10 w0_11 w0_6 w0_4 w0_5))
theorem ef0 (m : MethodId) (q0 : Int64) (p1 : Int32) (p2 : Int32) (p3 : Int32) (q4 : Int64) (p5 : Int32) : entryFrame m #[(.long q0), (.int p1), (.int p2), (.int p3), (.long q4), (.int p5)] maxLocals = mkF m 0 #[.val (.long q0), .second, iv p1, iv p2, iv p3, .val (.long q4), .second, iv p5, .unset, .unset, .unset, .unset, .unset, .unset, .unset, .unset] [] := by first | (simp [entryFrame, mkF, argsToLocals, Value.category, maxLocals]; done) | rfl
def f0 (q0 : Int64) (p1 : Int32) (p2 : Int32) (p3 : Int32) (q4 : Int64) (p5 : Int32) : Int32 := (let w0_1 : Int32 := ((q0 % (2048:Int64)).toInt32); let w0_2 : Int32 := (((q0 >>> ((32:Int32) &&& 0x3f).toInt64) % (2048:Int64)).toInt32); let w0_3 : Int32 := (p1 % (2048:Int32)); let w0_4 : Int32 := ((p2 &&& (2147483647:Int32)) % (4097:Int32)); let w0_5 : Int32 := ((p2.toUInt32 >>> ((31:Int32) &&& 31).toUInt32).toInt32); let w0_6 : Int32 := ((p3 &&& (2147483647:Int32)) % (3:Int32)); let w0_7 : Int32 := (q4.toInt32); let w0_8 : Int32 := (((q4.toUInt64 >>> ((32:Int32) &&& 0x3f).toInt64.toUInt64).toInt64).toInt32); let w0_9 : Int32 := p5; let w0_10 : Int32 := (p5 ^^^ (q4.toInt32)); let w0_11 : Int32 := (p5 ^^^ (-1:Int32)); let w0_12 : Int64 := (((w0_5.toInt64) * (4096:Int64)) - (w0_4.toInt64)); (if (own_v94 w0_6 w0_12 w0_1 w0_2 w0_3 w0_7 w0_8 w0_9 w0_10 w0_11 w0_4 w0_5) = (0:Int32) then (0:Int32) else (if (own_v97 w0_6 w0_12 w0_1 w0_2 w0_3 w0_7 w0_8 w0_9 w0_10 w0_11 w0_4 w0_5) = (0:Int32) then (0:Int32) else (if (own_v100 w0_6 w0_12 w0_1 w0_2 w0_3 w0_7 w0_8 w0_9 w0_10 w0_11 w0_4 w0_5) = (0:Int32) then (0:Int32) else (if (own_v103 w0_6 w0_12 w0_1 w0_2 w0_3 w0_7 w0_8 w0_9 w0_10 w0_11 w0_4 w0_5) = (0:Int32) then (0:Int32) else (let w0_13 : Int32 := (if (own_v106 w0_6 w0_12 w0_1 w0_2 w0_3 w0_7 w0_8 w0_9 w0_10 w0_11 w0_4 w0_5) = (0:Int32) then (0:Int32) else (1:Int32)); (w0_13 &&& 1)))))))
def Q0 (Z : State) (q0 : Int64) (p1 : Int32) (p2 : Int32) (p3 : Int32) (q4 : Int64) (p5 : Int32)  (h0 : Heap) (n0 : Nat) (v : Option Value) (h : Heap) (L : List Loc) : Prop := v = some (.int (f0 q0 p1 p2 p3 q4 p5)) ∧ Fr n0 L
set_option maxRecDepth 65536 in
set_option maxHeartbeats 40000000 in
theorem rm0 (l : Launch) (Z : State) (aZ : Array Value) (hw : ∀ d ∈ tables_1, d.before aZ Z = true) (ws : List Jvm.Cond) (q0 : Int64) (p1 : Int32) (p2 : Int32) (p3 : Int32) (q4 : Int64) (p5 : Int32)  (h0 : Heap) (n0 : Nat) (Z0 : n0 ≤ h0.size)  :
    MetFree l x (head1 (Jvm.Cond.code x code maxLocals ret :: ws) room_1) (fun a U => a = #[(.long q0), (.int p1), (.int p2), (.int p3), (.long q4), (.int p5)] ∧ Z.Warmed39 U.vm ∧ U.heap = h0) (fun _ _ _ _ _ => True) (fun _ U o U' => ∃ v L, o = .returned v ∧ Q0 Z q0 p1 p2 p3 q4 p5 h0 n0 v U'.heap L ∧ FrameEnd U o U' L 3 13) := by
  refine MetFree.of_bodySF (plainFor_of_name own_pn1) hisR ?_
  intro p e s m args below meth c s₁ Bd hml0 hP hK
  obtain ⟨rfl, hZ, hh⟩ := hP
  have hx := Bd.exec
  have hby := Bd.bytes
  have hml : c.maxLocals = 16 := hml0
  have hown : s.vm.findClass "com/example/rowfold/rowfold/codec/LearningTrainPinLaw" = some m.cls := findClass_of_methodNamed Bd.named
  have hnm := (name_of_methodNamed Bd.named Bd.method).1
  have X0 : Stand p l e room_1 s m #[(.long q0), (.int p1), (.int p2), (.int p3), (.long q4), (.int p5)] below meth c s₁ [] 0 0 := Stand.of_body Bd
  have e0 : s₁.heap = h0 := by rw [← hh, Bd.state]; rfl
  have N0 := Fr.nil n0
  show own_Goes p e below s (Q0 Z q0 p1 p2 p3 q4 p5 h0 n0) 3 13 _
  refine own_pre (fun t k => castTop (ef0 m q0 p1 p2 p3 q4 p5) k) ?_
  refine own_pre (A := s₁.setTop (mkF m 1 #[.val (.long q0), .second, iv p1, iv p2, iv p3, .val (.long q4), .second, iv p5, .unset, .unset, .unset, .unset, .unset, .unset, .unset, .unset] [(.int (3:Int32))])) (fun t k => ?_) ?_
  · show Steps p.tables e below (s₁.setTop (mkF m 0 #[.val (.long q0), .second, iv p1, iv p2, iv p3, .val (.long q4), .second, iv p5, .unset, .unset, .unset, .unset, .unset, .unset, .unset, .unset] [])) _
    refine XS.iconst X0.here hx rfl (hb hby at_0) ?_
    exact k
  obtain ⟨T29, h29, k29, X29, e29, E29, A29, st29⟩ := newP X0 hx hZ (own_h hw 0 rfl) e0 (g := (mkF m 1 #[.val (.long q0), .second, iv p1, iv p2, iv p3, .val (.long q4), .second, iv p5, .unset, .unset, .unset, .unset, .unset, .unset, .unset, .unset] [(.int (3:Int32))])) rfl (hb hby at_1) rfl (by decide) (cap := 3) (by decide) (by decide) (by decide) (by decide)
  obtain ⟨b29, g29⟩ : ∃ z, z = h0.size := ⟨_, rfl⟩
  rw [← g29] at A29 st29
  have ge_b29 : n0 ≤ b29 := Nat.le_trans Z0 (Nat.le_of_eq g29.symm)
  have Z30 : n0 ≤ h29.size := Nat.le_trans Z0 E29.1
  have V29 : own_Ints Z h29 b29 [(0:Int32), (0:Int32), (0:Int32)] := own_newI A29 (by decide)
  refine own_pre st29 ?_
  refine own_pre (A := T29.setTop (mkF m 14 #[.val (.long q0), .second, iv p1, iv p2, iv p3, .val (.long q4), .second, iv p5, rv b29, .unset, .unset, .unset, .unset, .unset, .unset, .unset] [(.int ((q0 % (2048:Int64)).toInt32)), (.int (0:Int32)), (.ref b29)])) (fun t k => ?_) ?_
  · show Steps p.tables e below (T29.setTop (mkF m 3 #[.val (.long q0), .second, iv p1, iv p2, iv p3, .val (.long q4), .second, iv p5, .unset, .unset, .unset, .unset, .unset, .unset, .unset, .unset] [(.ref b29)])) _
    refine XS.astore X29.here hx rfl (hb hby at_3) rfl rfl (l' := #[.val (.long q0), .second, iv p1, iv p2, iv p3, .val (.long q4), .second, iv p5, rv b29, .unset, .unset, .unset, .unset, .unset, .unset, .unset]) rfl ?_
    show Steps p.tables e below (T29.setTop (mkF m 5 #[.val (.long q0), .second, iv p1, iv p2, iv p3, .val (.long q4), .second, iv p5, rv b29, .unset, .unset, .unset, .unset, .unset, .unset, .unset] [])) _
    refine XS.aload X29.here hx rfl (hb hby at_5) rfl rfl ?_
    show Steps p.tables e below (T29.setTop (mkF m 7 #[.val (.long q0), .second, iv p1, iv p2, iv p3, .val (.long q4), .second, iv p5, rv b29, .unset, .unset, .unset, .unset, .unset, .unset, .unset] [(.ref b29)])) _
    refine XS.iconst X29.here hx rfl (hb hby at_7) ?_
    show Steps p.tables e below (T29.setTop (mkF m 8 #[.val (.long q0), .second, iv p1, iv p2, iv p3, .val (.long q4), .second, iv p5, rv b29, .unset, .unset, .unset, .unset, .unset, .unset, .unset] [(.int (0:Int32)), (.ref b29)])) _
    refine XS.lloadN X29.here hx rfl (hb hby at_8) rfl ?_
    show Steps p.tables e below (T29.setTop (mkF m 9 #[.val (.long q0), .second, iv p1, iv p2, iv p3, .val (.long q4), .second, iv p5, rv b29, .unset, .unset, .unset, .unset, .unset, .unset, .unset] [(.long q0), (.int (0:Int32)), (.ref b29)])) _
    refine Jvm.Stand.ldc2J X29 hx hown (mvT hZ (own_h hw 1 rfl)) rfl (hb hby at_9) ?_
    show Steps p.tables e below (T29.setTop (mkF m 12 #[.val (.long q0), .second, iv p1, iv p2, iv p3, .val (.long q4), .second, iv p5, rv b29, .unset, .unset, .unset, .unset, .unset, .unset, .unset] [(.long (2048:Int64)), (.long q0), (.int (0:Int32)), (.ref b29)])) _
    refine own_lrem X29.here hx rfl (hb hby at_12) rfl (by decide) ?_
    show Steps p.tables e below (T29.setTop (mkF m 13 #[.val (.long q0), .second, iv p1, iv p2, iv p3, .val (.long q4), .second, iv p5, rv b29, .unset, .unset, .unset, .unset, .unset, .unset, .unset] [(.long (q0 % (2048:Int64))), (.int (0:Int32)), (.ref b29)])) _
    refine XS.l2i X29.here hx rfl (hb hby at_13) rfl ?_
    exact k
  have hbn32 : own_In (0:Int32) [(0:Int32), (0:Int32), (0:Int32)].length := own_lit rfl
  obtain ⟨T31, h31, X31, e31, W31, V31, st31⟩ := own_iastore X29 hx hZ e29 V29 (j := (0:Int32)) (x := ((q0 % (2048:Int64)).toInt32)) hbn32 (g := (mkF m 14 #[.val (.long q0), .second, iv p1, iv p2, iv p3, .val (.long q4), .second, iv p5, rv b29, .unset, .unset, .unset, .unset, .unset, .unset, .unset] [(.int ((q0 % (2048:Int64)).toInt32)), (.int (0:Int32)), (.ref b29)])) rfl rfl (hb hby at_14)
  have Z33 : n0 ≤ h31.size := Nat.le_trans Z30 (Nat.le_of_eq W31.size.symm)
  have N31 := Fr.snoc X31 N0 ge_b29
  obtain ⟨w0_1, hw0_1⟩ : ∃ z : Int32, z = ((q0 % (2048:Int64)).toInt32) := ⟨_, rfl⟩
  have Vw31 : own_Ints Z h31 b29 [w0_1, (0:Int32), (0:Int32)] := by rw [hw0_1]; exact V31
  refine own_pre st31 ?_
  refine own_pre (A := T31.setTop (mkF m 27 #[.val (.long q0), .second, iv p1, iv p2, iv p3, .val (.long q4), .second, iv p5, rv b29, .unset, .unset, .unset, .unset, .unset, .unset, .unset] [(.int (((q0 >>> ((32:Int32) &&& 0x3f).toInt64) % (2048:Int64)).toInt32)), (.int (1:Int32)), (.ref b29)])) (fun t k => ?_) ?_
  · show Steps p.tables e below (T31.setTop (mkF m 15 #[.val (.long q0), .second, iv p1, iv p2, iv p3, .val (.long q4), .second, iv p5, rv b29, .unset, .unset, .unset, .unset, .unset, .unset, .unset] [])) _
    refine XS.aload X31.here hx rfl (hb hby at_15) rfl rfl ?_
    show Steps p.tables e below (T31.setTop (mkF m 17 #[.val (.long q0), .second, iv p1, iv p2, iv p3, .val (.long q4), .second, iv p5, rv b29, .unset, .unset, .unset, .unset, .unset, .unset, .unset] [(.ref b29)])) _
    refine XS.iconst X31.here hx rfl (hb hby at_17) ?_
    show Steps p.tables e below (T31.setTop (mkF m 18 #[.val (.long q0), .second, iv p1, iv p2, iv p3, .val (.long q4), .second, iv p5, rv b29, .unset, .unset, .unset, .unset, .unset, .unset, .unset] [(.int (1:Int32)), (.ref b29)])) _
    refine XS.lloadN X31.here hx rfl (hb hby at_18) rfl ?_
    show Steps p.tables e below (T31.setTop (mkF m 19 #[.val (.long q0), .second, iv p1, iv p2, iv p3, .val (.long q4), .second, iv p5, rv b29, .unset, .unset, .unset, .unset, .unset, .unset, .unset] [(.long q0), (.int (1:Int32)), (.ref b29)])) _
    refine XS.bipush X31.here hx rfl (hb hby at_19) ?_
    show Steps p.tables e below (T31.setTop (mkF m 21 #[.val (.long q0), .second, iv p1, iv p2, iv p3, .val (.long q4), .second, iv p5, rv b29, .unset, .unset, .unset, .unset, .unset, .unset, .unset] [(.int (32:Int32)), (.long q0), (.int (1:Int32)), (.ref b29)])) _
    refine XS.lshr X31.here hx rfl (hb hby at_21) rfl ?_
    show Steps p.tables e below (T31.setTop (mkF m 22 #[.val (.long q0), .second, iv p1, iv p2, iv p3, .val (.long q4), .second, iv p5, rv b29, .unset, .unset, .unset, .unset, .unset, .unset, .unset] [(.long (q0 >>> ((32:Int32) &&& 0x3f).toInt64)), (.int (1:Int32)), (.ref b29)])) _
    refine Jvm.Stand.ldc2J X31 hx hown (mvT hZ (own_h hw 1 rfl)) rfl (hb hby at_22) ?_
    show Steps p.tables e below (T31.setTop (mkF m 25 #[.val (.long q0), .second, iv p1, iv p2, iv p3, .val (.long q4), .second, iv p5, rv b29, .unset, .unset, .unset, .unset, .unset, .unset, .unset] [(.long (2048:Int64)), (.long (q0 >>> ((32:Int32) &&& 0x3f).toInt64)), (.int (1:Int32)), (.ref b29)])) _
    refine own_lrem X31.here hx rfl (hb hby at_25) rfl (by decide) ?_
    show Steps p.tables e below (T31.setTop (mkF m 26 #[.val (.long q0), .second, iv p1, iv p2, iv p3, .val (.long q4), .second, iv p5, rv b29, .unset, .unset, .unset, .unset, .unset, .unset, .unset] [(.long ((q0 >>> ((32:Int32) &&& 0x3f).toInt64) % (2048:Int64))), (.int (1:Int32)), (.ref b29)])) _
    refine XS.l2i X31.here hx rfl (hb hby at_26) rfl ?_
    exact k
  have hbn35 : own_In (1:Int32) [w0_1, (0:Int32), (0:Int32)].length := own_lit rfl
  obtain ⟨T34, h34, X34, e34, W34, V34, st34⟩ := own_iastore X31 hx hZ e31 Vw31 (j := (1:Int32)) (x := (((q0 >>> ((32:Int32) &&& 0x3f).toInt64) % (2048:Int64)).toInt32)) hbn35 (g := (mkF m 27 #[.val (.long q0), .second, iv p1, iv p2, iv p3, .val (.long q4), .second, iv p5, rv b29, .unset, .unset, .unset, .unset, .unset, .unset, .unset] [(.int (((q0 >>> ((32:Int32) &&& 0x3f).toInt64) % (2048:Int64)).toInt32)), (.int (1:Int32)), (.ref b29)])) rfl rfl (hb hby at_27)
  have Z36 : n0 ≤ h34.size := Nat.le_trans Z33 (Nat.le_of_eq W34.size.symm)
  have N34 := Fr.snoc X34 N31 ge_b29
  obtain ⟨w0_2, hw0_2⟩ : ∃ z : Int32, z = (((q0 >>> ((32:Int32) &&& 0x3f).toInt64) % (2048:Int64)).toInt32) := ⟨_, rfl⟩
  have Vw34 : own_Ints Z h34 b29 [w0_1, w0_2, (0:Int32)] := by rw [hw0_2]; exact V34
  refine own_pre st34 ?_
  refine own_pre (A := T34.setTop (mkF m 36 #[.val (.long q0), .second, iv p1, iv p2, iv p3, .val (.long q4), .second, iv p5, rv b29, .unset, .unset, .unset, .unset, .unset, .unset, .unset] [(.int (p1 % (2048:Int32))), (.int (2:Int32)), (.ref b29)])) (fun t k => ?_) ?_
  · show Steps p.tables e below (T34.setTop (mkF m 28 #[.val (.long q0), .second, iv p1, iv p2, iv p3, .val (.long q4), .second, iv p5, rv b29, .unset, .unset, .unset, .unset, .unset, .unset, .unset] [])) _
    refine XS.aload X34.here hx rfl (hb hby at_28) rfl rfl ?_
    show Steps p.tables e below (T34.setTop (mkF m 30 #[.val (.long q0), .second, iv p1, iv p2, iv p3, .val (.long q4), .second, iv p5, rv b29, .unset, .unset, .unset, .unset, .unset, .unset, .unset] [(.ref b29)])) _
    refine XS.iconst X34.here hx rfl (hb hby at_30) ?_
    show Steps p.tables e below (T34.setTop (mkF m 31 #[.val (.long q0), .second, iv p1, iv p2, iv p3, .val (.long q4), .second, iv p5, rv b29, .unset, .unset, .unset, .unset, .unset, .unset, .unset] [(.int (2:Int32)), (.ref b29)])) _
    refine XS.iloadN X34.here hx rfl (hb hby at_31) rfl ?_
    show Steps p.tables e below (T34.setTop (mkF m 32 #[.val (.long q0), .second, iv p1, iv p2, iv p3, .val (.long q4), .second, iv p5, rv b29, .unset, .unset, .unset, .unset, .unset, .unset, .unset] [(.int p1), (.int (2:Int32)), (.ref b29)])) _
    refine XS.sipush X34.here hx rfl (hb hby at_32) ?_
    show Steps p.tables e below (T34.setTop (mkF m 35 #[.val (.long q0), .second, iv p1, iv p2, iv p3, .val (.long q4), .second, iv p5, rv b29, .unset, .unset, .unset, .unset, .unset, .unset, .unset] [(.int (2048:Int32)), (.int p1), (.int (2:Int32)), (.ref b29)])) _
    refine iremM X34 hx rfl (hb hby at_35) rfl (by decide) ?_
    exact k
  have hbn38 : own_In (2:Int32) [w0_1, w0_2, (0:Int32)].length := own_lit rfl
  obtain ⟨T37, h37, X37, e37, W37, V37, st37⟩ := own_iastore X34 hx hZ e34 Vw34 (j := (2:Int32)) (x := (p1 % (2048:Int32))) hbn38 (g := (mkF m 36 #[.val (.long q0), .second, iv p1, iv p2, iv p3, .val (.long q4), .second, iv p5, rv b29, .unset, .unset, .unset, .unset, .unset, .unset, .unset] [(.int (p1 % (2048:Int32))), (.int (2:Int32)), (.ref b29)])) rfl rfl (hb hby at_36)
  have Z39 : n0 ≤ h37.size := Nat.le_trans Z36 (Nat.le_of_eq W37.size.symm)
  have N37 := Fr.snoc X37 N34 ge_b29
  obtain ⟨w0_3, hw0_3⟩ : ∃ z : Int32, z = (p1 % (2048:Int32)) := ⟨_, rfl⟩
  have Vw37 : own_Ints Z h37 b29 [w0_1, w0_2, w0_3] := by rw [hw0_3]; exact V37
  refine own_pre st37 ?_
  obtain ⟨w0_4, hw0_4⟩ : ∃ z : Int32, z = ((p2 &&& (2147483647:Int32)) % (4097:Int32)) := ⟨_, rfl⟩
  obtain ⟨w0_5, hw0_5⟩ : ∃ z : Int32, z = ((p2.toUInt32 >>> ((31:Int32) &&& 31).toUInt32).toInt32) := ⟨_, rfl⟩
  obtain ⟨w0_6, hw0_6⟩ : ∃ z : Int32, z = ((p3 &&& (2147483647:Int32)) % (3:Int32)) := ⟨_, rfl⟩
  refine own_pre (A := T37.setTop (mkF m 63 #[.val (.long q0), .second, iv p1, iv p2, iv p3, .val (.long q4), .second, iv p5, rv b29, iv w0_4, iv w0_5, iv w0_6, .unset, .unset, .unset, .unset] [(.int (5:Int32))])) (fun t k => ?_) ?_
  · show Steps p.tables e below (T37.setTop (mkF m 37 #[.val (.long q0), .second, iv p1, iv p2, iv p3, .val (.long q4), .second, iv p5, rv b29, .unset, .unset, .unset, .unset, .unset, .unset, .unset] [])) _
    refine XS.iloadN X37.here hx rfl (hb hby at_37) rfl ?_
    show Steps p.tables e below (T37.setTop (mkF m 38 #[.val (.long q0), .second, iv p1, iv p2, iv p3, .val (.long q4), .second, iv p5, rv b29, .unset, .unset, .unset, .unset, .unset, .unset, .unset] [(.int p2)])) _
    refine Jvm.Stand.ldcI X37 hx hown (mvT hZ (own_h hw 2 rfl)) rfl (hb hby at_38) ?_
    show Steps p.tables e below (T37.setTop (mkF m 40 #[.val (.long q0), .second, iv p1, iv p2, iv p3, .val (.long q4), .second, iv p5, rv b29, .unset, .unset, .unset, .unset, .unset, .unset, .unset] [(.int (2147483647:Int32)), (.int p2)])) _
    refine XS.iand X37.here hx rfl (hb hby at_40) rfl ?_
    show Steps p.tables e below (T37.setTop (mkF m 41 #[.val (.long q0), .second, iv p1, iv p2, iv p3, .val (.long q4), .second, iv p5, rv b29, .unset, .unset, .unset, .unset, .unset, .unset, .unset] [(.int (p2 &&& (2147483647:Int32)))])) _
    refine XS.sipush X37.here hx rfl (hb hby at_41) ?_
    show Steps p.tables e below (T37.setTop (mkF m 44 #[.val (.long q0), .second, iv p1, iv p2, iv p3, .val (.long q4), .second, iv p5, rv b29, .unset, .unset, .unset, .unset, .unset, .unset, .unset] [(.int (4097:Int32)), (.int (p2 &&& (2147483647:Int32)))])) _
    refine iremM X37 hx rfl (hb hby at_44) rfl (by decide) ?_
    show Steps p.tables e below (T37.setTop (mkF m 45 #[.val (.long q0), .second, iv p1, iv p2, iv p3, .val (.long q4), .second, iv p5, rv b29, .unset, .unset, .unset, .unset, .unset, .unset, .unset] [(.int ((p2 &&& (2147483647:Int32)) % (4097:Int32)))])) _
    refine XS.istore X37.here hx rfl (hb hby at_45) rfl (l' := #[.val (.long q0), .second, iv p1, iv p2, iv p3, .val (.long q4), .second, iv p5, rv b29, iv w0_4, .unset, .unset, .unset, .unset, .unset, .unset]) (by rw [hw0_4]; rfl) ?_
    show Steps p.tables e below (T37.setTop (mkF m 47 #[.val (.long q0), .second, iv p1, iv p2, iv p3, .val (.long q4), .second, iv p5, rv b29, iv w0_4, .unset, .unset, .unset, .unset, .unset, .unset] [])) _
    refine XS.iloadN X37.here hx rfl (hb hby at_47) rfl ?_
    show Steps p.tables e below (T37.setTop (mkF m 48 #[.val (.long q0), .second, iv p1, iv p2, iv p3, .val (.long q4), .second, iv p5, rv b29, iv w0_4, .unset, .unset, .unset, .unset, .unset, .unset] [(.int p2)])) _
    refine XS.bipush X37.here hx rfl (hb hby at_48) ?_
    show Steps p.tables e below (T37.setTop (mkF m 50 #[.val (.long q0), .second, iv p1, iv p2, iv p3, .val (.long q4), .second, iv p5, rv b29, iv w0_4, .unset, .unset, .unset, .unset, .unset, .unset] [(.int (31:Int32)), (.int p2)])) _
    refine XS.iushr X37.here hx rfl (hb hby at_50) rfl ?_
    show Steps p.tables e below (T37.setTop (mkF m 51 #[.val (.long q0), .second, iv p1, iv p2, iv p3, .val (.long q4), .second, iv p5, rv b29, iv w0_4, .unset, .unset, .unset, .unset, .unset, .unset] [(.int ((p2.toUInt32 >>> ((31:Int32) &&& 31).toUInt32).toInt32))])) _
    refine XS.istore X37.here hx rfl (hb hby at_51) rfl (l' := #[.val (.long q0), .second, iv p1, iv p2, iv p3, .val (.long q4), .second, iv p5, rv b29, iv w0_4, iv w0_5, .unset, .unset, .unset, .unset, .unset]) (by rw [hw0_5]; rfl) ?_
    show Steps p.tables e below (T37.setTop (mkF m 53 #[.val (.long q0), .second, iv p1, iv p2, iv p3, .val (.long q4), .second, iv p5, rv b29, iv w0_4, iv w0_5, .unset, .unset, .unset, .unset, .unset] [])) _
    refine XS.iload X37.here hx rfl (hb hby at_53) rfl ?_
    show Steps p.tables e below (T37.setTop (mkF m 55 #[.val (.long q0), .second, iv p1, iv p2, iv p3, .val (.long q4), .second, iv p5, rv b29, iv w0_4, iv w0_5, .unset, .unset, .unset, .unset, .unset] [(.int p3)])) _
    refine Jvm.Stand.ldcI X37 hx hown (mvT hZ (own_h hw 2 rfl)) rfl (hb hby at_55) ?_
    show Steps p.tables e below (T37.setTop (mkF m 57 #[.val (.long q0), .second, iv p1, iv p2, iv p3, .val (.long q4), .second, iv p5, rv b29, iv w0_4, iv w0_5, .unset, .unset, .unset, .unset, .unset] [(.int (2147483647:Int32)), (.int p3)])) _
    refine XS.iand X37.here hx rfl (hb hby at_57) rfl ?_
    show Steps p.tables e below (T37.setTop (mkF m 58 #[.val (.long q0), .second, iv p1, iv p2, iv p3, .val (.long q4), .second, iv p5, rv b29, iv w0_4, iv w0_5, .unset, .unset, .unset, .unset, .unset] [(.int (p3 &&& (2147483647:Int32)))])) _
    refine XS.iconst X37.here hx rfl (hb hby at_58) ?_
    show Steps p.tables e below (T37.setTop (mkF m 59 #[.val (.long q0), .second, iv p1, iv p2, iv p3, .val (.long q4), .second, iv p5, rv b29, iv w0_4, iv w0_5, .unset, .unset, .unset, .unset, .unset] [(.int (3:Int32)), (.int (p3 &&& (2147483647:Int32)))])) _
    refine iremM X37 hx rfl (hb hby at_59) rfl (by decide) ?_
    show Steps p.tables e below (T37.setTop (mkF m 60 #[.val (.long q0), .second, iv p1, iv p2, iv p3, .val (.long q4), .second, iv p5, rv b29, iv w0_4, iv w0_5, .unset, .unset, .unset, .unset, .unset] [(.int ((p3 &&& (2147483647:Int32)) % (3:Int32)))])) _
    refine XS.istore X37.here hx rfl (hb hby at_60) rfl (l' := #[.val (.long q0), .second, iv p1, iv p2, iv p3, .val (.long q4), .second, iv p5, rv b29, iv w0_4, iv w0_5, iv w0_6, .unset, .unset, .unset, .unset]) (by rw [hw0_6]; rfl) ?_
    show Steps p.tables e below (T37.setTop (mkF m 62 #[.val (.long q0), .second, iv p1, iv p2, iv p3, .val (.long q4), .second, iv p5, rv b29, iv w0_4, iv w0_5, iv w0_6, .unset, .unset, .unset, .unset] [])) _
    refine XS.iconst X37.here hx rfl (hb hby at_62) ?_
    exact k
  obtain ⟨T40, h40, k40, X40, e40, E40, A40, st40⟩ := newP X37 hx hZ (own_h hw 0 rfl) e37 (g := (mkF m 63 #[.val (.long q0), .second, iv p1, iv p2, iv p3, .val (.long q4), .second, iv p5, rv b29, iv w0_4, iv w0_5, iv w0_6, .unset, .unset, .unset, .unset] [(.int (5:Int32))])) rfl (hb hby at_63) rfl (by decide) (cap := 5) (by decide) (by decide) (by decide) (by decide)
  obtain ⟨b40, g40⟩ : ∃ z, z = h37.size := ⟨_, rfl⟩
  rw [← g40] at A40 st40
  have ge_b40 : n0 ≤ b40 := Nat.le_trans Z39 (Nat.le_of_eq g40.symm)
  have ne_b29_b40 : b29 ≠ b40 := Nat.ne_of_lt (Nat.lt_of_lt_of_le Vw37.lt (Nat.le_of_eq g40.symm))
  have Z41 : n0 ≤ h40.size := Nat.le_trans Z39 E40.1
  have V40 : own_Ints Z h40 b40 [(0:Int32), (0:Int32), (0:Int32), (0:Int32), (0:Int32)] := own_newI A40 (by decide)
  refine own_pre st40 ?_
  refine own_pre (A := T40.setTop (mkF m 73 #[.val (.long q0), .second, iv p1, iv p2, iv p3, .val (.long q4), .second, iv p5, rv b29, iv w0_4, iv w0_5, iv w0_6, rv b40, .unset, .unset, .unset] [(.int (q4.toInt32)), (.int (0:Int32)), (.ref b40)])) (fun t k => ?_) ?_
  · show Steps p.tables e below (T40.setTop (mkF m 65 #[.val (.long q0), .second, iv p1, iv p2, iv p3, .val (.long q4), .second, iv p5, rv b29, iv w0_4, iv w0_5, iv w0_6, .unset, .unset, .unset, .unset] [(.ref b40)])) _
    refine XS.astore X40.here hx rfl (hb hby at_65) rfl rfl (l' := #[.val (.long q0), .second, iv p1, iv p2, iv p3, .val (.long q4), .second, iv p5, rv b29, iv w0_4, iv w0_5, iv w0_6, rv b40, .unset, .unset, .unset]) rfl ?_
    show Steps p.tables e below (T40.setTop (mkF m 67 #[.val (.long q0), .second, iv p1, iv p2, iv p3, .val (.long q4), .second, iv p5, rv b29, iv w0_4, iv w0_5, iv w0_6, rv b40, .unset, .unset, .unset] [])) _
    refine XS.aload X40.here hx rfl (hb hby at_67) rfl rfl ?_
    show Steps p.tables e below (T40.setTop (mkF m 69 #[.val (.long q0), .second, iv p1, iv p2, iv p3, .val (.long q4), .second, iv p5, rv b29, iv w0_4, iv w0_5, iv w0_6, rv b40, .unset, .unset, .unset] [(.ref b40)])) _
    refine XS.iconst X40.here hx rfl (hb hby at_69) ?_
    show Steps p.tables e below (T40.setTop (mkF m 70 #[.val (.long q0), .second, iv p1, iv p2, iv p3, .val (.long q4), .second, iv p5, rv b29, iv w0_4, iv w0_5, iv w0_6, rv b40, .unset, .unset, .unset] [(.int (0:Int32)), (.ref b40)])) _
    refine XS.lload X40.here hx rfl (hb hby at_70) rfl ?_
    show Steps p.tables e below (T40.setTop (mkF m 72 #[.val (.long q0), .second, iv p1, iv p2, iv p3, .val (.long q4), .second, iv p5, rv b29, iv w0_4, iv w0_5, iv w0_6, rv b40, .unset, .unset, .unset] [(.long q4), (.int (0:Int32)), (.ref b40)])) _
    refine XS.l2i X40.here hx rfl (hb hby at_72) rfl ?_
    exact k
  have hbn43 : own_In (0:Int32) [(0:Int32), (0:Int32), (0:Int32), (0:Int32), (0:Int32)].length := own_lit rfl
  obtain ⟨T42, h42, X42, e42, W42, V42, st42⟩ := own_iastore X40 hx hZ e40 V40 (j := (0:Int32)) (x := (q4.toInt32)) hbn43 (g := (mkF m 73 #[.val (.long q0), .second, iv p1, iv p2, iv p3, .val (.long q4), .second, iv p5, rv b29, iv w0_4, iv w0_5, iv w0_6, rv b40, .unset, .unset, .unset] [(.int (q4.toInt32)), (.int (0:Int32)), (.ref b40)])) rfl rfl (hb hby at_73)
  have Z44 : n0 ≤ h42.size := Nat.le_trans Z41 (Nat.le_of_eq W42.size.symm)
  have N42 := Fr.snoc X42 N37 ge_b40
  obtain ⟨w0_7, hw0_7⟩ : ∃ z : Int32, z = (q4.toInt32) := ⟨_, rfl⟩
  have Vw42 : own_Ints Z h42 b40 [w0_7, (0:Int32), (0:Int32), (0:Int32), (0:Int32)] := by rw [hw0_7]; exact V42
  refine own_pre st42 ?_
  refine own_pre (A := T42.setTop (mkF m 83 #[.val (.long q0), .second, iv p1, iv p2, iv p3, .val (.long q4), .second, iv p5, rv b29, iv w0_4, iv w0_5, iv w0_6, rv b40, .unset, .unset, .unset] [(.int (((q4.toUInt64 >>> ((32:Int32) &&& 0x3f).toInt64.toUInt64).toInt64).toInt32)), (.int (1:Int32)), (.ref b40)])) (fun t k => ?_) ?_
  · show Steps p.tables e below (T42.setTop (mkF m 74 #[.val (.long q0), .second, iv p1, iv p2, iv p3, .val (.long q4), .second, iv p5, rv b29, iv w0_4, iv w0_5, iv w0_6, rv b40, .unset, .unset, .unset] [])) _
    refine XS.aload X42.here hx rfl (hb hby at_74) rfl rfl ?_
    show Steps p.tables e below (T42.setTop (mkF m 76 #[.val (.long q0), .second, iv p1, iv p2, iv p3, .val (.long q4), .second, iv p5, rv b29, iv w0_4, iv w0_5, iv w0_6, rv b40, .unset, .unset, .unset] [(.ref b40)])) _
    refine XS.iconst X42.here hx rfl (hb hby at_76) ?_
    show Steps p.tables e below (T42.setTop (mkF m 77 #[.val (.long q0), .second, iv p1, iv p2, iv p3, .val (.long q4), .second, iv p5, rv b29, iv w0_4, iv w0_5, iv w0_6, rv b40, .unset, .unset, .unset] [(.int (1:Int32)), (.ref b40)])) _
    refine XS.lload X42.here hx rfl (hb hby at_77) rfl ?_
    show Steps p.tables e below (T42.setTop (mkF m 79 #[.val (.long q0), .second, iv p1, iv p2, iv p3, .val (.long q4), .second, iv p5, rv b29, iv w0_4, iv w0_5, iv w0_6, rv b40, .unset, .unset, .unset] [(.long q4), (.int (1:Int32)), (.ref b40)])) _
    refine XS.bipush X42.here hx rfl (hb hby at_79) ?_
    show Steps p.tables e below (T42.setTop (mkF m 81 #[.val (.long q0), .second, iv p1, iv p2, iv p3, .val (.long q4), .second, iv p5, rv b29, iv w0_4, iv w0_5, iv w0_6, rv b40, .unset, .unset, .unset] [(.int (32:Int32)), (.long q4), (.int (1:Int32)), (.ref b40)])) _
    refine XS.lushr X42.here hx rfl (hb hby at_81) rfl ?_
    show Steps p.tables e below (T42.setTop (mkF m 82 #[.val (.long q0), .second, iv p1, iv p2, iv p3, .val (.long q4), .second, iv p5, rv b29, iv w0_4, iv w0_5, iv w0_6, rv b40, .unset, .unset, .unset] [(.long ((q4.toUInt64 >>> ((32:Int32) &&& 0x3f).toInt64.toUInt64).toInt64)), (.int (1:Int32)), (.ref b40)])) _
    refine XS.l2i X42.here hx rfl (hb hby at_82) rfl ?_
    exact k
  have hbn46 : own_In (1:Int32) [w0_7, (0:Int32), (0:Int32), (0:Int32), (0:Int32)].length := own_lit rfl
  obtain ⟨T45, h45, X45, e45, W45, V45, st45⟩ := own_iastore X42 hx hZ e42 Vw42 (j := (1:Int32)) (x := (((q4.toUInt64 >>> ((32:Int32) &&& 0x3f).toInt64.toUInt64).toInt64).toInt32)) hbn46 (g := (mkF m 83 #[.val (.long q0), .second, iv p1, iv p2, iv p3, .val (.long q4), .second, iv p5, rv b29, iv w0_4, iv w0_5, iv w0_6, rv b40, .unset, .unset, .unset] [(.int (((q4.toUInt64 >>> ((32:Int32) &&& 0x3f).toInt64.toUInt64).toInt64).toInt32)), (.int (1:Int32)), (.ref b40)])) rfl rfl (hb hby at_83)
  have Z47 : n0 ≤ h45.size := Nat.le_trans Z44 (Nat.le_of_eq W45.size.symm)
  have N45 := Fr.snoc X45 N42 ge_b40
  obtain ⟨w0_8, hw0_8⟩ : ∃ z : Int32, z = (((q4.toUInt64 >>> ((32:Int32) &&& 0x3f).toInt64.toUInt64).toInt64).toInt32) := ⟨_, rfl⟩
  have Vw45 : own_Ints Z h45 b40 [w0_7, w0_8, (0:Int32), (0:Int32), (0:Int32)] := by rw [hw0_8]; exact V45
  refine own_pre st45 ?_
  refine own_pre (A := T45.setTop (mkF m 89 #[.val (.long q0), .second, iv p1, iv p2, iv p3, .val (.long q4), .second, iv p5, rv b29, iv w0_4, iv w0_5, iv w0_6, rv b40, .unset, .unset, .unset] [(.int p5), (.int (2:Int32)), (.ref b40)])) (fun t k => ?_) ?_
  · show Steps p.tables e below (T45.setTop (mkF m 84 #[.val (.long q0), .second, iv p1, iv p2, iv p3, .val (.long q4), .second, iv p5, rv b29, iv w0_4, iv w0_5, iv w0_6, rv b40, .unset, .unset, .unset] [])) _
    refine XS.aload X45.here hx rfl (hb hby at_84) rfl rfl ?_
    show Steps p.tables e below (T45.setTop (mkF m 86 #[.val (.long q0), .second, iv p1, iv p2, iv p3, .val (.long q4), .second, iv p5, rv b29, iv w0_4, iv w0_5, iv w0_6, rv b40, .unset, .unset, .unset] [(.ref b40)])) _
    refine XS.iconst X45.here hx rfl (hb hby at_86) ?_
    show Steps p.tables e below (T45.setTop (mkF m 87 #[.val (.long q0), .second, iv p1, iv p2, iv p3, .val (.long q4), .second, iv p5, rv b29, iv w0_4, iv w0_5, iv w0_6, rv b40, .unset, .unset, .unset] [(.int (2:Int32)), (.ref b40)])) _
    refine XS.iload X45.here hx rfl (hb hby at_87) rfl ?_
    exact k
  have hbn49 : own_In (2:Int32) [w0_7, w0_8, (0:Int32), (0:Int32), (0:Int32)].length := own_lit rfl
  obtain ⟨T48, h48, X48, e48, W48, V48, st48⟩ := own_iastore X45 hx hZ e45 Vw45 (j := (2:Int32)) (x := p5) hbn49 (g := (mkF m 89 #[.val (.long q0), .second, iv p1, iv p2, iv p3, .val (.long q4), .second, iv p5, rv b29, iv w0_4, iv w0_5, iv w0_6, rv b40, .unset, .unset, .unset] [(.int p5), (.int (2:Int32)), (.ref b40)])) rfl rfl (hb hby at_89)
  have Z50 : n0 ≤ h48.size := Nat.le_trans Z47 (Nat.le_of_eq W48.size.symm)
  have N48 := Fr.snoc X48 N45 ge_b40
  obtain ⟨w0_9, hw0_9⟩ : ∃ z : Int32, z = p5 := ⟨_, rfl⟩
  have Vw48 : own_Ints Z h48 b40 [w0_7, w0_8, w0_9, (0:Int32), (0:Int32)] := by rw [hw0_9]; exact V48
  refine own_pre st48 ?_
  refine own_pre (A := T48.setTop (mkF m 99 #[.val (.long q0), .second, iv p1, iv p2, iv p3, .val (.long q4), .second, iv p5, rv b29, iv w0_4, iv w0_5, iv w0_6, rv b40, .unset, .unset, .unset] [(.int (p5 ^^^ (q4.toInt32))), (.int (3:Int32)), (.ref b40)])) (fun t k => ?_) ?_
  · show Steps p.tables e below (T48.setTop (mkF m 90 #[.val (.long q0), .second, iv p1, iv p2, iv p3, .val (.long q4), .second, iv p5, rv b29, iv w0_4, iv w0_5, iv w0_6, rv b40, .unset, .unset, .unset] [])) _
    refine XS.aload X48.here hx rfl (hb hby at_90) rfl rfl ?_
    show Steps p.tables e below (T48.setTop (mkF m 92 #[.val (.long q0), .second, iv p1, iv p2, iv p3, .val (.long q4), .second, iv p5, rv b29, iv w0_4, iv w0_5, iv w0_6, rv b40, .unset, .unset, .unset] [(.ref b40)])) _
    refine XS.iconst X48.here hx rfl (hb hby at_92) ?_
    show Steps p.tables e below (T48.setTop (mkF m 93 #[.val (.long q0), .second, iv p1, iv p2, iv p3, .val (.long q4), .second, iv p5, rv b29, iv w0_4, iv w0_5, iv w0_6, rv b40, .unset, .unset, .unset] [(.int (3:Int32)), (.ref b40)])) _
    refine XS.iload X48.here hx rfl (hb hby at_93) rfl ?_
    show Steps p.tables e below (T48.setTop (mkF m 95 #[.val (.long q0), .second, iv p1, iv p2, iv p3, .val (.long q4), .second, iv p5, rv b29, iv w0_4, iv w0_5, iv w0_6, rv b40, .unset, .unset, .unset] [(.int p5), (.int (3:Int32)), (.ref b40)])) _
    refine XS.lload X48.here hx rfl (hb hby at_95) rfl ?_
    show Steps p.tables e below (T48.setTop (mkF m 97 #[.val (.long q0), .second, iv p1, iv p2, iv p3, .val (.long q4), .second, iv p5, rv b29, iv w0_4, iv w0_5, iv w0_6, rv b40, .unset, .unset, .unset] [(.long q4), (.int p5), (.int (3:Int32)), (.ref b40)])) _
    refine XS.l2i X48.here hx rfl (hb hby at_97) rfl ?_
    show Steps p.tables e below (T48.setTop (mkF m 98 #[.val (.long q0), .second, iv p1, iv p2, iv p3, .val (.long q4), .second, iv p5, rv b29, iv w0_4, iv w0_5, iv w0_6, rv b40, .unset, .unset, .unset] [(.int (q4.toInt32)), (.int p5), (.int (3:Int32)), (.ref b40)])) _
    refine XS.ixor X48.here hx rfl (hb hby at_98) rfl ?_
    exact k
  have hbn52 : own_In (3:Int32) [w0_7, w0_8, w0_9, (0:Int32), (0:Int32)].length := own_lit rfl
  obtain ⟨T51, h51, X51, e51, W51, V51, st51⟩ := own_iastore X48 hx hZ e48 Vw48 (j := (3:Int32)) (x := (p5 ^^^ (q4.toInt32))) hbn52 (g := (mkF m 99 #[.val (.long q0), .second, iv p1, iv p2, iv p3, .val (.long q4), .second, iv p5, rv b29, iv w0_4, iv w0_5, iv w0_6, rv b40, .unset, .unset, .unset] [(.int (p5 ^^^ (q4.toInt32))), (.int (3:Int32)), (.ref b40)])) rfl rfl (hb hby at_99)
  have Z53 : n0 ≤ h51.size := Nat.le_trans Z50 (Nat.le_of_eq W51.size.symm)
  have N51 := Fr.snoc X51 N48 ge_b40
  obtain ⟨w0_10, hw0_10⟩ : ∃ z : Int32, z = (p5 ^^^ (q4.toInt32)) := ⟨_, rfl⟩
  have Vw51 : own_Ints Z h51 b40 [w0_7, w0_8, w0_9, w0_10, (0:Int32)] := by rw [hw0_10]; exact V51
  refine own_pre st51 ?_
  refine own_pre (A := T51.setTop (mkF m 107 #[.val (.long q0), .second, iv p1, iv p2, iv p3, .val (.long q4), .second, iv p5, rv b29, iv w0_4, iv w0_5, iv w0_6, rv b40, .unset, .unset, .unset] [(.int (p5 ^^^ (-1:Int32))), (.int (4:Int32)), (.ref b40)])) (fun t k => ?_) ?_
  · show Steps p.tables e below (T51.setTop (mkF m 100 #[.val (.long q0), .second, iv p1, iv p2, iv p3, .val (.long q4), .second, iv p5, rv b29, iv w0_4, iv w0_5, iv w0_6, rv b40, .unset, .unset, .unset] [])) _
    refine XS.aload X51.here hx rfl (hb hby at_100) rfl rfl ?_
    show Steps p.tables e below (T51.setTop (mkF m 102 #[.val (.long q0), .second, iv p1, iv p2, iv p3, .val (.long q4), .second, iv p5, rv b29, iv w0_4, iv w0_5, iv w0_6, rv b40, .unset, .unset, .unset] [(.ref b40)])) _
    refine XS.iconst X51.here hx rfl (hb hby at_102) ?_
    show Steps p.tables e below (T51.setTop (mkF m 103 #[.val (.long q0), .second, iv p1, iv p2, iv p3, .val (.long q4), .second, iv p5, rv b29, iv w0_4, iv w0_5, iv w0_6, rv b40, .unset, .unset, .unset] [(.int (4:Int32)), (.ref b40)])) _
    refine XS.iload X51.here hx rfl (hb hby at_103) rfl ?_
    show Steps p.tables e below (T51.setTop (mkF m 105 #[.val (.long q0), .second, iv p1, iv p2, iv p3, .val (.long q4), .second, iv p5, rv b29, iv w0_4, iv w0_5, iv w0_6, rv b40, .unset, .unset, .unset] [(.int p5), (.int (4:Int32)), (.ref b40)])) _
    refine XS.iconst X51.here hx rfl (hb hby at_105) ?_
    show Steps p.tables e below (T51.setTop (mkF m 106 #[.val (.long q0), .second, iv p1, iv p2, iv p3, .val (.long q4), .second, iv p5, rv b29, iv w0_4, iv w0_5, iv w0_6, rv b40, .unset, .unset, .unset] [(.int (-1:Int32)), (.int p5), (.int (4:Int32)), (.ref b40)])) _
    refine XS.ixor X51.here hx rfl (hb hby at_106) rfl ?_
    exact k
  have hbn55 : own_In (4:Int32) [w0_7, w0_8, w0_9, w0_10, (0:Int32)].length := own_lit rfl
  obtain ⟨T54, h54, X54, e54, W54, V54, st54⟩ := own_iastore X51 hx hZ e51 Vw51 (j := (4:Int32)) (x := (p5 ^^^ (-1:Int32))) hbn55 (g := (mkF m 107 #[.val (.long q0), .second, iv p1, iv p2, iv p3, .val (.long q4), .second, iv p5, rv b29, iv w0_4, iv w0_5, iv w0_6, rv b40, .unset, .unset, .unset] [(.int (p5 ^^^ (-1:Int32))), (.int (4:Int32)), (.ref b40)])) rfl rfl (hb hby at_107)
  have Z56 : n0 ≤ h54.size := Nat.le_trans Z53 (Nat.le_of_eq W54.size.symm)
  have N54 := Fr.snoc X54 N51 ge_b40
  obtain ⟨w0_11, hw0_11⟩ : ∃ z : Int32, z = (p5 ^^^ (-1:Int32)) := ⟨_, rfl⟩
  have Vw54 : own_Ints Z h54 b40 [w0_7, w0_8, w0_9, w0_10, w0_11] := by rw [hw0_11]; exact V54
  refine own_pre st54 ?_
  refine own_pre (A := T54.setTop (mkF m 109 #[.val (.long q0), .second, iv p1, iv p2, iv p3, .val (.long q4), .second, iv p5, rv b29, iv w0_4, iv w0_5, iv w0_6, rv b40, .unset, .unset, .unset] [(.int (5:Int32))])) (fun t k => ?_) ?_
  · show Steps p.tables e below (T54.setTop (mkF m 108 #[.val (.long q0), .second, iv p1, iv p2, iv p3, .val (.long q4), .second, iv p5, rv b29, iv w0_4, iv w0_5, iv w0_6, rv b40, .unset, .unset, .unset] [])) _
    refine XS.iconst X54.here hx rfl (hb hby at_108) ?_
    exact k
  have F58 := ((((((Vw37.ext E40).other W42 ne_b29_b40).other W45 ne_b29_b40).other W48 ne_b29_b40).other W51 ne_b29_b40).other W54 ne_b29_b40)
  obtain ⟨T57, h57, k57, X57, e57, E57, A57, st57⟩ := newP X54 hx hZ (own_h hw 0 rfl) e54 (g := (mkF m 109 #[.val (.long q0), .second, iv p1, iv p2, iv p3, .val (.long q4), .second, iv p5, rv b29, iv w0_4, iv w0_5, iv w0_6, rv b40, .unset, .unset, .unset] [(.int (5:Int32))])) rfl (hb hby at_109) rfl (by decide) (cap := 5) (by decide) (by decide) (by decide) (by decide)
  obtain ⟨b57, g57⟩ : ∃ z, z = h54.size := ⟨_, rfl⟩
  rw [← g57] at A57 st57
  have ge_b57 : n0 ≤ b57 := Nat.le_trans Z56 (Nat.le_of_eq g57.symm)
  have ne_b29_b57 : b29 ≠ b57 := Nat.ne_of_lt (Nat.lt_of_lt_of_le F58.lt (Nat.le_of_eq g57.symm))
  have ne_b40_b57 : b40 ≠ b57 := Nat.ne_of_lt (Nat.lt_of_lt_of_le Vw54.lt (Nat.le_of_eq g57.symm))
  have Z59 : n0 ≤ h57.size := Nat.le_trans Z56 E57.1
  have V57 : own_Ints Z h57 b57 [(0:Int32), (0:Int32), (0:Int32), (0:Int32), (0:Int32)] := own_newI A57 (by decide)
  refine own_pre st57 ?_
  have F60 := (Vw54.ext E57)
  have hbn61 : own_In (0:Int32) [w0_7, w0_8, w0_9, w0_10, w0_11].length := own_lit rfl
  refine own_pre (A := T57.setTop (mkF m 120 #[.val (.long q0), .second, iv p1, iv p2, iv p3, .val (.long q4), .second, iv p5, rv b29, iv w0_4, iv w0_5, iv w0_6, rv b40, rv b57, .unset, .unset] [(.int w0_7), (.int (0:Int32)), (.ref b57)])) (fun t k => ?_) ?_
  · show Steps p.tables e below (T57.setTop (mkF m 111 #[.val (.long q0), .second, iv p1, iv p2, iv p3, .val (.long q4), .second, iv p5, rv b29, iv w0_4, iv w0_5, iv w0_6, rv b40, .unset, .unset, .unset] [(.ref b57)])) _
    refine XS.astore X57.here hx rfl (hb hby at_111) rfl rfl (l' := #[.val (.long q0), .second, iv p1, iv p2, iv p3, .val (.long q4), .second, iv p5, rv b29, iv w0_4, iv w0_5, iv w0_6, rv b40, rv b57, .unset, .unset]) rfl ?_
    show Steps p.tables e below (T57.setTop (mkF m 113 #[.val (.long q0), .second, iv p1, iv p2, iv p3, .val (.long q4), .second, iv p5, rv b29, iv w0_4, iv w0_5, iv w0_6, rv b40, rv b57, .unset, .unset] [])) _
    refine XS.aload X57.here hx rfl (hb hby at_113) rfl rfl ?_
    show Steps p.tables e below (T57.setTop (mkF m 115 #[.val (.long q0), .second, iv p1, iv p2, iv p3, .val (.long q4), .second, iv p5, rv b29, iv w0_4, iv w0_5, iv w0_6, rv b40, rv b57, .unset, .unset] [(.ref b57)])) _
    refine XS.iconst X57.here hx rfl (hb hby at_115) ?_
    show Steps p.tables e below (T57.setTop (mkF m 116 #[.val (.long q0), .second, iv p1, iv p2, iv p3, .val (.long q4), .second, iv p5, rv b29, iv w0_4, iv w0_5, iv w0_6, rv b40, rv b57, .unset, .unset] [(.int (0:Int32)), (.ref b57)])) _
    refine XS.aload X57.here hx rfl (hb hby at_116) rfl rfl ?_
    show Steps p.tables e below (T57.setTop (mkF m 118 #[.val (.long q0), .second, iv p1, iv p2, iv p3, .val (.long q4), .second, iv p5, rv b29, iv w0_4, iv w0_5, iv w0_6, rv b40, rv b57, .unset, .unset] [(.ref b40), (.int (0:Int32)), (.ref b57)])) _
    refine XS.iconst X57.here hx rfl (hb hby at_118) ?_
    show Steps p.tables e below (T57.setTop (mkF m 119 #[.val (.long q0), .second, iv p1, iv p2, iv p3, .val (.long q4), .second, iv p5, rv b29, iv w0_4, iv w0_5, iv w0_6, rv b40, rv b57, .unset, .unset] [(.int (0:Int32)), (.ref b40), (.int (0:Int32)), (.ref b57)])) _
    refine own_iaload X57 hx hZ e57 F60 hbn61 rfl rfl (hb hby at_119) ?_
    exact k
  have hbn63 : own_In (0:Int32) [(0:Int32), (0:Int32), (0:Int32), (0:Int32), (0:Int32)].length := own_lit rfl
  obtain ⟨T62, h62, X62, e62, W62, V62, st62⟩ := own_iastore X57 hx hZ e57 V57 (j := (0:Int32)) (x := w0_7) hbn63 (g := (mkF m 120 #[.val (.long q0), .second, iv p1, iv p2, iv p3, .val (.long q4), .second, iv p5, rv b29, iv w0_4, iv w0_5, iv w0_6, rv b40, rv b57, .unset, .unset] [(.int w0_7), (.int (0:Int32)), (.ref b57)])) rfl rfl (hb hby at_120)
  have Z64 : n0 ≤ h62.size := Nat.le_trans Z59 (Nat.le_of_eq W62.size.symm)
  have N62 := Fr.snoc X62 N54 ge_b57
  have Vw62 : own_Ints Z h62 b57 [w0_7, (0:Int32), (0:Int32), (0:Int32), (0:Int32)] := V62
  refine own_pre st62 ?_
  have F65 := (F60.other W62 ne_b40_b57)
  have hbn66 : own_In (1:Int32) [w0_7, w0_8, w0_9, w0_10, w0_11].length := own_lit rfl
  refine own_pre (A := T62.setTop (mkF m 128 #[.val (.long q0), .second, iv p1, iv p2, iv p3, .val (.long q4), .second, iv p5, rv b29, iv w0_4, iv w0_5, iv w0_6, rv b40, rv b57, .unset, .unset] [(.int w0_8), (.int (1:Int32)), (.ref b57)])) (fun t k => ?_) ?_
  · show Steps p.tables e below (T62.setTop (mkF m 121 #[.val (.long q0), .second, iv p1, iv p2, iv p3, .val (.long q4), .second, iv p5, rv b29, iv w0_4, iv w0_5, iv w0_6, rv b40, rv b57, .unset, .unset] [])) _
    refine XS.aload X62.here hx rfl (hb hby at_121) rfl rfl ?_
    show Steps p.tables e below (T62.setTop (mkF m 123 #[.val (.long q0), .second, iv p1, iv p2, iv p3, .val (.long q4), .second, iv p5, rv b29, iv w0_4, iv w0_5, iv w0_6, rv b40, rv b57, .unset, .unset] [(.ref b57)])) _
    refine XS.iconst X62.here hx rfl (hb hby at_123) ?_
    show Steps p.tables e below (T62.setTop (mkF m 124 #[.val (.long q0), .second, iv p1, iv p2, iv p3, .val (.long q4), .second, iv p5, rv b29, iv w0_4, iv w0_5, iv w0_6, rv b40, rv b57, .unset, .unset] [(.int (1:Int32)), (.ref b57)])) _
    refine XS.aload X62.here hx rfl (hb hby at_124) rfl rfl ?_
    show Steps p.tables e below (T62.setTop (mkF m 126 #[.val (.long q0), .second, iv p1, iv p2, iv p3, .val (.long q4), .second, iv p5, rv b29, iv w0_4, iv w0_5, iv w0_6, rv b40, rv b57, .unset, .unset] [(.ref b40), (.int (1:Int32)), (.ref b57)])) _
    refine XS.iconst X62.here hx rfl (hb hby at_126) ?_
    show Steps p.tables e below (T62.setTop (mkF m 127 #[.val (.long q0), .second, iv p1, iv p2, iv p3, .val (.long q4), .second, iv p5, rv b29, iv w0_4, iv w0_5, iv w0_6, rv b40, rv b57, .unset, .unset] [(.int (1:Int32)), (.ref b40), (.int (1:Int32)), (.ref b57)])) _
    refine own_iaload X62 hx hZ e62 F65 hbn66 rfl rfl (hb hby at_127) ?_
    exact k
  have hbn68 : own_In (1:Int32) [w0_7, (0:Int32), (0:Int32), (0:Int32), (0:Int32)].length := own_lit rfl
  obtain ⟨T67, h67, X67, e67, W67, V67, st67⟩ := own_iastore X62 hx hZ e62 Vw62 (j := (1:Int32)) (x := w0_8) hbn68 (g := (mkF m 128 #[.val (.long q0), .second, iv p1, iv p2, iv p3, .val (.long q4), .second, iv p5, rv b29, iv w0_4, iv w0_5, iv w0_6, rv b40, rv b57, .unset, .unset] [(.int w0_8), (.int (1:Int32)), (.ref b57)])) rfl rfl (hb hby at_128)
  have Z69 : n0 ≤ h67.size := Nat.le_trans Z64 (Nat.le_of_eq W67.size.symm)
  have N67 := Fr.snoc X67 N62 ge_b57
  have Vw67 : own_Ints Z h67 b57 [w0_7, w0_8, (0:Int32), (0:Int32), (0:Int32)] := V67
  refine own_pre st67 ?_
  have F70 := (F65.other W67 ne_b40_b57)
  have hbn71 : own_In (2:Int32) [w0_7, w0_8, w0_9, w0_10, w0_11].length := own_lit rfl
  refine own_pre (A := T67.setTop (mkF m 136 #[.val (.long q0), .second, iv p1, iv p2, iv p3, .val (.long q4), .second, iv p5, rv b29, iv w0_4, iv w0_5, iv w0_6, rv b40, rv b57, .unset, .unset] [(.int w0_9), (.int (2:Int32)), (.ref b57)])) (fun t k => ?_) ?_
  · show Steps p.tables e below (T67.setTop (mkF m 129 #[.val (.long q0), .second, iv p1, iv p2, iv p3, .val (.long q4), .second, iv p5, rv b29, iv w0_4, iv w0_5, iv w0_6, rv b40, rv b57, .unset, .unset] [])) _
    refine XS.aload X67.here hx rfl (hb hby at_129) rfl rfl ?_
    show Steps p.tables e below (T67.setTop (mkF m 131 #[.val (.long q0), .second, iv p1, iv p2, iv p3, .val (.long q4), .second, iv p5, rv b29, iv w0_4, iv w0_5, iv w0_6, rv b40, rv b57, .unset, .unset] [(.ref b57)])) _
    refine XS.iconst X67.here hx rfl (hb hby at_131) ?_
    show Steps p.tables e below (T67.setTop (mkF m 132 #[.val (.long q0), .second, iv p1, iv p2, iv p3, .val (.long q4), .second, iv p5, rv b29, iv w0_4, iv w0_5, iv w0_6, rv b40, rv b57, .unset, .unset] [(.int (2:Int32)), (.ref b57)])) _
    refine XS.aload X67.here hx rfl (hb hby at_132) rfl rfl ?_
    show Steps p.tables e below (T67.setTop (mkF m 134 #[.val (.long q0), .second, iv p1, iv p2, iv p3, .val (.long q4), .second, iv p5, rv b29, iv w0_4, iv w0_5, iv w0_6, rv b40, rv b57, .unset, .unset] [(.ref b40), (.int (2:Int32)), (.ref b57)])) _
    refine XS.iconst X67.here hx rfl (hb hby at_134) ?_
    show Steps p.tables e below (T67.setTop (mkF m 135 #[.val (.long q0), .second, iv p1, iv p2, iv p3, .val (.long q4), .second, iv p5, rv b29, iv w0_4, iv w0_5, iv w0_6, rv b40, rv b57, .unset, .unset] [(.int (2:Int32)), (.ref b40), (.int (2:Int32)), (.ref b57)])) _
    refine own_iaload X67 hx hZ e67 F70 hbn71 rfl rfl (hb hby at_135) ?_
    exact k
  have hbn73 : own_In (2:Int32) [w0_7, w0_8, (0:Int32), (0:Int32), (0:Int32)].length := own_lit rfl
  obtain ⟨T72, h72, X72, e72, W72, V72, st72⟩ := own_iastore X67 hx hZ e67 Vw67 (j := (2:Int32)) (x := w0_9) hbn73 (g := (mkF m 136 #[.val (.long q0), .second, iv p1, iv p2, iv p3, .val (.long q4), .second, iv p5, rv b29, iv w0_4, iv w0_5, iv w0_6, rv b40, rv b57, .unset, .unset] [(.int w0_9), (.int (2:Int32)), (.ref b57)])) rfl rfl (hb hby at_136)
  have Z74 : n0 ≤ h72.size := Nat.le_trans Z69 (Nat.le_of_eq W72.size.symm)
  have N72 := Fr.snoc X72 N67 ge_b57
  have Vw72 : own_Ints Z h72 b57 [w0_7, w0_8, w0_9, (0:Int32), (0:Int32)] := V72
  refine own_pre st72 ?_
  have F75 := (F70.other W72 ne_b40_b57)
  have hbn76 : own_In (3:Int32) [w0_7, w0_8, w0_9, w0_10, w0_11].length := own_lit rfl
  refine own_pre (A := T72.setTop (mkF m 144 #[.val (.long q0), .second, iv p1, iv p2, iv p3, .val (.long q4), .second, iv p5, rv b29, iv w0_4, iv w0_5, iv w0_6, rv b40, rv b57, .unset, .unset] [(.int w0_10), (.int (3:Int32)), (.ref b57)])) (fun t k => ?_) ?_
  · show Steps p.tables e below (T72.setTop (mkF m 137 #[.val (.long q0), .second, iv p1, iv p2, iv p3, .val (.long q4), .second, iv p5, rv b29, iv w0_4, iv w0_5, iv w0_6, rv b40, rv b57, .unset, .unset] [])) _
    refine XS.aload X72.here hx rfl (hb hby at_137) rfl rfl ?_
    show Steps p.tables e below (T72.setTop (mkF m 139 #[.val (.long q0), .second, iv p1, iv p2, iv p3, .val (.long q4), .second, iv p5, rv b29, iv w0_4, iv w0_5, iv w0_6, rv b40, rv b57, .unset, .unset] [(.ref b57)])) _
    refine XS.iconst X72.here hx rfl (hb hby at_139) ?_
    show Steps p.tables e below (T72.setTop (mkF m 140 #[.val (.long q0), .second, iv p1, iv p2, iv p3, .val (.long q4), .second, iv p5, rv b29, iv w0_4, iv w0_5, iv w0_6, rv b40, rv b57, .unset, .unset] [(.int (3:Int32)), (.ref b57)])) _
    refine XS.aload X72.here hx rfl (hb hby at_140) rfl rfl ?_
    show Steps p.tables e below (T72.setTop (mkF m 142 #[.val (.long q0), .second, iv p1, iv p2, iv p3, .val (.long q4), .second, iv p5, rv b29, iv w0_4, iv w0_5, iv w0_6, rv b40, rv b57, .unset, .unset] [(.ref b40), (.int (3:Int32)), (.ref b57)])) _
    refine XS.iconst X72.here hx rfl (hb hby at_142) ?_
    show Steps p.tables e below (T72.setTop (mkF m 143 #[.val (.long q0), .second, iv p1, iv p2, iv p3, .val (.long q4), .second, iv p5, rv b29, iv w0_4, iv w0_5, iv w0_6, rv b40, rv b57, .unset, .unset] [(.int (3:Int32)), (.ref b40), (.int (3:Int32)), (.ref b57)])) _
    refine own_iaload X72 hx hZ e72 F75 hbn76 rfl rfl (hb hby at_143) ?_
    exact k
  have hbn78 : own_In (3:Int32) [w0_7, w0_8, w0_9, (0:Int32), (0:Int32)].length := own_lit rfl
  obtain ⟨T77, h77, X77, e77, W77, V77, st77⟩ := own_iastore X72 hx hZ e72 Vw72 (j := (3:Int32)) (x := w0_10) hbn78 (g := (mkF m 144 #[.val (.long q0), .second, iv p1, iv p2, iv p3, .val (.long q4), .second, iv p5, rv b29, iv w0_4, iv w0_5, iv w0_6, rv b40, rv b57, .unset, .unset] [(.int w0_10), (.int (3:Int32)), (.ref b57)])) rfl rfl (hb hby at_144)
  have Z79 : n0 ≤ h77.size := Nat.le_trans Z74 (Nat.le_of_eq W77.size.symm)
  have N77 := Fr.snoc X77 N72 ge_b57
  have Vw77 : own_Ints Z h77 b57 [w0_7, w0_8, w0_9, w0_10, (0:Int32)] := V77
  refine own_pre st77 ?_
  have F80 := (F75.other W77 ne_b40_b57)
  have hbn81 : own_In (4:Int32) [w0_7, w0_8, w0_9, w0_10, w0_11].length := own_lit rfl
  refine own_pre (A := T77.setTop (mkF m 152 #[.val (.long q0), .second, iv p1, iv p2, iv p3, .val (.long q4), .second, iv p5, rv b29, iv w0_4, iv w0_5, iv w0_6, rv b40, rv b57, .unset, .unset] [(.int w0_11), (.int (4:Int32)), (.ref b57)])) (fun t k => ?_) ?_
  · show Steps p.tables e below (T77.setTop (mkF m 145 #[.val (.long q0), .second, iv p1, iv p2, iv p3, .val (.long q4), .second, iv p5, rv b29, iv w0_4, iv w0_5, iv w0_6, rv b40, rv b57, .unset, .unset] [])) _
    refine XS.aload X77.here hx rfl (hb hby at_145) rfl rfl ?_
    show Steps p.tables e below (T77.setTop (mkF m 147 #[.val (.long q0), .second, iv p1, iv p2, iv p3, .val (.long q4), .second, iv p5, rv b29, iv w0_4, iv w0_5, iv w0_6, rv b40, rv b57, .unset, .unset] [(.ref b57)])) _
    refine XS.iconst X77.here hx rfl (hb hby at_147) ?_
    show Steps p.tables e below (T77.setTop (mkF m 148 #[.val (.long q0), .second, iv p1, iv p2, iv p3, .val (.long q4), .second, iv p5, rv b29, iv w0_4, iv w0_5, iv w0_6, rv b40, rv b57, .unset, .unset] [(.int (4:Int32)), (.ref b57)])) _
    refine XS.aload X77.here hx rfl (hb hby at_148) rfl rfl ?_
    show Steps p.tables e below (T77.setTop (mkF m 150 #[.val (.long q0), .second, iv p1, iv p2, iv p3, .val (.long q4), .second, iv p5, rv b29, iv w0_4, iv w0_5, iv w0_6, rv b40, rv b57, .unset, .unset] [(.ref b40), (.int (4:Int32)), (.ref b57)])) _
    refine XS.iconst X77.here hx rfl (hb hby at_150) ?_
    show Steps p.tables e below (T77.setTop (mkF m 151 #[.val (.long q0), .second, iv p1, iv p2, iv p3, .val (.long q4), .second, iv p5, rv b29, iv w0_4, iv w0_5, iv w0_6, rv b40, rv b57, .unset, .unset] [(.int (4:Int32)), (.ref b40), (.int (4:Int32)), (.ref b57)])) _
    refine own_iaload X77 hx hZ e77 F80 hbn81 rfl rfl (hb hby at_151) ?_
    exact k
  have hbn83 : own_In (4:Int32) [w0_7, w0_8, w0_9, w0_10, (0:Int32)].length := own_lit rfl
  obtain ⟨T82, h82, X82, e82, W82, V82, st82⟩ := own_iastore X77 hx hZ e77 Vw77 (j := (4:Int32)) (x := w0_11) hbn83 (g := (mkF m 152 #[.val (.long q0), .second, iv p1, iv p2, iv p3, .val (.long q4), .second, iv p5, rv b29, iv w0_4, iv w0_5, iv w0_6, rv b40, rv b57, .unset, .unset] [(.int w0_11), (.int (4:Int32)), (.ref b57)])) rfl rfl (hb hby at_152)
  have Z84 : n0 ≤ h82.size := Nat.le_trans Z79 (Nat.le_of_eq W82.size.symm)
  have N82 := Fr.snoc X82 N77 ge_b57
  have Vw82 : own_Ints Z h82 b57 [w0_7, w0_8, w0_9, w0_10, w0_11] := V82
  refine own_pre st82 ?_
  refine own_pre (A := T82.setTop (mkF m 163 #[.val (.long q0), .second, iv p1, iv p2, iv p3, .val (.long q4), .second, iv p5, rv b29, iv w0_4, iv w0_5, iv w0_6, rv b40, rv b57, .unset, .unset] [(.int w0_5), (.int w0_4), (.int w0_6), (.ref b57), (.ref b29)])) (fun t k => ?_) ?_
  · show Steps p.tables e below (T82.setTop (mkF m 153 #[.val (.long q0), .second, iv p1, iv p2, iv p3, .val (.long q4), .second, iv p5, rv b29, iv w0_4, iv w0_5, iv w0_6, rv b40, rv b57, .unset, .unset] [])) _
    refine XS.aload X82.here hx rfl (hb hby at_153) rfl rfl ?_
    show Steps p.tables e below (T82.setTop (mkF m 155 #[.val (.long q0), .second, iv p1, iv p2, iv p3, .val (.long q4), .second, iv p5, rv b29, iv w0_4, iv w0_5, iv w0_6, rv b40, rv b57, .unset, .unset] [(.ref b29)])) _
    refine XS.aload X82.here hx rfl (hb hby at_155) rfl rfl ?_
    show Steps p.tables e below (T82.setTop (mkF m 157 #[.val (.long q0), .second, iv p1, iv p2, iv p3, .val (.long q4), .second, iv p5, rv b29, iv w0_4, iv w0_5, iv w0_6, rv b40, rv b57, .unset, .unset] [(.ref b57), (.ref b29)])) _
    refine XS.iload X82.here hx rfl (hb hby at_157) rfl ?_
    show Steps p.tables e below (T82.setTop (mkF m 159 #[.val (.long q0), .second, iv p1, iv p2, iv p3, .val (.long q4), .second, iv p5, rv b29, iv w0_4, iv w0_5, iv w0_6, rv b40, rv b57, .unset, .unset] [(.int w0_6), (.ref b57), (.ref b29)])) _
    refine XS.iload X82.here hx rfl (hb hby at_159) rfl ?_
    show Steps p.tables e below (T82.setTop (mkF m 161 #[.val (.long q0), .second, iv p1, iv p2, iv p3, .val (.long q4), .second, iv p5, rv b29, iv w0_4, iv w0_5, iv w0_6, rv b40, rv b57, .unset, .unset] [(.int w0_4), (.int w0_6), (.ref b57), (.ref b29)])) _
    refine XS.iload X82.here hx rfl (hb hby at_161) rfl ?_
    exact k
  have F86 := ((((((F58.ext E57).other W62 ne_b29_b57).other W67 ne_b29_b57).other W72 ne_b29_b57).other W77 ne_b29_b57).other W82 ne_b29_b57)
  obtain ⟨_, _, ⟨T85, L85, k85, n85⟩, -, X85, ⟨Lc85, hQ85, l85, y85, z85⟩, st85⟩ := Jvm.LawKit.callS X82 hx (y := (⟨"com/example/rowfold/rowfold/codec/Learning", "train", "([I[IIII)V"⟩ : MethodName)) hown (mvT hZ (own_h hw 3 rfl)) (mvT hZ (own_h hw 4 rfl)) (mvT hZ (own_h hw 5 rfl)) (mvT hZ (own_h hw 6 rfl)) (by decide) (backOf (W := 0) (rm1 l Z aZ hw [] b29 b57 w0_6 w0_4 w0_5 w0_1 w0_2 w0_3 [w0_7, w0_8, w0_9, w0_10, w0_11] h82 n0 Z84 F86 Vw82 ne_b29_b57 ge_b57 (own_at3 hw0_6 _ rfl).1 (own_at3 hw0_6 _ rfl).2.1 (own_at3 hw0_6 _ rfl).2.2) hZ (own_h hw 6 rfl) (own_h hw 5 rfl) (by decide) (by decide)) (g := (mkF m 163 #[.val (.long q0), .second, iv p1, iv p2, iv p3, .val (.long q4), .second, iv p5, rv b29, iv w0_4, iv w0_5, iv w0_6, rv b40, rv b57, .unset, .unset] [(.int w0_5), (.int w0_4), (.int w0_6), (.ref b57), (.ref b29)])) rfl (by rw [hml]; rfl) (argsL := [(.ref b29), (.ref b57), (.int w0_6), (.int w0_4), (.int w0_5)]) (rest := []) (lenOf own_pd0 rfl) rfl (by show 2 * 0 + _ ≤ _; exact Nat.le_of_eq rfl) (hb hby at_163) (fun _ _ => ⟨rfl, e82, (by decide : 3 + 0 ≤ _), (by decide : 13 + 0 ≤ _)⟩)
  dsimp only [Pt.U, Pt.locs, Pt.cells, Pt.slots] at X85 l85 y85 z85 st85 hQ85
  subst l85 y85 z85
  obtain ⟨rfl, N85q, K85, G87⟩ := hQ85
  have N85 := Fr.app N82 N85q
  have Z88 : n0 ≤ T85.heap.size := Nat.le_trans Z84 K85.1
  have G90 : own_Ints Z T85.heap b57 (own_v89 w0_1 w0_2 w0_3 w0_7 w0_8 w0_9 w0_10 w0_11 w0_6 w0_4 w0_5) := G87
  refine own_pre st85 ?_
  obtain ⟨w0_12, hw0_12⟩ : ∃ z : Int64, z = (((w0_5.toInt64) * (4096:Int64)) - (w0_4.toInt64)) := ⟨_, rfl⟩
  refine own_pre (A := T85.setTop (mkF m 190 #[.val (.long q0), .second, iv p1, iv p2, iv p3, .val (.long q4), .second, iv p5, rv b29, iv w0_4, iv w0_5, iv w0_6, rv b40, rv b57, .val (.long w0_12), .second] [(.long w0_12), (.ref b57), (.ref b40), (.ref b29), (.int w0_6), (.int (0:Int32))])) (fun t k => ?_) ?_
  · show Steps p.tables e below (T85.setTop (mkF m 166 #[.val (.long q0), .second, iv p1, iv p2, iv p3, .val (.long q4), .second, iv p5, rv b29, iv w0_4, iv w0_5, iv w0_6, rv b40, rv b57, .unset, .unset] [])) _
    refine XS.iload X85.here hx rfl (hb hby at_166) rfl ?_
    show Steps p.tables e below (T85.setTop (mkF m 168 #[.val (.long q0), .second, iv p1, iv p2, iv p3, .val (.long q4), .second, iv p5, rv b29, iv w0_4, iv w0_5, iv w0_6, rv b40, rv b57, .unset, .unset] [(.int w0_5)])) _
    refine XS.i2l X85.here hx rfl (hb hby at_168) rfl ?_
    show Steps p.tables e below (T85.setTop (mkF m 169 #[.val (.long q0), .second, iv p1, iv p2, iv p3, .val (.long q4), .second, iv p5, rv b29, iv w0_4, iv w0_5, iv w0_6, rv b40, rv b57, .unset, .unset] [(.long (w0_5.toInt64))])) _
    refine Jvm.Stand.ldc2J X85 hx hown (mvT hZ (own_h hw 7 rfl)) rfl (hb hby at_169) ?_
    show Steps p.tables e below (T85.setTop (mkF m 172 #[.val (.long q0), .second, iv p1, iv p2, iv p3, .val (.long q4), .second, iv p5, rv b29, iv w0_4, iv w0_5, iv w0_6, rv b40, rv b57, .unset, .unset] [(.long (4096:Int64)), (.long (w0_5.toInt64))])) _
    refine XS.lmul X85.here hx rfl (hb hby at_172) rfl ?_
    show Steps p.tables e below (T85.setTop (mkF m 173 #[.val (.long q0), .second, iv p1, iv p2, iv p3, .val (.long q4), .second, iv p5, rv b29, iv w0_4, iv w0_5, iv w0_6, rv b40, rv b57, .unset, .unset] [(.long ((w0_5.toInt64) * (4096:Int64)))])) _
    refine XS.iload X85.here hx rfl (hb hby at_173) rfl ?_
    show Steps p.tables e below (T85.setTop (mkF m 175 #[.val (.long q0), .second, iv p1, iv p2, iv p3, .val (.long q4), .second, iv p5, rv b29, iv w0_4, iv w0_5, iv w0_6, rv b40, rv b57, .unset, .unset] [(.int w0_4), (.long ((w0_5.toInt64) * (4096:Int64)))])) _
    refine XS.i2l X85.here hx rfl (hb hby at_175) rfl ?_
    show Steps p.tables e below (T85.setTop (mkF m 176 #[.val (.long q0), .second, iv p1, iv p2, iv p3, .val (.long q4), .second, iv p5, rv b29, iv w0_4, iv w0_5, iv w0_6, rv b40, rv b57, .unset, .unset] [(.long (w0_4.toInt64)), (.long ((w0_5.toInt64) * (4096:Int64)))])) _
    refine XS.lsub X85.here hx rfl (hb hby at_176) rfl ?_
    show Steps p.tables e below (T85.setTop (mkF m 177 #[.val (.long q0), .second, iv p1, iv p2, iv p3, .val (.long q4), .second, iv p5, rv b29, iv w0_4, iv w0_5, iv w0_6, rv b40, rv b57, .unset, .unset] [(.long (((w0_5.toInt64) * (4096:Int64)) - (w0_4.toInt64)))])) _
    refine XS.lstore X85.here hx rfl (hb hby at_177) rfl (l' := #[.val (.long q0), .second, iv p1, iv p2, iv p3, .val (.long q4), .second, iv p5, rv b29, iv w0_4, iv w0_5, iv w0_6, rv b40, rv b57, .val (.long w0_12), .second]) (by rw [hw0_12]; rfl) ?_
    show Steps p.tables e below (T85.setTop (mkF m 179 #[.val (.long q0), .second, iv p1, iv p2, iv p3, .val (.long q4), .second, iv p5, rv b29, iv w0_4, iv w0_5, iv w0_6, rv b40, rv b57, .val (.long w0_12), .second] [])) _
    refine XS.iconst X85.here hx rfl (hb hby at_179) ?_
    show Steps p.tables e below (T85.setTop (mkF m 180 #[.val (.long q0), .second, iv p1, iv p2, iv p3, .val (.long q4), .second, iv p5, rv b29, iv w0_4, iv w0_5, iv w0_6, rv b40, rv b57, .val (.long w0_12), .second] [(.int (0:Int32))])) _
    refine XS.iload X85.here hx rfl (hb hby at_180) rfl ?_
    show Steps p.tables e below (T85.setTop (mkF m 182 #[.val (.long q0), .second, iv p1, iv p2, iv p3, .val (.long q4), .second, iv p5, rv b29, iv w0_4, iv w0_5, iv w0_6, rv b40, rv b57, .val (.long w0_12), .second] [(.int w0_6), (.int (0:Int32))])) _
    refine XS.aload X85.here hx rfl (hb hby at_182) rfl rfl ?_
    show Steps p.tables e below (T85.setTop (mkF m 184 #[.val (.long q0), .second, iv p1, iv p2, iv p3, .val (.long q4), .second, iv p5, rv b29, iv w0_4, iv w0_5, iv w0_6, rv b40, rv b57, .val (.long w0_12), .second] [(.ref b29), (.int w0_6), (.int (0:Int32))])) _
    refine XS.aload X85.here hx rfl (hb hby at_184) rfl rfl ?_
    show Steps p.tables e below (T85.setTop (mkF m 186 #[.val (.long q0), .second, iv p1, iv p2, iv p3, .val (.long q4), .second, iv p5, rv b29, iv w0_4, iv w0_5, iv w0_6, rv b40, rv b57, .val (.long w0_12), .second] [(.ref b40), (.ref b29), (.int w0_6), (.int (0:Int32))])) _
    refine XS.aload X85.here hx rfl (hb hby at_186) rfl rfl ?_
    show Steps p.tables e below (T85.setTop (mkF m 188 #[.val (.long q0), .second, iv p1, iv p2, iv p3, .val (.long q4), .second, iv p5, rv b29, iv w0_4, iv w0_5, iv w0_6, rv b40, rv b57, .val (.long w0_12), .second] [(.ref b57), (.ref b40), (.ref b29), (.int w0_6), (.int (0:Int32))])) _
    refine XS.lload X85.here hx rfl (hb hby at_188) rfl ?_
    exact k
  have F92 := (F86.keep K85 (ninS ne_b29_b57 nin0))
  have F93 := ((F80.other W82 ne_b40_b57).keep K85 (ninS ne_b40_b57 nin0))
  obtain ⟨_, _, ⟨T91, L91, k91, n91⟩, -, X91, ⟨Lc91, hQ91, l91, y91, z91⟩, st91⟩ := Jvm.LawKit.callS X85 hx (y := (⟨"com/example/rowfold/rowfold/codec/LearningTrainPinLaw", "ok", "(II[I[I[IJ)Z"⟩ : MethodName)) hown (mvT hZ (own_h hw 8 rfl)) (mvT hZ (own_h hw 9 rfl)) (mvT hZ (own_h hw 10 rfl)) (mvT hZ (own_h hw 11 rfl)) (by decide) (backOf (W := 0) (rm2 l Z aZ hw [] (0:Int32) w0_6 b29 b40 b57 w0_12 [w0_1, w0_2, w0_3] [w0_7, w0_8, w0_9, w0_10, w0_11] (own_v89 w0_1 w0_2 w0_3 w0_7 w0_8 w0_9 w0_10 w0_11 w0_6 w0_4 w0_5) T85.heap n0 Z88 F92 F93 G90 (own_lit rfl) (by show own_In _ (own_train _ _ _ _ _ _).length; rw [own_trlen]; exact own_lit rfl) (own_sub3 hw0_6 _ (own_lit rfl))) hZ (own_h hw 11 rfl) (own_h hw 10 rfl) (by decide) (by decide)) (g := (mkF m 190 #[.val (.long q0), .second, iv p1, iv p2, iv p3, .val (.long q4), .second, iv p5, rv b29, iv w0_4, iv w0_5, iv w0_6, rv b40, rv b57, .val (.long w0_12), .second] [(.long w0_12), (.ref b57), (.ref b40), (.ref b29), (.int w0_6), (.int (0:Int32))])) rfl (by rw [hml]; rfl) (argsL := [(.int (0:Int32)), (.int w0_6), (.ref b29), (.ref b40), (.ref b57), (.long w0_12)]) (rest := []) (lenOf own_pd1 rfl) rfl (by show 2 * 0 + _ ≤ _; exact Nat.le_of_eq rfl) (hb hby at_190) (fun _ _ => ⟨rfl, rfl, (by decide : 3 + 0 ≤ _), (by decide : 13 + 0 ≤ _)⟩)
  dsimp only [Pt.U, Pt.locs, Pt.cells, Pt.slots] at X91 l91 y91 z91 st91 hQ91
  subst l91 y91 z91
  obtain ⟨rfl, N91q, eh91⟩ := hQ91
  have N91 := Fr.app N85 N91q
  refine own_pre st91 ?_
  by_cases hs193_2 : (own_v94 w0_6 w0_12 w0_1 w0_2 w0_3 w0_7 w0_8 w0_9 w0_10 w0_11 w0_4 w0_5) = (0:Int32)
  · refine own_pre (A := T91.setTop (mkF m 269 #[.val (.long q0), .second, iv p1, iv p2, iv p3, .val (.long q4), .second, iv p5, rv b29, iv w0_4, iv w0_5, iv w0_6, rv b40, rv b57, .val (.long w0_12), .second] [(.int (0:Int32))])) (fun t k => ?_) ?_
    · show Steps p.tables e below (T91.setTop (mkF m 193 #[.val (.long q0), .second, iv p1, iv p2, iv p3, .val (.long q4), .second, iv p5, rv b29, iv w0_4, iv w0_5, iv w0_6, rv b40, rv b57, .val (.long w0_12), .second] [(.int (own_v94 w0_6 w0_12 w0_1 w0_2 w0_3 w0_7 w0_8 w0_9 w0_10 w0_11 w0_4 w0_5))])) _
      refine XS.ifYes X91.here hx rfl (pc0 := 193) (pc' := 268) rfl (hb hby at_193) rfl (XT.i0_eq_t hs193_2) (by decide) (by decide) ?_
      show Steps p.tables e below (T91.setTop (mkF m 268 #[.val (.long q0), .second, iv p1, iv p2, iv p3, .val (.long q4), .second, iv p5, rv b29, iv w0_4, iv w0_5, iv w0_6, rv b40, rv b57, .val (.long w0_12), .second] [])) _
      refine XS.iconst X91.here hx rfl (hb hby at_268) ?_
      exact k
    have hv95 : (0:Int32) = f0 q0 p1 p2 p3 q4 p5 := by subst hw0_1 hw0_2 hw0_3 hw0_4 hw0_5 hw0_6 hw0_7 hw0_8 hw0_9 hw0_10 hw0_11 hw0_12; simp only [f0, if_pos hs193_2]
    exact own_end X91 (BodyLoose.notSynchronized Bd) (fun h => by rw [Bd.returns] at h; cases h) (v := some (.int (0:Int32))) (fun fs hr => retN X91 hx (t := .boolean) Bd.returns (by simp) (hb hby at_269) hr) (by show Q0 Z q0 p1 p2 p3 q4 p5 h0 n0 _ T91.heap _; rw [eh91]; exact ⟨(congrArg (fun z => some (Value.int z)) hv95), N91⟩) (by decide) (by decide)
  · refine own_pre (A := T91.setTop (mkF m 207 #[.val (.long q0), .second, iv p1, iv p2, iv p3, .val (.long q4), .second, iv p5, rv b29, iv w0_4, iv w0_5, iv w0_6, rv b40, rv b57, .val (.long w0_12), .second] [(.long w0_12), (.ref b57), (.ref b40), (.ref b29), (.int w0_6), (.int (1:Int32))])) (fun t k => ?_) ?_
    · show Steps p.tables e below (T91.setTop (mkF m 193 #[.val (.long q0), .second, iv p1, iv p2, iv p3, .val (.long q4), .second, iv p5, rv b29, iv w0_4, iv w0_5, iv w0_6, rv b40, rv b57, .val (.long w0_12), .second] [(.int (own_v94 w0_6 w0_12 w0_1 w0_2 w0_3 w0_7 w0_8 w0_9 w0_10 w0_11 w0_4 w0_5))])) _
      refine XS.ifNo X91.here hx rfl (hb hby at_193) rfl (XT.i0_eq_f hs193_2) ?_
      show Steps p.tables e below (T91.setTop (mkF m 196 #[.val (.long q0), .second, iv p1, iv p2, iv p3, .val (.long q4), .second, iv p5, rv b29, iv w0_4, iv w0_5, iv w0_6, rv b40, rv b57, .val (.long w0_12), .second] [])) _
      refine XS.iconst X91.here hx rfl (hb hby at_196) ?_
      show Steps p.tables e below (T91.setTop (mkF m 197 #[.val (.long q0), .second, iv p1, iv p2, iv p3, .val (.long q4), .second, iv p5, rv b29, iv w0_4, iv w0_5, iv w0_6, rv b40, rv b57, .val (.long w0_12), .second] [(.int (1:Int32))])) _
      refine XS.iload X91.here hx rfl (hb hby at_197) rfl ?_
      show Steps p.tables e below (T91.setTop (mkF m 199 #[.val (.long q0), .second, iv p1, iv p2, iv p3, .val (.long q4), .second, iv p5, rv b29, iv w0_4, iv w0_5, iv w0_6, rv b40, rv b57, .val (.long w0_12), .second] [(.int w0_6), (.int (1:Int32))])) _
      refine XS.aload X91.here hx rfl (hb hby at_199) rfl rfl ?_
      show Steps p.tables e below (T91.setTop (mkF m 201 #[.val (.long q0), .second, iv p1, iv p2, iv p3, .val (.long q4), .second, iv p5, rv b29, iv w0_4, iv w0_5, iv w0_6, rv b40, rv b57, .val (.long w0_12), .second] [(.ref b29), (.int w0_6), (.int (1:Int32))])) _
      refine XS.aload X91.here hx rfl (hb hby at_201) rfl rfl ?_
      show Steps p.tables e below (T91.setTop (mkF m 203 #[.val (.long q0), .second, iv p1, iv p2, iv p3, .val (.long q4), .second, iv p5, rv b29, iv w0_4, iv w0_5, iv w0_6, rv b40, rv b57, .val (.long w0_12), .second] [(.ref b40), (.ref b29), (.int w0_6), (.int (1:Int32))])) _
      refine XS.aload X91.here hx rfl (hb hby at_203) rfl rfl ?_
      show Steps p.tables e below (T91.setTop (mkF m 205 #[.val (.long q0), .second, iv p1, iv p2, iv p3, .val (.long q4), .second, iv p5, rv b29, iv w0_4, iv w0_5, iv w0_6, rv b40, rv b57, .val (.long w0_12), .second] [(.ref b57), (.ref b40), (.ref b29), (.int w0_6), (.int (1:Int32))])) _
      refine XS.lload X91.here hx rfl (hb hby at_205) rfl ?_
      exact k
    obtain ⟨_, _, ⟨T96, L96, k96, n96⟩, -, X96, ⟨Lc96, hQ96, l96, y96, z96⟩, st96⟩ := Jvm.LawKit.callS X91 hx (y := (⟨"com/example/rowfold/rowfold/codec/LearningTrainPinLaw", "ok", "(II[I[I[IJ)Z"⟩ : MethodName)) hown (mvT hZ (own_h hw 8 rfl)) (mvT hZ (own_h hw 9 rfl)) (mvT hZ (own_h hw 10 rfl)) (mvT hZ (own_h hw 11 rfl)) (by decide) (backOf (W := 0) (rm2 l Z aZ hw [] (1:Int32) w0_6 b29 b40 b57 w0_12 [w0_1, w0_2, w0_3] [w0_7, w0_8, w0_9, w0_10, w0_11] (own_v89 w0_1 w0_2 w0_3 w0_7 w0_8 w0_9 w0_10 w0_11 w0_6 w0_4 w0_5) T85.heap n0 Z88 F92 F93 G90 (own_lit rfl) (by show own_In _ (own_train _ _ _ _ _ _).length; rw [own_trlen]; exact own_lit rfl) (own_sub3 hw0_6 _ (own_lit rfl))) hZ (own_h hw 11 rfl) (own_h hw 10 rfl) (by decide) (by decide)) (g := (mkF m 207 #[.val (.long q0), .second, iv p1, iv p2, iv p3, .val (.long q4), .second, iv p5, rv b29, iv w0_4, iv w0_5, iv w0_6, rv b40, rv b57, .val (.long w0_12), .second] [(.long w0_12), (.ref b57), (.ref b40), (.ref b29), (.int w0_6), (.int (1:Int32))])) rfl (by rw [hml]; rfl) (argsL := [(.int (1:Int32)), (.int w0_6), (.ref b29), (.ref b40), (.ref b57), (.long w0_12)]) (rest := []) (lenOf own_pd1 rfl) rfl (by show 2 * 0 + _ ≤ _; exact Nat.le_of_eq rfl) (hb hby at_207) (fun _ _ => ⟨rfl, eh91, (by decide : 3 + 0 ≤ _), (by decide : 13 + 0 ≤ _)⟩)
    dsimp only [Pt.U, Pt.locs, Pt.cells, Pt.slots] at X96 l96 y96 z96 st96 hQ96
    subst l96 y96 z96
    obtain ⟨rfl, N96q, eh96⟩ := hQ96
    have N96 := Fr.app N91 N96q
    refine own_pre st96 ?_
    by_cases hs210_4 : (own_v97 w0_6 w0_12 w0_1 w0_2 w0_3 w0_7 w0_8 w0_9 w0_10 w0_11 w0_4 w0_5) = (0:Int32)
    · refine own_pre (A := T96.setTop (mkF m 269 #[.val (.long q0), .second, iv p1, iv p2, iv p3, .val (.long q4), .second, iv p5, rv b29, iv w0_4, iv w0_5, iv w0_6, rv b40, rv b57, .val (.long w0_12), .second] [(.int (0:Int32))])) (fun t k => ?_) ?_
      · show Steps p.tables e below (T96.setTop (mkF m 210 #[.val (.long q0), .second, iv p1, iv p2, iv p3, .val (.long q4), .second, iv p5, rv b29, iv w0_4, iv w0_5, iv w0_6, rv b40, rv b57, .val (.long w0_12), .second] [(.int (own_v97 w0_6 w0_12 w0_1 w0_2 w0_3 w0_7 w0_8 w0_9 w0_10 w0_11 w0_4 w0_5))])) _
        refine XS.ifYes X96.here hx rfl (pc0 := 210) (pc' := 268) rfl (hb hby at_210) rfl (XT.i0_eq_t hs210_4) (by decide) (by decide) ?_
        show Steps p.tables e below (T96.setTop (mkF m 268 #[.val (.long q0), .second, iv p1, iv p2, iv p3, .val (.long q4), .second, iv p5, rv b29, iv w0_4, iv w0_5, iv w0_6, rv b40, rv b57, .val (.long w0_12), .second] [])) _
        refine XS.iconst X96.here hx rfl (hb hby at_268) ?_
        exact k
      have hv98 : (0:Int32) = f0 q0 p1 p2 p3 q4 p5 := by subst hw0_1 hw0_2 hw0_3 hw0_4 hw0_5 hw0_6 hw0_7 hw0_8 hw0_9 hw0_10 hw0_11 hw0_12; simp only [f0, if_neg hs193_2, if_pos hs210_4]
      exact own_end X96 (BodyLoose.notSynchronized Bd) (fun h => by rw [Bd.returns] at h; cases h) (v := some (.int (0:Int32))) (fun fs hr => retN X96 hx (t := .boolean) Bd.returns (by simp) (hb hby at_269) hr) (by show Q0 Z q0 p1 p2 p3 q4 p5 h0 n0 _ T96.heap _; rw [eh96]; exact ⟨(congrArg (fun z => some (Value.int z)) hv98), N96⟩) (by decide) (by decide)
    · refine own_pre (A := T96.setTop (mkF m 224 #[.val (.long q0), .second, iv p1, iv p2, iv p3, .val (.long q4), .second, iv p5, rv b29, iv w0_4, iv w0_5, iv w0_6, rv b40, rv b57, .val (.long w0_12), .second] [(.long w0_12), (.ref b57), (.ref b40), (.ref b29), (.int w0_6), (.int (2:Int32))])) (fun t k => ?_) ?_
      · show Steps p.tables e below (T96.setTop (mkF m 210 #[.val (.long q0), .second, iv p1, iv p2, iv p3, .val (.long q4), .second, iv p5, rv b29, iv w0_4, iv w0_5, iv w0_6, rv b40, rv b57, .val (.long w0_12), .second] [(.int (own_v97 w0_6 w0_12 w0_1 w0_2 w0_3 w0_7 w0_8 w0_9 w0_10 w0_11 w0_4 w0_5))])) _
        refine XS.ifNo X96.here hx rfl (hb hby at_210) rfl (XT.i0_eq_f hs210_4) ?_
        show Steps p.tables e below (T96.setTop (mkF m 213 #[.val (.long q0), .second, iv p1, iv p2, iv p3, .val (.long q4), .second, iv p5, rv b29, iv w0_4, iv w0_5, iv w0_6, rv b40, rv b57, .val (.long w0_12), .second] [])) _
        refine XS.iconst X96.here hx rfl (hb hby at_213) ?_
        show Steps p.tables e below (T96.setTop (mkF m 214 #[.val (.long q0), .second, iv p1, iv p2, iv p3, .val (.long q4), .second, iv p5, rv b29, iv w0_4, iv w0_5, iv w0_6, rv b40, rv b57, .val (.long w0_12), .second] [(.int (2:Int32))])) _
        refine XS.iload X96.here hx rfl (hb hby at_214) rfl ?_
        show Steps p.tables e below (T96.setTop (mkF m 216 #[.val (.long q0), .second, iv p1, iv p2, iv p3, .val (.long q4), .second, iv p5, rv b29, iv w0_4, iv w0_5, iv w0_6, rv b40, rv b57, .val (.long w0_12), .second] [(.int w0_6), (.int (2:Int32))])) _
        refine XS.aload X96.here hx rfl (hb hby at_216) rfl rfl ?_
        show Steps p.tables e below (T96.setTop (mkF m 218 #[.val (.long q0), .second, iv p1, iv p2, iv p3, .val (.long q4), .second, iv p5, rv b29, iv w0_4, iv w0_5, iv w0_6, rv b40, rv b57, .val (.long w0_12), .second] [(.ref b29), (.int w0_6), (.int (2:Int32))])) _
        refine XS.aload X96.here hx rfl (hb hby at_218) rfl rfl ?_
        show Steps p.tables e below (T96.setTop (mkF m 220 #[.val (.long q0), .second, iv p1, iv p2, iv p3, .val (.long q4), .second, iv p5, rv b29, iv w0_4, iv w0_5, iv w0_6, rv b40, rv b57, .val (.long w0_12), .second] [(.ref b40), (.ref b29), (.int w0_6), (.int (2:Int32))])) _
        refine XS.aload X96.here hx rfl (hb hby at_220) rfl rfl ?_
        show Steps p.tables e below (T96.setTop (mkF m 222 #[.val (.long q0), .second, iv p1, iv p2, iv p3, .val (.long q4), .second, iv p5, rv b29, iv w0_4, iv w0_5, iv w0_6, rv b40, rv b57, .val (.long w0_12), .second] [(.ref b57), (.ref b40), (.ref b29), (.int w0_6), (.int (2:Int32))])) _
        refine XS.lload X96.here hx rfl (hb hby at_222) rfl ?_
        exact k
      obtain ⟨_, _, ⟨T99, L99, k99, n99⟩, -, X99, ⟨Lc99, hQ99, l99, y99, z99⟩, st99⟩ := Jvm.LawKit.callS X96 hx (y := (⟨"com/example/rowfold/rowfold/codec/LearningTrainPinLaw", "ok", "(II[I[I[IJ)Z"⟩ : MethodName)) hown (mvT hZ (own_h hw 8 rfl)) (mvT hZ (own_h hw 9 rfl)) (mvT hZ (own_h hw 10 rfl)) (mvT hZ (own_h hw 11 rfl)) (by decide) (backOf (W := 0) (rm2 l Z aZ hw [] (2:Int32) w0_6 b29 b40 b57 w0_12 [w0_1, w0_2, w0_3] [w0_7, w0_8, w0_9, w0_10, w0_11] (own_v89 w0_1 w0_2 w0_3 w0_7 w0_8 w0_9 w0_10 w0_11 w0_6 w0_4 w0_5) T85.heap n0 Z88 F92 F93 G90 (own_lit rfl) (by show own_In _ (own_train _ _ _ _ _ _).length; rw [own_trlen]; exact own_lit rfl) (own_sub3 hw0_6 _ (own_lit rfl))) hZ (own_h hw 11 rfl) (own_h hw 10 rfl) (by decide) (by decide)) (g := (mkF m 224 #[.val (.long q0), .second, iv p1, iv p2, iv p3, .val (.long q4), .second, iv p5, rv b29, iv w0_4, iv w0_5, iv w0_6, rv b40, rv b57, .val (.long w0_12), .second] [(.long w0_12), (.ref b57), (.ref b40), (.ref b29), (.int w0_6), (.int (2:Int32))])) rfl (by rw [hml]; rfl) (argsL := [(.int (2:Int32)), (.int w0_6), (.ref b29), (.ref b40), (.ref b57), (.long w0_12)]) (rest := []) (lenOf own_pd1 rfl) rfl (by show 2 * 0 + _ ≤ _; exact Nat.le_of_eq rfl) (hb hby at_224) (fun _ _ => ⟨rfl, eh96, (by decide : 3 + 0 ≤ _), (by decide : 13 + 0 ≤ _)⟩)
      dsimp only [Pt.U, Pt.locs, Pt.cells, Pt.slots] at X99 l99 y99 z99 st99 hQ99
      subst l99 y99 z99
      obtain ⟨rfl, N99q, eh99⟩ := hQ99
      have N99 := Fr.app N96 N99q
      refine own_pre st99 ?_
      by_cases hs227_6 : (own_v100 w0_6 w0_12 w0_1 w0_2 w0_3 w0_7 w0_8 w0_9 w0_10 w0_11 w0_4 w0_5) = (0:Int32)
      · refine own_pre (A := T99.setTop (mkF m 269 #[.val (.long q0), .second, iv p1, iv p2, iv p3, .val (.long q4), .second, iv p5, rv b29, iv w0_4, iv w0_5, iv w0_6, rv b40, rv b57, .val (.long w0_12), .second] [(.int (0:Int32))])) (fun t k => ?_) ?_
        · show Steps p.tables e below (T99.setTop (mkF m 227 #[.val (.long q0), .second, iv p1, iv p2, iv p3, .val (.long q4), .second, iv p5, rv b29, iv w0_4, iv w0_5, iv w0_6, rv b40, rv b57, .val (.long w0_12), .second] [(.int (own_v100 w0_6 w0_12 w0_1 w0_2 w0_3 w0_7 w0_8 w0_9 w0_10 w0_11 w0_4 w0_5))])) _
          refine XS.ifYes X99.here hx rfl (pc0 := 227) (pc' := 268) rfl (hb hby at_227) rfl (XT.i0_eq_t hs227_6) (by decide) (by decide) ?_
          show Steps p.tables e below (T99.setTop (mkF m 268 #[.val (.long q0), .second, iv p1, iv p2, iv p3, .val (.long q4), .second, iv p5, rv b29, iv w0_4, iv w0_5, iv w0_6, rv b40, rv b57, .val (.long w0_12), .second] [])) _
          refine XS.iconst X99.here hx rfl (hb hby at_268) ?_
          exact k
        have hv101 : (0:Int32) = f0 q0 p1 p2 p3 q4 p5 := by subst hw0_1 hw0_2 hw0_3 hw0_4 hw0_5 hw0_6 hw0_7 hw0_8 hw0_9 hw0_10 hw0_11 hw0_12; simp only [f0, if_neg hs193_2, if_neg hs210_4, if_pos hs227_6]
        exact own_end X99 (BodyLoose.notSynchronized Bd) (fun h => by rw [Bd.returns] at h; cases h) (v := some (.int (0:Int32))) (fun fs hr => retN X99 hx (t := .boolean) Bd.returns (by simp) (hb hby at_269) hr) (by show Q0 Z q0 p1 p2 p3 q4 p5 h0 n0 _ T99.heap _; rw [eh99]; exact ⟨(congrArg (fun z => some (Value.int z)) hv101), N99⟩) (by decide) (by decide)
      · refine own_pre (A := T99.setTop (mkF m 241 #[.val (.long q0), .second, iv p1, iv p2, iv p3, .val (.long q4), .second, iv p5, rv b29, iv w0_4, iv w0_5, iv w0_6, rv b40, rv b57, .val (.long w0_12), .second] [(.long w0_12), (.ref b57), (.ref b40), (.ref b29), (.int w0_6), (.int (3:Int32))])) (fun t k => ?_) ?_
        · show Steps p.tables e below (T99.setTop (mkF m 227 #[.val (.long q0), .second, iv p1, iv p2, iv p3, .val (.long q4), .second, iv p5, rv b29, iv w0_4, iv w0_5, iv w0_6, rv b40, rv b57, .val (.long w0_12), .second] [(.int (own_v100 w0_6 w0_12 w0_1 w0_2 w0_3 w0_7 w0_8 w0_9 w0_10 w0_11 w0_4 w0_5))])) _
          refine XS.ifNo X99.here hx rfl (hb hby at_227) rfl (XT.i0_eq_f hs227_6) ?_
          show Steps p.tables e below (T99.setTop (mkF m 230 #[.val (.long q0), .second, iv p1, iv p2, iv p3, .val (.long q4), .second, iv p5, rv b29, iv w0_4, iv w0_5, iv w0_6, rv b40, rv b57, .val (.long w0_12), .second] [])) _
          refine XS.iconst X99.here hx rfl (hb hby at_230) ?_
          show Steps p.tables e below (T99.setTop (mkF m 231 #[.val (.long q0), .second, iv p1, iv p2, iv p3, .val (.long q4), .second, iv p5, rv b29, iv w0_4, iv w0_5, iv w0_6, rv b40, rv b57, .val (.long w0_12), .second] [(.int (3:Int32))])) _
          refine XS.iload X99.here hx rfl (hb hby at_231) rfl ?_
          show Steps p.tables e below (T99.setTop (mkF m 233 #[.val (.long q0), .second, iv p1, iv p2, iv p3, .val (.long q4), .second, iv p5, rv b29, iv w0_4, iv w0_5, iv w0_6, rv b40, rv b57, .val (.long w0_12), .second] [(.int w0_6), (.int (3:Int32))])) _
          refine XS.aload X99.here hx rfl (hb hby at_233) rfl rfl ?_
          show Steps p.tables e below (T99.setTop (mkF m 235 #[.val (.long q0), .second, iv p1, iv p2, iv p3, .val (.long q4), .second, iv p5, rv b29, iv w0_4, iv w0_5, iv w0_6, rv b40, rv b57, .val (.long w0_12), .second] [(.ref b29), (.int w0_6), (.int (3:Int32))])) _
          refine XS.aload X99.here hx rfl (hb hby at_235) rfl rfl ?_
          show Steps p.tables e below (T99.setTop (mkF m 237 #[.val (.long q0), .second, iv p1, iv p2, iv p3, .val (.long q4), .second, iv p5, rv b29, iv w0_4, iv w0_5, iv w0_6, rv b40, rv b57, .val (.long w0_12), .second] [(.ref b40), (.ref b29), (.int w0_6), (.int (3:Int32))])) _
          refine XS.aload X99.here hx rfl (hb hby at_237) rfl rfl ?_
          show Steps p.tables e below (T99.setTop (mkF m 239 #[.val (.long q0), .second, iv p1, iv p2, iv p3, .val (.long q4), .second, iv p5, rv b29, iv w0_4, iv w0_5, iv w0_6, rv b40, rv b57, .val (.long w0_12), .second] [(.ref b57), (.ref b40), (.ref b29), (.int w0_6), (.int (3:Int32))])) _
          refine XS.lload X99.here hx rfl (hb hby at_239) rfl ?_
          exact k
        obtain ⟨_, _, ⟨T102, L102, k102, n102⟩, -, X102, ⟨Lc102, hQ102, l102, y102, z102⟩, st102⟩ := Jvm.LawKit.callS X99 hx (y := (⟨"com/example/rowfold/rowfold/codec/LearningTrainPinLaw", "ok", "(II[I[I[IJ)Z"⟩ : MethodName)) hown (mvT hZ (own_h hw 8 rfl)) (mvT hZ (own_h hw 9 rfl)) (mvT hZ (own_h hw 10 rfl)) (mvT hZ (own_h hw 11 rfl)) (by decide) (backOf (W := 0) (rm2 l Z aZ hw [] (3:Int32) w0_6 b29 b40 b57 w0_12 [w0_1, w0_2, w0_3] [w0_7, w0_8, w0_9, w0_10, w0_11] (own_v89 w0_1 w0_2 w0_3 w0_7 w0_8 w0_9 w0_10 w0_11 w0_6 w0_4 w0_5) T85.heap n0 Z88 F92 F93 G90 (own_lit rfl) (by show own_In _ (own_train _ _ _ _ _ _).length; rw [own_trlen]; exact own_lit rfl) (own_sub3 hw0_6 _ (own_lit rfl))) hZ (own_h hw 11 rfl) (own_h hw 10 rfl) (by decide) (by decide)) (g := (mkF m 241 #[.val (.long q0), .second, iv p1, iv p2, iv p3, .val (.long q4), .second, iv p5, rv b29, iv w0_4, iv w0_5, iv w0_6, rv b40, rv b57, .val (.long w0_12), .second] [(.long w0_12), (.ref b57), (.ref b40), (.ref b29), (.int w0_6), (.int (3:Int32))])) rfl (by rw [hml]; rfl) (argsL := [(.int (3:Int32)), (.int w0_6), (.ref b29), (.ref b40), (.ref b57), (.long w0_12)]) (rest := []) (lenOf own_pd1 rfl) rfl (by show 2 * 0 + _ ≤ _; exact Nat.le_of_eq rfl) (hb hby at_241) (fun _ _ => ⟨rfl, eh99, (by decide : 3 + 0 ≤ _), (by decide : 13 + 0 ≤ _)⟩)
        dsimp only [Pt.U, Pt.locs, Pt.cells, Pt.slots] at X102 l102 y102 z102 st102 hQ102
        subst l102 y102 z102
        obtain ⟨rfl, N102q, eh102⟩ := hQ102
        have N102 := Fr.app N99 N102q
        refine own_pre st102 ?_
        by_cases hs244_8 : (own_v103 w0_6 w0_12 w0_1 w0_2 w0_3 w0_7 w0_8 w0_9 w0_10 w0_11 w0_4 w0_5) = (0:Int32)
        · refine own_pre (A := T102.setTop (mkF m 269 #[.val (.long q0), .second, iv p1, iv p2, iv p3, .val (.long q4), .second, iv p5, rv b29, iv w0_4, iv w0_5, iv w0_6, rv b40, rv b57, .val (.long w0_12), .second] [(.int (0:Int32))])) (fun t k => ?_) ?_
          · show Steps p.tables e below (T102.setTop (mkF m 244 #[.val (.long q0), .second, iv p1, iv p2, iv p3, .val (.long q4), .second, iv p5, rv b29, iv w0_4, iv w0_5, iv w0_6, rv b40, rv b57, .val (.long w0_12), .second] [(.int (own_v103 w0_6 w0_12 w0_1 w0_2 w0_3 w0_7 w0_8 w0_9 w0_10 w0_11 w0_4 w0_5))])) _
            refine XS.ifYes X102.here hx rfl (pc0 := 244) (pc' := 268) rfl (hb hby at_244) rfl (XT.i0_eq_t hs244_8) (by decide) (by decide) ?_
            show Steps p.tables e below (T102.setTop (mkF m 268 #[.val (.long q0), .second, iv p1, iv p2, iv p3, .val (.long q4), .second, iv p5, rv b29, iv w0_4, iv w0_5, iv w0_6, rv b40, rv b57, .val (.long w0_12), .second] [])) _
            refine XS.iconst X102.here hx rfl (hb hby at_268) ?_
            exact k
          have hv104 : (0:Int32) = f0 q0 p1 p2 p3 q4 p5 := by subst hw0_1 hw0_2 hw0_3 hw0_4 hw0_5 hw0_6 hw0_7 hw0_8 hw0_9 hw0_10 hw0_11 hw0_12; simp only [f0, if_neg hs193_2, if_neg hs210_4, if_neg hs227_6, if_pos hs244_8]
          exact own_end X102 (BodyLoose.notSynchronized Bd) (fun h => by rw [Bd.returns] at h; cases h) (v := some (.int (0:Int32))) (fun fs hr => retN X102 hx (t := .boolean) Bd.returns (by simp) (hb hby at_269) hr) (by show Q0 Z q0 p1 p2 p3 q4 p5 h0 n0 _ T102.heap _; rw [eh102]; exact ⟨(congrArg (fun z => some (Value.int z)) hv104), N102⟩) (by decide) (by decide)
        · refine own_pre (A := T102.setTop (mkF m 258 #[.val (.long q0), .second, iv p1, iv p2, iv p3, .val (.long q4), .second, iv p5, rv b29, iv w0_4, iv w0_5, iv w0_6, rv b40, rv b57, .val (.long w0_12), .second] [(.long w0_12), (.ref b57), (.ref b40), (.ref b29), (.int w0_6), (.int (4:Int32))])) (fun t k => ?_) ?_
          · show Steps p.tables e below (T102.setTop (mkF m 244 #[.val (.long q0), .second, iv p1, iv p2, iv p3, .val (.long q4), .second, iv p5, rv b29, iv w0_4, iv w0_5, iv w0_6, rv b40, rv b57, .val (.long w0_12), .second] [(.int (own_v103 w0_6 w0_12 w0_1 w0_2 w0_3 w0_7 w0_8 w0_9 w0_10 w0_11 w0_4 w0_5))])) _
            refine XS.ifNo X102.here hx rfl (hb hby at_244) rfl (XT.i0_eq_f hs244_8) ?_
            show Steps p.tables e below (T102.setTop (mkF m 247 #[.val (.long q0), .second, iv p1, iv p2, iv p3, .val (.long q4), .second, iv p5, rv b29, iv w0_4, iv w0_5, iv w0_6, rv b40, rv b57, .val (.long w0_12), .second] [])) _
            refine XS.iconst X102.here hx rfl (hb hby at_247) ?_
            show Steps p.tables e below (T102.setTop (mkF m 248 #[.val (.long q0), .second, iv p1, iv p2, iv p3, .val (.long q4), .second, iv p5, rv b29, iv w0_4, iv w0_5, iv w0_6, rv b40, rv b57, .val (.long w0_12), .second] [(.int (4:Int32))])) _
            refine XS.iload X102.here hx rfl (hb hby at_248) rfl ?_
            show Steps p.tables e below (T102.setTop (mkF m 250 #[.val (.long q0), .second, iv p1, iv p2, iv p3, .val (.long q4), .second, iv p5, rv b29, iv w0_4, iv w0_5, iv w0_6, rv b40, rv b57, .val (.long w0_12), .second] [(.int w0_6), (.int (4:Int32))])) _
            refine XS.aload X102.here hx rfl (hb hby at_250) rfl rfl ?_
            show Steps p.tables e below (T102.setTop (mkF m 252 #[.val (.long q0), .second, iv p1, iv p2, iv p3, .val (.long q4), .second, iv p5, rv b29, iv w0_4, iv w0_5, iv w0_6, rv b40, rv b57, .val (.long w0_12), .second] [(.ref b29), (.int w0_6), (.int (4:Int32))])) _
            refine XS.aload X102.here hx rfl (hb hby at_252) rfl rfl ?_
            show Steps p.tables e below (T102.setTop (mkF m 254 #[.val (.long q0), .second, iv p1, iv p2, iv p3, .val (.long q4), .second, iv p5, rv b29, iv w0_4, iv w0_5, iv w0_6, rv b40, rv b57, .val (.long w0_12), .second] [(.ref b40), (.ref b29), (.int w0_6), (.int (4:Int32))])) _
            refine XS.aload X102.here hx rfl (hb hby at_254) rfl rfl ?_
            show Steps p.tables e below (T102.setTop (mkF m 256 #[.val (.long q0), .second, iv p1, iv p2, iv p3, .val (.long q4), .second, iv p5, rv b29, iv w0_4, iv w0_5, iv w0_6, rv b40, rv b57, .val (.long w0_12), .second] [(.ref b57), (.ref b40), (.ref b29), (.int w0_6), (.int (4:Int32))])) _
            refine XS.lload X102.here hx rfl (hb hby at_256) rfl ?_
            exact k
          obtain ⟨_, _, ⟨T105, L105, k105, n105⟩, -, X105, ⟨Lc105, hQ105, l105, y105, z105⟩, st105⟩ := Jvm.LawKit.callS X102 hx (y := (⟨"com/example/rowfold/rowfold/codec/LearningTrainPinLaw", "ok", "(II[I[I[IJ)Z"⟩ : MethodName)) hown (mvT hZ (own_h hw 8 rfl)) (mvT hZ (own_h hw 9 rfl)) (mvT hZ (own_h hw 10 rfl)) (mvT hZ (own_h hw 11 rfl)) (by decide) (backOf (W := 0) (rm2 l Z aZ hw [] (4:Int32) w0_6 b29 b40 b57 w0_12 [w0_1, w0_2, w0_3] [w0_7, w0_8, w0_9, w0_10, w0_11] (own_v89 w0_1 w0_2 w0_3 w0_7 w0_8 w0_9 w0_10 w0_11 w0_6 w0_4 w0_5) T85.heap n0 Z88 F92 F93 G90 (own_lit rfl) (by show own_In _ (own_train _ _ _ _ _ _).length; rw [own_trlen]; exact own_lit rfl) (own_sub3 hw0_6 _ (own_lit rfl))) hZ (own_h hw 11 rfl) (own_h hw 10 rfl) (by decide) (by decide)) (g := (mkF m 258 #[.val (.long q0), .second, iv p1, iv p2, iv p3, .val (.long q4), .second, iv p5, rv b29, iv w0_4, iv w0_5, iv w0_6, rv b40, rv b57, .val (.long w0_12), .second] [(.long w0_12), (.ref b57), (.ref b40), (.ref b29), (.int w0_6), (.int (4:Int32))])) rfl (by rw [hml]; rfl) (argsL := [(.int (4:Int32)), (.int w0_6), (.ref b29), (.ref b40), (.ref b57), (.long w0_12)]) (rest := []) (lenOf own_pd1 rfl) rfl (by show 2 * 0 + _ ≤ _; exact Nat.le_of_eq rfl) (hb hby at_258) (fun _ _ => ⟨rfl, eh102, (by decide : 3 + 0 ≤ _), (by decide : 13 + 0 ≤ _)⟩)
          dsimp only [Pt.U, Pt.locs, Pt.cells, Pt.slots] at X105 l105 y105 z105 st105 hQ105
          subst l105 y105 z105
          obtain ⟨rfl, N105q, eh105⟩ := hQ105
          have N105 := Fr.app N102 N105q
          refine own_pre st105 ?_
          obtain ⟨w0_13, hw0_13⟩ : ∃ z : Int32, z = (if (own_v106 w0_6 w0_12 w0_1 w0_2 w0_3 w0_7 w0_8 w0_9 w0_10 w0_11 w0_4 w0_5) = (0:Int32) then (0:Int32) else (1:Int32)) := ⟨_, rfl⟩
          refine own_pre (A := T105.setTop (mkF m 269 #[.val (.long q0), .second, iv p1, iv p2, iv p3, .val (.long q4), .second, iv p5, rv b29, iv w0_4, iv w0_5, iv w0_6, rv b40, rv b57, .val (.long w0_12), .second] [(.int w0_13)])) (fun t k => ?_) ?_
          · show Steps p.tables e below (T105.setTop (mkF m 261 #[.val (.long q0), .second, iv p1, iv p2, iv p3, .val (.long q4), .second, iv p5, rv b29, iv w0_4, iv w0_5, iv w0_6, rv b40, rv b57, .val (.long w0_12), .second] [(.int (own_v106 w0_6 w0_12 w0_1 w0_2 w0_3 w0_7 w0_8 w0_9 w0_10 w0_11 w0_4 w0_5))])) _
            by_cases hm261_9 : (own_v106 w0_6 w0_12 w0_1 w0_2 w0_3 w0_7 w0_8 w0_9 w0_10 w0_11 w0_4 w0_5) = (0:Int32)
            · refine XS.ifYes X105.here hx rfl (pc0 := 261) (pc' := 268) rfl (hb hby at_261) rfl (XT.i0_eq_t hm261_9) (by decide) (by decide) ?_
              show Steps p.tables e below (T105.setTop (mkF m 268 #[.val (.long q0), .second, iv p1, iv p2, iv p3, .val (.long q4), .second, iv p5, rv b29, iv w0_4, iv w0_5, iv w0_6, rv b40, rv b57, .val (.long w0_12), .second] [])) _
              refine XS.iconst X105.here hx rfl (hb hby at_268) ?_
              rw [hw0_13.trans (if_pos hm261_9)] at k
              exact k
            · refine XS.ifNo X105.here hx rfl (hb hby at_261) rfl (XT.i0_eq_f hm261_9) ?_
              show Steps p.tables e below (T105.setTop (mkF m 264 #[.val (.long q0), .second, iv p1, iv p2, iv p3, .val (.long q4), .second, iv p5, rv b29, iv w0_4, iv w0_5, iv w0_6, rv b40, rv b57, .val (.long w0_12), .second] [])) _
              refine XS.iconst X105.here hx rfl (hb hby at_264) ?_
              show Steps p.tables e below (T105.setTop (mkF m 265 #[.val (.long q0), .second, iv p1, iv p2, iv p3, .val (.long q4), .second, iv p5, rv b29, iv w0_4, iv w0_5, iv w0_6, rv b40, rv b57, .val (.long w0_12), .second] [(.int (1:Int32))])) _
              refine XS.goto X105.here hx rfl (pc0 := 265) (pc' := 269) rfl (hb hby at_265) (by decide) (by decide) ?_
              rw [hw0_13.trans (if_neg hm261_9)] at k
              exact k
          have hv107 : (w0_13 &&& 1) = f0 q0 p1 p2 p3 q4 p5 := by subst hw0_1 hw0_2 hw0_3 hw0_4 hw0_5 hw0_6 hw0_7 hw0_8 hw0_9 hw0_10 hw0_11 hw0_12 hw0_13; simp only [f0, if_neg hs193_2, if_neg hs210_4, if_neg hs227_6, if_neg hs244_8]
          exact own_end X105 (BodyLoose.notSynchronized Bd) (fun h => by rw [Bd.returns] at h; cases h) (v := some (.int (w0_13 &&& 1))) (fun fs hr => retN X105 hx (t := .boolean) Bd.returns (by simp) (hb hby at_269) hr) (by show Q0 Z q0 p1 p2 p3 q4 p5 h0 n0 _ T105.heap _; rw [eh105]; exact ⟨(congrArg (fun z => some (Value.int z)) hv107), N105⟩) (by decide) (by decide)
theorem own_comp (x er : Int32) (tg : Int64) (b : Int32) (hx : -2048 < x.toInt ∧ x.toInt < 2048) (ht : -4096 ≤ tg.toInt ∧ tg.toInt ≤ 4096) (he : er.toInt = tg.toInt * 6) :
    (((if (((x.toInt64) * tg) * (6:Int64)) < ((((b + ((x * er) >>> ((14:Int32) &&& 31))) - b).toInt64) * (16384:Int64)) then (0:Int32) else (if (((x.toInt64) * tg) * (6:Int64)) < (((((b + ((x * er) >>> ((14:Int32) &&& 31))) - b).toInt64) + (1:Int64)) * (16384:Int64)) then (1:Int32) else (0:Int32)))) &&& 1) = 1 := by
  have c : b + ((x * er) >>> ((14:Int32) &&& 31)) - b = (x * er) >>> ((14:Int32) &&& 31) := by rw [Int32.add_comm]; exact Int32.add_sub_cancel _ _
  rw [c]
  have hab : (x.toInt * tg.toInt).natAbs ≤ 2047 * 4096 := by
    rw [Int.natAbs_mul]; exact Nat.mul_le_mul (by omega) (by omega)
  have l6 : (6:Int64).toInt = 6 := by decide
  have l1 : (1:Int64).toInt = 1 := by decide
  have l16 : (16384:Int64).toInt = 16384 := by decide
  have e0 : x.toInt64.toInt = x.toInt := Int32.toInt_toInt64 x
  have em : x.toInt * er.toInt = x.toInt * tg.toInt * 6 := by rw [he, Int.mul_assoc]
  have e1 : (x.toInt64 * tg).toInt = x.toInt * tg.toInt := by rw [Jvm.Kit.i64_mul (by rw [e0]; omega) (by rw [e0]; omega), e0]
  have e2 : (x.toInt64 * tg * 6).toInt = x.toInt * tg.toInt * 6 := by rw [Jvm.Kit.i64_mul (by rw [e1, l6]; omega) (by rw [e1, l6]; omega), e1, l6]
  have e3 : (x * er).toInt = x.toInt * tg.toInt * 6 := by rw [Jvm.Kit.i32_mul (by rw [em]; omega) (by rw [em]; omega), em]
  have e4 : ((x * er) >>> ((14:Int32) &&& 31)).toInt = x.toInt * tg.toInt * 6 / 2 ^ 14 := by rw [Jvm.Kit.i32_shr _ _ (k := 14) (by decide), e3]
  generalize x.toInt * tg.toInt = P at *
  generalize (x * er) >>> ((14:Int32) &&& 31) = d at *
  have d0 : d.toInt64.toInt = d.toInt := Int32.toInt_toInt64 d
  have d1 : (d.toInt64 * 16384).toInt = d.toInt * 16384 := by rw [Jvm.Kit.i64_mul (by rw [d0, l16]; omega) (by rw [d0, l16]; omega), d0, l16]
  have d2 : (d.toInt64 + 1).toInt = d.toInt + 1 := by rw [Jvm.Kit.i64_add (by rw [d0, l1]; omega) (by rw [d0, l1]; omega), d0, l1]
  have d3 : ((d.toInt64 + 1) * 16384).toInt = (d.toInt + 1) * 16384 := by rw [Jvm.Kit.i64_mul (by rw [d2, l16]; omega) (by rw [d2, l16]; omega), d2, l16]
  have n1 : ¬ (x.toInt64 * tg * 6 < d.toInt64 * 16384) := by rw [Int64.lt_iff_toInt_lt, e2, d1, e4]; omega
  have n2 : x.toInt64 * tg * 6 < (d.toInt64 + 1) * 16384 := by rw [Int64.lt_iff_toInt_lt, e2, d3, e4]; omega
  rw [if_neg n1, if_pos n2]; rfl
theorem own_k00 (x0 x1 x2 b0 b1 b2 b3 b4 er : Int32) (tg : Int64) (h0 : -2048 < x0.toInt ∧ x0.toInt < 2048) (h1 : -2048 < x1.toInt ∧ x1.toInt < 2048) (h2 : -2048 < x2.toInt ∧ x2.toInt < 2048) (ht : -4096 ≤ tg.toInt ∧ tg.toInt ≤ 4096) (he : er.toInt = tg.toInt * 6) :
    f2 (0:Int32) (0:Int32) tg [x0, x1, x2] [b0, b1, b2, b3, b4] (own_train x0 x1 x2 [b0, b1, b2, b3, b4] (0:Int32) er) = 1 := by
  have e : own_at (own_train x0 x1 x2 [b0, b1, b2, b3, b4] (0:Int32) er) (0:Int32) = b0 + ((x0 * er) >>> ((14:Int32) &&& 31)) := rfl
  have e2 : own_at [b0, b1, b2, b3, b4] (0:Int32) = b0 := rfl
  have e3 : own_at [x0, x1, x2] ((0:Int32) - (0:Int32)) = x0 := rfl
  simp only [f2, e, e2, e3]
  rw [if_neg (by decide), if_neg (by decide)]
  exact own_comp x0 er tg b0 h0 ht he
theorem own_k01 (x0 x1 x2 b0 b1 b2 b3 b4 er : Int32) (tg : Int64) (h0 : -2048 < x0.toInt ∧ x0.toInt < 2048) (h1 : -2048 < x1.toInt ∧ x1.toInt < 2048) (h2 : -2048 < x2.toInt ∧ x2.toInt < 2048) (ht : -4096 ≤ tg.toInt ∧ tg.toInt ≤ 4096) (he : er.toInt = tg.toInt * 6) :
    f2 (1:Int32) (0:Int32) tg [x0, x1, x2] [b0, b1, b2, b3, b4] (own_train x0 x1 x2 [b0, b1, b2, b3, b4] (0:Int32) er) = 1 := by
  have e : own_at (own_train x0 x1 x2 [b0, b1, b2, b3, b4] (0:Int32) er) (1:Int32) = b1 + ((x1 * er) >>> ((14:Int32) &&& 31)) := rfl
  have e2 : own_at [b0, b1, b2, b3, b4] (1:Int32) = b1 := rfl
  have e3 : own_at [x0, x1, x2] ((1:Int32) - (0:Int32)) = x1 := rfl
  simp only [f2, e, e2, e3]
  rw [if_neg (by decide), if_neg (by decide)]
  exact own_comp x1 er tg b1 h1 ht he
theorem own_k02 (x0 x1 x2 b0 b1 b2 b3 b4 er : Int32) (tg : Int64) (h0 : -2048 < x0.toInt ∧ x0.toInt < 2048) (h1 : -2048 < x1.toInt ∧ x1.toInt < 2048) (h2 : -2048 < x2.toInt ∧ x2.toInt < 2048) (ht : -4096 ≤ tg.toInt ∧ tg.toInt ≤ 4096) (he : er.toInt = tg.toInt * 6) :
    f2 (2:Int32) (0:Int32) tg [x0, x1, x2] [b0, b1, b2, b3, b4] (own_train x0 x1 x2 [b0, b1, b2, b3, b4] (0:Int32) er) = 1 := by
  have e : own_at (own_train x0 x1 x2 [b0, b1, b2, b3, b4] (0:Int32) er) (2:Int32) = b2 + ((x2 * er) >>> ((14:Int32) &&& 31)) := rfl
  have e2 : own_at [b0, b1, b2, b3, b4] (2:Int32) = b2 := rfl
  have e3 : own_at [x0, x1, x2] ((2:Int32) - (0:Int32)) = x2 := rfl
  simp only [f2, e, e2, e3]
  rw [if_neg (by decide), if_neg (by decide)]
  exact own_comp x2 er tg b2 h2 ht he
theorem own_k03 (x0 x1 x2 b0 b1 b2 b3 b4 er : Int32) (tg : Int64) (h0 : -2048 < x0.toInt ∧ x0.toInt < 2048) (h1 : -2048 < x1.toInt ∧ x1.toInt < 2048) (h2 : -2048 < x2.toInt ∧ x2.toInt < 2048) (ht : -4096 ≤ tg.toInt ∧ tg.toInt ≤ 4096) (he : er.toInt = tg.toInt * 6) :
    f2 (3:Int32) (0:Int32) tg [x0, x1, x2] [b0, b1, b2, b3, b4] (own_train x0 x1 x2 [b0, b1, b2, b3, b4] (0:Int32) er) = 1 := by
  have e : own_at (own_train x0 x1 x2 [b0, b1, b2, b3, b4] (0:Int32) er) (3:Int32) = own_at [b0, b1, b2, b3, b4] (3:Int32) := rfl
  simp only [f2]
  rw [e, if_neg (by decide), if_pos (by decide), if_pos rfl]
  rfl
theorem own_k04 (x0 x1 x2 b0 b1 b2 b3 b4 er : Int32) (tg : Int64) (h0 : -2048 < x0.toInt ∧ x0.toInt < 2048) (h1 : -2048 < x1.toInt ∧ x1.toInt < 2048) (h2 : -2048 < x2.toInt ∧ x2.toInt < 2048) (ht : -4096 ≤ tg.toInt ∧ tg.toInt ≤ 4096) (he : er.toInt = tg.toInt * 6) :
    f2 (4:Int32) (0:Int32) tg [x0, x1, x2] [b0, b1, b2, b3, b4] (own_train x0 x1 x2 [b0, b1, b2, b3, b4] (0:Int32) er) = 1 := by
  have e : own_at (own_train x0 x1 x2 [b0, b1, b2, b3, b4] (0:Int32) er) (4:Int32) = own_at [b0, b1, b2, b3, b4] (4:Int32) := rfl
  simp only [f2]
  rw [e, if_neg (by decide), if_pos (by decide), if_pos rfl]
  rfl
theorem own_k10 (x0 x1 x2 b0 b1 b2 b3 b4 er : Int32) (tg : Int64) (h0 : -2048 < x0.toInt ∧ x0.toInt < 2048) (h1 : -2048 < x1.toInt ∧ x1.toInt < 2048) (h2 : -2048 < x2.toInt ∧ x2.toInt < 2048) (ht : -4096 ≤ tg.toInt ∧ tg.toInt ≤ 4096) (he : er.toInt = tg.toInt * 6) :
    f2 (0:Int32) (1:Int32) tg [x0, x1, x2] [b0, b1, b2, b3, b4] (own_train x0 x1 x2 [b0, b1, b2, b3, b4] (1:Int32) er) = 1 := by
  have e : own_at (own_train x0 x1 x2 [b0, b1, b2, b3, b4] (1:Int32) er) (0:Int32) = own_at [b0, b1, b2, b3, b4] (0:Int32) := rfl
  simp only [f2]
  rw [e, if_pos (by decide), if_pos rfl]
  rfl
theorem own_k11 (x0 x1 x2 b0 b1 b2 b3 b4 er : Int32) (tg : Int64) (h0 : -2048 < x0.toInt ∧ x0.toInt < 2048) (h1 : -2048 < x1.toInt ∧ x1.toInt < 2048) (h2 : -2048 < x2.toInt ∧ x2.toInt < 2048) (ht : -4096 ≤ tg.toInt ∧ tg.toInt ≤ 4096) (he : er.toInt = tg.toInt * 6) :
    f2 (1:Int32) (1:Int32) tg [x0, x1, x2] [b0, b1, b2, b3, b4] (own_train x0 x1 x2 [b0, b1, b2, b3, b4] (1:Int32) er) = 1 := by
  have e : own_at (own_train x0 x1 x2 [b0, b1, b2, b3, b4] (1:Int32) er) (1:Int32) = b1 + ((x0 * er) >>> ((14:Int32) &&& 31)) := rfl
  have e2 : own_at [b0, b1, b2, b3, b4] (1:Int32) = b1 := rfl
  have e3 : own_at [x0, x1, x2] ((1:Int32) - (1:Int32)) = x0 := rfl
  simp only [f2, e, e2, e3]
  rw [if_neg (by decide), if_neg (by decide)]
  exact own_comp x0 er tg b1 h0 ht he
theorem own_k12 (x0 x1 x2 b0 b1 b2 b3 b4 er : Int32) (tg : Int64) (h0 : -2048 < x0.toInt ∧ x0.toInt < 2048) (h1 : -2048 < x1.toInt ∧ x1.toInt < 2048) (h2 : -2048 < x2.toInt ∧ x2.toInt < 2048) (ht : -4096 ≤ tg.toInt ∧ tg.toInt ≤ 4096) (he : er.toInt = tg.toInt * 6) :
    f2 (2:Int32) (1:Int32) tg [x0, x1, x2] [b0, b1, b2, b3, b4] (own_train x0 x1 x2 [b0, b1, b2, b3, b4] (1:Int32) er) = 1 := by
  have e : own_at (own_train x0 x1 x2 [b0, b1, b2, b3, b4] (1:Int32) er) (2:Int32) = b2 + ((x1 * er) >>> ((14:Int32) &&& 31)) := rfl
  have e2 : own_at [b0, b1, b2, b3, b4] (2:Int32) = b2 := rfl
  have e3 : own_at [x0, x1, x2] ((2:Int32) - (1:Int32)) = x1 := rfl
  simp only [f2, e, e2, e3]
  rw [if_neg (by decide), if_neg (by decide)]
  exact own_comp x1 er tg b2 h1 ht he
theorem own_k13 (x0 x1 x2 b0 b1 b2 b3 b4 er : Int32) (tg : Int64) (h0 : -2048 < x0.toInt ∧ x0.toInt < 2048) (h1 : -2048 < x1.toInt ∧ x1.toInt < 2048) (h2 : -2048 < x2.toInt ∧ x2.toInt < 2048) (ht : -4096 ≤ tg.toInt ∧ tg.toInt ≤ 4096) (he : er.toInt = tg.toInt * 6) :
    f2 (3:Int32) (1:Int32) tg [x0, x1, x2] [b0, b1, b2, b3, b4] (own_train x0 x1 x2 [b0, b1, b2, b3, b4] (1:Int32) er) = 1 := by
  have e : own_at (own_train x0 x1 x2 [b0, b1, b2, b3, b4] (1:Int32) er) (3:Int32) = b3 + ((x2 * er) >>> ((14:Int32) &&& 31)) := rfl
  have e2 : own_at [b0, b1, b2, b3, b4] (3:Int32) = b3 := rfl
  have e3 : own_at [x0, x1, x2] ((3:Int32) - (1:Int32)) = x2 := rfl
  simp only [f2, e, e2, e3]
  rw [if_neg (by decide), if_neg (by decide)]
  exact own_comp x2 er tg b3 h2 ht he
theorem own_k14 (x0 x1 x2 b0 b1 b2 b3 b4 er : Int32) (tg : Int64) (h0 : -2048 < x0.toInt ∧ x0.toInt < 2048) (h1 : -2048 < x1.toInt ∧ x1.toInt < 2048) (h2 : -2048 < x2.toInt ∧ x2.toInt < 2048) (ht : -4096 ≤ tg.toInt ∧ tg.toInt ≤ 4096) (he : er.toInt = tg.toInt * 6) :
    f2 (4:Int32) (1:Int32) tg [x0, x1, x2] [b0, b1, b2, b3, b4] (own_train x0 x1 x2 [b0, b1, b2, b3, b4] (1:Int32) er) = 1 := by
  have e : own_at (own_train x0 x1 x2 [b0, b1, b2, b3, b4] (1:Int32) er) (4:Int32) = own_at [b0, b1, b2, b3, b4] (4:Int32) := rfl
  simp only [f2]
  rw [e, if_neg (by decide), if_pos (by decide), if_pos rfl]
  rfl
theorem own_k20 (x0 x1 x2 b0 b1 b2 b3 b4 er : Int32) (tg : Int64) (h0 : -2048 < x0.toInt ∧ x0.toInt < 2048) (h1 : -2048 < x1.toInt ∧ x1.toInt < 2048) (h2 : -2048 < x2.toInt ∧ x2.toInt < 2048) (ht : -4096 ≤ tg.toInt ∧ tg.toInt ≤ 4096) (he : er.toInt = tg.toInt * 6) :
    f2 (0:Int32) (2:Int32) tg [x0, x1, x2] [b0, b1, b2, b3, b4] (own_train x0 x1 x2 [b0, b1, b2, b3, b4] (2:Int32) er) = 1 := by
  have e : own_at (own_train x0 x1 x2 [b0, b1, b2, b3, b4] (2:Int32) er) (0:Int32) = own_at [b0, b1, b2, b3, b4] (0:Int32) := rfl
  simp only [f2]
  rw [e, if_pos (by decide), if_pos rfl]
  rfl
theorem own_k21 (x0 x1 x2 b0 b1 b2 b3 b4 er : Int32) (tg : Int64) (h0 : -2048 < x0.toInt ∧ x0.toInt < 2048) (h1 : -2048 < x1.toInt ∧ x1.toInt < 2048) (h2 : -2048 < x2.toInt ∧ x2.toInt < 2048) (ht : -4096 ≤ tg.toInt ∧ tg.toInt ≤ 4096) (he : er.toInt = tg.toInt * 6) :
    f2 (1:Int32) (2:Int32) tg [x0, x1, x2] [b0, b1, b2, b3, b4] (own_train x0 x1 x2 [b0, b1, b2, b3, b4] (2:Int32) er) = 1 := by
  have e : own_at (own_train x0 x1 x2 [b0, b1, b2, b3, b4] (2:Int32) er) (1:Int32) = own_at [b0, b1, b2, b3, b4] (1:Int32) := rfl
  simp only [f2]
  rw [e, if_pos (by decide), if_pos rfl]
  rfl
theorem own_k22 (x0 x1 x2 b0 b1 b2 b3 b4 er : Int32) (tg : Int64) (h0 : -2048 < x0.toInt ∧ x0.toInt < 2048) (h1 : -2048 < x1.toInt ∧ x1.toInt < 2048) (h2 : -2048 < x2.toInt ∧ x2.toInt < 2048) (ht : -4096 ≤ tg.toInt ∧ tg.toInt ≤ 4096) (he : er.toInt = tg.toInt * 6) :
    f2 (2:Int32) (2:Int32) tg [x0, x1, x2] [b0, b1, b2, b3, b4] (own_train x0 x1 x2 [b0, b1, b2, b3, b4] (2:Int32) er) = 1 := by
  have e : own_at (own_train x0 x1 x2 [b0, b1, b2, b3, b4] (2:Int32) er) (2:Int32) = b2 + ((x0 * er) >>> ((14:Int32) &&& 31)) := rfl
  have e2 : own_at [b0, b1, b2, b3, b4] (2:Int32) = b2 := rfl
  have e3 : own_at [x0, x1, x2] ((2:Int32) - (2:Int32)) = x0 := rfl
  simp only [f2, e, e2, e3]
  rw [if_neg (by decide), if_neg (by decide)]
  exact own_comp x0 er tg b2 h0 ht he
theorem own_k23 (x0 x1 x2 b0 b1 b2 b3 b4 er : Int32) (tg : Int64) (h0 : -2048 < x0.toInt ∧ x0.toInt < 2048) (h1 : -2048 < x1.toInt ∧ x1.toInt < 2048) (h2 : -2048 < x2.toInt ∧ x2.toInt < 2048) (ht : -4096 ≤ tg.toInt ∧ tg.toInt ≤ 4096) (he : er.toInt = tg.toInt * 6) :
    f2 (3:Int32) (2:Int32) tg [x0, x1, x2] [b0, b1, b2, b3, b4] (own_train x0 x1 x2 [b0, b1, b2, b3, b4] (2:Int32) er) = 1 := by
  have e : own_at (own_train x0 x1 x2 [b0, b1, b2, b3, b4] (2:Int32) er) (3:Int32) = b3 + ((x1 * er) >>> ((14:Int32) &&& 31)) := rfl
  have e2 : own_at [b0, b1, b2, b3, b4] (3:Int32) = b3 := rfl
  have e3 : own_at [x0, x1, x2] ((3:Int32) - (2:Int32)) = x1 := rfl
  simp only [f2, e, e2, e3]
  rw [if_neg (by decide), if_neg (by decide)]
  exact own_comp x1 er tg b3 h1 ht he
theorem own_k24 (x0 x1 x2 b0 b1 b2 b3 b4 er : Int32) (tg : Int64) (h0 : -2048 < x0.toInt ∧ x0.toInt < 2048) (h1 : -2048 < x1.toInt ∧ x1.toInt < 2048) (h2 : -2048 < x2.toInt ∧ x2.toInt < 2048) (ht : -4096 ≤ tg.toInt ∧ tg.toInt ≤ 4096) (he : er.toInt = tg.toInt * 6) :
    f2 (4:Int32) (2:Int32) tg [x0, x1, x2] [b0, b1, b2, b3, b4] (own_train x0 x1 x2 [b0, b1, b2, b3, b4] (2:Int32) er) = 1 := by
  have e : own_at (own_train x0 x1 x2 [b0, b1, b2, b3, b4] (2:Int32) er) (4:Int32) = b4 + ((x2 * er) >>> ((14:Int32) &&& 31)) := rfl
  have e2 : own_at [b0, b1, b2, b3, b4] (4:Int32) = b4 := rfl
  have e3 : own_at [x0, x1, x2] ((4:Int32) - (2:Int32)) = x2 := rfl
  simp only [f2, e, e2, e3]
  rw [if_neg (by decide), if_neg (by decide)]
  exact own_comp x2 er tg b4 h2 ht he
theorem own_in1 (q : Int64) : -2048 < ((q % (2048:Int64)).toInt32).toInt ∧ ((q % (2048:Int64)).toInt32).toInt < 2048 := by
  have l : (2048:Int64).toInt = 2048 := by decide
  have e : (q % (2048:Int64)).toInt = q.toInt.tmod 2048 := by rw [Int64.toInt_mod, l]
  have b1 := Int.tmod_lt_of_pos q.toInt (b := 2048) (by decide)
  have b2 := Int.lt_tmod_of_pos q.toInt (b := 2048) (by decide)
  rw [Jvm.Kit.i32_of_i64 (by rw [e]; omega) (by rw [e]; omega), e]; omega
theorem own_in2 (q : Int32) : -2048 < (q % (2048:Int32)).toInt ∧ (q % (2048:Int32)).toInt < 2048 := by
  have l : (2048:Int32).toInt = 2048 := by decide
  have e : (q % (2048:Int32)).toInt = q.toInt.tmod 2048 := by rw [Int32.toInt_mod, l]
  have b1 := Int.tmod_lt_of_pos q.toInt (b := 2048) (by decide)
  have b2 := Int.lt_tmod_of_pos q.toInt (b := 2048) (by decide)
  rw [e]; omega
theorem own_bit (p : Int32) : ((p.toUInt32 >>> ((31:Int32) &&& 31).toUInt32).toInt32) = 0 ∨ ((p.toUInt32 >>> ((31:Int32) &&& 31).toUInt32).toInt32) = 1 := by
  have e : ((p.toUInt32 >>> ((31:Int32) &&& 31).toUInt32).toInt32).toBitVec.toNat = p.toBitVec.toNat / 2 ^ 31 := by
    rw [UInt32.toBitVec_toInt32, UInt32.toBitVec_shiftRight, Int32.toBitVec_toUInt32, BitVec.ushiftRight_eq', BitVec.toNat_ushiftRight, Nat.shiftRight_eq_div_pow]
    rfl
  have hb := p.toBitVec.isLt
  have h2 : p.toBitVec.toNat / 2 ^ 31 = 0 ∨ p.toBitVec.toNat / 2 ^ 31 = 1 := by omega
  rcases h2 with h | h
  · left; rw [← Int32.toBitVec_inj]; apply BitVec.eq_of_toNat_eq; rw [e, h]; rfl
  · right; rw [← Int32.toBitVec_inj]; apply BitVec.eq_of_toNat_eq; rw [e, h]; rfl
theorem own_plain (q0 : Int64) (p1 p2 p3 : Int32) (q4 : Int64) (p5 : Int32) : f0 q0 p1 p2 p3 q4 p5 = 1 := by
  simp only [f0]
  have h0 := own_in1 q0
  have h1 := own_in1 (q0 >>> ((32:Int32) &&& 0x3f).toInt64)
  have h2 := own_in2 p1
  generalize (q0 % (2048:Int64)).toInt32 = x0 at *
  generalize ((q0 >>> ((32:Int32) &&& 0x3f).toInt64) % (2048:Int64)).toInt32 = x1 at *
  generalize p1 % (2048:Int32) = x2 at *
  have e1 : (p2 &&& (2147483647:Int32)).toInt = p2.toInt % 2 ^ 31 := Jvm.Kit.i32_mask p2 _ (k := 31) (by decide) (by decide)
  have l4 : (4097:Int32).toInt = 4097 := by decide
  have hm : ((p2 &&& (2147483647:Int32)) % (4097:Int32)).toInt = (p2.toInt % 2 ^ 31) % 4097 := by rw [Int32.toInt_mod, e1, l4, Int.tmod_eq_emod_of_nonneg (by omega)]
  have hb := own_bit p2
  generalize (p2.toUInt32 >>> ((31:Int32) &&& 31).toUInt32).toInt32 = bit at *
  generalize (p2 &&& (2147483647:Int32)) % (4097:Int32) = mx at *
  have em : mx.toInt64.toInt = mx.toInt := Int32.toInt_toInt64 mx
  have l6 : (6:Int32).toInt = 6 := by decide
  have hte : (-4096 ≤ (bit.toInt64 * (4096:Int64) - mx.toInt64).toInt ∧ (bit.toInt64 * (4096:Int64) - mx.toInt64).toInt ≤ 4096) ∧ (own_er mx bit).toInt = (bit.toInt64 * (4096:Int64) - mx.toInt64).toInt * 6 := by
    rcases hb with rfl | rfl
    · have a1 : (0:Int32).toInt64 * (4096:Int64) = 0 := by decide
      have a2 : (0:Int64).toInt = 0 := by decide
      have a3 : ((0:Int32) <<< ((12:Int32) &&& 31)) = 0 := by decide
      have a4 : (0:Int32).toInt = 0 := by decide
      have t : ((0:Int64) - mx.toInt64).toInt = - mx.toInt := by rw [Jvm.Kit.i64_sub (by rw [a2, em]; omega) (by rw [a2, em]; omega), a2, em]; omega
      have s : ((0:Int32) - mx).toInt = - mx.toInt := by rw [Jvm.Kit.i32_sub (by rw [a4]; omega) (by rw [a4]; omega), a4]; omega
      rw [a1, t]
      refine ⟨by omega, ?_⟩
      simp only [own_er, a3]
      rw [Jvm.Kit.i32_mul (by rw [s, l6]; omega) (by rw [s, l6]; omega), s, l6]
    · have a1 : (1:Int32).toInt64 * (4096:Int64) = 4096 := by decide
      have a2 : (4096:Int64).toInt = 4096 := by decide
      have a3 : ((1:Int32) <<< ((12:Int32) &&& 31)) = 4096 := by decide
      have a4 : (4096:Int32).toInt = 4096 := by decide
      have t : ((4096:Int64) - mx.toInt64).toInt = 4096 - mx.toInt := by rw [Jvm.Kit.i64_sub (by rw [a2, em]; omega) (by rw [a2, em]; omega), a2, em]
      have s : ((4096:Int32) - mx).toInt = 4096 - mx.toInt := by rw [Jvm.Kit.i32_sub (by rw [a4]; omega) (by rw [a4]; omega), a4]
      rw [a1, t]
      refine ⟨by omega, ?_⟩
      simp only [own_er, a3]
      rw [Jvm.Kit.i32_mul (by rw [s, l6]; omega) (by rw [s, l6]; omega), s, l6]
  obtain ⟨ht, he⟩ := hte
  generalize bit.toInt64 * (4096:Int64) - mx.toInt64 = tg at *
  generalize p5 ^^^ (q4.toInt32) = b3
  generalize p5 ^^^ (-1:Int32) = b4
  generalize ((q4.toUInt64 >>> ((32:Int32) &&& 0x3f).toInt64.toUInt64).toInt64).toInt32 = b1
  generalize q4.toInt32 = b0
  obtain ⟨w, hw⟩ : ∃ w : Int32, w = ((p3 &&& (2147483647:Int32)) % (3:Int32)) := ⟨_, rfl⟩
  rw [← hw]
  rcases own_a3 hw with h | h | h <;> rw [h]
  · have k0 : own_v94 (0:Int32) tg x0 x1 x2 b0 b1 p5 b3 b4 mx bit = 1 := own_k00 x0 x1 x2 b0 b1 p5 b3 b4 (own_er mx bit) tg h0 h1 h2 ht he
    have k1 : own_v97 (0:Int32) tg x0 x1 x2 b0 b1 p5 b3 b4 mx bit = 1 := own_k01 x0 x1 x2 b0 b1 p5 b3 b4 (own_er mx bit) tg h0 h1 h2 ht he
    have k2 : own_v100 (0:Int32) tg x0 x1 x2 b0 b1 p5 b3 b4 mx bit = 1 := own_k02 x0 x1 x2 b0 b1 p5 b3 b4 (own_er mx bit) tg h0 h1 h2 ht he
    have k3 : own_v103 (0:Int32) tg x0 x1 x2 b0 b1 p5 b3 b4 mx bit = 1 := own_k03 x0 x1 x2 b0 b1 p5 b3 b4 (own_er mx bit) tg h0 h1 h2 ht he
    have k4 : own_v106 (0:Int32) tg x0 x1 x2 b0 b1 p5 b3 b4 mx bit = 1 := own_k04 x0 x1 x2 b0 b1 p5 b3 b4 (own_er mx bit) tg h0 h1 h2 ht he
    rw [k0, k1, k2, k3, k4]; rfl
  · have k0 : own_v94 (1:Int32) tg x0 x1 x2 b0 b1 p5 b3 b4 mx bit = 1 := own_k10 x0 x1 x2 b0 b1 p5 b3 b4 (own_er mx bit) tg h0 h1 h2 ht he
    have k1 : own_v97 (1:Int32) tg x0 x1 x2 b0 b1 p5 b3 b4 mx bit = 1 := own_k11 x0 x1 x2 b0 b1 p5 b3 b4 (own_er mx bit) tg h0 h1 h2 ht he
    have k2 : own_v100 (1:Int32) tg x0 x1 x2 b0 b1 p5 b3 b4 mx bit = 1 := own_k12 x0 x1 x2 b0 b1 p5 b3 b4 (own_er mx bit) tg h0 h1 h2 ht he
    have k3 : own_v103 (1:Int32) tg x0 x1 x2 b0 b1 p5 b3 b4 mx bit = 1 := own_k13 x0 x1 x2 b0 b1 p5 b3 b4 (own_er mx bit) tg h0 h1 h2 ht he
    have k4 : own_v106 (1:Int32) tg x0 x1 x2 b0 b1 p5 b3 b4 mx bit = 1 := own_k14 x0 x1 x2 b0 b1 p5 b3 b4 (own_er mx bit) tg h0 h1 h2 ht he
    rw [k0, k1, k2, k3, k4]; rfl
  · have k0 : own_v94 (2:Int32) tg x0 x1 x2 b0 b1 p5 b3 b4 mx bit = 1 := own_k20 x0 x1 x2 b0 b1 p5 b3 b4 (own_er mx bit) tg h0 h1 h2 ht he
    have k1 : own_v97 (2:Int32) tg x0 x1 x2 b0 b1 p5 b3 b4 mx bit = 1 := own_k21 x0 x1 x2 b0 b1 p5 b3 b4 (own_er mx bit) tg h0 h1 h2 ht he
    have k2 : own_v100 (2:Int32) tg x0 x1 x2 b0 b1 p5 b3 b4 mx bit = 1 := own_k22 x0 x1 x2 b0 b1 p5 b3 b4 (own_er mx bit) tg h0 h1 h2 ht he
    have k3 : own_v103 (2:Int32) tg x0 x1 x2 b0 b1 p5 b3 b4 mx bit = 1 := own_k23 x0 x1 x2 b0 b1 p5 b3 b4 (own_er mx bit) tg h0 h1 h2 ht he
    have k4 : own_v106 (2:Int32) tg x0 x1 x2 b0 b1 p5 b3 b4 mx bit = 1 := own_k24 x0 x1 x2 b0 b1 p5 b3 b4 (own_er mx bit) tg h0 h1 h2 ht he
    rw [k0, k1, k2, k3, k4]; rfl
set_option maxRecDepth 65536 in
set_option maxHeartbeats 40000000 in
theorem comes_1 {Post : Tables → Env → Array Value → State → Outcome → State → Prop} (hpost : ∀ tb e args s v u, (limb_1_1.after args s (.returned v) u = true ∧ limb_1_2.after args s (.returned v) u = true ∧ True) → FrameEnd s (.returned v) u (Jvm.fieldLocs frame_1_writes args s ++ Jvm.arrayLocs frame_1_arrays args s ++ Jvm.staticLocs frame_1_statics s) 16 128 → Post tb e args s (.returned v) u) :
    ArmFor flags0 classFile x code maxLocals ret World_1 tables_1 room_1 Calls_1 rest_1 Pre_1 Post := by
  intro l hfl _ _ p e ha hc hk s m args below hf hA hF happ hP
  obtain ⟨hcalls, hrest, hpre⟩ := hP
  obtain ⟨-, -, -, hnamed, -, -, -, hat⟩ := (Spec.applies_iff hf).mp happ
  obtain ⟨hg, hn⟩ := and_e (Cond.before_iff.mp (show (Jvm.Cond.and given_1 narrow_1).before args s = true from hpre))
  obtain ⟨g2, g3⟩ := and_e hg
  obtain ⟨g4, g5⟩ := and_e g3
  obtain ⟨g6, g7⟩ := and_e g5
  obtain ⟨g8, g9⟩ := and_e g7
  obtain ⟨g10, g11⟩ := and_e g9
  obtain ⟨g12, g13⟩ := and_e g11
  obtain ⟨w0, w1, w2, w3, w4, w5, rfl⟩ : ∃ w0 w1 w2 w3 w4 w5 : Value, args = #[w0, w1, w2, w3, w4, w5] := by
    have hs : args.size = 6 := by simpa [Cond.value, given_1] using g2
    obtain ⟨L⟩ := args
    match L, hs with
    | [w0, w1, w2, w3, w4, w5], _ => exact ⟨w0, w1, w2, w3, w4, w5, rfl⟩
  have hw := fun d (hd : d ∈ tables_1) => atoms_spec (ws := Jvm.Cond.code x code maxLocals ret :: tables_1) hat d (List.mem_cons_of_mem _ hd)
  obtain ⟨i0, ei0⟩ := isL_v g4
  obtain rfl : w0 = (.long i0) := Option.some.inj ei0
  obtain ⟨i1, ei1⟩ := is_v g6
  obtain rfl : w1 = (.int i1) := Option.some.inj ei1
  obtain ⟨i2, ei2⟩ := is_v g8
  obtain rfl : w2 = (.int i2) := Option.some.inj ei2
  obtain ⟨i3, ei3⟩ := is_v g10
  obtain rfl : w3 = (.int i3) := Option.some.inj ei3
  obtain ⟨i4, ei4⟩ := isL_v g12
  obtain rfl : w4 = (.long i4) := Option.some.inj ei4
  obtain ⟨i5, ei5⟩ := is_v g13
  obtain rfl : w5 = (.int i5) := Option.some.inj ei5
  obtain ⟨n, o, h1, h2, h3, _, L, rfl, ⟨hv, N⟩, hq⟩ := rm0 l s _ hw tables_1 i0 i1 i2 i3 i4 i5 s.heap s.heap.size (Nat.le_refl _)  p e ha hc hk s m _ below hf ((Spec.applies_iff_loose hf).mp happ).1 ⟨rfl, State.Warmed39.refl s, rfl⟩ trivial
  rw [own_plain] at hv
  subst hv
  refine ⟨n, _, h1, h2, h3, hpost _ _ _ _ _ _ ⟨Cond.after_iff.mpr rfl, Cond.after_iff.mpr (eq_i res_at (Term.int_eval (1)) rfl), trivial⟩ ⟨hq.1, hq.2.1, (hq.2.2.sift fun y hy => Or.inr (N y hy)).mono (by decide) (by decide)⟩⟩
theorem main_1_1 : Claimed_1_1 := comes_1 fun _ _ _ _ _ _ h hF => ⟨h.1, hF⟩
theorem main_1_2 : Claimed_1_2 := comes_1 fun _ _ _ _ _ _ h hF => ⟨h.2.1, hF⟩
end Jvm.Pilot.@@N@@
namespace Jvm.Pilot.@@N@@
open Jvm Jvm.ClassFile Sem Op Lib Jvm.Free Jvm.Stand Jvm.Pilot.@@N@@.Jvm.D
/-! MADE BY PROGRAM (witnessworld.py) out of the Statement's table words and the real class files: 9 classes; the members and pool entries that the words name. The judged class is class 1, her method 1. -/
namespace start1
open Jvm.ClassFile
def u (s : String) : CpInfo := .utf8 (stringToUtf16 s)
/-- a pool by its gaps: so many unusable entries, then the entry; so many at the end -/
def gap : Nat → List CpInfo → List CpInfo
  | 0, r => r
  | n + 1, r => .unusable :: gap n r
def poolList (es : List (Nat × CpInfo)) (last : Nat) : List CpInfo := es.foldr (fun e r => gap e.1 (e.2 :: r)) (gap last [])
def pool (es : List (Nat × CpInfo)) (last : Nat) : Array CpInfo := ⟨poolList es last⟩
def fileOf (pool : Array CpInfo) (this : Nat) (attrs : Array Attribute := #[]) (ms : Array MethodInfo := #[]) (fl : Nat := 33) (sup : Nat := 0) (ifs : Array Nat := #[]) (fds : Array FieldInfo := #[]) : ClassFile where
  minorVersion := 0
  majorVersion := 65
  constantPool := pool
  accessFlags := fl
  thisClass := this
  superClass := sup
  interfaces := ifs
  fields := fds
  methods := ms
  attributes := attrs
def plain (name : String) (sup : Option ClassId) : Class where
  name := name
  kind := .ordinary
  loader := none
  accessFlags := 33
  super := sup
  interfaces := #[]
  cf := none
  fields := #[]
  methods := #[]
  instanceTypes := #[]
  staticTypes := #[]
  resolved := #[]
  callSites := []
  init := .initialized
  statics := none
  mirror := none

def pool0 : Array CpInfo := pool [(5, u "<init>"), (0, u "()V"), (1, .class_ 10), (1, u "java/lang/Object")] 113

def k0m0 : Method := { name := "<init>", desc := "()V", sig := { parameters := [], returnType := none }, accessFlags := 1, code := none }
/-- java/lang/Object -/
def k0 : Class := { plain "java/lang/Object" none with
  accessFlags := 33
  interfaces := #[]
  cf := some (fileOf pool0 8 #[] #[{ accessFlags := 1, nameIndex := 5, descriptorIndex := 6, attributes := #[] }] 33 0 #[] #[])
  fields := #[]
  methods := #[k0m0]
  instanceTypes := #[]
  staticTypes := #[]
  resolved := Array.replicate 124 none
  statics := none }

def pool1 : Array CpInfo := pool [(2, .class_ 4), (1, u "java/lang/Object"), (0, u "<init>"), (0, u "()V"), (0, .long 2048), (1, .integer 2147483647), (0, .methodref 11 12), (0, .class_ 13), (0, .nameAndType 14 15), (0, u "com/example/rowfold/rowfold/codec/Learning"), (0, u "train"), (0, u "([I[IIII)V"), (0, .long 4096), (1, .methodref 19 20), (0, .class_ 21), (0, .nameAndType 22 23), (0, u "com/example/rowfold/rowfold/codec/LearningTrainPinLaw"), (0, u "ok"), (0, u "(II[I[I[IJ)Z"), (0, .long 6), (1, .long 16384), (3, u "law"), (0, u "(JIIIJI)Z")] 5

def k1m0 : Method := { name := "<init>", desc := "()V", sig := { parameters := [], returnType := none }, accessFlags := 2, code := none }
def k1c1 : Code := { maxStack := 7, maxLocals := 16, code := code, exceptionTable := #[], attributes := #[] }
def k1m1 : Method := { name := "law", desc := "(JIIIJI)Z", sig := { parameters := [.long, .int, .int, .int, .long, .int], returnType := some .boolean }, accessFlags := 9, code := some k1c1 }
def k1c2 : Code := { maxStack := 6, maxLocals := 10, code := method_3_code, exceptionTable := #[], attributes := #[] }
def k1m2 : Method := { name := "ok", desc := "(II[I[I[IJ)Z", sig := { parameters := [.int, .int, (.array .int), (.array .int), (.array .int), .long], returnType := some .boolean }, accessFlags := 10, code := some k1c2 }
/-- com/example/rowfold/rowfold/codec/LearningTrainPinLaw -/
def k1 : Class := { plain "com/example/rowfold/rowfold/codec/LearningTrainPinLaw" (some 0) with
  accessFlags := 49
  interfaces := #[]
  cf := some (fileOf pool1 19 #[] #[{ accessFlags := 2, nameIndex := 5, descriptorIndex := 6, attributes := #[] }, { accessFlags := 9, nameIndex := 30, descriptorIndex := 31, attributes := #[] }, { accessFlags := 10, nameIndex := 22, descriptorIndex := 23, attributes := #[] }] 49 2 #[] #[])
  fields := #[]
  methods := #[k1m0, k1m1, k1m2]
  instanceTypes := #[]
  staticTypes := #[]
  resolved := Array.replicate 37 none
  statics := none }

def pool2 : Array CpInfo := pool [(2, .class_ 4), (1, u "java/lang/Object"), (0, u "<init>"), (0, u "()V"), (7, .class_ 16), (1, u "com/example/rowfold/rowfold/codec/Learning"), (0, u "RATE"), (0, u "[I"), (18, u "FIRST_WEIGHT"), (0, u "I"), (2, u "MIXER_RATE"), (1, u "MOST_COUNT"), (8, u "train"), (0, u "([I[IIII)V")] 3

def k2m0 : Method := { name := "<init>", desc := "()V", sig := { parameters := [], returnType := none }, accessFlags := 2, code := none }
def k2c1 : Code := { maxStack := 5, maxLocals := 7, code := prog_10_method_6_code, exceptionTable := #[], attributes := #[] }
def k2m1 : Method := { name := "train", desc := "([I[IIII)V", sig := { parameters := [(.array .int), (.array .int), .int, .int, .int], returnType := none }, accessFlags := 8, code := some k2c1 }
/-- com/example/rowfold/rowfold/codec/Learning -/
def k2 : Class := { plain "com/example/rowfold/rowfold/codec/Learning" (some 0) with
  accessFlags := 48
  interfaces := #[]
  cf := some (fileOf pool2 14 #[] #[{ accessFlags := 2, nameIndex := 5, descriptorIndex := 6, attributes := #[] }, { accessFlags := 8, nameIndex := 52, descriptorIndex := 53, attributes := #[] }] 48 2 #[] #[{ accessFlags := 24, nameIndex := 37, descriptorIndex := 38, attributes := #[] }, { accessFlags := 26, nameIndex := 41, descriptorIndex := 38, attributes := #[] }, { accessFlags := 26, nameIndex := 43, descriptorIndex := 38, attributes := #[] }, { accessFlags := 26, nameIndex := 17, descriptorIndex := 18, attributes := #[] }])
  fields := #[{ name := "FIRST_WEIGHT", type := .int, accessFlags := 24, slot := 0, constantValue := 0 }, { name := "MIXER_RATE", type := .int, accessFlags := 26, slot := 1, constantValue := 0 }, { name := "MOST_COUNT", type := .int, accessFlags := 26, slot := 2, constantValue := 0 }, { name := "RATE", type := (.array .int), accessFlags := 26, slot := 3, constantValue := 0 }]
  methods := #[k2m0, k2m1]
  instanceTypes := #[]
  staticTypes := #[.int, .int, .int, (.array .int)]
  resolved := Array.replicate 57 none
  statics := none }

def pool3 : Array CpInfo := pool [(1, u "java/lang/Cloneable"), (0, .class_ 1), (0, u "java/lang/Object"), (0, .class_ 3)] 3

/-- java/lang/Cloneable -/
def k3 : Class := { plain "java/lang/Cloneable" (some 0) with
  accessFlags := 1537
  interfaces := #[]
  cf := some (fileOf pool3 2 #[] #[] 1537 4 #[] #[])
  fields := #[]
  methods := #[]
  instanceTypes := #[]
  staticTypes := #[]
  resolved := Array.replicate 8 none
  statics := none }

def pool4 : Array CpInfo := pool [(1, u "java/io/Serializable"), (0, .class_ 1), (0, u "java/lang/Object"), (0, .class_ 3)] 3

/-- java/io/Serializable -/
def k4 : Class := { plain "java/io/Serializable" (some 0) with
  accessFlags := 1537
  interfaces := #[]
  cf := some (fileOf pool4 2 #[] #[] 1537 4 #[] #[])
  fields := #[]
  methods := #[]
  instanceTypes := #[]
  staticTypes := #[]
  resolved := Array.replicate 8 none
  statics := none }

/-- the primitive byte -/
def k5 : Class := { plain "byte" none with kind := .primitive 'B', accessFlags := 0x411 }
/-- [B -/
def k6 : Class := { plain "[B" (some 0) with kind := .array 5 .byte, interfaces := #[3, 4], accessFlags := 1041 }

/-- the primitive int -/
def k7 : Class := { plain "int" none with kind := .primitive 'I', accessFlags := 0x411 }
/-- [I -/
def k8 : Class := { plain "[I" (some 0) with kind := .array 7 .int, interfaces := #[3, 4], accessFlags := 1041 }

def heap : Heap := #[]
def classes : Array Class := #[k0, k1, k2, k3, k4, k5, k6, k7, k8]
def interned : List (Array UInt16 × Addr) := []
def slotsUsed : Nat := 0
def theMethod : MethodId := ⟨1, 1⟩
def args0 : Array Value := #[.long 5, .int 5, .int 5, .int 5, .long 5, .int 5]
def aboutOver (below : List Frame) : State where
  vm := { classes := classes, interned := interned.toArray }
  heap := heap
  slotsUsed := slotsUsed
  threads := #[{ frames := .invoking theMethod args0 :: below }]
def below0 : List Frame := [.native { method := ⟨0, 0⟩, args := #[] }]
def about1 : State := aboutOver below0
def p0 : Program := .bare "" "" ""
def e0 : Env := launch0.env 0 0 0
theorem w_frames : about1.frames = Frame.invoking theMethod args0 :: below0 := rfl
set_option maxRecDepth 65536 in
theorem w_args : argsFit about1.vm theMethod args0 = true := by decide +kernel
set_option maxRecDepth 65536 in
theorem w_heap : heapFits about1 = true := by decide +kernel
set_option maxRecDepth 65536 in
theorem w_runnable : about1.curStatus? = some .runnable := by decide +kernel
set_option maxRecDepth 65536 in
theorem w_alone : about1.alone = true := by decide +kernel
set_option maxRecDepth 65536 in
theorem w_named : about1.methodNamed? x = some theMethod := by decide +kernel
set_option maxRecDepth 65536 in
theorem w_hears : about1.hears theMethod below0 = true := by decide +kernel
set_option maxRecDepth 65536 in
theorem w_ripe : about1.ripe theMethod args0 below0 = true := by decide +kernel
theorem w_running : about1.status = .running := rfl
set_option maxRecDepth 65536 in
theorem w_room : about1.hasRoom e0.platform room_1 = true :=
  launch0.hasRoom_least _ room_1 (by decide +kernel) (by decide +kernel) (by decide +kernel) (by decide +kernel) (by decide +kernel) (by decide +kernel)
theorem allAtoms_all (ts : List Jvm.Cond) (a : Array Jvm.Value) (st : Jvm.State) : (allAtoms ts).before a st = ts.all (fun c => c.before a st) := by
  induction ts with
  | nil => rfl
  | cons c t ih =>
    show (Jvm.Cond.and c (allAtoms t)).before a st = _
    rw [Jvm.Cond.before_and, ih, List.all_cons]
def words1 : List Jvm.Cond := Jvm.Cond.code x code maxLocals ret :: tables_1
/-- a 'code' word, met by the world's own term for the bytes: nothing is compared byte by byte -/
theorem code_word {y : MethodName} {bytes : ByteArray} {mx : Nat} {rt : Option FieldType} {a : Array Value} {s : State} {m : MethodId} {meth : Method} {c : Code} (h1 : s.methodNamed? y = some m) (h2 : s.vm.method? m = some meth) (h3 : meth.code = some c) (h4 : c.code = bytes)
    (h5 : (c.maxLocals == mx && c.exceptionTable.isEmpty && decide (c.maxStack ≤ mostOperands) && decide (meth.sig.returnType = rt) && !meth.locks && decide (parseMethodDescriptor y.desc = some meth.sig)) = true) : (Jvm.Cond.code y bytes mx rt).before a s = true := by
  simp only [Bool.and_eq_true, beq_iff_eq, Bool.not_eq_true', decide_eq_true_eq] at h5
  obtain ⟨⟨⟨⟨⟨g1, g2⟩, g3⟩, g4⟩, g5⟩, g6⟩ := h5
  simp [Cond.before, Cond.holds, Cond.value, h1, h2, h3, h4, g1, g2, g3, g4, g5, g6]
def isCode : Jvm.Cond → Bool
  | .code _ _ _ _ => true
  | _ => false
theorem all_split {L : List Jvm.Cond} {P : Jvm.Cond → Bool} (h1 : L.all (fun c => isCode c || P c) = true) (h2 : ∀ c ∈ L.filter isCode, P c = true) : L.all P = true := by
  refine List.all_eq_true.mpr fun c hc => ?_
  have h := List.all_eq_true.mp h1 c hc
  rcases Bool.eq_false_or_eq_true (isCode c) with hi | hi
  · exact h2 c (List.mem_filter.mpr ⟨hc, hi⟩)
  · simpa [hi] using h
set_option maxRecDepth 65536 in
theorem w_c0 : (Jvm.Cond.code x code maxLocals ret).before args0 about1 = true := code_word (m := ⟨1, 1⟩) (meth := k1m1) (c := k1c1) (by decide +kernel) rfl rfl rfl (by decide +kernel)
set_option maxRecDepth 65536 in
theorem w_c1 : (Jvm.Cond.code ({ cls := "com/example/rowfold/rowfold/codec/Learning", name := "train", desc := "([I[IIII)V" } : Jvm.MethodName) prog_10_method_6_code (7 : Nat) (Option.none : Option Jvm.ClassFile.FieldType)).before args0 about1 = true := code_word (m := ⟨2, 1⟩) (meth := k2m1) (c := k2c1) (by decide +kernel) rfl rfl rfl (by decide +kernel)
set_option maxRecDepth 65536 in
theorem w_c2 : (Jvm.Cond.code ({ cls := "com/example/rowfold/rowfold/codec/LearningTrainPinLaw", name := "ok", desc := "(II[I[I[IJ)Z" } : Jvm.MethodName) method_3_code (10 : Nat) (Option.some Jvm.ClassFile.FieldType.boolean)).before args0 about1 = true := code_word (m := ⟨1, 2⟩) (meth := k1m2) (c := k1c2) (by decide +kernel) rfl rfl rfl (by decide +kernel)
def codes1 : List Jvm.Cond := [Jvm.Cond.code x code maxLocals ret, Jvm.Cond.code ({ cls := "com/example/rowfold/rowfold/codec/Learning", name := "train", desc := "([I[IIII)V" } : Jvm.MethodName) prog_10_method_6_code (7 : Nat) (Option.none : Option Jvm.ClassFile.FieldType), Jvm.Cond.code ({ cls := "com/example/rowfold/rowfold/codec/LearningTrainPinLaw", name := "ok", desc := "(II[I[I[IJ)Z" } : Jvm.MethodName) method_3_code (10 : Nat) (Option.some Jvm.ClassFile.FieldType.boolean)]
set_option maxRecDepth 65536 in
theorem codes_eq : words1.filter isCode = codes1 := rfl
theorem w_codes : ∀ c ∈ words1.filter isCode, c.before args0 about1 = true := by
  rw [codes_eq]
  intro c hc
  simp only [codes1, List.mem_cons, List.not_mem_nil, or_false] at hc
  rcases hc with rfl | rfl | rfl
  · exact w_c0
  · exact w_c1
  · exact w_c2
set_option maxRecDepth 65536 in
theorem w_t1 : words1.all (fun c => isCode c || c.before args0 about1) = true := by decide +kernel
theorem w_tables : (allAtoms (Jvm.Cond.code x code maxLocals ret :: tables_1)).before args0 about1 = true := by
  rw [allAtoms_all]
  show words1.all (fun c => c.before args0 about1) = true
  refine all_split ?_ w_codes
  rw [w_t1]
set_option maxRecDepth 65536 in
theorem w_case : (Jvm.Cond.and given_1 narrow_1).before args0 about1 = true := by decide +kernel
theorem w_applies : (headSpec (Jvm.Cond.code x code maxLocals ret :: tables_1) room_1).applies x e0.platform about1 = true :=
  (Spec.applies_iff w_frames).mpr ⟨w_running, w_runnable, w_alone, w_named, w_hears, w_ripe, w_room, w_tables⟩
theorem atStart : AtStart classFile x code maxLocals ret World_1 tables_1 room_1 Calls_1 rest_1 Pre_1 launch0 p0 e0 about1 theMethod args0 below0 :=
  ⟨lists_1, trivial, launch0.admits_env _ _ _, launch0.least_env, fairChoices_fair.cas, fairChoices_fair.clock, w_frames, w_args, w_heap, w_applies, trivial, trivial, w_case⟩
end start1
theorem witness_1 : WitnessClaimed_1 := ⟨start1.p0, start1.e0, start1.about1, start1.theMethod, start1.args0, start1.below0, start1.atStart⟩
end Jvm.Pilot.@@N@@
