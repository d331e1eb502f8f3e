import JvmDerived
import JvmDerived.Pilot.@@N@@Statement
import JvmDerived.Pilot.@@N@@Code
set_option linter.unusedVariables false
set_option linter.unusedSimpArgs false
@@BLOCK:NumsL.lean.txt@@
namespace Jvm.Pilot.@@N@@
open Jvm Jvm.ClassFile Sem Op Lib Jvm.Free Jvm.Stand Jvm.LawKit Jvm.RoadKit Bundle Jvm.Pilot.@@N@@.Jvm.D
def own_Goes (p : Program) (e : Env) (below : List Frame) (s : State) (Q : Option Value → Heap → List Loc → Prop) (ce sl : Nat) (A : State) : Prop :=
  ∃ s₂ o, Steps p.tables e below A s₂ ∧ s₂.status = .running ∧ Ended s₂ below o ∧ ∃ v L, o = .returned v ∧ Q v s₂.heap L ∧ FrameEnd s o s₂ L ce sl
theorem own_pre {p : Program} {e : Env} {below : List Frame} {s : State} {Q : Option Value → Heap → List Loc → Prop} {ce sl : Nat} {A B : State} (h : ∀ t, Steps p.tables e below A t → Steps p.tables e below B t) (G : own_Goes p e below s Q ce sl A) : own_Goes p e below s Q ce sl B := by
  obtain ⟨s₂, o, h1, r⟩ := G
  exact ⟨s₂, o, h _ h1, r⟩
theorem own_end {p : Program} {l : Launch} {e : Env} {R : Room} {s : State} {m : MethodId} {args : Array Value} {below : List Frame} {meth : Method} {c : Code} {T : State} {locs : List Loc} {cells slots : Nat} (X : Stand p l e R s m args below meth c T locs cells slots)
    {v : Option Value} {Q : Option Value → Heap → List Loc → Prop} {ce sl : Nat} {A : State} (hlocks : meth.locks = false) (hv : meth.sig.returnType = none → v = none)
    (hstep : ∀ fs, (∀ (f : JFrame) (acts : List Action), f.method = m → f.locked = none → f.entered = [] → (doReturn e (T.setTop f) acts v).1 = T.setFrames fs) → Steps p.tables e below A (T.setFrames fs))
    (hQ : Q v T.heap locs) (hc : cells ≤ ce) (hs : slots ≤ sl) : own_Goes p e below s Q ce sl A := by
  obtain ⟨fs, hr, hrun, hended, hW, hsame⟩ := X.leave hv hlocks
  exact ⟨_, _, hstep fs hr, hrun, hended, _, _, rfl, hQ, ⟨_, rfl⟩, hW, hsame.mono hc hs⟩
theorem own_lrem_eq (x y : Int64) : x - (x / y) * y = x % y := Int64.toInt_inj.mp (by rw [Jvm.Kit.i64_rem, Int64.toInt_mod])
theorem own_lrem {tb : Tables} [Ours tb] {e : Env} {below : List Frame} {T target : State} {m : MethodId} {c : Code} {g : JFrame} (h : At T m c below) (hx : tb.exec = Jvm.exec) (hg : g.method = m) {x y : Int64} {rest : List Value} (hd : decode c.code g.pc = .ok (.lrem, 1)) (hs : g.stack = .long y :: .long x :: rest) (hy : y ≠ 0)
    (hr : Steps tb e below (T.setTop { g with pc := g.pc + 1, stack := .long (x % y) :: rest }) target) : Steps tb e below (T.setTop g) target :=
  XS.lrem h hx hg hd hs hy (by rw [own_lrem_eq]; exact hr)
theorem own_h {a0 : Array Value} {Z : State} {L : List Jvm.Cond} (hw : ∀ d ∈ L, d.before a0 Z = true) (i : Nat) {d : Jvm.Cond} (h : L[i]? = some d) : d.before a0 Z = true := hw _ (List.mem_of_getElem? h)
abbrev own_In (j : Int32) (n : Nat) : Prop := 0 ≤ j.toInt ∧ j.toInt < (n : Int)
def own_at (xs : List Int32) (j : Int32) : Int32 := xs.getD j.toNatClampNeg 0
def own_atJ (xs : List Int64) (j : Int32) : Int64 := xs.getD j.toNatClampNeg 0
def own_len {α : Type} (xs : List α) : Int32 := xs.length.toInt32
theorem own_getD (xs : List Int32) (i : Nat) : (xs.map Value.int).getD i (.int 0) = .int (xs.getD i 0) := by
  simp only [List.getD_eq_getElem?_getD, List.getElem?_map]
  cases xs[i]? <;> rfl
theorem own_getDJ (xs : List Int64) (i : Nat) : (xs.map Value.long).getD i (.long 0) = .long (xs.getD i 0) := by
  simp only [List.getD_eq_getElem?_getD, List.getElem?_map]
  cases xs[i]? <;> rfl
theorem own_pad {ty : FieldType} {Z : State} {h : Heap} {a : Addr} {k : ClassId} {n : Int32} {dv : Value} (F : Arv Z h a k ty n [] dv) : Arv Z h a k ty n (List.replicate n.toNatClampNeg dv) dv := F.pad (pad_rep [] dv n.toNatClampNeg)
section OwnArr
variable {p : Program} {l : Launch} {e : Env} {R : Room} {s : State} {m : MethodId} {args : Array Value} {below : List Frame} {meth : Method} {c : Code} {T : State} {locs : List Loc} {cells slots : Nat} {Z : State} {h h' : Heap} {a b : Addr} {sl : Nat} {v d : Value} {ws : List Addr} {ty : FieldType} {vs : List Value}
def own_Arr (ty : FieldType) (d : Value) (Z : State) (h : Heap) (a : Addr) (vs : List Value) : Prop := ∃ k n, Arv Z h a k ty n vs d ∧ n.toNatClampNeg = vs.length
theorem own_Arr.ext (F : own_Arr ty d Z h a vs) (E : Ext h h') : own_Arr ty d Z h' a vs := by obtain ⟨k, n, A, r⟩ := F; exact ⟨k, n, A.ext E, r⟩
theorem own_Arr.other (F : own_Arr ty d Z h b vs) (W : Wr h h' a sl v) (q : b ≠ a) : own_Arr ty d Z h' b vs := by obtain ⟨k, n, A, r⟩ := F; exact ⟨k, n, A.other W q, r⟩
theorem own_Arr.keep (F : own_Arr ty d Z h a vs) (K : Keep h h' ws) (q : a ∉ ws) : own_Arr ty d Z h' a vs := by obtain ⟨k, n, A, r⟩ := F; exact ⟨k, n, A.keep K q, r⟩
theorem own_Arr.lt (F : own_Arr ty d Z h a vs) : a < h.size := by obtain ⟨k, n, A, r⟩ := F; exact A.lt
theorem own_inb {cl : Cell} {n j : Int32} {N : Nat} (S : cl.slots.size = n.toNatClampNeg) (q : n.toNatClampNeg = N) (hj : own_In j N) : ¬ (j < 0 ∨ cl.slots.size ≤ j.toNatClampNeg) := by
  rw [S, q]; obtain ⟨q1, q2⟩ := hj
  have e0 : (0 : Int32).toInt = 0 := rfl
  simp only [Int32.lt_iff_toInt_lt, Int32.toNatClampNeg, e0] at *; omega
theorem own_ixlt {j : Int32} {N : Nat} (hj : own_In j N) : j.toNatClampNeg < N := by obtain ⟨q1, q2⟩ := hj; simp only [Int32.toNatClampNeg]; omega
def own_Ints (Z : State) (h : Heap) (a : Addr) (xs : List Int32) : Prop := own_Arr .int (.int 0) Z h a (xs.map Value.int)
def own_Longs (Z : State) (h : Heap) (a : Addr) (xs : List Int64) : Prop := own_Arr .long (.long 0) Z h a (xs.map Value.long)
def own_Bytes (Z : State) (h : Heap) (a : Addr) (xs : List Int32) : Prop := own_Arr .byte (.int 0) Z h a (xs.map Value.int)
def own_Chars (Z : State) (h : Heap) (a : Addr) (xs : List Int32) : Prop := own_Arr .char (.int 0) Z h a (xs.map Value.int)
theorem own_Ints.ext {xs : List Int32} (F : own_Ints Z h a xs) (E : Ext h h') : own_Ints Z h' a xs := own_Arr.ext F E
theorem own_Ints.other {xs : List Int32} (F : own_Ints Z h b xs) (W : Wr h h' a sl v) (q : b ≠ a) : own_Ints Z h' b xs := own_Arr.other F W q
theorem own_Ints.keep {xs : List Int32} (F : own_Ints Z h a xs) (K : Keep h h' ws) (q : a ∉ ws) : own_Ints Z h' a xs := own_Arr.keep F K q
theorem own_Ints.lt {xs : List Int32} (F : own_Ints Z h a xs) : a < h.size := own_Arr.lt F
theorem own_newI {k : ClassId} {n : Int32} (A : Arr Z h a (newA k .int n) .int) (q : ¬ n < 0) : own_Ints Z h a (List.replicate n.toNatClampNeg 0) := by
  refine ⟨k, n, ?_, by simp⟩
  have := own_pad (Arv.new A q)
  rw [List.map_replicate]
  exact this
theorem own_iaload {target : State} (X : Stand p l e R s m args below meth c T locs cells slots) (hx : p.tables.exec = Jvm.exec) (hZ : Z.Warmed39 s.vm) (eT : T.heap = h) {xs : List Int32} {j : Int32} (F : own_Ints Z h a xs) (hj : own_In j xs.length) {g : JFrame} (hg : g.method = m) {rest : List Value} (hs : g.stack = .int j :: .ref a :: rest) (hd : decode c.code g.pc = .ok (.iaload, 1))
    (hr : Steps p.tables e below (T.setTop { g with pc := g.pc + 1, stack := .int (own_at xs j) :: rest }) target) : Steps p.tables e below (T.setTop g) target := by
  obtain ⟨k, n, ⟨cl, A, q1, S, q3, H, G⟩, q⟩ := F
  have hin := own_inb S q (by rw [List.length_map]; exact hj)
  exact X.iaload hx (j := j) (v := .int (own_at xs j)) (by rw [eT]; exact A.1) (State.isArrayOf_alike hZ.alike A.2.1) A.2.2 hin (H.at hin (own_getD xs _)) (g := g) hg hs hd _ hr
theorem own_arrlenI {target : State} (X : Stand p l e R s m args below meth c T locs cells slots) (hx : p.tables.exec = Jvm.exec) (hZ : Z.Warmed39 s.vm) (eT : T.heap = h) {xs : List Int32} (F : own_Ints Z h a xs) {g : JFrame} (hg : g.method = m) {rest : List Value} (hs : g.stack = .ref a :: rest) (hd : decode c.code g.pc = .ok (.arraylength, 1))
    (hr : Steps p.tables e below (T.setTop { g with pc := g.pc + 1, stack := .int (own_len xs) :: rest }) target) : Steps p.tables e below (T.setTop g) target := by
  obtain ⟨k, n, ⟨cl, A, q1, S, q3, H, G⟩, q⟩ := F
  refine X.arraylength hx (by rw [eT]; exact A.1) (State.isArrayOf_alike hZ.alike A.2.1) (g := g) hg hs hd _ ?_
  have e1 : cl.slots.size = xs.length := by rw [S, q, List.length_map]
  rw [e1]
  exact hr
theorem own_iastore (X : Stand p l e R s m args below meth c T locs cells slots) (hx : p.tables.exec = Jvm.exec) (hZ : Z.Warmed39 s.vm) (eT : T.heap = h) {xs : List Int32} {j : Int32} {x : Int32} (F : own_Ints Z h a xs) (hj : own_In j xs.length) {g : JFrame} (hg : g.method = m) {rest : List Value} (hs : g.stack = .int x :: .int j :: .ref a :: rest) (hd : decode c.code g.pc = .ok (.iastore, 1)) :
    ∃ T' h', Stand p l e R s m args below meth c T' (locs ++ [⟨a, j.toNatClampNeg⟩]) cells slots ∧ T'.heap = h' ∧ Wr h h' a j.toNatClampNeg (.int (x)) ∧ own_Ints Z h' a (xs.set j.toNatClampNeg (x)) ∧ ∀ target, Steps p.tables e below (T'.setTop { g with pc := g.pc + 1, stack := rest }) target → Steps p.tables e below (T.setTop g) target := by
  obtain ⟨k, n, ⟨cl, A, q1, S, q3, H, G⟩, q⟩ := F
  have hin := own_inb S q (by rw [List.length_map]; exact hj)
  obtain ⟨T', h', X', e', W, st⟩ := stI X hx hZ eT A (j := j) (x := x) hin (g := g) hg hs hd
  refine ⟨T', h', X', e', W, ⟨k, n, ?_, by rw [q]; simp⟩, st⟩
  rw [List.map_set]
  exact Arv.set A q1 S q3 H G rfl W _ rfl (by rw [List.length_map]; exact own_ixlt hj)
theorem own_Longs.ext {xs : List Int64} (F : own_Longs Z h a xs) (E : Ext h h') : own_Longs Z h' a xs := own_Arr.ext F E
theorem own_Longs.other {xs : List Int64} (F : own_Longs Z h b xs) (W : Wr h h' a sl v) (q : b ≠ a) : own_Longs Z h' b xs := own_Arr.other F W q
theorem own_Longs.keep {xs : List Int64} (F : own_Longs Z h a xs) (K : Keep h h' ws) (q : a ∉ ws) : own_Longs Z h' a xs := own_Arr.keep F K q
theorem own_Longs.lt {xs : List Int64} (F : own_Longs Z h a xs) : a < h.size := own_Arr.lt F
theorem own_newJ {k : ClassId} {n : Int32} (A : Arr Z h a (newA k .long n) .long) (q : ¬ n < 0) : own_Longs Z h a (List.replicate n.toNatClampNeg 0) := by
  refine ⟨k, n, ?_, by simp⟩
  have := own_pad (Arv.new A q)
  rw [List.map_replicate]
  exact this
theorem own_laload {target : State} (X : Stand p l e R s m args below meth c T locs cells slots) (hx : p.tables.exec = Jvm.exec) (hZ : Z.Warmed39 s.vm) (eT : T.heap = h) {xs : List Int64} {j : Int32} (F : own_Longs Z h a xs) (hj : own_In j xs.length) {g : JFrame} (hg : g.method = m) {rest : List Value} (hs : g.stack = .int j :: .ref a :: rest) (hd : decode c.code g.pc = .ok (.laload, 1))
    (hr : Steps p.tables e below (T.setTop { g with pc := g.pc + 1, stack := .long (own_atJ xs j) :: rest }) target) : Steps p.tables e below (T.setTop g) target := by
  obtain ⟨k, n, ⟨cl, A, q1, S, q3, H, G⟩, q⟩ := F
  have hin := own_inb S q (by rw [List.length_map]; exact hj)
  exact X.laload hx (j := j) (v := .long (own_atJ xs j)) (by rw [eT]; exact A.1) (State.isArrayOf_alike hZ.alike A.2.1) A.2.2 hin (H.at hin (own_getDJ xs _)) (g := g) hg hs hd _ hr
theorem own_arrlenJ {target : State} (X : Stand p l e R s m args below meth c T locs cells slots) (hx : p.tables.exec = Jvm.exec) (hZ : Z.Warmed39 s.vm) (eT : T.heap = h) {xs : List Int64} (F : own_Longs Z h a xs) {g : JFrame} (hg : g.method = m) {rest : List Value} (hs : g.stack = .ref a :: rest) (hd : decode c.code g.pc = .ok (.arraylength, 1))
    (hr : Steps p.tables e below (T.setTop { g with pc := g.pc + 1, stack := .int (own_len xs) :: rest }) target) : Steps p.tables e below (T.setTop g) target := by
  obtain ⟨k, n, ⟨cl, A, q1, S, q3, H, G⟩, q⟩ := F
  refine X.arraylength hx (by rw [eT]; exact A.1) (State.isArrayOf_alike hZ.alike A.2.1) (g := g) hg hs hd _ ?_
  have e1 : cl.slots.size = xs.length := by rw [S, q, List.length_map]
  rw [e1]
  exact hr
theorem own_lastore (X : Stand p l e R s m args below meth c T locs cells slots) (hx : p.tables.exec = Jvm.exec) (hZ : Z.Warmed39 s.vm) (eT : T.heap = h) {xs : List Int64} {j : Int32} {x : Int64} (F : own_Longs Z h a xs) (hj : own_In j xs.length) {g : JFrame} (hg : g.method = m) {rest : List Value} (hs : g.stack = .long x :: .int j :: .ref a :: rest) (hd : decode c.code g.pc = .ok (.lastore, 1)) :
    ∃ T' h', Stand p l e R s m args below meth c T' (locs ++ [⟨a, j.toNatClampNeg⟩]) cells slots ∧ T'.heap = h' ∧ Wr h h' a j.toNatClampNeg (.long (x)) ∧ own_Longs Z h' a (xs.set j.toNatClampNeg (x)) ∧ ∀ target, Steps p.tables e below (T'.setTop { g with pc := g.pc + 1, stack := rest }) target → Steps p.tables e below (T.setTop g) target := by
  obtain ⟨k, n, ⟨cl, A, q1, S, q3, H, G⟩, q⟩ := F
  have hin := own_inb S q (by rw [List.length_map]; exact hj)
  obtain ⟨T', h', X', e', W, st⟩ := stJ X hx hZ eT A (j := j) (x := x) hin (g := g) hg hs hd
  refine ⟨T', h', X', e', W, ⟨k, n, ?_, by rw [q]; simp⟩, st⟩
  rw [List.map_set]
  exact Arv.set A q1 S q3 H G rfl W _ rfl (by rw [List.length_map]; exact own_ixlt hj)
theorem own_Bytes.ext {xs : List Int32} (F : own_Bytes Z h a xs) (E : Ext h h') : own_Bytes Z h' a xs := own_Arr.ext F E
theorem own_Bytes.other {xs : List Int32} (F : own_Bytes Z h b xs) (W : Wr h h' a sl v) (q : b ≠ a) : own_Bytes Z h' b xs := own_Arr.other F W q
theorem own_Bytes.keep {xs : List Int32} (F : own_Bytes Z h a xs) (K : Keep h h' ws) (q : a ∉ ws) : own_Bytes Z h' a xs := own_Arr.keep F K q
theorem own_Bytes.lt {xs : List Int32} (F : own_Bytes Z h a xs) : a < h.size := own_Arr.lt F
theorem own_newB {k : ClassId} {n : Int32} (A : Arr Z h a (newA k .byte n) .byte) (q : ¬ n < 0) : own_Bytes Z h a (List.replicate n.toNatClampNeg 0) := by
  refine ⟨k, n, ?_, by simp⟩
  have := own_pad (Arv.new A q)
  rw [List.map_replicate]
  exact this
theorem own_baload {target : State} (X : Stand p l e R s m args below meth c T locs cells slots) (hx : p.tables.exec = Jvm.exec) (hZ : Z.Warmed39 s.vm) (eT : T.heap = h) {xs : List Int32} {j : Int32} (F : own_Bytes Z h a xs) (hj : own_In j xs.length) {g : JFrame} (hg : g.method = m) {rest : List Value} (hs : g.stack = .int j :: .ref a :: rest) (hd : decode c.code g.pc = .ok (.baload, 1))
    (hr : Steps p.tables e below (T.setTop { g with pc := g.pc + 1, stack := .int (own_at xs j) :: rest }) target) : Steps p.tables e below (T.setTop g) target := by
  obtain ⟨k, n, ⟨cl, A, q1, S, q3, H, G⟩, q⟩ := F
  have hin := own_inb S q (by rw [List.length_map]; exact hj)
  exact X.baloadBytes hx (j := j) (v := .int (own_at xs j)) (by rw [eT]; exact A.1) (State.isArrayOf_alike hZ.alike A.2.1) A.2.2 hin (H.at hin (own_getD xs _)) (g := g) hg hs hd _ hr
theorem own_arrlenB {target : State} (X : Stand p l e R s m args below meth c T locs cells slots) (hx : p.tables.exec = Jvm.exec) (hZ : Z.Warmed39 s.vm) (eT : T.heap = h) {xs : List Int32} (F : own_Bytes Z h a xs) {g : JFrame} (hg : g.method = m) {rest : List Value} (hs : g.stack = .ref a :: rest) (hd : decode c.code g.pc = .ok (.arraylength, 1))
    (hr : Steps p.tables e below (T.setTop { g with pc := g.pc + 1, stack := .int (own_len xs) :: rest }) target) : Steps p.tables e below (T.setTop g) target := by
  obtain ⟨k, n, ⟨cl, A, q1, S, q3, H, G⟩, q⟩ := F
  refine X.arraylength hx (by rw [eT]; exact A.1) (State.isArrayOf_alike hZ.alike A.2.1) (g := g) hg hs hd _ ?_
  have e1 : cl.slots.size = xs.length := by rw [S, q, List.length_map]
  rw [e1]
  exact hr
theorem own_bastore (X : Stand p l e R s m args below meth c T locs cells slots) (hx : p.tables.exec = Jvm.exec) (hZ : Z.Warmed39 s.vm) (eT : T.heap = h) {xs : List Int32} {j : Int32} {x : Int32} (F : own_Bytes Z h a xs) (hj : own_In j xs.length) {g : JFrame} (hg : g.method = m) {rest : List Value} (hs : g.stack = .int x :: .int j :: .ref a :: rest) (hd : decode c.code g.pc = .ok (.bastore, 1)) :
    ∃ T' h', Stand p l e R s m args below meth c T' (locs ++ [⟨a, j.toNatClampNeg⟩]) cells slots ∧ T'.heap = h' ∧ Wr h h' a j.toNatClampNeg (.int (x.toInt8.toInt32)) ∧ own_Bytes Z h' a (xs.set j.toNatClampNeg (x.toInt8.toInt32)) ∧ ∀ target, Steps p.tables e below (T'.setTop { g with pc := g.pc + 1, stack := rest }) target → Steps p.tables e below (T.setTop g) target := by
  obtain ⟨k, n, ⟨cl, A, q1, S, q3, H, G⟩, q⟩ := F
  have hin := own_inb S q (by rw [List.length_map]; exact hj)
  obtain ⟨T', h', X', e', W, st⟩ := stB X hx hZ eT A (j := j) (x := x) hin (g := g) hg hs hd
  refine ⟨T', h', X', e', W, ⟨k, n, ?_, by rw [q]; simp⟩, st⟩
  rw [List.map_set]
  exact Arv.set A q1 S q3 H G (fits_nar_byte x) W _ rfl (by rw [List.length_map]; exact own_ixlt hj)
theorem own_Chars.ext {xs : List Int32} (F : own_Chars Z h a xs) (E : Ext h h') : own_Chars Z h' a xs := own_Arr.ext F E
theorem own_Chars.other {xs : List Int32} (F : own_Chars Z h b xs) (W : Wr h h' a sl v) (q : b ≠ a) : own_Chars Z h' b xs := own_Arr.other F W q
theorem own_Chars.keep {xs : List Int32} (F : own_Chars Z h a xs) (K : Keep h h' ws) (q : a ∉ ws) : own_Chars Z h' a xs := own_Arr.keep F K q
theorem own_Chars.lt {xs : List Int32} (F : own_Chars Z h a xs) : a < h.size := own_Arr.lt F
theorem own_newC {k : ClassId} {n : Int32} (A : Arr Z h a (newA k .char n) .char) (q : ¬ n < 0) : own_Chars Z h a (List.replicate n.toNatClampNeg 0) := by
  refine ⟨k, n, ?_, by simp⟩
  have := own_pad (Arv.new A q)
  rw [List.map_replicate]
  exact this
theorem own_caload {target : State} (X : Stand p l e R s m args below meth c T locs cells slots) (hx : p.tables.exec = Jvm.exec) (hZ : Z.Warmed39 s.vm) (eT : T.heap = h) {xs : List Int32} {j : Int32} (F : own_Chars Z h a xs) (hj : own_In j xs.length) {g : JFrame} (hg : g.method = m) {rest : List Value} (hs : g.stack = .int j :: .ref a :: rest) (hd : decode c.code g.pc = .ok (.caload, 1))
    (hr : Steps p.tables e below (T.setTop { g with pc := g.pc + 1, stack := .int (own_at xs j) :: rest }) target) : Steps p.tables e below (T.setTop g) target := by
  obtain ⟨k, n, ⟨cl, A, q1, S, q3, H, G⟩, q⟩ := F
  have hin := own_inb S q (by rw [List.length_map]; exact hj)
  exact X.caload hx (j := j) (v := .int (own_at xs j)) (by rw [eT]; exact A.1) (State.isArrayOf_alike hZ.alike A.2.1) A.2.2 hin (H.at hin (own_getD xs _)) (g := g) hg hs hd _ hr
theorem own_arrlenC {target : State} (X : Stand p l e R s m args below meth c T locs cells slots) (hx : p.tables.exec = Jvm.exec) (hZ : Z.Warmed39 s.vm) (eT : T.heap = h) {xs : List Int32} (F : own_Chars Z h a xs) {g : JFrame} (hg : g.method = m) {rest : List Value} (hs : g.stack = .ref a :: rest) (hd : decode c.code g.pc = .ok (.arraylength, 1))
    (hr : Steps p.tables e below (T.setTop { g with pc := g.pc + 1, stack := .int (own_len xs) :: rest }) target) : Steps p.tables e below (T.setTop g) target := by
  obtain ⟨k, n, ⟨cl, A, q1, S, q3, H, G⟩, q⟩ := F
  refine X.arraylength hx (by rw [eT]; exact A.1) (State.isArrayOf_alike hZ.alike A.2.1) (g := g) hg hs hd _ ?_
  have e1 : cl.slots.size = xs.length := by rw [S, q, List.length_map]
  rw [e1]
  exact hr
theorem own_castore (X : Stand p l e R s m args below meth c T locs cells slots) (hx : p.tables.exec = Jvm.exec) (hZ : Z.Warmed39 s.vm) (eT : T.heap = h) {xs : List Int32} {j : Int32} {x : Int32} (F : own_Chars Z h a xs) (hj : own_In j xs.length) {g : JFrame} (hg : g.method = m) {rest : List Value} (hs : g.stack = .int x :: .int j :: .ref a :: rest) (hd : decode c.code g.pc = .ok (.castore, 1)) :
    ∃ T' h', Stand p l e R s m args below meth c T' (locs ++ [⟨a, j.toNatClampNeg⟩]) cells slots ∧ T'.heap = h' ∧ Wr h h' a j.toNatClampNeg (.int (x.toUInt32.toUInt16.toUInt32.toInt32)) ∧ own_Chars Z h' a (xs.set j.toNatClampNeg (x.toUInt32.toUInt16.toUInt32.toInt32)) ∧ ∀ target, Steps p.tables e below (T'.setTop { g with pc := g.pc + 1, stack := rest }) target → Steps p.tables e below (T.setTop g) target := by
  obtain ⟨k, n, ⟨cl, A, q1, S, q3, H, G⟩, q⟩ := F
  have hin := own_inb S q (by rw [List.length_map]; exact hj)
  obtain ⟨T', h', X', e', W, st⟩ := stC X hx hZ eT A (j := j) (x := x) hin (g := g) hg hs hd
  refine ⟨T', h', X', e', W, ⟨k, n, ?_, by rw [q]; simp⟩, st⟩
  rw [List.map_set]
  exact Arv.set A q1 S q3 H G (fits_nar_char x) W _ rfl (by rw [List.length_map]; exact own_ixlt hj)
end OwnArr
theorem own_lit {j : Int32} {n : Nat} (h : (decide (0 ≤ j.toInt) && decide (j.toInt < (n : Int))) = true) : own_In j n := by
  simp only [Bool.and_eq_true, decide_eq_true_eq] at h; exact h
theorem own_pn0 : plainName "com/example/fanout4/fanout4/xslt/CompilerWatch" = true := by first | (simp [plainName, overriddenIn]; done) | decide +kernel
theorem d1_0 : decode prog_213_method_1_code 0 = .ok (.aload_n 0, 1) := by decide +kernel
theorem d1_1 : decode prog_213_method_1_code 1 = .ok (.invokespecial 1, 3) := by decide +kernel
theorem d1_4 : decode prog_213_method_1_code 4 = .ok (.aload_n 0, 1) := by decide +kernel
theorem d1_5 : decode prog_213_method_1_code 5 = .ok (.bipush 15, 2) := by decide +kernel
theorem d1_7 : decode prog_213_method_1_code 7 = .ok (.newarray .long, 2) := by decide +kernel
theorem d1_9 : decode prog_213_method_1_code 9 = .ok (.putfield 9, 3) := by decide +kernel
theorem d1_12 : decode prog_213_method_1_code 12 = .ok (.return_, 1) := by decide +kernel
theorem ef1 (m : MethodId) (a0 : Addr) : entryFrame m #[(.ref a0)] 1 = mkF m 0 #[rv a0] [] := by first | (simp [entryFrame, mkF, argsToLocals, Value.category]; done) | rfl
def Q1 (Z : State) (a0 : Addr)  (h0 : Heap) (n0 : Nat) (v : Option Value) (h : Heap) (L : List Loc) : Prop := v = none ∧ Fr n0 L ∧ Keep h0 h [a0] ∧ ∃ tt : Addr, h0.size ≤ tt ∧ Fld Z h a0 "com/example/fanout4/fanout4/xslt/CompilerWatch" "samples" "I" (.int (0:Int32)) ∧ Fld Z h a0 "com/example/fanout4/fanout4/xslt/CompilerWatch" "totals" "[J" (.ref tt) ∧ own_Longs Z h tt [(0:Int64), (0:Int64), (0:Int64), (0:Int64), (0:Int64), (0:Int64), (0:Int64), (0:Int64), (0:Int64), (0:Int64), (0:Int64), (0:Int64), (0:Int64), (0:Int64), (0:Int64)]
set_option maxRecDepth 65536 in
set_option maxHeartbeats 40000000 in
theorem rm1 (l : Launch) (Z : State) (aZ : Array Value) (hw : ∀ d ∈ tables_1, d.before aZ Z = true) (ws : List Jvm.Cond) (a0 : Addr)  (h0 : Heap) (n0 : Nat) (Z0 : n0 ≤ h0.size) (P0 : Exa Z h0 a0 "com/example/fanout4/fanout4/xslt/CompilerWatch") (P1 : Fld Z h0 a0 "com/example/fanout4/fanout4/xslt/CompilerWatch" "samples" "I" (.int (0:Int32))) (P2 : Fld Z h0 a0 "com/example/fanout4/fanout4/xslt/CompilerWatch" "totals" "[J" .null) (gq_a0 : n0 ≤ a0) :
    MetFree l (⟨"com/example/fanout4/fanout4/xslt/CompilerWatch", "<init>", "()V"⟩ : MethodName) (head1 (Jvm.Cond.code (⟨"com/example/fanout4/fanout4/xslt/CompilerWatch", "<init>", "()V"⟩ : MethodName) prog_213_method_1_code 1 none :: ws) ({ frames := 1, cells := 1, slots := 15, locals := 12 } : Room)) (fun a U => a = #[(.ref a0)] ∧ Z.Warmed39 U.vm ∧ U.heap = h0) (fun _ _ _ _ _ => True) (fun _ U o U' => ∃ v L, o = .returned v ∧ Q1 Z a0 h0 n0 v U'.heap L ∧ FrameEnd U o U' L ({ frames := 1, cells := 1, slots := 15, locals := 12 } : Room).cells ({ frames := 1, cells := 1, slots := 15, locals := 12 } : Room).slots) := by
  refine MetFree.of_bodySF (plainFor_of_name own_pn0) hisR ?_
  intro p e s m args below meth c s₁ Bd hml0 hP hK
  obtain ⟨rfl, hZ, hh⟩ := hP
  have hx := Bd.exec
  have hby := Bd.bytes
  have hml : c.maxLocals = 1 := hml0
  have hown : s.vm.findClass "com/example/fanout4/fanout4/xslt/CompilerWatch" = some m.cls := findClass_of_methodNamed Bd.named
  have hnm := (name_of_methodNamed Bd.named Bd.method).1
  have X0 : Stand p l e ({ frames := 1, cells := 1, slots := 15, locals := 12 } : Room) s m #[(.ref a0)] below meth c s₁ [] 0 0 := Stand.of_body Bd
  have e0 : s₁.heap = h0 := by rw [← hh, Bd.state]; rfl
  have N0 := Fr.nil n0
  have Kp0 : Keep h0 h0 [a0] := Keep.refl _ _
  show own_Goes p e below s (Q1 Z a0 h0 n0) ({ frames := 1, cells := 1, slots := 15, locals := 12 } : Room).cells ({ frames := 1, cells := 1, slots := 15, locals := 12 } : Room).slots _
  refine own_pre (fun t k => castTop (ef1 m a0) k) ?_
  refine own_pre (A := s₁.setTop (mkF m 1 #[rv a0] [(.ref a0)])) (fun t k => ?_) ?_
  · show Steps p.tables e below (s₁.setTop (mkF m 0 #[rv a0] [])) _
    refine XS.aloadN X0.here hx rfl (hb hby d1_0) rfl rfl ?_
    exact k
  obtain ⟨T1, X1, e1, st1⟩ := initO X0 hx hZ hown (own_h hw 6 rfl) (own_h hw 7 rfl) (own_h hw 8 rfl) e0 (g := (mkF m 1 #[rv a0] [(.ref a0)])) rfl (by rw [hml]; rfl) rfl (hb hby d1_1) (by decide) (W := 0) (by show 2 * 0 + _ ≤ _; exact Nat.le_of_eq rfl) (by decide)
  refine own_pre st1 ?_
  refine own_pre (A := T1.setTop (mkF m 7 #[rv a0] [(.int (15:Int32)), (.ref a0)])) (fun t k => ?_) ?_
  · show Steps p.tables e below (T1.setTop (mkF m 4 #[rv a0] [])) _
    refine XS.aloadN X1.here hx rfl (hb hby d1_4) rfl rfl ?_
    show Steps p.tables e below (T1.setTop (mkF m 5 #[rv a0] [(.ref a0)])) _
    refine XS.bipush X1.here hx rfl (hb hby d1_5) ?_
    exact k
  obtain ⟨T2, h2, k2, X2, e2, E2, A2, st2⟩ := newP X1 hx hZ (own_h hw 9 rfl) e1 (g := (mkF m 7 #[rv a0] [(.int (15:Int32)), (.ref a0)])) rfl (hb hby d1_7) rfl (by decide) (cap := 15) (by decide) (by decide) (by decide) (by decide)
  obtain ⟨b2, g2⟩ : ∃ z, z = h0.size := ⟨_, rfl⟩
  rw [← g2] at A2 st2
  have ge_b2 : n0 ≤ b2 := Nat.le_trans Z0 (Nat.le_of_eq g2.symm)
  have sz_b2 : h0.size ≤ b2 := Nat.le_trans Kp0.1 (Nat.le_of_eq g2.symm)
  have ne_a0_b2 : a0 ≠ b2 := Nat.ne_of_lt (Nat.lt_of_lt_of_le P0.lt (Nat.le_of_eq g2.symm))
  have Kp2 : Keep h0 h2 [a0] := Kp0.ext E2
  have Z3 : n0 ≤ h2.size := Nat.le_trans Z0 E2.1
  have V2 : own_Longs Z h2 b2 [(0:Int64), (0:Int64), (0:Int64), (0:Int64), (0:Int64), (0:Int64), (0:Int64), (0:Int64), (0:Int64), (0:Int64), (0:Int64), (0:Int64), (0:Int64), (0:Int64), (0:Int64)] := own_newJ A2 (by decide)
  refine own_pre st2 ?_
  have F5 := (P0.ext E2)
  have F6 := (P2.ext E2)
  obtain ⟨T4, h4, X4, e4, W4, st4⟩ := putF X2 hx hZ hown (host := "") (Or.inl (own_h hw 10 rfl)) Via.refl e2 F6 F5 (Or.inr ⟨(own_h hw 11 rfl), rfl, hnm⟩) (own_h hw 1 rfl) (ty := (.array .long)) (by decide) rfl rfl (g := (mkF m 9 #[rv a0] [(.ref b2), (.ref a0)])) rfl rfl (hb hby d1_9)
  have Kp4 : Keep h0 h4 [a0] := Kp2.wr W4 (Or.inl (List.mem_of_getElem? (i := 0) rfl))
  have Z7 : n0 ≤ h4.size := Nat.le_trans Z3 (Nat.le_of_eq W4.size.symm)
  have N4 := Fr.snoc X4 N0 gq_a0
  have Fw4 := F6.same W4
  refine own_pre st4 ?_
  have F8 := ((P1.ext E2).other W4 (Or.inr (slot_ne (Or.inl (own_h hw 18 rfl)) (Or.inr (own_h hw 11 rfl)) (by decide) (t := .int) (t' := (.array .long)) (by decide) (by decide))))
  have F9 := (V2.other W4 (Ne.symm ne_a0_b2))
  exact own_end X4 (BodyLoose.notSynchronized Bd) (fun _ => rfl) (v := none) (fun fs hr => X4.returnOut hx Bd.returns (hb hby d1_12) hr) (by show Q1 Z a0 h0 n0 _ T4.heap _; rw [e4]; exact ⟨rfl, N4, Kp4, b2, sz_b2, F8, Fw4, F9⟩) (by decide) (by decide)
def own_idle (q1 : Int64) (sm : Int32) (xs : List Int64) : Int32 := if sm < (15:Int32) then 0 else if (q1 - (own_atJ xs (sm % (15:Int32)))) < (100:Int64) then 1 else 0
theorem d3_0 : decode prog_213_method_3_code 0 = .ok (.aload_n 0, 1) := by decide +kernel
theorem d3_1 : decode prog_213_method_3_code 1 = .ok (.getfield 31, 3) := by decide +kernel
theorem d3_4 : decode prog_213_method_3_code 4 = .ok (.bipush 15, 2) := by decide +kernel
theorem d3_6 : decode prog_213_method_3_code 6 = .ok (.irem, 1) := by decide +kernel
theorem d3_7 : decode prog_213_method_3_code 7 = .ok (.istore_n 3, 1) := by decide +kernel
theorem d3_8 : decode prog_213_method_3_code 8 = .ok (.aload_n 0, 1) := by decide +kernel
theorem d3_9 : decode prog_213_method_3_code 9 = .ok (.getfield 31, 3) := by decide +kernel
theorem d3_12 : decode prog_213_method_3_code 12 = .ok (.bipush 15, 2) := by decide +kernel
theorem d3_14 : decode prog_213_method_3_code 14 = .ok (.if_icmp .lt 22, 3) := by decide +kernel
theorem d3_17 : decode prog_213_method_3_code 17 = .ok (.lload_n 1, 1) := by decide +kernel
theorem d3_18 : decode prog_213_method_3_code 18 = .ok (.aload_n 0, 1) := by decide +kernel
theorem d3_19 : decode prog_213_method_3_code 19 = .ok (.getfield 9, 3) := by decide +kernel
theorem d3_22 : decode prog_213_method_3_code 22 = .ok (.iload_n 3, 1) := by decide +kernel
theorem d3_23 : decode prog_213_method_3_code 23 = .ok (.laload, 1) := by decide +kernel
theorem d3_24 : decode prog_213_method_3_code 24 = .ok (.lsub, 1) := by decide +kernel
theorem d3_25 : decode prog_213_method_3_code 25 = .ok (.ldc2_w 35, 3) := by decide +kernel
theorem d3_28 : decode prog_213_method_3_code 28 = .ok (.lcmp, 1) := by decide +kernel
theorem d3_29 : decode prog_213_method_3_code 29 = .ok (.ifCond .ge 7, 3) := by decide +kernel
theorem d3_32 : decode prog_213_method_3_code 32 = .ok (.iconst 1, 1) := by decide +kernel
theorem d3_33 : decode prog_213_method_3_code 33 = .ok (.goto 4, 3) := by decide +kernel
theorem d3_36 : decode prog_213_method_3_code 36 = .ok (.iconst 0, 1) := by decide +kernel
theorem d3_37 : decode prog_213_method_3_code 37 = .ok (.istore 4, 2) := by decide +kernel
theorem d3_39 : decode prog_213_method_3_code 39 = .ok (.aload_n 0, 1) := by decide +kernel
theorem d3_40 : decode prog_213_method_3_code 40 = .ok (.getfield 9, 3) := by decide +kernel
theorem d3_43 : decode prog_213_method_3_code 43 = .ok (.iload_n 3, 1) := by decide +kernel
theorem d3_44 : decode prog_213_method_3_code 44 = .ok (.lload_n 1, 1) := by decide +kernel
theorem d3_45 : decode prog_213_method_3_code 45 = .ok (.lastore, 1) := by decide +kernel
theorem d3_46 : decode prog_213_method_3_code 46 = .ok (.aload_n 0, 1) := by decide +kernel
theorem d3_47 : decode prog_213_method_3_code 47 = .ok (.dup, 1) := by decide +kernel
theorem d3_48 : decode prog_213_method_3_code 48 = .ok (.getfield 31, 3) := by decide +kernel
theorem d3_51 : decode prog_213_method_3_code 51 = .ok (.iconst 1, 1) := by decide +kernel
theorem d3_52 : decode prog_213_method_3_code 52 = .ok (.iadd, 1) := by decide +kernel
theorem d3_53 : decode prog_213_method_3_code 53 = .ok (.putfield 31, 3) := by decide +kernel
theorem d3_56 : decode prog_213_method_3_code 56 = .ok (.iload 4, 2) := by decide +kernel
theorem d3_58 : decode prog_213_method_3_code 58 = .ok (.ireturn, 1) := by decide +kernel
theorem ef3 (m : MethodId) (a0 : Addr) (q1 : Int64) : entryFrame m #[(.ref a0), (.long q1)] 5 = mkF m 0 #[rv a0, .val (.long q1), .second, .unset, .unset] [] := by first | (simp [entryFrame, mkF, argsToLocals, Value.category]; done) | rfl
def Q3 (Z : State) (a0 : Addr) (q1 : Int64) (sm : Int32) (tt : Addr) (xs : List Int64) (h0 : Heap) (n0 : Nat) (v : Option Value) (h : Heap) (L : List Loc) : Prop := v = some (.int (own_idle q1 sm xs)) ∧ Fr n0 L ∧ Keep h0 h [a0, tt] ∧ Fld Z h a0 "com/example/fanout4/fanout4/xslt/CompilerWatch" "samples" "I" (.int (sm + (1:Int32))) ∧ Fld Z h a0 "com/example/fanout4/fanout4/xslt/CompilerWatch" "totals" "[J" (.ref tt) ∧ own_Longs Z h tt (xs.set (sm % (15:Int32)).toNatClampNeg q1)
set_option maxRecDepth 65536 in
set_option maxHeartbeats 40000000 in
theorem rm3 (l : Launch) (Z : State) (aZ : Array Value) (hw : ∀ d ∈ tables_1, d.before aZ Z = true) (ws : List Jvm.Cond) (a0 : Addr) (q1 : Int64) (sm : Int32) (tt : Addr) (xs : List Int64) (h0 : Heap) (n0 : Nat) (Z0 : n0 ≤ h0.size) (P0 : Exa Z h0 a0 "com/example/fanout4/fanout4/xslt/CompilerWatch") (P1 : Fld Z h0 a0 "com/example/fanout4/fanout4/xslt/CompilerWatch" "samples" "I" (.int sm)) (P2 : Fld Z h0 a0 "com/example/fanout4/fanout4/xslt/CompilerWatch" "totals" "[J" (.ref tt)) (P3 : own_Longs Z h0 tt xs) (nq_a0_tt : a0 ≠ tt) (gq_a0 : n0 ≤ a0) (gq_tt : n0 ≤ tt) (hin : own_In (sm % (15:Int32)) xs.length) :
    MetFree l (⟨"com/example/fanout4/fanout4/xslt/CompilerWatch", "isIdleWith", "(J)Z"⟩ : MethodName) (head1 (Jvm.Cond.code (⟨"com/example/fanout4/fanout4/xslt/CompilerWatch", "isIdleWith", "(J)Z"⟩ : MethodName) prog_213_method_3_code 5 (some .boolean) :: ws) ({ frames := 0, cells := 0, slots := 0, locals := 0 } : Room)) (fun a U => a = #[(.ref a0), (.long q1)] ∧ Z.Warmed39 U.vm ∧ U.heap = h0) (fun _ _ _ _ _ => True) (fun _ U o U' => ∃ v L, o = .returned v ∧ Q3 Z a0 q1 sm tt xs h0 n0 v U'.heap L ∧ FrameEnd U o U' L ({ frames := 0, cells := 0, slots := 0, locals := 0 } : Room).cells ({ frames := 0, cells := 0, slots := 0, locals := 0 } : Room).slots) := by
  refine MetFree.of_bodySF (plainFor_of_name own_pn0) hisR ?_
  intro p e s m args below meth c s₁ Bd hml0 hP hK
  obtain ⟨rfl, hZ, hh⟩ := hP
  have hx := Bd.exec
  have hby := Bd.bytes
  have hml : c.maxLocals = 5 := hml0
  have hown : s.vm.findClass "com/example/fanout4/fanout4/xslt/CompilerWatch" = some m.cls := findClass_of_methodNamed Bd.named
  have hnm := (name_of_methodNamed Bd.named Bd.method).1
  have X0 : Stand p l e ({ frames := 0, cells := 0, slots := 0, locals := 0 } : Room) s m #[(.ref a0), (.long q1)] below meth c s₁ [] 0 0 := Stand.of_body Bd
  have e0 : s₁.heap = h0 := by rw [← hh, Bd.state]; rfl
  have N0 := Fr.nil n0
  have Kp0 : Keep h0 h0 [a0, tt] := Keep.refl _ _
  show own_Goes p e below s (Q3 Z a0 q1 sm tt xs h0 n0) ({ frames := 0, cells := 0, slots := 0, locals := 0 } : Room).cells ({ frames := 0, cells := 0, slots := 0, locals := 0 } : Room).slots _
  refine own_pre (fun t k => castTop (ef3 m a0 q1) k) ?_
  refine own_pre (A := s₁.setTop (mkF m 1 #[rv a0, .val (.long q1), .second, .unset, .unset] [(.ref a0)])) (fun t k => ?_) ?_
  · show Steps p.tables e below (s₁.setTop (mkF m 0 #[rv a0, .val (.long q1), .second, .unset, .unset] [])) _
    refine XS.aloadN X0.here hx rfl (hb hby d3_0) rfl rfl ?_
    exact k
  obtain ⟨T10, X10, e10, st10⟩ := getF X0 hx hZ hown (host := "") (Or.inl (own_h hw 17 rfl)) Via.refl e0 P1 (g := (mkF m 1 #[rv a0, .val (.long q1), .second, .unset, .unset] [(.ref a0)])) rfl rfl (hb hby d3_1)
  refine own_pre st10 ?_
  refine own_pre (A := T10.setTop (mkF m 9 #[rv a0, .val (.long q1), .second, iv (sm % (15:Int32)), .unset] [(.ref a0)])) (fun t k => ?_) ?_
  · show Steps p.tables e below (T10.setTop (mkF m 4 #[rv a0, .val (.long q1), .second, .unset, .unset] [(.int sm)])) _
    refine XS.bipush X10.here hx rfl (hb hby d3_4) ?_
    show Steps p.tables e below (T10.setTop (mkF m 6 #[rv a0, .val (.long q1), .second, .unset, .unset] [(.int (15:Int32)), (.int sm)])) _
    refine iremM X10 hx rfl (hb hby d3_6) rfl (by decide) ?_
    show Steps p.tables e below (T10.setTop (mkF m 7 #[rv a0, .val (.long q1), .second, .unset, .unset] [(.int (sm % (15:Int32)))])) _
    refine XS.istoreN X10.here hx rfl (hb hby d3_7) rfl (l' := #[rv a0, .val (.long q1), .second, iv (sm % (15:Int32)), .unset]) rfl ?_
    show Steps p.tables e below (T10.setTop (mkF m 8 #[rv a0, .val (.long q1), .second, iv (sm % (15:Int32)), .unset] [])) _
    refine XS.aloadN X10.here hx rfl (hb hby d3_8) rfl rfl ?_
    exact k
  obtain ⟨T11, X11, e11, st11⟩ := getF X10 hx hZ hown (host := "") (Or.inl (own_h hw 17 rfl)) Via.refl e10 P1 (g := (mkF m 9 #[rv a0, .val (.long q1), .second, iv (sm % (15:Int32)), .unset] [(.ref a0)])) rfl rfl (hb hby d3_9)
  refine own_pre st11 ?_
  refine own_pre (A := T11.setTop (mkF m 14 #[rv a0, .val (.long q1), .second, iv (sm % (15:Int32)), .unset] [(.int (15:Int32)), (.int sm)])) (fun t k => ?_) ?_
  · show Steps p.tables e below (T11.setTop (mkF m 12 #[rv a0, .val (.long q1), .second, iv (sm % (15:Int32)), .unset] [(.int sm)])) _
    refine XS.bipush X11.here hx rfl (hb hby d3_12) ?_
    exact k
  by_cases hs14_1 : sm < (15:Int32)
  · refine own_pre (A := T11.setTop (mkF m 40 #[rv a0, .val (.long q1), .second, iv (sm % (15:Int32)), iv (0:Int32)] [(.ref a0)])) (fun t k => ?_) ?_
    · show Steps p.tables e below (T11.setTop (mkF m 14 #[rv a0, .val (.long q1), .second, iv (sm % (15:Int32)), .unset] [(.int (15:Int32)), (.int sm)])) _
      refine XS.icmpYes X11.here hx rfl (pc0 := 14) (pc' := 36) rfl (hb hby d3_14) rfl (XT.ii_lt_t hs14_1) (by decide) (by decide) ?_
      show Steps p.tables e below (T11.setTop (mkF m 36 #[rv a0, .val (.long q1), .second, iv (sm % (15:Int32)), .unset] [])) _
      refine XS.iconst X11.here hx rfl (hb hby d3_36) ?_
      show Steps p.tables e below (T11.setTop (mkF m 37 #[rv a0, .val (.long q1), .second, iv (sm % (15:Int32)), .unset] [(.int (0:Int32))])) _
      refine XS.istore X11.here hx rfl (hb hby d3_37) rfl (l' := #[rv a0, .val (.long q1), .second, iv (sm % (15:Int32)), iv (0:Int32)]) rfl ?_
      show Steps p.tables e below (T11.setTop (mkF m 39 #[rv a0, .val (.long q1), .second, iv (sm % (15:Int32)), iv (0:Int32)] [])) _
      refine XS.aloadN X11.here hx rfl (hb hby d3_39) rfl rfl ?_
      exact k
    obtain ⟨T12, X12, e12, st12⟩ := getF X11 hx hZ hown (host := "") (Or.inl (own_h hw 10 rfl)) Via.refl e11 P2 (g := (mkF m 40 #[rv a0, .val (.long q1), .second, iv (sm % (15:Int32)), iv (0:Int32)] [(.ref a0)])) rfl rfl (hb hby d3_40)
    refine own_pre st12 ?_
    refine own_pre (A := T12.setTop (mkF m 45 #[rv a0, .val (.long q1), .second, iv (sm % (15:Int32)), iv (0:Int32)] [(.long q1), (.int (sm % (15:Int32))), (.ref tt)])) (fun t k => ?_) ?_
    · show Steps p.tables e below (T12.setTop (mkF m 43 #[rv a0, .val (.long q1), .second, iv (sm % (15:Int32)), iv (0:Int32)] [(.ref tt)])) _
      refine XS.iloadN X12.here hx rfl (hb hby d3_43) rfl ?_
      show Steps p.tables e below (T12.setTop (mkF m 44 #[rv a0, .val (.long q1), .second, iv (sm % (15:Int32)), iv (0:Int32)] [(.int (sm % (15:Int32))), (.ref tt)])) _
      refine XS.lloadN X12.here hx rfl (hb hby d3_44) rfl ?_
      exact k
    have hbn14 : own_In (sm % (15:Int32)) xs.length := hin
    obtain ⟨T13, h13, X13, e13, W13, V13, st13⟩ := own_lastore X12 hx hZ e12 P3 (j := (sm % (15:Int32))) (x := q1) hbn14 (g := (mkF m 45 #[rv a0, .val (.long q1), .second, iv (sm % (15:Int32)), iv (0:Int32)] [(.long q1), (.int (sm % (15:Int32))), (.ref tt)])) rfl rfl (hb hby d3_45)
    have Kp13 : Keep h0 h13 [a0, tt] := Kp0.wr W13 (Or.inl (List.mem_of_getElem? (i := 1) rfl))
    have Z15 : n0 ≤ h13.size := Nat.le_trans Z0 (Nat.le_of_eq W13.size.symm)
    have N13 := Fr.snoc X13 N0 gq_tt
    have Vw13 : own_Longs Z h13 tt (xs.set (sm % (15:Int32)).toNatClampNeg q1) := V13
    refine own_pre st13 ?_
    refine own_pre (A := T13.setTop (mkF m 48 #[rv a0, .val (.long q1), .second, iv (sm % (15:Int32)), iv (0:Int32)] [(.ref a0), (.ref a0)])) (fun t k => ?_) ?_
    · show Steps p.tables e below (T13.setTop (mkF m 46 #[rv a0, .val (.long q1), .second, iv (sm % (15:Int32)), iv (0:Int32)] [])) _
      refine XS.aloadN X13.here hx rfl (hb hby d3_46) rfl rfl ?_
      show Steps p.tables e below (T13.setTop (mkF m 47 #[rv a0, .val (.long q1), .second, iv (sm % (15:Int32)), iv (0:Int32)] [(.ref a0)])) _
      refine XS.dup X13.here hx rfl (hb hby d3_47) rfl rfl ?_
      exact k
    have F17 := (P1.other W13 (Or.inl nq_a0_tt))
    obtain ⟨T16, X16, e16, st16⟩ := getF X13 hx hZ hown (host := "") (Or.inl (own_h hw 17 rfl)) Via.refl e13 F17 (g := (mkF m 48 #[rv a0, .val (.long q1), .second, iv (sm % (15:Int32)), iv (0:Int32)] [(.ref a0), (.ref a0)])) rfl rfl (hb hby d3_48)
    refine own_pre st16 ?_
    refine own_pre (A := T16.setTop (mkF m 53 #[rv a0, .val (.long q1), .second, iv (sm % (15:Int32)), iv (0:Int32)] [(.int (sm + (1:Int32))), (.ref a0)])) (fun t k => ?_) ?_
    · show Steps p.tables e below (T16.setTop (mkF m 51 #[rv a0, .val (.long q1), .second, iv (sm % (15:Int32)), iv (0:Int32)] [(.int sm), (.ref a0)])) _
      refine XS.iconst X16.here hx rfl (hb hby d3_51) ?_
      show Steps p.tables e below (T16.setTop (mkF m 52 #[rv a0, .val (.long q1), .second, iv (sm % (15:Int32)), iv (0:Int32)] [(.int (1:Int32)), (.int sm), (.ref a0)])) _
      refine XS.iadd X16.here hx rfl (hb hby d3_52) rfl ?_
      exact k
    have F19 := (P0.wr W13)
    obtain ⟨T18, h18, X18, e18, W18, st18⟩ := putF X16 hx hZ hown (host := "") (Or.inl (own_h hw 17 rfl)) Via.refl e16 F17 F19 (Or.inl (own_h hw 18 rfl)) (own_h hw 1 rfl) (ty := .int) (by decide) rfl rfl (g := (mkF m 53 #[rv a0, .val (.long q1), .second, iv (sm % (15:Int32)), iv (0:Int32)] [(.int (sm + (1:Int32))), (.ref a0)])) rfl rfl (hb hby d3_53)
    have Kp18 : Keep h0 h18 [a0, tt] := Kp13.wr W18 (Or.inl (List.mem_of_getElem? (i := 0) rfl))
    have Z20 : n0 ≤ h18.size := Nat.le_trans Z15 (Nat.le_of_eq W18.size.symm)
    have N18 := Fr.snoc X18 N13 gq_a0
    have Fw18 := F17.same W18
    refine own_pre st18 ?_
    refine own_pre (A := T18.setTop (mkF m 58 #[rv a0, .val (.long q1), .second, iv (sm % (15:Int32)), iv (0:Int32)] [(.int (0:Int32))])) (fun t k => ?_) ?_
    · show Steps p.tables e below (T18.setTop (mkF m 56 #[rv a0, .val (.long q1), .second, iv (sm % (15:Int32)), iv (0:Int32)] [])) _
      refine XS.iload X18.here hx rfl (hb hby d3_56) rfl ?_
      exact k
    have F21 := ((P2.other W13 (Or.inl nq_a0_tt)).other W18 (Or.inr (slot_ne (Or.inr (own_h hw 11 rfl)) (Or.inl (own_h hw 18 rfl)) (by decide) (t := (.array .long)) (t' := .int) (by decide) (by decide))))
    have F22 := (Vw13.other W18 (Ne.symm nq_a0_tt))
    exact own_end X18 (BodyLoose.notSynchronized Bd) (fun h => by rw [Bd.returns] at h; cases h) (v := some (.int (0:Int32))) (fun fs hr => retN X18 hx (t := .boolean) Bd.returns (by simp) (hb hby d3_58) hr) (by show Q3 Z a0 q1 sm tt xs h0 n0 _ T18.heap _; rw [e18]; exact ⟨(by simp only [own_idle, if_pos hs14_1]), N18, Kp18, (by first | exact Fw18 | (simp only [if_pos hs14_1]; exact Fw18)), (by first | exact F21 | (simp only [if_pos hs14_1]; exact F21)), (by first | exact F22 | (simp only [if_pos hs14_1]; exact F22))⟩) (by decide) (by decide)
  · refine own_pre (A := T11.setTop (mkF m 19 #[rv a0, .val (.long q1), .second, iv (sm % (15:Int32)), .unset] [(.ref a0), (.long q1)])) (fun t k => ?_) ?_
    · show Steps p.tables e below (T11.setTop (mkF m 14 #[rv a0, .val (.long q1), .second, iv (sm % (15:Int32)), .unset] [(.int (15:Int32)), (.int sm)])) _
      refine XS.icmpNo X11.here hx rfl (hb hby d3_14) rfl (XT.ii_lt_f hs14_1) ?_
      show Steps p.tables e below (T11.setTop (mkF m 17 #[rv a0, .val (.long q1), .second, iv (sm % (15:Int32)), .unset] [])) _
      refine XS.lloadN X11.here hx rfl (hb hby d3_17) rfl ?_
      show Steps p.tables e below (T11.setTop (mkF m 18 #[rv a0, .val (.long q1), .second, iv (sm % (15:Int32)), .unset] [(.long q1)])) _
      refine XS.aloadN X11.here hx rfl (hb hby d3_18) rfl rfl ?_
      exact k
    obtain ⟨T23, X23, e23, st23⟩ := getF X11 hx hZ hown (host := "") (Or.inl (own_h hw 10 rfl)) Via.refl e11 P2 (g := (mkF m 19 #[rv a0, .val (.long q1), .second, iv (sm % (15:Int32)), .unset] [(.ref a0), (.long q1)])) rfl rfl (hb hby d3_19)
    refine own_pre st23 ?_
    have hbn24 : own_In (sm % (15:Int32)) xs.length := hin
    refine own_pre (A := T23.setTop (mkF m 29 #[rv a0, .val (.long q1), .second, iv (sm % (15:Int32)), .unset] [(.int (XT.cmpL (q1 - (own_atJ xs (sm % (15:Int32)))) (100:Int64)))])) (fun t k => ?_) ?_
    · show Steps p.tables e below (T23.setTop (mkF m 22 #[rv a0, .val (.long q1), .second, iv (sm % (15:Int32)), .unset] [(.ref tt), (.long q1)])) _
      refine XS.iloadN X23.here hx rfl (hb hby d3_22) rfl ?_
      show Steps p.tables e below (T23.setTop (mkF m 23 #[rv a0, .val (.long q1), .second, iv (sm % (15:Int32)), .unset] [(.int (sm % (15:Int32))), (.ref tt), (.long q1)])) _
      refine own_laload X23 hx hZ e23 P3 hbn24 rfl rfl (hb hby d3_23) ?_
      show Steps p.tables e below (T23.setTop (mkF m 24 #[rv a0, .val (.long q1), .second, iv (sm % (15:Int32)), .unset] [(.long (own_atJ xs (sm % (15:Int32)))), (.long q1)])) _
      refine XS.lsub X23.here hx rfl (hb hby d3_24) rfl ?_
      show Steps p.tables e below (T23.setTop (mkF m 25 #[rv a0, .val (.long q1), .second, iv (sm % (15:Int32)), .unset] [(.long (q1 - (own_atJ xs (sm % (15:Int32)))))])) _
      refine Jvm.Stand.ldc2J X23 hx hown (mvT hZ (own_h hw 32 rfl)) rfl (hb hby d3_25) ?_
      show Steps p.tables e below (T23.setTop (mkF m 28 #[rv a0, .val (.long q1), .second, iv (sm % (15:Int32)), .unset] [(.long (100:Int64)), (.long (q1 - (own_atJ xs (sm % (15:Int32)))))])) _
      refine XT.lcmp X23.here hx rfl (hb hby d3_28) rfl ?_
      exact k
    by_cases hs29_2 : (q1 - (own_atJ xs (sm % (15:Int32)))) < (100:Int64)
    · refine own_pre (A := T23.setTop (mkF m 40 #[rv a0, .val (.long q1), .second, iv (sm % (15:Int32)), iv (1:Int32)] [(.ref a0)])) (fun t k => ?_) ?_
      · show Steps p.tables e below (T23.setTop (mkF m 29 #[rv a0, .val (.long q1), .second, iv (sm % (15:Int32)), .unset] [(.int (XT.cmpL (q1 - (own_atJ xs (sm % (15:Int32)))) (100:Int64)))])) _
        refine XS.ifNo X23.here hx rfl (hb hby d3_29) rfl (XT.ll_ge_f hs29_2) ?_
        show Steps p.tables e below (T23.setTop (mkF m 32 #[rv a0, .val (.long q1), .second, iv (sm % (15:Int32)), .unset] [])) _
        refine XS.iconst X23.here hx rfl (hb hby d3_32) ?_
        show Steps p.tables e below (T23.setTop (mkF m 33 #[rv a0, .val (.long q1), .second, iv (sm % (15:Int32)), .unset] [(.int (1:Int32))])) _
        refine XS.goto X23.here hx rfl (pc0 := 33) (pc' := 37) rfl (hb hby d3_33) (by decide) (by decide) ?_
        show Steps p.tables e below (T23.setTop (mkF m 37 #[rv a0, .val (.long q1), .second, iv (sm % (15:Int32)), .unset] [(.int (1:Int32))])) _
        refine XS.istore X23.here hx rfl (hb hby d3_37) rfl (l' := #[rv a0, .val (.long q1), .second, iv (sm % (15:Int32)), iv (1:Int32)]) rfl ?_
        show Steps p.tables e below (T23.setTop (mkF m 39 #[rv a0, .val (.long q1), .second, iv (sm % (15:Int32)), iv (1:Int32)] [])) _
        refine XS.aloadN X23.here hx rfl (hb hby d3_39) rfl rfl ?_
        exact k
      obtain ⟨T25, X25, e25, st25⟩ := getF X23 hx hZ hown (host := "") (Or.inl (own_h hw 10 rfl)) Via.refl e23 P2 (g := (mkF m 40 #[rv a0, .val (.long q1), .second, iv (sm % (15:Int32)), iv (1:Int32)] [(.ref a0)])) rfl rfl (hb hby d3_40)
      refine own_pre st25 ?_
      refine own_pre (A := T25.setTop (mkF m 45 #[rv a0, .val (.long q1), .second, iv (sm % (15:Int32)), iv (1:Int32)] [(.long q1), (.int (sm % (15:Int32))), (.ref tt)])) (fun t k => ?_) ?_
      · show Steps p.tables e below (T25.setTop (mkF m 43 #[rv a0, .val (.long q1), .second, iv (sm % (15:Int32)), iv (1:Int32)] [(.ref tt)])) _
        refine XS.iloadN X25.here hx rfl (hb hby d3_43) rfl ?_
        show Steps p.tables e below (T25.setTop (mkF m 44 #[rv a0, .val (.long q1), .second, iv (sm % (15:Int32)), iv (1:Int32)] [(.int (sm % (15:Int32))), (.ref tt)])) _
        refine XS.lloadN X25.here hx rfl (hb hby d3_44) rfl ?_
        exact k
      have hbn27 : own_In (sm % (15:Int32)) xs.length := hin
      obtain ⟨T26, h26, X26, e26, W26, V26, st26⟩ := own_lastore X25 hx hZ e25 P3 (j := (sm % (15:Int32))) (x := q1) hbn27 (g := (mkF m 45 #[rv a0, .val (.long q1), .second, iv (sm % (15:Int32)), iv (1:Int32)] [(.long q1), (.int (sm % (15:Int32))), (.ref tt)])) rfl rfl (hb hby d3_45)
      have Kp26 : Keep h0 h26 [a0, tt] := Kp0.wr W26 (Or.inl (List.mem_of_getElem? (i := 1) rfl))
      have Z28 : n0 ≤ h26.size := Nat.le_trans Z0 (Nat.le_of_eq W26.size.symm)
      have N26 := Fr.snoc X26 N0 gq_tt
      have Vw26 : own_Longs Z h26 tt (xs.set (sm % (15:Int32)).toNatClampNeg q1) := V26
      refine own_pre st26 ?_
      refine own_pre (A := T26.setTop (mkF m 48 #[rv a0, .val (.long q1), .second, iv (sm % (15:Int32)), iv (1:Int32)] [(.ref a0), (.ref a0)])) (fun t k => ?_) ?_
      · show Steps p.tables e below (T26.setTop (mkF m 46 #[rv a0, .val (.long q1), .second, iv (sm % (15:Int32)), iv (1:Int32)] [])) _
        refine XS.aloadN X26.here hx rfl (hb hby d3_46) rfl rfl ?_
        show Steps p.tables e below (T26.setTop (mkF m 47 #[rv a0, .val (.long q1), .second, iv (sm % (15:Int32)), iv (1:Int32)] [(.ref a0)])) _
        refine XS.dup X26.here hx rfl (hb hby d3_47) rfl rfl ?_
        exact k
      have F30 := (P1.other W26 (Or.inl nq_a0_tt))
      obtain ⟨T29, X29, e29, st29⟩ := getF X26 hx hZ hown (host := "") (Or.inl (own_h hw 17 rfl)) Via.refl e26 F30 (g := (mkF m 48 #[rv a0, .val (.long q1), .second, iv (sm % (15:Int32)), iv (1:Int32)] [(.ref a0), (.ref a0)])) rfl rfl (hb hby d3_48)
      refine own_pre st29 ?_
      refine own_pre (A := T29.setTop (mkF m 53 #[rv a0, .val (.long q1), .second, iv (sm % (15:Int32)), iv (1:Int32)] [(.int (sm + (1:Int32))), (.ref a0)])) (fun t k => ?_) ?_
      · show Steps p.tables e below (T29.setTop (mkF m 51 #[rv a0, .val (.long q1), .second, iv (sm % (15:Int32)), iv (1:Int32)] [(.int sm), (.ref a0)])) _
        refine XS.iconst X29.here hx rfl (hb hby d3_51) ?_
        show Steps p.tables e below (T29.setTop (mkF m 52 #[rv a0, .val (.long q1), .second, iv (sm % (15:Int32)), iv (1:Int32)] [(.int (1:Int32)), (.int sm), (.ref a0)])) _
        refine XS.iadd X29.here hx rfl (hb hby d3_52) rfl ?_
        exact k
      have F32 := (P0.wr W26)
      obtain ⟨T31, h31, X31, e31, W31, st31⟩ := putF X29 hx hZ hown (host := "") (Or.inl (own_h hw 17 rfl)) Via.refl e29 F30 F32 (Or.inl (own_h hw 18 rfl)) (own_h hw 1 rfl) (ty := .int) (by decide) rfl rfl (g := (mkF m 53 #[rv a0, .val (.long q1), .second, iv (sm % (15:Int32)), iv (1:Int32)] [(.int (sm + (1:Int32))), (.ref a0)])) rfl rfl (hb hby d3_53)
      have Kp31 : Keep h0 h31 [a0, tt] := Kp26.wr W31 (Or.inl (List.mem_of_getElem? (i := 0) rfl))
      have Z33 : n0 ≤ h31.size := Nat.le_trans Z28 (Nat.le_of_eq W31.size.symm)
      have N31 := Fr.snoc X31 N26 gq_a0
      have Fw31 := F30.same W31
      refine own_pre st31 ?_
      refine own_pre (A := T31.setTop (mkF m 58 #[rv a0, .val (.long q1), .second, iv (sm % (15:Int32)), iv (1:Int32)] [(.int (1:Int32))])) (fun t k => ?_) ?_
      · show Steps p.tables e below (T31.setTop (mkF m 56 #[rv a0, .val (.long q1), .second, iv (sm % (15:Int32)), iv (1:Int32)] [])) _
        refine XS.iload X31.here hx rfl (hb hby d3_56) rfl ?_
        exact k
      have F34 := ((P2.other W26 (Or.inl nq_a0_tt)).other W31 (Or.inr (slot_ne (Or.inr (own_h hw 11 rfl)) (Or.inl (own_h hw 18 rfl)) (by decide) (t := (.array .long)) (t' := .int) (by decide) (by decide))))
      have F35 := (Vw26.other W31 (Ne.symm nq_a0_tt))
      exact own_end X31 (BodyLoose.notSynchronized Bd) (fun h => by rw [Bd.returns] at h; cases h) (v := some (.int (1:Int32))) (fun fs hr => retN X31 hx (t := .boolean) Bd.returns (by simp) (hb hby d3_58) hr) (by show Q3 Z a0 q1 sm tt xs h0 n0 _ T31.heap _; rw [e31]; exact ⟨(by simp only [own_idle, if_neg hs14_1, if_pos hs29_2]), N31, Kp31, (by first | exact Fw31 | (simp only [if_neg hs14_1, if_pos hs29_2]; exact Fw31)), (by first | exact F34 | (simp only [if_neg hs14_1, if_pos hs29_2]; exact F34)), (by first | exact F35 | (simp only [if_neg hs14_1, if_pos hs29_2]; exact F35))⟩) (by decide) (by decide)
    · refine own_pre (A := T23.setTop (mkF m 40 #[rv a0, .val (.long q1), .second, iv (sm % (15:Int32)), iv (0:Int32)] [(.ref a0)])) (fun t k => ?_) ?_
      · show Steps p.tables e below (T23.setTop (mkF m 29 #[rv a0, .val (.long q1), .second, iv (sm % (15:Int32)), .unset] [(.int (XT.cmpL (q1 - (own_atJ xs (sm % (15:Int32)))) (100:Int64)))])) _
        refine XS.ifYes X23.here hx rfl (pc0 := 29) (pc' := 36) rfl (hb hby d3_29) rfl (XT.ll_ge_t hs29_2) (by decide) (by decide) ?_
        show Steps p.tables e below (T23.setTop (mkF m 36 #[rv a0, .val (.long q1), .second, iv (sm % (15:Int32)), .unset] [])) _
        refine XS.iconst X23.here hx rfl (hb hby d3_36) ?_
        show Steps p.tables e below (T23.setTop (mkF m 37 #[rv a0, .val (.long q1), .second, iv (sm % (15:Int32)), .unset] [(.int (0:Int32))])) _
        refine XS.istore X23.here hx rfl (hb hby d3_37) rfl (l' := #[rv a0, .val (.long q1), .second, iv (sm % (15:Int32)), iv (0:Int32)]) rfl ?_
        show Steps p.tables e below (T23.setTop (mkF m 39 #[rv a0, .val (.long q1), .second, iv (sm % (15:Int32)), iv (0:Int32)] [])) _
        refine XS.aloadN X23.here hx rfl (hb hby d3_39) rfl rfl ?_
        exact k
      obtain ⟨T36, X36, e36, st36⟩ := getF X23 hx hZ hown (host := "") (Or.inl (own_h hw 10 rfl)) Via.refl e23 P2 (g := (mkF m 40 #[rv a0, .val (.long q1), .second, iv (sm % (15:Int32)), iv (0:Int32)] [(.ref a0)])) rfl rfl (hb hby d3_40)
      refine own_pre st36 ?_
      refine own_pre (A := T36.setTop (mkF m 45 #[rv a0, .val (.long q1), .second, iv (sm % (15:Int32)), iv (0:Int32)] [(.long q1), (.int (sm % (15:Int32))), (.ref tt)])) (fun t k => ?_) ?_
      · show Steps p.tables e below (T36.setTop (mkF m 43 #[rv a0, .val (.long q1), .second, iv (sm % (15:Int32)), iv (0:Int32)] [(.ref tt)])) _
        refine XS.iloadN X36.here hx rfl (hb hby d3_43) rfl ?_
        show Steps p.tables e below (T36.setTop (mkF m 44 #[rv a0, .val (.long q1), .second, iv (sm % (15:Int32)), iv (0:Int32)] [(.int (sm % (15:Int32))), (.ref tt)])) _
        refine XS.lloadN X36.here hx rfl (hb hby d3_44) rfl ?_
        exact k
      have hbn38 : own_In (sm % (15:Int32)) xs.length := hin
      obtain ⟨T37, h37, X37, e37, W37, V37, st37⟩ := own_lastore X36 hx hZ e36 P3 (j := (sm % (15:Int32))) (x := q1) hbn38 (g := (mkF m 45 #[rv a0, .val (.long q1), .second, iv (sm % (15:Int32)), iv (0:Int32)] [(.long q1), (.int (sm % (15:Int32))), (.ref tt)])) rfl rfl (hb hby d3_45)
      have Kp37 : Keep h0 h37 [a0, tt] := Kp0.wr W37 (Or.inl (List.mem_of_getElem? (i := 1) rfl))
      have Z39 : n0 ≤ h37.size := Nat.le_trans Z0 (Nat.le_of_eq W37.size.symm)
      have N37 := Fr.snoc X37 N0 gq_tt
      have Vw37 : own_Longs Z h37 tt (xs.set (sm % (15:Int32)).toNatClampNeg q1) := V37
      refine own_pre st37 ?_
      refine own_pre (A := T37.setTop (mkF m 48 #[rv a0, .val (.long q1), .second, iv (sm % (15:Int32)), iv (0:Int32)] [(.ref a0), (.ref a0)])) (fun t k => ?_) ?_
      · show Steps p.tables e below (T37.setTop (mkF m 46 #[rv a0, .val (.long q1), .second, iv (sm % (15:Int32)), iv (0:Int32)] [])) _
        refine XS.aloadN X37.here hx rfl (hb hby d3_46) rfl rfl ?_
        show Steps p.tables e below (T37.setTop (mkF m 47 #[rv a0, .val (.long q1), .second, iv (sm % (15:Int32)), iv (0:Int32)] [(.ref a0)])) _
        refine XS.dup X37.here hx rfl (hb hby d3_47) rfl rfl ?_
        exact k
      have F41 := (P1.other W37 (Or.inl nq_a0_tt))
      obtain ⟨T40, X40, e40, st40⟩ := getF X37 hx hZ hown (host := "") (Or.inl (own_h hw 17 rfl)) Via.refl e37 F41 (g := (mkF m 48 #[rv a0, .val (.long q1), .second, iv (sm % (15:Int32)), iv (0:Int32)] [(.ref a0), (.ref a0)])) rfl rfl (hb hby d3_48)
      refine own_pre st40 ?_
      refine own_pre (A := T40.setTop (mkF m 53 #[rv a0, .val (.long q1), .second, iv (sm % (15:Int32)), iv (0:Int32)] [(.int (sm + (1:Int32))), (.ref a0)])) (fun t k => ?_) ?_
      · show Steps p.tables e below (T40.setTop (mkF m 51 #[rv a0, .val (.long q1), .second, iv (sm % (15:Int32)), iv (0:Int32)] [(.int sm), (.ref a0)])) _
        refine XS.iconst X40.here hx rfl (hb hby d3_51) ?_
        show Steps p.tables e below (T40.setTop (mkF m 52 #[rv a0, .val (.long q1), .second, iv (sm % (15:Int32)), iv (0:Int32)] [(.int (1:Int32)), (.int sm), (.ref a0)])) _
        refine XS.iadd X40.here hx rfl (hb hby d3_52) rfl ?_
        exact k
      have F43 := (P0.wr W37)
      obtain ⟨T42, h42, X42, e42, W42, st42⟩ := putF X40 hx hZ hown (host := "") (Or.inl (own_h hw 17 rfl)) Via.refl e40 F41 F43 (Or.inl (own_h hw 18 rfl)) (own_h hw 1 rfl) (ty := .int) (by decide) rfl rfl (g := (mkF m 53 #[rv a0, .val (.long q1), .second, iv (sm % (15:Int32)), iv (0:Int32)] [(.int (sm + (1:Int32))), (.ref a0)])) rfl rfl (hb hby d3_53)
      have Kp42 : Keep h0 h42 [a0, tt] := Kp37.wr W42 (Or.inl (List.mem_of_getElem? (i := 0) rfl))
      have Z44 : n0 ≤ h42.size := Nat.le_trans Z39 (Nat.le_of_eq W42.size.symm)
      have N42 := Fr.snoc X42 N37 gq_a0
      have Fw42 := F41.same W42
      refine own_pre st42 ?_
      refine own_pre (A := T42.setTop (mkF m 58 #[rv a0, .val (.long q1), .second, iv (sm % (15:Int32)), iv (0:Int32)] [(.int (0:Int32))])) (fun t k => ?_) ?_
      · show Steps p.tables e below (T42.setTop (mkF m 56 #[rv a0, .val (.long q1), .second, iv (sm % (15:Int32)), iv (0:Int32)] [])) _
        refine XS.iload X42.here hx rfl (hb hby d3_56) rfl ?_
        exact k
      have F45 := ((P2.other W37 (Or.inl nq_a0_tt)).other W42 (Or.inr (slot_ne (Or.inr (own_h hw 11 rfl)) (Or.inl (own_h hw 18 rfl)) (by decide) (t := (.array .long)) (t' := .int) (by decide) (by decide))))
      have F46 := (Vw37.other W42 (Ne.symm nq_a0_tt))
      exact own_end X42 (BodyLoose.notSynchronized Bd) (fun h => by rw [Bd.returns] at h; cases h) (v := some (.int (0:Int32))) (fun fs hr => retN X42 hx (t := .boolean) Bd.returns (by simp) (hb hby d3_58) hr) (by show Q3 Z a0 q1 sm tt xs h0 n0 _ T42.heap _; rw [e42]; exact ⟨(by simp only [own_idle, if_neg hs14_1, if_neg hs29_2]), N42, Kp42, (by first | exact Fw42 | (simp only [if_neg hs14_1, if_neg hs29_2]; exact Fw42)), (by first | exact F45 | (simp only [if_neg hs14_1, if_neg hs29_2]; exact F45)), (by first | exact F46 | (simp only [if_neg hs14_1, if_neg hs29_2]; exact F46))⟩) (by decide) (by decide)
theorem own_pn1 : plainName "com/example/fanout4/fanout4/xslt/CompilerWatchIsIdleWithPinLaw" = true := by first | (simp [plainName, overriddenIn]; done) | decide +kernel
theorem own_pd0 : parseMethodDescriptor "()V" = some ⟨[], none⟩ := by decide +kernel
theorem own_pd1 : parseMethodDescriptor "(J)Z" = some ⟨[.long], some .boolean⟩ := by decide +kernel
theorem ef0 (m : MethodId) (q0 : Int64) (q1 : Int64) (q2 : Int64) (q3 : Int64) : entryFrame m #[(.long q0), (.long q1), (.long q2), (.long q3)] maxLocals = mkF m 0 #[.val (.long q0), .second, .val (.long q1), .second, .val (.long q2), .second, .val (.long q3), .second, .unset, .unset, .unset, .unset] [] := by first | (simp [entryFrame, mkF, argsToLocals, Value.category, maxLocals]; done) | rfl
def f0 (q0 : Int64) (q1 : Int64) (q2 : Int64) (q3 : Int64) : Int32 := (let w0_1 : Int32 := ((0:Int32) ||| (own_idle q0 (0:Int32) [(0:Int64), (0:Int64), (0:Int64), (0:Int64), (0:Int64), (0:Int64), (0:Int64), (0:Int64), (0:Int64), (0:Int64), (0:Int64), (0:Int64), (0:Int64), (0:Int64), (0:Int64)])); let w0_2 : Int32 := (w0_1 ||| (own_idle (q0 + q1) (1:Int32) [q0, (0:Int64), (0:Int64), (0:Int64), (0:Int64), (0:Int64), (0:Int64), (0:Int64), (0:Int64), (0:Int64), (0:Int64), (0:Int64), (0:Int64), (0:Int64), (0:Int64)])); let w0_3 : Int32 := (w0_2 ||| (own_idle (q0 + ((2:Int64) * q1)) (2:Int32) [q0, (q0 + q1), (0:Int64), (0:Int64), (0:Int64), (0:Int64), (0:Int64), (0:Int64), (0:Int64), (0:Int64), (0:Int64), (0:Int64), (0:Int64), (0:Int64), (0:Int64)])); let w0_4 : Int32 := (w0_3 ||| (own_idle (q0 + ((3:Int64) * q1)) (3:Int32) [q0, (q0 + q1), (q0 + ((2:Int64) * q1)), (0:Int64), (0:Int64), (0:Int64), (0:Int64), (0:Int64), (0:Int64), (0:Int64), (0:Int64), (0:Int64), (0:Int64), (0:Int64), (0:Int64)])); let w0_5 : Int32 := (w0_4 ||| (own_idle (q0 + ((4:Int64) * q1)) (4:Int32) [q0, (q0 + q1), (q0 + ((2:Int64) * q1)), (q0 + ((3:Int64) * q1)), (0:Int64), (0:Int64), (0:Int64), (0:Int64), (0:Int64), (0:Int64), (0:Int64), (0:Int64), (0:Int64), (0:Int64), (0:Int64)])); let w0_6 : Int32 := (w0_5 ||| (own_idle (q0 + ((5:Int64) * q1)) (5:Int32) [q0, (q0 + q1), (q0 + ((2:Int64) * q1)), (q0 + ((3:Int64) * q1)), (q0 + ((4:Int64) * q1)), (0:Int64), (0:Int64), (0:Int64), (0:Int64), (0:Int64), (0:Int64), (0:Int64), (0:Int64), (0:Int64), (0:Int64)])); let w0_7 : Int32 := (w0_6 ||| (own_idle (q0 + ((6:Int64) * q1)) (6:Int32) [q0, (q0 + q1), (q0 + ((2:Int64) * q1)), (q0 + ((3:Int64) * q1)), (q0 + ((4:Int64) * q1)), (q0 + ((5:Int64) * q1)), (0:Int64), (0:Int64), (0:Int64), (0:Int64), (0:Int64), (0:Int64), (0:Int64), (0:Int64), (0:Int64)])); let w0_8 : Int32 := (w0_7 ||| (own_idle (q0 + ((7:Int64) * q1)) (7:Int32) [q0, (q0 + q1), (q0 + ((2:Int64) * q1)), (q0 + ((3:Int64) * q1)), (q0 + ((4:Int64) * q1)), (q0 + ((5:Int64) * q1)), (q0 + ((6:Int64) * q1)), (0:Int64), (0:Int64), (0:Int64), (0:Int64), (0:Int64), (0:Int64), (0:Int64), (0:Int64)])); let w0_9 : Int32 := (w0_8 ||| (own_idle (q0 + ((8:Int64) * q1)) (8:Int32) [q0, (q0 + q1), (q0 + ((2:Int64) * q1)), (q0 + ((3:Int64) * q1)), (q0 + ((4:Int64) * q1)), (q0 + ((5:Int64) * q1)), (q0 + ((6:Int64) * q1)), (q0 + ((7:Int64) * q1)), (0:Int64), (0:Int64), (0:Int64), (0:Int64), (0:Int64), (0:Int64), (0:Int64)])); let w0_10 : Int32 := (w0_9 ||| (own_idle (q0 + ((9:Int64) * q1)) (9:Int32) [q0, (q0 + q1), (q0 + ((2:Int64) * q1)), (q0 + ((3:Int64) * q1)), (q0 + ((4:Int64) * q1)), (q0 + ((5:Int64) * q1)), (q0 + ((6:Int64) * q1)), (q0 + ((7:Int64) * q1)), (q0 + ((8:Int64) * q1)), (0:Int64), (0:Int64), (0:Int64), (0:Int64), (0:Int64), (0:Int64)])); let w0_11 : Int32 := (w0_10 ||| (own_idle (q0 + ((10:Int64) * q1)) (10:Int32) [q0, (q0 + q1), (q0 + ((2:Int64) * q1)), (q0 + ((3:Int64) * q1)), (q0 + ((4:Int64) * q1)), (q0 + ((5:Int64) * q1)), (q0 + ((6:Int64) * q1)), (q0 + ((7:Int64) * q1)), (q0 + ((8:Int64) * q1)), (q0 + ((9:Int64) * q1)), (0:Int64), (0:Int64), (0:Int64), (0:Int64), (0:Int64)])); let w0_12 : Int32 := (w0_11 ||| (own_idle (q0 + ((11:Int64) * q1)) (11:Int32) [q0, (q0 + q1), (q0 + ((2:Int64) * q1)), (q0 + ((3:Int64) * q1)), (q0 + ((4:Int64) * q1)), (q0 + ((5:Int64) * q1)), (q0 + ((6:Int64) * q1)), (q0 + ((7:Int64) * q1)), (q0 + ((8:Int64) * q1)), (q0 + ((9:Int64) * q1)), (q0 + ((10:Int64) * q1)), (0:Int64), (0:Int64), (0:Int64), (0:Int64)])); let w0_13 : Int32 := (w0_12 ||| (own_idle (q0 + ((12:Int64) * q1)) (12:Int32) [q0, (q0 + q1), (q0 + ((2:Int64) * q1)), (q0 + ((3:Int64) * q1)), (q0 + ((4:Int64) * q1)), (q0 + ((5:Int64) * q1)), (q0 + ((6:Int64) * q1)), (q0 + ((7:Int64) * q1)), (q0 + ((8:Int64) * q1)), (q0 + ((9:Int64) * q1)), (q0 + ((10:Int64) * q1)), (q0 + ((11:Int64) * q1)), (0:Int64), (0:Int64), (0:Int64)])); let w0_14 : Int32 := (w0_13 ||| (own_idle (q0 + ((13:Int64) * q1)) (13:Int32) [q0, (q0 + q1), (q0 + ((2:Int64) * q1)), (q0 + ((3:Int64) * q1)), (q0 + ((4:Int64) * q1)), (q0 + ((5:Int64) * q1)), (q0 + ((6:Int64) * q1)), (q0 + ((7:Int64) * q1)), (q0 + ((8:Int64) * q1)), (q0 + ((9:Int64) * q1)), (q0 + ((10:Int64) * q1)), (q0 + ((11:Int64) * q1)), (q0 + ((12:Int64) * q1)), (0:Int64), (0:Int64)])); let w0_15 : Int32 := (w0_14 ||| (own_idle (q0 + ((14:Int64) * q1)) (14:Int32) [q0, (q0 + q1), (q0 + ((2:Int64) * q1)), (q0 + ((3:Int64) * q1)), (q0 + ((4:Int64) * q1)), (q0 + ((5:Int64) * q1)), (q0 + ((6:Int64) * q1)), (q0 + ((7:Int64) * q1)), (q0 + ((8:Int64) * q1)), (q0 + ((9:Int64) * q1)), (q0 + ((10:Int64) * q1)), (q0 + ((11:Int64) * q1)), (q0 + ((12:Int64) * q1)), (q0 + ((13:Int64) * q1)), (0:Int64)])); let w0_16 : Int32 := (own_idle (q0 + q2) (15:Int32) [q0, (q0 + q1), (q0 + ((2:Int64) * q1)), (q0 + ((3:Int64) * q1)), (q0 + ((4:Int64) * q1)), (q0 + ((5:Int64) * q1)), (q0 + ((6:Int64) * q1)), (q0 + ((7:Int64) * q1)), (q0 + ((8:Int64) * q1)), (q0 + ((9:Int64) * q1)), (q0 + ((10:Int64) * q1)), (q0 + ((11:Int64) * q1)), (q0 + ((12:Int64) * q1)), (q0 + ((13:Int64) * q1)), (q0 + ((14:Int64) * q1))]); let w0_17 : Int32 := (own_idle ((q0 + q1) + q3) (16:Int32) [(q0 + q2), (q0 + q1), (q0 + ((2:Int64) * q1)), (q0 + ((3:Int64) * q1)), (q0 + ((4:Int64) * q1)), (q0 + ((5:Int64) * q1)), (q0 + ((6:Int64) * q1)), (q0 + ((7:Int64) * q1)), (q0 + ((8:Int64) * q1)), (q0 + ((9:Int64) * q1)), (q0 + ((10:Int64) * q1)), (q0 + ((11:Int64) * q1)), (q0 + ((12:Int64) * q1)), (q0 + ((13:Int64) * q1)), (q0 + ((14:Int64) * q1))]); let w0_18 : Int32 := (if w0_15 = (0:Int32) then (if q2 < (100:Int64) then (if w0_16 = (1:Int32) then (if q3 < (100:Int64) then (if w0_17 = (1:Int32) then (1:Int32) else (0:Int32)) else (if w0_17 = (0:Int32) then (1:Int32) else (0:Int32))) else (0:Int32)) else (if w0_16 = (0:Int32) then (if q3 < (100:Int64) then (if w0_17 = (1:Int32) then (1:Int32) else (0:Int32)) else (if w0_17 = (0:Int32) then (1:Int32) else (0:Int32))) else (0:Int32))) else (0:Int32)); (w0_18 &&& 1))
def Q0 (Z : State) (q0 : Int64) (q1 : Int64) (q2 : Int64) (q3 : Int64)  (h0 : Heap) (n0 : Nat) (v : Option Value) (h : Heap) (L : List Loc) : Prop := v = some (.int (f0 q0 q1 q2 q3)) ∧ Fr n0 L
set_option maxRecDepth 65536 in
set_option maxHeartbeats 40000000 in
theorem rm0 (l : Launch) (Z : State) (aZ : Array Value) (hw : ∀ d ∈ tables_1, d.before aZ Z = true) (ws : List Jvm.Cond) (q0 : Int64) (q1 : Int64) (q2 : Int64) (q3 : Int64)  (h0 : Heap) (n0 : Nat) (Z0 : n0 ≤ h0.size)  :
    MetFree l x (head1 (Jvm.Cond.code x code maxLocals ret :: ws) room_1) (fun a U => a = #[(.long q0), (.long q1), (.long q2), (.long q3)] ∧ Z.Warmed39 U.vm ∧ U.heap = h0) (fun _ _ _ _ _ => True) (fun _ U o U' => ∃ v L, o = .returned v ∧ Q0 Z q0 q1 q2 q3 h0 n0 v U'.heap L ∧ FrameEnd U o U' L 2 17) := by
  refine MetFree.of_bodySF (plainFor_of_name own_pn1) hisR ?_
  intro p e s m args below meth c s₁ Bd hml0 hP hK
  obtain ⟨rfl, hZ, hh⟩ := hP
  have hx := Bd.exec
  have hby := Bd.bytes
  have hml : c.maxLocals = 12 := hml0
  have hown : s.vm.findClass "com/example/fanout4/fanout4/xslt/CompilerWatchIsIdleWithPinLaw" = some m.cls := findClass_of_methodNamed Bd.named
  have hnm := (name_of_methodNamed Bd.named Bd.method).1
  have X0 : Stand p l e room_1 s m #[(.long q0), (.long q1), (.long q2), (.long q3)] below meth c s₁ [] 0 0 := Stand.of_body Bd
  have e0 : s₁.heap = h0 := by rw [← hh, Bd.state]; rfl
  have N0 := Fr.nil n0
  show own_Goes p e below s (Q0 Z q0 q1 q2 q3 h0 n0) 2 17 _
  refine own_pre (fun t k => castTop (ef0 m q0 q1 q2 q3) k) ?_
  obtain ⟨T47, h47, X47, e47, E47, A47, D47, -, st47⟩ := newO X0 hx hZ hown (own_h hw 0 rfl) (own_h hw 1 rfl) (own_h hw 2 rfl) e0 (g := (mkF m 0 #[.val (.long q0), .second, .val (.long q1), .second, .val (.long q2), .second, .val (.long q3), .second, .unset, .unset, .unset, .unset] [])) rfl (hb hby at_0) (by decide) (by decide)
  obtain ⟨b47, g47⟩ : ∃ z, z = h0.size := ⟨_, rfl⟩
  rw [← g47] at A47 D47 st47
  have ge_b47 : n0 ≤ b47 := Nat.le_trans Z0 (Nat.le_of_eq g47.symm)
  have Z48 : n0 ≤ h47.size := Nat.le_trans Z0 E47.1
  have F47_totals : Fld Z h47 b47 "com/example/fanout4/fanout4/xslt/CompilerWatch" "totals" "[J" .null := D47 (Or.inr (own_h hw 11 rfl)) (ty := (.array .long)) (by decide)
  have F47_samples : Fld Z h47 b47 "com/example/fanout4/fanout4/xslt/CompilerWatch" "samples" "I" (.int (0:Int32)) := D47 (Or.inl (own_h hw 18 rfl)) (ty := .int) (by decide)
  refine own_pre st47 ?_
  refine own_pre (A := T47.setTop (mkF m 4 #[.val (.long q0), .second, .val (.long q1), .second, .val (.long q2), .second, .val (.long q3), .second, .unset, .unset, .unset, .unset] [(.ref b47), (.ref b47)])) (fun t k => ?_) ?_
  · show Steps p.tables e below (T47.setTop (mkF m 3 #[.val (.long q0), .second, .val (.long q1), .second, .val (.long q2), .second, .val (.long q3), .second, .unset, .unset, .unset, .unset] [(.ref b47)])) _
    refine XS.dup X47.here hx rfl (hb hby at_3) rfl rfl ?_
    exact k
  obtain ⟨_, _, ⟨T49, L49, k49, n49⟩, -, X49, ⟨Lc49, hQ49, l49, y49, z49⟩, st49⟩ := X47.specialBack hx (y := (⟨"com/example/fanout4/fanout4/xslt/CompilerWatch", "<init>", "()V"⟩ : MethodName)) rfl hown (mvT hZ (own_h hw 3 rfl)) (mvT hZ (own_h hw 4 rfl)) (mvT hZ (own_h hw 5 rfl)) (by decide) (backOf (W := 1) (rm1 l Z aZ hw [] b47 h47 n0 Z48 A47 F47_samples F47_totals ge_b47) hZ (own_h hw 5 rfl) (own_h hw 2 rfl) (by decide) (by decide)) (g := (mkF m 4 #[.val (.long q0), .second, .val (.long q1), .second, .val (.long q2), .second, .val (.long q3), .second, .unset, .unset, .unset, .unset] [(.ref b47), (.ref b47)])) rfl (by rw [hml]; rfl) (Steps.refl _) (a := b47) (argsL := []) (rest := [(.ref b47)]) (lenOf own_pd0 rfl) rfl (by show 2 * 0 + _ ≤ _; exact Nat.le_of_eq rfl) (hb hby at_4) (fun _ _ => ⟨rfl, e47, (by decide : 1 + 1 ≤ _), (by decide : 2 + 15 ≤ _)⟩)
  dsimp only [Pt.U, Pt.locs, Pt.cells, Pt.slots] at X49 l49 y49 z49 st49 hQ49
  subst l49 y49 z49
  obtain ⟨rfl, N49q, K49, tt_50, sz51, G52, G53, G54⟩ := hQ49
  have N49 := Fr.app N0 N49q
  have Z55 : n0 ≤ T49.heap.size := Nat.le_trans Z48 K49.1
  have ne56 : b47 ≠ tt_50 := Nat.ne_of_lt (Nat.lt_of_lt_of_le A47.lt sz51)
  have ge57 : n0 ≤ tt_50 := Nat.le_trans Z48 sz51
  refine own_pre (fun _ k => st49.trans k) ?_
  refine own_pre (A := T49.setTop (mkF m 17 #[.val (.long q0), .second, .val (.long q1), .second, .val (.long q2), .second, .val (.long q3), .second, rv b47, iv (0:Int32), .unset, .unset] [(.long q0), (.ref b47), (.int (0:Int32))])) (fun t k => ?_) ?_
  · show Steps p.tables e below (T49.setTop (mkF m 7 #[.val (.long q0), .second, .val (.long q1), .second, .val (.long q2), .second, .val (.long q3), .second, .unset, .unset, .unset, .unset] [(.ref b47)])) _
    refine XS.astore X49.here hx rfl (hb hby at_7) rfl rfl (l' := #[.val (.long q0), .second, .val (.long q1), .second, .val (.long q2), .second, .val (.long q3), .second, rv b47, .unset, .unset, .unset]) rfl ?_
    show Steps p.tables e below (T49.setTop (mkF m 9 #[.val (.long q0), .second, .val (.long q1), .second, .val (.long q2), .second, .val (.long q3), .second, rv b47, .unset, .unset, .unset] [])) _
    refine XS.iconst X49.here hx rfl (hb hby at_9) ?_
    show Steps p.tables e below (T49.setTop (mkF m 10 #[.val (.long q0), .second, .val (.long q1), .second, .val (.long q2), .second, .val (.long q3), .second, rv b47, .unset, .unset, .unset] [(.int (0:Int32))])) _
    refine XS.istore X49.here hx rfl (hb hby at_10) rfl (l' := #[.val (.long q0), .second, .val (.long q1), .second, .val (.long q2), .second, .val (.long q3), .second, rv b47, iv (0:Int32), .unset, .unset]) rfl ?_
    show Steps p.tables e below (T49.setTop (mkF m 12 #[.val (.long q0), .second, .val (.long q1), .second, .val (.long q2), .second, .val (.long q3), .second, rv b47, iv (0:Int32), .unset, .unset] [])) _
    refine XS.iload X49.here hx rfl (hb hby at_12) rfl ?_
    show Steps p.tables e below (T49.setTop (mkF m 14 #[.val (.long q0), .second, .val (.long q1), .second, .val (.long q2), .second, .val (.long q3), .second, rv b47, iv (0:Int32), .unset, .unset] [(.int (0:Int32))])) _
    refine XS.aload X49.here hx rfl (hb hby at_14) rfl rfl ?_
    show Steps p.tables e below (T49.setTop (mkF m 16 #[.val (.long q0), .second, .val (.long q1), .second, .val (.long q2), .second, .val (.long q3), .second, rv b47, iv (0:Int32), .unset, .unset] [(.ref b47), (.int (0:Int32))])) _
    refine XS.lloadN X49.here hx rfl (hb hby at_16) rfl ?_
    exact k
  have F59 := (A47.keep K49)
  obtain ⟨cq58, kq58, q58a, q58b, q58c⟩ := isOf hZ rfl F59
  obtain ⟨_, _, ⟨T58, L58, k58, n58⟩, -, X58, ⟨Lc58, hQ58, l58, y58, z58⟩, st58⟩ := X49.virtualBack hx (y := (⟨"com/example/fanout4/fanout4/xslt/CompilerWatch", "isIdleWith", "(J)Z"⟩ : MethodName)) (z := (⟨"com/example/fanout4/fanout4/xslt/CompilerWatch", "isIdleWith", "(J)Z"⟩ : MethodName)) hown (mvT hZ (own_h hw 12 rfl)) (mvT hZ (own_h hw 13 rfl)) (notFace_of_selects (args := #[]) (mvT hZ (own_h hw 15 rfl))) (mvT hZ (own_h hw 15 rfl)) (mvT hZ (own_h hw 14 rfl)) (by decide) (backOf (W := 1) (rm3 l Z aZ hw [] b47 q0 (0:Int32) tt_50 [(0:Int64), (0:Int64), (0:Int64), (0:Int64), (0:Int64), (0:Int64), (0:Int64), (0:Int64), (0:Int64), (0:Int64), (0:Int64), (0:Int64), (0:Int64), (0:Int64), (0:Int64)] T49.heap n0 Z55 F59 G52 G53 G54 ne56 ge_b47 ge57 (own_lit rfl)) hZ (own_h hw 16 rfl) (own_h hw 2 rfl) (by decide) (by decide)) q58a q58c (g := (mkF m 17 #[.val (.long q0), .second, .val (.long q1), .second, .val (.long q2), .second, .val (.long q3), .second, rv b47, iv (0:Int32), .unset, .unset] [(.long q0), (.ref b47), (.int (0:Int32))])) rfl (by rw [hml]; rfl) (Steps.refl _) (argsL := [(.long q0)]) (rest := [(.int (0:Int32))]) (lenOf own_pd1 rfl) rfl (by show 2 * 0 + _ ≤ _; exact Nat.le_of_eq rfl) (hb hby at_17) (fun _ _ => ⟨rfl, rfl, (by decide : 2 + 0 ≤ _), (by decide : 17 + 0 ≤ _)⟩)
  dsimp only [Pt.U, Pt.locs, Pt.cells, Pt.slots] at X58 l58 y58 z58 st58 hQ58
  subst l58 y58 z58
  obtain ⟨rfl, N58q, K58, G60, G61, G62⟩ := hQ58
  have N58 := Fr.app N49 N58q
  have Z63 : n0 ≤ T58.heap.size := Nat.le_trans Z55 K58.1
  have G64 : Fld Z T58.heap b47 "com/example/fanout4/fanout4/xslt/CompilerWatch" "samples" "I" (.int (1:Int32)) := G60
  have G65 : own_Longs Z T58.heap tt_50 [q0, (0:Int64), (0:Int64), (0:Int64), (0:Int64), (0:Int64), (0:Int64), (0:Int64), (0:Int64), (0:Int64), (0:Int64), (0:Int64), (0:Int64), (0:Int64), (0:Int64)] := G62
  refine own_pre (fun _ k => st58.trans k) ?_
  obtain ⟨w0_1, hw0_1⟩ : ∃ z : Int32, z = ((0:Int32) ||| (own_idle q0 (0:Int32) [(0:Int64), (0:Int64), (0:Int64), (0:Int64), (0:Int64), (0:Int64), (0:Int64), (0:Int64), (0:Int64), (0:Int64), (0:Int64), (0:Int64), (0:Int64), (0:Int64), (0:Int64)])) := ⟨_, rfl⟩
  refine own_pre (A := T58.setTop (mkF m 30 #[.val (.long q0), .second, .val (.long q1), .second, .val (.long q2), .second, .val (.long q3), .second, rv b47, iv w0_1, .unset, .unset] [(.long (q0 + q1)), (.ref b47), (.int w0_1)])) (fun t k => ?_) ?_
  · show Steps p.tables e below (T58.setTop (mkF m 20 #[.val (.long q0), .second, .val (.long q1), .second, .val (.long q2), .second, .val (.long q3), .second, rv b47, iv (0:Int32), .unset, .unset] [(.int (own_idle q0 (0:Int32) [(0:Int64), (0:Int64), (0:Int64), (0:Int64), (0:Int64), (0:Int64), (0:Int64), (0:Int64), (0:Int64), (0:Int64), (0:Int64), (0:Int64), (0:Int64), (0:Int64), (0:Int64)])), (.int (0:Int32))])) _
    refine XS.ior X58.here hx rfl (hb hby at_20) rfl ?_
    show Steps p.tables e below (T58.setTop (mkF m 21 #[.val (.long q0), .second, .val (.long q1), .second, .val (.long q2), .second, .val (.long q3), .second, rv b47, iv (0:Int32), .unset, .unset] [(.int ((0:Int32) ||| (own_idle q0 (0:Int32) [(0:Int64), (0:Int64), (0:Int64), (0:Int64), (0:Int64), (0:Int64), (0:Int64), (0:Int64), (0:Int64), (0:Int64), (0:Int64), (0:Int64), (0:Int64), (0:Int64), (0:Int64)])))])) _
    refine XS.istore X58.here hx rfl (hb hby at_21) rfl (l' := #[.val (.long q0), .second, .val (.long q1), .second, .val (.long q2), .second, .val (.long q3), .second, rv b47, iv w0_1, .unset, .unset]) (by rw [hw0_1]; rfl) ?_
    show Steps p.tables e below (T58.setTop (mkF m 23 #[.val (.long q0), .second, .val (.long q1), .second, .val (.long q2), .second, .val (.long q3), .second, rv b47, iv w0_1, .unset, .unset] [])) _
    refine XS.iload X58.here hx rfl (hb hby at_23) rfl ?_
    show Steps p.tables e below (T58.setTop (mkF m 25 #[.val (.long q0), .second, .val (.long q1), .second, .val (.long q2), .second, .val (.long q3), .second, rv b47, iv w0_1, .unset, .unset] [(.int w0_1)])) _
    refine XS.aload X58.here hx rfl (hb hby at_25) rfl rfl ?_
    show Steps p.tables e below (T58.setTop (mkF m 27 #[.val (.long q0), .second, .val (.long q1), .second, .val (.long q2), .second, .val (.long q3), .second, rv b47, iv w0_1, .unset, .unset] [(.ref b47), (.int w0_1)])) _
    refine XS.lloadN X58.here hx rfl (hb hby at_27) rfl ?_
    show Steps p.tables e below (T58.setTop (mkF m 28 #[.val (.long q0), .second, .val (.long q1), .second, .val (.long q2), .second, .val (.long q3), .second, rv b47, iv w0_1, .unset, .unset] [(.long q0), (.ref b47), (.int w0_1)])) _
    refine XS.lloadN X58.here hx rfl (hb hby at_28) rfl ?_
    show Steps p.tables e below (T58.setTop (mkF m 29 #[.val (.long q0), .second, .val (.long q1), .second, .val (.long q2), .second, .val (.long q3), .second, rv b47, iv w0_1, .unset, .unset] [(.long q1), (.long q0), (.ref b47), (.int w0_1)])) _
    refine XS.ladd X58.here hx rfl (hb hby at_29) rfl ?_
    exact k
  have F67 := (F59.keep K58)
  obtain ⟨cq66, kq66, q66a, q66b, q66c⟩ := isOf hZ rfl F67
  obtain ⟨_, _, ⟨T66, L66, k66, n66⟩, -, X66, ⟨Lc66, hQ66, l66, y66, z66⟩, st66⟩ := X58.virtualBack hx (y := (⟨"com/example/fanout4/fanout4/xslt/CompilerWatch", "isIdleWith", "(J)Z"⟩ : MethodName)) (z := (⟨"com/example/fanout4/fanout4/xslt/CompilerWatch", "isIdleWith", "(J)Z"⟩ : MethodName)) hown (mvT hZ (own_h hw 12 rfl)) (mvT hZ (own_h hw 13 rfl)) (notFace_of_selects (args := #[]) (mvT hZ (own_h hw 15 rfl))) (mvT hZ (own_h hw 15 rfl)) (mvT hZ (own_h hw 14 rfl)) (by decide) (backOf (W := 1) (rm3 l Z aZ hw [] b47 (q0 + q1) (1:Int32) tt_50 [q0, (0:Int64), (0:Int64), (0:Int64), (0:Int64), (0:Int64), (0:Int64), (0:Int64), (0:Int64), (0:Int64), (0:Int64), (0:Int64), (0:Int64), (0:Int64), (0:Int64)] T58.heap n0 Z63 F67 G64 G61 G65 ne56 ge_b47 ge57 (own_lit rfl)) hZ (own_h hw 16 rfl) (own_h hw 2 rfl) (by decide) (by decide)) q66a q66c (g := (mkF m 30 #[.val (.long q0), .second, .val (.long q1), .second, .val (.long q2), .second, .val (.long q3), .second, rv b47, iv w0_1, .unset, .unset] [(.long (q0 + q1)), (.ref b47), (.int w0_1)])) rfl (by rw [hml]; rfl) (Steps.refl _) (argsL := [(.long (q0 + q1))]) (rest := [(.int w0_1)]) (lenOf own_pd1 rfl) rfl (by show 2 * 0 + _ ≤ _; exact Nat.le_of_eq rfl) (hb hby at_30) (fun _ _ => ⟨rfl, rfl, (by decide : 2 + 0 ≤ _), (by decide : 17 + 0 ≤ _)⟩)
  dsimp only [Pt.U, Pt.locs, Pt.cells, Pt.slots] at X66 l66 y66 z66 st66 hQ66
  subst l66 y66 z66
  obtain ⟨rfl, N66q, K66, G68, G69, G70⟩ := hQ66
  have N66 := Fr.app N58 N66q
  have Z71 : n0 ≤ T66.heap.size := Nat.le_trans Z63 K66.1
  have G72 : Fld Z T66.heap b47 "com/example/fanout4/fanout4/xslt/CompilerWatch" "samples" "I" (.int (2:Int32)) := G68
  have G73 : own_Longs Z T66.heap tt_50 [q0, (q0 + q1), (0:Int64), (0:Int64), (0:Int64), (0:Int64), (0:Int64), (0:Int64), (0:Int64), (0:Int64), (0:Int64), (0:Int64), (0:Int64), (0:Int64), (0:Int64)] := G70
  refine own_pre (fun _ k => st66.trans k) ?_
  obtain ⟨w0_2, hw0_2⟩ : ∃ z : Int32, z = (w0_1 ||| (own_idle (q0 + q1) (1:Int32) [q0, (0:Int64), (0:Int64), (0:Int64), (0:Int64), (0:Int64), (0:Int64), (0:Int64), (0:Int64), (0:Int64), (0:Int64), (0:Int64), (0:Int64), (0:Int64), (0:Int64)])) := ⟨_, rfl⟩
  refine own_pre (A := T66.setTop (mkF m 47 #[.val (.long q0), .second, .val (.long q1), .second, .val (.long q2), .second, .val (.long q3), .second, rv b47, iv w0_2, .unset, .unset] [(.long (q0 + ((2:Int64) * q1))), (.ref b47), (.int w0_2)])) (fun t k => ?_) ?_
  · show Steps p.tables e below (T66.setTop (mkF m 33 #[.val (.long q0), .second, .val (.long q1), .second, .val (.long q2), .second, .val (.long q3), .second, rv b47, iv w0_1, .unset, .unset] [(.int (own_idle (q0 + q1) (1:Int32) [q0, (0:Int64), (0:Int64), (0:Int64), (0:Int64), (0:Int64), (0:Int64), (0:Int64), (0:Int64), (0:Int64), (0:Int64), (0:Int64), (0:Int64), (0:Int64), (0:Int64)])), (.int w0_1)])) _
    refine XS.ior X66.here hx rfl (hb hby at_33) rfl ?_
    show Steps p.tables e below (T66.setTop (mkF m 34 #[.val (.long q0), .second, .val (.long q1), .second, .val (.long q2), .second, .val (.long q3), .second, rv b47, iv w0_1, .unset, .unset] [(.int (w0_1 ||| (own_idle (q0 + q1) (1:Int32) [q0, (0:Int64), (0:Int64), (0:Int64), (0:Int64), (0:Int64), (0:Int64), (0:Int64), (0:Int64), (0:Int64), (0:Int64), (0:Int64), (0:Int64), (0:Int64), (0:Int64)])))])) _
    refine XS.istore X66.here hx rfl (hb hby at_34) rfl (l' := #[.val (.long q0), .second, .val (.long q1), .second, .val (.long q2), .second, .val (.long q3), .second, rv b47, iv w0_2, .unset, .unset]) (by rw [hw0_2]; rfl) ?_
    show Steps p.tables e below (T66.setTop (mkF m 36 #[.val (.long q0), .second, .val (.long q1), .second, .val (.long q2), .second, .val (.long q3), .second, rv b47, iv w0_2, .unset, .unset] [])) _
    refine XS.iload X66.here hx rfl (hb hby at_36) rfl ?_
    show Steps p.tables e below (T66.setTop (mkF m 38 #[.val (.long q0), .second, .val (.long q1), .second, .val (.long q2), .second, .val (.long q3), .second, rv b47, iv w0_2, .unset, .unset] [(.int w0_2)])) _
    refine XS.aload X66.here hx rfl (hb hby at_38) rfl rfl ?_
    show Steps p.tables e below (T66.setTop (mkF m 40 #[.val (.long q0), .second, .val (.long q1), .second, .val (.long q2), .second, .val (.long q3), .second, rv b47, iv w0_2, .unset, .unset] [(.ref b47), (.int w0_2)])) _
    refine XS.lloadN X66.here hx rfl (hb hby at_40) rfl ?_
    show Steps p.tables e below (T66.setTop (mkF m 41 #[.val (.long q0), .second, .val (.long q1), .second, .val (.long q2), .second, .val (.long q3), .second, rv b47, iv w0_2, .unset, .unset] [(.long q0), (.ref b47), (.int w0_2)])) _
    refine Jvm.Stand.ldc2J X66 hx hown (mvT hZ (own_h hw 19 rfl)) rfl (hb hby at_41) ?_
    show Steps p.tables e below (T66.setTop (mkF m 44 #[.val (.long q0), .second, .val (.long q1), .second, .val (.long q2), .second, .val (.long q3), .second, rv b47, iv w0_2, .unset, .unset] [(.long (2:Int64)), (.long q0), (.ref b47), (.int w0_2)])) _
    refine XS.lloadN X66.here hx rfl (hb hby at_44) rfl ?_
    show Steps p.tables e below (T66.setTop (mkF m 45 #[.val (.long q0), .second, .val (.long q1), .second, .val (.long q2), .second, .val (.long q3), .second, rv b47, iv w0_2, .unset, .unset] [(.long q1), (.long (2:Int64)), (.long q0), (.ref b47), (.int w0_2)])) _
    refine XS.lmul X66.here hx rfl (hb hby at_45) rfl ?_
    show Steps p.tables e below (T66.setTop (mkF m 46 #[.val (.long q0), .second, .val (.long q1), .second, .val (.long q2), .second, .val (.long q3), .second, rv b47, iv w0_2, .unset, .unset] [(.long ((2:Int64) * q1)), (.long q0), (.ref b47), (.int w0_2)])) _
    refine XS.ladd X66.here hx rfl (hb hby at_46) rfl ?_
    exact k
  have F75 := (F67.keep K66)
  obtain ⟨cq74, kq74, q74a, q74b, q74c⟩ := isOf hZ rfl F75
  obtain ⟨_, _, ⟨T74, L74, k74, n74⟩, -, X74, ⟨Lc74, hQ74, l74, y74, z74⟩, st74⟩ := X66.virtualBack hx (y := (⟨"com/example/fanout4/fanout4/xslt/CompilerWatch", "isIdleWith", "(J)Z"⟩ : MethodName)) (z := (⟨"com/example/fanout4/fanout4/xslt/CompilerWatch", "isIdleWith", "(J)Z"⟩ : MethodName)) hown (mvT hZ (own_h hw 12 rfl)) (mvT hZ (own_h hw 13 rfl)) (notFace_of_selects (args := #[]) (mvT hZ (own_h hw 15 rfl))) (mvT hZ (own_h hw 15 rfl)) (mvT hZ (own_h hw 14 rfl)) (by decide) (backOf (W := 1) (rm3 l Z aZ hw [] b47 (q0 + ((2:Int64) * q1)) (2:Int32) tt_50 [q0, (q0 + q1), (0:Int64), (0:Int64), (0:Int64), (0:Int64), (0:Int64), (0:Int64), (0:Int64), (0:Int64), (0:Int64), (0:Int64), (0:Int64), (0:Int64), (0:Int64)] T66.heap n0 Z71 F75 G72 G69 G73 ne56 ge_b47 ge57 (own_lit rfl)) hZ (own_h hw 16 rfl) (own_h hw 2 rfl) (by decide) (by decide)) q74a q74c (g := (mkF m 47 #[.val (.long q0), .second, .val (.long q1), .second, .val (.long q2), .second, .val (.long q3), .second, rv b47, iv w0_2, .unset, .unset] [(.long (q0 + ((2:Int64) * q1))), (.ref b47), (.int w0_2)])) rfl (by rw [hml]; rfl) (Steps.refl _) (argsL := [(.long (q0 + ((2:Int64) * q1)))]) (rest := [(.int w0_2)]) (lenOf own_pd1 rfl) rfl (by show 2 * 0 + _ ≤ _; exact Nat.le_of_eq rfl) (hb hby at_47) (fun _ _ => ⟨rfl, rfl, (by decide : 2 + 0 ≤ _), (by decide : 17 + 0 ≤ _)⟩)
  dsimp only [Pt.U, Pt.locs, Pt.cells, Pt.slots] at X74 l74 y74 z74 st74 hQ74
  subst l74 y74 z74
  obtain ⟨rfl, N74q, K74, G76, G77, G78⟩ := hQ74
  have N74 := Fr.app N66 N74q
  have Z79 : n0 ≤ T74.heap.size := Nat.le_trans Z71 K74.1
  have G80 : Fld Z T74.heap b47 "com/example/fanout4/fanout4/xslt/CompilerWatch" "samples" "I" (.int (3:Int32)) := G76
  have G81 : own_Longs Z T74.heap tt_50 [q0, (q0 + q1), (q0 + ((2:Int64) * q1)), (0:Int64), (0:Int64), (0:Int64), (0:Int64), (0:Int64), (0:Int64), (0:Int64), (0:Int64), (0:Int64), (0:Int64), (0:Int64), (0:Int64)] := G78
  refine own_pre (fun _ k => st74.trans k) ?_
  obtain ⟨w0_3, hw0_3⟩ : ∃ z : Int32, z = (w0_2 ||| (own_idle (q0 + ((2:Int64) * q1)) (2:Int32) [q0, (q0 + q1), (0:Int64), (0:Int64), (0:Int64), (0:Int64), (0:Int64), (0:Int64), (0:Int64), (0:Int64), (0:Int64), (0:Int64), (0:Int64), (0:Int64), (0:Int64)])) := ⟨_, rfl⟩
  refine own_pre (A := T74.setTop (mkF m 64 #[.val (.long q0), .second, .val (.long q1), .second, .val (.long q2), .second, .val (.long q3), .second, rv b47, iv w0_3, .unset, .unset] [(.long (q0 + ((3:Int64) * q1))), (.ref b47), (.int w0_3)])) (fun t k => ?_) ?_
  · show Steps p.tables e below (T74.setTop (mkF m 50 #[.val (.long q0), .second, .val (.long q1), .second, .val (.long q2), .second, .val (.long q3), .second, rv b47, iv w0_2, .unset, .unset] [(.int (own_idle (q0 + ((2:Int64) * q1)) (2:Int32) [q0, (q0 + q1), (0:Int64), (0:Int64), (0:Int64), (0:Int64), (0:Int64), (0:Int64), (0:Int64), (0:Int64), (0:Int64), (0:Int64), (0:Int64), (0:Int64), (0:Int64)])), (.int w0_2)])) _
    refine XS.ior X74.here hx rfl (hb hby at_50) rfl ?_
    show Steps p.tables e below (T74.setTop (mkF m 51 #[.val (.long q0), .second, .val (.long q1), .second, .val (.long q2), .second, .val (.long q3), .second, rv b47, iv w0_2, .unset, .unset] [(.int (w0_2 ||| (own_idle (q0 + ((2:Int64) * q1)) (2:Int32) [q0, (q0 + q1), (0:Int64), (0:Int64), (0:Int64), (0:Int64), (0:Int64), (0:Int64), (0:Int64), (0:Int64), (0:Int64), (0:Int64), (0:Int64), (0:Int64), (0:Int64)])))])) _
    refine XS.istore X74.here hx rfl (hb hby at_51) rfl (l' := #[.val (.long q0), .second, .val (.long q1), .second, .val (.long q2), .second, .val (.long q3), .second, rv b47, iv w0_3, .unset, .unset]) (by rw [hw0_3]; rfl) ?_
    show Steps p.tables e below (T74.setTop (mkF m 53 #[.val (.long q0), .second, .val (.long q1), .second, .val (.long q2), .second, .val (.long q3), .second, rv b47, iv w0_3, .unset, .unset] [])) _
    refine XS.iload X74.here hx rfl (hb hby at_53) rfl ?_
    show Steps p.tables e below (T74.setTop (mkF m 55 #[.val (.long q0), .second, .val (.long q1), .second, .val (.long q2), .second, .val (.long q3), .second, rv b47, iv w0_3, .unset, .unset] [(.int w0_3)])) _
    refine XS.aload X74.here hx rfl (hb hby at_55) rfl rfl ?_
    show Steps p.tables e below (T74.setTop (mkF m 57 #[.val (.long q0), .second, .val (.long q1), .second, .val (.long q2), .second, .val (.long q3), .second, rv b47, iv w0_3, .unset, .unset] [(.ref b47), (.int w0_3)])) _
    refine XS.lloadN X74.here hx rfl (hb hby at_57) rfl ?_
    show Steps p.tables e below (T74.setTop (mkF m 58 #[.val (.long q0), .second, .val (.long q1), .second, .val (.long q2), .second, .val (.long q3), .second, rv b47, iv w0_3, .unset, .unset] [(.long q0), (.ref b47), (.int w0_3)])) _
    refine Jvm.Stand.ldc2J X74 hx hown (mvT hZ (own_h hw 20 rfl)) rfl (hb hby at_58) ?_
    show Steps p.tables e below (T74.setTop (mkF m 61 #[.val (.long q0), .second, .val (.long q1), .second, .val (.long q2), .second, .val (.long q3), .second, rv b47, iv w0_3, .unset, .unset] [(.long (3:Int64)), (.long q0), (.ref b47), (.int w0_3)])) _
    refine XS.lloadN X74.here hx rfl (hb hby at_61) rfl ?_
    show Steps p.tables e below (T74.setTop (mkF m 62 #[.val (.long q0), .second, .val (.long q1), .second, .val (.long q2), .second, .val (.long q3), .second, rv b47, iv w0_3, .unset, .unset] [(.long q1), (.long (3:Int64)), (.long q0), (.ref b47), (.int w0_3)])) _
    refine XS.lmul X74.here hx rfl (hb hby at_62) rfl ?_
    show Steps p.tables e below (T74.setTop (mkF m 63 #[.val (.long q0), .second, .val (.long q1), .second, .val (.long q2), .second, .val (.long q3), .second, rv b47, iv w0_3, .unset, .unset] [(.long ((3:Int64) * q1)), (.long q0), (.ref b47), (.int w0_3)])) _
    refine XS.ladd X74.here hx rfl (hb hby at_63) rfl ?_
    exact k
  have F83 := (F75.keep K74)
  obtain ⟨cq82, kq82, q82a, q82b, q82c⟩ := isOf hZ rfl F83
  obtain ⟨_, _, ⟨T82, L82, k82, n82⟩, -, X82, ⟨Lc82, hQ82, l82, y82, z82⟩, st82⟩ := X74.virtualBack hx (y := (⟨"com/example/fanout4/fanout4/xslt/CompilerWatch", "isIdleWith", "(J)Z"⟩ : MethodName)) (z := (⟨"com/example/fanout4/fanout4/xslt/CompilerWatch", "isIdleWith", "(J)Z"⟩ : MethodName)) hown (mvT hZ (own_h hw 12 rfl)) (mvT hZ (own_h hw 13 rfl)) (notFace_of_selects (args := #[]) (mvT hZ (own_h hw 15 rfl))) (mvT hZ (own_h hw 15 rfl)) (mvT hZ (own_h hw 14 rfl)) (by decide) (backOf (W := 1) (rm3 l Z aZ hw [] b47 (q0 + ((3:Int64) * q1)) (3:Int32) tt_50 [q0, (q0 + q1), (q0 + ((2:Int64) * q1)), (0:Int64), (0:Int64), (0:Int64), (0:Int64), (0:Int64), (0:Int64), (0:Int64), (0:Int64), (0:Int64), (0:Int64), (0:Int64), (0:Int64)] T74.heap n0 Z79 F83 G80 G77 G81 ne56 ge_b47 ge57 (own_lit rfl)) hZ (own_h hw 16 rfl) (own_h hw 2 rfl) (by decide) (by decide)) q82a q82c (g := (mkF m 64 #[.val (.long q0), .second, .val (.long q1), .second, .val (.long q2), .second, .val (.long q3), .second, rv b47, iv w0_3, .unset, .unset] [(.long (q0 + ((3:Int64) * q1))), (.ref b47), (.int w0_3)])) rfl (by rw [hml]; rfl) (Steps.refl _) (argsL := [(.long (q0 + ((3:Int64) * q1)))]) (rest := [(.int w0_3)]) (lenOf own_pd1 rfl) rfl (by show 2 * 0 + _ ≤ _; exact Nat.le_of_eq rfl) (hb hby at_64) (fun _ _ => ⟨rfl, rfl, (by decide : 2 + 0 ≤ _), (by decide : 17 + 0 ≤ _)⟩)
  dsimp only [Pt.U, Pt.locs, Pt.cells, Pt.slots] at X82 l82 y82 z82 st82 hQ82
  subst l82 y82 z82
  obtain ⟨rfl, N82q, K82, G84, G85, G86⟩ := hQ82
  have N82 := Fr.app N74 N82q
  have Z87 : n0 ≤ T82.heap.size := Nat.le_trans Z79 K82.1
  have G88 : Fld Z T82.heap b47 "com/example/fanout4/fanout4/xslt/CompilerWatch" "samples" "I" (.int (4:Int32)) := G84
  have G89 : own_Longs Z T82.heap tt_50 [q0, (q0 + q1), (q0 + ((2:Int64) * q1)), (q0 + ((3:Int64) * q1)), (0:Int64), (0:Int64), (0:Int64), (0:Int64), (0:Int64), (0:Int64), (0:Int64), (0:Int64), (0:Int64), (0:Int64), (0:Int64)] := G86
  refine own_pre (fun _ k => st82.trans k) ?_
  obtain ⟨w0_4, hw0_4⟩ : ∃ z : Int32, z = (w0_3 ||| (own_idle (q0 + ((3:Int64) * q1)) (3:Int32) [q0, (q0 + q1), (q0 + ((2:Int64) * q1)), (0:Int64), (0:Int64), (0:Int64), (0:Int64), (0:Int64), (0:Int64), (0:Int64), (0:Int64), (0:Int64), (0:Int64), (0:Int64), (0:Int64)])) := ⟨_, rfl⟩
  refine own_pre (A := T82.setTop (mkF m 81 #[.val (.long q0), .second, .val (.long q1), .second, .val (.long q2), .second, .val (.long q3), .second, rv b47, iv w0_4, .unset, .unset] [(.long (q0 + ((4:Int64) * q1))), (.ref b47), (.int w0_4)])) (fun t k => ?_) ?_
  · show Steps p.tables e below (T82.setTop (mkF m 67 #[.val (.long q0), .second, .val (.long q1), .second, .val (.long q2), .second, .val (.long q3), .second, rv b47, iv w0_3, .unset, .unset] [(.int (own_idle (q0 + ((3:Int64) * q1)) (3:Int32) [q0, (q0 + q1), (q0 + ((2:Int64) * q1)), (0:Int64), (0:Int64), (0:Int64), (0:Int64), (0:Int64), (0:Int64), (0:Int64), (0:Int64), (0:Int64), (0:Int64), (0:Int64), (0:Int64)])), (.int w0_3)])) _
    refine XS.ior X82.here hx rfl (hb hby at_67) rfl ?_
    show Steps p.tables e below (T82.setTop (mkF m 68 #[.val (.long q0), .second, .val (.long q1), .second, .val (.long q2), .second, .val (.long q3), .second, rv b47, iv w0_3, .unset, .unset] [(.int (w0_3 ||| (own_idle (q0 + ((3:Int64) * q1)) (3:Int32) [q0, (q0 + q1), (q0 + ((2:Int64) * q1)), (0:Int64), (0:Int64), (0:Int64), (0:Int64), (0:Int64), (0:Int64), (0:Int64), (0:Int64), (0:Int64), (0:Int64), (0:Int64), (0:Int64)])))])) _
    refine XS.istore X82.here hx rfl (hb hby at_68) rfl (l' := #[.val (.long q0), .second, .val (.long q1), .second, .val (.long q2), .second, .val (.long q3), .second, rv b47, iv w0_4, .unset, .unset]) (by rw [hw0_4]; rfl) ?_
    show Steps p.tables e below (T82.setTop (mkF m 70 #[.val (.long q0), .second, .val (.long q1), .second, .val (.long q2), .second, .val (.long q3), .second, rv b47, iv w0_4, .unset, .unset] [])) _
    refine XS.iload X82.here hx rfl (hb hby at_70) rfl ?_
    show Steps p.tables e below (T82.setTop (mkF m 72 #[.val (.long q0), .second, .val (.long q1), .second, .val (.long q2), .second, .val (.long q3), .second, rv b47, iv w0_4, .unset, .unset] [(.int w0_4)])) _
    refine XS.aload X82.here hx rfl (hb hby at_72) rfl rfl ?_
    show Steps p.tables e below (T82.setTop (mkF m 74 #[.val (.long q0), .second, .val (.long q1), .second, .val (.long q2), .second, .val (.long q3), .second, rv b47, iv w0_4, .unset, .unset] [(.ref b47), (.int w0_4)])) _
    refine XS.lloadN X82.here hx rfl (hb hby at_74) rfl ?_
    show Steps p.tables e below (T82.setTop (mkF m 75 #[.val (.long q0), .second, .val (.long q1), .second, .val (.long q2), .second, .val (.long q3), .second, rv b47, iv w0_4, .unset, .unset] [(.long q0), (.ref b47), (.int w0_4)])) _
    refine Jvm.Stand.ldc2J X82 hx hown (mvT hZ (own_h hw 21 rfl)) rfl (hb hby at_75) ?_
    show Steps p.tables e below (T82.setTop (mkF m 78 #[.val (.long q0), .second, .val (.long q1), .second, .val (.long q2), .second, .val (.long q3), .second, rv b47, iv w0_4, .unset, .unset] [(.long (4:Int64)), (.long q0), (.ref b47), (.int w0_4)])) _
    refine XS.lloadN X82.here hx rfl (hb hby at_78) rfl ?_
    show Steps p.tables e below (T82.setTop (mkF m 79 #[.val (.long q0), .second, .val (.long q1), .second, .val (.long q2), .second, .val (.long q3), .second, rv b47, iv w0_4, .unset, .unset] [(.long q1), (.long (4:Int64)), (.long q0), (.ref b47), (.int w0_4)])) _
    refine XS.lmul X82.here hx rfl (hb hby at_79) rfl ?_
    show Steps p.tables e below (T82.setTop (mkF m 80 #[.val (.long q0), .second, .val (.long q1), .second, .val (.long q2), .second, .val (.long q3), .second, rv b47, iv w0_4, .unset, .unset] [(.long ((4:Int64) * q1)), (.long q0), (.ref b47), (.int w0_4)])) _
    refine XS.ladd X82.here hx rfl (hb hby at_80) rfl ?_
    exact k
  have F91 := (F83.keep K82)
  obtain ⟨cq90, kq90, q90a, q90b, q90c⟩ := isOf hZ rfl F91
  obtain ⟨_, _, ⟨T90, L90, k90, n90⟩, -, X90, ⟨Lc90, hQ90, l90, y90, z90⟩, st90⟩ := X82.virtualBack hx (y := (⟨"com/example/fanout4/fanout4/xslt/CompilerWatch", "isIdleWith", "(J)Z"⟩ : MethodName)) (z := (⟨"com/example/fanout4/fanout4/xslt/CompilerWatch", "isIdleWith", "(J)Z"⟩ : MethodName)) hown (mvT hZ (own_h hw 12 rfl)) (mvT hZ (own_h hw 13 rfl)) (notFace_of_selects (args := #[]) (mvT hZ (own_h hw 15 rfl))) (mvT hZ (own_h hw 15 rfl)) (mvT hZ (own_h hw 14 rfl)) (by decide) (backOf (W := 1) (rm3 l Z aZ hw [] b47 (q0 + ((4:Int64) * q1)) (4:Int32) tt_50 [q0, (q0 + q1), (q0 + ((2:Int64) * q1)), (q0 + ((3:Int64) * q1)), (0:Int64), (0:Int64), (0:Int64), (0:Int64), (0:Int64), (0:Int64), (0:Int64), (0:Int64), (0:Int64), (0:Int64), (0:Int64)] T82.heap n0 Z87 F91 G88 G85 G89 ne56 ge_b47 ge57 (own_lit rfl)) hZ (own_h hw 16 rfl) (own_h hw 2 rfl) (by decide) (by decide)) q90a q90c (g := (mkF m 81 #[.val (.long q0), .second, .val (.long q1), .second, .val (.long q2), .second, .val (.long q3), .second, rv b47, iv w0_4, .unset, .unset] [(.long (q0 + ((4:Int64) * q1))), (.ref b47), (.int w0_4)])) rfl (by rw [hml]; rfl) (Steps.refl _) (argsL := [(.long (q0 + ((4:Int64) * q1)))]) (rest := [(.int w0_4)]) (lenOf own_pd1 rfl) rfl (by show 2 * 0 + _ ≤ _; exact Nat.le_of_eq rfl) (hb hby at_81) (fun _ _ => ⟨rfl, rfl, (by decide : 2 + 0 ≤ _), (by decide : 17 + 0 ≤ _)⟩)
  dsimp only [Pt.U, Pt.locs, Pt.cells, Pt.slots] at X90 l90 y90 z90 st90 hQ90
  subst l90 y90 z90
  obtain ⟨rfl, N90q, K90, G92, G93, G94⟩ := hQ90
  have N90 := Fr.app N82 N90q
  have Z95 : n0 ≤ T90.heap.size := Nat.le_trans Z87 K90.1
  have G96 : Fld Z T90.heap b47 "com/example/fanout4/fanout4/xslt/CompilerWatch" "samples" "I" (.int (5:Int32)) := G92
  have G97 : own_Longs Z T90.heap tt_50 [q0, (q0 + q1), (q0 + ((2:Int64) * q1)), (q0 + ((3:Int64) * q1)), (q0 + ((4:Int64) * q1)), (0:Int64), (0:Int64), (0:Int64), (0:Int64), (0:Int64), (0:Int64), (0:Int64), (0:Int64), (0:Int64), (0:Int64)] := G94
  refine own_pre (fun _ k => st90.trans k) ?_
  obtain ⟨w0_5, hw0_5⟩ : ∃ z : Int32, z = (w0_4 ||| (own_idle (q0 + ((4:Int64) * q1)) (4:Int32) [q0, (q0 + q1), (q0 + ((2:Int64) * q1)), (q0 + ((3:Int64) * q1)), (0:Int64), (0:Int64), (0:Int64), (0:Int64), (0:Int64), (0:Int64), (0:Int64), (0:Int64), (0:Int64), (0:Int64), (0:Int64)])) := ⟨_, rfl⟩
  refine own_pre (A := T90.setTop (mkF m 98 #[.val (.long q0), .second, .val (.long q1), .second, .val (.long q2), .second, .val (.long q3), .second, rv b47, iv w0_5, .unset, .unset] [(.long (q0 + ((5:Int64) * q1))), (.ref b47), (.int w0_5)])) (fun t k => ?_) ?_
  · show Steps p.tables e below (T90.setTop (mkF m 84 #[.val (.long q0), .second, .val (.long q1), .second, .val (.long q2), .second, .val (.long q3), .second, rv b47, iv w0_4, .unset, .unset] [(.int (own_idle (q0 + ((4:Int64) * q1)) (4:Int32) [q0, (q0 + q1), (q0 + ((2:Int64) * q1)), (q0 + ((3:Int64) * q1)), (0:Int64), (0:Int64), (0:Int64), (0:Int64), (0:Int64), (0:Int64), (0:Int64), (0:Int64), (0:Int64), (0:Int64), (0:Int64)])), (.int w0_4)])) _
    refine XS.ior X90.here hx rfl (hb hby at_84) rfl ?_
    show Steps p.tables e below (T90.setTop (mkF m 85 #[.val (.long q0), .second, .val (.long q1), .second, .val (.long q2), .second, .val (.long q3), .second, rv b47, iv w0_4, .unset, .unset] [(.int (w0_4 ||| (own_idle (q0 + ((4:Int64) * q1)) (4:Int32) [q0, (q0 + q1), (q0 + ((2:Int64) * q1)), (q0 + ((3:Int64) * q1)), (0:Int64), (0:Int64), (0:Int64), (0:Int64), (0:Int64), (0:Int64), (0:Int64), (0:Int64), (0:Int64), (0:Int64), (0:Int64)])))])) _
    refine XS.istore X90.here hx rfl (hb hby at_85) rfl (l' := #[.val (.long q0), .second, .val (.long q1), .second, .val (.long q2), .second, .val (.long q3), .second, rv b47, iv w0_5, .unset, .unset]) (by rw [hw0_5]; rfl) ?_
    show Steps p.tables e below (T90.setTop (mkF m 87 #[.val (.long q0), .second, .val (.long q1), .second, .val (.long q2), .second, .val (.long q3), .second, rv b47, iv w0_5, .unset, .unset] [])) _
    refine XS.iload X90.here hx rfl (hb hby at_87) rfl ?_
    show Steps p.tables e below (T90.setTop (mkF m 89 #[.val (.long q0), .second, .val (.long q1), .second, .val (.long q2), .second, .val (.long q3), .second, rv b47, iv w0_5, .unset, .unset] [(.int w0_5)])) _
    refine XS.aload X90.here hx rfl (hb hby at_89) rfl rfl ?_
    show Steps p.tables e below (T90.setTop (mkF m 91 #[.val (.long q0), .second, .val (.long q1), .second, .val (.long q2), .second, .val (.long q3), .second, rv b47, iv w0_5, .unset, .unset] [(.ref b47), (.int w0_5)])) _
    refine XS.lloadN X90.here hx rfl (hb hby at_91) rfl ?_
    show Steps p.tables e below (T90.setTop (mkF m 92 #[.val (.long q0), .second, .val (.long q1), .second, .val (.long q2), .second, .val (.long q3), .second, rv b47, iv w0_5, .unset, .unset] [(.long q0), (.ref b47), (.int w0_5)])) _
    refine Jvm.Stand.ldc2J X90 hx hown (mvT hZ (own_h hw 22 rfl)) rfl (hb hby at_92) ?_
    show Steps p.tables e below (T90.setTop (mkF m 95 #[.val (.long q0), .second, .val (.long q1), .second, .val (.long q2), .second, .val (.long q3), .second, rv b47, iv w0_5, .unset, .unset] [(.long (5:Int64)), (.long q0), (.ref b47), (.int w0_5)])) _
    refine XS.lloadN X90.here hx rfl (hb hby at_95) rfl ?_
    show Steps p.tables e below (T90.setTop (mkF m 96 #[.val (.long q0), .second, .val (.long q1), .second, .val (.long q2), .second, .val (.long q3), .second, rv b47, iv w0_5, .unset, .unset] [(.long q1), (.long (5:Int64)), (.long q0), (.ref b47), (.int w0_5)])) _
    refine XS.lmul X90.here hx rfl (hb hby at_96) rfl ?_
    show Steps p.tables e below (T90.setTop (mkF m 97 #[.val (.long q0), .second, .val (.long q1), .second, .val (.long q2), .second, .val (.long q3), .second, rv b47, iv w0_5, .unset, .unset] [(.long ((5:Int64) * q1)), (.long q0), (.ref b47), (.int w0_5)])) _
    refine XS.ladd X90.here hx rfl (hb hby at_97) rfl ?_
    exact k
  have F99 := (F91.keep K90)
  obtain ⟨cq98, kq98, q98a, q98b, q98c⟩ := isOf hZ rfl F99
  obtain ⟨_, _, ⟨T98, L98, k98, n98⟩, -, X98, ⟨Lc98, hQ98, l98, y98, z98⟩, st98⟩ := X90.virtualBack hx (y := (⟨"com/example/fanout4/fanout4/xslt/CompilerWatch", "isIdleWith", "(J)Z"⟩ : MethodName)) (z := (⟨"com/example/fanout4/fanout4/xslt/CompilerWatch", "isIdleWith", "(J)Z"⟩ : MethodName)) hown (mvT hZ (own_h hw 12 rfl)) (mvT hZ (own_h hw 13 rfl)) (notFace_of_selects (args := #[]) (mvT hZ (own_h hw 15 rfl))) (mvT hZ (own_h hw 15 rfl)) (mvT hZ (own_h hw 14 rfl)) (by decide) (backOf (W := 1) (rm3 l Z aZ hw [] b47 (q0 + ((5:Int64) * q1)) (5:Int32) tt_50 [q0, (q0 + q1), (q0 + ((2:Int64) * q1)), (q0 + ((3:Int64) * q1)), (q0 + ((4:Int64) * q1)), (0:Int64), (0:Int64), (0:Int64), (0:Int64), (0:Int64), (0:Int64), (0:Int64), (0:Int64), (0:Int64), (0:Int64)] T90.heap n0 Z95 F99 G96 G93 G97 ne56 ge_b47 ge57 (own_lit rfl)) hZ (own_h hw 16 rfl) (own_h hw 2 rfl) (by decide) (by decide)) q98a q98c (g := (mkF m 98 #[.val (.long q0), .second, .val (.long q1), .second, .val (.long q2), .second, .val (.long q3), .second, rv b47, iv w0_5, .unset, .unset] [(.long (q0 + ((5:Int64) * q1))), (.ref b47), (.int w0_5)])) rfl (by rw [hml]; rfl) (Steps.refl _) (argsL := [(.long (q0 + ((5:Int64) * q1)))]) (rest := [(.int w0_5)]) (lenOf own_pd1 rfl) rfl (by show 2 * 0 + _ ≤ _; exact Nat.le_of_eq rfl) (hb hby at_98) (fun _ _ => ⟨rfl, rfl, (by decide : 2 + 0 ≤ _), (by decide : 17 + 0 ≤ _)⟩)
  dsimp only [Pt.U, Pt.locs, Pt.cells, Pt.slots] at X98 l98 y98 z98 st98 hQ98
  subst l98 y98 z98
  obtain ⟨rfl, N98q, K98, G100, G101, G102⟩ := hQ98
  have N98 := Fr.app N90 N98q
  have Z103 : n0 ≤ T98.heap.size := Nat.le_trans Z95 K98.1
  have G104 : Fld Z T98.heap b47 "com/example/fanout4/fanout4/xslt/CompilerWatch" "samples" "I" (.int (6:Int32)) := G100
  have G105 : own_Longs Z T98.heap tt_50 [q0, (q0 + q1), (q0 + ((2:Int64) * q1)), (q0 + ((3:Int64) * q1)), (q0 + ((4:Int64) * q1)), (q0 + ((5:Int64) * q1)), (0:Int64), (0:Int64), (0:Int64), (0:Int64), (0:Int64), (0:Int64), (0:Int64), (0:Int64), (0:Int64)] := G102
  refine own_pre (fun _ k => st98.trans k) ?_
  obtain ⟨w0_6, hw0_6⟩ : ∃ z : Int32, z = (w0_5 ||| (own_idle (q0 + ((5:Int64) * q1)) (5:Int32) [q0, (q0 + q1), (q0 + ((2:Int64) * q1)), (q0 + ((3:Int64) * q1)), (q0 + ((4:Int64) * q1)), (0:Int64), (0:Int64), (0:Int64), (0:Int64), (0:Int64), (0:Int64), (0:Int64), (0:Int64), (0:Int64), (0:Int64)])) := ⟨_, rfl⟩
  refine own_pre (A := T98.setTop (mkF m 115 #[.val (.long q0), .second, .val (.long q1), .second, .val (.long q2), .second, .val (.long q3), .second, rv b47, iv w0_6, .unset, .unset] [(.long (q0 + ((6:Int64) * q1))), (.ref b47), (.int w0_6)])) (fun t k => ?_) ?_
  · show Steps p.tables e below (T98.setTop (mkF m 101 #[.val (.long q0), .second, .val (.long q1), .second, .val (.long q2), .second, .val (.long q3), .second, rv b47, iv w0_5, .unset, .unset] [(.int (own_idle (q0 + ((5:Int64) * q1)) (5:Int32) [q0, (q0 + q1), (q0 + ((2:Int64) * q1)), (q0 + ((3:Int64) * q1)), (q0 + ((4:Int64) * q1)), (0:Int64), (0:Int64), (0:Int64), (0:Int64), (0:Int64), (0:Int64), (0:Int64), (0:Int64), (0:Int64), (0:Int64)])), (.int w0_5)])) _
    refine XS.ior X98.here hx rfl (hb hby at_101) rfl ?_
    show Steps p.tables e below (T98.setTop (mkF m 102 #[.val (.long q0), .second, .val (.long q1), .second, .val (.long q2), .second, .val (.long q3), .second, rv b47, iv w0_5, .unset, .unset] [(.int (w0_5 ||| (own_idle (q0 + ((5:Int64) * q1)) (5:Int32) [q0, (q0 + q1), (q0 + ((2:Int64) * q1)), (q0 + ((3:Int64) * q1)), (q0 + ((4:Int64) * q1)), (0:Int64), (0:Int64), (0:Int64), (0:Int64), (0:Int64), (0:Int64), (0:Int64), (0:Int64), (0:Int64), (0:Int64)])))])) _
    refine XS.istore X98.here hx rfl (hb hby at_102) rfl (l' := #[.val (.long q0), .second, .val (.long q1), .second, .val (.long q2), .second, .val (.long q3), .second, rv b47, iv w0_6, .unset, .unset]) (by rw [hw0_6]; rfl) ?_
    show Steps p.tables e below (T98.setTop (mkF m 104 #[.val (.long q0), .second, .val (.long q1), .second, .val (.long q2), .second, .val (.long q3), .second, rv b47, iv w0_6, .unset, .unset] [])) _
    refine XS.iload X98.here hx rfl (hb hby at_104) rfl ?_
    show Steps p.tables e below (T98.setTop (mkF m 106 #[.val (.long q0), .second, .val (.long q1), .second, .val (.long q2), .second, .val (.long q3), .second, rv b47, iv w0_6, .unset, .unset] [(.int w0_6)])) _
    refine XS.aload X98.here hx rfl (hb hby at_106) rfl rfl ?_
    show Steps p.tables e below (T98.setTop (mkF m 108 #[.val (.long q0), .second, .val (.long q1), .second, .val (.long q2), .second, .val (.long q3), .second, rv b47, iv w0_6, .unset, .unset] [(.ref b47), (.int w0_6)])) _
    refine XS.lloadN X98.here hx rfl (hb hby at_108) rfl ?_
    show Steps p.tables e below (T98.setTop (mkF m 109 #[.val (.long q0), .second, .val (.long q1), .second, .val (.long q2), .second, .val (.long q3), .second, rv b47, iv w0_6, .unset, .unset] [(.long q0), (.ref b47), (.int w0_6)])) _
    refine Jvm.Stand.ldc2J X98 hx hown (mvT hZ (own_h hw 23 rfl)) rfl (hb hby at_109) ?_
    show Steps p.tables e below (T98.setTop (mkF m 112 #[.val (.long q0), .second, .val (.long q1), .second, .val (.long q2), .second, .val (.long q3), .second, rv b47, iv w0_6, .unset, .unset] [(.long (6:Int64)), (.long q0), (.ref b47), (.int w0_6)])) _
    refine XS.lloadN X98.here hx rfl (hb hby at_112) rfl ?_
    show Steps p.tables e below (T98.setTop (mkF m 113 #[.val (.long q0), .second, .val (.long q1), .second, .val (.long q2), .second, .val (.long q3), .second, rv b47, iv w0_6, .unset, .unset] [(.long q1), (.long (6:Int64)), (.long q0), (.ref b47), (.int w0_6)])) _
    refine XS.lmul X98.here hx rfl (hb hby at_113) rfl ?_
    show Steps p.tables e below (T98.setTop (mkF m 114 #[.val (.long q0), .second, .val (.long q1), .second, .val (.long q2), .second, .val (.long q3), .second, rv b47, iv w0_6, .unset, .unset] [(.long ((6:Int64) * q1)), (.long q0), (.ref b47), (.int w0_6)])) _
    refine XS.ladd X98.here hx rfl (hb hby at_114) rfl ?_
    exact k
  have F107 := (F99.keep K98)
  obtain ⟨cq106, kq106, q106a, q106b, q106c⟩ := isOf hZ rfl F107
  obtain ⟨_, _, ⟨T106, L106, k106, n106⟩, -, X106, ⟨Lc106, hQ106, l106, y106, z106⟩, st106⟩ := X98.virtualBack hx (y := (⟨"com/example/fanout4/fanout4/xslt/CompilerWatch", "isIdleWith", "(J)Z"⟩ : MethodName)) (z := (⟨"com/example/fanout4/fanout4/xslt/CompilerWatch", "isIdleWith", "(J)Z"⟩ : MethodName)) hown (mvT hZ (own_h hw 12 rfl)) (mvT hZ (own_h hw 13 rfl)) (notFace_of_selects (args := #[]) (mvT hZ (own_h hw 15 rfl))) (mvT hZ (own_h hw 15 rfl)) (mvT hZ (own_h hw 14 rfl)) (by decide) (backOf (W := 1) (rm3 l Z aZ hw [] b47 (q0 + ((6:Int64) * q1)) (6:Int32) tt_50 [q0, (q0 + q1), (q0 + ((2:Int64) * q1)), (q0 + ((3:Int64) * q1)), (q0 + ((4:Int64) * q1)), (q0 + ((5:Int64) * q1)), (0:Int64), (0:Int64), (0:Int64), (0:Int64), (0:Int64), (0:Int64), (0:Int64), (0:Int64), (0:Int64)] T98.heap n0 Z103 F107 G104 G101 G105 ne56 ge_b47 ge57 (own_lit rfl)) hZ (own_h hw 16 rfl) (own_h hw 2 rfl) (by decide) (by decide)) q106a q106c (g := (mkF m 115 #[.val (.long q0), .second, .val (.long q1), .second, .val (.long q2), .second, .val (.long q3), .second, rv b47, iv w0_6, .unset, .unset] [(.long (q0 + ((6:Int64) * q1))), (.ref b47), (.int w0_6)])) rfl (by rw [hml]; rfl) (Steps.refl _) (argsL := [(.long (q0 + ((6:Int64) * q1)))]) (rest := [(.int w0_6)]) (lenOf own_pd1 rfl) rfl (by show 2 * 0 + _ ≤ _; exact Nat.le_of_eq rfl) (hb hby at_115) (fun _ _ => ⟨rfl, rfl, (by decide : 2 + 0 ≤ _), (by decide : 17 + 0 ≤ _)⟩)
  dsimp only [Pt.U, Pt.locs, Pt.cells, Pt.slots] at X106 l106 y106 z106 st106 hQ106
  subst l106 y106 z106
  obtain ⟨rfl, N106q, K106, G108, G109, G110⟩ := hQ106
  have N106 := Fr.app N98 N106q
  have Z111 : n0 ≤ T106.heap.size := Nat.le_trans Z103 K106.1
  have G112 : Fld Z T106.heap b47 "com/example/fanout4/fanout4/xslt/CompilerWatch" "samples" "I" (.int (7:Int32)) := G108
  have G113 : own_Longs Z T106.heap tt_50 [q0, (q0 + q1), (q0 + ((2:Int64) * q1)), (q0 + ((3:Int64) * q1)), (q0 + ((4:Int64) * q1)), (q0 + ((5:Int64) * q1)), (q0 + ((6:Int64) * q1)), (0:Int64), (0:Int64), (0:Int64), (0:Int64), (0:Int64), (0:Int64), (0:Int64), (0:Int64)] := G110
  refine own_pre (fun _ k => st106.trans k) ?_
  obtain ⟨w0_7, hw0_7⟩ : ∃ z : Int32, z = (w0_6 ||| (own_idle (q0 + ((6:Int64) * q1)) (6:Int32) [q0, (q0 + q1), (q0 + ((2:Int64) * q1)), (q0 + ((3:Int64) * q1)), (q0 + ((4:Int64) * q1)), (q0 + ((5:Int64) * q1)), (0:Int64), (0:Int64), (0:Int64), (0:Int64), (0:Int64), (0:Int64), (0:Int64), (0:Int64), (0:Int64)])) := ⟨_, rfl⟩
  refine own_pre (A := T106.setTop (mkF m 132 #[.val (.long q0), .second, .val (.long q1), .second, .val (.long q2), .second, .val (.long q3), .second, rv b47, iv w0_7, .unset, .unset] [(.long (q0 + ((7:Int64) * q1))), (.ref b47), (.int w0_7)])) (fun t k => ?_) ?_
  · show Steps p.tables e below (T106.setTop (mkF m 118 #[.val (.long q0), .second, .val (.long q1), .second, .val (.long q2), .second, .val (.long q3), .second, rv b47, iv w0_6, .unset, .unset] [(.int (own_idle (q0 + ((6:Int64) * q1)) (6:Int32) [q0, (q0 + q1), (q0 + ((2:Int64) * q1)), (q0 + ((3:Int64) * q1)), (q0 + ((4:Int64) * q1)), (q0 + ((5:Int64) * q1)), (0:Int64), (0:Int64), (0:Int64), (0:Int64), (0:Int64), (0:Int64), (0:Int64), (0:Int64), (0:Int64)])), (.int w0_6)])) _
    refine XS.ior X106.here hx rfl (hb hby at_118) rfl ?_
    show Steps p.tables e below (T106.setTop (mkF m 119 #[.val (.long q0), .second, .val (.long q1), .second, .val (.long q2), .second, .val (.long q3), .second, rv b47, iv w0_6, .unset, .unset] [(.int (w0_6 ||| (own_idle (q0 + ((6:Int64) * q1)) (6:Int32) [q0, (q0 + q1), (q0 + ((2:Int64) * q1)), (q0 + ((3:Int64) * q1)), (q0 + ((4:Int64) * q1)), (q0 + ((5:Int64) * q1)), (0:Int64), (0:Int64), (0:Int64), (0:Int64), (0:Int64), (0:Int64), (0:Int64), (0:Int64), (0:Int64)])))])) _
    refine XS.istore X106.here hx rfl (hb hby at_119) rfl (l' := #[.val (.long q0), .second, .val (.long q1), .second, .val (.long q2), .second, .val (.long q3), .second, rv b47, iv w0_7, .unset, .unset]) (by rw [hw0_7]; rfl) ?_
    show Steps p.tables e below (T106.setTop (mkF m 121 #[.val (.long q0), .second, .val (.long q1), .second, .val (.long q2), .second, .val (.long q3), .second, rv b47, iv w0_7, .unset, .unset] [])) _
    refine XS.iload X106.here hx rfl (hb hby at_121) rfl ?_
    show Steps p.tables e below (T106.setTop (mkF m 123 #[.val (.long q0), .second, .val (.long q1), .second, .val (.long q2), .second, .val (.long q3), .second, rv b47, iv w0_7, .unset, .unset] [(.int w0_7)])) _
    refine XS.aload X106.here hx rfl (hb hby at_123) rfl rfl ?_
    show Steps p.tables e below (T106.setTop (mkF m 125 #[.val (.long q0), .second, .val (.long q1), .second, .val (.long q2), .second, .val (.long q3), .second, rv b47, iv w0_7, .unset, .unset] [(.ref b47), (.int w0_7)])) _
    refine XS.lloadN X106.here hx rfl (hb hby at_125) rfl ?_
    show Steps p.tables e below (T106.setTop (mkF m 126 #[.val (.long q0), .second, .val (.long q1), .second, .val (.long q2), .second, .val (.long q3), .second, rv b47, iv w0_7, .unset, .unset] [(.long q0), (.ref b47), (.int w0_7)])) _
    refine Jvm.Stand.ldc2J X106 hx hown (mvT hZ (own_h hw 24 rfl)) rfl (hb hby at_126) ?_
    show Steps p.tables e below (T106.setTop (mkF m 129 #[.val (.long q0), .second, .val (.long q1), .second, .val (.long q2), .second, .val (.long q3), .second, rv b47, iv w0_7, .unset, .unset] [(.long (7:Int64)), (.long q0), (.ref b47), (.int w0_7)])) _
    refine XS.lloadN X106.here hx rfl (hb hby at_129) rfl ?_
    show Steps p.tables e below (T106.setTop (mkF m 130 #[.val (.long q0), .second, .val (.long q1), .second, .val (.long q2), .second, .val (.long q3), .second, rv b47, iv w0_7, .unset, .unset] [(.long q1), (.long (7:Int64)), (.long q0), (.ref b47), (.int w0_7)])) _
    refine XS.lmul X106.here hx rfl (hb hby at_130) rfl ?_
    show Steps p.tables e below (T106.setTop (mkF m 131 #[.val (.long q0), .second, .val (.long q1), .second, .val (.long q2), .second, .val (.long q3), .second, rv b47, iv w0_7, .unset, .unset] [(.long ((7:Int64) * q1)), (.long q0), (.ref b47), (.int w0_7)])) _
    refine XS.ladd X106.here hx rfl (hb hby at_131) rfl ?_
    exact k
  have F115 := (F107.keep K106)
  obtain ⟨cq114, kq114, q114a, q114b, q114c⟩ := isOf hZ rfl F115
  obtain ⟨_, _, ⟨T114, L114, k114, n114⟩, -, X114, ⟨Lc114, hQ114, l114, y114, z114⟩, st114⟩ := X106.virtualBack hx (y := (⟨"com/example/fanout4/fanout4/xslt/CompilerWatch", "isIdleWith", "(J)Z"⟩ : MethodName)) (z := (⟨"com/example/fanout4/fanout4/xslt/CompilerWatch", "isIdleWith", "(J)Z"⟩ : MethodName)) hown (mvT hZ (own_h hw 12 rfl)) (mvT hZ (own_h hw 13 rfl)) (notFace_of_selects (args := #[]) (mvT hZ (own_h hw 15 rfl))) (mvT hZ (own_h hw 15 rfl)) (mvT hZ (own_h hw 14 rfl)) (by decide) (backOf (W := 1) (rm3 l Z aZ hw [] b47 (q0 + ((7:Int64) * q1)) (7:Int32) tt_50 [q0, (q0 + q1), (q0 + ((2:Int64) * q1)), (q0 + ((3:Int64) * q1)), (q0 + ((4:Int64) * q1)), (q0 + ((5:Int64) * q1)), (q0 + ((6:Int64) * q1)), (0:Int64), (0:Int64), (0:Int64), (0:Int64), (0:Int64), (0:Int64), (0:Int64), (0:Int64)] T106.heap n0 Z111 F115 G112 G109 G113 ne56 ge_b47 ge57 (own_lit rfl)) hZ (own_h hw 16 rfl) (own_h hw 2 rfl) (by decide) (by decide)) q114a q114c (g := (mkF m 132 #[.val (.long q0), .second, .val (.long q1), .second, .val (.long q2), .second, .val (.long q3), .second, rv b47, iv w0_7, .unset, .unset] [(.long (q0 + ((7:Int64) * q1))), (.ref b47), (.int w0_7)])) rfl (by rw [hml]; rfl) (Steps.refl _) (argsL := [(.long (q0 + ((7:Int64) * q1)))]) (rest := [(.int w0_7)]) (lenOf own_pd1 rfl) rfl (by show 2 * 0 + _ ≤ _; exact Nat.le_of_eq rfl) (hb hby at_132) (fun _ _ => ⟨rfl, rfl, (by decide : 2 + 0 ≤ _), (by decide : 17 + 0 ≤ _)⟩)
  dsimp only [Pt.U, Pt.locs, Pt.cells, Pt.slots] at X114 l114 y114 z114 st114 hQ114
  subst l114 y114 z114
  obtain ⟨rfl, N114q, K114, G116, G117, G118⟩ := hQ114
  have N114 := Fr.app N106 N114q
  have Z119 : n0 ≤ T114.heap.size := Nat.le_trans Z111 K114.1
  have G120 : Fld Z T114.heap b47 "com/example/fanout4/fanout4/xslt/CompilerWatch" "samples" "I" (.int (8:Int32)) := G116
  have G121 : own_Longs Z T114.heap tt_50 [q0, (q0 + q1), (q0 + ((2:Int64) * q1)), (q0 + ((3:Int64) * q1)), (q0 + ((4:Int64) * q1)), (q0 + ((5:Int64) * q1)), (q0 + ((6:Int64) * q1)), (q0 + ((7:Int64) * q1)), (0:Int64), (0:Int64), (0:Int64), (0:Int64), (0:Int64), (0:Int64), (0:Int64)] := G118
  refine own_pre (fun _ k => st114.trans k) ?_
  obtain ⟨w0_8, hw0_8⟩ : ∃ z : Int32, z = (w0_7 ||| (own_idle (q0 + ((7:Int64) * q1)) (7:Int32) [q0, (q0 + q1), (q0 + ((2:Int64) * q1)), (q0 + ((3:Int64) * q1)), (q0 + ((4:Int64) * q1)), (q0 + ((5:Int64) * q1)), (q0 + ((6:Int64) * q1)), (0:Int64), (0:Int64), (0:Int64), (0:Int64), (0:Int64), (0:Int64), (0:Int64), (0:Int64)])) := ⟨_, rfl⟩
  refine own_pre (A := T114.setTop (mkF m 149 #[.val (.long q0), .second, .val (.long q1), .second, .val (.long q2), .second, .val (.long q3), .second, rv b47, iv w0_8, .unset, .unset] [(.long (q0 + ((8:Int64) * q1))), (.ref b47), (.int w0_8)])) (fun t k => ?_) ?_
  · show Steps p.tables e below (T114.setTop (mkF m 135 #[.val (.long q0), .second, .val (.long q1), .second, .val (.long q2), .second, .val (.long q3), .second, rv b47, iv w0_7, .unset, .unset] [(.int (own_idle (q0 + ((7:Int64) * q1)) (7:Int32) [q0, (q0 + q1), (q0 + ((2:Int64) * q1)), (q0 + ((3:Int64) * q1)), (q0 + ((4:Int64) * q1)), (q0 + ((5:Int64) * q1)), (q0 + ((6:Int64) * q1)), (0:Int64), (0:Int64), (0:Int64), (0:Int64), (0:Int64), (0:Int64), (0:Int64), (0:Int64)])), (.int w0_7)])) _
    refine XS.ior X114.here hx rfl (hb hby at_135) rfl ?_
    show Steps p.tables e below (T114.setTop (mkF m 136 #[.val (.long q0), .second, .val (.long q1), .second, .val (.long q2), .second, .val (.long q3), .second, rv b47, iv w0_7, .unset, .unset] [(.int (w0_7 ||| (own_idle (q0 + ((7:Int64) * q1)) (7:Int32) [q0, (q0 + q1), (q0 + ((2:Int64) * q1)), (q0 + ((3:Int64) * q1)), (q0 + ((4:Int64) * q1)), (q0 + ((5:Int64) * q1)), (q0 + ((6:Int64) * q1)), (0:Int64), (0:Int64), (0:Int64), (0:Int64), (0:Int64), (0:Int64), (0:Int64), (0:Int64)])))])) _
    refine XS.istore X114.here hx rfl (hb hby at_136) rfl (l' := #[.val (.long q0), .second, .val (.long q1), .second, .val (.long q2), .second, .val (.long q3), .second, rv b47, iv w0_8, .unset, .unset]) (by rw [hw0_8]; rfl) ?_
    show Steps p.tables e below (T114.setTop (mkF m 138 #[.val (.long q0), .second, .val (.long q1), .second, .val (.long q2), .second, .val (.long q3), .second, rv b47, iv w0_8, .unset, .unset] [])) _
    refine XS.iload X114.here hx rfl (hb hby at_138) rfl ?_
    show Steps p.tables e below (T114.setTop (mkF m 140 #[.val (.long q0), .second, .val (.long q1), .second, .val (.long q2), .second, .val (.long q3), .second, rv b47, iv w0_8, .unset, .unset] [(.int w0_8)])) _
    refine XS.aload X114.here hx rfl (hb hby at_140) rfl rfl ?_
    show Steps p.tables e below (T114.setTop (mkF m 142 #[.val (.long q0), .second, .val (.long q1), .second, .val (.long q2), .second, .val (.long q3), .second, rv b47, iv w0_8, .unset, .unset] [(.ref b47), (.int w0_8)])) _
    refine XS.lloadN X114.here hx rfl (hb hby at_142) rfl ?_
    show Steps p.tables e below (T114.setTop (mkF m 143 #[.val (.long q0), .second, .val (.long q1), .second, .val (.long q2), .second, .val (.long q3), .second, rv b47, iv w0_8, .unset, .unset] [(.long q0), (.ref b47), (.int w0_8)])) _
    refine Jvm.Stand.ldc2J X114 hx hown (mvT hZ (own_h hw 25 rfl)) rfl (hb hby at_143) ?_
    show Steps p.tables e below (T114.setTop (mkF m 146 #[.val (.long q0), .second, .val (.long q1), .second, .val (.long q2), .second, .val (.long q3), .second, rv b47, iv w0_8, .unset, .unset] [(.long (8:Int64)), (.long q0), (.ref b47), (.int w0_8)])) _
    refine XS.lloadN X114.here hx rfl (hb hby at_146) rfl ?_
    show Steps p.tables e below (T114.setTop (mkF m 147 #[.val (.long q0), .second, .val (.long q1), .second, .val (.long q2), .second, .val (.long q3), .second, rv b47, iv w0_8, .unset, .unset] [(.long q1), (.long (8:Int64)), (.long q0), (.ref b47), (.int w0_8)])) _
    refine XS.lmul X114.here hx rfl (hb hby at_147) rfl ?_
    show Steps p.tables e below (T114.setTop (mkF m 148 #[.val (.long q0), .second, .val (.long q1), .second, .val (.long q2), .second, .val (.long q3), .second, rv b47, iv w0_8, .unset, .unset] [(.long ((8:Int64) * q1)), (.long q0), (.ref b47), (.int w0_8)])) _
    refine XS.ladd X114.here hx rfl (hb hby at_148) rfl ?_
    exact k
  have F123 := (F115.keep K114)
  obtain ⟨cq122, kq122, q122a, q122b, q122c⟩ := isOf hZ rfl F123
  obtain ⟨_, _, ⟨T122, L122, k122, n122⟩, -, X122, ⟨Lc122, hQ122, l122, y122, z122⟩, st122⟩ := X114.virtualBack hx (y := (⟨"com/example/fanout4/fanout4/xslt/CompilerWatch", "isIdleWith", "(J)Z"⟩ : MethodName)) (z := (⟨"com/example/fanout4/fanout4/xslt/CompilerWatch", "isIdleWith", "(J)Z"⟩ : MethodName)) hown (mvT hZ (own_h hw 12 rfl)) (mvT hZ (own_h hw 13 rfl)) (notFace_of_selects (args := #[]) (mvT hZ (own_h hw 15 rfl))) (mvT hZ (own_h hw 15 rfl)) (mvT hZ (own_h hw 14 rfl)) (by decide) (backOf (W := 1) (rm3 l Z aZ hw [] b47 (q0 + ((8:Int64) * q1)) (8:Int32) tt_50 [q0, (q0 + q1), (q0 + ((2:Int64) * q1)), (q0 + ((3:Int64) * q1)), (q0 + ((4:Int64) * q1)), (q0 + ((5:Int64) * q1)), (q0 + ((6:Int64) * q1)), (q0 + ((7:Int64) * q1)), (0:Int64), (0:Int64), (0:Int64), (0:Int64), (0:Int64), (0:Int64), (0:Int64)] T114.heap n0 Z119 F123 G120 G117 G121 ne56 ge_b47 ge57 (own_lit rfl)) hZ (own_h hw 16 rfl) (own_h hw 2 rfl) (by decide) (by decide)) q122a q122c (g := (mkF m 149 #[.val (.long q0), .second, .val (.long q1), .second, .val (.long q2), .second, .val (.long q3), .second, rv b47, iv w0_8, .unset, .unset] [(.long (q0 + ((8:Int64) * q1))), (.ref b47), (.int w0_8)])) rfl (by rw [hml]; rfl) (Steps.refl _) (argsL := [(.long (q0 + ((8:Int64) * q1)))]) (rest := [(.int w0_8)]) (lenOf own_pd1 rfl) rfl (by show 2 * 0 + _ ≤ _; exact Nat.le_of_eq rfl) (hb hby at_149) (fun _ _ => ⟨rfl, rfl, (by decide : 2 + 0 ≤ _), (by decide : 17 + 0 ≤ _)⟩)
  dsimp only [Pt.U, Pt.locs, Pt.cells, Pt.slots] at X122 l122 y122 z122 st122 hQ122
  subst l122 y122 z122
  obtain ⟨rfl, N122q, K122, G124, G125, G126⟩ := hQ122
  have N122 := Fr.app N114 N122q
  have Z127 : n0 ≤ T122.heap.size := Nat.le_trans Z119 K122.1
  have G128 : Fld Z T122.heap b47 "com/example/fanout4/fanout4/xslt/CompilerWatch" "samples" "I" (.int (9:Int32)) := G124
  have G129 : own_Longs Z T122.heap tt_50 [q0, (q0 + q1), (q0 + ((2:Int64) * q1)), (q0 + ((3:Int64) * q1)), (q0 + ((4:Int64) * q1)), (q0 + ((5:Int64) * q1)), (q0 + ((6:Int64) * q1)), (q0 + ((7:Int64) * q1)), (q0 + ((8:Int64) * q1)), (0:Int64), (0:Int64), (0:Int64), (0:Int64), (0:Int64), (0:Int64)] := G126
  refine own_pre (fun _ k => st122.trans k) ?_
  obtain ⟨w0_9, hw0_9⟩ : ∃ z : Int32, z = (w0_8 ||| (own_idle (q0 + ((8:Int64) * q1)) (8:Int32) [q0, (q0 + q1), (q0 + ((2:Int64) * q1)), (q0 + ((3:Int64) * q1)), (q0 + ((4:Int64) * q1)), (q0 + ((5:Int64) * q1)), (q0 + ((6:Int64) * q1)), (q0 + ((7:Int64) * q1)), (0:Int64), (0:Int64), (0:Int64), (0:Int64), (0:Int64), (0:Int64), (0:Int64)])) := ⟨_, rfl⟩
  refine own_pre (A := T122.setTop (mkF m 166 #[.val (.long q0), .second, .val (.long q1), .second, .val (.long q2), .second, .val (.long q3), .second, rv b47, iv w0_9, .unset, .unset] [(.long (q0 + ((9:Int64) * q1))), (.ref b47), (.int w0_9)])) (fun t k => ?_) ?_
  · show Steps p.tables e below (T122.setTop (mkF m 152 #[.val (.long q0), .second, .val (.long q1), .second, .val (.long q2), .second, .val (.long q3), .second, rv b47, iv w0_8, .unset, .unset] [(.int (own_idle (q0 + ((8:Int64) * q1)) (8:Int32) [q0, (q0 + q1), (q0 + ((2:Int64) * q1)), (q0 + ((3:Int64) * q1)), (q0 + ((4:Int64) * q1)), (q0 + ((5:Int64) * q1)), (q0 + ((6:Int64) * q1)), (q0 + ((7:Int64) * q1)), (0:Int64), (0:Int64), (0:Int64), (0:Int64), (0:Int64), (0:Int64), (0:Int64)])), (.int w0_8)])) _
    refine XS.ior X122.here hx rfl (hb hby at_152) rfl ?_
    show Steps p.tables e below (T122.setTop (mkF m 153 #[.val (.long q0), .second, .val (.long q1), .second, .val (.long q2), .second, .val (.long q3), .second, rv b47, iv w0_8, .unset, .unset] [(.int (w0_8 ||| (own_idle (q0 + ((8:Int64) * q1)) (8:Int32) [q0, (q0 + q1), (q0 + ((2:Int64) * q1)), (q0 + ((3:Int64) * q1)), (q0 + ((4:Int64) * q1)), (q0 + ((5:Int64) * q1)), (q0 + ((6:Int64) * q1)), (q0 + ((7:Int64) * q1)), (0:Int64), (0:Int64), (0:Int64), (0:Int64), (0:Int64), (0:Int64), (0:Int64)])))])) _
    refine XS.istore X122.here hx rfl (hb hby at_153) rfl (l' := #[.val (.long q0), .second, .val (.long q1), .second, .val (.long q2), .second, .val (.long q3), .second, rv b47, iv w0_9, .unset, .unset]) (by rw [hw0_9]; rfl) ?_
    show Steps p.tables e below (T122.setTop (mkF m 155 #[.val (.long q0), .second, .val (.long q1), .second, .val (.long q2), .second, .val (.long q3), .second, rv b47, iv w0_9, .unset, .unset] [])) _
    refine XS.iload X122.here hx rfl (hb hby at_155) rfl ?_
    show Steps p.tables e below (T122.setTop (mkF m 157 #[.val (.long q0), .second, .val (.long q1), .second, .val (.long q2), .second, .val (.long q3), .second, rv b47, iv w0_9, .unset, .unset] [(.int w0_9)])) _
    refine XS.aload X122.here hx rfl (hb hby at_157) rfl rfl ?_
    show Steps p.tables e below (T122.setTop (mkF m 159 #[.val (.long q0), .second, .val (.long q1), .second, .val (.long q2), .second, .val (.long q3), .second, rv b47, iv w0_9, .unset, .unset] [(.ref b47), (.int w0_9)])) _
    refine XS.lloadN X122.here hx rfl (hb hby at_159) rfl ?_
    show Steps p.tables e below (T122.setTop (mkF m 160 #[.val (.long q0), .second, .val (.long q1), .second, .val (.long q2), .second, .val (.long q3), .second, rv b47, iv w0_9, .unset, .unset] [(.long q0), (.ref b47), (.int w0_9)])) _
    refine Jvm.Stand.ldc2J X122 hx hown (mvT hZ (own_h hw 26 rfl)) rfl (hb hby at_160) ?_
    show Steps p.tables e below (T122.setTop (mkF m 163 #[.val (.long q0), .second, .val (.long q1), .second, .val (.long q2), .second, .val (.long q3), .second, rv b47, iv w0_9, .unset, .unset] [(.long (9:Int64)), (.long q0), (.ref b47), (.int w0_9)])) _
    refine XS.lloadN X122.here hx rfl (hb hby at_163) rfl ?_
    show Steps p.tables e below (T122.setTop (mkF m 164 #[.val (.long q0), .second, .val (.long q1), .second, .val (.long q2), .second, .val (.long q3), .second, rv b47, iv w0_9, .unset, .unset] [(.long q1), (.long (9:Int64)), (.long q0), (.ref b47), (.int w0_9)])) _
    refine XS.lmul X122.here hx rfl (hb hby at_164) rfl ?_
    show Steps p.tables e below (T122.setTop (mkF m 165 #[.val (.long q0), .second, .val (.long q1), .second, .val (.long q2), .second, .val (.long q3), .second, rv b47, iv w0_9, .unset, .unset] [(.long ((9:Int64) * q1)), (.long q0), (.ref b47), (.int w0_9)])) _
    refine XS.ladd X122.here hx rfl (hb hby at_165) rfl ?_
    exact k
  have F131 := (F123.keep K122)
  obtain ⟨cq130, kq130, q130a, q130b, q130c⟩ := isOf hZ rfl F131
  obtain ⟨_, _, ⟨T130, L130, k130, n130⟩, -, X130, ⟨Lc130, hQ130, l130, y130, z130⟩, st130⟩ := X122.virtualBack hx (y := (⟨"com/example/fanout4/fanout4/xslt/CompilerWatch", "isIdleWith", "(J)Z"⟩ : MethodName)) (z := (⟨"com/example/fanout4/fanout4/xslt/CompilerWatch", "isIdleWith", "(J)Z"⟩ : MethodName)) hown (mvT hZ (own_h hw 12 rfl)) (mvT hZ (own_h hw 13 rfl)) (notFace_of_selects (args := #[]) (mvT hZ (own_h hw 15 rfl))) (mvT hZ (own_h hw 15 rfl)) (mvT hZ (own_h hw 14 rfl)) (by decide) (backOf (W := 1) (rm3 l Z aZ hw [] b47 (q0 + ((9:Int64) * q1)) (9:Int32) tt_50 [q0, (q0 + q1), (q0 + ((2:Int64) * q1)), (q0 + ((3:Int64) * q1)), (q0 + ((4:Int64) * q1)), (q0 + ((5:Int64) * q1)), (q0 + ((6:Int64) * q1)), (q0 + ((7:Int64) * q1)), (q0 + ((8:Int64) * q1)), (0:Int64), (0:Int64), (0:Int64), (0:Int64), (0:Int64), (0:Int64)] T122.heap n0 Z127 F131 G128 G125 G129 ne56 ge_b47 ge57 (own_lit rfl)) hZ (own_h hw 16 rfl) (own_h hw 2 rfl) (by decide) (by decide)) q130a q130c (g := (mkF m 166 #[.val (.long q0), .second, .val (.long q1), .second, .val (.long q2), .second, .val (.long q3), .second, rv b47, iv w0_9, .unset, .unset] [(.long (q0 + ((9:Int64) * q1))), (.ref b47), (.int w0_9)])) rfl (by rw [hml]; rfl) (Steps.refl _) (argsL := [(.long (q0 + ((9:Int64) * q1)))]) (rest := [(.int w0_9)]) (lenOf own_pd1 rfl) rfl (by show 2 * 0 + _ ≤ _; exact Nat.le_of_eq rfl) (hb hby at_166) (fun _ _ => ⟨rfl, rfl, (by decide : 2 + 0 ≤ _), (by decide : 17 + 0 ≤ _)⟩)
  dsimp only [Pt.U, Pt.locs, Pt.cells, Pt.slots] at X130 l130 y130 z130 st130 hQ130
  subst l130 y130 z130
  obtain ⟨rfl, N130q, K130, G132, G133, G134⟩ := hQ130
  have N130 := Fr.app N122 N130q
  have Z135 : n0 ≤ T130.heap.size := Nat.le_trans Z127 K130.1
  have G136 : Fld Z T130.heap b47 "com/example/fanout4/fanout4/xslt/CompilerWatch" "samples" "I" (.int (10:Int32)) := G132
  have G137 : own_Longs Z T130.heap tt_50 [q0, (q0 + q1), (q0 + ((2:Int64) * q1)), (q0 + ((3:Int64) * q1)), (q0 + ((4:Int64) * q1)), (q0 + ((5:Int64) * q1)), (q0 + ((6:Int64) * q1)), (q0 + ((7:Int64) * q1)), (q0 + ((8:Int64) * q1)), (q0 + ((9:Int64) * q1)), (0:Int64), (0:Int64), (0:Int64), (0:Int64), (0:Int64)] := G134
  refine own_pre (fun _ k => st130.trans k) ?_
  obtain ⟨w0_10, hw0_10⟩ : ∃ z : Int32, z = (w0_9 ||| (own_idle (q0 + ((9:Int64) * q1)) (9:Int32) [q0, (q0 + q1), (q0 + ((2:Int64) * q1)), (q0 + ((3:Int64) * q1)), (q0 + ((4:Int64) * q1)), (q0 + ((5:Int64) * q1)), (q0 + ((6:Int64) * q1)), (q0 + ((7:Int64) * q1)), (q0 + ((8:Int64) * q1)), (0:Int64), (0:Int64), (0:Int64), (0:Int64), (0:Int64), (0:Int64)])) := ⟨_, rfl⟩
  refine own_pre (A := T130.setTop (mkF m 183 #[.val (.long q0), .second, .val (.long q1), .second, .val (.long q2), .second, .val (.long q3), .second, rv b47, iv w0_10, .unset, .unset] [(.long (q0 + ((10:Int64) * q1))), (.ref b47), (.int w0_10)])) (fun t k => ?_) ?_
  · show Steps p.tables e below (T130.setTop (mkF m 169 #[.val (.long q0), .second, .val (.long q1), .second, .val (.long q2), .second, .val (.long q3), .second, rv b47, iv w0_9, .unset, .unset] [(.int (own_idle (q0 + ((9:Int64) * q1)) (9:Int32) [q0, (q0 + q1), (q0 + ((2:Int64) * q1)), (q0 + ((3:Int64) * q1)), (q0 + ((4:Int64) * q1)), (q0 + ((5:Int64) * q1)), (q0 + ((6:Int64) * q1)), (q0 + ((7:Int64) * q1)), (q0 + ((8:Int64) * q1)), (0:Int64), (0:Int64), (0:Int64), (0:Int64), (0:Int64), (0:Int64)])), (.int w0_9)])) _
    refine XS.ior X130.here hx rfl (hb hby at_169) rfl ?_
    show Steps p.tables e below (T130.setTop (mkF m 170 #[.val (.long q0), .second, .val (.long q1), .second, .val (.long q2), .second, .val (.long q3), .second, rv b47, iv w0_9, .unset, .unset] [(.int (w0_9 ||| (own_idle (q0 + ((9:Int64) * q1)) (9:Int32) [q0, (q0 + q1), (q0 + ((2:Int64) * q1)), (q0 + ((3:Int64) * q1)), (q0 + ((4:Int64) * q1)), (q0 + ((5:Int64) * q1)), (q0 + ((6:Int64) * q1)), (q0 + ((7:Int64) * q1)), (q0 + ((8:Int64) * q1)), (0:Int64), (0:Int64), (0:Int64), (0:Int64), (0:Int64), (0:Int64)])))])) _
    refine XS.istore X130.here hx rfl (hb hby at_170) rfl (l' := #[.val (.long q0), .second, .val (.long q1), .second, .val (.long q2), .second, .val (.long q3), .second, rv b47, iv w0_10, .unset, .unset]) (by rw [hw0_10]; rfl) ?_
    show Steps p.tables e below (T130.setTop (mkF m 172 #[.val (.long q0), .second, .val (.long q1), .second, .val (.long q2), .second, .val (.long q3), .second, rv b47, iv w0_10, .unset, .unset] [])) _
    refine XS.iload X130.here hx rfl (hb hby at_172) rfl ?_
    show Steps p.tables e below (T130.setTop (mkF m 174 #[.val (.long q0), .second, .val (.long q1), .second, .val (.long q2), .second, .val (.long q3), .second, rv b47, iv w0_10, .unset, .unset] [(.int w0_10)])) _
    refine XS.aload X130.here hx rfl (hb hby at_174) rfl rfl ?_
    show Steps p.tables e below (T130.setTop (mkF m 176 #[.val (.long q0), .second, .val (.long q1), .second, .val (.long q2), .second, .val (.long q3), .second, rv b47, iv w0_10, .unset, .unset] [(.ref b47), (.int w0_10)])) _
    refine XS.lloadN X130.here hx rfl (hb hby at_176) rfl ?_
    show Steps p.tables e below (T130.setTop (mkF m 177 #[.val (.long q0), .second, .val (.long q1), .second, .val (.long q2), .second, .val (.long q3), .second, rv b47, iv w0_10, .unset, .unset] [(.long q0), (.ref b47), (.int w0_10)])) _
    refine Jvm.Stand.ldc2J X130 hx hown (mvT hZ (own_h hw 27 rfl)) rfl (hb hby at_177) ?_
    show Steps p.tables e below (T130.setTop (mkF m 180 #[.val (.long q0), .second, .val (.long q1), .second, .val (.long q2), .second, .val (.long q3), .second, rv b47, iv w0_10, .unset, .unset] [(.long (10:Int64)), (.long q0), (.ref b47), (.int w0_10)])) _
    refine XS.lloadN X130.here hx rfl (hb hby at_180) rfl ?_
    show Steps p.tables e below (T130.setTop (mkF m 181 #[.val (.long q0), .second, .val (.long q1), .second, .val (.long q2), .second, .val (.long q3), .second, rv b47, iv w0_10, .unset, .unset] [(.long q1), (.long (10:Int64)), (.long q0), (.ref b47), (.int w0_10)])) _
    refine XS.lmul X130.here hx rfl (hb hby at_181) rfl ?_
    show Steps p.tables e below (T130.setTop (mkF m 182 #[.val (.long q0), .second, .val (.long q1), .second, .val (.long q2), .second, .val (.long q3), .second, rv b47, iv w0_10, .unset, .unset] [(.long ((10:Int64) * q1)), (.long q0), (.ref b47), (.int w0_10)])) _
    refine XS.ladd X130.here hx rfl (hb hby at_182) rfl ?_
    exact k
  have F139 := (F131.keep K130)
  obtain ⟨cq138, kq138, q138a, q138b, q138c⟩ := isOf hZ rfl F139
  obtain ⟨_, _, ⟨T138, L138, k138, n138⟩, -, X138, ⟨Lc138, hQ138, l138, y138, z138⟩, st138⟩ := X130.virtualBack hx (y := (⟨"com/example/fanout4/fanout4/xslt/CompilerWatch", "isIdleWith", "(J)Z"⟩ : MethodName)) (z := (⟨"com/example/fanout4/fanout4/xslt/CompilerWatch", "isIdleWith", "(J)Z"⟩ : MethodName)) hown (mvT hZ (own_h hw 12 rfl)) (mvT hZ (own_h hw 13 rfl)) (notFace_of_selects (args := #[]) (mvT hZ (own_h hw 15 rfl))) (mvT hZ (own_h hw 15 rfl)) (mvT hZ (own_h hw 14 rfl)) (by decide) (backOf (W := 1) (rm3 l Z aZ hw [] b47 (q0 + ((10:Int64) * q1)) (10:Int32) tt_50 [q0, (q0 + q1), (q0 + ((2:Int64) * q1)), (q0 + ((3:Int64) * q1)), (q0 + ((4:Int64) * q1)), (q0 + ((5:Int64) * q1)), (q0 + ((6:Int64) * q1)), (q0 + ((7:Int64) * q1)), (q0 + ((8:Int64) * q1)), (q0 + ((9:Int64) * q1)), (0:Int64), (0:Int64), (0:Int64), (0:Int64), (0:Int64)] T130.heap n0 Z135 F139 G136 G133 G137 ne56 ge_b47 ge57 (own_lit rfl)) hZ (own_h hw 16 rfl) (own_h hw 2 rfl) (by decide) (by decide)) q138a q138c (g := (mkF m 183 #[.val (.long q0), .second, .val (.long q1), .second, .val (.long q2), .second, .val (.long q3), .second, rv b47, iv w0_10, .unset, .unset] [(.long (q0 + ((10:Int64) * q1))), (.ref b47), (.int w0_10)])) rfl (by rw [hml]; rfl) (Steps.refl _) (argsL := [(.long (q0 + ((10:Int64) * q1)))]) (rest := [(.int w0_10)]) (lenOf own_pd1 rfl) rfl (by show 2 * 0 + _ ≤ _; exact Nat.le_of_eq rfl) (hb hby at_183) (fun _ _ => ⟨rfl, rfl, (by decide : 2 + 0 ≤ _), (by decide : 17 + 0 ≤ _)⟩)
  dsimp only [Pt.U, Pt.locs, Pt.cells, Pt.slots] at X138 l138 y138 z138 st138 hQ138
  subst l138 y138 z138
  obtain ⟨rfl, N138q, K138, G140, G141, G142⟩ := hQ138
  have N138 := Fr.app N130 N138q
  have Z143 : n0 ≤ T138.heap.size := Nat.le_trans Z135 K138.1
  have G144 : Fld Z T138.heap b47 "com/example/fanout4/fanout4/xslt/CompilerWatch" "samples" "I" (.int (11:Int32)) := G140
  have G145 : own_Longs Z T138.heap tt_50 [q0, (q0 + q1), (q0 + ((2:Int64) * q1)), (q0 + ((3:Int64) * q1)), (q0 + ((4:Int64) * q1)), (q0 + ((5:Int64) * q1)), (q0 + ((6:Int64) * q1)), (q0 + ((7:Int64) * q1)), (q0 + ((8:Int64) * q1)), (q0 + ((9:Int64) * q1)), (q0 + ((10:Int64) * q1)), (0:Int64), (0:Int64), (0:Int64), (0:Int64)] := G142
  refine own_pre (fun _ k => st138.trans k) ?_
  obtain ⟨w0_11, hw0_11⟩ : ∃ z : Int32, z = (w0_10 ||| (own_idle (q0 + ((10:Int64) * q1)) (10:Int32) [q0, (q0 + q1), (q0 + ((2:Int64) * q1)), (q0 + ((3:Int64) * q1)), (q0 + ((4:Int64) * q1)), (q0 + ((5:Int64) * q1)), (q0 + ((6:Int64) * q1)), (q0 + ((7:Int64) * q1)), (q0 + ((8:Int64) * q1)), (q0 + ((9:Int64) * q1)), (0:Int64), (0:Int64), (0:Int64), (0:Int64), (0:Int64)])) := ⟨_, rfl⟩
  refine own_pre (A := T138.setTop (mkF m 200 #[.val (.long q0), .second, .val (.long q1), .second, .val (.long q2), .second, .val (.long q3), .second, rv b47, iv w0_11, .unset, .unset] [(.long (q0 + ((11:Int64) * q1))), (.ref b47), (.int w0_11)])) (fun t k => ?_) ?_
  · show Steps p.tables e below (T138.setTop (mkF m 186 #[.val (.long q0), .second, .val (.long q1), .second, .val (.long q2), .second, .val (.long q3), .second, rv b47, iv w0_10, .unset, .unset] [(.int (own_idle (q0 + ((10:Int64) * q1)) (10:Int32) [q0, (q0 + q1), (q0 + ((2:Int64) * q1)), (q0 + ((3:Int64) * q1)), (q0 + ((4:Int64) * q1)), (q0 + ((5:Int64) * q1)), (q0 + ((6:Int64) * q1)), (q0 + ((7:Int64) * q1)), (q0 + ((8:Int64) * q1)), (q0 + ((9:Int64) * q1)), (0:Int64), (0:Int64), (0:Int64), (0:Int64), (0:Int64)])), (.int w0_10)])) _
    refine XS.ior X138.here hx rfl (hb hby at_186) rfl ?_
    show Steps p.tables e below (T138.setTop (mkF m 187 #[.val (.long q0), .second, .val (.long q1), .second, .val (.long q2), .second, .val (.long q3), .second, rv b47, iv w0_10, .unset, .unset] [(.int (w0_10 ||| (own_idle (q0 + ((10:Int64) * q1)) (10:Int32) [q0, (q0 + q1), (q0 + ((2:Int64) * q1)), (q0 + ((3:Int64) * q1)), (q0 + ((4:Int64) * q1)), (q0 + ((5:Int64) * q1)), (q0 + ((6:Int64) * q1)), (q0 + ((7:Int64) * q1)), (q0 + ((8:Int64) * q1)), (q0 + ((9:Int64) * q1)), (0:Int64), (0:Int64), (0:Int64), (0:Int64), (0:Int64)])))])) _
    refine XS.istore X138.here hx rfl (hb hby at_187) rfl (l' := #[.val (.long q0), .second, .val (.long q1), .second, .val (.long q2), .second, .val (.long q3), .second, rv b47, iv w0_11, .unset, .unset]) (by rw [hw0_11]; rfl) ?_
    show Steps p.tables e below (T138.setTop (mkF m 189 #[.val (.long q0), .second, .val (.long q1), .second, .val (.long q2), .second, .val (.long q3), .second, rv b47, iv w0_11, .unset, .unset] [])) _
    refine XS.iload X138.here hx rfl (hb hby at_189) rfl ?_
    show Steps p.tables e below (T138.setTop (mkF m 191 #[.val (.long q0), .second, .val (.long q1), .second, .val (.long q2), .second, .val (.long q3), .second, rv b47, iv w0_11, .unset, .unset] [(.int w0_11)])) _
    refine XS.aload X138.here hx rfl (hb hby at_191) rfl rfl ?_
    show Steps p.tables e below (T138.setTop (mkF m 193 #[.val (.long q0), .second, .val (.long q1), .second, .val (.long q2), .second, .val (.long q3), .second, rv b47, iv w0_11, .unset, .unset] [(.ref b47), (.int w0_11)])) _
    refine XS.lloadN X138.here hx rfl (hb hby at_193) rfl ?_
    show Steps p.tables e below (T138.setTop (mkF m 194 #[.val (.long q0), .second, .val (.long q1), .second, .val (.long q2), .second, .val (.long q3), .second, rv b47, iv w0_11, .unset, .unset] [(.long q0), (.ref b47), (.int w0_11)])) _
    refine Jvm.Stand.ldc2J X138 hx hown (mvT hZ (own_h hw 28 rfl)) rfl (hb hby at_194) ?_
    show Steps p.tables e below (T138.setTop (mkF m 197 #[.val (.long q0), .second, .val (.long q1), .second, .val (.long q2), .second, .val (.long q3), .second, rv b47, iv w0_11, .unset, .unset] [(.long (11:Int64)), (.long q0), (.ref b47), (.int w0_11)])) _
    refine XS.lloadN X138.here hx rfl (hb hby at_197) rfl ?_
    show Steps p.tables e below (T138.setTop (mkF m 198 #[.val (.long q0), .second, .val (.long q1), .second, .val (.long q2), .second, .val (.long q3), .second, rv b47, iv w0_11, .unset, .unset] [(.long q1), (.long (11:Int64)), (.long q0), (.ref b47), (.int w0_11)])) _
    refine XS.lmul X138.here hx rfl (hb hby at_198) rfl ?_
    show Steps p.tables e below (T138.setTop (mkF m 199 #[.val (.long q0), .second, .val (.long q1), .second, .val (.long q2), .second, .val (.long q3), .second, rv b47, iv w0_11, .unset, .unset] [(.long ((11:Int64) * q1)), (.long q0), (.ref b47), (.int w0_11)])) _
    refine XS.ladd X138.here hx rfl (hb hby at_199) rfl ?_
    exact k
  have F147 := (F139.keep K138)
  obtain ⟨cq146, kq146, q146a, q146b, q146c⟩ := isOf hZ rfl F147
  obtain ⟨_, _, ⟨T146, L146, k146, n146⟩, -, X146, ⟨Lc146, hQ146, l146, y146, z146⟩, st146⟩ := X138.virtualBack hx (y := (⟨"com/example/fanout4/fanout4/xslt/CompilerWatch", "isIdleWith", "(J)Z"⟩ : MethodName)) (z := (⟨"com/example/fanout4/fanout4/xslt/CompilerWatch", "isIdleWith", "(J)Z"⟩ : MethodName)) hown (mvT hZ (own_h hw 12 rfl)) (mvT hZ (own_h hw 13 rfl)) (notFace_of_selects (args := #[]) (mvT hZ (own_h hw 15 rfl))) (mvT hZ (own_h hw 15 rfl)) (mvT hZ (own_h hw 14 rfl)) (by decide) (backOf (W := 1) (rm3 l Z aZ hw [] b47 (q0 + ((11:Int64) * q1)) (11:Int32) tt_50 [q0, (q0 + q1), (q0 + ((2:Int64) * q1)), (q0 + ((3:Int64) * q1)), (q0 + ((4:Int64) * q1)), (q0 + ((5:Int64) * q1)), (q0 + ((6:Int64) * q1)), (q0 + ((7:Int64) * q1)), (q0 + ((8:Int64) * q1)), (q0 + ((9:Int64) * q1)), (q0 + ((10:Int64) * q1)), (0:Int64), (0:Int64), (0:Int64), (0:Int64)] T138.heap n0 Z143 F147 G144 G141 G145 ne56 ge_b47 ge57 (own_lit rfl)) hZ (own_h hw 16 rfl) (own_h hw 2 rfl) (by decide) (by decide)) q146a q146c (g := (mkF m 200 #[.val (.long q0), .second, .val (.long q1), .second, .val (.long q2), .second, .val (.long q3), .second, rv b47, iv w0_11, .unset, .unset] [(.long (q0 + ((11:Int64) * q1))), (.ref b47), (.int w0_11)])) rfl (by rw [hml]; rfl) (Steps.refl _) (argsL := [(.long (q0 + ((11:Int64) * q1)))]) (rest := [(.int w0_11)]) (lenOf own_pd1 rfl) rfl (by show 2 * 0 + _ ≤ _; exact Nat.le_of_eq rfl) (hb hby at_200) (fun _ _ => ⟨rfl, rfl, (by decide : 2 + 0 ≤ _), (by decide : 17 + 0 ≤ _)⟩)
  dsimp only [Pt.U, Pt.locs, Pt.cells, Pt.slots] at X146 l146 y146 z146 st146 hQ146
  subst l146 y146 z146
  obtain ⟨rfl, N146q, K146, G148, G149, G150⟩ := hQ146
  have N146 := Fr.app N138 N146q
  have Z151 : n0 ≤ T146.heap.size := Nat.le_trans Z143 K146.1
  have G152 : Fld Z T146.heap b47 "com/example/fanout4/fanout4/xslt/CompilerWatch" "samples" "I" (.int (12:Int32)) := G148
  have G153 : own_Longs Z T146.heap tt_50 [q0, (q0 + q1), (q0 + ((2:Int64) * q1)), (q0 + ((3:Int64) * q1)), (q0 + ((4:Int64) * q1)), (q0 + ((5:Int64) * q1)), (q0 + ((6:Int64) * q1)), (q0 + ((7:Int64) * q1)), (q0 + ((8:Int64) * q1)), (q0 + ((9:Int64) * q1)), (q0 + ((10:Int64) * q1)), (q0 + ((11:Int64) * q1)), (0:Int64), (0:Int64), (0:Int64)] := G150
  refine own_pre (fun _ k => st146.trans k) ?_
  obtain ⟨w0_12, hw0_12⟩ : ∃ z : Int32, z = (w0_11 ||| (own_idle (q0 + ((11:Int64) * q1)) (11:Int32) [q0, (q0 + q1), (q0 + ((2:Int64) * q1)), (q0 + ((3:Int64) * q1)), (q0 + ((4:Int64) * q1)), (q0 + ((5:Int64) * q1)), (q0 + ((6:Int64) * q1)), (q0 + ((7:Int64) * q1)), (q0 + ((8:Int64) * q1)), (q0 + ((9:Int64) * q1)), (q0 + ((10:Int64) * q1)), (0:Int64), (0:Int64), (0:Int64), (0:Int64)])) := ⟨_, rfl⟩
  refine own_pre (A := T146.setTop (mkF m 217 #[.val (.long q0), .second, .val (.long q1), .second, .val (.long q2), .second, .val (.long q3), .second, rv b47, iv w0_12, .unset, .unset] [(.long (q0 + ((12:Int64) * q1))), (.ref b47), (.int w0_12)])) (fun t k => ?_) ?_
  · show Steps p.tables e below (T146.setTop (mkF m 203 #[.val (.long q0), .second, .val (.long q1), .second, .val (.long q2), .second, .val (.long q3), .second, rv b47, iv w0_11, .unset, .unset] [(.int (own_idle (q0 + ((11:Int64) * q1)) (11:Int32) [q0, (q0 + q1), (q0 + ((2:Int64) * q1)), (q0 + ((3:Int64) * q1)), (q0 + ((4:Int64) * q1)), (q0 + ((5:Int64) * q1)), (q0 + ((6:Int64) * q1)), (q0 + ((7:Int64) * q1)), (q0 + ((8:Int64) * q1)), (q0 + ((9:Int64) * q1)), (q0 + ((10:Int64) * q1)), (0:Int64), (0:Int64), (0:Int64), (0:Int64)])), (.int w0_11)])) _
    refine XS.ior X146.here hx rfl (hb hby at_203) rfl ?_
    show Steps p.tables e below (T146.setTop (mkF m 204 #[.val (.long q0), .second, .val (.long q1), .second, .val (.long q2), .second, .val (.long q3), .second, rv b47, iv w0_11, .unset, .unset] [(.int (w0_11 ||| (own_idle (q0 + ((11:Int64) * q1)) (11:Int32) [q0, (q0 + q1), (q0 + ((2:Int64) * q1)), (q0 + ((3:Int64) * q1)), (q0 + ((4:Int64) * q1)), (q0 + ((5:Int64) * q1)), (q0 + ((6:Int64) * q1)), (q0 + ((7:Int64) * q1)), (q0 + ((8:Int64) * q1)), (q0 + ((9:Int64) * q1)), (q0 + ((10:Int64) * q1)), (0:Int64), (0:Int64), (0:Int64), (0:Int64)])))])) _
    refine XS.istore X146.here hx rfl (hb hby at_204) rfl (l' := #[.val (.long q0), .second, .val (.long q1), .second, .val (.long q2), .second, .val (.long q3), .second, rv b47, iv w0_12, .unset, .unset]) (by rw [hw0_12]; rfl) ?_
    show Steps p.tables e below (T146.setTop (mkF m 206 #[.val (.long q0), .second, .val (.long q1), .second, .val (.long q2), .second, .val (.long q3), .second, rv b47, iv w0_12, .unset, .unset] [])) _
    refine XS.iload X146.here hx rfl (hb hby at_206) rfl ?_
    show Steps p.tables e below (T146.setTop (mkF m 208 #[.val (.long q0), .second, .val (.long q1), .second, .val (.long q2), .second, .val (.long q3), .second, rv b47, iv w0_12, .unset, .unset] [(.int w0_12)])) _
    refine XS.aload X146.here hx rfl (hb hby at_208) rfl rfl ?_
    show Steps p.tables e below (T146.setTop (mkF m 210 #[.val (.long q0), .second, .val (.long q1), .second, .val (.long q2), .second, .val (.long q3), .second, rv b47, iv w0_12, .unset, .unset] [(.ref b47), (.int w0_12)])) _
    refine XS.lloadN X146.here hx rfl (hb hby at_210) rfl ?_
    show Steps p.tables e below (T146.setTop (mkF m 211 #[.val (.long q0), .second, .val (.long q1), .second, .val (.long q2), .second, .val (.long q3), .second, rv b47, iv w0_12, .unset, .unset] [(.long q0), (.ref b47), (.int w0_12)])) _
    refine Jvm.Stand.ldc2J X146 hx hown (mvT hZ (own_h hw 29 rfl)) rfl (hb hby at_211) ?_
    show Steps p.tables e below (T146.setTop (mkF m 214 #[.val (.long q0), .second, .val (.long q1), .second, .val (.long q2), .second, .val (.long q3), .second, rv b47, iv w0_12, .unset, .unset] [(.long (12:Int64)), (.long q0), (.ref b47), (.int w0_12)])) _
    refine XS.lloadN X146.here hx rfl (hb hby at_214) rfl ?_
    show Steps p.tables e below (T146.setTop (mkF m 215 #[.val (.long q0), .second, .val (.long q1), .second, .val (.long q2), .second, .val (.long q3), .second, rv b47, iv w0_12, .unset, .unset] [(.long q1), (.long (12:Int64)), (.long q0), (.ref b47), (.int w0_12)])) _
    refine XS.lmul X146.here hx rfl (hb hby at_215) rfl ?_
    show Steps p.tables e below (T146.setTop (mkF m 216 #[.val (.long q0), .second, .val (.long q1), .second, .val (.long q2), .second, .val (.long q3), .second, rv b47, iv w0_12, .unset, .unset] [(.long ((12:Int64) * q1)), (.long q0), (.ref b47), (.int w0_12)])) _
    refine XS.ladd X146.here hx rfl (hb hby at_216) rfl ?_
    exact k
  have F155 := (F147.keep K146)
  obtain ⟨cq154, kq154, q154a, q154b, q154c⟩ := isOf hZ rfl F155
  obtain ⟨_, _, ⟨T154, L154, k154, n154⟩, -, X154, ⟨Lc154, hQ154, l154, y154, z154⟩, st154⟩ := X146.virtualBack hx (y := (⟨"com/example/fanout4/fanout4/xslt/CompilerWatch", "isIdleWith", "(J)Z"⟩ : MethodName)) (z := (⟨"com/example/fanout4/fanout4/xslt/CompilerWatch", "isIdleWith", "(J)Z"⟩ : MethodName)) hown (mvT hZ (own_h hw 12 rfl)) (mvT hZ (own_h hw 13 rfl)) (notFace_of_selects (args := #[]) (mvT hZ (own_h hw 15 rfl))) (mvT hZ (own_h hw 15 rfl)) (mvT hZ (own_h hw 14 rfl)) (by decide) (backOf (W := 1) (rm3 l Z aZ hw [] b47 (q0 + ((12:Int64) * q1)) (12:Int32) tt_50 [q0, (q0 + q1), (q0 + ((2:Int64) * q1)), (q0 + ((3:Int64) * q1)), (q0 + ((4:Int64) * q1)), (q0 + ((5:Int64) * q1)), (q0 + ((6:Int64) * q1)), (q0 + ((7:Int64) * q1)), (q0 + ((8:Int64) * q1)), (q0 + ((9:Int64) * q1)), (q0 + ((10:Int64) * q1)), (q0 + ((11:Int64) * q1)), (0:Int64), (0:Int64), (0:Int64)] T146.heap n0 Z151 F155 G152 G149 G153 ne56 ge_b47 ge57 (own_lit rfl)) hZ (own_h hw 16 rfl) (own_h hw 2 rfl) (by decide) (by decide)) q154a q154c (g := (mkF m 217 #[.val (.long q0), .second, .val (.long q1), .second, .val (.long q2), .second, .val (.long q3), .second, rv b47, iv w0_12, .unset, .unset] [(.long (q0 + ((12:Int64) * q1))), (.ref b47), (.int w0_12)])) rfl (by rw [hml]; rfl) (Steps.refl _) (argsL := [(.long (q0 + ((12:Int64) * q1)))]) (rest := [(.int w0_12)]) (lenOf own_pd1 rfl) rfl (by show 2 * 0 + _ ≤ _; exact Nat.le_of_eq rfl) (hb hby at_217) (fun _ _ => ⟨rfl, rfl, (by decide : 2 + 0 ≤ _), (by decide : 17 + 0 ≤ _)⟩)
  dsimp only [Pt.U, Pt.locs, Pt.cells, Pt.slots] at X154 l154 y154 z154 st154 hQ154
  subst l154 y154 z154
  obtain ⟨rfl, N154q, K154, G156, G157, G158⟩ := hQ154
  have N154 := Fr.app N146 N154q
  have Z159 : n0 ≤ T154.heap.size := Nat.le_trans Z151 K154.1
  have G160 : Fld Z T154.heap b47 "com/example/fanout4/fanout4/xslt/CompilerWatch" "samples" "I" (.int (13:Int32)) := G156
  have G161 : own_Longs Z T154.heap tt_50 [q0, (q0 + q1), (q0 + ((2:Int64) * q1)), (q0 + ((3:Int64) * q1)), (q0 + ((4:Int64) * q1)), (q0 + ((5:Int64) * q1)), (q0 + ((6:Int64) * q1)), (q0 + ((7:Int64) * q1)), (q0 + ((8:Int64) * q1)), (q0 + ((9:Int64) * q1)), (q0 + ((10:Int64) * q1)), (q0 + ((11:Int64) * q1)), (q0 + ((12:Int64) * q1)), (0:Int64), (0:Int64)] := G158
  refine own_pre (fun _ k => st154.trans k) ?_
  obtain ⟨w0_13, hw0_13⟩ : ∃ z : Int32, z = (w0_12 ||| (own_idle (q0 + ((12:Int64) * q1)) (12:Int32) [q0, (q0 + q1), (q0 + ((2:Int64) * q1)), (q0 + ((3:Int64) * q1)), (q0 + ((4:Int64) * q1)), (q0 + ((5:Int64) * q1)), (q0 + ((6:Int64) * q1)), (q0 + ((7:Int64) * q1)), (q0 + ((8:Int64) * q1)), (q0 + ((9:Int64) * q1)), (q0 + ((10:Int64) * q1)), (q0 + ((11:Int64) * q1)), (0:Int64), (0:Int64), (0:Int64)])) := ⟨_, rfl⟩
  refine own_pre (A := T154.setTop (mkF m 234 #[.val (.long q0), .second, .val (.long q1), .second, .val (.long q2), .second, .val (.long q3), .second, rv b47, iv w0_13, .unset, .unset] [(.long (q0 + ((13:Int64) * q1))), (.ref b47), (.int w0_13)])) (fun t k => ?_) ?_
  · show Steps p.tables e below (T154.setTop (mkF m 220 #[.val (.long q0), .second, .val (.long q1), .second, .val (.long q2), .second, .val (.long q3), .second, rv b47, iv w0_12, .unset, .unset] [(.int (own_idle (q0 + ((12:Int64) * q1)) (12:Int32) [q0, (q0 + q1), (q0 + ((2:Int64) * q1)), (q0 + ((3:Int64) * q1)), (q0 + ((4:Int64) * q1)), (q0 + ((5:Int64) * q1)), (q0 + ((6:Int64) * q1)), (q0 + ((7:Int64) * q1)), (q0 + ((8:Int64) * q1)), (q0 + ((9:Int64) * q1)), (q0 + ((10:Int64) * q1)), (q0 + ((11:Int64) * q1)), (0:Int64), (0:Int64), (0:Int64)])), (.int w0_12)])) _
    refine XS.ior X154.here hx rfl (hb hby at_220) rfl ?_
    show Steps p.tables e below (T154.setTop (mkF m 221 #[.val (.long q0), .second, .val (.long q1), .second, .val (.long q2), .second, .val (.long q3), .second, rv b47, iv w0_12, .unset, .unset] [(.int (w0_12 ||| (own_idle (q0 + ((12:Int64) * q1)) (12:Int32) [q0, (q0 + q1), (q0 + ((2:Int64) * q1)), (q0 + ((3:Int64) * q1)), (q0 + ((4:Int64) * q1)), (q0 + ((5:Int64) * q1)), (q0 + ((6:Int64) * q1)), (q0 + ((7:Int64) * q1)), (q0 + ((8:Int64) * q1)), (q0 + ((9:Int64) * q1)), (q0 + ((10:Int64) * q1)), (q0 + ((11:Int64) * q1)), (0:Int64), (0:Int64), (0:Int64)])))])) _
    refine XS.istore X154.here hx rfl (hb hby at_221) rfl (l' := #[.val (.long q0), .second, .val (.long q1), .second, .val (.long q2), .second, .val (.long q3), .second, rv b47, iv w0_13, .unset, .unset]) (by rw [hw0_13]; rfl) ?_
    show Steps p.tables e below (T154.setTop (mkF m 223 #[.val (.long q0), .second, .val (.long q1), .second, .val (.long q2), .second, .val (.long q3), .second, rv b47, iv w0_13, .unset, .unset] [])) _
    refine XS.iload X154.here hx rfl (hb hby at_223) rfl ?_
    show Steps p.tables e below (T154.setTop (mkF m 225 #[.val (.long q0), .second, .val (.long q1), .second, .val (.long q2), .second, .val (.long q3), .second, rv b47, iv w0_13, .unset, .unset] [(.int w0_13)])) _
    refine XS.aload X154.here hx rfl (hb hby at_225) rfl rfl ?_
    show Steps p.tables e below (T154.setTop (mkF m 227 #[.val (.long q0), .second, .val (.long q1), .second, .val (.long q2), .second, .val (.long q3), .second, rv b47, iv w0_13, .unset, .unset] [(.ref b47), (.int w0_13)])) _
    refine XS.lloadN X154.here hx rfl (hb hby at_227) rfl ?_
    show Steps p.tables e below (T154.setTop (mkF m 228 #[.val (.long q0), .second, .val (.long q1), .second, .val (.long q2), .second, .val (.long q3), .second, rv b47, iv w0_13, .unset, .unset] [(.long q0), (.ref b47), (.int w0_13)])) _
    refine Jvm.Stand.ldc2J X154 hx hown (mvT hZ (own_h hw 30 rfl)) rfl (hb hby at_228) ?_
    show Steps p.tables e below (T154.setTop (mkF m 231 #[.val (.long q0), .second, .val (.long q1), .second, .val (.long q2), .second, .val (.long q3), .second, rv b47, iv w0_13, .unset, .unset] [(.long (13:Int64)), (.long q0), (.ref b47), (.int w0_13)])) _
    refine XS.lloadN X154.here hx rfl (hb hby at_231) rfl ?_
    show Steps p.tables e below (T154.setTop (mkF m 232 #[.val (.long q0), .second, .val (.long q1), .second, .val (.long q2), .second, .val (.long q3), .second, rv b47, iv w0_13, .unset, .unset] [(.long q1), (.long (13:Int64)), (.long q0), (.ref b47), (.int w0_13)])) _
    refine XS.lmul X154.here hx rfl (hb hby at_232) rfl ?_
    show Steps p.tables e below (T154.setTop (mkF m 233 #[.val (.long q0), .second, .val (.long q1), .second, .val (.long q2), .second, .val (.long q3), .second, rv b47, iv w0_13, .unset, .unset] [(.long ((13:Int64) * q1)), (.long q0), (.ref b47), (.int w0_13)])) _
    refine XS.ladd X154.here hx rfl (hb hby at_233) rfl ?_
    exact k
  have F163 := (F155.keep K154)
  obtain ⟨cq162, kq162, q162a, q162b, q162c⟩ := isOf hZ rfl F163
  obtain ⟨_, _, ⟨T162, L162, k162, n162⟩, -, X162, ⟨Lc162, hQ162, l162, y162, z162⟩, st162⟩ := X154.virtualBack hx (y := (⟨"com/example/fanout4/fanout4/xslt/CompilerWatch", "isIdleWith", "(J)Z"⟩ : MethodName)) (z := (⟨"com/example/fanout4/fanout4/xslt/CompilerWatch", "isIdleWith", "(J)Z"⟩ : MethodName)) hown (mvT hZ (own_h hw 12 rfl)) (mvT hZ (own_h hw 13 rfl)) (notFace_of_selects (args := #[]) (mvT hZ (own_h hw 15 rfl))) (mvT hZ (own_h hw 15 rfl)) (mvT hZ (own_h hw 14 rfl)) (by decide) (backOf (W := 1) (rm3 l Z aZ hw [] b47 (q0 + ((13:Int64) * q1)) (13:Int32) tt_50 [q0, (q0 + q1), (q0 + ((2:Int64) * q1)), (q0 + ((3:Int64) * q1)), (q0 + ((4:Int64) * q1)), (q0 + ((5:Int64) * q1)), (q0 + ((6:Int64) * q1)), (q0 + ((7:Int64) * q1)), (q0 + ((8:Int64) * q1)), (q0 + ((9:Int64) * q1)), (q0 + ((10:Int64) * q1)), (q0 + ((11:Int64) * q1)), (q0 + ((12:Int64) * q1)), (0:Int64), (0:Int64)] T154.heap n0 Z159 F163 G160 G157 G161 ne56 ge_b47 ge57 (own_lit rfl)) hZ (own_h hw 16 rfl) (own_h hw 2 rfl) (by decide) (by decide)) q162a q162c (g := (mkF m 234 #[.val (.long q0), .second, .val (.long q1), .second, .val (.long q2), .second, .val (.long q3), .second, rv b47, iv w0_13, .unset, .unset] [(.long (q0 + ((13:Int64) * q1))), (.ref b47), (.int w0_13)])) rfl (by rw [hml]; rfl) (Steps.refl _) (argsL := [(.long (q0 + ((13:Int64) * q1)))]) (rest := [(.int w0_13)]) (lenOf own_pd1 rfl) rfl (by show 2 * 0 + _ ≤ _; exact Nat.le_of_eq rfl) (hb hby at_234) (fun _ _ => ⟨rfl, rfl, (by decide : 2 + 0 ≤ _), (by decide : 17 + 0 ≤ _)⟩)
  dsimp only [Pt.U, Pt.locs, Pt.cells, Pt.slots] at X162 l162 y162 z162 st162 hQ162
  subst l162 y162 z162
  obtain ⟨rfl, N162q, K162, G164, G165, G166⟩ := hQ162
  have N162 := Fr.app N154 N162q
  have Z167 : n0 ≤ T162.heap.size := Nat.le_trans Z159 K162.1
  have G168 : Fld Z T162.heap b47 "com/example/fanout4/fanout4/xslt/CompilerWatch" "samples" "I" (.int (14:Int32)) := G164
  have G169 : own_Longs Z T162.heap tt_50 [q0, (q0 + q1), (q0 + ((2:Int64) * q1)), (q0 + ((3:Int64) * q1)), (q0 + ((4:Int64) * q1)), (q0 + ((5:Int64) * q1)), (q0 + ((6:Int64) * q1)), (q0 + ((7:Int64) * q1)), (q0 + ((8:Int64) * q1)), (q0 + ((9:Int64) * q1)), (q0 + ((10:Int64) * q1)), (q0 + ((11:Int64) * q1)), (q0 + ((12:Int64) * q1)), (q0 + ((13:Int64) * q1)), (0:Int64)] := G166
  refine own_pre (fun _ k => st162.trans k) ?_
  obtain ⟨w0_14, hw0_14⟩ : ∃ z : Int32, z = (w0_13 ||| (own_idle (q0 + ((13:Int64) * q1)) (13:Int32) [q0, (q0 + q1), (q0 + ((2:Int64) * q1)), (q0 + ((3:Int64) * q1)), (q0 + ((4:Int64) * q1)), (q0 + ((5:Int64) * q1)), (q0 + ((6:Int64) * q1)), (q0 + ((7:Int64) * q1)), (q0 + ((8:Int64) * q1)), (q0 + ((9:Int64) * q1)), (q0 + ((10:Int64) * q1)), (q0 + ((11:Int64) * q1)), (q0 + ((12:Int64) * q1)), (0:Int64), (0:Int64)])) := ⟨_, rfl⟩
  refine own_pre (A := T162.setTop (mkF m 251 #[.val (.long q0), .second, .val (.long q1), .second, .val (.long q2), .second, .val (.long q3), .second, rv b47, iv w0_14, .unset, .unset] [(.long (q0 + ((14:Int64) * q1))), (.ref b47), (.int w0_14)])) (fun t k => ?_) ?_
  · show Steps p.tables e below (T162.setTop (mkF m 237 #[.val (.long q0), .second, .val (.long q1), .second, .val (.long q2), .second, .val (.long q3), .second, rv b47, iv w0_13, .unset, .unset] [(.int (own_idle (q0 + ((13:Int64) * q1)) (13:Int32) [q0, (q0 + q1), (q0 + ((2:Int64) * q1)), (q0 + ((3:Int64) * q1)), (q0 + ((4:Int64) * q1)), (q0 + ((5:Int64) * q1)), (q0 + ((6:Int64) * q1)), (q0 + ((7:Int64) * q1)), (q0 + ((8:Int64) * q1)), (q0 + ((9:Int64) * q1)), (q0 + ((10:Int64) * q1)), (q0 + ((11:Int64) * q1)), (q0 + ((12:Int64) * q1)), (0:Int64), (0:Int64)])), (.int w0_13)])) _
    refine XS.ior X162.here hx rfl (hb hby at_237) rfl ?_
    show Steps p.tables e below (T162.setTop (mkF m 238 #[.val (.long q0), .second, .val (.long q1), .second, .val (.long q2), .second, .val (.long q3), .second, rv b47, iv w0_13, .unset, .unset] [(.int (w0_13 ||| (own_idle (q0 + ((13:Int64) * q1)) (13:Int32) [q0, (q0 + q1), (q0 + ((2:Int64) * q1)), (q0 + ((3:Int64) * q1)), (q0 + ((4:Int64) * q1)), (q0 + ((5:Int64) * q1)), (q0 + ((6:Int64) * q1)), (q0 + ((7:Int64) * q1)), (q0 + ((8:Int64) * q1)), (q0 + ((9:Int64) * q1)), (q0 + ((10:Int64) * q1)), (q0 + ((11:Int64) * q1)), (q0 + ((12:Int64) * q1)), (0:Int64), (0:Int64)])))])) _
    refine XS.istore X162.here hx rfl (hb hby at_238) rfl (l' := #[.val (.long q0), .second, .val (.long q1), .second, .val (.long q2), .second, .val (.long q3), .second, rv b47, iv w0_14, .unset, .unset]) (by rw [hw0_14]; rfl) ?_
    show Steps p.tables e below (T162.setTop (mkF m 240 #[.val (.long q0), .second, .val (.long q1), .second, .val (.long q2), .second, .val (.long q3), .second, rv b47, iv w0_14, .unset, .unset] [])) _
    refine XS.iload X162.here hx rfl (hb hby at_240) rfl ?_
    show Steps p.tables e below (T162.setTop (mkF m 242 #[.val (.long q0), .second, .val (.long q1), .second, .val (.long q2), .second, .val (.long q3), .second, rv b47, iv w0_14, .unset, .unset] [(.int w0_14)])) _
    refine XS.aload X162.here hx rfl (hb hby at_242) rfl rfl ?_
    show Steps p.tables e below (T162.setTop (mkF m 244 #[.val (.long q0), .second, .val (.long q1), .second, .val (.long q2), .second, .val (.long q3), .second, rv b47, iv w0_14, .unset, .unset] [(.ref b47), (.int w0_14)])) _
    refine XS.lloadN X162.here hx rfl (hb hby at_244) rfl ?_
    show Steps p.tables e below (T162.setTop (mkF m 245 #[.val (.long q0), .second, .val (.long q1), .second, .val (.long q2), .second, .val (.long q3), .second, rv b47, iv w0_14, .unset, .unset] [(.long q0), (.ref b47), (.int w0_14)])) _
    refine Jvm.Stand.ldc2J X162 hx hown (mvT hZ (own_h hw 31 rfl)) rfl (hb hby at_245) ?_
    show Steps p.tables e below (T162.setTop (mkF m 248 #[.val (.long q0), .second, .val (.long q1), .second, .val (.long q2), .second, .val (.long q3), .second, rv b47, iv w0_14, .unset, .unset] [(.long (14:Int64)), (.long q0), (.ref b47), (.int w0_14)])) _
    refine XS.lloadN X162.here hx rfl (hb hby at_248) rfl ?_
    show Steps p.tables e below (T162.setTop (mkF m 249 #[.val (.long q0), .second, .val (.long q1), .second, .val (.long q2), .second, .val (.long q3), .second, rv b47, iv w0_14, .unset, .unset] [(.long q1), (.long (14:Int64)), (.long q0), (.ref b47), (.int w0_14)])) _
    refine XS.lmul X162.here hx rfl (hb hby at_249) rfl ?_
    show Steps p.tables e below (T162.setTop (mkF m 250 #[.val (.long q0), .second, .val (.long q1), .second, .val (.long q2), .second, .val (.long q3), .second, rv b47, iv w0_14, .unset, .unset] [(.long ((14:Int64) * q1)), (.long q0), (.ref b47), (.int w0_14)])) _
    refine XS.ladd X162.here hx rfl (hb hby at_250) rfl ?_
    exact k
  have F171 := (F163.keep K162)
  obtain ⟨cq170, kq170, q170a, q170b, q170c⟩ := isOf hZ rfl F171
  obtain ⟨_, _, ⟨T170, L170, k170, n170⟩, -, X170, ⟨Lc170, hQ170, l170, y170, z170⟩, st170⟩ := X162.virtualBack hx (y := (⟨"com/example/fanout4/fanout4/xslt/CompilerWatch", "isIdleWith", "(J)Z"⟩ : MethodName)) (z := (⟨"com/example/fanout4/fanout4/xslt/CompilerWatch", "isIdleWith", "(J)Z"⟩ : MethodName)) hown (mvT hZ (own_h hw 12 rfl)) (mvT hZ (own_h hw 13 rfl)) (notFace_of_selects (args := #[]) (mvT hZ (own_h hw 15 rfl))) (mvT hZ (own_h hw 15 rfl)) (mvT hZ (own_h hw 14 rfl)) (by decide) (backOf (W := 1) (rm3 l Z aZ hw [] b47 (q0 + ((14:Int64) * q1)) (14:Int32) tt_50 [q0, (q0 + q1), (q0 + ((2:Int64) * q1)), (q0 + ((3:Int64) * q1)), (q0 + ((4:Int64) * q1)), (q0 + ((5:Int64) * q1)), (q0 + ((6:Int64) * q1)), (q0 + ((7:Int64) * q1)), (q0 + ((8:Int64) * q1)), (q0 + ((9:Int64) * q1)), (q0 + ((10:Int64) * q1)), (q0 + ((11:Int64) * q1)), (q0 + ((12:Int64) * q1)), (q0 + ((13:Int64) * q1)), (0:Int64)] T162.heap n0 Z167 F171 G168 G165 G169 ne56 ge_b47 ge57 (own_lit rfl)) hZ (own_h hw 16 rfl) (own_h hw 2 rfl) (by decide) (by decide)) q170a q170c (g := (mkF m 251 #[.val (.long q0), .second, .val (.long q1), .second, .val (.long q2), .second, .val (.long q3), .second, rv b47, iv w0_14, .unset, .unset] [(.long (q0 + ((14:Int64) * q1))), (.ref b47), (.int w0_14)])) rfl (by rw [hml]; rfl) (Steps.refl _) (argsL := [(.long (q0 + ((14:Int64) * q1)))]) (rest := [(.int w0_14)]) (lenOf own_pd1 rfl) rfl (by show 2 * 0 + _ ≤ _; exact Nat.le_of_eq rfl) (hb hby at_251) (fun _ _ => ⟨rfl, rfl, (by decide : 2 + 0 ≤ _), (by decide : 17 + 0 ≤ _)⟩)
  dsimp only [Pt.U, Pt.locs, Pt.cells, Pt.slots] at X170 l170 y170 z170 st170 hQ170
  subst l170 y170 z170
  obtain ⟨rfl, N170q, K170, G172, G173, G174⟩ := hQ170
  have N170 := Fr.app N162 N170q
  have Z175 : n0 ≤ T170.heap.size := Nat.le_trans Z167 K170.1
  have G176 : Fld Z T170.heap b47 "com/example/fanout4/fanout4/xslt/CompilerWatch" "samples" "I" (.int (15:Int32)) := G172
  have G177 : own_Longs Z T170.heap tt_50 [q0, (q0 + q1), (q0 + ((2:Int64) * q1)), (q0 + ((3:Int64) * q1)), (q0 + ((4:Int64) * q1)), (q0 + ((5:Int64) * q1)), (q0 + ((6:Int64) * q1)), (q0 + ((7:Int64) * q1)), (q0 + ((8:Int64) * q1)), (q0 + ((9:Int64) * q1)), (q0 + ((10:Int64) * q1)), (q0 + ((11:Int64) * q1)), (q0 + ((12:Int64) * q1)), (q0 + ((13:Int64) * q1)), (q0 + ((14:Int64) * q1))] := G174
  refine own_pre (fun _ k => st170.trans k) ?_
  obtain ⟨w0_15, hw0_15⟩ : ∃ z : Int32, z = (w0_14 ||| (own_idle (q0 + ((14:Int64) * q1)) (14:Int32) [q0, (q0 + q1), (q0 + ((2:Int64) * q1)), (q0 + ((3:Int64) * q1)), (q0 + ((4:Int64) * q1)), (q0 + ((5:Int64) * q1)), (q0 + ((6:Int64) * q1)), (q0 + ((7:Int64) * q1)), (q0 + ((8:Int64) * q1)), (q0 + ((9:Int64) * q1)), (q0 + ((10:Int64) * q1)), (q0 + ((11:Int64) * q1)), (q0 + ((12:Int64) * q1)), (q0 + ((13:Int64) * q1)), (0:Int64)])) := ⟨_, rfl⟩
  refine own_pre (A := T170.setTop (mkF m 263 #[.val (.long q0), .second, .val (.long q1), .second, .val (.long q2), .second, .val (.long q3), .second, rv b47, iv w0_15, .unset, .unset] [(.long (q0 + q2)), (.ref b47)])) (fun t k => ?_) ?_
  · show Steps p.tables e below (T170.setTop (mkF m 254 #[.val (.long q0), .second, .val (.long q1), .second, .val (.long q2), .second, .val (.long q3), .second, rv b47, iv w0_14, .unset, .unset] [(.int (own_idle (q0 + ((14:Int64) * q1)) (14:Int32) [q0, (q0 + q1), (q0 + ((2:Int64) * q1)), (q0 + ((3:Int64) * q1)), (q0 + ((4:Int64) * q1)), (q0 + ((5:Int64) * q1)), (q0 + ((6:Int64) * q1)), (q0 + ((7:Int64) * q1)), (q0 + ((8:Int64) * q1)), (q0 + ((9:Int64) * q1)), (q0 + ((10:Int64) * q1)), (q0 + ((11:Int64) * q1)), (q0 + ((12:Int64) * q1)), (q0 + ((13:Int64) * q1)), (0:Int64)])), (.int w0_14)])) _
    refine XS.ior X170.here hx rfl (hb hby at_254) rfl ?_
    show Steps p.tables e below (T170.setTop (mkF m 255 #[.val (.long q0), .second, .val (.long q1), .second, .val (.long q2), .second, .val (.long q3), .second, rv b47, iv w0_14, .unset, .unset] [(.int (w0_14 ||| (own_idle (q0 + ((14:Int64) * q1)) (14:Int32) [q0, (q0 + q1), (q0 + ((2:Int64) * q1)), (q0 + ((3:Int64) * q1)), (q0 + ((4:Int64) * q1)), (q0 + ((5:Int64) * q1)), (q0 + ((6:Int64) * q1)), (q0 + ((7:Int64) * q1)), (q0 + ((8:Int64) * q1)), (q0 + ((9:Int64) * q1)), (q0 + ((10:Int64) * q1)), (q0 + ((11:Int64) * q1)), (q0 + ((12:Int64) * q1)), (q0 + ((13:Int64) * q1)), (0:Int64)])))])) _
    refine XS.istore X170.here hx rfl (hb hby at_255) rfl (l' := #[.val (.long q0), .second, .val (.long q1), .second, .val (.long q2), .second, .val (.long q3), .second, rv b47, iv w0_15, .unset, .unset]) (by rw [hw0_15]; rfl) ?_
    show Steps p.tables e below (T170.setTop (mkF m 257 #[.val (.long q0), .second, .val (.long q1), .second, .val (.long q2), .second, .val (.long q3), .second, rv b47, iv w0_15, .unset, .unset] [])) _
    refine XS.aload X170.here hx rfl (hb hby at_257) rfl rfl ?_
    show Steps p.tables e below (T170.setTop (mkF m 259 #[.val (.long q0), .second, .val (.long q1), .second, .val (.long q2), .second, .val (.long q3), .second, rv b47, iv w0_15, .unset, .unset] [(.ref b47)])) _
    refine XS.lloadN X170.here hx rfl (hb hby at_259) rfl ?_
    show Steps p.tables e below (T170.setTop (mkF m 260 #[.val (.long q0), .second, .val (.long q1), .second, .val (.long q2), .second, .val (.long q3), .second, rv b47, iv w0_15, .unset, .unset] [(.long q0), (.ref b47)])) _
    refine XS.lload X170.here hx rfl (hb hby at_260) rfl ?_
    show Steps p.tables e below (T170.setTop (mkF m 262 #[.val (.long q0), .second, .val (.long q1), .second, .val (.long q2), .second, .val (.long q3), .second, rv b47, iv w0_15, .unset, .unset] [(.long q2), (.long q0), (.ref b47)])) _
    refine XS.ladd X170.here hx rfl (hb hby at_262) rfl ?_
    exact k
  have F179 := (F171.keep K170)
  obtain ⟨cq178, kq178, q178a, q178b, q178c⟩ := isOf hZ rfl F179
  obtain ⟨_, _, ⟨T178, L178, k178, n178⟩, -, X178, ⟨Lc178, hQ178, l178, y178, z178⟩, st178⟩ := X170.virtualBack hx (y := (⟨"com/example/fanout4/fanout4/xslt/CompilerWatch", "isIdleWith", "(J)Z"⟩ : MethodName)) (z := (⟨"com/example/fanout4/fanout4/xslt/CompilerWatch", "isIdleWith", "(J)Z"⟩ : MethodName)) hown (mvT hZ (own_h hw 12 rfl)) (mvT hZ (own_h hw 13 rfl)) (notFace_of_selects (args := #[]) (mvT hZ (own_h hw 15 rfl))) (mvT hZ (own_h hw 15 rfl)) (mvT hZ (own_h hw 14 rfl)) (by decide) (backOf (W := 0) (rm3 l Z aZ hw [] b47 (q0 + q2) (15:Int32) tt_50 [q0, (q0 + q1), (q0 + ((2:Int64) * q1)), (q0 + ((3:Int64) * q1)), (q0 + ((4:Int64) * q1)), (q0 + ((5:Int64) * q1)), (q0 + ((6:Int64) * q1)), (q0 + ((7:Int64) * q1)), (q0 + ((8:Int64) * q1)), (q0 + ((9:Int64) * q1)), (q0 + ((10:Int64) * q1)), (q0 + ((11:Int64) * q1)), (q0 + ((12:Int64) * q1)), (q0 + ((13:Int64) * q1)), (q0 + ((14:Int64) * q1))] T170.heap n0 Z175 F179 G176 G173 G177 ne56 ge_b47 ge57 (own_lit rfl)) hZ (own_h hw 16 rfl) (own_h hw 2 rfl) (by decide) (by decide)) q178a q178c (g := (mkF m 263 #[.val (.long q0), .second, .val (.long q1), .second, .val (.long q2), .second, .val (.long q3), .second, rv b47, iv w0_15, .unset, .unset] [(.long (q0 + q2)), (.ref b47)])) rfl (by rw [hml]; rfl) (Steps.refl _) (argsL := [(.long (q0 + q2))]) (rest := []) (lenOf own_pd1 rfl) rfl (by show 2 * 0 + _ ≤ _; exact Nat.le_of_eq rfl) (hb hby at_263) (fun _ _ => ⟨rfl, rfl, (by decide : 2 + 0 ≤ _), (by decide : 17 + 0 ≤ _)⟩)
  dsimp only [Pt.U, Pt.locs, Pt.cells, Pt.slots] at X178 l178 y178 z178 st178 hQ178
  subst l178 y178 z178
  obtain ⟨rfl, N178q, K178, G180, G181, G182⟩ := hQ178
  have N178 := Fr.app N170 N178q
  have Z183 : n0 ≤ T178.heap.size := Nat.le_trans Z175 K178.1
  have G184 : Fld Z T178.heap b47 "com/example/fanout4/fanout4/xslt/CompilerWatch" "samples" "I" (.int (16:Int32)) := G180
  have G185 : own_Longs Z T178.heap tt_50 [(q0 + q2), (q0 + q1), (q0 + ((2:Int64) * q1)), (q0 + ((3:Int64) * q1)), (q0 + ((4:Int64) * q1)), (q0 + ((5:Int64) * q1)), (q0 + ((6:Int64) * q1)), (q0 + ((7:Int64) * q1)), (q0 + ((8:Int64) * q1)), (q0 + ((9:Int64) * q1)), (q0 + ((10:Int64) * q1)), (q0 + ((11:Int64) * q1)), (q0 + ((12:Int64) * q1)), (q0 + ((13:Int64) * q1)), (q0 + ((14:Int64) * q1))] := G182
  refine own_pre (fun _ k => st178.trans k) ?_
  obtain ⟨w0_16, hw0_16⟩ : ∃ z : Int32, z = (own_idle (q0 + q2) (15:Int32) [q0, (q0 + q1), (q0 + ((2:Int64) * q1)), (q0 + ((3:Int64) * q1)), (q0 + ((4:Int64) * q1)), (q0 + ((5:Int64) * q1)), (q0 + ((6:Int64) * q1)), (q0 + ((7:Int64) * q1)), (q0 + ((8:Int64) * q1)), (q0 + ((9:Int64) * q1)), (q0 + ((10:Int64) * q1)), (q0 + ((11:Int64) * q1)), (q0 + ((12:Int64) * q1)), (q0 + ((13:Int64) * q1)), (q0 + ((14:Int64) * q1))]) := ⟨_, rfl⟩
  refine own_pre (A := T178.setTop (mkF m 276 #[.val (.long q0), .second, .val (.long q1), .second, .val (.long q2), .second, .val (.long q3), .second, rv b47, iv w0_15, iv w0_16, .unset] [(.long ((q0 + q1) + q3)), (.ref b47)])) (fun t k => ?_) ?_
  · show Steps p.tables e below (T178.setTop (mkF m 266 #[.val (.long q0), .second, .val (.long q1), .second, .val (.long q2), .second, .val (.long q3), .second, rv b47, iv w0_15, .unset, .unset] [(.int (own_idle (q0 + q2) (15:Int32) [q0, (q0 + q1), (q0 + ((2:Int64) * q1)), (q0 + ((3:Int64) * q1)), (q0 + ((4:Int64) * q1)), (q0 + ((5:Int64) * q1)), (q0 + ((6:Int64) * q1)), (q0 + ((7:Int64) * q1)), (q0 + ((8:Int64) * q1)), (q0 + ((9:Int64) * q1)), (q0 + ((10:Int64) * q1)), (q0 + ((11:Int64) * q1)), (q0 + ((12:Int64) * q1)), (q0 + ((13:Int64) * q1)), (q0 + ((14:Int64) * q1))]))])) _
    refine XS.istore X178.here hx rfl (hb hby at_266) rfl (l' := #[.val (.long q0), .second, .val (.long q1), .second, .val (.long q2), .second, .val (.long q3), .second, rv b47, iv w0_15, iv w0_16, .unset]) (by rw [hw0_16]; rfl) ?_
    show Steps p.tables e below (T178.setTop (mkF m 268 #[.val (.long q0), .second, .val (.long q1), .second, .val (.long q2), .second, .val (.long q3), .second, rv b47, iv w0_15, iv w0_16, .unset] [])) _
    refine XS.aload X178.here hx rfl (hb hby at_268) rfl rfl ?_
    show Steps p.tables e below (T178.setTop (mkF m 270 #[.val (.long q0), .second, .val (.long q1), .second, .val (.long q2), .second, .val (.long q3), .second, rv b47, iv w0_15, iv w0_16, .unset] [(.ref b47)])) _
    refine XS.lloadN X178.here hx rfl (hb hby at_270) rfl ?_
    show Steps p.tables e below (T178.setTop (mkF m 271 #[.val (.long q0), .second, .val (.long q1), .second, .val (.long q2), .second, .val (.long q3), .second, rv b47, iv w0_15, iv w0_16, .unset] [(.long q0), (.ref b47)])) _
    refine XS.lloadN X178.here hx rfl (hb hby at_271) rfl ?_
    show Steps p.tables e below (T178.setTop (mkF m 272 #[.val (.long q0), .second, .val (.long q1), .second, .val (.long q2), .second, .val (.long q3), .second, rv b47, iv w0_15, iv w0_16, .unset] [(.long q1), (.long q0), (.ref b47)])) _
    refine XS.ladd X178.here hx rfl (hb hby at_272) rfl ?_
    show Steps p.tables e below (T178.setTop (mkF m 273 #[.val (.long q0), .second, .val (.long q1), .second, .val (.long q2), .second, .val (.long q3), .second, rv b47, iv w0_15, iv w0_16, .unset] [(.long (q0 + q1)), (.ref b47)])) _
    refine XS.lload X178.here hx rfl (hb hby at_273) rfl ?_
    show Steps p.tables e below (T178.setTop (mkF m 275 #[.val (.long q0), .second, .val (.long q1), .second, .val (.long q2), .second, .val (.long q3), .second, rv b47, iv w0_15, iv w0_16, .unset] [(.long q3), (.long (q0 + q1)), (.ref b47)])) _
    refine XS.ladd X178.here hx rfl (hb hby at_275) rfl ?_
    exact k
  have F187 := (F179.keep K178)
  obtain ⟨cq186, kq186, q186a, q186b, q186c⟩ := isOf hZ rfl F187
  obtain ⟨_, _, ⟨T186, L186, k186, n186⟩, -, X186, ⟨Lc186, hQ186, l186, y186, z186⟩, st186⟩ := X178.virtualBack hx (y := (⟨"com/example/fanout4/fanout4/xslt/CompilerWatch", "isIdleWith", "(J)Z"⟩ : MethodName)) (z := (⟨"com/example/fanout4/fanout4/xslt/CompilerWatch", "isIdleWith", "(J)Z"⟩ : MethodName)) hown (mvT hZ (own_h hw 12 rfl)) (mvT hZ (own_h hw 13 rfl)) (notFace_of_selects (args := #[]) (mvT hZ (own_h hw 15 rfl))) (mvT hZ (own_h hw 15 rfl)) (mvT hZ (own_h hw 14 rfl)) (by decide) (backOf (W := 0) (rm3 l Z aZ hw [] b47 ((q0 + q1) + q3) (16:Int32) tt_50 [(q0 + q2), (q0 + q1), (q0 + ((2:Int64) * q1)), (q0 + ((3:Int64) * q1)), (q0 + ((4:Int64) * q1)), (q0 + ((5:Int64) * q1)), (q0 + ((6:Int64) * q1)), (q0 + ((7:Int64) * q1)), (q0 + ((8:Int64) * q1)), (q0 + ((9:Int64) * q1)), (q0 + ((10:Int64) * q1)), (q0 + ((11:Int64) * q1)), (q0 + ((12:Int64) * q1)), (q0 + ((13:Int64) * q1)), (q0 + ((14:Int64) * q1))] T178.heap n0 Z183 F187 G184 G181 G185 ne56 ge_b47 ge57 (own_lit rfl)) hZ (own_h hw 16 rfl) (own_h hw 2 rfl) (by decide) (by decide)) q186a q186c (g := (mkF m 276 #[.val (.long q0), .second, .val (.long q1), .second, .val (.long q2), .second, .val (.long q3), .second, rv b47, iv w0_15, iv w0_16, .unset] [(.long ((q0 + q1) + q3)), (.ref b47)])) rfl (by rw [hml]; rfl) (Steps.refl _) (argsL := [(.long ((q0 + q1) + q3))]) (rest := []) (lenOf own_pd1 rfl) rfl (by show 2 * 0 + _ ≤ _; exact Nat.le_of_eq rfl) (hb hby at_276) (fun _ _ => ⟨rfl, rfl, (by decide : 2 + 0 ≤ _), (by decide : 17 + 0 ≤ _)⟩)
  dsimp only [Pt.U, Pt.locs, Pt.cells, Pt.slots] at X186 l186 y186 z186 st186 hQ186
  subst l186 y186 z186
  obtain ⟨rfl, N186q, K186, G188, G189, G190⟩ := hQ186
  have N186 := Fr.app N178 N186q
  have Z191 : n0 ≤ T186.heap.size := Nat.le_trans Z183 K186.1
  have G192 : Fld Z T186.heap b47 "com/example/fanout4/fanout4/xslt/CompilerWatch" "samples" "I" (.int (17:Int32)) := G188
  have G193 : own_Longs Z T186.heap tt_50 [(q0 + q2), ((q0 + q1) + q3), (q0 + ((2:Int64) * q1)), (q0 + ((3:Int64) * q1)), (q0 + ((4:Int64) * q1)), (q0 + ((5:Int64) * q1)), (q0 + ((6:Int64) * q1)), (q0 + ((7:Int64) * q1)), (q0 + ((8:Int64) * q1)), (q0 + ((9:Int64) * q1)), (q0 + ((10:Int64) * q1)), (q0 + ((11:Int64) * q1)), (q0 + ((12:Int64) * q1)), (q0 + ((13:Int64) * q1)), (q0 + ((14:Int64) * q1))] := G190
  refine own_pre (fun _ k => st186.trans k) ?_
  obtain ⟨w0_17, hw0_17⟩ : ∃ z : Int32, z = (own_idle ((q0 + q1) + q3) (16:Int32) [(q0 + q2), (q0 + q1), (q0 + ((2:Int64) * q1)), (q0 + ((3:Int64) * q1)), (q0 + ((4:Int64) * q1)), (q0 + ((5:Int64) * q1)), (q0 + ((6:Int64) * q1)), (q0 + ((7:Int64) * q1)), (q0 + ((8:Int64) * q1)), (q0 + ((9:Int64) * q1)), (q0 + ((10:Int64) * q1)), (q0 + ((11:Int64) * q1)), (q0 + ((12:Int64) * q1)), (q0 + ((13:Int64) * q1)), (q0 + ((14:Int64) * q1))]) := ⟨_, rfl⟩
  refine own_pre (A := T186.setTop (mkF m 283 #[.val (.long q0), .second, .val (.long q1), .second, .val (.long q2), .second, .val (.long q3), .second, rv b47, iv w0_15, iv w0_16, iv w0_17] [(.int w0_15)])) (fun t k => ?_) ?_
  · show Steps p.tables e below (T186.setTop (mkF m 279 #[.val (.long q0), .second, .val (.long q1), .second, .val (.long q2), .second, .val (.long q3), .second, rv b47, iv w0_15, iv w0_16, .unset] [(.int (own_idle ((q0 + q1) + q3) (16:Int32) [(q0 + q2), (q0 + q1), (q0 + ((2:Int64) * q1)), (q0 + ((3:Int64) * q1)), (q0 + ((4:Int64) * q1)), (q0 + ((5:Int64) * q1)), (q0 + ((6:Int64) * q1)), (q0 + ((7:Int64) * q1)), (q0 + ((8:Int64) * q1)), (q0 + ((9:Int64) * q1)), (q0 + ((10:Int64) * q1)), (q0 + ((11:Int64) * q1)), (q0 + ((12:Int64) * q1)), (q0 + ((13:Int64) * q1)), (q0 + ((14:Int64) * q1))]))])) _
    refine XS.istore X186.here hx rfl (hb hby at_279) rfl (l' := #[.val (.long q0), .second, .val (.long q1), .second, .val (.long q2), .second, .val (.long q3), .second, rv b47, iv w0_15, iv w0_16, iv w0_17]) (by rw [hw0_17]; rfl) ?_
    show Steps p.tables e below (T186.setTop (mkF m 281 #[.val (.long q0), .second, .val (.long q1), .second, .val (.long q2), .second, .val (.long q3), .second, rv b47, iv w0_15, iv w0_16, iv w0_17] [])) _
    refine XS.iload X186.here hx rfl (hb hby at_281) rfl ?_
    exact k
  obtain ⟨w0_18, hw0_18⟩ : ∃ z : Int32, z = (if w0_15 = (0:Int32) then (if q2 < (100:Int64) then (if w0_16 = (1:Int32) then (if q3 < (100:Int64) then (if w0_17 = (1:Int32) then (1:Int32) else (0:Int32)) else (if w0_17 = (0:Int32) then (1:Int32) else (0:Int32))) else (0:Int32)) else (if w0_16 = (0:Int32) then (if q3 < (100:Int64) then (if w0_17 = (1:Int32) then (1:Int32) else (0:Int32)) else (if w0_17 = (0:Int32) then (1:Int32) else (0:Int32))) else (0:Int32))) else (0:Int32)) := ⟨_, rfl⟩
  refine own_pre (A := T186.setTop (mkF m 329 #[.val (.long q0), .second, .val (.long q1), .second, .val (.long q2), .second, .val (.long q3), .second, rv b47, iv w0_15, iv w0_16, iv w0_17] [(.int w0_18)])) (fun t k => ?_) ?_
  · show Steps p.tables e below (T186.setTop (mkF m 283 #[.val (.long q0), .second, .val (.long q1), .second, .val (.long q2), .second, .val (.long q3), .second, rv b47, iv w0_15, iv w0_16, iv w0_17] [(.int w0_15)])) _
    by_cases hm283_1 : w0_15 = (0:Int32)
    · refine XS.ifNo X186.here hx rfl (hb hby at_283) rfl (XT.i0_ne_f hm283_1) ?_
      show Steps p.tables e below (T186.setTop (mkF m 286 #[.val (.long q0), .second, .val (.long q1), .second, .val (.long q2), .second, .val (.long q3), .second, rv b47, iv w0_15, iv w0_16, iv w0_17] [])) _
      refine XS.iload X186.here hx rfl (hb hby at_286) rfl ?_
      show Steps p.tables e below (T186.setTop (mkF m 288 #[.val (.long q0), .second, .val (.long q1), .second, .val (.long q2), .second, .val (.long q3), .second, rv b47, iv w0_15, iv w0_16, iv w0_17] [(.int w0_16)])) _
      refine XS.lload X186.here hx rfl (hb hby at_288) rfl ?_
      show Steps p.tables e below (T186.setTop (mkF m 290 #[.val (.long q0), .second, .val (.long q1), .second, .val (.long q2), .second, .val (.long q3), .second, rv b47, iv w0_15, iv w0_16, iv w0_17] [(.long q2), (.int w0_16)])) _
      refine Jvm.Stand.ldc2J X186 hx hown (mvT hZ (own_h hw 33 rfl)) rfl (hb hby at_290) ?_
      show Steps p.tables e below (T186.setTop (mkF m 293 #[.val (.long q0), .second, .val (.long q1), .second, .val (.long q2), .second, .val (.long q3), .second, rv b47, iv w0_15, iv w0_16, iv w0_17] [(.long (100:Int64)), (.long q2), (.int w0_16)])) _
      refine XT.lcmp X186.here hx rfl (hb hby at_293) rfl ?_
      show Steps p.tables e below (T186.setTop (mkF m 294 #[.val (.long q0), .second, .val (.long q1), .second, .val (.long q2), .second, .val (.long q3), .second, rv b47, iv w0_15, iv w0_16, iv w0_17] [(.int (XT.cmpL q2 (100:Int64))), (.int w0_16)])) _
      by_cases hm294_2 : q2 < (100:Int64)
      · refine XS.ifNo X186.here hx rfl (hb hby at_294) rfl (XT.ll_ge_f hm294_2) ?_
        show Steps p.tables e below (T186.setTop (mkF m 297 #[.val (.long q0), .second, .val (.long q1), .second, .val (.long q2), .second, .val (.long q3), .second, rv b47, iv w0_15, iv w0_16, iv w0_17] [(.int w0_16)])) _
        refine XS.iconst X186.here hx rfl (hb hby at_297) ?_
        show Steps p.tables e below (T186.setTop (mkF m 298 #[.val (.long q0), .second, .val (.long q1), .second, .val (.long q2), .second, .val (.long q3), .second, rv b47, iv w0_15, iv w0_16, iv w0_17] [(.int (1:Int32)), (.int w0_16)])) _
        refine XS.goto X186.here hx rfl (pc0 := 298) (pc' := 302) rfl (hb hby at_298) (by decide) (by decide) ?_
        show Steps p.tables e below (T186.setTop (mkF m 302 #[.val (.long q0), .second, .val (.long q1), .second, .val (.long q2), .second, .val (.long q3), .second, rv b47, iv w0_15, iv w0_16, iv w0_17] [(.int (1:Int32)), (.int w0_16)])) _
        by_cases hm302_3 : w0_16 = (1:Int32)
        · refine XS.icmpNo X186.here hx rfl (hb hby at_302) rfl (XT.ii_ne_f hm302_3) ?_
          show Steps p.tables e below (T186.setTop (mkF m 305 #[.val (.long q0), .second, .val (.long q1), .second, .val (.long q2), .second, .val (.long q3), .second, rv b47, iv w0_15, iv w0_16, iv w0_17] [])) _
          refine XS.iload X186.here hx rfl (hb hby at_305) rfl ?_
          show Steps p.tables e below (T186.setTop (mkF m 307 #[.val (.long q0), .second, .val (.long q1), .second, .val (.long q2), .second, .val (.long q3), .second, rv b47, iv w0_15, iv w0_16, iv w0_17] [(.int w0_17)])) _
          refine XS.lload X186.here hx rfl (hb hby at_307) rfl ?_
          show Steps p.tables e below (T186.setTop (mkF m 309 #[.val (.long q0), .second, .val (.long q1), .second, .val (.long q2), .second, .val (.long q3), .second, rv b47, iv w0_15, iv w0_16, iv w0_17] [(.long q3), (.int w0_17)])) _
          refine Jvm.Stand.ldc2J X186 hx hown (mvT hZ (own_h hw 33 rfl)) rfl (hb hby at_309) ?_
          show Steps p.tables e below (T186.setTop (mkF m 312 #[.val (.long q0), .second, .val (.long q1), .second, .val (.long q2), .second, .val (.long q3), .second, rv b47, iv w0_15, iv w0_16, iv w0_17] [(.long (100:Int64)), (.long q3), (.int w0_17)])) _
          refine XT.lcmp X186.here hx rfl (hb hby at_312) rfl ?_
          show Steps p.tables e below (T186.setTop (mkF m 313 #[.val (.long q0), .second, .val (.long q1), .second, .val (.long q2), .second, .val (.long q3), .second, rv b47, iv w0_15, iv w0_16, iv w0_17] [(.int (XT.cmpL q3 (100:Int64))), (.int w0_17)])) _
          by_cases hm313_4 : q3 < (100:Int64)
          · refine XS.ifNo X186.here hx rfl (hb hby at_313) rfl (XT.ll_ge_f hm313_4) ?_
            show Steps p.tables e below (T186.setTop (mkF m 316 #[.val (.long q0), .second, .val (.long q1), .second, .val (.long q2), .second, .val (.long q3), .second, rv b47, iv w0_15, iv w0_16, iv w0_17] [(.int w0_17)])) _
            refine XS.iconst X186.here hx rfl (hb hby at_316) ?_
            show Steps p.tables e below (T186.setTop (mkF m 317 #[.val (.long q0), .second, .val (.long q1), .second, .val (.long q2), .second, .val (.long q3), .second, rv b47, iv w0_15, iv w0_16, iv w0_17] [(.int (1:Int32)), (.int w0_17)])) _
            refine XS.goto X186.here hx rfl (pc0 := 317) (pc' := 321) rfl (hb hby at_317) (by decide) (by decide) ?_
            show Steps p.tables e below (T186.setTop (mkF m 321 #[.val (.long q0), .second, .val (.long q1), .second, .val (.long q2), .second, .val (.long q3), .second, rv b47, iv w0_15, iv w0_16, iv w0_17] [(.int (1:Int32)), (.int w0_17)])) _
            by_cases hm321_5 : w0_17 = (1:Int32)
            · refine XS.icmpNo X186.here hx rfl (hb hby at_321) rfl (XT.ii_ne_f hm321_5) ?_
              show Steps p.tables e below (T186.setTop (mkF m 324 #[.val (.long q0), .second, .val (.long q1), .second, .val (.long q2), .second, .val (.long q3), .second, rv b47, iv w0_15, iv w0_16, iv w0_17] [])) _
              refine XS.iconst X186.here hx rfl (hb hby at_324) ?_
              show Steps p.tables e below (T186.setTop (mkF m 325 #[.val (.long q0), .second, .val (.long q1), .second, .val (.long q2), .second, .val (.long q3), .second, rv b47, iv w0_15, iv w0_16, iv w0_17] [(.int (1:Int32))])) _
              refine XS.goto X186.here hx rfl (pc0 := 325) (pc' := 329) rfl (hb hby at_325) (by decide) (by decide) ?_
              rw [hw0_18.trans (((((if_pos hm283_1).trans (if_pos hm294_2)).trans (if_pos hm302_3)).trans (if_pos hm313_4)).trans (if_pos hm321_5))] at k
              exact k
            · refine XS.icmpYes X186.here hx rfl (pc0 := 321) (pc' := 328) rfl (hb hby at_321) rfl (XT.ii_ne_t hm321_5) (by decide) (by decide) ?_
              show Steps p.tables e below (T186.setTop (mkF m 328 #[.val (.long q0), .second, .val (.long q1), .second, .val (.long q2), .second, .val (.long q3), .second, rv b47, iv w0_15, iv w0_16, iv w0_17] [])) _
              refine XS.iconst X186.here hx rfl (hb hby at_328) ?_
              rw [hw0_18.trans (((((if_pos hm283_1).trans (if_pos hm294_2)).trans (if_pos hm302_3)).trans (if_pos hm313_4)).trans (if_neg hm321_5))] at k
              exact k
          · refine XS.ifYes X186.here hx rfl (pc0 := 313) (pc' := 320) rfl (hb hby at_313) rfl (XT.ll_ge_t hm313_4) (by decide) (by decide) ?_
            show Steps p.tables e below (T186.setTop (mkF m 320 #[.val (.long q0), .second, .val (.long q1), .second, .val (.long q2), .second, .val (.long q3), .second, rv b47, iv w0_15, iv w0_16, iv w0_17] [(.int w0_17)])) _
            refine XS.iconst X186.here hx rfl (hb hby at_320) ?_
            show Steps p.tables e below (T186.setTop (mkF m 321 #[.val (.long q0), .second, .val (.long q1), .second, .val (.long q2), .second, .val (.long q3), .second, rv b47, iv w0_15, iv w0_16, iv w0_17] [(.int (0:Int32)), (.int w0_17)])) _
            by_cases hm321_6 : w0_17 = (0:Int32)
            · refine XS.icmpNo X186.here hx rfl (hb hby at_321) rfl (XT.ii_ne_f hm321_6) ?_
              show Steps p.tables e below (T186.setTop (mkF m 324 #[.val (.long q0), .second, .val (.long q1), .second, .val (.long q2), .second, .val (.long q3), .second, rv b47, iv w0_15, iv w0_16, iv w0_17] [])) _
              refine XS.iconst X186.here hx rfl (hb hby at_324) ?_
              show Steps p.tables e below (T186.setTop (mkF m 325 #[.val (.long q0), .second, .val (.long q1), .second, .val (.long q2), .second, .val (.long q3), .second, rv b47, iv w0_15, iv w0_16, iv w0_17] [(.int (1:Int32))])) _
              refine XS.goto X186.here hx rfl (pc0 := 325) (pc' := 329) rfl (hb hby at_325) (by decide) (by decide) ?_
              rw [hw0_18.trans (((((if_pos hm283_1).trans (if_pos hm294_2)).trans (if_pos hm302_3)).trans (if_neg hm313_4)).trans (if_pos hm321_6))] at k
              exact k
            · refine XS.icmpYes X186.here hx rfl (pc0 := 321) (pc' := 328) rfl (hb hby at_321) rfl (XT.ii_ne_t hm321_6) (by decide) (by decide) ?_
              show Steps p.tables e below (T186.setTop (mkF m 328 #[.val (.long q0), .second, .val (.long q1), .second, .val (.long q2), .second, .val (.long q3), .second, rv b47, iv w0_15, iv w0_16, iv w0_17] [])) _
              refine XS.iconst X186.here hx rfl (hb hby at_328) ?_
              rw [hw0_18.trans (((((if_pos hm283_1).trans (if_pos hm294_2)).trans (if_pos hm302_3)).trans (if_neg hm313_4)).trans (if_neg hm321_6))] at k
              exact k
        · refine XS.icmpYes X186.here hx rfl (pc0 := 302) (pc' := 328) rfl (hb hby at_302) rfl (XT.ii_ne_t hm302_3) (by decide) (by decide) ?_
          show Steps p.tables e below (T186.setTop (mkF m 328 #[.val (.long q0), .second, .val (.long q1), .second, .val (.long q2), .second, .val (.long q3), .second, rv b47, iv w0_15, iv w0_16, iv w0_17] [])) _
          refine XS.iconst X186.here hx rfl (hb hby at_328) ?_
          rw [hw0_18.trans (((if_pos hm283_1).trans (if_pos hm294_2)).trans (if_neg hm302_3))] at k
          exact k
      · refine XS.ifYes X186.here hx rfl (pc0 := 294) (pc' := 301) rfl (hb hby at_294) rfl (XT.ll_ge_t hm294_2) (by decide) (by decide) ?_
        show Steps p.tables e below (T186.setTop (mkF m 301 #[.val (.long q0), .second, .val (.long q1), .second, .val (.long q2), .second, .val (.long q3), .second, rv b47, iv w0_15, iv w0_16, iv w0_17] [(.int w0_16)])) _
        refine XS.iconst X186.here hx rfl (hb hby at_301) ?_
        show Steps p.tables e below (T186.setTop (mkF m 302 #[.val (.long q0), .second, .val (.long q1), .second, .val (.long q2), .second, .val (.long q3), .second, rv b47, iv w0_15, iv w0_16, iv w0_17] [(.int (0:Int32)), (.int w0_16)])) _
        by_cases hm302_7 : w0_16 = (0:Int32)
        · refine XS.icmpNo X186.here hx rfl (hb hby at_302) rfl (XT.ii_ne_f hm302_7) ?_
          show Steps p.tables e below (T186.setTop (mkF m 305 #[.val (.long q0), .second, .val (.long q1), .second, .val (.long q2), .second, .val (.long q3), .second, rv b47, iv w0_15, iv w0_16, iv w0_17] [])) _
          refine XS.iload X186.here hx rfl (hb hby at_305) rfl ?_
          show Steps p.tables e below (T186.setTop (mkF m 307 #[.val (.long q0), .second, .val (.long q1), .second, .val (.long q2), .second, .val (.long q3), .second, rv b47, iv w0_15, iv w0_16, iv w0_17] [(.int w0_17)])) _
          refine XS.lload X186.here hx rfl (hb hby at_307) rfl ?_
          show Steps p.tables e below (T186.setTop (mkF m 309 #[.val (.long q0), .second, .val (.long q1), .second, .val (.long q2), .second, .val (.long q3), .second, rv b47, iv w0_15, iv w0_16, iv w0_17] [(.long q3), (.int w0_17)])) _
          refine Jvm.Stand.ldc2J X186 hx hown (mvT hZ (own_h hw 33 rfl)) rfl (hb hby at_309) ?_
          show Steps p.tables e below (T186.setTop (mkF m 312 #[.val (.long q0), .second, .val (.long q1), .second, .val (.long q2), .second, .val (.long q3), .second, rv b47, iv w0_15, iv w0_16, iv w0_17] [(.long (100:Int64)), (.long q3), (.int w0_17)])) _
          refine XT.lcmp X186.here hx rfl (hb hby at_312) rfl ?_
          show Steps p.tables e below (T186.setTop (mkF m 313 #[.val (.long q0), .second, .val (.long q1), .second, .val (.long q2), .second, .val (.long q3), .second, rv b47, iv w0_15, iv w0_16, iv w0_17] [(.int (XT.cmpL q3 (100:Int64))), (.int w0_17)])) _
          by_cases hm313_8 : q3 < (100:Int64)
          · refine XS.ifNo X186.here hx rfl (hb hby at_313) rfl (XT.ll_ge_f hm313_8) ?_
            show Steps p.tables e below (T186.setTop (mkF m 316 #[.val (.long q0), .second, .val (.long q1), .second, .val (.long q2), .second, .val (.long q3), .second, rv b47, iv w0_15, iv w0_16, iv w0_17] [(.int w0_17)])) _
            refine XS.iconst X186.here hx rfl (hb hby at_316) ?_
            show Steps p.tables e below (T186.setTop (mkF m 317 #[.val (.long q0), .second, .val (.long q1), .second, .val (.long q2), .second, .val (.long q3), .second, rv b47, iv w0_15, iv w0_16, iv w0_17] [(.int (1:Int32)), (.int w0_17)])) _
            refine XS.goto X186.here hx rfl (pc0 := 317) (pc' := 321) rfl (hb hby at_317) (by decide) (by decide) ?_
            show Steps p.tables e below (T186.setTop (mkF m 321 #[.val (.long q0), .second, .val (.long q1), .second, .val (.long q2), .second, .val (.long q3), .second, rv b47, iv w0_15, iv w0_16, iv w0_17] [(.int (1:Int32)), (.int w0_17)])) _
            by_cases hm321_9 : w0_17 = (1:Int32)
            · refine XS.icmpNo X186.here hx rfl (hb hby at_321) rfl (XT.ii_ne_f hm321_9) ?_
              show Steps p.tables e below (T186.setTop (mkF m 324 #[.val (.long q0), .second, .val (.long q1), .second, .val (.long q2), .second, .val (.long q3), .second, rv b47, iv w0_15, iv w0_16, iv w0_17] [])) _
              refine XS.iconst X186.here hx rfl (hb hby at_324) ?_
              show Steps p.tables e below (T186.setTop (mkF m 325 #[.val (.long q0), .second, .val (.long q1), .second, .val (.long q2), .second, .val (.long q3), .second, rv b47, iv w0_15, iv w0_16, iv w0_17] [(.int (1:Int32))])) _
              refine XS.goto X186.here hx rfl (pc0 := 325) (pc' := 329) rfl (hb hby at_325) (by decide) (by decide) ?_
              rw [hw0_18.trans (((((if_pos hm283_1).trans (if_neg hm294_2)).trans (if_pos hm302_7)).trans (if_pos hm313_8)).trans (if_pos hm321_9))] at k
              exact k
            · refine XS.icmpYes X186.here hx rfl (pc0 := 321) (pc' := 328) rfl (hb hby at_321) rfl (XT.ii_ne_t hm321_9) (by decide) (by decide) ?_
              show Steps p.tables e below (T186.setTop (mkF m 328 #[.val (.long q0), .second, .val (.long q1), .second, .val (.long q2), .second, .val (.long q3), .second, rv b47, iv w0_15, iv w0_16, iv w0_17] [])) _
              refine XS.iconst X186.here hx rfl (hb hby at_328) ?_
              rw [hw0_18.trans (((((if_pos hm283_1).trans (if_neg hm294_2)).trans (if_pos hm302_7)).trans (if_pos hm313_8)).trans (if_neg hm321_9))] at k
              exact k
          · refine XS.ifYes X186.here hx rfl (pc0 := 313) (pc' := 320) rfl (hb hby at_313) rfl (XT.ll_ge_t hm313_8) (by decide) (by decide) ?_
            show Steps p.tables e below (T186.setTop (mkF m 320 #[.val (.long q0), .second, .val (.long q1), .second, .val (.long q2), .second, .val (.long q3), .second, rv b47, iv w0_15, iv w0_16, iv w0_17] [(.int w0_17)])) _
            refine XS.iconst X186.here hx rfl (hb hby at_320) ?_
            show Steps p.tables e below (T186.setTop (mkF m 321 #[.val (.long q0), .second, .val (.long q1), .second, .val (.long q2), .second, .val (.long q3), .second, rv b47, iv w0_15, iv w0_16, iv w0_17] [(.int (0:Int32)), (.int w0_17)])) _
            by_cases hm321_10 : w0_17 = (0:Int32)
            · refine XS.icmpNo X186.here hx rfl (hb hby at_321) rfl (XT.ii_ne_f hm321_10) ?_
              show Steps p.tables e below (T186.setTop (mkF m 324 #[.val (.long q0), .second, .val (.long q1), .second, .val (.long q2), .second, .val (.long q3), .second, rv b47, iv w0_15, iv w0_16, iv w0_17] [])) _
              refine XS.iconst X186.here hx rfl (hb hby at_324) ?_
              show Steps p.tables e below (T186.setTop (mkF m 325 #[.val (.long q0), .second, .val (.long q1), .second, .val (.long q2), .second, .val (.long q3), .second, rv b47, iv w0_15, iv w0_16, iv w0_17] [(.int (1:Int32))])) _
              refine XS.goto X186.here hx rfl (pc0 := 325) (pc' := 329) rfl (hb hby at_325) (by decide) (by decide) ?_
              rw [hw0_18.trans (((((if_pos hm283_1).trans (if_neg hm294_2)).trans (if_pos hm302_7)).trans (if_neg hm313_8)).trans (if_pos hm321_10))] at k
              exact k
            · refine XS.icmpYes X186.here hx rfl (pc0 := 321) (pc' := 328) rfl (hb hby at_321) rfl (XT.ii_ne_t hm321_10) (by decide) (by decide) ?_
              show Steps p.tables e below (T186.setTop (mkF m 328 #[.val (.long q0), .second, .val (.long q1), .second, .val (.long q2), .second, .val (.long q3), .second, rv b47, iv w0_15, iv w0_16, iv w0_17] [])) _
              refine XS.iconst X186.here hx rfl (hb hby at_328) ?_
              rw [hw0_18.trans (((((if_pos hm283_1).trans (if_neg hm294_2)).trans (if_pos hm302_7)).trans (if_neg hm313_8)).trans (if_neg hm321_10))] at k
              exact k
        · refine XS.icmpYes X186.here hx rfl (pc0 := 302) (pc' := 328) rfl (hb hby at_302) rfl (XT.ii_ne_t hm302_7) (by decide) (by decide) ?_
          show Steps p.tables e below (T186.setTop (mkF m 328 #[.val (.long q0), .second, .val (.long q1), .second, .val (.long q2), .second, .val (.long q3), .second, rv b47, iv w0_15, iv w0_16, iv w0_17] [])) _
          refine XS.iconst X186.here hx rfl (hb hby at_328) ?_
          rw [hw0_18.trans (((if_pos hm283_1).trans (if_neg hm294_2)).trans (if_neg hm302_7))] at k
          exact k
    · refine XS.ifYes X186.here hx rfl (pc0 := 283) (pc' := 328) rfl (hb hby at_283) rfl (XT.i0_ne_t hm283_1) (by decide) (by decide) ?_
      show Steps p.tables e below (T186.setTop (mkF m 328 #[.val (.long q0), .second, .val (.long q1), .second, .val (.long q2), .second, .val (.long q3), .second, rv b47, iv w0_15, iv w0_16, iv w0_17] [])) _
      refine XS.iconst X186.here hx rfl (hb hby at_328) ?_
      rw [hw0_18.trans (if_neg hm283_1)] at k
      exact k
  have hv194 : (w0_18 &&& 1) = f0 q0 q1 q2 q3 := by subst hw0_1 hw0_2 hw0_3 hw0_4 hw0_5 hw0_6 hw0_7 hw0_8 hw0_9 hw0_10 hw0_11 hw0_12 hw0_13 hw0_14 hw0_15 hw0_16 hw0_17 hw0_18; rfl
  exact own_end X186 (BodyLoose.notSynchronized Bd) (fun h => by rw [Bd.returns] at h; cases h) (v := some (.int (w0_18 &&& 1))) (fun fs hr => retN X186 hx (t := .boolean) Bd.returns (by simp) (hb hby at_329) hr) (by show Q0 Z q0 q1 q2 q3 h0 n0 _ T186.heap _; exact ⟨(congrArg (fun z => some (Value.int z)) hv194), N186⟩) (by decide) (by decide)
theorem own_idle0 (x : Int64) (n : Int32) (L : List Int64) (h : n < 15) : own_idle x n L = 0 := by simp only [own_idle, if_pos h]
theorem own_s1 (a b : Int64) : a + b - a = b := by rw [Int64.add_comm]; exact Int64.add_sub_cancel b a
theorem own_plain (q0 q1 q2 q3 : Int64) : f0 q0 q1 q2 q3 = 1 := by
  simp only [f0]
  rw [own_idle0 _ 0 _ (by decide), own_idle0 _ 1 _ (by decide), own_idle0 _ 2 _ (by decide), own_idle0 _ 3 _ (by decide), own_idle0 _ 4 _ (by decide), own_idle0 _ 5 _ (by decide), own_idle0 _ 6 _ (by decide), own_idle0 _ 7 _ (by decide), own_idle0 _ 8 _ (by decide), own_idle0 _ 9 _ (by decide), own_idle0 _ 10 _ (by decide), own_idle0 _ 11 _ (by decide), own_idle0 _ 12 _ (by decide), own_idle0 _ 13 _ (by decide), own_idle0 _ 14 _ (by decide)]
  have i1 : ∀ (a b c d e f g h i j k l m n : Int64), own_idle (q0 + q2) 15 [q0, a, b, c, d, e, f, g, h, i, j, k, l, m, n] = if q2 < 100 then 1 else 0 := by
    intro a b c d e f g h i j k l m n
    show (if (15:Int32) < 15 then 0 else if (q0 + q2 - q0) < 100 then 1 else 0) = _
    rw [own_s1, if_neg (by decide)]
  have i2 : ∀ (a b c d e f g h i j k l m n : Int64), own_idle (q0 + q1 + q3) 16 [a, q0 + q1, b, c, d, e, f, g, h, i, j, k, l, m, n] = if q3 < 100 then 1 else 0 := by
    intro a b c d e f g h i j k l m n
    show (if (16:Int32) < 15 then 0 else if (q0 + q1 + q3 - (q0 + q1)) < 100 then 1 else 0) = _
    rw [own_s1, if_neg (by decide)]
  simp only [i1, i2]
  by_cases a : q2 < 100 <;> by_cases b : q3 < 100 <;> simp [a, b]
set_option maxRecDepth 65536 in
set_option maxHeartbeats 40000000 in
theorem comes_1 {Post : Tables → Env → Array Value → State → Outcome → State → Prop} (hpost : ∀ tb e args s v u, (limb_1_1.after args s (.returned v) u = true ∧ limb_1_2.after args s (.returned v) u = true ∧ True) → FrameEnd s (.returned v) u (Jvm.fieldLocs frame_1_writes args s ++ Jvm.arrayLocs frame_1_arrays args s ++ Jvm.staticLocs frame_1_statics s) 16 128 → Post tb e args s (.returned v) u) :
    ArmFor flags0 classFile x code maxLocals ret World_1 tables_1 room_1 Calls_1 rest_1 Pre_1 Post := by
  intro l hfl _ _ p e ha hc hk s m args below hf hA hF happ hP
  obtain ⟨hcalls, hrest, hpre⟩ := hP
  obtain ⟨-, -, -, hnamed, -, -, -, hat⟩ := (Spec.applies_iff hf).mp happ
  obtain ⟨hg, hn⟩ := and_e (Cond.before_iff.mp (show (Jvm.Cond.and given_1 narrow_1).before args s = true from hpre))
  obtain ⟨g2, g3⟩ := and_e hg
  obtain ⟨g4, g5⟩ := and_e g3
  obtain ⟨g6, g7⟩ := and_e g5
  obtain ⟨g8, g9⟩ := and_e g7
  obtain ⟨w0, w1, w2, w3, rfl⟩ : ∃ w0 w1 w2 w3 : Value, args = #[w0, w1, w2, w3] := by
    have hs : args.size = 4 := by simpa [Cond.value, given_1] using g2
    obtain ⟨L⟩ := args
    match L, hs with
    | [w0, w1, w2, w3], _ => exact ⟨w0, w1, w2, w3, rfl⟩
  have hw := fun d (hd : d ∈ tables_1) => atoms_spec (ws := Jvm.Cond.code x code maxLocals ret :: tables_1) hat d (List.mem_cons_of_mem _ hd)
  obtain ⟨i0, ei0⟩ := isL_v g4
  obtain rfl : w0 = (.long i0) := Option.some.inj ei0
  obtain ⟨i1, ei1⟩ := isL_v g6
  obtain rfl : w1 = (.long i1) := Option.some.inj ei1
  obtain ⟨i2, ei2⟩ := isL_v g8
  obtain rfl : w2 = (.long i2) := Option.some.inj ei2
  obtain ⟨i3, ei3⟩ := isL_v g9
  obtain rfl : w3 = (.long i3) := Option.some.inj ei3
  obtain ⟨n, o, h1, h2, h3, _, L, rfl, ⟨hv, N⟩, hq⟩ := rm0 l s _ hw tables_1 i0 i1 i2 i3 s.heap s.heap.size (Nat.le_refl _)  p e ha hc hk s m _ below hf ((Spec.applies_iff_loose hf).mp happ).1 ⟨rfl, State.Warmed39.refl s, rfl⟩ trivial
  rw [own_plain] at hv
  subst hv
  refine ⟨n, _, h1, h2, h3, hpost _ _ _ _ _ _ ⟨Cond.after_iff.mpr rfl, Cond.after_iff.mpr (eq_i res_at (Term.int_eval (1)) rfl), trivial⟩ ⟨hq.1, hq.2.1, (hq.2.2.sift fun y hy => Or.inr (N y hy)).mono (by decide) (by decide)⟩⟩
theorem main_1_1 : Claimed_1_1 := comes_1 fun _ _ _ _ _ _ h hF => ⟨h.1, hF⟩
theorem main_1_2 : Claimed_1_2 := comes_1 fun _ _ _ _ _ _ h hF => ⟨h.2.1, hF⟩
end Jvm.Pilot.@@N@@
namespace Jvm.Pilot.@@N@@
open Jvm Jvm.ClassFile Sem Op Lib Jvm.Free Jvm.Stand Jvm.Pilot.@@N@@.Jvm.D
/-! MADE BY PROGRAM (witnessworld.py) out of the Statement's table words and the real class files: 11 classes; the members and pool entries that the words name. The judged class is class 1, her method 1. -/
namespace start1
open Jvm.ClassFile
def u (s : String) : CpInfo := .utf8 (stringToUtf16 s)
/-- a pool by its gaps: so many unusable entries, then the entry; so many at the end -/
def gap : Nat → List CpInfo → List CpInfo
  | 0, r => r
  | n + 1, r => .unusable :: gap n r
def poolList (es : List (Nat × CpInfo)) (last : Nat) : List CpInfo := es.foldr (fun e r => gap e.1 (e.2 :: r)) (gap last [])
def pool (es : List (Nat × CpInfo)) (last : Nat) : Array CpInfo := ⟨poolList es last⟩
def fileOf (pool : Array CpInfo) (this : Nat) (attrs : Array Attribute := #[]) (ms : Array MethodInfo := #[]) (fl : Nat := 33) (sup : Nat := 0) (ifs : Array Nat := #[]) (fds : Array FieldInfo := #[]) : ClassFile where
  minorVersion := 0
  majorVersion := 65
  constantPool := pool
  accessFlags := fl
  thisClass := this
  superClass := sup
  interfaces := ifs
  fields := fds
  methods := ms
  attributes := attrs
def plain (name : String) (sup : Option ClassId) : Class where
  name := name
  kind := .ordinary
  loader := none
  accessFlags := 33
  super := sup
  interfaces := #[]
  cf := none
  fields := #[]
  methods := #[]
  instanceTypes := #[]
  staticTypes := #[]
  resolved := #[]
  callSites := []
  init := .initialized
  statics := none
  mirror := none

def pool0 : Array CpInfo := pool [(5, u "<init>"), (0, u "()V"), (1, .class_ 10), (1, u "java/lang/Object")] 113

def k0c0 : Code := { maxStack := 0, maxLocals := 1, code := object_method_1_code, exceptionTable := #[], attributes := #[] }
def k0m0 : Method := { name := "<init>", desc := "()V", sig := { parameters := [], returnType := none }, accessFlags := 1, code := some k0c0 }
/-- java/lang/Object -/
def k0 : Class := { plain "java/lang/Object" none with
  accessFlags := 33
  interfaces := #[]
  cf := some (fileOf pool0 8 #[] #[{ accessFlags := 1, nameIndex := 5, descriptorIndex := 6, attributes := #[] }] 33 0 #[] #[])
  fields := #[]
  methods := #[k0m0]
  instanceTypes := #[]
  staticTypes := #[]
  resolved := Array.replicate 124 none
  statics := none }

def pool1 : Array CpInfo := pool [(2, .class_ 4), (0, .nameAndType 5 6), (0, u "java/lang/Object"), (0, u "<init>"), (0, u "()V"), (0, .class_ 8), (0, u "com/example/fanout4/fanout4/xslt/CompilerWatch"), (0, .methodref 7 3), (0, .methodref 7 11), (0, .nameAndType 12 13), (0, u "isIdleWith"), (0, u "(J)Z"), (0, .long 2), (1, .long 3), (1, .long 4), (1, .long 5), (1, .long 6), (1, .long 7), (1, .long 8), (1, .long 9), (1, .long 10), (1, .long 11), (1, .long 12), (1, .long 13), (1, .long 14), (1, .long 100), (1, .class_ 43), (0, u "com/example/fanout4/fanout4/xslt/CompilerWatchIsIdleWithPinLaw"), (2, u "law"), (0, u "(JJJJ)Z")] 3

def k1m0 : Method := { name := "<init>", desc := "()V", sig := { parameters := [], returnType := none }, accessFlags := 1, code := none }
def k1c1 : Code := { maxStack := 8, maxLocals := 12, code := code, exceptionTable := #[], attributes := #[] }
def k1m1 : Method := { name := "law", desc := "(JJJJ)Z", sig := { parameters := [.long, .long, .long, .long], returnType := some .boolean }, accessFlags := 9, code := some k1c1 }
/-- com/example/fanout4/fanout4/xslt/CompilerWatchIsIdleWithPinLaw -/
def k1 : Class := { plain "com/example/fanout4/fanout4/xslt/CompilerWatchIsIdleWithPinLaw" (some 0) with
  accessFlags := 49
  interfaces := #[]
  cf := some (fileOf pool1 42 #[] #[{ accessFlags := 1, nameIndex := 5, descriptorIndex := 6, attributes := #[] }, { accessFlags := 9, nameIndex := 46, descriptorIndex := 47, attributes := #[] }] 49 2 #[] #[])
  fields := #[]
  methods := #[k1m0, k1m1]
  instanceTypes := #[]
  staticTypes := #[]
  resolved := Array.replicate 51 none
  statics := none }

def pool2 : Array CpInfo := pool [(1, .methodref 2 3), (0, .class_ 4), (0, .nameAndType 5 6), (0, u "java/lang/Object"), (0, u "<init>"), (0, u "()V"), (0, .class_ 8), (0, u "com/example/fanout4/fanout4/xslt/CompilerWatch"), (0, .fieldref 7 10), (0, .nameAndType 11 12), (0, u "totals"), (0, u "[J"), (18, .fieldref 7 32), (0, .nameAndType 33 34), (0, u "samples"), (0, u "I"), (0, .long 100), (39, u "isIdleWith"), (0, u "(J)Z"), (8, u "SAMPLE_MILLIS"), (0, u "J"), (1, u "SAMPLES"), (1, u "BUSY_MILLIS")] 25

def k2c0 : Code := { maxStack := 2, maxLocals := 1, code := prog_213_method_1_code, exceptionTable := #[], attributes := #[] }
def k2m0 : Method := { name := "<init>", desc := "()V", sig := { parameters := [], returnType := none }, accessFlags := 0, code := some k2c0 }
def k2c1 : Code := { maxStack := 4, maxLocals := 5, code := prog_213_method_3_code, exceptionTable := #[], attributes := #[] }
def k2m1 : Method := { name := "isIdleWith", desc := "(J)Z", sig := { parameters := [.long], returnType := some .boolean }, accessFlags := 0, code := some k2c1 }
/-- com/example/fanout4/fanout4/xslt/CompilerWatch -/
def k2 : Class := { plain "com/example/fanout4/fanout4/xslt/CompilerWatch" (some 0) with
  accessFlags := 32
  interfaces := #[]
  cf := some (fileOf pool2 7 #[] #[{ accessFlags := 0, nameIndex := 5, descriptorIndex := 6, attributes := #[] }, { accessFlags := 0, nameIndex := 75, descriptorIndex := 76, attributes := #[] }] 32 2 #[] #[{ accessFlags := 26, nameIndex := 85, descriptorIndex := 86, attributes := #[] }, { accessFlags := 26, nameIndex := 88, descriptorIndex := 34, attributes := #[] }, { accessFlags := 26, nameIndex := 90, descriptorIndex := 86, attributes := #[] }, { accessFlags := 18, nameIndex := 11, descriptorIndex := 12, attributes := #[] }, { accessFlags := 2, nameIndex := 33, descriptorIndex := 34, attributes := #[] }])
  fields := #[{ name := "SAMPLE_MILLIS", type := .long, accessFlags := 26, slot := 0, constantValue := 0 }, { name := "SAMPLES", type := .int, accessFlags := 26, slot := 1, constantValue := 0 }, { name := "BUSY_MILLIS", type := .long, accessFlags := 26, slot := 2, constantValue := 0 }, { name := "totals", type := (.array .long), accessFlags := 18, slot := 0, constantValue := 0 }, { name := "samples", type := .int, accessFlags := 2, slot := 1, constantValue := 0 }]
  methods := #[k2m0, k2m1]
  instanceTypes := #[(.array .long), .int]
  staticTypes := #[.long, .int, .long]
  resolved := Array.replicate 116 none
  statics := none }

def pool3 : Array CpInfo := pool [(1, u "java/lang/Cloneable"), (0, .class_ 1), (0, u "java/lang/Object"), (0, .class_ 3)] 3

/-- java/lang/Cloneable -/
def k3 : Class := { plain "java/lang/Cloneable" (some 0) with
  accessFlags := 1537
  interfaces := #[]
  cf := some (fileOf pool3 2 #[] #[] 1537 4 #[] #[])
  fields := #[]
  methods := #[]
  instanceTypes := #[]
  staticTypes := #[]
  resolved := Array.replicate 8 none
  statics := none }

def pool4 : Array CpInfo := pool [(1, u "java/io/Serializable"), (0, .class_ 1), (0, u "java/lang/Object"), (0, .class_ 3)] 3

/-- java/io/Serializable -/
def k4 : Class := { plain "java/io/Serializable" (some 0) with
  accessFlags := 1537
  interfaces := #[]
  cf := some (fileOf pool4 2 #[] #[] 1537 4 #[] #[])
  fields := #[]
  methods := #[]
  instanceTypes := #[]
  staticTypes := #[]
  resolved := Array.replicate 8 none
  statics := none }

/-- the primitive byte -/
def k5 : Class := { plain "byte" none with kind := .primitive 'B', accessFlags := 0x411 }
/-- [B -/
def k6 : Class := { plain "[B" (some 0) with kind := .array 5 .byte, interfaces := #[3, 4], accessFlags := 1041 }

/-- the primitive int -/
def k7 : Class := { plain "int" none with kind := .primitive 'I', accessFlags := 0x411 }
/-- [I -/
def k8 : Class := { plain "[I" (some 0) with kind := .array 7 .int, interfaces := #[3, 4], accessFlags := 1041 }

/-- the primitive long -/
def k9 : Class := { plain "long" none with kind := .primitive 'J', accessFlags := 0x411 }
/-- [J -/
def k10 : Class := { plain "[J" (some 0) with kind := .array 9 .long, interfaces := #[3, 4], accessFlags := 1041 }

def heap : Heap := #[]
def classes : Array Class := #[k0, k1, k2, k3, k4, k5, k6, k7, k8, k9, k10]
def interned : List (Array UInt16 × Addr) := []
def slotsUsed : Nat := 0
def theMethod : MethodId := ⟨1, 1⟩
def args0 : Array Value := #[.long 5, .long 5, .long 5, .long 5]
def aboutOver (below : List Frame) : State where
  vm := { classes := classes, interned := interned.toArray }
  heap := heap
  slotsUsed := slotsUsed
  threads := #[{ frames := .invoking theMethod args0 :: below }]
def below0 : List Frame := [.native { method := ⟨0, 0⟩, args := #[] }]
def about1 : State := aboutOver below0
def p0 : Program := .bare "" "" ""
def e0 : Env := launch0.env 0 0 0
theorem w_frames : about1.frames = Frame.invoking theMethod args0 :: below0 := rfl
set_option maxRecDepth 65536 in
theorem w_args : argsFit about1.vm theMethod args0 = true := by decide +kernel
set_option maxRecDepth 65536 in
theorem w_heap : heapFits about1 = true := by decide +kernel
set_option maxRecDepth 65536 in
theorem w_runnable : about1.curStatus? = some .runnable := by decide +kernel
set_option maxRecDepth 65536 in
theorem w_alone : about1.alone = true := by decide +kernel
set_option maxRecDepth 65536 in
theorem w_named : about1.methodNamed? x = some theMethod := by decide +kernel
set_option maxRecDepth 65536 in
theorem w_hears : about1.hears theMethod below0 = true := by decide +kernel
set_option maxRecDepth 65536 in
theorem w_ripe : about1.ripe theMethod args0 below0 = true := by decide +kernel
theorem w_running : about1.status = .running := rfl
set_option maxRecDepth 65536 in
theorem w_room : about1.hasRoom e0.platform room_1 = true :=
  launch0.hasRoom_least _ room_1 (by decide +kernel) (by decide +kernel) (by decide +kernel) (by decide +kernel) (by decide +kernel) (by decide +kernel)
theorem allAtoms_all (ts : List Jvm.Cond) (a : Array Jvm.Value) (st : Jvm.State) : (allAtoms ts).before a st = ts.all (fun c => c.before a st) := by
  induction ts with
  | nil => rfl
  | cons c t ih =>
    show (Jvm.Cond.and c (allAtoms t)).before a st = _
    rw [Jvm.Cond.before_and, ih, List.all_cons]
def words1 : List Jvm.Cond := Jvm.Cond.code x code maxLocals ret :: tables_1
/-- a 'code' word, met by the world's own term for the bytes: nothing is compared byte by byte -/
theorem code_word {y : MethodName} {bytes : ByteArray} {mx : Nat} {rt : Option FieldType} {a : Array Value} {s : State} {m : MethodId} {meth : Method} {c : Code} (h1 : s.methodNamed? y = some m) (h2 : s.vm.method? m = some meth) (h3 : meth.code = some c) (h4 : c.code = bytes)
    (h5 : (c.maxLocals == mx && c.exceptionTable.isEmpty && decide (c.maxStack ≤ mostOperands) && decide (meth.sig.returnType = rt) && !meth.locks && decide (parseMethodDescriptor y.desc = some meth.sig)) = true) : (Jvm.Cond.code y bytes mx rt).before a s = true := by
  simp only [Bool.and_eq_true, beq_iff_eq, Bool.not_eq_true', decide_eq_true_eq] at h5
  obtain ⟨⟨⟨⟨⟨g1, g2⟩, g3⟩, g4⟩, g5⟩, g6⟩ := h5
  simp [Cond.before, Cond.holds, Cond.value, h1, h2, h3, h4, g1, g2, g3, g4, g5, g6]
def isCode : Jvm.Cond → Bool
  | .code _ _ _ _ => true
  | _ => false
theorem all_split {L : List Jvm.Cond} {P : Jvm.Cond → Bool} (h1 : L.all (fun c => isCode c || P c) = true) (h2 : ∀ c ∈ L.filter isCode, P c = true) : L.all P = true := by
  refine List.all_eq_true.mpr fun c hc => ?_
  have h := List.all_eq_true.mp h1 c hc
  rcases Bool.eq_false_or_eq_true (isCode c) with hi | hi
  · exact h2 c (List.mem_filter.mpr ⟨hc, hi⟩)
  · simpa [hi] using h
set_option maxRecDepth 65536 in
theorem w_c0 : (Jvm.Cond.code x code maxLocals ret).before args0 about1 = true := code_word (m := ⟨1, 1⟩) (meth := k1m1) (c := k1c1) (by decide +kernel) rfl rfl rfl (by decide +kernel)
set_option maxRecDepth 65536 in
theorem w_c1 : (Jvm.Cond.code ({ cls := "com/example/fanout4/fanout4/xslt/CompilerWatch", name := "<init>", desc := "()V" } : Jvm.MethodName) prog_213_method_1_code (1 : Nat) (Option.none : Option Jvm.ClassFile.FieldType)).before args0 about1 = true := code_word (m := ⟨2, 0⟩) (meth := k2m0) (c := k2c0) (by decide +kernel) rfl rfl rfl (by decide +kernel)
set_option maxRecDepth 65536 in
theorem w_c2 : (Jvm.Cond.code ({ cls := "java/lang/Object", name := "<init>", desc := "()V" } : Jvm.MethodName) object_method_1_code (1 : Nat) (Option.none : Option Jvm.ClassFile.FieldType)).before args0 about1 = true := code_word (m := ⟨0, 0⟩) (meth := k0m0) (c := k0c0) (by decide +kernel) rfl rfl rfl (by decide +kernel)
set_option maxRecDepth 65536 in
theorem w_c3 : (Jvm.Cond.code ({ cls := "com/example/fanout4/fanout4/xslt/CompilerWatch", name := "isIdleWith", desc := "(J)Z" } : Jvm.MethodName) prog_213_method_3_code (5 : Nat) (Option.some Jvm.ClassFile.FieldType.boolean)).before args0 about1 = true := code_word (m := ⟨2, 1⟩) (meth := k2m1) (c := k2c1) (by decide +kernel) rfl rfl rfl (by decide +kernel)
def codes1 : List Jvm.Cond := [Jvm.Cond.code x code maxLocals ret, Jvm.Cond.code ({ cls := "com/example/fanout4/fanout4/xslt/CompilerWatch", name := "<init>", desc := "()V" } : Jvm.MethodName) prog_213_method_1_code (1 : Nat) (Option.none : Option Jvm.ClassFile.FieldType), Jvm.Cond.code ({ cls := "java/lang/Object", name := "<init>", desc := "()V" } : Jvm.MethodName) object_method_1_code (1 : Nat) (Option.none : Option Jvm.ClassFile.FieldType), Jvm.Cond.code ({ cls := "com/example/fanout4/fanout4/xslt/CompilerWatch", name := "isIdleWith", desc := "(J)Z" } : Jvm.MethodName) prog_213_method_3_code (5 : Nat) (Option.some Jvm.ClassFile.FieldType.boolean)]
set_option maxRecDepth 65536 in
theorem codes_eq : words1.filter isCode = codes1 := rfl
theorem w_codes : ∀ c ∈ words1.filter isCode, c.before args0 about1 = true := by
  rw [codes_eq]
  intro c hc
  simp only [codes1, List.mem_cons, List.not_mem_nil, or_false] at hc
  rcases hc with rfl | rfl | rfl | rfl
  · exact w_c0
  · exact w_c1
  · exact w_c2
  · exact w_c3
set_option maxRecDepth 65536 in
theorem w_t1 : (words1.take 24).all (fun c => isCode c || c.before args0 about1) = true := by decide +kernel
set_option maxRecDepth 65536 in
theorem w_t2 : (words1.drop 24).all (fun c => isCode c || c.before args0 about1) = true := by decide +kernel
theorem w_tables : (allAtoms (Jvm.Cond.code x code maxLocals ret :: tables_1)).before args0 about1 = true := by
  rw [allAtoms_all]
  show words1.all (fun c => c.before args0 about1) = true
  refine all_split ?_ w_codes
  rw [← List.take_append_drop 24 words1, List.all_append, w_t1, w_t2]
  rfl
set_option maxRecDepth 65536 in
theorem w_case : (Jvm.Cond.and given_1 narrow_1).before args0 about1 = true := by decide +kernel
theorem w_applies : (headSpec (Jvm.Cond.code x code maxLocals ret :: tables_1) room_1).applies x e0.platform about1 = true :=
  (Spec.applies_iff w_frames).mpr ⟨w_running, w_runnable, w_alone, w_named, w_hears, w_ripe, w_room, w_tables⟩
theorem atStart : AtStart classFile x code maxLocals ret World_1 tables_1 room_1 Calls_1 rest_1 Pre_1 launch0 p0 e0 about1 theMethod args0 below0 :=
  ⟨lists_1, trivial, launch0.admits_env _ _ _, launch0.least_env, fairChoices_fair.cas, fairChoices_fair.clock, w_frames, w_args, w_heap, w_applies, trivial, trivial, w_case⟩
end start1
theorem witness_1 : WitnessClaimed_1 := ⟨start1.p0, start1.e0, start1.about1, start1.theMethod, start1.args0, start1.below0, start1.atStart⟩
end Jvm.Pilot.@@N@@
