import JvmDerived
import JvmDerived.Pilot.@@N@@Statement
import JvmDerived.Pilot.@@N@@Code
set_option linter.unusedVariables false
set_option linter.unusedSimpArgs false
@@BLOCK:NumsL.lean.txt@@
namespace Jvm.Pilot.@@N@@
open Jvm Jvm.ClassFile Sem Op Lib Jvm.Free Jvm.Stand Jvm.LawKit Jvm.RoadKit Bundle Jvm.Pilot.@@N@@.Jvm.D
def own_Goes (p : Program) (e : Env) (below : List Frame) (s : State) (Q : Option Value → Heap → List Loc → Prop) (ce sl : Nat) (A : State) : Prop :=
  ∃ s₂ o, Steps p.tables e below A s₂ ∧ s₂.status = .running ∧ Ended s₂ below o ∧ ∃ v L, o = .returned v ∧ Q v s₂.heap L ∧ FrameEnd s o s₂ L ce sl
theorem own_pre {p : Program} {e : Env} {below : List Frame} {s : State} {Q : Option Value → Heap → List Loc → Prop} {ce sl : Nat} {A B : State} (h : ∀ t, Steps p.tables e below A t → Steps p.tables e below B t) (G : own_Goes p e below s Q ce sl A) : own_Goes p e below s Q ce sl B := by
  obtain ⟨s₂, o, h1, r⟩ := G
  exact ⟨s₂, o, h _ h1, r⟩
theorem own_end {p : Program} {l : Launch} {e : Env} {R : Room} {s : State} {m : MethodId} {args : Array Value} {below : List Frame} {meth : Method} {c : Code} {T : State} {locs : List Loc} {cells slots : Nat} (X : Stand p l e R s m args below meth c T locs cells slots)
    {v : Option Value} {Q : Option Value → Heap → List Loc → Prop} {ce sl : Nat} {A : State} (hlocks : meth.locks = false) (hv : meth.sig.returnType = none → v = none)
    (hstep : ∀ fs, (∀ (f : JFrame) (acts : List Action), f.method = m → f.locked = none → f.entered = [] → (doReturn e (T.setTop f) acts v).1 = T.setFrames fs) → Steps p.tables e below A (T.setFrames fs))
    (hQ : Q v T.heap locs) (hc : cells ≤ ce) (hs : slots ≤ sl) : own_Goes p e below s Q ce sl A := by
  obtain ⟨fs, hr, hrun, hended, hW, hsame⟩ := X.leave hv hlocks
  exact ⟨_, _, hstep fs hr, hrun, hended, _, _, rfl, hQ, ⟨_, rfl⟩, hW, hsame.mono hc hs⟩
theorem own_lrem_eq (x y : Int64) : x - (x / y) * y = x % y := Int64.toInt_inj.mp (by rw [Jvm.Kit.i64_rem, Int64.toInt_mod])
theorem own_lrem {tb : Tables} [Ours tb] {e : Env} {below : List Frame} {T target : State} {m : MethodId} {c : Code} {g : JFrame} (h : At T m c below) (hx : tb.exec = Jvm.exec) (hg : g.method = m) {x y : Int64} {rest : List Value} (hd : decode c.code g.pc = .ok (.lrem, 1)) (hs : g.stack = .long y :: .long x :: rest) (hy : y ≠ 0)
    (hr : Steps tb e below (T.setTop { g with pc := g.pc + 1, stack := .long (x % y) :: rest }) target) : Steps tb e below (T.setTop g) target :=
  XS.lrem h hx hg hd hs hy (by rw [own_lrem_eq]; exact hr)
theorem own_h {a0 : Array Value} {Z : State} {L : List Jvm.Cond} (hw : ∀ d ∈ L, d.before a0 Z = true) (i : Nat) {d : Jvm.Cond} (h : L[i]? = some d) : d.before a0 Z = true := hw _ (List.mem_of_getElem? h)
abbrev own_In (j : Int32) (n : Nat) : Prop := 0 ≤ j.toInt ∧ j.toInt < (n : Int)
def own_at (xs : List Int32) (j : Int32) : Int32 := xs.getD j.toNatClampNeg 0
def own_atJ (xs : List Int64) (j : Int32) : Int64 := xs.getD j.toNatClampNeg 0
def own_len {α : Type} (xs : List α) : Int32 := xs.length.toInt32
theorem own_getD (xs : List Int32) (i : Nat) : (xs.map Value.int).getD i (.int 0) = .int (xs.getD i 0) := by
  simp only [List.getD_eq_getElem?_getD, List.getElem?_map]
  cases xs[i]? <;> rfl
theorem own_getDJ (xs : List Int64) (i : Nat) : (xs.map Value.long).getD i (.long 0) = .long (xs.getD i 0) := by
  simp only [List.getD_eq_getElem?_getD, List.getElem?_map]
  cases xs[i]? <;> rfl
theorem own_pad {ty : FieldType} {Z : State} {h : Heap} {a : Addr} {k : ClassId} {n : Int32} {dv : Value} (F : Arv Z h a k ty n [] dv) : Arv Z h a k ty n (List.replicate n.toNatClampNeg dv) dv := F.pad (pad_rep [] dv n.toNatClampNeg)
section OwnArr
variable {p : Program} {l : Launch} {e : Env} {R : Room} {s : State} {m : MethodId} {args : Array Value} {below : List Frame} {meth : Method} {c : Code} {T : State} {locs : List Loc} {cells slots : Nat} {Z : State} {h h' : Heap} {a b : Addr} {sl : Nat} {v d : Value} {ws : List Addr} {ty : FieldType} {vs : List Value}
def own_Arr (ty : FieldType) (d : Value) (Z : State) (h : Heap) (a : Addr) (vs : List Value) : Prop := ∃ k n, Arv Z h a k ty n vs d ∧ n.toNatClampNeg = vs.length
theorem own_Arr.ext (F : own_Arr ty d Z h a vs) (E : Ext h h') : own_Arr ty d Z h' a vs := by obtain ⟨k, n, A, r⟩ := F; exact ⟨k, n, A.ext E, r⟩
theorem own_Arr.other (F : own_Arr ty d Z h b vs) (W : Wr h h' a sl v) (q : b ≠ a) : own_Arr ty d Z h' b vs := by obtain ⟨k, n, A, r⟩ := F; exact ⟨k, n, A.other W q, r⟩
theorem own_Arr.keep (F : own_Arr ty d Z h a vs) (K : Keep h h' ws) (q : a ∉ ws) : own_Arr ty d Z h' a vs := by obtain ⟨k, n, A, r⟩ := F; exact ⟨k, n, A.keep K q, r⟩
theorem own_Arr.lt (F : own_Arr ty d Z h a vs) : a < h.size := by obtain ⟨k, n, A, r⟩ := F; exact A.lt
theorem own_inb {cl : Cell} {n j : Int32} {N : Nat} (S : cl.slots.size = n.toNatClampNeg) (q : n.toNatClampNeg = N) (hj : own_In j N) : ¬ (j < 0 ∨ cl.slots.size ≤ j.toNatClampNeg) := by
  rw [S, q]; obtain ⟨q1, q2⟩ := hj
  have e0 : (0 : Int32).toInt = 0 := rfl
  simp only [Int32.lt_iff_toInt_lt, Int32.toNatClampNeg, e0] at *; omega
theorem own_ixlt {j : Int32} {N : Nat} (hj : own_In j N) : j.toNatClampNeg < N := by obtain ⟨q1, q2⟩ := hj; simp only [Int32.toNatClampNeg]; omega
def own_Ints (Z : State) (h : Heap) (a : Addr) (xs : List Int32) : Prop := own_Arr .int (.int 0) Z h a (xs.map Value.int)
def own_Longs (Z : State) (h : Heap) (a : Addr) (xs : List Int64) : Prop := own_Arr .long (.long 0) Z h a (xs.map Value.long)
def own_Bytes (Z : State) (h : Heap) (a : Addr) (xs : List Int32) : Prop := own_Arr .byte (.int 0) Z h a (xs.map Value.int)
def own_Chars (Z : State) (h : Heap) (a : Addr) (xs : List Int32) : Prop := own_Arr .char (.int 0) Z h a (xs.map Value.int)
theorem own_Ints.ext {xs : List Int32} (F : own_Ints Z h a xs) (E : Ext h h') : own_Ints Z h' a xs := own_Arr.ext F E
theorem own_Ints.other {xs : List Int32} (F : own_Ints Z h b xs) (W : Wr h h' a sl v) (q : b ≠ a) : own_Ints Z h' b xs := own_Arr.other F W q
theorem own_Ints.keep {xs : List Int32} (F : own_Ints Z h a xs) (K : Keep h h' ws) (q : a ∉ ws) : own_Ints Z h' a xs := own_Arr.keep F K q
theorem own_Ints.lt {xs : List Int32} (F : own_Ints Z h a xs) : a < h.size := own_Arr.lt F
theorem own_newI {k : ClassId} {n : Int32} (A : Arr Z h a (newA k .int n) .int) (q : ¬ n < 0) : own_Ints Z h a (List.replicate n.toNatClampNeg 0) := by
  refine ⟨k, n, ?_, by simp⟩
  have := own_pad (Arv.new A q)
  rw [List.map_replicate]
  exact this
theorem own_iaload {target : State} (X : Stand p l e R s m args below meth c T locs cells slots) (hx : p.tables.exec = Jvm.exec) (hZ : Z.Warmed39 s.vm) (eT : T.heap = h) {xs : List Int32} {j : Int32} (F : own_Ints Z h a xs) (hj : own_In j xs.length) {g : JFrame} (hg : g.method = m) {rest : List Value} (hs : g.stack = .int j :: .ref a :: rest) (hd : decode c.code g.pc = .ok (.iaload, 1))
    (hr : Steps p.tables e below (T.setTop { g with pc := g.pc + 1, stack := .int (own_at xs j) :: rest }) target) : Steps p.tables e below (T.setTop g) target := by
  obtain ⟨k, n, ⟨cl, A, q1, S, q3, H, G⟩, q⟩ := F
  have hin := own_inb S q (by rw [List.length_map]; exact hj)
  exact X.iaload hx (j := j) (v := .int (own_at xs j)) (by rw [eT]; exact A.1) (State.isArrayOf_alike hZ.alike A.2.1) A.2.2 hin (H.at hin (own_getD xs _)) (g := g) hg hs hd _ hr
theorem own_arrlenI {target : State} (X : Stand p l e R s m args below meth c T locs cells slots) (hx : p.tables.exec = Jvm.exec) (hZ : Z.Warmed39 s.vm) (eT : T.heap = h) {xs : List Int32} (F : own_Ints Z h a xs) {g : JFrame} (hg : g.method = m) {rest : List Value} (hs : g.stack = .ref a :: rest) (hd : decode c.code g.pc = .ok (.arraylength, 1))
    (hr : Steps p.tables e below (T.setTop { g with pc := g.pc + 1, stack := .int (own_len xs) :: rest }) target) : Steps p.tables e below (T.setTop g) target := by
  obtain ⟨k, n, ⟨cl, A, q1, S, q3, H, G⟩, q⟩ := F
  refine X.arraylength hx (by rw [eT]; exact A.1) (State.isArrayOf_alike hZ.alike A.2.1) (g := g) hg hs hd _ ?_
  have e1 : cl.slots.size = xs.length := by rw [S, q, List.length_map]
  rw [e1]
  exact hr
theorem own_iastore (X : Stand p l e R s m args below meth c T locs cells slots) (hx : p.tables.exec = Jvm.exec) (hZ : Z.Warmed39 s.vm) (eT : T.heap = h) {xs : List Int32} {j : Int32} {x : Int32} (F : own_Ints Z h a xs) (hj : own_In j xs.length) {g : JFrame} (hg : g.method = m) {rest : List Value} (hs : g.stack = .int x :: .int j :: .ref a :: rest) (hd : decode c.code g.pc = .ok (.iastore, 1)) :
    ∃ T' h', Stand p l e R s m args below meth c T' (locs ++ [⟨a, j.toNatClampNeg⟩]) cells slots ∧ T'.heap = h' ∧ Wr h h' a j.toNatClampNeg (.int (x)) ∧ own_Ints Z h' a (xs.set j.toNatClampNeg (x)) ∧ ∀ target, Steps p.tables e below (T'.setTop { g with pc := g.pc + 1, stack := rest }) target → Steps p.tables e below (T.setTop g) target := by
  obtain ⟨k, n, ⟨cl, A, q1, S, q3, H, G⟩, q⟩ := F
  have hin := own_inb S q (by rw [List.length_map]; exact hj)
  obtain ⟨T', h', X', e', W, st⟩ := stI X hx hZ eT A (j := j) (x := x) hin (g := g) hg hs hd
  refine ⟨T', h', X', e', W, ⟨k, n, ?_, by rw [q]; simp⟩, st⟩
  rw [List.map_set]
  exact Arv.set A q1 S q3 H G rfl W _ rfl (by rw [List.length_map]; exact own_ixlt hj)
theorem own_Longs.ext {xs : List Int64} (F : own_Longs Z h a xs) (E : Ext h h') : own_Longs Z h' a xs := own_Arr.ext F E
theorem own_Longs.other {xs : List Int64} (F : own_Longs Z h b xs) (W : Wr h h' a sl v) (q : b ≠ a) : own_Longs Z h' b xs := own_Arr.other F W q
theorem own_Longs.keep {xs : List Int64} (F : own_Longs Z h a xs) (K : Keep h h' ws) (q : a ∉ ws) : own_Longs Z h' a xs := own_Arr.keep F K q
theorem own_Longs.lt {xs : List Int64} (F : own_Longs Z h a xs) : a < h.size := own_Arr.lt F
theorem own_newJ {k : ClassId} {n : Int32} (A : Arr Z h a (newA k .long n) .long) (q : ¬ n < 0) : own_Longs Z h a (List.replicate n.toNatClampNeg 0) := by
  refine ⟨k, n, ?_, by simp⟩
  have := own_pad (Arv.new A q)
  rw [List.map_replicate]
  exact this
theorem own_laload {target : State} (X : Stand p l e R s m args below meth c T locs cells slots) (hx : p.tables.exec = Jvm.exec) (hZ : Z.Warmed39 s.vm) (eT : T.heap = h) {xs : List Int64} {j : Int32} (F : own_Longs Z h a xs) (hj : own_In j xs.length) {g : JFrame} (hg : g.method = m) {rest : List Value} (hs : g.stack = .int j :: .ref a :: rest) (hd : decode c.code g.pc = .ok (.laload, 1))
    (hr : Steps p.tables e below (T.setTop { g with pc := g.pc + 1, stack := .long (own_atJ xs j) :: rest }) target) : Steps p.tables e below (T.setTop g) target := by
  obtain ⟨k, n, ⟨cl, A, q1, S, q3, H, G⟩, q⟩ := F
  have hin := own_inb S q (by rw [List.length_map]; exact hj)
  exact X.laload hx (j := j) (v := .long (own_atJ xs j)) (by rw [eT]; exact A.1) (State.isArrayOf_alike hZ.alike A.2.1) A.2.2 hin (H.at hin (own_getDJ xs _)) (g := g) hg hs hd _ hr
theorem own_arrlenJ {target : State} (X : Stand p l e R s m args below meth c T locs cells slots) (hx : p.tables.exec = Jvm.exec) (hZ : Z.Warmed39 s.vm) (eT : T.heap = h) {xs : List Int64} (F : own_Longs Z h a xs) {g : JFrame} (hg : g.method = m) {rest : List Value} (hs : g.stack = .ref a :: rest) (hd : decode c.code g.pc = .ok (.arraylength, 1))
    (hr : Steps p.tables e below (T.setTop { g with pc := g.pc + 1, stack := .int (own_len xs) :: rest }) target) : Steps p.tables e below (T.setTop g) target := by
  obtain ⟨k, n, ⟨cl, A, q1, S, q3, H, G⟩, q⟩ := F
  refine X.arraylength hx (by rw [eT]; exact A.1) (State.isArrayOf_alike hZ.alike A.2.1) (g := g) hg hs hd _ ?_
  have e1 : cl.slots.size = xs.length := by rw [S, q, List.length_map]
  rw [e1]
  exact hr
theorem own_lastore (X : Stand p l e R s m args below meth c T locs cells slots) (hx : p.tables.exec = Jvm.exec) (hZ : Z.Warmed39 s.vm) (eT : T.heap = h) {xs : List Int64} {j : Int32} {x : Int64} (F : own_Longs Z h a xs) (hj : own_In j xs.length) {g : JFrame} (hg : g.method = m) {rest : List Value} (hs : g.stack = .long x :: .int j :: .ref a :: rest) (hd : decode c.code g.pc = .ok (.lastore, 1)) :
    ∃ T' h', Stand p l e R s m args below meth c T' (locs ++ [⟨a, j.toNatClampNeg⟩]) cells slots ∧ T'.heap = h' ∧ Wr h h' a j.toNatClampNeg (.long (x)) ∧ own_Longs Z h' a (xs.set j.toNatClampNeg (x)) ∧ ∀ target, Steps p.tables e below (T'.setTop { g with pc := g.pc + 1, stack := rest }) target → Steps p.tables e below (T.setTop g) target := by
  obtain ⟨k, n, ⟨cl, A, q1, S, q3, H, G⟩, q⟩ := F
  have hin := own_inb S q (by rw [List.length_map]; exact hj)
  obtain ⟨T', h', X', e', W, st⟩ := stJ X hx hZ eT A (j := j) (x := x) hin (g := g) hg hs hd
  refine ⟨T', h', X', e', W, ⟨k, n, ?_, by rw [q]; simp⟩, st⟩
  rw [List.map_set]
  exact Arv.set A q1 S q3 H G rfl W _ rfl (by rw [List.length_map]; exact own_ixlt hj)
theorem own_Bytes.ext {xs : List Int32} (F : own_Bytes Z h a xs) (E : Ext h h') : own_Bytes Z h' a xs := own_Arr.ext F E
theorem own_Bytes.other {xs : List Int32} (F : own_Bytes Z h b xs) (W : Wr h h' a sl v) (q : b ≠ a) : own_Bytes Z h' b xs := own_Arr.other F W q
theorem own_Bytes.keep {xs : List Int32} (F : own_Bytes Z h a xs) (K : Keep h h' ws) (q : a ∉ ws) : own_Bytes Z h' a xs := own_Arr.keep F K q
theorem own_Bytes.lt {xs : List Int32} (F : own_Bytes Z h a xs) : a < h.size := own_Arr.lt F
theorem own_newB {k : ClassId} {n : Int32} (A : Arr Z h a (newA k .byte n) .byte) (q : ¬ n < 0) : own_Bytes Z h a (List.replicate n.toNatClampNeg 0) := by
  refine ⟨k, n, ?_, by simp⟩
  have := own_pad (Arv.new A q)
  rw [List.map_replicate]
  exact this
theorem own_baload {target : State} (X : Stand p l e R s m args below meth c T locs cells slots) (hx : p.tables.exec = Jvm.exec) (hZ : Z.Warmed39 s.vm) (eT : T.heap = h) {xs : List Int32} {j : Int32} (F : own_Bytes Z h a xs) (hj : own_In j xs.length) {g : JFrame} (hg : g.method = m) {rest : List Value} (hs : g.stack = .int j :: .ref a :: rest) (hd : decode c.code g.pc = .ok (.baload, 1))
    (hr : Steps p.tables e below (T.setTop { g with pc := g.pc + 1, stack := .int (own_at xs j) :: rest }) target) : Steps p.tables e below (T.setTop g) target := by
  obtain ⟨k, n, ⟨cl, A, q1, S, q3, H, G⟩, q⟩ := F
  have hin := own_inb S q (by rw [List.length_map]; exact hj)
  exact X.baloadBytes hx (j := j) (v := .int (own_at xs j)) (by rw [eT]; exact A.1) (State.isArrayOf_alike hZ.alike A.2.1) A.2.2 hin (H.at hin (own_getD xs _)) (g := g) hg hs hd _ hr
theorem own_arrlenB {target : State} (X : Stand p l e R s m args below meth c T locs cells slots) (hx : p.tables.exec = Jvm.exec) (hZ : Z.Warmed39 s.vm) (eT : T.heap = h) {xs : List Int32} (F : own_Bytes Z h a xs) {g : JFrame} (hg : g.method = m) {rest : List Value} (hs : g.stack = .ref a :: rest) (hd : decode c.code g.pc = .ok (.arraylength, 1))
    (hr : Steps p.tables e below (T.setTop { g with pc := g.pc + 1, stack := .int (own_len xs) :: rest }) target) : Steps p.tables e below (T.setTop g) target := by
  obtain ⟨k, n, ⟨cl, A, q1, S, q3, H, G⟩, q⟩ := F
  refine X.arraylength hx (by rw [eT]; exact A.1) (State.isArrayOf_alike hZ.alike A.2.1) (g := g) hg hs hd _ ?_
  have e1 : cl.slots.size = xs.length := by rw [S, q, List.length_map]
  rw [e1]
  exact hr
theorem own_bastore (X : Stand p l e R s m args below meth c T locs cells slots) (hx : p.tables.exec = Jvm.exec) (hZ : Z.Warmed39 s.vm) (eT : T.heap = h) {xs : List Int32} {j : Int32} {x : Int32} (F : own_Bytes Z h a xs) (hj : own_In j xs.length) {g : JFrame} (hg : g.method = m) {rest : List Value} (hs : g.stack = .int x :: .int j :: .ref a :: rest) (hd : decode c.code g.pc = .ok (.bastore, 1)) :
    ∃ T' h', Stand p l e R s m args below meth c T' (locs ++ [⟨a, j.toNatClampNeg⟩]) cells slots ∧ T'.heap = h' ∧ Wr h h' a j.toNatClampNeg (.int (x.toInt8.toInt32)) ∧ own_Bytes Z h' a (xs.set j.toNatClampNeg (x.toInt8.toInt32)) ∧ ∀ target, Steps p.tables e below (T'.setTop { g with pc := g.pc + 1, stack := rest }) target → Steps p.tables e below (T.setTop g) target := by
  obtain ⟨k, n, ⟨cl, A, q1, S, q3, H, G⟩, q⟩ := F
  have hin := own_inb S q (by rw [List.length_map]; exact hj)
  obtain ⟨T', h', X', e', W, st⟩ := stB X hx hZ eT A (j := j) (x := x) hin (g := g) hg hs hd
  refine ⟨T', h', X', e', W, ⟨k, n, ?_, by rw [q]; simp⟩, st⟩
  rw [List.map_set]
  exact Arv.set A q1 S q3 H G (fits_nar_byte x) W _ rfl (by rw [List.length_map]; exact own_ixlt hj)
theorem own_Chars.ext {xs : List Int32} (F : own_Chars Z h a xs) (E : Ext h h') : own_Chars Z h' a xs := own_Arr.ext F E
theorem own_Chars.other {xs : List Int32} (F : own_Chars Z h b xs) (W : Wr h h' a sl v) (q : b ≠ a) : own_Chars Z h' b xs := own_Arr.other F W q
theorem own_Chars.keep {xs : List Int32} (F : own_Chars Z h a xs) (K : Keep h h' ws) (q : a ∉ ws) : own_Chars Z h' a xs := own_Arr.keep F K q
theorem own_Chars.lt {xs : List Int32} (F : own_Chars Z h a xs) : a < h.size := own_Arr.lt F
theorem own_newC {k : ClassId} {n : Int32} (A : Arr Z h a (newA k .char n) .char) (q : ¬ n < 0) : own_Chars Z h a (List.replicate n.toNatClampNeg 0) := by
  refine ⟨k, n, ?_, by simp⟩
  have := own_pad (Arv.new A q)
  rw [List.map_replicate]
  exact this
theorem own_caload {target : State} (X : Stand p l e R s m args below meth c T locs cells slots) (hx : p.tables.exec = Jvm.exec) (hZ : Z.Warmed39 s.vm) (eT : T.heap = h) {xs : List Int32} {j : Int32} (F : own_Chars Z h a xs) (hj : own_In j xs.length) {g : JFrame} (hg : g.method = m) {rest : List Value} (hs : g.stack = .int j :: .ref a :: rest) (hd : decode c.code g.pc = .ok (.caload, 1))
    (hr : Steps p.tables e below (T.setTop { g with pc := g.pc + 1, stack := .int (own_at xs j) :: rest }) target) : Steps p.tables e below (T.setTop g) target := by
  obtain ⟨k, n, ⟨cl, A, q1, S, q3, H, G⟩, q⟩ := F
  have hin := own_inb S q (by rw [List.length_map]; exact hj)
  exact X.caload hx (j := j) (v := .int (own_at xs j)) (by rw [eT]; exact A.1) (State.isArrayOf_alike hZ.alike A.2.1) A.2.2 hin (H.at hin (own_getD xs _)) (g := g) hg hs hd _ hr
theorem own_arrlenC {target : State} (X : Stand p l e R s m args below meth c T locs cells slots) (hx : p.tables.exec = Jvm.exec) (hZ : Z.Warmed39 s.vm) (eT : T.heap = h) {xs : List Int32} (F : own_Chars Z h a xs) {g : JFrame} (hg : g.method = m) {rest : List Value} (hs : g.stack = .ref a :: rest) (hd : decode c.code g.pc = .ok (.arraylength, 1))
    (hr : Steps p.tables e below (T.setTop { g with pc := g.pc + 1, stack := .int (own_len xs) :: rest }) target) : Steps p.tables e below (T.setTop g) target := by
  obtain ⟨k, n, ⟨cl, A, q1, S, q3, H, G⟩, q⟩ := F
  refine X.arraylength hx (by rw [eT]; exact A.1) (State.isArrayOf_alike hZ.alike A.2.1) (g := g) hg hs hd _ ?_
  have e1 : cl.slots.size = xs.length := by rw [S, q, List.length_map]
  rw [e1]
  exact hr
theorem own_castore (X : Stand p l e R s m args below meth c T locs cells slots) (hx : p.tables.exec = Jvm.exec) (hZ : Z.Warmed39 s.vm) (eT : T.heap = h) {xs : List Int32} {j : Int32} {x : Int32} (F : own_Chars Z h a xs) (hj : own_In j xs.length) {g : JFrame} (hg : g.method = m) {rest : List Value} (hs : g.stack = .int x :: .int j :: .ref a :: rest) (hd : decode c.code g.pc = .ok (.castore, 1)) :
    ∃ T' h', Stand p l e R s m args below meth c T' (locs ++ [⟨a, j.toNatClampNeg⟩]) cells slots ∧ T'.heap = h' ∧ Wr h h' a j.toNatClampNeg (.int (x.toUInt32.toUInt16.toUInt32.toInt32)) ∧ own_Chars Z h' a (xs.set j.toNatClampNeg (x.toUInt32.toUInt16.toUInt32.toInt32)) ∧ ∀ target, Steps p.tables e below (T'.setTop { g with pc := g.pc + 1, stack := rest }) target → Steps p.tables e below (T.setTop g) target := by
  obtain ⟨k, n, ⟨cl, A, q1, S, q3, H, G⟩, q⟩ := F
  have hin := own_inb S q (by rw [List.length_map]; exact hj)
  obtain ⟨T', h', X', e', W, st⟩ := stC X hx hZ eT A (j := j) (x := x) hin (g := g) hg hs hd
  refine ⟨T', h', X', e', W, ⟨k, n, ?_, by rw [q]; simp⟩, st⟩
  rw [List.map_set]
  exact Arv.set A q1 S q3 H G (fits_nar_char x) W _ rfl (by rw [List.length_map]; exact own_ixlt hj)
end OwnArr
theorem own_lit {j : Int32} {n : Nat} (h : (decide (0 ≤ j.toInt) && decide (j.toInt < (n : Int))) = true) : own_In j n := by
  simp only [Bool.and_eq_true, decide_eq_true_eq] at h; exact h
theorem own_privsel {s : State} {args : Array Value} {C : String} {y z : MethodName} (h : (Cond.selects C z z).before args s = true) (hc : z.cls = y.cls) (hpriv : s.PrivateAt y) (hinst : (Cond.instanceMethod y).before args s = true) (hy : y.cls ≠ "java/lang/invoke/MethodHandle" ∧ y.cls ≠ "java/lang/invoke/VarHandle") : (Cond.selects y.cls y y).before args s = true := by
  obtain ⟨c, r, m, h1, h2, h3, h4, mk, h5, h6⟩ := Cond.selects_spec h
  have h7 := findClass_of_methodNamed h3
  rw [hc] at h7
  exact selects_self_of_private h7 h5 h6 hpriv hinst hy
theorem own_cpC {p : Program} {l : Launch} {e : Env} {R : Room} {s : State} {m : MethodId} {args : Array Value} {below : List Frame} {meth : Method} {c : Code} {T : State} {locs : List Loc} {cells slots : Nat} {Z : State} {h : Heap} {a b : Addr} (X : Stand p l e R s m args below meth c T locs cells slots) (hx : p.tables.exec = Jvm.exec) (hZ : Z.Warmed39 s.vm) {a0 : Array Value} {own : String} {index : Nat} (hown : s.vm.findClass own = some m.cls)
    (w1 : (Cond.methodLink own index Jvm.Stand.acN).before a0 Z = true) (w2 : (Cond.native Jvm.Stand.acN).before a0 Z = true) (w3 : (Cond.static Jvm.Stand.acN).before a0 Z = true) (w4 : (Cond.initialized "java/lang/System").before a0 Z = true) (eT : T.heap = h)
    {xs ys : List Int32} {nn : Int32} (A : own_Chars Z h a xs) (B : own_Chars Z h b ys) (hn : 0 ≤ nn.toInt) (h4 : nn.toInt ≤ xs.length) (h5 : nn.toInt ≤ ys.length) {n0 : Nat} (N : Fr n0 locs) (ge : n0 ≤ b)
    {g : JFrame} (hg : g.method = m) (hsize : g.locals.size = c.maxLocals) {rest : List Value} (hs : g.stack = .int nn :: .int 0 :: .ref b :: .int 0 :: .ref a :: rest) (hd : decode c.code g.pc = .ok (.invokestatic index, 3))
    (hf : 1 ≤ R.frames) {W : Nat} (hW : 2 * g.monitorRoom + (rest.map fun v => v.category).sum ≤ W) (hlo : W + (nativeFrameWords "java/lang/System" "arraycopy" 5 + 11) ≤ R.locals) :
    ∃ T' h' L, Stand p l e R s m args below meth c T' L cells slots ∧ T'.heap = h' ∧ Fr n0 L ∧ Keep h h' [b] ∧
      ∀ target, Steps p.tables e below (T'.setTop { g with pc := g.pc + 3, stack := rest }) target → Steps p.tables e below (T.setTop g) target := by
  obtain ⟨k, z, A', qa⟩ := A
  obtain ⟨k', z', B', qb⟩ := B
  have z0 : (0:Int32).toNatClampNeg = 0 := rfl
  have l0 : ¬ (0:Int32) < 0 := by decide
  have l3 : ¬ nn < 0 := by rw [Int32.lt_iff_toInt_lt]; show ¬ nn.toInt < 0; omega
  have en : nn.toNatClampNeg = nn.toInt.toNat := rfl
  rw [List.length_map] at qa qb
  obtain ⟨T', h', L, X', e', F', K', -, st⟩ := cpA X hx hZ hown w1 w2 w3 w4 eT (sp := 0) (dp := 0) (nn := nn) A' B' (Or.inl ⟨rfl, rfl⟩) l0 l0 l3 (by rw [z0, qa, en]; omega) (by rw [z0, qb, en]; omega) rfl (by rw [z0, List.length_map, en]; omega) N ge hg hsize hs hd hf hW hlo
  exact ⟨T', h', L, X', e', F', K', st⟩
theorem own_pn0 : plainName "com/example/fanout4/fanout4/xdm/RecordedEvents" = true := by first | (simp [plainName, overriddenIn]; done) | decide +kernel
theorem d1_0 : decode prog_62_method_1_code 0 = .ok (.aload_n 0, 1) := by decide +kernel
theorem d1_1 : decode prog_62_method_1_code 1 = .ok (.invokespecial 1, 3) := by decide +kernel
theorem d1_4 : decode prog_62_method_1_code 4 = .ok (.aload_n 0, 1) := by decide +kernel
theorem d1_5 : decode prog_62_method_1_code 5 = .ok (.bipush 64, 2) := by decide +kernel
theorem d1_7 : decode prog_62_method_1_code 7 = .ok (.newarray .byte, 2) := by decide +kernel
theorem d1_9 : decode prog_62_method_1_code 9 = .ok (.putfield 7, 3) := by decide +kernel
theorem d1_12 : decode prog_62_method_1_code 12 = .ok (.aload_n 0, 1) := by decide +kernel
theorem d1_13 : decode prog_62_method_1_code 13 = .ok (.aload_n 0, 1) := by decide +kernel
theorem d1_14 : decode prog_62_method_1_code 14 = .ok (.getfield 7, 3) := by decide +kernel
theorem d1_17 : decode prog_62_method_1_code 17 = .ok (.arraylength, 1) := by decide +kernel
theorem d1_18 : decode prog_62_method_1_code 18 = .ok (.iconst 4, 1) := by decide +kernel
theorem d1_19 : decode prog_62_method_1_code 19 = .ok (.imul, 1) := by decide +kernel
theorem d1_20 : decode prog_62_method_1_code 20 = .ok (.anewarray 13, 3) := by decide +kernel
theorem d1_23 : decode prog_62_method_1_code 23 = .ok (.putfield 15, 3) := by decide +kernel
theorem d1_26 : decode prog_62_method_1_code 26 = .ok (.aload_n 0, 1) := by decide +kernel
theorem d1_27 : decode prog_62_method_1_code 27 = .ok (.aload_n 0, 1) := by decide +kernel
theorem d1_28 : decode prog_62_method_1_code 28 = .ok (.getfield 7, 3) := by decide +kernel
theorem d1_31 : decode prog_62_method_1_code 31 = .ok (.arraylength, 1) := by decide +kernel
theorem d1_32 : decode prog_62_method_1_code 32 = .ok (.iconst 2, 1) := by decide +kernel
theorem d1_33 : decode prog_62_method_1_code 33 = .ok (.imul, 1) := by decide +kernel
theorem d1_34 : decode prog_62_method_1_code 34 = .ok (.newarray .int, 2) := by decide +kernel
theorem d1_36 : decode prog_62_method_1_code 36 = .ok (.putfield 19, 3) := by decide +kernel
theorem d1_39 : decode prog_62_method_1_code 39 = .ok (.aload_n 0, 1) := by decide +kernel
theorem d1_40 : decode prog_62_method_1_code 40 = .ok (.sipush 1024, 3) := by decide +kernel
theorem d1_43 : decode prog_62_method_1_code 43 = .ok (.newarray .char, 2) := by decide +kernel
theorem d1_45 : decode prog_62_method_1_code 45 = .ok (.putfield 23, 3) := by decide +kernel
theorem d1_48 : decode prog_62_method_1_code 48 = .ok (.return_, 1) := by decide +kernel
theorem ef1 (m : MethodId) (a0 : Addr) : entryFrame m #[(.ref a0)] 1 = mkF m 0 #[rv a0] [] := by first | (simp [entryFrame, mkF, argsToLocals, Value.category]; done) | rfl
def Q1 (Z : State) (a0 : Addr)  (h0 : Heap) (n0 : Nat) (v : Option Value) (h : Heap) (L : List Loc) : Prop := v = none ∧ Fr n0 L ∧ Keep h0 h [a0] ∧ ∃ kd : Addr, ∃ nb : Addr, ∃ ch : Addr, h0.size ≤ kd ∧ h0.size ≤ nb ∧ h0.size ≤ ch ∧ kd ≠ nb ∧ kd ≠ ch ∧ nb ≠ ch ∧ Fld Z h a0 "com/example/fanout4/fanout4/xdm/RecordedEvents" "kinds" "[B" (.ref kd) ∧ Fld Z h a0 "com/example/fanout4/fanout4/xdm/RecordedEvents" "numbers" "[I" (.ref nb) ∧ Fld Z h a0 "com/example/fanout4/fanout4/xdm/RecordedEvents" "characters" "[C" (.ref ch) ∧ Fld Z h a0 "com/example/fanout4/fanout4/xdm/RecordedEvents" "size" "I" (.int (0:Int32)) ∧ Fld Z h a0 "com/example/fanout4/fanout4/xdm/RecordedEvents" "characterCount" "I" (.int (0:Int32)) ∧ own_Bytes Z h kd (List.replicate 64 (0:Int32)) ∧ own_Ints Z h nb (List.replicate 128 (0:Int32)) ∧ own_Chars Z h ch (List.replicate 1024 (0:Int32))
set_option maxRecDepth 65536 in
set_option maxHeartbeats 40000000 in
theorem rm1 (l : Launch) (Z : State) (aZ : Array Value) (hw : ∀ d ∈ tables_1, d.before aZ Z = true) (ws : List Jvm.Cond) (a0 : Addr)  (h0 : Heap) (n0 : Nat) (Z0 : n0 ≤ h0.size) (P0 : Exa Z h0 a0 "com/example/fanout4/fanout4/xdm/RecordedEvents") (P1 : Fld Z h0 a0 "com/example/fanout4/fanout4/xdm/RecordedEvents" "kinds" "[B" .null) (P2 : Fld Z h0 a0 "com/example/fanout4/fanout4/xdm/RecordedEvents" "strings" "[Ljava/lang/String;" .null) (P3 : Fld Z h0 a0 "com/example/fanout4/fanout4/xdm/RecordedEvents" "numbers" "[I" .null) (P4 : Fld Z h0 a0 "com/example/fanout4/fanout4/xdm/RecordedEvents" "characters" "[C" .null) (P5 : Fld Z h0 a0 "com/example/fanout4/fanout4/xdm/RecordedEvents" "size" "I" (.int (0:Int32))) (P6 : Fld Z h0 a0 "com/example/fanout4/fanout4/xdm/RecordedEvents" "characterCount" "I" (.int (0:Int32))) (gq_a0 : n0 ≤ a0) :
    MetFree l (⟨"com/example/fanout4/fanout4/xdm/RecordedEvents", "<init>", "()V"⟩ : MethodName) (head1 (Jvm.Cond.code (⟨"com/example/fanout4/fanout4/xdm/RecordedEvents", "<init>", "()V"⟩ : MethodName) prog_62_method_1_code 1 none :: ws) ({ frames := 1, cells := 4, slots := 1472, locals := 12 } : Room)) (fun a U => a = #[(.ref a0)] ∧ Z.Warmed39 U.vm ∧ U.heap = h0) (fun _ _ _ _ _ => True) (fun _ U o U' => ∃ v L, o = .returned v ∧ Q1 Z a0 h0 n0 v U'.heap L ∧ FrameEnd U o U' L ({ frames := 1, cells := 4, slots := 1472, locals := 12 } : Room).cells ({ frames := 1, cells := 4, slots := 1472, locals := 12 } : Room).slots) := by
  refine MetFree.of_bodySF (plainFor_of_name own_pn0) hisR ?_
  intro p e s m args below meth c s₁ Bd hml0 hP hK
  obtain ⟨rfl, hZ, hh⟩ := hP
  have hx := Bd.exec
  have hby := Bd.bytes
  have hml : c.maxLocals = 1 := hml0
  have hown : s.vm.findClass "com/example/fanout4/fanout4/xdm/RecordedEvents" = some m.cls := findClass_of_methodNamed Bd.named
  have hnm := (name_of_methodNamed Bd.named Bd.method).1
  have X0 : Stand p l e ({ frames := 1, cells := 4, slots := 1472, locals := 12 } : Room) s m #[(.ref a0)] below meth c s₁ [] 0 0 := Stand.of_body Bd
  have e0 : s₁.heap = h0 := by rw [← hh, Bd.state]; rfl
  have N0 := Fr.nil n0
  have Kp0 : Keep h0 h0 [a0] := Keep.refl _ _
  show own_Goes p e below s (Q1 Z a0 h0 n0) ({ frames := 1, cells := 4, slots := 1472, locals := 12 } : Room).cells ({ frames := 1, cells := 4, slots := 1472, locals := 12 } : Room).slots _
  refine own_pre (fun t k => castTop (ef1 m a0) k) ?_
  refine own_pre (A := s₁.setTop (mkF m 1 #[rv a0] [(.ref a0)])) (fun t k => ?_) ?_
  · show Steps p.tables e below (s₁.setTop (mkF m 0 #[rv a0] [])) _
    refine XS.aloadN X0.here hx rfl (hb hby d1_0) rfl rfl ?_
    exact k
  obtain ⟨T1, X1, e1, st1⟩ := initO X0 hx hZ hown (own_h hw 8 rfl) (own_h hw 9 rfl) (own_h hw 10 rfl) e0 (g := (mkF m 1 #[rv a0] [(.ref a0)])) rfl (by rw [hml]; rfl) rfl (hb hby d1_1) (by decide) (W := 0) (by show 2 * 0 + _ ≤ _; exact Nat.le_of_eq rfl) (by decide)
  refine own_pre st1 ?_
  refine own_pre (A := T1.setTop (mkF m 7 #[rv a0] [(.int (64:Int32)), (.ref a0)])) (fun t k => ?_) ?_
  · show Steps p.tables e below (T1.setTop (mkF m 4 #[rv a0] [])) _
    refine XS.aloadN X1.here hx rfl (hb hby d1_4) rfl rfl ?_
    show Steps p.tables e below (T1.setTop (mkF m 5 #[rv a0] [(.ref a0)])) _
    refine XS.bipush X1.here hx rfl (hb hby d1_5) ?_
    exact k
  obtain ⟨T2, h2, k2, X2, e2, E2, A2, st2⟩ := newP X1 hx hZ (own_h hw 11 rfl) e1 (g := (mkF m 7 #[rv a0] [(.int (64:Int32)), (.ref a0)])) rfl (hb hby d1_7) rfl (by decide) (cap := 64) (by decide) (by decide) (by decide) (by decide)
  obtain ⟨b2, g2⟩ : ∃ z, z = h0.size := ⟨_, rfl⟩
  rw [← g2] at A2 st2
  have ge_b2 : n0 ≤ b2 := Nat.le_trans Z0 (Nat.le_of_eq g2.symm)
  have sz_b2 : h0.size ≤ b2 := Nat.le_trans Kp0.1 (Nat.le_of_eq g2.symm)
  have ne_a0_b2 : a0 ≠ b2 := Nat.ne_of_lt (Nat.lt_of_lt_of_le P0.lt (Nat.le_of_eq g2.symm))
  have Kp2 : Keep h0 h2 [a0] := Kp0.ext E2
  have Z3 : n0 ≤ h2.size := Nat.le_trans Z0 E2.1
  have V2 : own_Bytes Z h2 b2 (List.replicate 64 (0:Int32)) := own_newB A2 (by decide)
  refine own_pre st2 ?_
  have F5 := (P0.ext E2)
  have F6 := (P1.ext E2)
  obtain ⟨T4, h4, X4, e4, W4, st4⟩ := putF X2 hx hZ hown (host := "") (Or.inl (own_h hw 12 rfl)) Via.refl e2 F6 F5 (Or.inl (own_h hw 13 rfl)) (own_h hw 3 rfl) (ty := (.array .byte)) (by decide) rfl rfl (g := (mkF m 9 #[rv a0] [(.ref b2), (.ref a0)])) rfl rfl (hb hby d1_9)
  have Kp4 : Keep h0 h4 [a0] := Kp2.wr W4 (Or.inl (List.mem_of_getElem? (i := 0) rfl))
  have Z7 : n0 ≤ h4.size := Nat.le_trans Z3 (Nat.le_of_eq W4.size.symm)
  have N4 := Fr.snoc X4 N0 gq_a0
  have Fw4 := F6.same W4
  refine own_pre st4 ?_
  refine own_pre (A := T4.setTop (mkF m 14 #[rv a0] [(.ref a0), (.ref a0)])) (fun t k => ?_) ?_
  · show Steps p.tables e below (T4.setTop (mkF m 12 #[rv a0] [])) _
    refine XS.aloadN X4.here hx rfl (hb hby d1_12) rfl rfl ?_
    show Steps p.tables e below (T4.setTop (mkF m 13 #[rv a0] [(.ref a0)])) _
    refine XS.aloadN X4.here hx rfl (hb hby d1_13) rfl rfl ?_
    exact k
  obtain ⟨T8, X8, e8, st8⟩ := getF X4 hx hZ hown (host := "") (Or.inl (own_h hw 12 rfl)) Via.refl e4 Fw4 (g := (mkF m 14 #[rv a0] [(.ref a0), (.ref a0)])) rfl rfl (hb hby d1_14)
  refine own_pre st8 ?_
  have F9 := (V2.other W4 (Ne.symm ne_a0_b2))
  refine own_pre (A := T8.setTop (mkF m 20 #[rv a0] [(.int (256:Int32)), (.ref a0)])) (fun t k => ?_) ?_
  · show Steps p.tables e below (T8.setTop (mkF m 17 #[rv a0] [(.ref b2), (.ref a0)])) _
    refine own_arrlenB X8 hx hZ e8 F9 rfl rfl (hb hby d1_17) ?_
    show Steps p.tables e below (T8.setTop (mkF m 18 #[rv a0] [(.int (64:Int32)), (.ref a0)])) _
    refine XS.iconst X8.here hx rfl (hb hby d1_18) ?_
    show Steps p.tables e below (T8.setTop (mkF m 19 #[rv a0] [(.int (4:Int32)), (.int (64:Int32)), (.ref a0)])) _
    refine XS.imul X8.here hx rfl (hb hby d1_19) rfl ?_
    exact k
  have F11 := (F5.wr W4)
  obtain ⟨T10, h10, k10, X10, e10, E10, A10, O10, st10⟩ := newR X8 hx hZ hown (own_h hw 14 rfl) (own_h hw 15 rfl) e8 (g := (mkF m 20 #[rv a0] [(.int (256:Int32)), (.ref a0)])) rfl (hb hby d1_20) rfl (by decide) (cap := 256) (by decide) (by decide) (by decide) (by decide)
  obtain ⟨b10, g10⟩ : ∃ z, z = h4.size := ⟨_, rfl⟩
  rw [← g10] at A10 st10
  have ge_b10 : n0 ≤ b10 := Nat.le_trans Z7 (Nat.le_of_eq g10.symm)
  have sz_b10 : h0.size ≤ b10 := Nat.le_trans Kp4.1 (Nat.le_of_eq g10.symm)
  have ne_a0_b10 : a0 ≠ b10 := Nat.ne_of_lt (Nat.lt_of_lt_of_le F11.lt (Nat.le_of_eq g10.symm))
  have ne_b2_b10 : b2 ≠ b10 := Nat.ne_of_lt (Nat.lt_of_lt_of_le F9.lt (Nat.le_of_eq g10.symm))
  have Kp10 : Keep h0 h10 [a0] := Kp4.ext E10
  have Z12 : n0 ≤ h10.size := Nat.le_trans Z7 E10.1
  have V10 := Arv.new A10 (by decide)
  refine own_pre st10 ?_
  have F14 := (F11.ext E10)
  have F15 := (((P2.ext E2).other W4 (Or.inr (slot_ne (Or.inl (own_h hw 17 rfl)) (Or.inl (own_h hw 13 rfl)) (by decide) (t := (.array (.object "java/lang/String"))) (t' := (.array .byte)) (by decide) (by decide)))).ext E10)
  obtain ⟨T13, h13, X13, e13, W13, st13⟩ := putF X10 hx hZ hown (host := "") (Or.inl (own_h hw 16 rfl)) Via.refl e10 F15 F14 (Or.inl (own_h hw 17 rfl)) (own_h hw 3 rfl) (ty := (.array (.object "java/lang/String"))) (by decide) rfl rfl (g := (mkF m 23 #[rv a0] [(.ref b10), (.ref a0)])) rfl rfl (hb hby d1_23)
  have Kp13 : Keep h0 h13 [a0] := Kp10.wr W13 (Or.inl (List.mem_of_getElem? (i := 0) rfl))
  have Z16 : n0 ≤ h13.size := Nat.le_trans Z12 (Nat.le_of_eq W13.size.symm)
  have N13 := Fr.snoc X13 N4 gq_a0
  have Fw13 := F15.same W13
  refine own_pre st13 ?_
  refine own_pre (A := T13.setTop (mkF m 28 #[rv a0] [(.ref a0), (.ref a0)])) (fun t k => ?_) ?_
  · show Steps p.tables e below (T13.setTop (mkF m 26 #[rv a0] [])) _
    refine XS.aloadN X13.here hx rfl (hb hby d1_26) rfl rfl ?_
    show Steps p.tables e below (T13.setTop (mkF m 27 #[rv a0] [(.ref a0)])) _
    refine XS.aloadN X13.here hx rfl (hb hby d1_27) rfl rfl ?_
    exact k
  have F18 := ((Fw4.ext E10).other W13 (Or.inr (slot_ne (Or.inl (own_h hw 13 rfl)) (Or.inl (own_h hw 17 rfl)) (by decide) (t := (.array .byte)) (t' := (.array (.object "java/lang/String"))) (by decide) (by decide))))
  obtain ⟨T17, X17, e17, st17⟩ := getF X13 hx hZ hown (host := "") (Or.inl (own_h hw 12 rfl)) Via.refl e13 F18 (g := (mkF m 28 #[rv a0] [(.ref a0), (.ref a0)])) rfl rfl (hb hby d1_28)
  refine own_pre st17 ?_
  have F19 := ((F9.ext E10).other W13 (Ne.symm ne_a0_b2))
  refine own_pre (A := T17.setTop (mkF m 34 #[rv a0] [(.int (128:Int32)), (.ref a0)])) (fun t k => ?_) ?_
  · show Steps p.tables e below (T17.setTop (mkF m 31 #[rv a0] [(.ref b2), (.ref a0)])) _
    refine own_arrlenB X17 hx hZ e17 F19 rfl rfl (hb hby d1_31) ?_
    show Steps p.tables e below (T17.setTop (mkF m 32 #[rv a0] [(.int (64:Int32)), (.ref a0)])) _
    refine XS.iconst X17.here hx rfl (hb hby d1_32) ?_
    show Steps p.tables e below (T17.setTop (mkF m 33 #[rv a0] [(.int (2:Int32)), (.int (64:Int32)), (.ref a0)])) _
    refine XS.imul X17.here hx rfl (hb hby d1_33) rfl ?_
    exact k
  have F21 := (F14.wr W13)
  have F22 := (V10.other W13 (Ne.symm ne_a0_b10))
  obtain ⟨T20, h20, k20, X20, e20, E20, A20, st20⟩ := newP X17 hx hZ (own_h hw 18 rfl) e17 (g := (mkF m 34 #[rv a0] [(.int (128:Int32)), (.ref a0)])) rfl (hb hby d1_34) rfl (by decide) (cap := 128) (by decide) (by decide) (by decide) (by decide)
  obtain ⟨b20, g20⟩ : ∃ z, z = h13.size := ⟨_, rfl⟩
  rw [← g20] at A20 st20
  have ge_b20 : n0 ≤ b20 := Nat.le_trans Z16 (Nat.le_of_eq g20.symm)
  have sz_b20 : h0.size ≤ b20 := Nat.le_trans Kp13.1 (Nat.le_of_eq g20.symm)
  have ne_a0_b20 : a0 ≠ b20 := Nat.ne_of_lt (Nat.lt_of_lt_of_le F21.lt (Nat.le_of_eq g20.symm))
  have ne_b10_b20 : b10 ≠ b20 := Nat.ne_of_lt (Nat.lt_of_lt_of_le F22.lt (Nat.le_of_eq g20.symm))
  have ne_b2_b20 : b2 ≠ b20 := Nat.ne_of_lt (Nat.lt_of_lt_of_le F19.lt (Nat.le_of_eq g20.symm))
  have Kp20 : Keep h0 h20 [a0] := Kp13.ext E20
  have Z23 : n0 ≤ h20.size := Nat.le_trans Z16 E20.1
  have V20 : own_Ints Z h20 b20 (List.replicate 128 (0:Int32)) := own_newI A20 (by decide)
  refine own_pre st20 ?_
  have F25 := (F21.ext E20)
  have F26 := (((((P3.ext E2).other W4 (Or.inr (slot_ne (Or.inl (own_h hw 20 rfl)) (Or.inl (own_h hw 13 rfl)) (by decide) (t := (.array .int)) (t' := (.array .byte)) (by decide) (by decide)))).ext E10).other W13 (Or.inr (slot_ne (Or.inl (own_h hw 20 rfl)) (Or.inl (own_h hw 17 rfl)) (by decide) (t := (.array .int)) (t' := (.array (.object "java/lang/String"))) (by decide) (by decide)))).ext E20)
  obtain ⟨T24, h24, X24, e24, W24, st24⟩ := putF X20 hx hZ hown (host := "") (Or.inl (own_h hw 19 rfl)) Via.refl e20 F26 F25 (Or.inl (own_h hw 20 rfl)) (own_h hw 3 rfl) (ty := (.array .int)) (by decide) rfl rfl (g := (mkF m 36 #[rv a0] [(.ref b20), (.ref a0)])) rfl rfl (hb hby d1_36)
  have Kp24 : Keep h0 h24 [a0] := Kp20.wr W24 (Or.inl (List.mem_of_getElem? (i := 0) rfl))
  have Z27 : n0 ≤ h24.size := Nat.le_trans Z23 (Nat.le_of_eq W24.size.symm)
  have N24 := Fr.snoc X24 N13 gq_a0
  have Fw24 := F26.same W24
  refine own_pre st24 ?_
  refine own_pre (A := T24.setTop (mkF m 43 #[rv a0] [(.int (1024:Int32)), (.ref a0)])) (fun t k => ?_) ?_
  · show Steps p.tables e below (T24.setTop (mkF m 39 #[rv a0] [])) _
    refine XS.aloadN X24.here hx rfl (hb hby d1_39) rfl rfl ?_
    show Steps p.tables e below (T24.setTop (mkF m 40 #[rv a0] [(.ref a0)])) _
    refine XS.sipush X24.here hx rfl (hb hby d1_40) ?_
    exact k
  have F29 := (F25.wr W24)
  have F30 := ((F22.ext E20).other W24 (Ne.symm ne_a0_b10))
  have F31 := ((F19.ext E20).other W24 (Ne.symm ne_a0_b2))
  have F32 := (V20.other W24 (Ne.symm ne_a0_b20))
  obtain ⟨T28, h28, k28, X28, e28, E28, A28, st28⟩ := newP X24 hx hZ (own_h hw 1 rfl) e24 (g := (mkF m 43 #[rv a0] [(.int (1024:Int32)), (.ref a0)])) rfl (hb hby d1_43) rfl (by decide) (cap := 1024) (by decide) (by decide) (by decide) (by decide)
  obtain ⟨b28, g28⟩ : ∃ z, z = h24.size := ⟨_, rfl⟩
  rw [← g28] at A28 st28
  have ge_b28 : n0 ≤ b28 := Nat.le_trans Z27 (Nat.le_of_eq g28.symm)
  have sz_b28 : h0.size ≤ b28 := Nat.le_trans Kp24.1 (Nat.le_of_eq g28.symm)
  have ne_a0_b28 : a0 ≠ b28 := Nat.ne_of_lt (Nat.lt_of_lt_of_le F29.lt (Nat.le_of_eq g28.symm))
  have ne_b10_b28 : b10 ≠ b28 := Nat.ne_of_lt (Nat.lt_of_lt_of_le F30.lt (Nat.le_of_eq g28.symm))
  have ne_b2_b28 : b2 ≠ b28 := Nat.ne_of_lt (Nat.lt_of_lt_of_le F31.lt (Nat.le_of_eq g28.symm))
  have ne_b20_b28 : b20 ≠ b28 := Nat.ne_of_lt (Nat.lt_of_lt_of_le F32.lt (Nat.le_of_eq g28.symm))
  have Kp28 : Keep h0 h28 [a0] := Kp24.ext E28
  have Z33 : n0 ≤ h28.size := Nat.le_trans Z27 E28.1
  have V28 : own_Chars Z h28 b28 (List.replicate 1024 (0:Int32)) := own_newC A28 (by decide)
  refine own_pre st28 ?_
  have F35 := (F29.ext E28)
  have F36 := (((((((P4.ext E2).other W4 (Or.inr (slot_ne (Or.inl (own_h hw 22 rfl)) (Or.inl (own_h hw 13 rfl)) (by decide) (t := (.array .char)) (t' := (.array .byte)) (by decide) (by decide)))).ext E10).other W13 (Or.inr (slot_ne (Or.inl (own_h hw 22 rfl)) (Or.inl (own_h hw 17 rfl)) (by decide) (t := (.array .char)) (t' := (.array (.object "java/lang/String"))) (by decide) (by decide)))).ext E20).other W24 (Or.inr (slot_ne (Or.inl (own_h hw 22 rfl)) (Or.inl (own_h hw 20 rfl)) (by decide) (t := (.array .char)) (t' := (.array .int)) (by decide) (by decide)))).ext E28)
  obtain ⟨T34, h34, X34, e34, W34, st34⟩ := putF X28 hx hZ hown (host := "") (Or.inl (own_h hw 21 rfl)) Via.refl e28 F36 F35 (Or.inl (own_h hw 22 rfl)) (own_h hw 3 rfl) (ty := (.array .char)) (by decide) rfl rfl (g := (mkF m 45 #[rv a0] [(.ref b28), (.ref a0)])) rfl rfl (hb hby d1_45)
  have Kp34 : Keep h0 h34 [a0] := Kp28.wr W34 (Or.inl (List.mem_of_getElem? (i := 0) rfl))
  have Z37 : n0 ≤ h34.size := Nat.le_trans Z33 (Nat.le_of_eq W34.size.symm)
  have N34 := Fr.snoc X34 N24 gq_a0
  have Fw34 := F36.same W34
  refine own_pre st34 ?_
  have F38 := ((((F18.ext E20).other W24 (Or.inr (slot_ne (Or.inl (own_h hw 13 rfl)) (Or.inl (own_h hw 20 rfl)) (by decide) (t := (.array .byte)) (t' := (.array .int)) (by decide) (by decide)))).ext E28).other W34 (Or.inr (slot_ne (Or.inl (own_h hw 13 rfl)) (Or.inl (own_h hw 22 rfl)) (by decide) (t := (.array .byte)) (t' := (.array .char)) (by decide) (by decide))))
  have F39 := ((Fw24.ext E28).other W34 (Or.inr (slot_ne (Or.inl (own_h hw 20 rfl)) (Or.inl (own_h hw 22 rfl)) (by decide) (t := (.array .int)) (t' := (.array .char)) (by decide) (by decide))))
  have F40 := ((((((((P5.ext E2).other W4 (Or.inr (slot_ne (Or.inl (own_h hw 37 rfl)) (Or.inl (own_h hw 13 rfl)) (by decide) (t := .int) (t' := (.array .byte)) (by decide) (by decide)))).ext E10).other W13 (Or.inr (slot_ne (Or.inl (own_h hw 37 rfl)) (Or.inl (own_h hw 17 rfl)) (by decide) (t := .int) (t' := (.array (.object "java/lang/String"))) (by decide) (by decide)))).ext E20).other W24 (Or.inr (slot_ne (Or.inl (own_h hw 37 rfl)) (Or.inl (own_h hw 20 rfl)) (by decide) (t := .int) (t' := (.array .int)) (by decide) (by decide)))).ext E28).other W34 (Or.inr (slot_ne (Or.inl (own_h hw 37 rfl)) (Or.inl (own_h hw 22 rfl)) (by decide) (t := .int) (t' := (.array .char)) (by decide) (by decide))))
  have F41 := ((((((((P6.ext E2).other W4 (Or.inr (slot_ne (Or.inl (own_h hw 39 rfl)) (Or.inl (own_h hw 13 rfl)) (by decide) (t := .int) (t' := (.array .byte)) (by decide) (by decide)))).ext E10).other W13 (Or.inr (slot_ne (Or.inl (own_h hw 39 rfl)) (Or.inl (own_h hw 17 rfl)) (by decide) (t := .int) (t' := (.array (.object "java/lang/String"))) (by decide) (by decide)))).ext E20).other W24 (Or.inr (slot_ne (Or.inl (own_h hw 39 rfl)) (Or.inl (own_h hw 20 rfl)) (by decide) (t := .int) (t' := (.array .int)) (by decide) (by decide)))).ext E28).other W34 (Or.inr (slot_ne (Or.inl (own_h hw 39 rfl)) (Or.inl (own_h hw 22 rfl)) (by decide) (t := .int) (t' := (.array .char)) (by decide) (by decide))))
  have F42 := ((F31.ext E28).other W34 (Ne.symm ne_a0_b2))
  have F43 := ((F32.ext E28).other W34 (Ne.symm ne_a0_b20))
  have F44 := (V28.other W34 (Ne.symm ne_a0_b28))
  exact own_end X34 (BodyLoose.notSynchronized Bd) (fun _ => rfl) (v := none) (fun fs hr => X34.returnOut hx Bd.returns (hb hby d1_48) hr) (by show Q1 Z a0 h0 n0 _ T34.heap _; rw [e34]; exact ⟨rfl, N34, Kp34, b2, b20, b28, sz_b2, sz_b20, sz_b28, ne_b2_b20, ne_b2_b28, ne_b20_b28, F38, F39, Fw34, F40, F41, F42, F43, F44⟩) (by decide) (by decide)
theorem own_nelen {sz : Int32} {ks : List Int32} (h : ks.length = 64) (hs : 0 ≤ sz.toInt ∧ sz.toInt < 60) : ¬ (sz = (own_len ks)) ∧ own_In sz ks.length := by
  have e : (own_len ks).toInt = 64 := by have := len_toInt (n := ks.length) (by omega); rw [h] at this; simpa [own_len, h] using this
  refine ⟨fun q => ?_, ?_⟩
  · rw [← q] at e; omega
  · show 0 ≤ _ ∧ _ < _; rw [h]; omega
theorem d5_0 : decode prog_62_method_21_code 0 = .ok (.aload_n 0, 1) := by decide +kernel
theorem d5_1 : decode prog_62_method_21_code 1 = .ok (.getfield 27, 3) := by decide +kernel
theorem d5_4 : decode prog_62_method_21_code 4 = .ok (.aload_n 0, 1) := by decide +kernel
theorem d5_5 : decode prog_62_method_21_code 5 = .ok (.getfield 7, 3) := by decide +kernel
theorem d5_8 : decode prog_62_method_21_code 8 = .ok (.arraylength, 1) := by decide +kernel
theorem d5_9 : decode prog_62_method_21_code 9 = .ok (.if_icmp .ne 61, 3) := by decide +kernel
theorem d5_70 : decode prog_62_method_21_code 70 = .ok (.aload_n 0, 1) := by decide +kernel
theorem d5_71 : decode prog_62_method_21_code 71 = .ok (.getfield 7, 3) := by decide +kernel
theorem d5_74 : decode prog_62_method_21_code 74 = .ok (.aload_n 0, 1) := by decide +kernel
theorem d5_75 : decode prog_62_method_21_code 75 = .ok (.getfield 27, 3) := by decide +kernel
theorem d5_78 : decode prog_62_method_21_code 78 = .ok (.iload_n 1, 1) := by decide +kernel
theorem d5_79 : decode prog_62_method_21_code 79 = .ok (.bastore, 1) := by decide +kernel
theorem d5_80 : decode prog_62_method_21_code 80 = .ok (.aload_n 0, 1) := by decide +kernel
theorem d5_81 : decode prog_62_method_21_code 81 = .ok (.dup, 1) := by decide +kernel
theorem d5_82 : decode prog_62_method_21_code 82 = .ok (.getfield 27, 3) := by decide +kernel
theorem d5_85 : decode prog_62_method_21_code 85 = .ok (.dup_x1, 1) := by decide +kernel
theorem d5_86 : decode prog_62_method_21_code 86 = .ok (.iconst 1, 1) := by decide +kernel
theorem d5_87 : decode prog_62_method_21_code 87 = .ok (.iadd, 1) := by decide +kernel
theorem d5_88 : decode prog_62_method_21_code 88 = .ok (.putfield 27, 3) := by decide +kernel
theorem d5_91 : decode prog_62_method_21_code 91 = .ok (.ireturn, 1) := by decide +kernel
theorem ef5 (m : MethodId) (a0 : Addr) (p1 : Int32) : entryFrame m #[(.ref a0), (.int p1)] 2 = mkF m 0 #[rv a0, iv p1] [] := by first | (simp [entryFrame, mkF, argsToLocals, Value.category]; done) | rfl
def Q5 (Z : State) (a0 : Addr) (p1 : Int32) (kd : Addr) (nb : Addr) (ch : Addr) (ks : List Int32) (sz : Int32) (cc : Int32) (h0 : Heap) (n0 : Nat) (v : Option Value) (h : Heap) (L : List Loc) : Prop := v = some (.int sz) ∧ Fr n0 L ∧ Keep h0 h [a0, kd] ∧ Fld Z h a0 "com/example/fanout4/fanout4/xdm/RecordedEvents" "kinds" "[B" (.ref kd) ∧ Fld Z h a0 "com/example/fanout4/fanout4/xdm/RecordedEvents" "numbers" "[I" (.ref nb) ∧ Fld Z h a0 "com/example/fanout4/fanout4/xdm/RecordedEvents" "characters" "[C" (.ref ch) ∧ Fld Z h a0 "com/example/fanout4/fanout4/xdm/RecordedEvents" "size" "I" (.int (sz + (1:Int32))) ∧ Fld Z h a0 "com/example/fanout4/fanout4/xdm/RecordedEvents" "characterCount" "I" (.int cc) ∧ own_Bytes Z h kd (ks.set sz.toNatClampNeg (p1.toInt8.toInt32))
set_option maxRecDepth 65536 in
set_option maxHeartbeats 40000000 in
theorem rm5 (l : Launch) (Z : State) (aZ : Array Value) (hw : ∀ d ∈ tables_1, d.before aZ Z = true) (ws : List Jvm.Cond) (a0 : Addr) (p1 : Int32) (kd : Addr) (nb : Addr) (ch : Addr) (ks : List Int32) (sz : Int32) (cc : Int32) (h0 : Heap) (n0 : Nat) (Z0 : n0 ≤ h0.size) (P0 : Exa Z h0 a0 "com/example/fanout4/fanout4/xdm/RecordedEvents") (P1 : Fld Z h0 a0 "com/example/fanout4/fanout4/xdm/RecordedEvents" "kinds" "[B" (.ref kd)) (P2 : Fld Z h0 a0 "com/example/fanout4/fanout4/xdm/RecordedEvents" "numbers" "[I" (.ref nb)) (P3 : Fld Z h0 a0 "com/example/fanout4/fanout4/xdm/RecordedEvents" "characters" "[C" (.ref ch)) (P4 : Fld Z h0 a0 "com/example/fanout4/fanout4/xdm/RecordedEvents" "size" "I" (.int sz)) (P5 : Fld Z h0 a0 "com/example/fanout4/fanout4/xdm/RecordedEvents" "characterCount" "I" (.int cc)) (P6 : own_Bytes Z h0 kd ks) (nq_a0_kd : a0 ≠ kd) (gq_a0 : n0 ≤ a0) (gq_kd : n0 ≤ kd) (hks : ks.length = 64) (hsz : 0 ≤ sz.toInt ∧ sz.toInt < 60) :
    MetFree l (⟨"com/example/fanout4/fanout4/xdm/RecordedEvents", "add", "(B)I"⟩ : MethodName) (head1 (Jvm.Cond.code (⟨"com/example/fanout4/fanout4/xdm/RecordedEvents", "add", "(B)I"⟩ : MethodName) prog_62_method_21_code 2 (some .int) :: ws) ({ frames := 0, cells := 0, slots := 0, locals := 0 } : Room)) (fun a U => a = #[(.ref a0), (.int p1)] ∧ Z.Warmed39 U.vm ∧ U.heap = h0) (fun _ _ _ _ _ => True) (fun _ U o U' => ∃ v L, o = .returned v ∧ Q5 Z a0 p1 kd nb ch ks sz cc h0 n0 v U'.heap L ∧ FrameEnd U o U' L ({ frames := 0, cells := 0, slots := 0, locals := 0 } : Room).cells ({ frames := 0, cells := 0, slots := 0, locals := 0 } : Room).slots) := by
  refine MetFree.of_bodySF (plainFor_of_name own_pn0) hisR ?_
  intro p e s m args below meth c s₁ Bd hml0 hP hK
  obtain ⟨rfl, hZ, hh⟩ := hP
  have hx := Bd.exec
  have hby := Bd.bytes
  have hml : c.maxLocals = 2 := hml0
  have hown : s.vm.findClass "com/example/fanout4/fanout4/xdm/RecordedEvents" = some m.cls := findClass_of_methodNamed Bd.named
  have hnm := (name_of_methodNamed Bd.named Bd.method).1
  have X0 : Stand p l e ({ frames := 0, cells := 0, slots := 0, locals := 0 } : Room) s m #[(.ref a0), (.int p1)] below meth c s₁ [] 0 0 := Stand.of_body Bd
  have e0 : s₁.heap = h0 := by rw [← hh, Bd.state]; rfl
  have N0 := Fr.nil n0
  have Kp0 : Keep h0 h0 [a0, kd] := Keep.refl _ _
  show own_Goes p e below s (Q5 Z a0 p1 kd nb ch ks sz cc h0 n0) ({ frames := 0, cells := 0, slots := 0, locals := 0 } : Room).cells ({ frames := 0, cells := 0, slots := 0, locals := 0 } : Room).slots _
  refine own_pre (fun t k => castTop (ef5 m a0 p1) k) ?_
  refine own_pre (A := s₁.setTop (mkF m 1 #[rv a0, iv p1] [(.ref a0)])) (fun t k => ?_) ?_
  · show Steps p.tables e below (s₁.setTop (mkF m 0 #[rv a0, iv p1] [])) _
    refine XS.aloadN X0.here hx rfl (hb hby d5_0) rfl rfl ?_
    exact k
  obtain ⟨T45, X45, e45, st45⟩ := getF X0 hx hZ hown (host := "") (Or.inl (own_h hw 36 rfl)) Via.refl e0 P4 (g := (mkF m 1 #[rv a0, iv p1] [(.ref a0)])) rfl rfl (hb hby d5_1)
  refine own_pre st45 ?_
  refine own_pre (A := T45.setTop (mkF m 5 #[rv a0, iv p1] [(.ref a0), (.int sz)])) (fun t k => ?_) ?_
  · show Steps p.tables e below (T45.setTop (mkF m 4 #[rv a0, iv p1] [(.int sz)])) _
    refine XS.aloadN X45.here hx rfl (hb hby d5_4) rfl rfl ?_
    exact k
  obtain ⟨T46, X46, e46, st46⟩ := getF X45 hx hZ hown (host := "") (Or.inl (own_h hw 12 rfl)) Via.refl e45 P1 (g := (mkF m 5 #[rv a0, iv p1] [(.ref a0), (.int sz)])) rfl rfl (hb hby d5_5)
  refine own_pre st46 ?_
  have hd9_1 : ¬ (sz = (own_len ks)) := (own_nelen hks hsz).1
  refine own_pre (A := T46.setTop (mkF m 71 #[rv a0, iv p1] [(.ref a0)])) (fun t k => ?_) ?_
  · show Steps p.tables e below (T46.setTop (mkF m 8 #[rv a0, iv p1] [(.ref kd), (.int sz)])) _
    refine own_arrlenB X46 hx hZ e46 P6 rfl rfl (hb hby d5_8) ?_
    show Steps p.tables e below (T46.setTop (mkF m 9 #[rv a0, iv p1] [(.int (own_len ks)), (.int sz)])) _
    refine XS.icmpYes X46.here hx rfl (pc0 := 9) (pc' := 70) rfl (hb hby d5_9) rfl (XT.ii_ne_t hd9_1) (by decide) (by decide) ?_
    show Steps p.tables e below (T46.setTop (mkF m 70 #[rv a0, iv p1] [])) _
    refine XS.aloadN X46.here hx rfl (hb hby d5_70) rfl rfl ?_
    exact k
  obtain ⟨T47, X47, e47, st47⟩ := getF X46 hx hZ hown (host := "") (Or.inl (own_h hw 12 rfl)) Via.refl e46 P1 (g := (mkF m 71 #[rv a0, iv p1] [(.ref a0)])) rfl rfl (hb hby d5_71)
  refine own_pre st47 ?_
  refine own_pre (A := T47.setTop (mkF m 75 #[rv a0, iv p1] [(.ref a0), (.ref kd)])) (fun t k => ?_) ?_
  · show Steps p.tables e below (T47.setTop (mkF m 74 #[rv a0, iv p1] [(.ref kd)])) _
    refine XS.aloadN X47.here hx rfl (hb hby d5_74) rfl rfl ?_
    exact k
  obtain ⟨T48, X48, e48, st48⟩ := getF X47 hx hZ hown (host := "") (Or.inl (own_h hw 36 rfl)) Via.refl e47 P4 (g := (mkF m 75 #[rv a0, iv p1] [(.ref a0), (.ref kd)])) rfl rfl (hb hby d5_75)
  refine own_pre st48 ?_
  refine own_pre (A := T48.setTop (mkF m 79 #[rv a0, iv p1] [(.int p1), (.int sz), (.ref kd)])) (fun t k => ?_) ?_
  · show Steps p.tables e below (T48.setTop (mkF m 78 #[rv a0, iv p1] [(.int sz), (.ref kd)])) _
    refine XS.iloadN X48.here hx rfl (hb hby d5_78) rfl ?_
    exact k
  have hbn50 : own_In sz ks.length := (own_nelen hks hsz).2
  obtain ⟨T49, h49, X49, e49, W49, V49, st49⟩ := own_bastore X48 hx hZ e48 P6 (j := sz) (x := p1) hbn50 (g := (mkF m 79 #[rv a0, iv p1] [(.int p1), (.int sz), (.ref kd)])) rfl rfl (hb hby d5_79)
  have Kp49 : Keep h0 h49 [a0, kd] := Kp0.wr W49 (Or.inl (List.mem_of_getElem? (i := 1) rfl))
  have Z51 : n0 ≤ h49.size := Nat.le_trans Z0 (Nat.le_of_eq W49.size.symm)
  have N49 := Fr.snoc X49 N0 gq_kd
  have Vw49 : own_Bytes Z h49 kd (ks.set sz.toNatClampNeg (p1.toInt8.toInt32)) := V49
  refine own_pre st49 ?_
  refine own_pre (A := T49.setTop (mkF m 82 #[rv a0, iv p1] [(.ref a0), (.ref a0)])) (fun t k => ?_) ?_
  · show Steps p.tables e below (T49.setTop (mkF m 80 #[rv a0, iv p1] [])) _
    refine XS.aloadN X49.here hx rfl (hb hby d5_80) rfl rfl ?_
    show Steps p.tables e below (T49.setTop (mkF m 81 #[rv a0, iv p1] [(.ref a0)])) _
    refine XS.dup X49.here hx rfl (hb hby d5_81) rfl rfl ?_
    exact k
  have F53 := (P4.other W49 (Or.inl nq_a0_kd))
  obtain ⟨T52, X52, e52, st52⟩ := getF X49 hx hZ hown (host := "") (Or.inl (own_h hw 36 rfl)) Via.refl e49 F53 (g := (mkF m 82 #[rv a0, iv p1] [(.ref a0), (.ref a0)])) rfl rfl (hb hby d5_82)
  refine own_pre st52 ?_
  refine own_pre (A := T52.setTop (mkF m 88 #[rv a0, iv p1] [(.int (sz + (1:Int32))), (.ref a0), (.int sz)])) (fun t k => ?_) ?_
  · show Steps p.tables e below (T52.setTop (mkF m 85 #[rv a0, iv p1] [(.int sz), (.ref a0)])) _
    refine XS.dupX1 X52.here hx rfl (hb hby d5_85) rfl rfl rfl ?_
    show Steps p.tables e below (T52.setTop (mkF m 86 #[rv a0, iv p1] [(.int sz), (.ref a0), (.int sz)])) _
    refine XS.iconst X52.here hx rfl (hb hby d5_86) ?_
    show Steps p.tables e below (T52.setTop (mkF m 87 #[rv a0, iv p1] [(.int (1:Int32)), (.int sz), (.ref a0), (.int sz)])) _
    refine XS.iadd X52.here hx rfl (hb hby d5_87) rfl ?_
    exact k
  have F55 := (P0.wr W49)
  obtain ⟨T54, h54, X54, e54, W54, st54⟩ := putF X52 hx hZ hown (host := "") (Or.inl (own_h hw 36 rfl)) Via.refl e52 F53 F55 (Or.inl (own_h hw 37 rfl)) (own_h hw 3 rfl) (ty := .int) (by decide) rfl rfl (g := (mkF m 88 #[rv a0, iv p1] [(.int (sz + (1:Int32))), (.ref a0), (.int sz)])) rfl rfl (hb hby d5_88)
  have Kp54 : Keep h0 h54 [a0, kd] := Kp49.wr W54 (Or.inl (List.mem_of_getElem? (i := 0) rfl))
  have Z56 : n0 ≤ h54.size := Nat.le_trans Z51 (Nat.le_of_eq W54.size.symm)
  have N54 := Fr.snoc X54 N49 gq_a0
  have Fw54 := F53.same W54
  refine own_pre st54 ?_
  have F57 := ((P1.other W49 (Or.inl nq_a0_kd)).other W54 (Or.inr (slot_ne (Or.inl (own_h hw 13 rfl)) (Or.inl (own_h hw 37 rfl)) (by decide) (t := (.array .byte)) (t' := .int) (by decide) (by decide))))
  have F58 := ((P2.other W49 (Or.inl nq_a0_kd)).other W54 (Or.inr (slot_ne (Or.inl (own_h hw 20 rfl)) (Or.inl (own_h hw 37 rfl)) (by decide) (t := (.array .int)) (t' := .int) (by decide) (by decide))))
  have F59 := ((P3.other W49 (Or.inl nq_a0_kd)).other W54 (Or.inr (slot_ne (Or.inl (own_h hw 22 rfl)) (Or.inl (own_h hw 37 rfl)) (by decide) (t := (.array .char)) (t' := .int) (by decide) (by decide))))
  have F60 := ((P5.other W49 (Or.inl nq_a0_kd)).other W54 (Or.inr (slot_ne (Or.inl (own_h hw 39 rfl)) (Or.inl (own_h hw 37 rfl)) (by decide) (t := .int) (t' := .int) (by decide) (by decide))))
  have F61 := (Vw49.other W54 (Ne.symm nq_a0_kd))
  exact own_end X54 (BodyLoose.notSynchronized Bd) (fun h => by rw [Bd.returns] at h; cases h) (v := some (.int sz)) (fun fs hr => retOut X54 hx Bd.returns rfl (by simp [Value.isRef, FieldType.isReference]) (hb hby d5_91) hr) (by show Q5 Z a0 p1 kd nb ch ks sz cc h0 n0 _ T54.heap _; rw [e54]; exact ⟨rfl, N54, Kp54, F57, F58, F59, Fw54, F60, F61⟩) (by decide) (by decide)
theorem own_pd0 : parseMethodDescriptor "(B)I" = some ⟨[.byte], some .int⟩ := by decide +kernel
theorem d7_0 : decode prog_62_method_8_code 0 = .ok (.aload_n 0, 1) := by decide +kernel
theorem d7_1 : decode prog_62_method_8_code 1 = .ok (.iconst 3, 1) := by decide +kernel
theorem d7_2 : decode prog_62_method_8_code 2 = .ok (.invokevirtual 34, 3) := by decide +kernel
theorem d7_5 : decode prog_62_method_8_code 5 = .ok (.pop, 1) := by decide +kernel
theorem d7_6 : decode prog_62_method_8_code 6 = .ok (.return_, 1) := by decide +kernel
theorem ef7 (m : MethodId) (a0 : Addr) : entryFrame m #[(.ref a0)] 1 = mkF m 0 #[rv a0] [] := by first | (simp [entryFrame, mkF, argsToLocals, Value.category]; done) | rfl
def Q7 (Z : State) (a0 : Addr) (kd : Addr) (nb : Addr) (ch : Addr) (ks : List Int32) (sz : Int32) (cc : Int32) (h0 : Heap) (n0 : Nat) (v : Option Value) (h : Heap) (L : List Loc) : Prop := v = none ∧ Fr n0 L ∧ Keep h0 h [a0, kd] ∧ Fld Z h a0 "com/example/fanout4/fanout4/xdm/RecordedEvents" "kinds" "[B" (.ref kd) ∧ Fld Z h a0 "com/example/fanout4/fanout4/xdm/RecordedEvents" "numbers" "[I" (.ref nb) ∧ Fld Z h a0 "com/example/fanout4/fanout4/xdm/RecordedEvents" "characters" "[C" (.ref ch) ∧ Fld Z h a0 "com/example/fanout4/fanout4/xdm/RecordedEvents" "size" "I" (.int (sz + (1:Int32))) ∧ Fld Z h a0 "com/example/fanout4/fanout4/xdm/RecordedEvents" "characterCount" "I" (.int cc) ∧ own_Bytes Z h kd (ks.set sz.toNatClampNeg ((3:Int32).toInt8.toInt32))
set_option maxRecDepth 65536 in
set_option maxHeartbeats 40000000 in
theorem rm7 (l : Launch) (Z : State) (aZ : Array Value) (hw : ∀ d ∈ tables_1, d.before aZ Z = true) (ws : List Jvm.Cond) (a0 : Addr) (kd : Addr) (nb : Addr) (ch : Addr) (ks : List Int32) (sz : Int32) (cc : Int32) (h0 : Heap) (n0 : Nat) (Z0 : n0 ≤ h0.size) (P0 : Exa Z h0 a0 "com/example/fanout4/fanout4/xdm/RecordedEvents") (P1 : Fld Z h0 a0 "com/example/fanout4/fanout4/xdm/RecordedEvents" "kinds" "[B" (.ref kd)) (P2 : Fld Z h0 a0 "com/example/fanout4/fanout4/xdm/RecordedEvents" "numbers" "[I" (.ref nb)) (P3 : Fld Z h0 a0 "com/example/fanout4/fanout4/xdm/RecordedEvents" "characters" "[C" (.ref ch)) (P4 : Fld Z h0 a0 "com/example/fanout4/fanout4/xdm/RecordedEvents" "size" "I" (.int sz)) (P5 : Fld Z h0 a0 "com/example/fanout4/fanout4/xdm/RecordedEvents" "characterCount" "I" (.int cc)) (P6 : own_Bytes Z h0 kd ks) (nq_a0_kd : a0 ≠ kd) (gq_a0 : n0 ≤ a0) (gq_kd : n0 ≤ kd) (hks : ks.length = 64) (hsz : 0 ≤ sz.toInt ∧ sz.toInt < 60) :
    MetFree l (⟨"com/example/fanout4/fanout4/xdm/RecordedEvents", "endTag", "()V"⟩ : MethodName) (head1 (Jvm.Cond.code (⟨"com/example/fanout4/fanout4/xdm/RecordedEvents", "endTag", "()V"⟩ : MethodName) prog_62_method_8_code 1 none :: ws) ({ frames := 1, cells := 0, slots := 0, locals := 13 } : Room)) (fun a U => a = #[(.ref a0)] ∧ Z.Warmed39 U.vm ∧ U.heap = h0) (fun _ _ _ _ _ => True) (fun _ U o U' => ∃ v L, o = .returned v ∧ Q7 Z a0 kd nb ch ks sz cc h0 n0 v U'.heap L ∧ FrameEnd U o U' L ({ frames := 1, cells := 0, slots := 0, locals := 13 } : Room).cells ({ frames := 1, cells := 0, slots := 0, locals := 13 } : Room).slots) := by
  refine MetFree.of_bodySF (plainFor_of_name own_pn0) hisR ?_
  intro p e s m args below meth c s₁ Bd hml0 hP hK
  obtain ⟨rfl, hZ, hh⟩ := hP
  have hx := Bd.exec
  have hby := Bd.bytes
  have hml : c.maxLocals = 1 := hml0
  have hown : s.vm.findClass "com/example/fanout4/fanout4/xdm/RecordedEvents" = some m.cls := findClass_of_methodNamed Bd.named
  have hnm := (name_of_methodNamed Bd.named Bd.method).1
  have X0 : Stand p l e ({ frames := 1, cells := 0, slots := 0, locals := 13 } : Room) s m #[(.ref a0)] below meth c s₁ [] 0 0 := Stand.of_body Bd
  have e0 : s₁.heap = h0 := by rw [← hh, Bd.state]; rfl
  have N0 := Fr.nil n0
  have Kp0 : Keep h0 h0 [a0, kd] := Keep.refl _ _
  show own_Goes p e below s (Q7 Z a0 kd nb ch ks sz cc h0 n0) ({ frames := 1, cells := 0, slots := 0, locals := 13 } : Room).cells ({ frames := 1, cells := 0, slots := 0, locals := 13 } : Room).slots _
  refine own_pre (fun t k => castTop (ef7 m a0) k) ?_
  refine own_pre (A := s₁.setTop (mkF m 2 #[rv a0] [(.int (3:Int32)), (.ref a0)])) (fun t k => ?_) ?_
  · show Steps p.tables e below (s₁.setTop (mkF m 0 #[rv a0] [])) _
    refine XS.aloadN X0.here hx rfl (hb hby d7_0) rfl rfl ?_
    show Steps p.tables e below (s₁.setTop (mkF m 1 #[rv a0] [(.ref a0)])) _
    refine XS.iconst X0.here hx rfl (hb hby d7_1) ?_
    exact k
  obtain ⟨cq62, q62, q62'⟩ := P0.cell
  obtain ⟨_, _, ⟨T62, L62, k62, n62⟩, -, X62, ⟨Lc62, hQ62, l62, y62, z62⟩, st62⟩ := X0.privateBack hx (y := (⟨"com/example/fanout4/fanout4/xdm/RecordedEvents", "add", "(B)I"⟩ : MethodName)) hown (mvT hZ (own_h hw 32 rfl)) (mvT hZ (own_h hw 33 rfl)) (own_privsel (z := (⟨"com/example/fanout4/fanout4/xdm/RecordedEvents", "text", "([CII)V"⟩ : MethodName)) (mvT hZ (own_h hw 26 rfl)) rfl (Cond.privateMethod_at (mvP hZ (own_h hw 34 rfl) (args := #[]))) (mvT hZ (own_h hw 33 rfl)) (by decide)) (Cond.privateMethod_at (mvP hZ (own_h hw 34 rfl) (args := #[]))) (mvT hZ (own_h hw 35 rfl)) (by decide) (backOf (W := 0) (rm5 l Z aZ hw [] a0 (3:Int32) kd nb ch ks sz cc h0 n0 Z0 P0 P1 P2 P3 P4 P5 P6 nq_a0_kd gq_a0 gq_kd hks hsz) hZ (own_h hw 35 rfl) (own_h hw 4 rfl) (by decide) (by decide)) (g := (mkF m 2 #[rv a0] [(.int (3:Int32)), (.ref a0)])) rfl (by rw [hml]; rfl) (Steps.refl _) (a := a0) (by rw [e0]; exact q62) q62' (argsL := [(.int (3:Int32))]) (rest := []) (lenOf own_pd0 rfl) rfl (by show 2 * 0 + _ ≤ _; exact Nat.le_of_eq rfl) (hb hby d7_2) (fun _ _ => ⟨rfl, e0, (by decide : 0 + 0 ≤ _), (by decide : 0 + 0 ≤ _)⟩)
  dsimp only [Pt.U, Pt.locs, Pt.cells, Pt.slots] at X62 l62 y62 z62 st62 hQ62
  subst l62 y62 z62
  obtain ⟨rfl, N62q, K62, G63, G64, G65, G66, G67, G68⟩ := hQ62
  have N62 := Fr.app N0 N62q
  have Kp62 : Keep h0 T62.heap [a0, kd] := Kp0.trans K62 (allS (Or.inl (List.mem_of_getElem? (i := 0) rfl)) (allS (Or.inl (List.mem_of_getElem? (i := 1) rfl)) all0))
  have Z69 : n0 ≤ T62.heap.size := Nat.le_trans Z0 K62.1
  refine own_pre (fun _ k => st62.trans k) ?_
  refine own_pre (A := T62.setTop (mkF m 6 #[rv a0] [])) (fun t k => ?_) ?_
  · show Steps p.tables e below (T62.setTop (mkF m 5 #[rv a0] [(.int sz)])) _
    refine XS.pop X62.here hx rfl (hb hby d7_5) rfl rfl ?_
    exact k
  exact own_end X62 (BodyLoose.notSynchronized Bd) (fun _ => rfl) (v := none) (fun fs hr => X62.returnOut hx Bd.returns (hb hby d7_6) hr) (by show Q7 Z a0 kd nb ch ks sz cc h0 n0 _ T62.heap _; exact ⟨rfl, N62, Kp62, G63, G64, G65, G66, G67, G68⟩) (by decide) (by decide)
theorem own_chlen {p4 : Int32} {cs : List Int32} (h : cs.length = 1024) (hs : 0 ≤ p4.toInt ∧ p4.toInt < 16) : ¬ ((own_len cs) < ((0:Int32) + p4)) := by
  have e : (own_len cs).toInt = 1024 := by have := len_toInt (n := cs.length) (by omega); rw [h] at this; simpa [own_len, h] using this
  rw [Int32.zero_add, Int32.lt_iff_toInt_lt, e]; omega
theorem own_nin {sz : Int32} {ns : List Int32} (h : ns.length = 128) (hs : 0 ≤ sz.toInt ∧ sz.toInt < 60) : own_In (sz * (2:Int32)) ns.length ∧ own_In ((sz * (2:Int32)) + (1:Int32)) ns.length := by
  have l2 : (2:Int32).toInt = 2 := by decide
  have l1 : (1:Int32).toInt = 1 := by decide
  have e : (sz * 2).toInt = sz.toInt * 2 := by rw [Jvm.Kit.i32_mul (by rw [l2]; omega) (by rw [l2]; omega), l2]
  have e2 : (sz * 2 + 1).toInt = sz.toInt * 2 + 1 := by rw [Jvm.Kit.i32_add (by rw [e, l1]; omega) (by rw [e, l1]; omega), e, l1]
  show (0 ≤ _ ∧ _ < _) ∧ (0 ≤ _ ∧ _ < _)
  rw [e, e2, h]; omega
theorem d4_0 : decode prog_62_method_12_code 0 = .ok (.aload_n 0, 1) := by decide +kernel
theorem d4_1 : decode prog_62_method_12_code 1 = .ok (.iload_n 1, 1) := by decide +kernel
theorem d4_2 : decode prog_62_method_12_code 2 = .ok (.invokevirtual 34, 3) := by decide +kernel
theorem d4_5 : decode prog_62_method_12_code 5 = .ok (.istore 5, 2) := by decide +kernel
theorem d4_7 : decode prog_62_method_12_code 7 = .ok (.aload_n 0, 1) := by decide +kernel
theorem d4_8 : decode prog_62_method_12_code 8 = .ok (.getfield 31, 3) := by decide +kernel
theorem d4_11 : decode prog_62_method_12_code 11 = .ok (.iload 4, 2) := by decide +kernel
theorem d4_13 : decode prog_62_method_12_code 13 = .ok (.iadd, 1) := by decide +kernel
theorem d4_14 : decode prog_62_method_12_code 14 = .ok (.aload_n 0, 1) := by decide +kernel
theorem d4_15 : decode prog_62_method_12_code 15 = .ok (.getfield 23, 3) := by decide +kernel
theorem d4_18 : decode prog_62_method_12_code 18 = .ok (.arraylength, 1) := by decide +kernel
theorem d4_19 : decode prog_62_method_12_code 19 = .ok (.if_icmp .le 31, 3) := by decide +kernel
theorem d4_50 : decode prog_62_method_12_code 50 = .ok (.aload_n 2, 1) := by decide +kernel
theorem d4_51 : decode prog_62_method_12_code 51 = .ok (.iload_n 3, 1) := by decide +kernel
theorem d4_52 : decode prog_62_method_12_code 52 = .ok (.aload_n 0, 1) := by decide +kernel
theorem d4_53 : decode prog_62_method_12_code 53 = .ok (.getfield 23, 3) := by decide +kernel
theorem d4_56 : decode prog_62_method_12_code 56 = .ok (.aload_n 0, 1) := by decide +kernel
theorem d4_57 : decode prog_62_method_12_code 57 = .ok (.getfield 31, 3) := by decide +kernel
theorem d4_60 : decode prog_62_method_12_code 60 = .ok (.iload 4, 2) := by decide +kernel
theorem d4_62 : decode prog_62_method_12_code 62 = .ok (.invokestatic 54, 3) := by decide +kernel
theorem d4_65 : decode prog_62_method_12_code 65 = .ok (.aload_n 0, 1) := by decide +kernel
theorem d4_66 : decode prog_62_method_12_code 66 = .ok (.getfield 19, 3) := by decide +kernel
theorem d4_69 : decode prog_62_method_12_code 69 = .ok (.iload 5, 2) := by decide +kernel
theorem d4_71 : decode prog_62_method_12_code 71 = .ok (.iconst 2, 1) := by decide +kernel
theorem d4_72 : decode prog_62_method_12_code 72 = .ok (.imul, 1) := by decide +kernel
theorem d4_73 : decode prog_62_method_12_code 73 = .ok (.aload_n 0, 1) := by decide +kernel
theorem d4_74 : decode prog_62_method_12_code 74 = .ok (.getfield 31, 3) := by decide +kernel
theorem d4_77 : decode prog_62_method_12_code 77 = .ok (.iastore, 1) := by decide +kernel
theorem d4_78 : decode prog_62_method_12_code 78 = .ok (.aload_n 0, 1) := by decide +kernel
theorem d4_79 : decode prog_62_method_12_code 79 = .ok (.getfield 19, 3) := by decide +kernel
theorem d4_82 : decode prog_62_method_12_code 82 = .ok (.iload 5, 2) := by decide +kernel
theorem d4_84 : decode prog_62_method_12_code 84 = .ok (.iconst 2, 1) := by decide +kernel
theorem d4_85 : decode prog_62_method_12_code 85 = .ok (.imul, 1) := by decide +kernel
theorem d4_86 : decode prog_62_method_12_code 86 = .ok (.iconst 1, 1) := by decide +kernel
theorem d4_87 : decode prog_62_method_12_code 87 = .ok (.iadd, 1) := by decide +kernel
theorem d4_88 : decode prog_62_method_12_code 88 = .ok (.iload 4, 2) := by decide +kernel
theorem d4_90 : decode prog_62_method_12_code 90 = .ok (.iastore, 1) := by decide +kernel
theorem d4_91 : decode prog_62_method_12_code 91 = .ok (.aload_n 0, 1) := by decide +kernel
theorem d4_92 : decode prog_62_method_12_code 92 = .ok (.dup, 1) := by decide +kernel
theorem d4_93 : decode prog_62_method_12_code 93 = .ok (.getfield 31, 3) := by decide +kernel
theorem d4_96 : decode prog_62_method_12_code 96 = .ok (.iload 4, 2) := by decide +kernel
theorem d4_98 : decode prog_62_method_12_code 98 = .ok (.iadd, 1) := by decide +kernel
theorem d4_99 : decode prog_62_method_12_code 99 = .ok (.putfield 31, 3) := by decide +kernel
theorem d4_102 : decode prog_62_method_12_code 102 = .ok (.return_, 1) := by decide +kernel
theorem ef4 (m : MethodId) (a0 : Addr) (p1 : Int32) (a2 : Addr) (p4 : Int32) : entryFrame m #[(.ref a0), (.int p1), (.ref a2), (.int (0:Int32)), (.int p4)] 6 = mkF m 0 #[rv a0, iv p1, rv a2, iv (0:Int32), iv p4, .unset] [] := by first | (simp [entryFrame, mkF, argsToLocals, Value.category]; done) | rfl
def Q4 (Z : State) (a0 : Addr) (p1 : Int32) (a2 : Addr) (p4 : Int32) (kd : Addr) (nb : Addr) (ch : Addr) (ks : List Int32) (sz : Int32) (ns : List Int32) (cs : List Int32) (bf : List Int32) (h0 : Heap) (n0 : Nat) (v : Option Value) (h : Heap) (L : List Loc) : Prop := v = none ∧ Fr n0 L ∧ Keep h0 h [a0, kd, nb, ch] ∧ Fld Z h a0 "com/example/fanout4/fanout4/xdm/RecordedEvents" "size" "I" (.int (sz + (1:Int32))) ∧ Fld Z h a0 "com/example/fanout4/fanout4/xdm/RecordedEvents" "characterCount" "I" (.int ((0:Int32) + p4))
set_option maxRecDepth 65536 in
set_option maxHeartbeats 40000000 in
theorem rm4 (l : Launch) (Z : State) (aZ : Array Value) (hw : ∀ d ∈ tables_1, d.before aZ Z = true) (ws : List Jvm.Cond) (a0 : Addr) (p1 : Int32) (a2 : Addr) (p4 : Int32) (kd : Addr) (nb : Addr) (ch : Addr) (ks : List Int32) (sz : Int32) (ns : List Int32) (cs : List Int32) (bf : List Int32) (h0 : Heap) (n0 : Nat) (Z0 : n0 ≤ h0.size) (P0 : Exa Z h0 a0 "com/example/fanout4/fanout4/xdm/RecordedEvents") (P1 : Fld Z h0 a0 "com/example/fanout4/fanout4/xdm/RecordedEvents" "kinds" "[B" (.ref kd)) (P2 : Fld Z h0 a0 "com/example/fanout4/fanout4/xdm/RecordedEvents" "numbers" "[I" (.ref nb)) (P3 : Fld Z h0 a0 "com/example/fanout4/fanout4/xdm/RecordedEvents" "characters" "[C" (.ref ch)) (P4 : Fld Z h0 a0 "com/example/fanout4/fanout4/xdm/RecordedEvents" "size" "I" (.int sz)) (P5 : Fld Z h0 a0 "com/example/fanout4/fanout4/xdm/RecordedEvents" "characterCount" "I" (.int (0:Int32))) (P6 : own_Bytes Z h0 kd ks) (P7 : own_Ints Z h0 nb ns) (P8 : own_Chars Z h0 ch cs) (P9 : own_Chars Z h0 a2 bf) (nq_a0_kd : a0 ≠ kd) (nq_a0_nb : a0 ≠ nb) (nq_a0_ch : a0 ≠ ch) (nq_kd_nb : kd ≠ nb) (nq_kd_ch : kd ≠ ch) (nq_nb_ch : nb ≠ ch) (nq_a2_a0 : a2 ≠ a0) (nq_a2_kd : a2 ≠ kd) (nq_a2_nb : a2 ≠ nb) (nq_a2_ch : a2 ≠ ch) (gq_a0 : n0 ≤ a0) (gq_kd : n0 ≤ kd) (gq_nb : n0 ≤ nb) (gq_ch : n0 ≤ ch) (hks : ks.length = 64) (hsz : 0 ≤ sz.toInt ∧ sz.toInt < 60) (hns : ns.length = 128) (hcs : cs.length = 1024) (hbf : bf.length = 16) (hlen : 0 ≤ p4.toInt ∧ p4.toInt < 16) :
    MetFree l (⟨"com/example/fanout4/fanout4/xdm/RecordedEvents", "addCharacters", "(B[CII)V"⟩ : MethodName) (head1 (Jvm.Cond.code (⟨"com/example/fanout4/fanout4/xdm/RecordedEvents", "addCharacters", "(B[CII)V"⟩ : MethodName) prog_62_method_12_code 6 none :: ws) ({ frames := 1, cells := 0, slots := 0, locals := 18 } : Room)) (fun a U => a = #[(.ref a0), (.int p1), (.ref a2), (.int (0:Int32)), (.int p4)] ∧ Z.Warmed39 U.vm ∧ U.heap = h0) (fun _ _ _ _ _ => True) (fun _ U o U' => ∃ v L, o = .returned v ∧ Q4 Z a0 p1 a2 p4 kd nb ch ks sz ns cs bf h0 n0 v U'.heap L ∧ FrameEnd U o U' L ({ frames := 1, cells := 0, slots := 0, locals := 18 } : Room).cells ({ frames := 1, cells := 0, slots := 0, locals := 18 } : Room).slots) := by
  refine MetFree.of_bodySF (plainFor_of_name own_pn0) hisR ?_
  intro p e s m args below meth c s₁ Bd hml0 hP hK
  obtain ⟨rfl, hZ, hh⟩ := hP
  have hx := Bd.exec
  have hby := Bd.bytes
  have hml : c.maxLocals = 6 := hml0
  have hown : s.vm.findClass "com/example/fanout4/fanout4/xdm/RecordedEvents" = some m.cls := findClass_of_methodNamed Bd.named
  have hnm := (name_of_methodNamed Bd.named Bd.method).1
  have X0 : Stand p l e ({ frames := 1, cells := 0, slots := 0, locals := 18 } : Room) s m #[(.ref a0), (.int p1), (.ref a2), (.int (0:Int32)), (.int p4)] below meth c s₁ [] 0 0 := Stand.of_body Bd
  have e0 : s₁.heap = h0 := by rw [← hh, Bd.state]; rfl
  have N0 := Fr.nil n0
  have Kp0 : Keep h0 h0 [a0, kd, nb, ch] := Keep.refl _ _
  show own_Goes p e below s (Q4 Z a0 p1 a2 p4 kd nb ch ks sz ns cs bf h0 n0) ({ frames := 1, cells := 0, slots := 0, locals := 18 } : Room).cells ({ frames := 1, cells := 0, slots := 0, locals := 18 } : Room).slots _
  refine own_pre (fun t k => castTop (ef4 m a0 p1 a2 p4) k) ?_
  refine own_pre (A := s₁.setTop (mkF m 2 #[rv a0, iv p1, rv a2, iv (0:Int32), iv p4, .unset] [(.int p1), (.ref a0)])) (fun t k => ?_) ?_
  · show Steps p.tables e below (s₁.setTop (mkF m 0 #[rv a0, iv p1, rv a2, iv (0:Int32), iv p4, .unset] [])) _
    refine XS.aloadN X0.here hx rfl (hb hby d4_0) rfl rfl ?_
    show Steps p.tables e below (s₁.setTop (mkF m 1 #[rv a0, iv p1, rv a2, iv (0:Int32), iv p4, .unset] [(.ref a0)])) _
    refine XS.iloadN X0.here hx rfl (hb hby d4_1) rfl ?_
    exact k
  obtain ⟨cq70, q70, q70'⟩ := P0.cell
  obtain ⟨_, _, ⟨T70, L70, k70, n70⟩, -, X70, ⟨Lc70, hQ70, l70, y70, z70⟩, st70⟩ := X0.privateBack hx (y := (⟨"com/example/fanout4/fanout4/xdm/RecordedEvents", "add", "(B)I"⟩ : MethodName)) hown (mvT hZ (own_h hw 32 rfl)) (mvT hZ (own_h hw 33 rfl)) (own_privsel (z := (⟨"com/example/fanout4/fanout4/xdm/RecordedEvents", "text", "([CII)V"⟩ : MethodName)) (mvT hZ (own_h hw 26 rfl)) rfl (Cond.privateMethod_at (mvP hZ (own_h hw 34 rfl) (args := #[]))) (mvT hZ (own_h hw 33 rfl)) (by decide)) (Cond.privateMethod_at (mvP hZ (own_h hw 34 rfl) (args := #[]))) (mvT hZ (own_h hw 35 rfl)) (by decide) (backOf (W := 0) (rm5 l Z aZ hw [] a0 p1 kd nb ch ks sz (0:Int32) h0 n0 Z0 P0 P1 P2 P3 P4 P5 P6 nq_a0_kd gq_a0 gq_kd hks hsz) hZ (own_h hw 35 rfl) (own_h hw 4 rfl) (by decide) (by decide)) (g := (mkF m 2 #[rv a0, iv p1, rv a2, iv (0:Int32), iv p4, .unset] [(.int p1), (.ref a0)])) rfl (by rw [hml]; rfl) (Steps.refl _) (a := a0) (by rw [e0]; exact q70) q70' (argsL := [(.int p1)]) (rest := []) (lenOf own_pd0 rfl) rfl (by show 2 * 0 + _ ≤ _; exact Nat.le_of_eq rfl) (hb hby d4_2) (fun _ _ => ⟨rfl, e0, (by decide : 0 + 0 ≤ _), (by decide : 0 + 0 ≤ _)⟩)
  dsimp only [Pt.U, Pt.locs, Pt.cells, Pt.slots] at X70 l70 y70 z70 st70 hQ70
  subst l70 y70 z70
  obtain ⟨rfl, N70q, K70, G71, G72, G73, G74, G75, G76⟩ := hQ70
  have N70 := Fr.app N0 N70q
  have Kp70 : Keep h0 T70.heap [a0, kd, nb, ch] := Kp0.trans K70 (allS (Or.inl (List.mem_of_getElem? (i := 0) rfl)) (allS (Or.inl (List.mem_of_getElem? (i := 1) rfl)) all0))
  have Z77 : n0 ≤ T70.heap.size := Nat.le_trans Z0 K70.1
  refine own_pre (fun _ k => st70.trans k) ?_
  refine own_pre (A := T70.setTop (mkF m 8 #[rv a0, iv p1, rv a2, iv (0:Int32), iv p4, iv sz] [(.ref a0)])) (fun t k => ?_) ?_
  · show Steps p.tables e below (T70.setTop (mkF m 5 #[rv a0, iv p1, rv a2, iv (0:Int32), iv p4, .unset] [(.int sz)])) _
    refine XS.istore X70.here hx rfl (hb hby d4_5) rfl (l' := #[rv a0, iv p1, rv a2, iv (0:Int32), iv p4, iv sz]) rfl ?_
    show Steps p.tables e below (T70.setTop (mkF m 7 #[rv a0, iv p1, rv a2, iv (0:Int32), iv p4, iv sz] [])) _
    refine XS.aloadN X70.here hx rfl (hb hby d4_7) rfl rfl ?_
    exact k
  obtain ⟨T78, X78, e78, st78⟩ := getF X70 hx hZ hown (host := "") (Or.inl (own_h hw 38 rfl)) Via.refl rfl G75 (g := (mkF m 8 #[rv a0, iv p1, rv a2, iv (0:Int32), iv p4, iv sz] [(.ref a0)])) rfl rfl (hb hby d4_8)
  refine own_pre st78 ?_
  refine own_pre (A := T78.setTop (mkF m 15 #[rv a0, iv p1, rv a2, iv (0:Int32), iv p4, iv sz] [(.ref a0), (.int ((0:Int32) + p4))])) (fun t k => ?_) ?_
  · show Steps p.tables e below (T78.setTop (mkF m 11 #[rv a0, iv p1, rv a2, iv (0:Int32), iv p4, iv sz] [(.int (0:Int32))])) _
    refine XS.iload X78.here hx rfl (hb hby d4_11) rfl ?_
    show Steps p.tables e below (T78.setTop (mkF m 13 #[rv a0, iv p1, rv a2, iv (0:Int32), iv p4, iv sz] [(.int p4), (.int (0:Int32))])) _
    refine XS.iadd X78.here hx rfl (hb hby d4_13) rfl ?_
    show Steps p.tables e below (T78.setTop (mkF m 14 #[rv a0, iv p1, rv a2, iv (0:Int32), iv p4, iv sz] [(.int ((0:Int32) + p4))])) _
    refine XS.aloadN X78.here hx rfl (hb hby d4_14) rfl rfl ?_
    exact k
  obtain ⟨T79, X79, e79, st79⟩ := getF X78 hx hZ hown (host := "") (Or.inl (own_h hw 21 rfl)) Via.refl e78 G73 (g := (mkF m 15 #[rv a0, iv p1, rv a2, iv (0:Int32), iv p4, iv sz] [(.ref a0), (.int ((0:Int32) + p4))])) rfl rfl (hb hby d4_15)
  refine own_pre st79 ?_
  have F80 := (P8.keep K70 (ninS (Ne.symm nq_a0_ch) (ninS (Ne.symm nq_kd_ch) nin0)))
  have hd19_1 : ¬ ((own_len cs) < ((0:Int32) + p4)) := own_chlen hcs hlen
  refine own_pre (A := T79.setTop (mkF m 53 #[rv a0, iv p1, rv a2, iv (0:Int32), iv p4, iv sz] [(.ref a0), (.int (0:Int32)), (.ref a2)])) (fun t k => ?_) ?_
  · show Steps p.tables e below (T79.setTop (mkF m 18 #[rv a0, iv p1, rv a2, iv (0:Int32), iv p4, iv sz] [(.ref ch), (.int ((0:Int32) + p4))])) _
    refine own_arrlenC X79 hx hZ e79 F80 rfl rfl (hb hby d4_18) ?_
    show Steps p.tables e below (T79.setTop (mkF m 19 #[rv a0, iv p1, rv a2, iv (0:Int32), iv p4, iv sz] [(.int (own_len cs)), (.int ((0:Int32) + p4))])) _
    refine XS.icmpYes X79.here hx rfl (pc0 := 19) (pc' := 50) rfl (hb hby d4_19) rfl (XT.ii_le_t hd19_1) (by decide) (by decide) ?_
    show Steps p.tables e below (T79.setTop (mkF m 50 #[rv a0, iv p1, rv a2, iv (0:Int32), iv p4, iv sz] [])) _
    refine XS.aloadN X79.here hx rfl (hb hby d4_50) rfl rfl ?_
    show Steps p.tables e below (T79.setTop (mkF m 51 #[rv a0, iv p1, rv a2, iv (0:Int32), iv p4, iv sz] [(.ref a2)])) _
    refine XS.iloadN X79.here hx rfl (hb hby d4_51) rfl ?_
    show Steps p.tables e below (T79.setTop (mkF m 52 #[rv a0, iv p1, rv a2, iv (0:Int32), iv p4, iv sz] [(.int (0:Int32)), (.ref a2)])) _
    refine XS.aloadN X79.here hx rfl (hb hby d4_52) rfl rfl ?_
    exact k
  obtain ⟨T81, X81, e81, st81⟩ := getF X79 hx hZ hown (host := "") (Or.inl (own_h hw 21 rfl)) Via.refl e79 G73 (g := (mkF m 53 #[rv a0, iv p1, rv a2, iv (0:Int32), iv p4, iv sz] [(.ref a0), (.int (0:Int32)), (.ref a2)])) rfl rfl (hb hby d4_53)
  refine own_pre st81 ?_
  refine own_pre (A := T81.setTop (mkF m 57 #[rv a0, iv p1, rv a2, iv (0:Int32), iv p4, iv sz] [(.ref a0), (.ref ch), (.int (0:Int32)), (.ref a2)])) (fun t k => ?_) ?_
  · show Steps p.tables e below (T81.setTop (mkF m 56 #[rv a0, iv p1, rv a2, iv (0:Int32), iv p4, iv sz] [(.ref ch), (.int (0:Int32)), (.ref a2)])) _
    refine XS.aloadN X81.here hx rfl (hb hby d4_56) rfl rfl ?_
    exact k
  obtain ⟨T82, X82, e82, st82⟩ := getF X81 hx hZ hown (host := "") (Or.inl (own_h hw 38 rfl)) Via.refl e81 G75 (g := (mkF m 57 #[rv a0, iv p1, rv a2, iv (0:Int32), iv p4, iv sz] [(.ref a0), (.ref ch), (.int (0:Int32)), (.ref a2)])) rfl rfl (hb hby d4_57)
  refine own_pre st82 ?_
  refine own_pre (A := T82.setTop (mkF m 62 #[rv a0, iv p1, rv a2, iv (0:Int32), iv p4, iv sz] [(.int p4), (.int (0:Int32)), (.ref ch), (.int (0:Int32)), (.ref a2)])) (fun t k => ?_) ?_
  · show Steps p.tables e below (T82.setTop (mkF m 60 #[rv a0, iv p1, rv a2, iv (0:Int32), iv p4, iv sz] [(.int (0:Int32)), (.ref ch), (.int (0:Int32)), (.ref a2)])) _
    refine XS.iload X82.here hx rfl (hb hby d4_60) rfl ?_
    exact k
  have F84 := (P9.keep K70 (ninS nq_a2_a0 (ninS nq_a2_kd nin0)))
  obtain ⟨T83, h83, L83, X83, e83, N83, K83, st83⟩ := own_cpC X82 hx hZ hown (own_h hw 40 rfl) (own_h hw 43 rfl) (own_h hw 41 rfl) (own_h hw 42 rfl) e82 F84 F80 hlen.1 (by rw [hbf]; omega) (by rw [hcs]; omega) N70 gq_ch (g := (mkF m 62 #[rv a0, iv p1, rv a2, iv (0:Int32), iv p4, iv sz] [(.int p4), (.int (0:Int32)), (.ref ch), (.int (0:Int32)), (.ref a2)])) rfl (by rw [hml]; rfl) rfl (hb hby d4_62) (by decide) (W := 0) (by show 2 * 0 + _ ≤ _; exact Nat.le_of_eq rfl) (by decide)
  have Kp83 : Keep h0 h83 [a0, kd, nb, ch] := Kp70.trans K83 (allS (Or.inl (List.mem_of_getElem? (i := 3) rfl)) all0)
  have Z85 : n0 ≤ h83.size := Nat.le_trans Z77 K83.1
  refine own_pre st83 ?_
  refine own_pre (A := T83.setTop (mkF m 66 #[rv a0, iv p1, rv a2, iv (0:Int32), iv p4, iv sz] [(.ref a0)])) (fun t k => ?_) ?_
  · show Steps p.tables e below (T83.setTop (mkF m 65 #[rv a0, iv p1, rv a2, iv (0:Int32), iv p4, iv sz] [])) _
    refine XS.aloadN X83.here hx rfl (hb hby d4_65) rfl rfl ?_
    exact k
  have F87 := (G72.keep K83 (ninS nq_a0_ch nin0))
  obtain ⟨T86, X86, e86, st86⟩ := getF X83 hx hZ hown (host := "") (Or.inl (own_h hw 19 rfl)) Via.refl e83 F87 (g := (mkF m 66 #[rv a0, iv p1, rv a2, iv (0:Int32), iv p4, iv sz] [(.ref a0)])) rfl rfl (hb hby d4_66)
  refine own_pre st86 ?_
  refine own_pre (A := T86.setTop (mkF m 74 #[rv a0, iv p1, rv a2, iv (0:Int32), iv p4, iv sz] [(.ref a0), (.int (sz * (2:Int32))), (.ref nb)])) (fun t k => ?_) ?_
  · show Steps p.tables e below (T86.setTop (mkF m 69 #[rv a0, iv p1, rv a2, iv (0:Int32), iv p4, iv sz] [(.ref nb)])) _
    refine XS.iload X86.here hx rfl (hb hby d4_69) rfl ?_
    show Steps p.tables e below (T86.setTop (mkF m 71 #[rv a0, iv p1, rv a2, iv (0:Int32), iv p4, iv sz] [(.int sz), (.ref nb)])) _
    refine XS.iconst X86.here hx rfl (hb hby d4_71) ?_
    show Steps p.tables e below (T86.setTop (mkF m 72 #[rv a0, iv p1, rv a2, iv (0:Int32), iv p4, iv sz] [(.int (2:Int32)), (.int sz), (.ref nb)])) _
    refine XS.imul X86.here hx rfl (hb hby d4_72) rfl ?_
    show Steps p.tables e below (T86.setTop (mkF m 73 #[rv a0, iv p1, rv a2, iv (0:Int32), iv p4, iv sz] [(.int (sz * (2:Int32))), (.ref nb)])) _
    refine XS.aloadN X86.here hx rfl (hb hby d4_73) rfl rfl ?_
    exact k
  have F89 := (G75.keep K83 (ninS nq_a0_ch nin0))
  obtain ⟨T88, X88, e88, st88⟩ := getF X86 hx hZ hown (host := "") (Or.inl (own_h hw 38 rfl)) Via.refl e86 F89 (g := (mkF m 74 #[rv a0, iv p1, rv a2, iv (0:Int32), iv p4, iv sz] [(.ref a0), (.int (sz * (2:Int32))), (.ref nb)])) rfl rfl (hb hby d4_74)
  refine own_pre st88 ?_
  have F91 := ((P7.keep K70 (ninS (Ne.symm nq_a0_nb) (ninS (Ne.symm nq_kd_nb) nin0))).keep K83 (ninS nq_nb_ch nin0))
  have hbn92 : own_In (sz * (2:Int32)) ns.length := (own_nin hns hsz).1
  obtain ⟨T90, h90, X90, e90, W90, V90, st90⟩ := own_iastore X88 hx hZ e88 F91 (j := (sz * (2:Int32))) (x := (0:Int32)) hbn92 (g := (mkF m 77 #[rv a0, iv p1, rv a2, iv (0:Int32), iv p4, iv sz] [(.int (0:Int32)), (.int (sz * (2:Int32))), (.ref nb)])) rfl rfl (hb hby d4_77)
  have Kp90 : Keep h0 h90 [a0, kd, nb, ch] := Kp83.wr W90 (Or.inl (List.mem_of_getElem? (i := 2) rfl))
  have Z93 : n0 ≤ h90.size := Nat.le_trans Z85 (Nat.le_of_eq W90.size.symm)
  have N90 := Fr.snoc X90 N83 gq_nb
  have Vw90 : own_Ints Z h90 nb (ns.set (sz * (2:Int32)).toNatClampNeg (0:Int32)) := V90
  refine own_pre st90 ?_
  refine own_pre (A := T90.setTop (mkF m 79 #[rv a0, iv p1, rv a2, iv (0:Int32), iv p4, iv sz] [(.ref a0)])) (fun t k => ?_) ?_
  · show Steps p.tables e below (T90.setTop (mkF m 78 #[rv a0, iv p1, rv a2, iv (0:Int32), iv p4, iv sz] [])) _
    refine XS.aloadN X90.here hx rfl (hb hby d4_78) rfl rfl ?_
    exact k
  have F95 := (F87.other W90 (Or.inl nq_a0_nb))
  obtain ⟨T94, X94, e94, st94⟩ := getF X90 hx hZ hown (host := "") (Or.inl (own_h hw 19 rfl)) Via.refl e90 F95 (g := (mkF m 79 #[rv a0, iv p1, rv a2, iv (0:Int32), iv p4, iv sz] [(.ref a0)])) rfl rfl (hb hby d4_79)
  refine own_pre st94 ?_
  refine own_pre (A := T94.setTop (mkF m 90 #[rv a0, iv p1, rv a2, iv (0:Int32), iv p4, iv sz] [(.int p4), (.int ((sz * (2:Int32)) + (1:Int32))), (.ref nb)])) (fun t k => ?_) ?_
  · show Steps p.tables e below (T94.setTop (mkF m 82 #[rv a0, iv p1, rv a2, iv (0:Int32), iv p4, iv sz] [(.ref nb)])) _
    refine XS.iload X94.here hx rfl (hb hby d4_82) rfl ?_
    show Steps p.tables e below (T94.setTop (mkF m 84 #[rv a0, iv p1, rv a2, iv (0:Int32), iv p4, iv sz] [(.int sz), (.ref nb)])) _
    refine XS.iconst X94.here hx rfl (hb hby d4_84) ?_
    show Steps p.tables e below (T94.setTop (mkF m 85 #[rv a0, iv p1, rv a2, iv (0:Int32), iv p4, iv sz] [(.int (2:Int32)), (.int sz), (.ref nb)])) _
    refine XS.imul X94.here hx rfl (hb hby d4_85) rfl ?_
    show Steps p.tables e below (T94.setTop (mkF m 86 #[rv a0, iv p1, rv a2, iv (0:Int32), iv p4, iv sz] [(.int (sz * (2:Int32))), (.ref nb)])) _
    refine XS.iconst X94.here hx rfl (hb hby d4_86) ?_
    show Steps p.tables e below (T94.setTop (mkF m 87 #[rv a0, iv p1, rv a2, iv (0:Int32), iv p4, iv sz] [(.int (1:Int32)), (.int (sz * (2:Int32))), (.ref nb)])) _
    refine XS.iadd X94.here hx rfl (hb hby d4_87) rfl ?_
    show Steps p.tables e below (T94.setTop (mkF m 88 #[rv a0, iv p1, rv a2, iv (0:Int32), iv p4, iv sz] [(.int ((sz * (2:Int32)) + (1:Int32))), (.ref nb)])) _
    refine XS.iload X94.here hx rfl (hb hby d4_88) rfl ?_
    exact k
  have hbn97 : own_In ((sz * (2:Int32)) + (1:Int32)) (ns.set (sz * (2:Int32)).toNatClampNeg (0:Int32)).length := (by rw [List.length_set]; exact (own_nin hns hsz).2)
  obtain ⟨T96, h96, X96, e96, W96, V96, st96⟩ := own_iastore X94 hx hZ e94 Vw90 (j := ((sz * (2:Int32)) + (1:Int32))) (x := p4) hbn97 (g := (mkF m 90 #[rv a0, iv p1, rv a2, iv (0:Int32), iv p4, iv sz] [(.int p4), (.int ((sz * (2:Int32)) + (1:Int32))), (.ref nb)])) rfl rfl (hb hby d4_90)
  have Kp96 : Keep h0 h96 [a0, kd, nb, ch] := Kp90.wr W96 (Or.inl (List.mem_of_getElem? (i := 2) rfl))
  have Z98 : n0 ≤ h96.size := Nat.le_trans Z93 (Nat.le_of_eq W96.size.symm)
  have N96 := Fr.snoc X96 N90 gq_nb
  have Vw96 : own_Ints Z h96 nb ((ns.set (sz * (2:Int32)).toNatClampNeg (0:Int32)).set ((sz * (2:Int32)) + (1:Int32)).toNatClampNeg p4) := V96
  refine own_pre st96 ?_
  refine own_pre (A := T96.setTop (mkF m 93 #[rv a0, iv p1, rv a2, iv (0:Int32), iv p4, iv sz] [(.ref a0), (.ref a0)])) (fun t k => ?_) ?_
  · show Steps p.tables e below (T96.setTop (mkF m 91 #[rv a0, iv p1, rv a2, iv (0:Int32), iv p4, iv sz] [])) _
    refine XS.aloadN X96.here hx rfl (hb hby d4_91) rfl rfl ?_
    show Steps p.tables e below (T96.setTop (mkF m 92 #[rv a0, iv p1, rv a2, iv (0:Int32), iv p4, iv sz] [(.ref a0)])) _
    refine XS.dup X96.here hx rfl (hb hby d4_92) rfl rfl ?_
    exact k
  have F100 := ((F89.other W90 (Or.inl nq_a0_nb)).other W96 (Or.inl nq_a0_nb))
  obtain ⟨T99, X99, e99, st99⟩ := getF X96 hx hZ hown (host := "") (Or.inl (own_h hw 38 rfl)) Via.refl e96 F100 (g := (mkF m 93 #[rv a0, iv p1, rv a2, iv (0:Int32), iv p4, iv sz] [(.ref a0), (.ref a0)])) rfl rfl (hb hby d4_93)
  refine own_pre st99 ?_
  refine own_pre (A := T99.setTop (mkF m 99 #[rv a0, iv p1, rv a2, iv (0:Int32), iv p4, iv sz] [(.int ((0:Int32) + p4)), (.ref a0)])) (fun t k => ?_) ?_
  · show Steps p.tables e below (T99.setTop (mkF m 96 #[rv a0, iv p1, rv a2, iv (0:Int32), iv p4, iv sz] [(.int (0:Int32)), (.ref a0)])) _
    refine XS.iload X99.here hx rfl (hb hby d4_96) rfl ?_
    show Steps p.tables e below (T99.setTop (mkF m 98 #[rv a0, iv p1, rv a2, iv (0:Int32), iv p4, iv sz] [(.int p4), (.int (0:Int32)), (.ref a0)])) _
    refine XS.iadd X99.here hx rfl (hb hby d4_98) rfl ?_
    exact k
  have F102 := ((((P0.keep K70).keep K83).wr W90).wr W96)
  obtain ⟨T101, h101, X101, e101, W101, st101⟩ := putF X99 hx hZ hown (host := "") (Or.inl (own_h hw 38 rfl)) Via.refl e99 F100 F102 (Or.inl (own_h hw 39 rfl)) (own_h hw 3 rfl) (ty := .int) (by decide) rfl rfl (g := (mkF m 99 #[rv a0, iv p1, rv a2, iv (0:Int32), iv p4, iv sz] [(.int ((0:Int32) + p4)), (.ref a0)])) rfl rfl (hb hby d4_99)
  have Kp101 : Keep h0 h101 [a0, kd, nb, ch] := Kp96.wr W101 (Or.inl (List.mem_of_getElem? (i := 0) rfl))
  have Z103 : n0 ≤ h101.size := Nat.le_trans Z98 (Nat.le_of_eq W101.size.symm)
  have N101 := Fr.snoc X101 N96 gq_a0
  have Fw101 := F100.same W101
  refine own_pre st101 ?_
  have F104 := ((((G74.keep K83 (ninS nq_a0_ch nin0)).other W90 (Or.inl nq_a0_nb)).other W96 (Or.inl nq_a0_nb)).other W101 (Or.inr (slot_ne (Or.inl (own_h hw 37 rfl)) (Or.inl (own_h hw 39 rfl)) (by decide) (t := .int) (t' := .int) (by decide) (by decide))))
  exact own_end X101 (BodyLoose.notSynchronized Bd) (fun _ => rfl) (v := none) (fun fs hr => X101.returnOut hx Bd.returns (hb hby d4_102) hr) (by show Q4 Z a0 p1 a2 p4 kd nb ch ks sz ns cs bf h0 n0 _ T101.heap _; rw [e101]; exact ⟨rfl, N101, Kp101, F104, Fw101⟩) (by decide) (by decide)
theorem own_pd1 : parseMethodDescriptor "(B[CII)V" = some ⟨[.byte, (.array .char), .int, .int], none⟩ := by decide +kernel
theorem d3_0 : decode prog_62_method_9_code 0 = .ok (.aload_n 0, 1) := by decide +kernel
theorem d3_1 : decode prog_62_method_9_code 1 = .ok (.iconst 4, 1) := by decide +kernel
theorem d3_2 : decode prog_62_method_9_code 2 = .ok (.aload_n 1, 1) := by decide +kernel
theorem d3_3 : decode prog_62_method_9_code 3 = .ok (.iload_n 2, 1) := by decide +kernel
theorem d3_4 : decode prog_62_method_9_code 4 = .ok (.iload_n 3, 1) := by decide +kernel
theorem d3_5 : decode prog_62_method_9_code 5 = .ok (.invokevirtual 38, 3) := by decide +kernel
theorem d3_8 : decode prog_62_method_9_code 8 = .ok (.return_, 1) := by decide +kernel
theorem ef3 (m : MethodId) (a0 : Addr) (a1 : Addr) (p4 : Int32) : entryFrame m #[(.ref a0), (.ref a1), (.int (0:Int32)), (.int p4)] 4 = mkF m 0 #[rv a0, rv a1, iv (0:Int32), iv p4] [] := by first | (simp [entryFrame, mkF, argsToLocals, Value.category]; done) | rfl
def Q3 (Z : State) (a0 : Addr) (a1 : Addr) (p4 : Int32) (kd : Addr) (nb : Addr) (ch : Addr) (ks : List Int32) (sz : Int32) (ns : List Int32) (cs : List Int32) (bf : List Int32) (h0 : Heap) (n0 : Nat) (v : Option Value) (h : Heap) (L : List Loc) : Prop := v = none ∧ Fr n0 L ∧ Keep h0 h [a0, kd, nb, ch] ∧ Fld Z h a0 "com/example/fanout4/fanout4/xdm/RecordedEvents" "size" "I" (.int (sz + (1:Int32))) ∧ Fld Z h a0 "com/example/fanout4/fanout4/xdm/RecordedEvents" "characterCount" "I" (.int ((0:Int32) + p4))
set_option maxRecDepth 65536 in
set_option maxHeartbeats 40000000 in
theorem rm3 (l : Launch) (Z : State) (aZ : Array Value) (hw : ∀ d ∈ tables_1, d.before aZ Z = true) (ws : List Jvm.Cond) (a0 : Addr) (a1 : Addr) (p4 : Int32) (kd : Addr) (nb : Addr) (ch : Addr) (ks : List Int32) (sz : Int32) (ns : List Int32) (cs : List Int32) (bf : List Int32) (h0 : Heap) (n0 : Nat) (Z0 : n0 ≤ h0.size) (P0 : Exa Z h0 a0 "com/example/fanout4/fanout4/xdm/RecordedEvents") (P1 : Fld Z h0 a0 "com/example/fanout4/fanout4/xdm/RecordedEvents" "kinds" "[B" (.ref kd)) (P2 : Fld Z h0 a0 "com/example/fanout4/fanout4/xdm/RecordedEvents" "numbers" "[I" (.ref nb)) (P3 : Fld Z h0 a0 "com/example/fanout4/fanout4/xdm/RecordedEvents" "characters" "[C" (.ref ch)) (P4 : Fld Z h0 a0 "com/example/fanout4/fanout4/xdm/RecordedEvents" "size" "I" (.int sz)) (P5 : Fld Z h0 a0 "com/example/fanout4/fanout4/xdm/RecordedEvents" "characterCount" "I" (.int (0:Int32))) (P6 : own_Bytes Z h0 kd ks) (P7 : own_Ints Z h0 nb ns) (P8 : own_Chars Z h0 ch cs) (P9 : own_Chars Z h0 a1 bf) (nq_a0_kd : a0 ≠ kd) (nq_a0_nb : a0 ≠ nb) (nq_a0_ch : a0 ≠ ch) (nq_kd_nb : kd ≠ nb) (nq_kd_ch : kd ≠ ch) (nq_nb_ch : nb ≠ ch) (nq_a1_a0 : a1 ≠ a0) (nq_a1_kd : a1 ≠ kd) (nq_a1_nb : a1 ≠ nb) (nq_a1_ch : a1 ≠ ch) (gq_a0 : n0 ≤ a0) (gq_kd : n0 ≤ kd) (gq_nb : n0 ≤ nb) (gq_ch : n0 ≤ ch) (hks : ks.length = 64) (hsz : 0 ≤ sz.toInt ∧ sz.toInt < 60) (hns : ns.length = 128) (hcs : cs.length = 1024) (hbf : bf.length = 16) (hlen : 0 ≤ p4.toInt ∧ p4.toInt < 16) :
    MetFree l (⟨"com/example/fanout4/fanout4/xdm/RecordedEvents", "text", "([CII)V"⟩ : MethodName) (head1 (Jvm.Cond.code (⟨"com/example/fanout4/fanout4/xdm/RecordedEvents", "text", "([CII)V"⟩ : MethodName) prog_62_method_9_code 4 none :: ws) ({ frames := 2, cells := 0, slots := 0, locals := 35 } : Room)) (fun a U => a = #[(.ref a0), (.ref a1), (.int (0:Int32)), (.int p4)] ∧ Z.Warmed39 U.vm ∧ U.heap = h0) (fun _ _ _ _ _ => True) (fun _ U o U' => ∃ v L, o = .returned v ∧ Q3 Z a0 a1 p4 kd nb ch ks sz ns cs bf h0 n0 v U'.heap L ∧ FrameEnd U o U' L ({ frames := 2, cells := 0, slots := 0, locals := 35 } : Room).cells ({ frames := 2, cells := 0, slots := 0, locals := 35 } : Room).slots) := by
  refine MetFree.of_bodySF (plainFor_of_name own_pn0) hisR ?_
  intro p e s m args below meth c s₁ Bd hml0 hP hK
  obtain ⟨rfl, hZ, hh⟩ := hP
  have hx := Bd.exec
  have hby := Bd.bytes
  have hml : c.maxLocals = 4 := hml0
  have hown : s.vm.findClass "com/example/fanout4/fanout4/xdm/RecordedEvents" = some m.cls := findClass_of_methodNamed Bd.named
  have hnm := (name_of_methodNamed Bd.named Bd.method).1
  have X0 : Stand p l e ({ frames := 2, cells := 0, slots := 0, locals := 35 } : Room) s m #[(.ref a0), (.ref a1), (.int (0:Int32)), (.int p4)] below meth c s₁ [] 0 0 := Stand.of_body Bd
  have e0 : s₁.heap = h0 := by rw [← hh, Bd.state]; rfl
  have N0 := Fr.nil n0
  have Kp0 : Keep h0 h0 [a0, kd, nb, ch] := Keep.refl _ _
  show own_Goes p e below s (Q3 Z a0 a1 p4 kd nb ch ks sz ns cs bf h0 n0) ({ frames := 2, cells := 0, slots := 0, locals := 35 } : Room).cells ({ frames := 2, cells := 0, slots := 0, locals := 35 } : Room).slots _
  refine own_pre (fun t k => castTop (ef3 m a0 a1 p4) k) ?_
  refine own_pre (A := s₁.setTop (mkF m 5 #[rv a0, rv a1, iv (0:Int32), iv p4] [(.int p4), (.int (0:Int32)), (.ref a1), (.int (4:Int32)), (.ref a0)])) (fun t k => ?_) ?_
  · show Steps p.tables e below (s₁.setTop (mkF m 0 #[rv a0, rv a1, iv (0:Int32), iv p4] [])) _
    refine XS.aloadN X0.here hx rfl (hb hby d3_0) rfl rfl ?_
    show Steps p.tables e below (s₁.setTop (mkF m 1 #[rv a0, rv a1, iv (0:Int32), iv p4] [(.ref a0)])) _
    refine XS.iconst X0.here hx rfl (hb hby d3_1) ?_
    show Steps p.tables e below (s₁.setTop (mkF m 2 #[rv a0, rv a1, iv (0:Int32), iv p4] [(.int (4:Int32)), (.ref a0)])) _
    refine XS.aloadN X0.here hx rfl (hb hby d3_2) rfl rfl ?_
    show Steps p.tables e below (s₁.setTop (mkF m 3 #[rv a0, rv a1, iv (0:Int32), iv p4] [(.ref a1), (.int (4:Int32)), (.ref a0)])) _
    refine XS.iloadN X0.here hx rfl (hb hby d3_3) rfl ?_
    show Steps p.tables e below (s₁.setTop (mkF m 4 #[rv a0, rv a1, iv (0:Int32), iv p4] [(.int (0:Int32)), (.ref a1), (.int (4:Int32)), (.ref a0)])) _
    refine XS.iloadN X0.here hx rfl (hb hby d3_4) rfl ?_
    exact k
  obtain ⟨cq105, q105, q105'⟩ := P0.cell
  obtain ⟨_, _, ⟨T105, L105, k105, n105⟩, -, X105, ⟨Lc105, hQ105, l105, y105, z105⟩, st105⟩ := X0.privateBack hx (y := (⟨"com/example/fanout4/fanout4/xdm/RecordedEvents", "addCharacters", "(B[CII)V"⟩ : MethodName)) hown (mvT hZ (own_h hw 28 rfl)) (mvT hZ (own_h hw 29 rfl)) (own_privsel (z := (⟨"com/example/fanout4/fanout4/xdm/RecordedEvents", "text", "([CII)V"⟩ : MethodName)) (mvT hZ (own_h hw 26 rfl)) rfl (Cond.privateMethod_at (mvP hZ (own_h hw 30 rfl) (args := #[]))) (mvT hZ (own_h hw 29 rfl)) (by decide)) (Cond.privateMethod_at (mvP hZ (own_h hw 30 rfl) (args := #[]))) (mvT hZ (own_h hw 31 rfl)) (by decide) (backOf (W := 0) (rm4 l Z aZ hw [] a0 (4:Int32) a1 p4 kd nb ch ks sz ns cs bf h0 n0 Z0 P0 P1 P2 P3 P4 P5 P6 P7 P8 P9 nq_a0_kd nq_a0_nb nq_a0_ch nq_kd_nb nq_kd_ch nq_nb_ch nq_a1_a0 nq_a1_kd nq_a1_nb nq_a1_ch gq_a0 gq_kd gq_nb gq_ch hks hsz hns hcs hbf hlen) hZ (own_h hw 31 rfl) (own_h hw 4 rfl) (by decide) (by decide)) (g := (mkF m 5 #[rv a0, rv a1, iv (0:Int32), iv p4] [(.int p4), (.int (0:Int32)), (.ref a1), (.int (4:Int32)), (.ref a0)])) rfl (by rw [hml]; rfl) (Steps.refl _) (a := a0) (by rw [e0]; exact q105) q105' (argsL := [(.int (4:Int32)), (.ref a1), (.int (0:Int32)), (.int p4)]) (rest := []) (lenOf own_pd1 rfl) rfl (by show 2 * 0 + _ ≤ _; exact Nat.le_of_eq rfl) (hb hby d3_5) (fun _ _ => ⟨rfl, e0, (by decide : 0 + 0 ≤ _), (by decide : 0 + 0 ≤ _)⟩)
  dsimp only [Pt.U, Pt.locs, Pt.cells, Pt.slots] at X105 l105 y105 z105 st105 hQ105
  subst l105 y105 z105
  obtain ⟨rfl, N105q, K105, G106, G107⟩ := hQ105
  have N105 := Fr.app N0 N105q
  have Kp105 : Keep h0 T105.heap [a0, kd, nb, ch] := Kp0.trans K105 (allS (Or.inl (List.mem_of_getElem? (i := 0) rfl)) (allS (Or.inl (List.mem_of_getElem? (i := 1) rfl)) (allS (Or.inl (List.mem_of_getElem? (i := 2) rfl)) (allS (Or.inl (List.mem_of_getElem? (i := 3) rfl)) all0))))
  have Z108 : n0 ≤ T105.heap.size := Nat.le_trans Z0 K105.1
  refine own_pre (fun _ k => st105.trans k) ?_
  exact own_end X105 (BodyLoose.notSynchronized Bd) (fun _ => rfl) (v := none) (fun fs hr => X105.returnOut hx Bd.returns (hb hby d3_8) hr) (by show Q3 Z a0 a1 p4 kd nb ch ks sz ns cs bf h0 n0 _ T105.heap _; exact ⟨rfl, N105, Kp105, G106, G107⟩) (by decide) (by decide)
theorem d6_0 : decode prog_62_method_2_code 0 = .ok (.aload_n 0, 1) := by decide +kernel
theorem d6_1 : decode prog_62_method_2_code 1 = .ok (.getfield 27, 3) := by decide +kernel
theorem d6_4 : decode prog_62_method_2_code 4 = .ok (.ifCond .le 31, 3) := by decide +kernel
theorem d6_7 : decode prog_62_method_2_code 7 = .ok (.aload_n 0, 1) := by decide +kernel
theorem d6_8 : decode prog_62_method_2_code 8 = .ok (.getfield 27, 3) := by decide +kernel
theorem d6_11 : decode prog_62_method_2_code 11 = .ok (.iload_n 1, 1) := by decide +kernel
theorem d6_12 : decode prog_62_method_2_code 12 = .ok (.iadd, 1) := by decide +kernel
theorem d6_13 : decode prog_62_method_2_code 13 = .ok (.sipush 1024, 3) := by decide +kernel
theorem d6_16 : decode prog_62_method_2_code 16 = .ok (.if_icmp .gt 15, 3) := by decide +kernel
theorem d6_19 : decode prog_62_method_2_code 19 = .ok (.aload_n 0, 1) := by decide +kernel
theorem d6_20 : decode prog_62_method_2_code 20 = .ok (.getfield 31, 3) := by decide +kernel
theorem d6_23 : decode prog_62_method_2_code 23 = .ok (.iload_n 2, 1) := by decide +kernel
theorem d6_24 : decode prog_62_method_2_code 24 = .ok (.iadd, 1) := by decide +kernel
theorem d6_25 : decode prog_62_method_2_code 25 = .ok (.sipush 16384, 3) := by decide +kernel
theorem d6_28 : decode prog_62_method_2_code 28 = .ok (.if_icmp .le 7, 3) := by decide +kernel
theorem d6_31 : decode prog_62_method_2_code 31 = .ok (.iconst 1, 1) := by decide +kernel
theorem d6_32 : decode prog_62_method_2_code 32 = .ok (.goto 4, 3) := by decide +kernel
theorem d6_35 : decode prog_62_method_2_code 35 = .ok (.iconst 0, 1) := by decide +kernel
theorem d6_36 : decode prog_62_method_2_code 36 = .ok (.ireturn, 1) := by decide +kernel
theorem ef6 (m : MethodId) (a0 : Addr) (p1 : Int32) (p2 : Int32) : entryFrame m #[(.ref a0), (.int p1), (.int p2)] 3 = mkF m 0 #[rv a0, iv p1, iv p2] [] := by first | (simp [entryFrame, mkF, argsToLocals, Value.category]; done) | rfl
def f6 (p1 : Int32) (p2 : Int32) (sz : Int32) (cc : Int32) : Int32 := (if (0:Int32) < sz then (if (1024:Int32) < (sz + p1) then (1:Int32) else (let w6_1 : Int32 := (if (16384:Int32) < (cc + p2) then (1:Int32) else (0:Int32)); (w6_1 &&& 1))) else (0:Int32))
def Q6 (Z : State) (a0 : Addr) (p1 : Int32) (p2 : Int32) (sz : Int32) (cc : Int32) (h0 : Heap) (n0 : Nat) (v : Option Value) (h : Heap) (L : List Loc) : Prop := v = some (.int (f6 p1 p2 sz cc)) ∧ Fr n0 L ∧ h = h0
set_option maxRecDepth 65536 in
set_option maxHeartbeats 40000000 in
theorem rm6 (l : Launch) (Z : State) (aZ : Array Value) (hw : ∀ d ∈ tables_1, d.before aZ Z = true) (ws : List Jvm.Cond) (a0 : Addr) (p1 : Int32) (p2 : Int32) (sz : Int32) (cc : Int32) (h0 : Heap) (n0 : Nat) (Z0 : n0 ≤ h0.size) (P0 : Fld Z h0 a0 "com/example/fanout4/fanout4/xdm/RecordedEvents" "size" "I" (.int sz)) (P1 : Fld Z h0 a0 "com/example/fanout4/fanout4/xdm/RecordedEvents" "characterCount" "I" (.int cc)) :
    MetFree l (⟨"com/example/fanout4/fanout4/xdm/RecordedEvents", "isFullFor", "(II)Z"⟩ : MethodName) (head1 (Jvm.Cond.code (⟨"com/example/fanout4/fanout4/xdm/RecordedEvents", "isFullFor", "(II)Z"⟩ : MethodName) prog_62_method_2_code 3 (some .boolean) :: ws) ({ frames := 0, cells := 0, slots := 0, locals := 0 } : Room)) (fun a U => a = #[(.ref a0), (.int p1), (.int p2)] ∧ Z.Warmed39 U.vm ∧ U.heap = h0) (fun _ _ _ _ _ => True) (fun _ U o U' => ∃ v L, o = .returned v ∧ Q6 Z a0 p1 p2 sz cc h0 n0 v U'.heap L ∧ FrameEnd U o U' L ({ frames := 0, cells := 0, slots := 0, locals := 0 } : Room).cells ({ frames := 0, cells := 0, slots := 0, locals := 0 } : Room).slots) := by
  refine MetFree.of_bodySF (plainFor_of_name own_pn0) hisR ?_
  intro p e s m args below meth c s₁ Bd hml0 hP hK
  obtain ⟨rfl, hZ, hh⟩ := hP
  have hx := Bd.exec
  have hby := Bd.bytes
  have hml : c.maxLocals = 3 := hml0
  have hown : s.vm.findClass "com/example/fanout4/fanout4/xdm/RecordedEvents" = some m.cls := findClass_of_methodNamed Bd.named
  have hnm := (name_of_methodNamed Bd.named Bd.method).1
  have X0 : Stand p l e ({ frames := 0, cells := 0, slots := 0, locals := 0 } : Room) s m #[(.ref a0), (.int p1), (.int p2)] below meth c s₁ [] 0 0 := Stand.of_body Bd
  have e0 : s₁.heap = h0 := by rw [← hh, Bd.state]; rfl
  have N0 := Fr.nil n0
  show own_Goes p e below s (Q6 Z a0 p1 p2 sz cc h0 n0) ({ frames := 0, cells := 0, slots := 0, locals := 0 } : Room).cells ({ frames := 0, cells := 0, slots := 0, locals := 0 } : Room).slots _
  refine own_pre (fun t k => castTop (ef6 m a0 p1 p2) k) ?_
  refine own_pre (A := s₁.setTop (mkF m 1 #[rv a0, iv p1, iv p2] [(.ref a0)])) (fun t k => ?_) ?_
  · show Steps p.tables e below (s₁.setTop (mkF m 0 #[rv a0, iv p1, iv p2] [])) _
    refine XS.aloadN X0.here hx rfl (hb hby d6_0) rfl rfl ?_
    exact k
  obtain ⟨T109, X109, e109, st109⟩ := getF X0 hx hZ hown (host := "") (Or.inl (own_h hw 36 rfl)) Via.refl e0 P0 (g := (mkF m 1 #[rv a0, iv p1, iv p2] [(.ref a0)])) rfl rfl (hb hby d6_1)
  refine own_pre st109 ?_
  by_cases hs4_2 : (0:Int32) < sz
  · refine own_pre (A := T109.setTop (mkF m 8 #[rv a0, iv p1, iv p2] [(.ref a0)])) (fun t k => ?_) ?_
    · show Steps p.tables e below (T109.setTop (mkF m 4 #[rv a0, iv p1, iv p2] [(.int sz)])) _
      refine XS.ifNo X109.here hx rfl (hb hby d6_4) rfl (XT.i0_le_f hs4_2) ?_
      show Steps p.tables e below (T109.setTop (mkF m 7 #[rv a0, iv p1, iv p2] [])) _
      refine XS.aloadN X109.here hx rfl (hb hby d6_7) rfl rfl ?_
      exact k
    obtain ⟨T110, X110, e110, st110⟩ := getF X109 hx hZ hown (host := "") (Or.inl (own_h hw 36 rfl)) Via.refl e109 P0 (g := (mkF m 8 #[rv a0, iv p1, iv p2] [(.ref a0)])) rfl rfl (hb hby d6_8)
    refine own_pre st110 ?_
    refine own_pre (A := T110.setTop (mkF m 16 #[rv a0, iv p1, iv p2] [(.int (1024:Int32)), (.int (sz + p1))])) (fun t k => ?_) ?_
    · show Steps p.tables e below (T110.setTop (mkF m 11 #[rv a0, iv p1, iv p2] [(.int sz)])) _
      refine XS.iloadN X110.here hx rfl (hb hby d6_11) rfl ?_
      show Steps p.tables e below (T110.setTop (mkF m 12 #[rv a0, iv p1, iv p2] [(.int p1), (.int sz)])) _
      refine XS.iadd X110.here hx rfl (hb hby d6_12) rfl ?_
      show Steps p.tables e below (T110.setTop (mkF m 13 #[rv a0, iv p1, iv p2] [(.int (sz + p1))])) _
      refine XS.sipush X110.here hx rfl (hb hby d6_13) ?_
      exact k
    by_cases hs16_4 : (1024:Int32) < (sz + p1)
    · refine own_pre (A := T110.setTop (mkF m 36 #[rv a0, iv p1, iv p2] [(.int (1:Int32))])) (fun t k => ?_) ?_
      · show Steps p.tables e below (T110.setTop (mkF m 16 #[rv a0, iv p1, iv p2] [(.int (1024:Int32)), (.int (sz + p1))])) _
        refine XS.icmpYes X110.here hx rfl (pc0 := 16) (pc' := 31) rfl (hb hby d6_16) rfl (XT.ii_gt_t hs16_4) (by decide) (by decide) ?_
        show Steps p.tables e below (T110.setTop (mkF m 31 #[rv a0, iv p1, iv p2] [])) _
        refine XS.iconst X110.here hx rfl (hb hby d6_31) ?_
        show Steps p.tables e below (T110.setTop (mkF m 32 #[rv a0, iv p1, iv p2] [(.int (1:Int32))])) _
        refine XS.goto X110.here hx rfl (pc0 := 32) (pc' := 36) rfl (hb hby d6_32) (by decide) (by decide) ?_
        exact k
      have hv111 : (1:Int32) = f6 p1 p2 sz cc := by simp only [f6, if_pos hs4_2, if_pos hs16_4]
      exact own_end X110 (BodyLoose.notSynchronized Bd) (fun h => by rw [Bd.returns] at h; cases h) (v := some (.int (1:Int32))) (fun fs hr => retN X110 hx (t := .boolean) Bd.returns (by simp) (hb hby d6_36) hr) (by show Q6 Z a0 p1 p2 sz cc h0 n0 _ T110.heap _; rw [e110]; exact ⟨(congrArg (fun z => some (Value.int z)) hv111), N0, rfl⟩) (by decide) (by decide)
    · refine own_pre (A := T110.setTop (mkF m 20 #[rv a0, iv p1, iv p2] [(.ref a0)])) (fun t k => ?_) ?_
      · show Steps p.tables e below (T110.setTop (mkF m 16 #[rv a0, iv p1, iv p2] [(.int (1024:Int32)), (.int (sz + p1))])) _
        refine XS.icmpNo X110.here hx rfl (hb hby d6_16) rfl (XT.ii_gt_f hs16_4) ?_
        show Steps p.tables e below (T110.setTop (mkF m 19 #[rv a0, iv p1, iv p2] [])) _
        refine XS.aloadN X110.here hx rfl (hb hby d6_19) rfl rfl ?_
        exact k
      obtain ⟨T112, X112, e112, st112⟩ := getF X110 hx hZ hown (host := "") (Or.inl (own_h hw 38 rfl)) Via.refl e110 P1 (g := (mkF m 20 #[rv a0, iv p1, iv p2] [(.ref a0)])) rfl rfl (hb hby d6_20)
      refine own_pre st112 ?_
      refine own_pre (A := T112.setTop (mkF m 28 #[rv a0, iv p1, iv p2] [(.int (16384:Int32)), (.int (cc + p2))])) (fun t k => ?_) ?_
      · show Steps p.tables e below (T112.setTop (mkF m 23 #[rv a0, iv p1, iv p2] [(.int cc)])) _
        refine XS.iloadN X112.here hx rfl (hb hby d6_23) rfl ?_
        show Steps p.tables e below (T112.setTop (mkF m 24 #[rv a0, iv p1, iv p2] [(.int p2), (.int cc)])) _
        refine XS.iadd X112.here hx rfl (hb hby d6_24) rfl ?_
        show Steps p.tables e below (T112.setTop (mkF m 25 #[rv a0, iv p1, iv p2] [(.int (cc + p2))])) _
        refine XS.sipush X112.here hx rfl (hb hby d6_25) ?_
        exact k
      obtain ⟨w6_1, hw6_1⟩ : ∃ z : Int32, z = (if (16384:Int32) < (cc + p2) then (1:Int32) else (0:Int32)) := ⟨_, rfl⟩
      refine own_pre (A := T112.setTop (mkF m 36 #[rv a0, iv p1, iv p2] [(.int w6_1)])) (fun t k => ?_) ?_
      · show Steps p.tables e below (T112.setTop (mkF m 28 #[rv a0, iv p1, iv p2] [(.int (16384:Int32)), (.int (cc + p2))])) _
        by_cases hm28_5 : (16384:Int32) < (cc + p2)
        · refine XS.icmpNo X112.here hx rfl (hb hby d6_28) rfl (XT.ii_le_f hm28_5) ?_
          show Steps p.tables e below (T112.setTop (mkF m 31 #[rv a0, iv p1, iv p2] [])) _
          refine XS.iconst X112.here hx rfl (hb hby d6_31) ?_
          show Steps p.tables e below (T112.setTop (mkF m 32 #[rv a0, iv p1, iv p2] [(.int (1:Int32))])) _
          refine XS.goto X112.here hx rfl (pc0 := 32) (pc' := 36) rfl (hb hby d6_32) (by decide) (by decide) ?_
          rw [hw6_1.trans (if_pos hm28_5)] at k
          exact k
        · refine XS.icmpYes X112.here hx rfl (pc0 := 28) (pc' := 35) rfl (hb hby d6_28) rfl (XT.ii_le_t hm28_5) (by decide) (by decide) ?_
          show Steps p.tables e below (T112.setTop (mkF m 35 #[rv a0, iv p1, iv p2] [])) _
          refine XS.iconst X112.here hx rfl (hb hby d6_35) ?_
          rw [hw6_1.trans (if_neg hm28_5)] at k
          exact k
      have hv113 : (w6_1 &&& 1) = f6 p1 p2 sz cc := by subst hw6_1; simp only [f6, if_pos hs4_2, if_neg hs16_4]
      exact own_end X112 (BodyLoose.notSynchronized Bd) (fun h => by rw [Bd.returns] at h; cases h) (v := some (.int (w6_1 &&& 1))) (fun fs hr => retN X112 hx (t := .boolean) Bd.returns (by simp) (hb hby d6_36) hr) (by show Q6 Z a0 p1 p2 sz cc h0 n0 _ T112.heap _; rw [e112]; exact ⟨(congrArg (fun z => some (Value.int z)) hv113), N0, rfl⟩) (by decide) (by decide)
  · refine own_pre (A := T109.setTop (mkF m 36 #[rv a0, iv p1, iv p2] [(.int (0:Int32))])) (fun t k => ?_) ?_
    · show Steps p.tables e below (T109.setTop (mkF m 4 #[rv a0, iv p1, iv p2] [(.int sz)])) _
      refine XS.ifYes X109.here hx rfl (pc0 := 4) (pc' := 35) rfl (hb hby d6_4) rfl (XT.i0_le_t hs4_2) (by decide) (by decide) ?_
      show Steps p.tables e below (T109.setTop (mkF m 35 #[rv a0, iv p1, iv p2] [])) _
      refine XS.iconst X109.here hx rfl (hb hby d6_35) ?_
      exact k
    have hv114 : (0:Int32) = f6 p1 p2 sz cc := by simp only [f6, if_neg hs4_2]
    exact own_end X109 (BodyLoose.notSynchronized Bd) (fun h => by rw [Bd.returns] at h; cases h) (v := some (.int (0:Int32))) (fun fs hr => retN X109 hx (t := .boolean) Bd.returns (by simp) (hb hby d6_36) hr) (by show Q6 Z a0 p1 p2 sz cc h0 n0 _ T109.heap _; rw [e109]; exact ⟨(congrArg (fun z => some (Value.int z)) hv114), N0, rfl⟩) (by decide) (by decide)
theorem own_l15 {p w : Int32} (hw : w = (p &&& (15:Int32))) : 0 ≤ w.toInt ∧ w.toInt < 16 := by
  have e : (p &&& (15:Int32)).toInt = p.toInt % 2 ^ 4 := Jvm.Kit.i32_mask p _ (k := 4) (by decide) (by decide)
  rw [hw, e]; omega
theorem own_pn1 : plainName "com/example/fanout4/fanout4/xdm/RecordedEventsIsFullForPinLaw" = true := by first | (simp [plainName, overriddenIn]; done) | decide +kernel
theorem own_pd2 : parseMethodDescriptor "()V" = some ⟨[], none⟩ := by decide +kernel
theorem own_pd3 : parseMethodDescriptor "(II)Z" = some ⟨[.int, .int], some .boolean⟩ := by decide +kernel
theorem own_pd4 : parseMethodDescriptor "([CII)V" = some ⟨[(.array .char), .int, .int], none⟩ := by decide +kernel
def own_v171  : List Int32 := ((List.replicate 64 (0:Int32)).set (0:Int32).toNatClampNeg ((3:Int32).toInt8.toInt32))
def own_v325  : List Int32 := ((own_v171.set (1:Int32).toNatClampNeg ((3:Int32).toInt8.toInt32)).set (2:Int32).toNatClampNeg ((3:Int32).toInt8.toInt32))
theorem ef0 (m : MethodId) (p0 : Int32) (p1 : Int32) (p2 : Int32) (p3 : Int32) (p4 : Int32) : entryFrame m #[(.int p0), (.int p1), (.int p2), (.int p3), (.int p4)] maxLocals = mkF m 0 #[iv p0, iv p1, iv p2, iv p3, iv p4, .unset, .unset, .unset, .unset, .unset, .unset, .unset, .unset, .unset, .unset] [] := by first | (simp [entryFrame, mkF, argsToLocals, Value.category, maxLocals]; done) | rfl
def f0 (p0 : Int32) (p1 : Int32) (p2 : Int32) (p3 : Int32) (p4 : Int32) : Int32 := (let w0_1 : Int32 := (p0 &&& (3:Int32)); let w0_2 : Int32 := (if (p1 &&& (1:Int32)) = (0:Int32) then (0:Int32) else (1:Int32)); let w0_3 : Int32 := (p2 &&& (15:Int32)); let w0_4 : Int32 := (p3 &&& (1073741823:Int32)); let w0_5 : Int32 := (p4 &&& (1073741823:Int32)); (if w0_1 < (1:Int32) then (if w0_1 < (2:Int32) then (if w0_1 < (3:Int32) then (if w0_2 = (0:Int32) then (let w0_6 : Int32 := (w0_1 + (0:Int32)); let w0_7 : Int32 := (if w0_6 = (0:Int32) then (0:Int32) else (if (w0_6 + w0_4) < (1025:Int32) then (if ((0:Int32) + w0_5) < (16385:Int32) then (0:Int32) else (1:Int32)) else (1:Int32))); let w0_8 : Int32 := (if (f6 w0_4 w0_5 (0:Int32) (0:Int32)) = w0_7 then (1:Int32) else (0:Int32)); (w0_8 &&& 1)) else (let w0_9 : Int32 := (w0_1 + (1:Int32)); let w0_10 : Int32 := (if w0_9 = (0:Int32) then (0:Int32) else (if (w0_9 + w0_4) < (1025:Int32) then (if (w0_3 + w0_5) < (16385:Int32) then (0:Int32) else (1:Int32)) else (1:Int32))); let w0_11 : Int32 := (if (f6 w0_4 w0_5 (1:Int32) ((0:Int32) + w0_3)) = w0_10 then (1:Int32) else (0:Int32)); (w0_11 &&& 1))) else (if w0_2 = (0:Int32) then (let w0_12 : Int32 := (w0_1 + (0:Int32)); let w0_13 : Int32 := (if w0_12 = (0:Int32) then (0:Int32) else (if (w0_12 + w0_4) < (1025:Int32) then (if ((0:Int32) + w0_5) < (16385:Int32) then (0:Int32) else (1:Int32)) else (1:Int32))); let w0_14 : Int32 := (if (f6 w0_4 w0_5 (1:Int32) (0:Int32)) = w0_13 then (1:Int32) else (0:Int32)); (w0_14 &&& 1)) else (let w0_15 : Int32 := (w0_1 + (1:Int32)); let w0_16 : Int32 := (if w0_15 = (0:Int32) then (0:Int32) else (if (w0_15 + w0_4) < (1025:Int32) then (if (w0_3 + w0_5) < (16385:Int32) then (0:Int32) else (1:Int32)) else (1:Int32))); let w0_17 : Int32 := (if (f6 w0_4 w0_5 (2:Int32) ((0:Int32) + w0_3)) = w0_16 then (1:Int32) else (0:Int32)); (w0_17 &&& 1)))) else (if w0_1 < (3:Int32) then (if w0_2 = (0:Int32) then (let w0_18 : Int32 := (w0_1 + (0:Int32)); let w0_19 : Int32 := (if w0_18 = (0:Int32) then (0:Int32) else (if (w0_18 + w0_4) < (1025:Int32) then (if ((0:Int32) + w0_5) < (16385:Int32) then (0:Int32) else (1:Int32)) else (1:Int32))); let w0_20 : Int32 := (if (f6 w0_4 w0_5 (1:Int32) (0:Int32)) = w0_19 then (1:Int32) else (0:Int32)); (w0_20 &&& 1)) else (let w0_21 : Int32 := (w0_1 + (1:Int32)); let w0_22 : Int32 := (if w0_21 = (0:Int32) then (0:Int32) else (if (w0_21 + w0_4) < (1025:Int32) then (if (w0_3 + w0_5) < (16385:Int32) then (0:Int32) else (1:Int32)) else (1:Int32))); let w0_23 : Int32 := (if (f6 w0_4 w0_5 (2:Int32) ((0:Int32) + w0_3)) = w0_22 then (1:Int32) else (0:Int32)); (w0_23 &&& 1))) else (if w0_2 = (0:Int32) then (let w0_24 : Int32 := (w0_1 + (0:Int32)); let w0_25 : Int32 := (if w0_24 = (0:Int32) then (0:Int32) else (if (w0_24 + w0_4) < (1025:Int32) then (if ((0:Int32) + w0_5) < (16385:Int32) then (0:Int32) else (1:Int32)) else (1:Int32))); let w0_26 : Int32 := (if (f6 w0_4 w0_5 (2:Int32) (0:Int32)) = w0_25 then (1:Int32) else (0:Int32)); (w0_26 &&& 1)) else (let w0_27 : Int32 := (w0_1 + (1:Int32)); let w0_28 : Int32 := (if w0_27 = (0:Int32) then (0:Int32) else (if (w0_27 + w0_4) < (1025:Int32) then (if (w0_3 + w0_5) < (16385:Int32) then (0:Int32) else (1:Int32)) else (1:Int32))); let w0_29 : Int32 := (if (f6 w0_4 w0_5 (3:Int32) ((0:Int32) + w0_3)) = w0_28 then (1:Int32) else (0:Int32)); (w0_29 &&& 1))))) else (if w0_1 < (2:Int32) then (if w0_1 < (3:Int32) then (if w0_2 = (0:Int32) then (let w0_30 : Int32 := (w0_1 + (0:Int32)); let w0_31 : Int32 := (if w0_30 = (0:Int32) then (0:Int32) else (if (w0_30 + w0_4) < (1025:Int32) then (if ((0:Int32) + w0_5) < (16385:Int32) then (0:Int32) else (1:Int32)) else (1:Int32))); let w0_32 : Int32 := (if (f6 w0_4 w0_5 (1:Int32) (0:Int32)) = w0_31 then (1:Int32) else (0:Int32)); (w0_32 &&& 1)) else (let w0_33 : Int32 := (w0_1 + (1:Int32)); let w0_34 : Int32 := (if w0_33 = (0:Int32) then (0:Int32) else (if (w0_33 + w0_4) < (1025:Int32) then (if (w0_3 + w0_5) < (16385:Int32) then (0:Int32) else (1:Int32)) else (1:Int32))); let w0_35 : Int32 := (if (f6 w0_4 w0_5 (2:Int32) ((0:Int32) + w0_3)) = w0_34 then (1:Int32) else (0:Int32)); (w0_35 &&& 1))) else (if w0_2 = (0:Int32) then (let w0_36 : Int32 := (w0_1 + (0:Int32)); let w0_37 : Int32 := (if w0_36 = (0:Int32) then (0:Int32) else (if (w0_36 + w0_4) < (1025:Int32) then (if ((0:Int32) + w0_5) < (16385:Int32) then (0:Int32) else (1:Int32)) else (1:Int32))); let w0_38 : Int32 := (if (f6 w0_4 w0_5 (2:Int32) (0:Int32)) = w0_37 then (1:Int32) else (0:Int32)); (w0_38 &&& 1)) else (let w0_39 : Int32 := (w0_1 + (1:Int32)); let w0_40 : Int32 := (if w0_39 = (0:Int32) then (0:Int32) else (if (w0_39 + w0_4) < (1025:Int32) then (if (w0_3 + w0_5) < (16385:Int32) then (0:Int32) else (1:Int32)) else (1:Int32))); let w0_41 : Int32 := (if (f6 w0_4 w0_5 (3:Int32) ((0:Int32) + w0_3)) = w0_40 then (1:Int32) else (0:Int32)); (w0_41 &&& 1)))) else (if w0_1 < (3:Int32) then (if w0_2 = (0:Int32) then (let w0_42 : Int32 := (w0_1 + (0:Int32)); let w0_43 : Int32 := (if w0_42 = (0:Int32) then (0:Int32) else (if (w0_42 + w0_4) < (1025:Int32) then (if ((0:Int32) + w0_5) < (16385:Int32) then (0:Int32) else (1:Int32)) else (1:Int32))); let w0_44 : Int32 := (if (f6 w0_4 w0_5 (2:Int32) (0:Int32)) = w0_43 then (1:Int32) else (0:Int32)); (w0_44 &&& 1)) else (let w0_45 : Int32 := (w0_1 + (1:Int32)); let w0_46 : Int32 := (if w0_45 = (0:Int32) then (0:Int32) else (if (w0_45 + w0_4) < (1025:Int32) then (if (w0_3 + w0_5) < (16385:Int32) then (0:Int32) else (1:Int32)) else (1:Int32))); let w0_47 : Int32 := (if (f6 w0_4 w0_5 (3:Int32) ((0:Int32) + w0_3)) = w0_46 then (1:Int32) else (0:Int32)); (w0_47 &&& 1))) else (if w0_2 = (0:Int32) then (let w0_48 : Int32 := (w0_1 + (0:Int32)); let w0_49 : Int32 := (if w0_48 = (0:Int32) then (0:Int32) else (if (w0_48 + w0_4) < (1025:Int32) then (if ((0:Int32) + w0_5) < (16385:Int32) then (0:Int32) else (1:Int32)) else (1:Int32))); let w0_50 : Int32 := (if (f6 w0_4 w0_5 (3:Int32) (0:Int32)) = w0_49 then (1:Int32) else (0:Int32)); (w0_50 &&& 1)) else (let w0_51 : Int32 := (w0_1 + (1:Int32)); let w0_52 : Int32 := (if w0_51 = (0:Int32) then (0:Int32) else (if (w0_51 + w0_4) < (1025:Int32) then (if (w0_3 + w0_5) < (16385:Int32) then (0:Int32) else (1:Int32)) else (1:Int32))); let w0_53 : Int32 := (if (f6 w0_4 w0_5 (4:Int32) ((0:Int32) + w0_3)) = w0_52 then (1:Int32) else (0:Int32)); (w0_53 &&& 1)))))))
def Q0 (Z : State) (p0 : Int32) (p1 : Int32) (p2 : Int32) (p3 : Int32) (p4 : Int32)  (h0 : Heap) (n0 : Nat) (v : Option Value) (h : Heap) (L : List Loc) : Prop := v = some (.int (f0 p0 p1 p2 p3 p4)) ∧ Fr n0 L
set_option maxRecDepth 65536 in
set_option maxHeartbeats 40000000 in
theorem rm0 (l : Launch) (Z : State) (aZ : Array Value) (hw : ∀ d ∈ tables_1, d.before aZ Z = true) (ws : List Jvm.Cond) (p0 : Int32) (p1 : Int32) (p2 : Int32) (p3 : Int32) (p4 : Int32)  (h0 : Heap) (n0 : Nat) (Z0 : n0 ≤ h0.size)  :
    MetFree l x (head1 (Jvm.Cond.code x code maxLocals ret :: ws) room_1) (fun a U => a = #[(.int p0), (.int p1), (.int p2), (.int p3), (.int p4)] ∧ Z.Warmed39 U.vm ∧ U.heap = h0) (fun _ _ _ _ _ => True) (fun _ U o U' => ∃ v L, o = .returned v ∧ Q0 Z p0 p1 p2 p3 p4 h0 n0 v U'.heap L ∧ FrameEnd U o U' L 6 1494) := by
  refine MetFree.of_bodySF (plainFor_of_name own_pn1) hisR ?_
  intro p e s m args below meth c s₁ Bd hml0 hP hK
  obtain ⟨rfl, hZ, hh⟩ := hP
  have hx := Bd.exec
  have hby := Bd.bytes
  have hml : c.maxLocals = 15 := hml0
  have hown : s.vm.findClass "com/example/fanout4/fanout4/xdm/RecordedEventsIsFullForPinLaw" = some m.cls := findClass_of_methodNamed Bd.named
  have hnm := (name_of_methodNamed Bd.named Bd.method).1
  have X0 : Stand p l e room_1 s m #[(.int p0), (.int p1), (.int p2), (.int p3), (.int p4)] below meth c s₁ [] 0 0 := Stand.of_body Bd
  have e0 : s₁.heap = h0 := by rw [← hh, Bd.state]; rfl
  have N0 := Fr.nil n0
  show own_Goes p e below s (Q0 Z p0 p1 p2 p3 p4 h0 n0) 6 1494 _
  refine own_pre (fun t k => castTop (ef0 m p0 p1 p2 p3 p4) k) ?_
  obtain ⟨w0_1, hw0_1⟩ : ∃ z : Int32, z = (p0 &&& (3:Int32)) := ⟨_, rfl⟩
  refine own_pre (A := s₁.setTop (mkF m 8 #[iv p0, iv p1, iv p2, iv p3, iv p4, iv w0_1, .unset, .unset, .unset, .unset, .unset, .unset, .unset, .unset, .unset] [(.int (p1 &&& (1:Int32)))])) (fun t k => ?_) ?_
  · show Steps p.tables e below (s₁.setTop (mkF m 0 #[iv p0, iv p1, iv p2, iv p3, iv p4, .unset, .unset, .unset, .unset, .unset, .unset, .unset, .unset, .unset, .unset] [])) _
    refine XS.iloadN X0.here hx rfl (hb hby at_0) rfl ?_
    show Steps p.tables e below (s₁.setTop (mkF m 1 #[iv p0, iv p1, iv p2, iv p3, iv p4, .unset, .unset, .unset, .unset, .unset, .unset, .unset, .unset, .unset, .unset] [(.int p0)])) _
    refine XS.iconst X0.here hx rfl (hb hby at_1) ?_
    show Steps p.tables e below (s₁.setTop (mkF m 2 #[iv p0, iv p1, iv p2, iv p3, iv p4, .unset, .unset, .unset, .unset, .unset, .unset, .unset, .unset, .unset, .unset] [(.int (3:Int32)), (.int p0)])) _
    refine XS.iand X0.here hx rfl (hb hby at_2) rfl ?_
    show Steps p.tables e below (s₁.setTop (mkF m 3 #[iv p0, iv p1, iv p2, iv p3, iv p4, .unset, .unset, .unset, .unset, .unset, .unset, .unset, .unset, .unset, .unset] [(.int (p0 &&& (3:Int32)))])) _
    refine XS.istore X0.here hx rfl (hb hby at_3) rfl (l' := #[iv p0, iv p1, iv p2, iv p3, iv p4, iv w0_1, .unset, .unset, .unset, .unset, .unset, .unset, .unset, .unset, .unset]) (by rw [hw0_1]; rfl) ?_
    show Steps p.tables e below (s₁.setTop (mkF m 5 #[iv p0, iv p1, iv p2, iv p3, iv p4, iv w0_1, .unset, .unset, .unset, .unset, .unset, .unset, .unset, .unset, .unset] [])) _
    refine XS.iloadN X0.here hx rfl (hb hby at_5) rfl ?_
    show Steps p.tables e below (s₁.setTop (mkF m 6 #[iv p0, iv p1, iv p2, iv p3, iv p4, iv w0_1, .unset, .unset, .unset, .unset, .unset, .unset, .unset, .unset, .unset] [(.int p1)])) _
    refine XS.iconst X0.here hx rfl (hb hby at_6) ?_
    show Steps p.tables e below (s₁.setTop (mkF m 7 #[iv p0, iv p1, iv p2, iv p3, iv p4, iv w0_1, .unset, .unset, .unset, .unset, .unset, .unset, .unset, .unset, .unset] [(.int (1:Int32)), (.int p1)])) _
    refine XS.iand X0.here hx rfl (hb hby at_7) rfl ?_
    exact k
  obtain ⟨w0_2, hw0_2⟩ : ∃ z : Int32, z = (if (p1 &&& (1:Int32)) = (0:Int32) then (0:Int32) else (1:Int32)) := ⟨_, rfl⟩
  refine own_pre (A := s₁.setTop (mkF m 16 #[iv p0, iv p1, iv p2, iv p3, iv p4, iv w0_1, .unset, .unset, .unset, .unset, .unset, .unset, .unset, .unset, .unset] [(.int w0_2)])) (fun t k => ?_) ?_
  · show Steps p.tables e below (s₁.setTop (mkF m 8 #[iv p0, iv p1, iv p2, iv p3, iv p4, iv w0_1, .unset, .unset, .unset, .unset, .unset, .unset, .unset, .unset, .unset] [(.int (p1 &&& (1:Int32)))])) _
    by_cases hm8_1 : (p1 &&& (1:Int32)) = (0:Int32)
    · refine XS.ifYes X0.here hx rfl (pc0 := 8) (pc' := 15) rfl (hb hby at_8) rfl (XT.i0_eq_t hm8_1) (by decide) (by decide) ?_
      show Steps p.tables e below (s₁.setTop (mkF m 15 #[iv p0, iv p1, iv p2, iv p3, iv p4, iv w0_1, .unset, .unset, .unset, .unset, .unset, .unset, .unset, .unset, .unset] [])) _
      refine XS.iconst X0.here hx rfl (hb hby at_15) ?_
      rw [hw0_2.trans (if_pos hm8_1)] at k
      exact k
    · refine XS.ifNo X0.here hx rfl (hb hby at_8) rfl (XT.i0_eq_f hm8_1) ?_
      show Steps p.tables e below (s₁.setTop (mkF m 11 #[iv p0, iv p1, iv p2, iv p3, iv p4, iv w0_1, .unset, .unset, .unset, .unset, .unset, .unset, .unset, .unset, .unset] [])) _
      refine XS.iconst X0.here hx rfl (hb hby at_11) ?_
      show Steps p.tables e below (s₁.setTop (mkF m 12 #[iv p0, iv p1, iv p2, iv p3, iv p4, iv w0_1, .unset, .unset, .unset, .unset, .unset, .unset, .unset, .unset, .unset] [(.int (1:Int32))])) _
      refine XS.goto X0.here hx rfl (pc0 := 12) (pc' := 16) rfl (hb hby at_12) (by decide) (by decide) ?_
      rw [hw0_2.trans (if_neg hm8_1)] at k
      exact k
  obtain ⟨w0_3, hw0_3⟩ : ∃ z : Int32, z = (p2 &&& (15:Int32)) := ⟨_, rfl⟩
  obtain ⟨w0_4, hw0_4⟩ : ∃ z : Int32, z = (p3 &&& (1073741823:Int32)) := ⟨_, rfl⟩
  obtain ⟨w0_5, hw0_5⟩ : ∃ z : Int32, z = (p4 &&& (1073741823:Int32)) := ⟨_, rfl⟩
  refine own_pre (A := s₁.setTop (mkF m 39 #[iv p0, iv p1, iv p2, iv p3, iv p4, iv w0_1, iv w0_2, iv w0_3, iv w0_4, iv w0_5, .unset, .unset, .unset, .unset, .unset] [(.int (16:Int32))])) (fun t k => ?_) ?_
  · show Steps p.tables e below (s₁.setTop (mkF m 16 #[iv p0, iv p1, iv p2, iv p3, iv p4, iv w0_1, .unset, .unset, .unset, .unset, .unset, .unset, .unset, .unset, .unset] [(.int w0_2)])) _
    refine XS.istore X0.here hx rfl (hb hby at_16) rfl (l' := #[iv p0, iv p1, iv p2, iv p3, iv p4, iv w0_1, iv w0_2, .unset, .unset, .unset, .unset, .unset, .unset, .unset, .unset]) rfl ?_
    show Steps p.tables e below (s₁.setTop (mkF m 18 #[iv p0, iv p1, iv p2, iv p3, iv p4, iv w0_1, iv w0_2, .unset, .unset, .unset, .unset, .unset, .unset, .unset, .unset] [])) _
    refine XS.iloadN X0.here hx rfl (hb hby at_18) rfl ?_
    show Steps p.tables e below (s₁.setTop (mkF m 19 #[iv p0, iv p1, iv p2, iv p3, iv p4, iv w0_1, iv w0_2, .unset, .unset, .unset, .unset, .unset, .unset, .unset, .unset] [(.int p2)])) _
    refine XS.bipush X0.here hx rfl (hb hby at_19) ?_
    show Steps p.tables e below (s₁.setTop (mkF m 21 #[iv p0, iv p1, iv p2, iv p3, iv p4, iv w0_1, iv w0_2, .unset, .unset, .unset, .unset, .unset, .unset, .unset, .unset] [(.int (15:Int32)), (.int p2)])) _
    refine XS.iand X0.here hx rfl (hb hby at_21) rfl ?_
    show Steps p.tables e below (s₁.setTop (mkF m 22 #[iv p0, iv p1, iv p2, iv p3, iv p4, iv w0_1, iv w0_2, .unset, .unset, .unset, .unset, .unset, .unset, .unset, .unset] [(.int (p2 &&& (15:Int32)))])) _
    refine XS.istore X0.here hx rfl (hb hby at_22) rfl (l' := #[iv p0, iv p1, iv p2, iv p3, iv p4, iv w0_1, iv w0_2, iv w0_3, .unset, .unset, .unset, .unset, .unset, .unset, .unset]) (by rw [hw0_3]; rfl) ?_
    show Steps p.tables e below (s₁.setTop (mkF m 24 #[iv p0, iv p1, iv p2, iv p3, iv p4, iv w0_1, iv w0_2, iv w0_3, .unset, .unset, .unset, .unset, .unset, .unset, .unset] [])) _
    refine XS.iloadN X0.here hx rfl (hb hby at_24) rfl ?_
    show Steps p.tables e below (s₁.setTop (mkF m 25 #[iv p0, iv p1, iv p2, iv p3, iv p4, iv w0_1, iv w0_2, iv w0_3, .unset, .unset, .unset, .unset, .unset, .unset, .unset] [(.int p3)])) _
    refine Jvm.Stand.ldcI X0 hx hown (mvT hZ (own_h hw 0 rfl)) rfl (hb hby at_25) ?_
    show Steps p.tables e below (s₁.setTop (mkF m 27 #[iv p0, iv p1, iv p2, iv p3, iv p4, iv w0_1, iv w0_2, iv w0_3, .unset, .unset, .unset, .unset, .unset, .unset, .unset] [(.int (1073741823:Int32)), (.int p3)])) _
    refine XS.iand X0.here hx rfl (hb hby at_27) rfl ?_
    show Steps p.tables e below (s₁.setTop (mkF m 28 #[iv p0, iv p1, iv p2, iv p3, iv p4, iv w0_1, iv w0_2, iv w0_3, .unset, .unset, .unset, .unset, .unset, .unset, .unset] [(.int (p3 &&& (1073741823:Int32)))])) _
    refine XS.istore X0.here hx rfl (hb hby at_28) rfl (l' := #[iv p0, iv p1, iv p2, iv p3, iv p4, iv w0_1, iv w0_2, iv w0_3, iv w0_4, .unset, .unset, .unset, .unset, .unset, .unset]) (by rw [hw0_4]; rfl) ?_
    show Steps p.tables e below (s₁.setTop (mkF m 30 #[iv p0, iv p1, iv p2, iv p3, iv p4, iv w0_1, iv w0_2, iv w0_3, iv w0_4, .unset, .unset, .unset, .unset, .unset, .unset] [])) _
    refine XS.iload X0.here hx rfl (hb hby at_30) rfl ?_
    show Steps p.tables e below (s₁.setTop (mkF m 32 #[iv p0, iv p1, iv p2, iv p3, iv p4, iv w0_1, iv w0_2, iv w0_3, iv w0_4, .unset, .unset, .unset, .unset, .unset, .unset] [(.int p4)])) _
    refine Jvm.Stand.ldcI X0 hx hown (mvT hZ (own_h hw 0 rfl)) rfl (hb hby at_32) ?_
    show Steps p.tables e below (s₁.setTop (mkF m 34 #[iv p0, iv p1, iv p2, iv p3, iv p4, iv w0_1, iv w0_2, iv w0_3, iv w0_4, .unset, .unset, .unset, .unset, .unset, .unset] [(.int (1073741823:Int32)), (.int p4)])) _
    refine XS.iand X0.here hx rfl (hb hby at_34) rfl ?_
    show Steps p.tables e below (s₁.setTop (mkF m 35 #[iv p0, iv p1, iv p2, iv p3, iv p4, iv w0_1, iv w0_2, iv w0_3, iv w0_4, .unset, .unset, .unset, .unset, .unset, .unset] [(.int (p4 &&& (1073741823:Int32)))])) _
    refine XS.istore X0.here hx rfl (hb hby at_35) rfl (l' := #[iv p0, iv p1, iv p2, iv p3, iv p4, iv w0_1, iv w0_2, iv w0_3, iv w0_4, iv w0_5, .unset, .unset, .unset, .unset, .unset]) (by rw [hw0_5]; rfl) ?_
    show Steps p.tables e below (s₁.setTop (mkF m 37 #[iv p0, iv p1, iv p2, iv p3, iv p4, iv w0_1, iv w0_2, iv w0_3, iv w0_4, iv w0_5, .unset, .unset, .unset, .unset, .unset] [])) _
    refine XS.bipush X0.here hx rfl (hb hby at_37) ?_
    exact k
  obtain ⟨T115, h115, k115, X115, e115, E115, A115, st115⟩ := newP X0 hx hZ (own_h hw 1 rfl) e0 (g := (mkF m 39 #[iv p0, iv p1, iv p2, iv p3, iv p4, iv w0_1, iv w0_2, iv w0_3, iv w0_4, iv w0_5, .unset, .unset, .unset, .unset, .unset] [(.int (16:Int32))])) rfl (hb hby at_39) rfl (by decide) (cap := 16) (by decide) (by decide) (by decide) (by decide)
  obtain ⟨b115, g115⟩ : ∃ z, z = h0.size := ⟨_, rfl⟩
  rw [← g115] at A115 st115
  have ge_b115 : n0 ≤ b115 := Nat.le_trans Z0 (Nat.le_of_eq g115.symm)
  have Z116 : n0 ≤ h115.size := Nat.le_trans Z0 E115.1
  have V115 : own_Chars Z h115 b115 [(0:Int32), (0:Int32), (0:Int32), (0:Int32), (0:Int32), (0:Int32), (0:Int32), (0:Int32), (0:Int32), (0:Int32), (0:Int32), (0:Int32), (0:Int32), (0:Int32), (0:Int32), (0:Int32)] := own_newC A115 (by decide)
  refine own_pre st115 ?_
  refine own_pre (A := T115.setTop (mkF m 43 #[iv p0, iv p1, iv p2, iv p3, iv p4, iv w0_1, iv w0_2, iv w0_3, iv w0_4, iv w0_5, rv b115, .unset, .unset, .unset, .unset] [])) (fun t k => ?_) ?_
  · show Steps p.tables e below (T115.setTop (mkF m 41 #[iv p0, iv p1, iv p2, iv p3, iv p4, iv w0_1, iv w0_2, iv w0_3, iv w0_4, iv w0_5, .unset, .unset, .unset, .unset, .unset] [(.ref b115)])) _
    refine XS.astore X115.here hx rfl (hb hby at_41) rfl rfl (l' := #[iv p0, iv p1, iv p2, iv p3, iv p4, iv w0_1, iv w0_2, iv w0_3, iv w0_4, iv w0_5, rv b115, .unset, .unset, .unset, .unset]) rfl ?_
    exact k
  obtain ⟨T117, h117, X117, e117, E117, A117, D117, -, st117⟩ := newO X115 hx hZ hown (own_h hw 2 rfl) (own_h hw 3 rfl) (own_h hw 4 rfl) e115 (g := (mkF m 43 #[iv p0, iv p1, iv p2, iv p3, iv p4, iv w0_1, iv w0_2, iv w0_3, iv w0_4, iv w0_5, rv b115, .unset, .unset, .unset, .unset] [])) rfl (hb hby at_43) (by decide) (by decide)
  obtain ⟨b117, g117⟩ : ∃ z, z = h115.size := ⟨_, rfl⟩
  rw [← g117] at A117 D117 st117
  have ge_b117 : n0 ≤ b117 := Nat.le_trans Z116 (Nat.le_of_eq g117.symm)
  have ne_b115_b117 : b115 ≠ b117 := Nat.ne_of_lt (Nat.lt_of_lt_of_le V115.lt (Nat.le_of_eq g117.symm))
  have Z118 : n0 ≤ h117.size := Nat.le_trans Z116 E117.1
  have F117_kinds : Fld Z h117 b117 "com/example/fanout4/fanout4/xdm/RecordedEvents" "kinds" "[B" .null := D117 (Or.inl (own_h hw 13 rfl)) (ty := (.array .byte)) (by decide)
  have F117_strings : Fld Z h117 b117 "com/example/fanout4/fanout4/xdm/RecordedEvents" "strings" "[Ljava/lang/String;" .null := D117 (Or.inl (own_h hw 17 rfl)) (ty := (.array (.object "java/lang/String"))) (by decide)
  have F117_numbers : Fld Z h117 b117 "com/example/fanout4/fanout4/xdm/RecordedEvents" "numbers" "[I" .null := D117 (Or.inl (own_h hw 20 rfl)) (ty := (.array .int)) (by decide)
  have F117_characters : Fld Z h117 b117 "com/example/fanout4/fanout4/xdm/RecordedEvents" "characters" "[C" .null := D117 (Or.inl (own_h hw 22 rfl)) (ty := (.array .char)) (by decide)
  have F117_size : Fld Z h117 b117 "com/example/fanout4/fanout4/xdm/RecordedEvents" "size" "I" (.int (0:Int32)) := D117 (Or.inl (own_h hw 37 rfl)) (ty := .int) (by decide)
  have F117_characterCount : Fld Z h117 b117 "com/example/fanout4/fanout4/xdm/RecordedEvents" "characterCount" "I" (.int (0:Int32)) := D117 (Or.inl (own_h hw 39 rfl)) (ty := .int) (by decide)
  refine own_pre st117 ?_
  refine own_pre (A := T117.setTop (mkF m 47 #[iv p0, iv p1, iv p2, iv p3, iv p4, iv w0_1, iv w0_2, iv w0_3, iv w0_4, iv w0_5, rv b115, .unset, .unset, .unset, .unset] [(.ref b117), (.ref b117)])) (fun t k => ?_) ?_
  · show Steps p.tables e below (T117.setTop (mkF m 46 #[iv p0, iv p1, iv p2, iv p3, iv p4, iv w0_1, iv w0_2, iv w0_3, iv w0_4, iv w0_5, rv b115, .unset, .unset, .unset, .unset] [(.ref b117)])) _
    refine XS.dup X117.here hx rfl (hb hby at_46) rfl rfl ?_
    exact k
  have F120 := (V115.ext E117)
  obtain ⟨_, _, ⟨T119, L119, k119, n119⟩, -, X119, ⟨Lc119, hQ119, l119, y119, z119⟩, st119⟩ := X117.specialBack hx (y := (⟨"com/example/fanout4/fanout4/xdm/RecordedEvents", "<init>", "()V"⟩ : MethodName)) rfl hown (mvT hZ (own_h hw 5 rfl)) (mvT hZ (own_h hw 6 rfl)) (mvT hZ (own_h hw 7 rfl)) (by decide) (backOf (W := 1) (rm1 l Z aZ hw [] b117 h117 n0 Z118 A117 F117_kinds F117_strings F117_numbers F117_characters F117_size F117_characterCount ge_b117) hZ (own_h hw 7 rfl) (own_h hw 4 rfl) (by decide) (by decide)) (g := (mkF m 47 #[iv p0, iv p1, iv p2, iv p3, iv p4, iv w0_1, iv w0_2, iv w0_3, iv w0_4, iv w0_5, rv b115, .unset, .unset, .unset, .unset] [(.ref b117), (.ref b117)])) rfl (by rw [hml]; rfl) (Steps.refl _) (a := b117) (argsL := []) (rest := [(.ref b117)]) (lenOf own_pd2 rfl) rfl (by show 2 * 0 + _ ≤ _; exact Nat.le_of_eq rfl) (hb hby at_47) (fun _ _ => ⟨rfl, e117, (by decide : 2 + 4 ≤ _), (by decide : 22 + 1472 ≤ _)⟩)
  dsimp only [Pt.U, Pt.locs, Pt.cells, Pt.slots] at X119 l119 y119 z119 st119 hQ119
  subst l119 y119 z119
  obtain ⟨rfl, N119q, K119, kd_121, nb_122, ch_123, sz124, sz125, sz126, ne127, ne128, ne129, G130, G131, G132, G133, G134, G135, G136, G137⟩ := hQ119
  have N119 := Fr.app N0 N119q
  have Z138 : n0 ≤ T119.heap.size := Nat.le_trans Z118 K119.1
  have ne139 : b115 ≠ kd_121 := Nat.ne_of_lt (Nat.lt_of_lt_of_le F120.lt sz124)
  have ne140 : b117 ≠ kd_121 := Nat.ne_of_lt (Nat.lt_of_lt_of_le A117.lt sz124)
  have ge141 : n0 ≤ kd_121 := Nat.le_trans Z118 sz124
  have ne142 : b115 ≠ nb_122 := Nat.ne_of_lt (Nat.lt_of_lt_of_le F120.lt sz125)
  have ne143 : b117 ≠ nb_122 := Nat.ne_of_lt (Nat.lt_of_lt_of_le A117.lt sz125)
  have ge144 : n0 ≤ nb_122 := Nat.le_trans Z118 sz125
  have ne145 : b115 ≠ ch_123 := Nat.ne_of_lt (Nat.lt_of_lt_of_le F120.lt sz126)
  have ne146 : b117 ≠ ch_123 := Nat.ne_of_lt (Nat.lt_of_lt_of_le A117.lt sz126)
  have ge147 : n0 ≤ ch_123 := Nat.le_trans Z118 sz126
  refine own_pre (fun _ k => st119.trans k) ?_
  refine own_pre (A := T119.setTop (mkF m 55 #[iv p0, iv p1, iv p2, iv p3, iv p4, iv w0_1, iv w0_2, iv w0_3, iv w0_4, iv w0_5, rv b115, rv b117, .unset, .unset, .unset] [(.int (1:Int32)), (.int w0_1)])) (fun t k => ?_) ?_
  · show Steps p.tables e below (T119.setTop (mkF m 50 #[iv p0, iv p1, iv p2, iv p3, iv p4, iv w0_1, iv w0_2, iv w0_3, iv w0_4, iv w0_5, rv b115, .unset, .unset, .unset, .unset] [(.ref b117)])) _
    refine XS.astore X119.here hx rfl (hb hby at_50) rfl rfl (l' := #[iv p0, iv p1, iv p2, iv p3, iv p4, iv w0_1, iv w0_2, iv w0_3, iv w0_4, iv w0_5, rv b115, rv b117, .unset, .unset, .unset]) rfl ?_
    show Steps p.tables e below (T119.setTop (mkF m 52 #[iv p0, iv p1, iv p2, iv p3, iv p4, iv w0_1, iv w0_2, iv w0_3, iv w0_4, iv w0_5, rv b115, rv b117, .unset, .unset, .unset] [])) _
    refine XS.iload X119.here hx rfl (hb hby at_52) rfl ?_
    show Steps p.tables e below (T119.setTop (mkF m 54 #[iv p0, iv p1, iv p2, iv p3, iv p4, iv w0_1, iv w0_2, iv w0_3, iv w0_4, iv w0_5, rv b115, rv b117, .unset, .unset, .unset] [(.int w0_1)])) _
    refine XS.iconst X119.here hx rfl (hb hby at_54) ?_
    exact k
  by_cases hs55_3 : w0_1 < (1:Int32)
  · refine own_pre (A := T119.setTop (mkF m 66 #[iv p0, iv p1, iv p2, iv p3, iv p4, iv w0_1, iv w0_2, iv w0_3, iv w0_4, iv w0_5, rv b115, rv b117, .unset, .unset, .unset] [(.int (2:Int32)), (.int w0_1)])) (fun t k => ?_) ?_
    · show Steps p.tables e below (T119.setTop (mkF m 55 #[iv p0, iv p1, iv p2, iv p3, iv p4, iv w0_1, iv w0_2, iv w0_3, iv w0_4, iv w0_5, rv b115, rv b117, .unset, .unset, .unset] [(.int (1:Int32)), (.int w0_1)])) _
      refine XS.icmpYes X119.here hx rfl (pc0 := 55) (pc' := 63) rfl (hb hby at_55) rfl (XT.ii_lt_t hs55_3) (by decide) (by decide) ?_
      show Steps p.tables e below (T119.setTop (mkF m 63 #[iv p0, iv p1, iv p2, iv p3, iv p4, iv w0_1, iv w0_2, iv w0_3, iv w0_4, iv w0_5, rv b115, rv b117, .unset, .unset, .unset] [])) _
      refine XS.iload X119.here hx rfl (hb hby at_63) rfl ?_
      show Steps p.tables e below (T119.setTop (mkF m 65 #[iv p0, iv p1, iv p2, iv p3, iv p4, iv w0_1, iv w0_2, iv w0_3, iv w0_4, iv w0_5, rv b115, rv b117, .unset, .unset, .unset] [(.int w0_1)])) _
      refine XS.iconst X119.here hx rfl (hb hby at_65) ?_
      exact k
    by_cases hs66_5 : w0_1 < (2:Int32)
    · refine own_pre (A := T119.setTop (mkF m 77 #[iv p0, iv p1, iv p2, iv p3, iv p4, iv w0_1, iv w0_2, iv w0_3, iv w0_4, iv w0_5, rv b115, rv b117, .unset, .unset, .unset] [(.int (3:Int32)), (.int w0_1)])) (fun t k => ?_) ?_
      · show Steps p.tables e below (T119.setTop (mkF m 66 #[iv p0, iv p1, iv p2, iv p3, iv p4, iv w0_1, iv w0_2, iv w0_3, iv w0_4, iv w0_5, rv b115, rv b117, .unset, .unset, .unset] [(.int (2:Int32)), (.int w0_1)])) _
        refine XS.icmpYes X119.here hx rfl (pc0 := 66) (pc' := 74) rfl (hb hby at_66) rfl (XT.ii_lt_t hs66_5) (by decide) (by decide) ?_
        show Steps p.tables e below (T119.setTop (mkF m 74 #[iv p0, iv p1, iv p2, iv p3, iv p4, iv w0_1, iv w0_2, iv w0_3, iv w0_4, iv w0_5, rv b115, rv b117, .unset, .unset, .unset] [])) _
        refine XS.iload X119.here hx rfl (hb hby at_74) rfl ?_
        show Steps p.tables e below (T119.setTop (mkF m 76 #[iv p0, iv p1, iv p2, iv p3, iv p4, iv w0_1, iv w0_2, iv w0_3, iv w0_4, iv w0_5, rv b115, rv b117, .unset, .unset, .unset] [(.int w0_1)])) _
        refine XS.iconst X119.here hx rfl (hb hby at_76) ?_
        exact k
      by_cases hs77_7 : w0_1 < (3:Int32)
      · refine own_pre (A := T119.setTop (mkF m 87 #[iv p0, iv p1, iv p2, iv p3, iv p4, iv w0_1, iv w0_2, iv w0_3, iv w0_4, iv w0_5, rv b115, rv b117, .unset, .unset, .unset] [(.int w0_2)])) (fun t k => ?_) ?_
        · show Steps p.tables e below (T119.setTop (mkF m 77 #[iv p0, iv p1, iv p2, iv p3, iv p4, iv w0_1, iv w0_2, iv w0_3, iv w0_4, iv w0_5, rv b115, rv b117, .unset, .unset, .unset] [(.int (3:Int32)), (.int w0_1)])) _
          refine XS.icmpYes X119.here hx rfl (pc0 := 77) (pc' := 85) rfl (hb hby at_77) rfl (XT.ii_lt_t hs77_7) (by decide) (by decide) ?_
          show Steps p.tables e below (T119.setTop (mkF m 85 #[iv p0, iv p1, iv p2, iv p3, iv p4, iv w0_1, iv w0_2, iv w0_3, iv w0_4, iv w0_5, rv b115, rv b117, .unset, .unset, .unset] [])) _
          refine XS.iload X119.here hx rfl (hb hby at_85) rfl ?_
          exact k
        by_cases hs87_9 : w0_2 = (0:Int32)
        · obtain ⟨w0_6, hw0_6⟩ : ∃ z : Int32, z = (w0_1 + (0:Int32)) := ⟨_, rfl⟩
          refine own_pre (A := T119.setTop (mkF m 130 #[iv p0, iv p1, iv p2, iv p3, iv p4, iv w0_1, iv w0_2, iv w0_3, iv w0_4, iv w0_5, rv b115, rv b117, iv w0_6, iv (0:Int32), .unset] [(.int w0_6)])) (fun t k => ?_) ?_
          · show Steps p.tables e below (T119.setTop (mkF m 87 #[iv p0, iv p1, iv p2, iv p3, iv p4, iv w0_1, iv w0_2, iv w0_3, iv w0_4, iv w0_5, rv b115, rv b117, .unset, .unset, .unset] [(.int w0_2)])) _
            refine XS.ifYes X119.here hx rfl (pc0 := 87) (pc' := 100) rfl (hb hby at_87) rfl (XT.i0_eq_t hs87_9) (by decide) (by decide) ?_
            show Steps p.tables e below (T119.setTop (mkF m 100 #[iv p0, iv p1, iv p2, iv p3, iv p4, iv w0_1, iv w0_2, iv w0_3, iv w0_4, iv w0_5, rv b115, rv b117, .unset, .unset, .unset] [])) _
            refine XS.iload X119.here hx rfl (hb hby at_100) rfl ?_
            show Steps p.tables e below (T119.setTop (mkF m 102 #[iv p0, iv p1, iv p2, iv p3, iv p4, iv w0_1, iv w0_2, iv w0_3, iv w0_4, iv w0_5, rv b115, rv b117, .unset, .unset, .unset] [(.int w0_1)])) _
            refine XS.iload X119.here hx rfl (hb hby at_102) rfl ?_
            show Steps p.tables e below (T119.setTop (mkF m 104 #[iv p0, iv p1, iv p2, iv p3, iv p4, iv w0_1, iv w0_2, iv w0_3, iv w0_4, iv w0_5, rv b115, rv b117, .unset, .unset, .unset] [(.int w0_2), (.int w0_1)])) _
            refine XS.ifYes X119.here hx rfl (pc0 := 104) (pc' := 111) rfl (hb hby at_104) rfl (XT.i0_eq_t hs87_9) (by decide) (by decide) ?_
            show Steps p.tables e below (T119.setTop (mkF m 111 #[iv p0, iv p1, iv p2, iv p3, iv p4, iv w0_1, iv w0_2, iv w0_3, iv w0_4, iv w0_5, rv b115, rv b117, .unset, .unset, .unset] [(.int w0_1)])) _
            refine XS.iconst X119.here hx rfl (hb hby at_111) ?_
            show Steps p.tables e below (T119.setTop (mkF m 112 #[iv p0, iv p1, iv p2, iv p3, iv p4, iv w0_1, iv w0_2, iv w0_3, iv w0_4, iv w0_5, rv b115, rv b117, .unset, .unset, .unset] [(.int (0:Int32)), (.int w0_1)])) _
            refine XS.iadd X119.here hx rfl (hb hby at_112) rfl ?_
            show Steps p.tables e below (T119.setTop (mkF m 113 #[iv p0, iv p1, iv p2, iv p3, iv p4, iv w0_1, iv w0_2, iv w0_3, iv w0_4, iv w0_5, rv b115, rv b117, .unset, .unset, .unset] [(.int (w0_1 + (0:Int32)))])) _
            refine XS.istore X119.here hx rfl (hb hby at_113) rfl (l' := #[iv p0, iv p1, iv p2, iv p3, iv p4, iv w0_1, iv w0_2, iv w0_3, iv w0_4, iv w0_5, rv b115, rv b117, iv w0_6, .unset, .unset]) (by rw [hw0_6]; rfl) ?_
            show Steps p.tables e below (T119.setTop (mkF m 115 #[iv p0, iv p1, iv p2, iv p3, iv p4, iv w0_1, iv w0_2, iv w0_3, iv w0_4, iv w0_5, rv b115, rv b117, iv w0_6, .unset, .unset] [])) _
            refine XS.iload X119.here hx rfl (hb hby at_115) rfl ?_
            show Steps p.tables e below (T119.setTop (mkF m 117 #[iv p0, iv p1, iv p2, iv p3, iv p4, iv w0_1, iv w0_2, iv w0_3, iv w0_4, iv w0_5, rv b115, rv b117, iv w0_6, .unset, .unset] [(.int w0_2)])) _
            refine XS.ifYes X119.here hx rfl (pc0 := 117) (pc' := 125) rfl (hb hby at_117) rfl (XT.i0_eq_t hs87_9) (by decide) (by decide) ?_
            show Steps p.tables e below (T119.setTop (mkF m 125 #[iv p0, iv p1, iv p2, iv p3, iv p4, iv w0_1, iv w0_2, iv w0_3, iv w0_4, iv w0_5, rv b115, rv b117, iv w0_6, .unset, .unset] [])) _
            refine XS.iconst X119.here hx rfl (hb hby at_125) ?_
            show Steps p.tables e below (T119.setTop (mkF m 126 #[iv p0, iv p1, iv p2, iv p3, iv p4, iv w0_1, iv w0_2, iv w0_3, iv w0_4, iv w0_5, rv b115, rv b117, iv w0_6, .unset, .unset] [(.int (0:Int32))])) _
            refine XS.istore X119.here hx rfl (hb hby at_126) rfl (l' := #[iv p0, iv p1, iv p2, iv p3, iv p4, iv w0_1, iv w0_2, iv w0_3, iv w0_4, iv w0_5, rv b115, rv b117, iv w0_6, iv (0:Int32), .unset]) rfl ?_
            show Steps p.tables e below (T119.setTop (mkF m 128 #[iv p0, iv p1, iv p2, iv p3, iv p4, iv w0_1, iv w0_2, iv w0_3, iv w0_4, iv w0_5, rv b115, rv b117, iv w0_6, iv (0:Int32), .unset] [])) _
            refine XS.iload X119.here hx rfl (hb hby at_128) rfl ?_
            exact k
          obtain ⟨w0_7, hw0_7⟩ : ∃ z : Int32, z = (if w0_6 = (0:Int32) then (0:Int32) else (if (w0_6 + w0_4) < (1025:Int32) then (if ((0:Int32) + w0_5) < (16385:Int32) then (0:Int32) else (1:Int32)) else (1:Int32))) := ⟨_, rfl⟩
          refine own_pre (A := T119.setTop (mkF m 174 #[iv p0, iv p1, iv p2, iv p3, iv p4, iv w0_1, iv w0_2, iv w0_3, iv w0_4, iv w0_5, rv b115, rv b117, iv w0_6, iv (0:Int32), iv w0_7] [])) (fun t k => ?_) ?_
          · show Steps p.tables e below (T119.setTop (mkF m 130 #[iv p0, iv p1, iv p2, iv p3, iv p4, iv w0_1, iv w0_2, iv w0_3, iv w0_4, iv w0_5, rv b115, rv b117, iv w0_6, iv (0:Int32), .unset] [(.int w0_6)])) _
            by_cases hm130_10 : w0_6 = (0:Int32)
            · refine XS.ifNo X119.here hx rfl (hb hby at_130) rfl (XT.i0_ne_f hm130_10) ?_
              show Steps p.tables e below (T119.setTop (mkF m 133 #[iv p0, iv p1, iv p2, iv p3, iv p4, iv w0_1, iv w0_2, iv w0_3, iv w0_4, iv w0_5, rv b115, rv b117, iv w0_6, iv (0:Int32), .unset] [])) _
              refine XS.iconst X119.here hx rfl (hb hby at_133) ?_
              show Steps p.tables e below (T119.setTop (mkF m 134 #[iv p0, iv p1, iv p2, iv p3, iv p4, iv w0_1, iv w0_2, iv w0_3, iv w0_4, iv w0_5, rv b115, rv b117, iv w0_6, iv (0:Int32), .unset] [(.int (0:Int32))])) _
              refine XS.istore X119.here hx rfl (hb hby at_134) rfl (l' := #[iv p0, iv p1, iv p2, iv p3, iv p4, iv w0_1, iv w0_2, iv w0_3, iv w0_4, iv w0_5, rv b115, rv b117, iv w0_6, iv (0:Int32), iv (0:Int32)]) rfl ?_
              show Steps p.tables e below (T119.setTop (mkF m 136 #[iv p0, iv p1, iv p2, iv p3, iv p4, iv w0_1, iv w0_2, iv w0_3, iv w0_4, iv w0_5, rv b115, rv b117, iv w0_6, iv (0:Int32), iv (0:Int32)] [])) _
              refine XS.goto X119.here hx rfl (pc0 := 136) (pc' := 174) rfl (hb hby at_136) (by decide) (by decide) ?_
              rw [hw0_7.trans (if_pos hm130_10)] at k
              exact k
            · refine XS.ifYes X119.here hx rfl (pc0 := 130) (pc' := 139) rfl (hb hby at_130) rfl (XT.i0_ne_t hm130_10) (by decide) (by decide) ?_
              show Steps p.tables e below (T119.setTop (mkF m 139 #[iv p0, iv p1, iv p2, iv p3, iv p4, iv w0_1, iv w0_2, iv w0_3, iv w0_4, iv w0_5, rv b115, rv b117, iv w0_6, iv (0:Int32), .unset] [])) _
              refine XS.iload X119.here hx rfl (hb hby at_139) rfl ?_
              show Steps p.tables e below (T119.setTop (mkF m 141 #[iv p0, iv p1, iv p2, iv p3, iv p4, iv w0_1, iv w0_2, iv w0_3, iv w0_4, iv w0_5, rv b115, rv b117, iv w0_6, iv (0:Int32), .unset] [(.int w0_6)])) _
              refine XS.iload X119.here hx rfl (hb hby at_141) rfl ?_
              show Steps p.tables e below (T119.setTop (mkF m 143 #[iv p0, iv p1, iv p2, iv p3, iv p4, iv w0_1, iv w0_2, iv w0_3, iv w0_4, iv w0_5, rv b115, rv b117, iv w0_6, iv (0:Int32), .unset] [(.int w0_4), (.int w0_6)])) _
              refine XS.iadd X119.here hx rfl (hb hby at_143) rfl ?_
              show Steps p.tables e below (T119.setTop (mkF m 144 #[iv p0, iv p1, iv p2, iv p3, iv p4, iv w0_1, iv w0_2, iv w0_3, iv w0_4, iv w0_5, rv b115, rv b117, iv w0_6, iv (0:Int32), .unset] [(.int (w0_6 + w0_4))])) _
              refine XS.sipush X119.here hx rfl (hb hby at_144) ?_
              show Steps p.tables e below (T119.setTop (mkF m 147 #[iv p0, iv p1, iv p2, iv p3, iv p4, iv w0_1, iv w0_2, iv w0_3, iv w0_4, iv w0_5, rv b115, rv b117, iv w0_6, iv (0:Int32), .unset] [(.int (1025:Int32)), (.int (w0_6 + w0_4))])) _
              by_cases hm147_11 : (w0_6 + w0_4) < (1025:Int32)
              · refine XS.icmpYes X119.here hx rfl (pc0 := 147) (pc' := 156) rfl (hb hby at_147) rfl (XT.ii_lt_t hm147_11) (by decide) (by decide) ?_
                show Steps p.tables e below (T119.setTop (mkF m 156 #[iv p0, iv p1, iv p2, iv p3, iv p4, iv w0_1, iv w0_2, iv w0_3, iv w0_4, iv w0_5, rv b115, rv b117, iv w0_6, iv (0:Int32), .unset] [])) _
                refine XS.iload X119.here hx rfl (hb hby at_156) rfl ?_
                show Steps p.tables e below (T119.setTop (mkF m 158 #[iv p0, iv p1, iv p2, iv p3, iv p4, iv w0_1, iv w0_2, iv w0_3, iv w0_4, iv w0_5, rv b115, rv b117, iv w0_6, iv (0:Int32), .unset] [(.int (0:Int32))])) _
                refine XS.iload X119.here hx rfl (hb hby at_158) rfl ?_
                show Steps p.tables e below (T119.setTop (mkF m 160 #[iv p0, iv p1, iv p2, iv p3, iv p4, iv w0_1, iv w0_2, iv w0_3, iv w0_4, iv w0_5, rv b115, rv b117, iv w0_6, iv (0:Int32), .unset] [(.int w0_5), (.int (0:Int32))])) _
                refine XS.iadd X119.here hx rfl (hb hby at_160) rfl ?_
                show Steps p.tables e below (T119.setTop (mkF m 161 #[iv p0, iv p1, iv p2, iv p3, iv p4, iv w0_1, iv w0_2, iv w0_3, iv w0_4, iv w0_5, rv b115, rv b117, iv w0_6, iv (0:Int32), .unset] [(.int ((0:Int32) + w0_5))])) _
                refine XS.sipush X119.here hx rfl (hb hby at_161) ?_
                show Steps p.tables e below (T119.setTop (mkF m 164 #[iv p0, iv p1, iv p2, iv p3, iv p4, iv w0_1, iv w0_2, iv w0_3, iv w0_4, iv w0_5, rv b115, rv b117, iv w0_6, iv (0:Int32), .unset] [(.int (16385:Int32)), (.int ((0:Int32) + w0_5))])) _
                by_cases hm164_12 : ((0:Int32) + w0_5) < (16385:Int32)
                · refine XS.icmpYes X119.here hx rfl (pc0 := 164) (pc' := 171) rfl (hb hby at_164) rfl (XT.ii_lt_t hm164_12) (by decide) (by decide) ?_
                  show Steps p.tables e below (T119.setTop (mkF m 171 #[iv p0, iv p1, iv p2, iv p3, iv p4, iv w0_1, iv w0_2, iv w0_3, iv w0_4, iv w0_5, rv b115, rv b117, iv w0_6, iv (0:Int32), .unset] [])) _
                  refine XS.iconst X119.here hx rfl (hb hby at_171) ?_
                  show Steps p.tables e below (T119.setTop (mkF m 172 #[iv p0, iv p1, iv p2, iv p3, iv p4, iv w0_1, iv w0_2, iv w0_3, iv w0_4, iv w0_5, rv b115, rv b117, iv w0_6, iv (0:Int32), .unset] [(.int (0:Int32))])) _
                  refine XS.istore X119.here hx rfl (hb hby at_172) rfl (l' := #[iv p0, iv p1, iv p2, iv p3, iv p4, iv w0_1, iv w0_2, iv w0_3, iv w0_4, iv w0_5, rv b115, rv b117, iv w0_6, iv (0:Int32), iv (0:Int32)]) rfl ?_
                  rw [hw0_7.trans (((if_neg hm130_10).trans (if_pos hm147_11)).trans (if_pos hm164_12))] at k
                  exact k
                · refine XS.icmpNo X119.here hx rfl (hb hby at_164) rfl (XT.ii_lt_f hm164_12) ?_
                  show Steps p.tables e below (T119.setTop (mkF m 167 #[iv p0, iv p1, iv p2, iv p3, iv p4, iv w0_1, iv w0_2, iv w0_3, iv w0_4, iv w0_5, rv b115, rv b117, iv w0_6, iv (0:Int32), .unset] [])) _
                  refine XS.iconst X119.here hx rfl (hb hby at_167) ?_
                  show Steps p.tables e below (T119.setTop (mkF m 168 #[iv p0, iv p1, iv p2, iv p3, iv p4, iv w0_1, iv w0_2, iv w0_3, iv w0_4, iv w0_5, rv b115, rv b117, iv w0_6, iv (0:Int32), .unset] [(.int (1:Int32))])) _
                  refine XS.goto X119.here hx rfl (pc0 := 168) (pc' := 172) rfl (hb hby at_168) (by decide) (by decide) ?_
                  show Steps p.tables e below (T119.setTop (mkF m 172 #[iv p0, iv p1, iv p2, iv p3, iv p4, iv w0_1, iv w0_2, iv w0_3, iv w0_4, iv w0_5, rv b115, rv b117, iv w0_6, iv (0:Int32), .unset] [(.int (1:Int32))])) _
                  refine XS.istore X119.here hx rfl (hb hby at_172) rfl (l' := #[iv p0, iv p1, iv p2, iv p3, iv p4, iv w0_1, iv w0_2, iv w0_3, iv w0_4, iv w0_5, rv b115, rv b117, iv w0_6, iv (0:Int32), iv (1:Int32)]) rfl ?_
                  rw [hw0_7.trans (((if_neg hm130_10).trans (if_pos hm147_11)).trans (if_neg hm164_12))] at k
                  exact k
              · refine XS.icmpNo X119.here hx rfl (hb hby at_147) rfl (XT.ii_lt_f hm147_11) ?_
                show Steps p.tables e below (T119.setTop (mkF m 150 #[iv p0, iv p1, iv p2, iv p3, iv p4, iv w0_1, iv w0_2, iv w0_3, iv w0_4, iv w0_5, rv b115, rv b117, iv w0_6, iv (0:Int32), .unset] [])) _
                refine XS.iconst X119.here hx rfl (hb hby at_150) ?_
                show Steps p.tables e below (T119.setTop (mkF m 151 #[iv p0, iv p1, iv p2, iv p3, iv p4, iv w0_1, iv w0_2, iv w0_3, iv w0_4, iv w0_5, rv b115, rv b117, iv w0_6, iv (0:Int32), .unset] [(.int (1:Int32))])) _
                refine XS.istore X119.here hx rfl (hb hby at_151) rfl (l' := #[iv p0, iv p1, iv p2, iv p3, iv p4, iv w0_1, iv w0_2, iv w0_3, iv w0_4, iv w0_5, rv b115, rv b117, iv w0_6, iv (0:Int32), iv (1:Int32)]) rfl ?_
                show Steps p.tables e below (T119.setTop (mkF m 153 #[iv p0, iv p1, iv p2, iv p3, iv p4, iv w0_1, iv w0_2, iv w0_3, iv w0_4, iv w0_5, rv b115, rv b117, iv w0_6, iv (0:Int32), iv (1:Int32)] [])) _
                refine XS.goto X119.here hx rfl (pc0 := 153) (pc' := 174) rfl (hb hby at_153) (by decide) (by decide) ?_
                rw [hw0_7.trans ((if_neg hm130_10).trans (if_neg hm147_11))] at k
                exact k
          refine own_pre (A := T119.setTop (mkF m 180 #[iv p0, iv p1, iv p2, iv p3, iv p4, iv w0_1, iv w0_2, iv w0_3, iv w0_4, iv w0_5, rv b115, rv b117, iv w0_6, iv (0:Int32), iv w0_7] [(.int w0_5), (.int w0_4), (.ref b117)])) (fun t k => ?_) ?_
          · show Steps p.tables e below (T119.setTop (mkF m 174 #[iv p0, iv p1, iv p2, iv p3, iv p4, iv w0_1, iv w0_2, iv w0_3, iv w0_4, iv w0_5, rv b115, rv b117, iv w0_6, iv (0:Int32), iv w0_7] [])) _
            refine XS.aload X119.here hx rfl (hb hby at_174) rfl rfl ?_
            show Steps p.tables e below (T119.setTop (mkF m 176 #[iv p0, iv p1, iv p2, iv p3, iv p4, iv w0_1, iv w0_2, iv w0_3, iv w0_4, iv w0_5, rv b115, rv b117, iv w0_6, iv (0:Int32), iv w0_7] [(.ref b117)])) _
            refine XS.iload X119.here hx rfl (hb hby at_176) rfl ?_
            show Steps p.tables e below (T119.setTop (mkF m 178 #[iv p0, iv p1, iv p2, iv p3, iv p4, iv w0_1, iv w0_2, iv w0_3, iv w0_4, iv w0_5, rv b115, rv b117, iv w0_6, iv (0:Int32), iv w0_7] [(.int w0_4), (.ref b117)])) _
            refine XS.iload X119.here hx rfl (hb hby at_178) rfl ?_
            exact k
          have F149 := (A117.keep K119)
          obtain ⟨cq148, kq148, q148a, q148b, q148c⟩ := isOf hZ rfl F149
          obtain ⟨_, _, ⟨T148, L148, k148, n148⟩, -, X148, ⟨Lc148, hQ148, l148, y148, z148⟩, st148⟩ := X119.virtualBack hx (y := (⟨"com/example/fanout4/fanout4/xdm/RecordedEvents", "isFullFor", "(II)Z"⟩ : MethodName)) (z := (⟨"com/example/fanout4/fanout4/xdm/RecordedEvents", "isFullFor", "(II)Z"⟩ : MethodName)) hown (mvT hZ (own_h hw 44 rfl)) (mvT hZ (own_h hw 45 rfl)) (notFace_of_selects (args := #[]) (mvT hZ (own_h hw 47 rfl))) (mvT hZ (own_h hw 47 rfl)) (mvT hZ (own_h hw 46 rfl)) (by decide) (backOf (W := 0) (rm6 l Z aZ hw [] b117 w0_4 w0_5 (0:Int32) (0:Int32) T119.heap n0 Z138 G133 G134) hZ (own_h hw 48 rfl) (own_h hw 4 rfl) (by decide) (by decide)) q148a q148c (g := (mkF m 180 #[iv p0, iv p1, iv p2, iv p3, iv p4, iv w0_1, iv w0_2, iv w0_3, iv w0_4, iv w0_5, rv b115, rv b117, iv w0_6, iv (0:Int32), iv w0_7] [(.int w0_5), (.int w0_4), (.ref b117)])) rfl (by rw [hml]; rfl) (Steps.refl _) (argsL := [(.int w0_4), (.int w0_5)]) (rest := []) (lenOf own_pd3 rfl) rfl (by show 2 * 0 + _ ≤ _; exact Nat.le_of_eq rfl) (hb hby at_180) (fun _ _ => ⟨rfl, rfl, (by decide : 6 + 0 ≤ _), (by decide : 1494 + 0 ≤ _)⟩)
          dsimp only [Pt.U, Pt.locs, Pt.cells, Pt.slots] at X148 l148 y148 z148 st148 hQ148
          subst l148 y148 z148
          obtain ⟨rfl, N148q, eh148⟩ := hQ148
          have N148 := Fr.app N119 N148q
          refine own_pre (fun _ k => st148.trans k) ?_
          refine own_pre (A := T148.setTop (mkF m 185 #[iv p0, iv p1, iv p2, iv p3, iv p4, iv w0_1, iv w0_2, iv w0_3, iv w0_4, iv w0_5, rv b115, rv b117, iv w0_6, iv (0:Int32), iv w0_7] [(.int w0_7), (.int (f6 w0_4 w0_5 (0:Int32) (0:Int32)))])) (fun t k => ?_) ?_
          · show Steps p.tables e below (T148.setTop (mkF m 183 #[iv p0, iv p1, iv p2, iv p3, iv p4, iv w0_1, iv w0_2, iv w0_3, iv w0_4, iv w0_5, rv b115, rv b117, iv w0_6, iv (0:Int32), iv w0_7] [(.int (f6 w0_4 w0_5 (0:Int32) (0:Int32)))])) _
            refine XS.iload X148.here hx rfl (hb hby at_183) rfl ?_
            exact k
          obtain ⟨w0_8, hw0_8⟩ : ∃ z : Int32, z = (if (f6 w0_4 w0_5 (0:Int32) (0:Int32)) = w0_7 then (1:Int32) else (0:Int32)) := ⟨_, rfl⟩
          refine own_pre (A := T148.setTop (mkF m 193 #[iv p0, iv p1, iv p2, iv p3, iv p4, iv w0_1, iv w0_2, iv w0_3, iv w0_4, iv w0_5, rv b115, rv b117, iv w0_6, iv (0:Int32), iv w0_7] [(.int w0_8)])) (fun t k => ?_) ?_
          · show Steps p.tables e below (T148.setTop (mkF m 185 #[iv p0, iv p1, iv p2, iv p3, iv p4, iv w0_1, iv w0_2, iv w0_3, iv w0_4, iv w0_5, rv b115, rv b117, iv w0_6, iv (0:Int32), iv w0_7] [(.int w0_7), (.int (f6 w0_4 w0_5 (0:Int32) (0:Int32)))])) _
            by_cases hm185_13 : (f6 w0_4 w0_5 (0:Int32) (0:Int32)) = w0_7
            · refine XS.icmpNo X148.here hx rfl (hb hby at_185) rfl (XT.ii_ne_f hm185_13) ?_
              show Steps p.tables e below (T148.setTop (mkF m 188 #[iv p0, iv p1, iv p2, iv p3, iv p4, iv w0_1, iv w0_2, iv w0_3, iv w0_4, iv w0_5, rv b115, rv b117, iv w0_6, iv (0:Int32), iv w0_7] [])) _
              refine XS.iconst X148.here hx rfl (hb hby at_188) ?_
              show Steps p.tables e below (T148.setTop (mkF m 189 #[iv p0, iv p1, iv p2, iv p3, iv p4, iv w0_1, iv w0_2, iv w0_3, iv w0_4, iv w0_5, rv b115, rv b117, iv w0_6, iv (0:Int32), iv w0_7] [(.int (1:Int32))])) _
              refine XS.goto X148.here hx rfl (pc0 := 189) (pc' := 193) rfl (hb hby at_189) (by decide) (by decide) ?_
              rw [hw0_8.trans (if_pos hm185_13)] at k
              exact k
            · refine XS.icmpYes X148.here hx rfl (pc0 := 185) (pc' := 192) rfl (hb hby at_185) rfl (XT.ii_ne_t hm185_13) (by decide) (by decide) ?_
              show Steps p.tables e below (T148.setTop (mkF m 192 #[iv p0, iv p1, iv p2, iv p3, iv p4, iv w0_1, iv w0_2, iv w0_3, iv w0_4, iv w0_5, rv b115, rv b117, iv w0_6, iv (0:Int32), iv w0_7] [])) _
              refine XS.iconst X148.here hx rfl (hb hby at_192) ?_
              rw [hw0_8.trans (if_neg hm185_13)] at k
              exact k
          have hv150 : (w0_8 &&& 1) = f0 p0 p1 p2 p3 p4 := by subst hw0_1 hw0_2 hw0_3 hw0_4 hw0_5 hw0_6 hw0_7 hw0_8; simp only [f0, if_pos hs55_3, if_pos hs66_5, if_pos hs77_7, if_pos hs87_9]
          exact own_end X148 (BodyLoose.notSynchronized Bd) (fun h => by rw [Bd.returns] at h; cases h) (v := some (.int (w0_8 &&& 1))) (fun fs hr => retN X148 hx (t := .boolean) Bd.returns (by simp) (hb hby at_193) hr) (by show Q0 Z p0 p1 p2 p3 p4 h0 n0 _ T148.heap _; rw [eh148]; exact ⟨(congrArg (fun z => some (Value.int z)) hv150), N148⟩) (by decide) (by decide)
        · refine own_pre (A := T119.setTop (mkF m 97 #[iv p0, iv p1, iv p2, iv p3, iv p4, iv w0_1, iv w0_2, iv w0_3, iv w0_4, iv w0_5, rv b115, rv b117, .unset, .unset, .unset] [(.int w0_3), (.int (0:Int32)), (.ref b115), (.ref b117)])) (fun t k => ?_) ?_
          · show Steps p.tables e below (T119.setTop (mkF m 87 #[iv p0, iv p1, iv p2, iv p3, iv p4, iv w0_1, iv w0_2, iv w0_3, iv w0_4, iv w0_5, rv b115, rv b117, .unset, .unset, .unset] [(.int w0_2)])) _
            refine XS.ifNo X119.here hx rfl (hb hby at_87) rfl (XT.i0_eq_f hs87_9) ?_
            show Steps p.tables e below (T119.setTop (mkF m 90 #[iv p0, iv p1, iv p2, iv p3, iv p4, iv w0_1, iv w0_2, iv w0_3, iv w0_4, iv w0_5, rv b115, rv b117, .unset, .unset, .unset] [])) _
            refine XS.aload X119.here hx rfl (hb hby at_90) rfl rfl ?_
            show Steps p.tables e below (T119.setTop (mkF m 92 #[iv p0, iv p1, iv p2, iv p3, iv p4, iv w0_1, iv w0_2, iv w0_3, iv w0_4, iv w0_5, rv b115, rv b117, .unset, .unset, .unset] [(.ref b117)])) _
            refine XS.aload X119.here hx rfl (hb hby at_92) rfl rfl ?_
            show Steps p.tables e below (T119.setTop (mkF m 94 #[iv p0, iv p1, iv p2, iv p3, iv p4, iv w0_1, iv w0_2, iv w0_3, iv w0_4, iv w0_5, rv b115, rv b117, .unset, .unset, .unset] [(.ref b115), (.ref b117)])) _
            refine XS.iconst X119.here hx rfl (hb hby at_94) ?_
            show Steps p.tables e below (T119.setTop (mkF m 95 #[iv p0, iv p1, iv p2, iv p3, iv p4, iv w0_1, iv w0_2, iv w0_3, iv w0_4, iv w0_5, rv b115, rv b117, .unset, .unset, .unset] [(.int (0:Int32)), (.ref b115), (.ref b117)])) _
            refine XS.iload X119.here hx rfl (hb hby at_95) rfl ?_
            exact k
          have F152 := (A117.keep K119)
          have F153 := (F120.keep K119 (ninS ne_b115_b117 nin0))
          obtain ⟨cq151, kq151, q151a, q151b, q151c⟩ := isOf hZ rfl F152
          obtain ⟨_, _, ⟨T151, L151, k151, n151⟩, -, X151, ⟨Lc151, hQ151, l151, y151, z151⟩, st151⟩ := X119.virtualBack hx (y := (⟨"com/example/fanout4/fanout4/xdm/RecordedEvents", "text", "([CII)V"⟩ : MethodName)) (z := (⟨"com/example/fanout4/fanout4/xdm/RecordedEvents", "text", "([CII)V"⟩ : MethodName)) hown (mvT hZ (own_h hw 23 rfl)) (mvT hZ (own_h hw 24 rfl)) (notFace_of_selects (args := #[]) (mvT hZ (own_h hw 26 rfl))) (mvT hZ (own_h hw 26 rfl)) (mvT hZ (own_h hw 25 rfl)) (by decide) (backOf (W := 0) (rm3 l Z aZ hw [] b117 b115 w0_3 kd_121 nb_122 ch_123 (List.replicate 64 (0:Int32)) (0:Int32) (List.replicate 128 (0:Int32)) (List.replicate 1024 (0:Int32)) [(0:Int32), (0:Int32), (0:Int32), (0:Int32), (0:Int32), (0:Int32), (0:Int32), (0:Int32), (0:Int32), (0:Int32), (0:Int32), (0:Int32), (0:Int32), (0:Int32), (0:Int32), (0:Int32)] T119.heap n0 Z138 F152 G130 G131 G132 G133 G134 G135 G136 G137 F153 ne140 ne143 ne146 ne127 ne128 ne129 ne_b115_b117 ne139 ne142 ne145 ge_b117 ge141 ge144 ge147 (by first | (simp; done) | decide +kernel) (by decide) (by first | (simp; done) | decide +kernel) (by first | (simp; done) | decide +kernel) rfl (own_l15 hw0_3)) hZ (own_h hw 27 rfl) (own_h hw 4 rfl) (by decide) (by decide)) q151a q151c (g := (mkF m 97 #[iv p0, iv p1, iv p2, iv p3, iv p4, iv w0_1, iv w0_2, iv w0_3, iv w0_4, iv w0_5, rv b115, rv b117, .unset, .unset, .unset] [(.int w0_3), (.int (0:Int32)), (.ref b115), (.ref b117)])) rfl (by rw [hml]; rfl) (Steps.refl _) (argsL := [(.ref b115), (.int (0:Int32)), (.int w0_3)]) (rest := []) (lenOf own_pd4 rfl) rfl (by show 2 * 0 + _ ≤ _; exact Nat.le_of_eq rfl) (hb hby at_97) (fun _ _ => ⟨rfl, rfl, (by decide : 6 + 0 ≤ _), (by decide : 1494 + 0 ≤ _)⟩)
          dsimp only [Pt.U, Pt.locs, Pt.cells, Pt.slots] at X151 l151 y151 z151 st151 hQ151
          subst l151 y151 z151
          obtain ⟨rfl, N151q, K151, G154, G155⟩ := hQ151
          have N151 := Fr.app N119 N151q
          have Z156 : n0 ≤ T151.heap.size := Nat.le_trans Z138 K151.1
          have G157 : Fld Z T151.heap b117 "com/example/fanout4/fanout4/xdm/RecordedEvents" "size" "I" (.int (1:Int32)) := G154
          refine own_pre (fun _ k => st151.trans k) ?_
          obtain ⟨w0_9, hw0_9⟩ : ∃ z : Int32, z = (w0_1 + (1:Int32)) := ⟨_, rfl⟩
          refine own_pre (A := T151.setTop (mkF m 130 #[iv p0, iv p1, iv p2, iv p3, iv p4, iv w0_1, iv w0_2, iv w0_3, iv w0_4, iv w0_5, rv b115, rv b117, iv w0_9, iv w0_3, .unset] [(.int w0_9)])) (fun t k => ?_) ?_
          · show Steps p.tables e below (T151.setTop (mkF m 100 #[iv p0, iv p1, iv p2, iv p3, iv p4, iv w0_1, iv w0_2, iv w0_3, iv w0_4, iv w0_5, rv b115, rv b117, .unset, .unset, .unset] [])) _
            refine XS.iload X151.here hx rfl (hb hby at_100) rfl ?_
            show Steps p.tables e below (T151.setTop (mkF m 102 #[iv p0, iv p1, iv p2, iv p3, iv p4, iv w0_1, iv w0_2, iv w0_3, iv w0_4, iv w0_5, rv b115, rv b117, .unset, .unset, .unset] [(.int w0_1)])) _
            refine XS.iload X151.here hx rfl (hb hby at_102) rfl ?_
            show Steps p.tables e below (T151.setTop (mkF m 104 #[iv p0, iv p1, iv p2, iv p3, iv p4, iv w0_1, iv w0_2, iv w0_3, iv w0_4, iv w0_5, rv b115, rv b117, .unset, .unset, .unset] [(.int w0_2), (.int w0_1)])) _
            refine XS.ifNo X151.here hx rfl (hb hby at_104) rfl (XT.i0_eq_f hs87_9) ?_
            show Steps p.tables e below (T151.setTop (mkF m 107 #[iv p0, iv p1, iv p2, iv p3, iv p4, iv w0_1, iv w0_2, iv w0_3, iv w0_4, iv w0_5, rv b115, rv b117, .unset, .unset, .unset] [(.int w0_1)])) _
            refine XS.iconst X151.here hx rfl (hb hby at_107) ?_
            show Steps p.tables e below (T151.setTop (mkF m 108 #[iv p0, iv p1, iv p2, iv p3, iv p4, iv w0_1, iv w0_2, iv w0_3, iv w0_4, iv w0_5, rv b115, rv b117, .unset, .unset, .unset] [(.int (1:Int32)), (.int w0_1)])) _
            refine XS.goto X151.here hx rfl (pc0 := 108) (pc' := 112) rfl (hb hby at_108) (by decide) (by decide) ?_
            show Steps p.tables e below (T151.setTop (mkF m 112 #[iv p0, iv p1, iv p2, iv p3, iv p4, iv w0_1, iv w0_2, iv w0_3, iv w0_4, iv w0_5, rv b115, rv b117, .unset, .unset, .unset] [(.int (1:Int32)), (.int w0_1)])) _
            refine XS.iadd X151.here hx rfl (hb hby at_112) rfl ?_
            show Steps p.tables e below (T151.setTop (mkF m 113 #[iv p0, iv p1, iv p2, iv p3, iv p4, iv w0_1, iv w0_2, iv w0_3, iv w0_4, iv w0_5, rv b115, rv b117, .unset, .unset, .unset] [(.int (w0_1 + (1:Int32)))])) _
            refine XS.istore X151.here hx rfl (hb hby at_113) rfl (l' := #[iv p0, iv p1, iv p2, iv p3, iv p4, iv w0_1, iv w0_2, iv w0_3, iv w0_4, iv w0_5, rv b115, rv b117, iv w0_9, .unset, .unset]) (by rw [hw0_9]; rfl) ?_
            show Steps p.tables e below (T151.setTop (mkF m 115 #[iv p0, iv p1, iv p2, iv p3, iv p4, iv w0_1, iv w0_2, iv w0_3, iv w0_4, iv w0_5, rv b115, rv b117, iv w0_9, .unset, .unset] [])) _
            refine XS.iload X151.here hx rfl (hb hby at_115) rfl ?_
            show Steps p.tables e below (T151.setTop (mkF m 117 #[iv p0, iv p1, iv p2, iv p3, iv p4, iv w0_1, iv w0_2, iv w0_3, iv w0_4, iv w0_5, rv b115, rv b117, iv w0_9, .unset, .unset] [(.int w0_2)])) _
            refine XS.ifNo X151.here hx rfl (hb hby at_117) rfl (XT.i0_eq_f hs87_9) ?_
            show Steps p.tables e below (T151.setTop (mkF m 120 #[iv p0, iv p1, iv p2, iv p3, iv p4, iv w0_1, iv w0_2, iv w0_3, iv w0_4, iv w0_5, rv b115, rv b117, iv w0_9, .unset, .unset] [])) _
            refine XS.iload X151.here hx rfl (hb hby at_120) rfl ?_
            show Steps p.tables e below (T151.setTop (mkF m 122 #[iv p0, iv p1, iv p2, iv p3, iv p4, iv w0_1, iv w0_2, iv w0_3, iv w0_4, iv w0_5, rv b115, rv b117, iv w0_9, .unset, .unset] [(.int w0_3)])) _
            refine XS.goto X151.here hx rfl (pc0 := 122) (pc' := 126) rfl (hb hby at_122) (by decide) (by decide) ?_
            show Steps p.tables e below (T151.setTop (mkF m 126 #[iv p0, iv p1, iv p2, iv p3, iv p4, iv w0_1, iv w0_2, iv w0_3, iv w0_4, iv w0_5, rv b115, rv b117, iv w0_9, .unset, .unset] [(.int w0_3)])) _
            refine XS.istore X151.here hx rfl (hb hby at_126) rfl (l' := #[iv p0, iv p1, iv p2, iv p3, iv p4, iv w0_1, iv w0_2, iv w0_3, iv w0_4, iv w0_5, rv b115, rv b117, iv w0_9, iv w0_3, .unset]) rfl ?_
            show Steps p.tables e below (T151.setTop (mkF m 128 #[iv p0, iv p1, iv p2, iv p3, iv p4, iv w0_1, iv w0_2, iv w0_3, iv w0_4, iv w0_5, rv b115, rv b117, iv w0_9, iv w0_3, .unset] [])) _
            refine XS.iload X151.here hx rfl (hb hby at_128) rfl ?_
            exact k
          obtain ⟨w0_10, hw0_10⟩ : ∃ z : Int32, z = (if w0_9 = (0:Int32) then (0:Int32) else (if (w0_9 + w0_4) < (1025:Int32) then (if (w0_3 + w0_5) < (16385:Int32) then (0:Int32) else (1:Int32)) else (1:Int32))) := ⟨_, rfl⟩
          refine own_pre (A := T151.setTop (mkF m 174 #[iv p0, iv p1, iv p2, iv p3, iv p4, iv w0_1, iv w0_2, iv w0_3, iv w0_4, iv w0_5, rv b115, rv b117, iv w0_9, iv w0_3, iv w0_10] [])) (fun t k => ?_) ?_
          · show Steps p.tables e below (T151.setTop (mkF m 130 #[iv p0, iv p1, iv p2, iv p3, iv p4, iv w0_1, iv w0_2, iv w0_3, iv w0_4, iv w0_5, rv b115, rv b117, iv w0_9, iv w0_3, .unset] [(.int w0_9)])) _
            by_cases hm130_14 : w0_9 = (0:Int32)
            · refine XS.ifNo X151.here hx rfl (hb hby at_130) rfl (XT.i0_ne_f hm130_14) ?_
              show Steps p.tables e below (T151.setTop (mkF m 133 #[iv p0, iv p1, iv p2, iv p3, iv p4, iv w0_1, iv w0_2, iv w0_3, iv w0_4, iv w0_5, rv b115, rv b117, iv w0_9, iv w0_3, .unset] [])) _
              refine XS.iconst X151.here hx rfl (hb hby at_133) ?_
              show Steps p.tables e below (T151.setTop (mkF m 134 #[iv p0, iv p1, iv p2, iv p3, iv p4, iv w0_1, iv w0_2, iv w0_3, iv w0_4, iv w0_5, rv b115, rv b117, iv w0_9, iv w0_3, .unset] [(.int (0:Int32))])) _
              refine XS.istore X151.here hx rfl (hb hby at_134) rfl (l' := #[iv p0, iv p1, iv p2, iv p3, iv p4, iv w0_1, iv w0_2, iv w0_3, iv w0_4, iv w0_5, rv b115, rv b117, iv w0_9, iv w0_3, iv (0:Int32)]) rfl ?_
              show Steps p.tables e below (T151.setTop (mkF m 136 #[iv p0, iv p1, iv p2, iv p3, iv p4, iv w0_1, iv w0_2, iv w0_3, iv w0_4, iv w0_5, rv b115, rv b117, iv w0_9, iv w0_3, iv (0:Int32)] [])) _
              refine XS.goto X151.here hx rfl (pc0 := 136) (pc' := 174) rfl (hb hby at_136) (by decide) (by decide) ?_
              rw [hw0_10.trans (if_pos hm130_14)] at k
              exact k
            · refine XS.ifYes X151.here hx rfl (pc0 := 130) (pc' := 139) rfl (hb hby at_130) rfl (XT.i0_ne_t hm130_14) (by decide) (by decide) ?_
              show Steps p.tables e below (T151.setTop (mkF m 139 #[iv p0, iv p1, iv p2, iv p3, iv p4, iv w0_1, iv w0_2, iv w0_3, iv w0_4, iv w0_5, rv b115, rv b117, iv w0_9, iv w0_3, .unset] [])) _
              refine XS.iload X151.here hx rfl (hb hby at_139) rfl ?_
              show Steps p.tables e below (T151.setTop (mkF m 141 #[iv p0, iv p1, iv p2, iv p3, iv p4, iv w0_1, iv w0_2, iv w0_3, iv w0_4, iv w0_5, rv b115, rv b117, iv w0_9, iv w0_3, .unset] [(.int w0_9)])) _
              refine XS.iload X151.here hx rfl (hb hby at_141) rfl ?_
              show Steps p.tables e below (T151.setTop (mkF m 143 #[iv p0, iv p1, iv p2, iv p3, iv p4, iv w0_1, iv w0_2, iv w0_3, iv w0_4, iv w0_5, rv b115, rv b117, iv w0_9, iv w0_3, .unset] [(.int w0_4), (.int w0_9)])) _
              refine XS.iadd X151.here hx rfl (hb hby at_143) rfl ?_
              show Steps p.tables e below (T151.setTop (mkF m 144 #[iv p0, iv p1, iv p2, iv p3, iv p4, iv w0_1, iv w0_2, iv w0_3, iv w0_4, iv w0_5, rv b115, rv b117, iv w0_9, iv w0_3, .unset] [(.int (w0_9 + w0_4))])) _
              refine XS.sipush X151.here hx rfl (hb hby at_144) ?_
              show Steps p.tables e below (T151.setTop (mkF m 147 #[iv p0, iv p1, iv p2, iv p3, iv p4, iv w0_1, iv w0_2, iv w0_3, iv w0_4, iv w0_5, rv b115, rv b117, iv w0_9, iv w0_3, .unset] [(.int (1025:Int32)), (.int (w0_9 + w0_4))])) _
              by_cases hm147_15 : (w0_9 + w0_4) < (1025:Int32)
              · refine XS.icmpYes X151.here hx rfl (pc0 := 147) (pc' := 156) rfl (hb hby at_147) rfl (XT.ii_lt_t hm147_15) (by decide) (by decide) ?_
                show Steps p.tables e below (T151.setTop (mkF m 156 #[iv p0, iv p1, iv p2, iv p3, iv p4, iv w0_1, iv w0_2, iv w0_3, iv w0_4, iv w0_5, rv b115, rv b117, iv w0_9, iv w0_3, .unset] [])) _
                refine XS.iload X151.here hx rfl (hb hby at_156) rfl ?_
                show Steps p.tables e below (T151.setTop (mkF m 158 #[iv p0, iv p1, iv p2, iv p3, iv p4, iv w0_1, iv w0_2, iv w0_3, iv w0_4, iv w0_5, rv b115, rv b117, iv w0_9, iv w0_3, .unset] [(.int w0_3)])) _
                refine XS.iload X151.here hx rfl (hb hby at_158) rfl ?_
                show Steps p.tables e below (T151.setTop (mkF m 160 #[iv p0, iv p1, iv p2, iv p3, iv p4, iv w0_1, iv w0_2, iv w0_3, iv w0_4, iv w0_5, rv b115, rv b117, iv w0_9, iv w0_3, .unset] [(.int w0_5), (.int w0_3)])) _
                refine XS.iadd X151.here hx rfl (hb hby at_160) rfl ?_
                show Steps p.tables e below (T151.setTop (mkF m 161 #[iv p0, iv p1, iv p2, iv p3, iv p4, iv w0_1, iv w0_2, iv w0_3, iv w0_4, iv w0_5, rv b115, rv b117, iv w0_9, iv w0_3, .unset] [(.int (w0_3 + w0_5))])) _
                refine XS.sipush X151.here hx rfl (hb hby at_161) ?_
                show Steps p.tables e below (T151.setTop (mkF m 164 #[iv p0, iv p1, iv p2, iv p3, iv p4, iv w0_1, iv w0_2, iv w0_3, iv w0_4, iv w0_5, rv b115, rv b117, iv w0_9, iv w0_3, .unset] [(.int (16385:Int32)), (.int (w0_3 + w0_5))])) _
                by_cases hm164_16 : (w0_3 + w0_5) < (16385:Int32)
                · refine XS.icmpYes X151.here hx rfl (pc0 := 164) (pc' := 171) rfl (hb hby at_164) rfl (XT.ii_lt_t hm164_16) (by decide) (by decide) ?_
                  show Steps p.tables e below (T151.setTop (mkF m 171 #[iv p0, iv p1, iv p2, iv p3, iv p4, iv w0_1, iv w0_2, iv w0_3, iv w0_4, iv w0_5, rv b115, rv b117, iv w0_9, iv w0_3, .unset] [])) _
                  refine XS.iconst X151.here hx rfl (hb hby at_171) ?_
                  show Steps p.tables e below (T151.setTop (mkF m 172 #[iv p0, iv p1, iv p2, iv p3, iv p4, iv w0_1, iv w0_2, iv w0_3, iv w0_4, iv w0_5, rv b115, rv b117, iv w0_9, iv w0_3, .unset] [(.int (0:Int32))])) _
                  refine XS.istore X151.here hx rfl (hb hby at_172) rfl (l' := #[iv p0, iv p1, iv p2, iv p3, iv p4, iv w0_1, iv w0_2, iv w0_3, iv w0_4, iv w0_5, rv b115, rv b117, iv w0_9, iv w0_3, iv (0:Int32)]) rfl ?_
                  rw [hw0_10.trans (((if_neg hm130_14).trans (if_pos hm147_15)).trans (if_pos hm164_16))] at k
                  exact k
                · refine XS.icmpNo X151.here hx rfl (hb hby at_164) rfl (XT.ii_lt_f hm164_16) ?_
                  show Steps p.tables e below (T151.setTop (mkF m 167 #[iv p0, iv p1, iv p2, iv p3, iv p4, iv w0_1, iv w0_2, iv w0_3, iv w0_4, iv w0_5, rv b115, rv b117, iv w0_9, iv w0_3, .unset] [])) _
                  refine XS.iconst X151.here hx rfl (hb hby at_167) ?_
                  show Steps p.tables e below (T151.setTop (mkF m 168 #[iv p0, iv p1, iv p2, iv p3, iv p4, iv w0_1, iv w0_2, iv w0_3, iv w0_4, iv w0_5, rv b115, rv b117, iv w0_9, iv w0_3, .unset] [(.int (1:Int32))])) _
                  refine XS.goto X151.here hx rfl (pc0 := 168) (pc' := 172) rfl (hb hby at_168) (by decide) (by decide) ?_
                  show Steps p.tables e below (T151.setTop (mkF m 172 #[iv p0, iv p1, iv p2, iv p3, iv p4, iv w0_1, iv w0_2, iv w0_3, iv w0_4, iv w0_5, rv b115, rv b117, iv w0_9, iv w0_3, .unset] [(.int (1:Int32))])) _
                  refine XS.istore X151.here hx rfl (hb hby at_172) rfl (l' := #[iv p0, iv p1, iv p2, iv p3, iv p4, iv w0_1, iv w0_2, iv w0_3, iv w0_4, iv w0_5, rv b115, rv b117, iv w0_9, iv w0_3, iv (1:Int32)]) rfl ?_
                  rw [hw0_10.trans (((if_neg hm130_14).trans (if_pos hm147_15)).trans (if_neg hm164_16))] at k
                  exact k
              · refine XS.icmpNo X151.here hx rfl (hb hby at_147) rfl (XT.ii_lt_f hm147_15) ?_
                show Steps p.tables e below (T151.setTop (mkF m 150 #[iv p0, iv p1, iv p2, iv p3, iv p4, iv w0_1, iv w0_2, iv w0_3, iv w0_4, iv w0_5, rv b115, rv b117, iv w0_9, iv w0_3, .unset] [])) _
                refine XS.iconst X151.here hx rfl (hb hby at_150) ?_
                show Steps p.tables e below (T151.setTop (mkF m 151 #[iv p0, iv p1, iv p2, iv p3, iv p4, iv w0_1, iv w0_2, iv w0_3, iv w0_4, iv w0_5, rv b115, rv b117, iv w0_9, iv w0_3, .unset] [(.int (1:Int32))])) _
                refine XS.istore X151.here hx rfl (hb hby at_151) rfl (l' := #[iv p0, iv p1, iv p2, iv p3, iv p4, iv w0_1, iv w0_2, iv w0_3, iv w0_4, iv w0_5, rv b115, rv b117, iv w0_9, iv w0_3, iv (1:Int32)]) rfl ?_
                show Steps p.tables e below (T151.setTop (mkF m 153 #[iv p0, iv p1, iv p2, iv p3, iv p4, iv w0_1, iv w0_2, iv w0_3, iv w0_4, iv w0_5, rv b115, rv b117, iv w0_9, iv w0_3, iv (1:Int32)] [])) _
                refine XS.goto X151.here hx rfl (pc0 := 153) (pc' := 174) rfl (hb hby at_153) (by decide) (by decide) ?_
                rw [hw0_10.trans ((if_neg hm130_14).trans (if_neg hm147_15))] at k
                exact k
          refine own_pre (A := T151.setTop (mkF m 180 #[iv p0, iv p1, iv p2, iv p3, iv p4, iv w0_1, iv w0_2, iv w0_3, iv w0_4, iv w0_5, rv b115, rv b117, iv w0_9, iv w0_3, iv w0_10] [(.int w0_5), (.int w0_4), (.ref b117)])) (fun t k => ?_) ?_
          · show Steps p.tables e below (T151.setTop (mkF m 174 #[iv p0, iv p1, iv p2, iv p3, iv p4, iv w0_1, iv w0_2, iv w0_3, iv w0_4, iv w0_5, rv b115, rv b117, iv w0_9, iv w0_3, iv w0_10] [])) _
            refine XS.aload X151.here hx rfl (hb hby at_174) rfl rfl ?_
            show Steps p.tables e below (T151.setTop (mkF m 176 #[iv p0, iv p1, iv p2, iv p3, iv p4, iv w0_1, iv w0_2, iv w0_3, iv w0_4, iv w0_5, rv b115, rv b117, iv w0_9, iv w0_3, iv w0_10] [(.ref b117)])) _
            refine XS.iload X151.here hx rfl (hb hby at_176) rfl ?_
            show Steps p.tables e below (T151.setTop (mkF m 178 #[iv p0, iv p1, iv p2, iv p3, iv p4, iv w0_1, iv w0_2, iv w0_3, iv w0_4, iv w0_5, rv b115, rv b117, iv w0_9, iv w0_3, iv w0_10] [(.int w0_4), (.ref b117)])) _
            refine XS.iload X151.here hx rfl (hb hby at_178) rfl ?_
            exact k
          have F159 := (F152.keep K151)
          obtain ⟨cq158, kq158, q158a, q158b, q158c⟩ := isOf hZ rfl F159
          obtain ⟨_, _, ⟨T158, L158, k158, n158⟩, -, X158, ⟨Lc158, hQ158, l158, y158, z158⟩, st158⟩ := X151.virtualBack hx (y := (⟨"com/example/fanout4/fanout4/xdm/RecordedEvents", "isFullFor", "(II)Z"⟩ : MethodName)) (z := (⟨"com/example/fanout4/fanout4/xdm/RecordedEvents", "isFullFor", "(II)Z"⟩ : MethodName)) hown (mvT hZ (own_h hw 44 rfl)) (mvT hZ (own_h hw 45 rfl)) (notFace_of_selects (args := #[]) (mvT hZ (own_h hw 47 rfl))) (mvT hZ (own_h hw 47 rfl)) (mvT hZ (own_h hw 46 rfl)) (by decide) (backOf (W := 0) (rm6 l Z aZ hw [] b117 w0_4 w0_5 (1:Int32) ((0:Int32) + w0_3) T151.heap n0 Z156 G157 G155) hZ (own_h hw 48 rfl) (own_h hw 4 rfl) (by decide) (by decide)) q158a q158c (g := (mkF m 180 #[iv p0, iv p1, iv p2, iv p3, iv p4, iv w0_1, iv w0_2, iv w0_3, iv w0_4, iv w0_5, rv b115, rv b117, iv w0_9, iv w0_3, iv w0_10] [(.int w0_5), (.int w0_4), (.ref b117)])) rfl (by rw [hml]; rfl) (Steps.refl _) (argsL := [(.int w0_4), (.int w0_5)]) (rest := []) (lenOf own_pd3 rfl) rfl (by show 2 * 0 + _ ≤ _; exact Nat.le_of_eq rfl) (hb hby at_180) (fun _ _ => ⟨rfl, rfl, (by decide : 6 + 0 ≤ _), (by decide : 1494 + 0 ≤ _)⟩)
          dsimp only [Pt.U, Pt.locs, Pt.cells, Pt.slots] at X158 l158 y158 z158 st158 hQ158
          subst l158 y158 z158
          obtain ⟨rfl, N158q, eh158⟩ := hQ158
          have N158 := Fr.app N151 N158q
          refine own_pre (fun _ k => st158.trans k) ?_
          refine own_pre (A := T158.setTop (mkF m 185 #[iv p0, iv p1, iv p2, iv p3, iv p4, iv w0_1, iv w0_2, iv w0_3, iv w0_4, iv w0_5, rv b115, rv b117, iv w0_9, iv w0_3, iv w0_10] [(.int w0_10), (.int (f6 w0_4 w0_5 (1:Int32) ((0:Int32) + w0_3)))])) (fun t k => ?_) ?_
          · show Steps p.tables e below (T158.setTop (mkF m 183 #[iv p0, iv p1, iv p2, iv p3, iv p4, iv w0_1, iv w0_2, iv w0_3, iv w0_4, iv w0_5, rv b115, rv b117, iv w0_9, iv w0_3, iv w0_10] [(.int (f6 w0_4 w0_5 (1:Int32) ((0:Int32) + w0_3)))])) _
            refine XS.iload X158.here hx rfl (hb hby at_183) rfl ?_
            exact k
          obtain ⟨w0_11, hw0_11⟩ : ∃ z : Int32, z = (if (f6 w0_4 w0_5 (1:Int32) ((0:Int32) + w0_3)) = w0_10 then (1:Int32) else (0:Int32)) := ⟨_, rfl⟩
          refine own_pre (A := T158.setTop (mkF m 193 #[iv p0, iv p1, iv p2, iv p3, iv p4, iv w0_1, iv w0_2, iv w0_3, iv w0_4, iv w0_5, rv b115, rv b117, iv w0_9, iv w0_3, iv w0_10] [(.int w0_11)])) (fun t k => ?_) ?_
          · show Steps p.tables e below (T158.setTop (mkF m 185 #[iv p0, iv p1, iv p2, iv p3, iv p4, iv w0_1, iv w0_2, iv w0_3, iv w0_4, iv w0_5, rv b115, rv b117, iv w0_9, iv w0_3, iv w0_10] [(.int w0_10), (.int (f6 w0_4 w0_5 (1:Int32) ((0:Int32) + w0_3)))])) _
            by_cases hm185_17 : (f6 w0_4 w0_5 (1:Int32) ((0:Int32) + w0_3)) = w0_10
            · refine XS.icmpNo X158.here hx rfl (hb hby at_185) rfl (XT.ii_ne_f hm185_17) ?_
              show Steps p.tables e below (T158.setTop (mkF m 188 #[iv p0, iv p1, iv p2, iv p3, iv p4, iv w0_1, iv w0_2, iv w0_3, iv w0_4, iv w0_5, rv b115, rv b117, iv w0_9, iv w0_3, iv w0_10] [])) _
              refine XS.iconst X158.here hx rfl (hb hby at_188) ?_
              show Steps p.tables e below (T158.setTop (mkF m 189 #[iv p0, iv p1, iv p2, iv p3, iv p4, iv w0_1, iv w0_2, iv w0_3, iv w0_4, iv w0_5, rv b115, rv b117, iv w0_9, iv w0_3, iv w0_10] [(.int (1:Int32))])) _
              refine XS.goto X158.here hx rfl (pc0 := 189) (pc' := 193) rfl (hb hby at_189) (by decide) (by decide) ?_
              rw [hw0_11.trans (if_pos hm185_17)] at k
              exact k
            · refine XS.icmpYes X158.here hx rfl (pc0 := 185) (pc' := 192) rfl (hb hby at_185) rfl (XT.ii_ne_t hm185_17) (by decide) (by decide) ?_
              show Steps p.tables e below (T158.setTop (mkF m 192 #[iv p0, iv p1, iv p2, iv p3, iv p4, iv w0_1, iv w0_2, iv w0_3, iv w0_4, iv w0_5, rv b115, rv b117, iv w0_9, iv w0_3, iv w0_10] [])) _
              refine XS.iconst X158.here hx rfl (hb hby at_192) ?_
              rw [hw0_11.trans (if_neg hm185_17)] at k
              exact k
          have hv160 : (w0_11 &&& 1) = f0 p0 p1 p2 p3 p4 := by subst hw0_1 hw0_2 hw0_3 hw0_4 hw0_5 hw0_9 hw0_10 hw0_11; simp only [f0, if_pos hs55_3, if_pos hs66_5, if_pos hs77_7, if_neg hs87_9]
          exact own_end X158 (BodyLoose.notSynchronized Bd) (fun h => by rw [Bd.returns] at h; cases h) (v := some (.int (w0_11 &&& 1))) (fun fs hr => retN X158 hx (t := .boolean) Bd.returns (by simp) (hb hby at_193) hr) (by show Q0 Z p0 p1 p2 p3 p4 h0 n0 _ T158.heap _; rw [eh158]; exact ⟨(congrArg (fun z => some (Value.int z)) hv160), N158⟩) (by decide) (by decide)
      · refine own_pre (A := T119.setTop (mkF m 82 #[iv p0, iv p1, iv p2, iv p3, iv p4, iv w0_1, iv w0_2, iv w0_3, iv w0_4, iv w0_5, rv b115, rv b117, .unset, .unset, .unset] [(.ref b117)])) (fun t k => ?_) ?_
        · show Steps p.tables e below (T119.setTop (mkF m 77 #[iv p0, iv p1, iv p2, iv p3, iv p4, iv w0_1, iv w0_2, iv w0_3, iv w0_4, iv w0_5, rv b115, rv b117, .unset, .unset, .unset] [(.int (3:Int32)), (.int w0_1)])) _
          refine XS.icmpNo X119.here hx rfl (hb hby at_77) rfl (XT.ii_lt_f hs77_7) ?_
          show Steps p.tables e below (T119.setTop (mkF m 80 #[iv p0, iv p1, iv p2, iv p3, iv p4, iv w0_1, iv w0_2, iv w0_3, iv w0_4, iv w0_5, rv b115, rv b117, .unset, .unset, .unset] [])) _
          refine XS.aload X119.here hx rfl (hb hby at_80) rfl rfl ?_
          exact k
        have F162 := (A117.keep K119)
        obtain ⟨cq161, kq161, q161a, q161b, q161c⟩ := isOf hZ rfl F162
        obtain ⟨_, _, ⟨T161, L161, k161, n161⟩, -, X161, ⟨Lc161, hQ161, l161, y161, z161⟩, st161⟩ := X119.virtualBack hx (y := (⟨"com/example/fanout4/fanout4/xdm/RecordedEvents", "endTag", "()V"⟩ : MethodName)) (z := (⟨"com/example/fanout4/fanout4/xdm/RecordedEvents", "endTag", "()V"⟩ : MethodName)) hown (mvT hZ (own_h hw 49 rfl)) (mvT hZ (own_h hw 50 rfl)) (notFace_of_selects (args := #[]) (mvT hZ (own_h hw 52 rfl))) (mvT hZ (own_h hw 52 rfl)) (mvT hZ (own_h hw 51 rfl)) (by decide) (backOf (W := 0) (rm7 l Z aZ hw [] b117 kd_121 nb_122 ch_123 (List.replicate 64 (0:Int32)) (0:Int32) (0:Int32) T119.heap n0 Z138 F162 G130 G131 G132 G133 G134 G135 ne140 ge_b117 ge141 (by first | (simp; done) | decide +kernel) (by decide)) hZ (own_h hw 53 rfl) (own_h hw 4 rfl) (by decide) (by decide)) q161a q161c (g := (mkF m 82 #[iv p0, iv p1, iv p2, iv p3, iv p4, iv w0_1, iv w0_2, iv w0_3, iv w0_4, iv w0_5, rv b115, rv b117, .unset, .unset, .unset] [(.ref b117)])) rfl (by rw [hml]; rfl) (Steps.refl _) (argsL := []) (rest := []) (lenOf own_pd2 rfl) rfl (by show 2 * 0 + _ ≤ _; exact Nat.le_of_eq rfl) (hb hby at_82) (fun _ _ => ⟨rfl, rfl, (by decide : 6 + 0 ≤ _), (by decide : 1494 + 0 ≤ _)⟩)
        dsimp only [Pt.U, Pt.locs, Pt.cells, Pt.slots] at X161 l161 y161 z161 st161 hQ161
        subst l161 y161 z161
        obtain ⟨rfl, N161q, K161, G163, G164, G165, G166, G167, G168⟩ := hQ161
        have N161 := Fr.app N119 N161q
        have Z169 : n0 ≤ T161.heap.size := Nat.le_trans Z138 K161.1
        have G170 : Fld Z T161.heap b117 "com/example/fanout4/fanout4/xdm/RecordedEvents" "size" "I" (.int (1:Int32)) := G166
        have G172 : own_Bytes Z T161.heap kd_121 own_v171 := G168
        refine own_pre (fun _ k => st161.trans k) ?_
        refine own_pre (A := T161.setTop (mkF m 87 #[iv p0, iv p1, iv p2, iv p3, iv p4, iv w0_1, iv w0_2, iv w0_3, iv w0_4, iv w0_5, rv b115, rv b117, .unset, .unset, .unset] [(.int w0_2)])) (fun t k => ?_) ?_
        · show Steps p.tables e below (T161.setTop (mkF m 85 #[iv p0, iv p1, iv p2, iv p3, iv p4, iv w0_1, iv w0_2, iv w0_3, iv w0_4, iv w0_5, rv b115, rv b117, .unset, .unset, .unset] [])) _
          refine XS.iload X161.here hx rfl (hb hby at_85) rfl ?_
          exact k
        by_cases hs87_19 : w0_2 = (0:Int32)
        · obtain ⟨w0_12, hw0_12⟩ : ∃ z : Int32, z = (w0_1 + (0:Int32)) := ⟨_, rfl⟩
          refine own_pre (A := T161.setTop (mkF m 130 #[iv p0, iv p1, iv p2, iv p3, iv p4, iv w0_1, iv w0_2, iv w0_3, iv w0_4, iv w0_5, rv b115, rv b117, iv w0_12, iv (0:Int32), .unset] [(.int w0_12)])) (fun t k => ?_) ?_
          · show Steps p.tables e below (T161.setTop (mkF m 87 #[iv p0, iv p1, iv p2, iv p3, iv p4, iv w0_1, iv w0_2, iv w0_3, iv w0_4, iv w0_5, rv b115, rv b117, .unset, .unset, .unset] [(.int w0_2)])) _
            refine XS.ifYes X161.here hx rfl (pc0 := 87) (pc' := 100) rfl (hb hby at_87) rfl (XT.i0_eq_t hs87_19) (by decide) (by decide) ?_
            show Steps p.tables e below (T161.setTop (mkF m 100 #[iv p0, iv p1, iv p2, iv p3, iv p4, iv w0_1, iv w0_2, iv w0_3, iv w0_4, iv w0_5, rv b115, rv b117, .unset, .unset, .unset] [])) _
            refine XS.iload X161.here hx rfl (hb hby at_100) rfl ?_
            show Steps p.tables e below (T161.setTop (mkF m 102 #[iv p0, iv p1, iv p2, iv p3, iv p4, iv w0_1, iv w0_2, iv w0_3, iv w0_4, iv w0_5, rv b115, rv b117, .unset, .unset, .unset] [(.int w0_1)])) _
            refine XS.iload X161.here hx rfl (hb hby at_102) rfl ?_
            show Steps p.tables e below (T161.setTop (mkF m 104 #[iv p0, iv p1, iv p2, iv p3, iv p4, iv w0_1, iv w0_2, iv w0_3, iv w0_4, iv w0_5, rv b115, rv b117, .unset, .unset, .unset] [(.int w0_2), (.int w0_1)])) _
            refine XS.ifYes X161.here hx rfl (pc0 := 104) (pc' := 111) rfl (hb hby at_104) rfl (XT.i0_eq_t hs87_19) (by decide) (by decide) ?_
            show Steps p.tables e below (T161.setTop (mkF m 111 #[iv p0, iv p1, iv p2, iv p3, iv p4, iv w0_1, iv w0_2, iv w0_3, iv w0_4, iv w0_5, rv b115, rv b117, .unset, .unset, .unset] [(.int w0_1)])) _
            refine XS.iconst X161.here hx rfl (hb hby at_111) ?_
            show Steps p.tables e below (T161.setTop (mkF m 112 #[iv p0, iv p1, iv p2, iv p3, iv p4, iv w0_1, iv w0_2, iv w0_3, iv w0_4, iv w0_5, rv b115, rv b117, .unset, .unset, .unset] [(.int (0:Int32)), (.int w0_1)])) _
            refine XS.iadd X161.here hx rfl (hb hby at_112) rfl ?_
            show Steps p.tables e below (T161.setTop (mkF m 113 #[iv p0, iv p1, iv p2, iv p3, iv p4, iv w0_1, iv w0_2, iv w0_3, iv w0_4, iv w0_5, rv b115, rv b117, .unset, .unset, .unset] [(.int (w0_1 + (0:Int32)))])) _
            refine XS.istore X161.here hx rfl (hb hby at_113) rfl (l' := #[iv p0, iv p1, iv p2, iv p3, iv p4, iv w0_1, iv w0_2, iv w0_3, iv w0_4, iv w0_5, rv b115, rv b117, iv w0_12, .unset, .unset]) (by rw [hw0_12]; rfl) ?_
            show Steps p.tables e below (T161.setTop (mkF m 115 #[iv p0, iv p1, iv p2, iv p3, iv p4, iv w0_1, iv w0_2, iv w0_3, iv w0_4, iv w0_5, rv b115, rv b117, iv w0_12, .unset, .unset] [])) _
            refine XS.iload X161.here hx rfl (hb hby at_115) rfl ?_
            show Steps p.tables e below (T161.setTop (mkF m 117 #[iv p0, iv p1, iv p2, iv p3, iv p4, iv w0_1, iv w0_2, iv w0_3, iv w0_4, iv w0_5, rv b115, rv b117, iv w0_12, .unset, .unset] [(.int w0_2)])) _
            refine XS.ifYes X161.here hx rfl (pc0 := 117) (pc' := 125) rfl (hb hby at_117) rfl (XT.i0_eq_t hs87_19) (by decide) (by decide) ?_
            show Steps p.tables e below (T161.setTop (mkF m 125 #[iv p0, iv p1, iv p2, iv p3, iv p4, iv w0_1, iv w0_2, iv w0_3, iv w0_4, iv w0_5, rv b115, rv b117, iv w0_12, .unset, .unset] [])) _
            refine XS.iconst X161.here hx rfl (hb hby at_125) ?_
            show Steps p.tables e below (T161.setTop (mkF m 126 #[iv p0, iv p1, iv p2, iv p3, iv p4, iv w0_1, iv w0_2, iv w0_3, iv w0_4, iv w0_5, rv b115, rv b117, iv w0_12, .unset, .unset] [(.int (0:Int32))])) _
            refine XS.istore X161.here hx rfl (hb hby at_126) rfl (l' := #[iv p0, iv p1, iv p2, iv p3, iv p4, iv w0_1, iv w0_2, iv w0_3, iv w0_4, iv w0_5, rv b115, rv b117, iv w0_12, iv (0:Int32), .unset]) rfl ?_
            show Steps p.tables e below (T161.setTop (mkF m 128 #[iv p0, iv p1, iv p2, iv p3, iv p4, iv w0_1, iv w0_2, iv w0_3, iv w0_4, iv w0_5, rv b115, rv b117, iv w0_12, iv (0:Int32), .unset] [])) _
            refine XS.iload X161.here hx rfl (hb hby at_128) rfl ?_
            exact k
          obtain ⟨w0_13, hw0_13⟩ : ∃ z : Int32, z = (if w0_12 = (0:Int32) then (0:Int32) else (if (w0_12 + w0_4) < (1025:Int32) then (if ((0:Int32) + w0_5) < (16385:Int32) then (0:Int32) else (1:Int32)) else (1:Int32))) := ⟨_, rfl⟩
          refine own_pre (A := T161.setTop (mkF m 174 #[iv p0, iv p1, iv p2, iv p3, iv p4, iv w0_1, iv w0_2, iv w0_3, iv w0_4, iv w0_5, rv b115, rv b117, iv w0_12, iv (0:Int32), iv w0_13] [])) (fun t k => ?_) ?_
          · show Steps p.tables e below (T161.setTop (mkF m 130 #[iv p0, iv p1, iv p2, iv p3, iv p4, iv w0_1, iv w0_2, iv w0_3, iv w0_4, iv w0_5, rv b115, rv b117, iv w0_12, iv (0:Int32), .unset] [(.int w0_12)])) _
            by_cases hm130_20 : w0_12 = (0:Int32)
            · refine XS.ifNo X161.here hx rfl (hb hby at_130) rfl (XT.i0_ne_f hm130_20) ?_
              show Steps p.tables e below (T161.setTop (mkF m 133 #[iv p0, iv p1, iv p2, iv p3, iv p4, iv w0_1, iv w0_2, iv w0_3, iv w0_4, iv w0_5, rv b115, rv b117, iv w0_12, iv (0:Int32), .unset] [])) _
              refine XS.iconst X161.here hx rfl (hb hby at_133) ?_
              show Steps p.tables e below (T161.setTop (mkF m 134 #[iv p0, iv p1, iv p2, iv p3, iv p4, iv w0_1, iv w0_2, iv w0_3, iv w0_4, iv w0_5, rv b115, rv b117, iv w0_12, iv (0:Int32), .unset] [(.int (0:Int32))])) _
              refine XS.istore X161.here hx rfl (hb hby at_134) rfl (l' := #[iv p0, iv p1, iv p2, iv p3, iv p4, iv w0_1, iv w0_2, iv w0_3, iv w0_4, iv w0_5, rv b115, rv b117, iv w0_12, iv (0:Int32), iv (0:Int32)]) rfl ?_
              show Steps p.tables e below (T161.setTop (mkF m 136 #[iv p0, iv p1, iv p2, iv p3, iv p4, iv w0_1, iv w0_2, iv w0_3, iv w0_4, iv w0_5, rv b115, rv b117, iv w0_12, iv (0:Int32), iv (0:Int32)] [])) _
              refine XS.goto X161.here hx rfl (pc0 := 136) (pc' := 174) rfl (hb hby at_136) (by decide) (by decide) ?_
              rw [hw0_13.trans (if_pos hm130_20)] at k
              exact k
            · refine XS.ifYes X161.here hx rfl (pc0 := 130) (pc' := 139) rfl (hb hby at_130) rfl (XT.i0_ne_t hm130_20) (by decide) (by decide) ?_
              show Steps p.tables e below (T161.setTop (mkF m 139 #[iv p0, iv p1, iv p2, iv p3, iv p4, iv w0_1, iv w0_2, iv w0_3, iv w0_4, iv w0_5, rv b115, rv b117, iv w0_12, iv (0:Int32), .unset] [])) _
              refine XS.iload X161.here hx rfl (hb hby at_139) rfl ?_
              show Steps p.tables e below (T161.setTop (mkF m 141 #[iv p0, iv p1, iv p2, iv p3, iv p4, iv w0_1, iv w0_2, iv w0_3, iv w0_4, iv w0_5, rv b115, rv b117, iv w0_12, iv (0:Int32), .unset] [(.int w0_12)])) _
              refine XS.iload X161.here hx rfl (hb hby at_141) rfl ?_
              show Steps p.tables e below (T161.setTop (mkF m 143 #[iv p0, iv p1, iv p2, iv p3, iv p4, iv w0_1, iv w0_2, iv w0_3, iv w0_4, iv w0_5, rv b115, rv b117, iv w0_12, iv (0:Int32), .unset] [(.int w0_4), (.int w0_12)])) _
              refine XS.iadd X161.here hx rfl (hb hby at_143) rfl ?_
              show Steps p.tables e below (T161.setTop (mkF m 144 #[iv p0, iv p1, iv p2, iv p3, iv p4, iv w0_1, iv w0_2, iv w0_3, iv w0_4, iv w0_5, rv b115, rv b117, iv w0_12, iv (0:Int32), .unset] [(.int (w0_12 + w0_4))])) _
              refine XS.sipush X161.here hx rfl (hb hby at_144) ?_
              show Steps p.tables e below (T161.setTop (mkF m 147 #[iv p0, iv p1, iv p2, iv p3, iv p4, iv w0_1, iv w0_2, iv w0_3, iv w0_4, iv w0_5, rv b115, rv b117, iv w0_12, iv (0:Int32), .unset] [(.int (1025:Int32)), (.int (w0_12 + w0_4))])) _
              by_cases hm147_21 : (w0_12 + w0_4) < (1025:Int32)
              · refine XS.icmpYes X161.here hx rfl (pc0 := 147) (pc' := 156) rfl (hb hby at_147) rfl (XT.ii_lt_t hm147_21) (by decide) (by decide) ?_
                show Steps p.tables e below (T161.setTop (mkF m 156 #[iv p0, iv p1, iv p2, iv p3, iv p4, iv w0_1, iv w0_2, iv w0_3, iv w0_4, iv w0_5, rv b115, rv b117, iv w0_12, iv (0:Int32), .unset] [])) _
                refine XS.iload X161.here hx rfl (hb hby at_156) rfl ?_
                show Steps p.tables e below (T161.setTop (mkF m 158 #[iv p0, iv p1, iv p2, iv p3, iv p4, iv w0_1, iv w0_2, iv w0_3, iv w0_4, iv w0_5, rv b115, rv b117, iv w0_12, iv (0:Int32), .unset] [(.int (0:Int32))])) _
                refine XS.iload X161.here hx rfl (hb hby at_158) rfl ?_
                show Steps p.tables e below (T161.setTop (mkF m 160 #[iv p0, iv p1, iv p2, iv p3, iv p4, iv w0_1, iv w0_2, iv w0_3, iv w0_4, iv w0_5, rv b115, rv b117, iv w0_12, iv (0:Int32), .unset] [(.int w0_5), (.int (0:Int32))])) _
                refine XS.iadd X161.here hx rfl (hb hby at_160) rfl ?_
                show Steps p.tables e below (T161.setTop (mkF m 161 #[iv p0, iv p1, iv p2, iv p3, iv p4, iv w0_1, iv w0_2, iv w0_3, iv w0_4, iv w0_5, rv b115, rv b117, iv w0_12, iv (0:Int32), .unset] [(.int ((0:Int32) + w0_5))])) _
                refine XS.sipush X161.here hx rfl (hb hby at_161) ?_
                show Steps p.tables e below (T161.setTop (mkF m 164 #[iv p0, iv p1, iv p2, iv p3, iv p4, iv w0_1, iv w0_2, iv w0_3, iv w0_4, iv w0_5, rv b115, rv b117, iv w0_12, iv (0:Int32), .unset] [(.int (16385:Int32)), (.int ((0:Int32) + w0_5))])) _
                by_cases hm164_22 : ((0:Int32) + w0_5) < (16385:Int32)
                · refine XS.icmpYes X161.here hx rfl (pc0 := 164) (pc' := 171) rfl (hb hby at_164) rfl (XT.ii_lt_t hm164_22) (by decide) (by decide) ?_
                  show Steps p.tables e below (T161.setTop (mkF m 171 #[iv p0, iv p1, iv p2, iv p3, iv p4, iv w0_1, iv w0_2, iv w0_3, iv w0_4, iv w0_5, rv b115, rv b117, iv w0_12, iv (0:Int32), .unset] [])) _
                  refine XS.iconst X161.here hx rfl (hb hby at_171) ?_
                  show Steps p.tables e below (T161.setTop (mkF m 172 #[iv p0, iv p1, iv p2, iv p3, iv p4, iv w0_1, iv w0_2, iv w0_3, iv w0_4, iv w0_5, rv b115, rv b117, iv w0_12, iv (0:Int32), .unset] [(.int (0:Int32))])) _
                  refine XS.istore X161.here hx rfl (hb hby at_172) rfl (l' := #[iv p0, iv p1, iv p2, iv p3, iv p4, iv w0_1, iv w0_2, iv w0_3, iv w0_4, iv w0_5, rv b115, rv b117, iv w0_12, iv (0:Int32), iv (0:Int32)]) rfl ?_
                  rw [hw0_13.trans (((if_neg hm130_20).trans (if_pos hm147_21)).trans (if_pos hm164_22))] at k
                  exact k
                · refine XS.icmpNo X161.here hx rfl (hb hby at_164) rfl (XT.ii_lt_f hm164_22) ?_
                  show Steps p.tables e below (T161.setTop (mkF m 167 #[iv p0, iv p1, iv p2, iv p3, iv p4, iv w0_1, iv w0_2, iv w0_3, iv w0_4, iv w0_5, rv b115, rv b117, iv w0_12, iv (0:Int32), .unset] [])) _
                  refine XS.iconst X161.here hx rfl (hb hby at_167) ?_
                  show Steps p.tables e below (T161.setTop (mkF m 168 #[iv p0, iv p1, iv p2, iv p3, iv p4, iv w0_1, iv w0_2, iv w0_3, iv w0_4, iv w0_5, rv b115, rv b117, iv w0_12, iv (0:Int32), .unset] [(.int (1:Int32))])) _
                  refine XS.goto X161.here hx rfl (pc0 := 168) (pc' := 172) rfl (hb hby at_168) (by decide) (by decide) ?_
                  show Steps p.tables e below (T161.setTop (mkF m 172 #[iv p0, iv p1, iv p2, iv p3, iv p4, iv w0_1, iv w0_2, iv w0_3, iv w0_4, iv w0_5, rv b115, rv b117, iv w0_12, iv (0:Int32), .unset] [(.int (1:Int32))])) _
                  refine XS.istore X161.here hx rfl (hb hby at_172) rfl (l' := #[iv p0, iv p1, iv p2, iv p3, iv p4, iv w0_1, iv w0_2, iv w0_3, iv w0_4, iv w0_5, rv b115, rv b117, iv w0_12, iv (0:Int32), iv (1:Int32)]) rfl ?_
                  rw [hw0_13.trans (((if_neg hm130_20).trans (if_pos hm147_21)).trans (if_neg hm164_22))] at k
                  exact k
              · refine XS.icmpNo X161.here hx rfl (hb hby at_147) rfl (XT.ii_lt_f hm147_21) ?_
                show Steps p.tables e below (T161.setTop (mkF m 150 #[iv p0, iv p1, iv p2, iv p3, iv p4, iv w0_1, iv w0_2, iv w0_3, iv w0_4, iv w0_5, rv b115, rv b117, iv w0_12, iv (0:Int32), .unset] [])) _
                refine XS.iconst X161.here hx rfl (hb hby at_150) ?_
                show Steps p.tables e below (T161.setTop (mkF m 151 #[iv p0, iv p1, iv p2, iv p3, iv p4, iv w0_1, iv w0_2, iv w0_3, iv w0_4, iv w0_5, rv b115, rv b117, iv w0_12, iv (0:Int32), .unset] [(.int (1:Int32))])) _
                refine XS.istore X161.here hx rfl (hb hby at_151) rfl (l' := #[iv p0, iv p1, iv p2, iv p3, iv p4, iv w0_1, iv w0_2, iv w0_3, iv w0_4, iv w0_5, rv b115, rv b117, iv w0_12, iv (0:Int32), iv (1:Int32)]) rfl ?_
                show Steps p.tables e below (T161.setTop (mkF m 153 #[iv p0, iv p1, iv p2, iv p3, iv p4, iv w0_1, iv w0_2, iv w0_3, iv w0_4, iv w0_5, rv b115, rv b117, iv w0_12, iv (0:Int32), iv (1:Int32)] [])) _
                refine XS.goto X161.here hx rfl (pc0 := 153) (pc' := 174) rfl (hb hby at_153) (by decide) (by decide) ?_
                rw [hw0_13.trans ((if_neg hm130_20).trans (if_neg hm147_21))] at k
                exact k
          refine own_pre (A := T161.setTop (mkF m 180 #[iv p0, iv p1, iv p2, iv p3, iv p4, iv w0_1, iv w0_2, iv w0_3, iv w0_4, iv w0_5, rv b115, rv b117, iv w0_12, iv (0:Int32), iv w0_13] [(.int w0_5), (.int w0_4), (.ref b117)])) (fun t k => ?_) ?_
          · show Steps p.tables e below (T161.setTop (mkF m 174 #[iv p0, iv p1, iv p2, iv p3, iv p4, iv w0_1, iv w0_2, iv w0_3, iv w0_4, iv w0_5, rv b115, rv b117, iv w0_12, iv (0:Int32), iv w0_13] [])) _
            refine XS.aload X161.here hx rfl (hb hby at_174) rfl rfl ?_
            show Steps p.tables e below (T161.setTop (mkF m 176 #[iv p0, iv p1, iv p2, iv p3, iv p4, iv w0_1, iv w0_2, iv w0_3, iv w0_4, iv w0_5, rv b115, rv b117, iv w0_12, iv (0:Int32), iv w0_13] [(.ref b117)])) _
            refine XS.iload X161.here hx rfl (hb hby at_176) rfl ?_
            show Steps p.tables e below (T161.setTop (mkF m 178 #[iv p0, iv p1, iv p2, iv p3, iv p4, iv w0_1, iv w0_2, iv w0_3, iv w0_4, iv w0_5, rv b115, rv b117, iv w0_12, iv (0:Int32), iv w0_13] [(.int w0_4), (.ref b117)])) _
            refine XS.iload X161.here hx rfl (hb hby at_178) rfl ?_
            exact k
          have F174 := (F162.keep K161)
          obtain ⟨cq173, kq173, q173a, q173b, q173c⟩ := isOf hZ rfl F174
          obtain ⟨_, _, ⟨T173, L173, k173, n173⟩, -, X173, ⟨Lc173, hQ173, l173, y173, z173⟩, st173⟩ := X161.virtualBack hx (y := (⟨"com/example/fanout4/fanout4/xdm/RecordedEvents", "isFullFor", "(II)Z"⟩ : MethodName)) (z := (⟨"com/example/fanout4/fanout4/xdm/RecordedEvents", "isFullFor", "(II)Z"⟩ : MethodName)) hown (mvT hZ (own_h hw 44 rfl)) (mvT hZ (own_h hw 45 rfl)) (notFace_of_selects (args := #[]) (mvT hZ (own_h hw 47 rfl))) (mvT hZ (own_h hw 47 rfl)) (mvT hZ (own_h hw 46 rfl)) (by decide) (backOf (W := 0) (rm6 l Z aZ hw [] b117 w0_4 w0_5 (1:Int32) (0:Int32) T161.heap n0 Z169 G170 G167) hZ (own_h hw 48 rfl) (own_h hw 4 rfl) (by decide) (by decide)) q173a q173c (g := (mkF m 180 #[iv p0, iv p1, iv p2, iv p3, iv p4, iv w0_1, iv w0_2, iv w0_3, iv w0_4, iv w0_5, rv b115, rv b117, iv w0_12, iv (0:Int32), iv w0_13] [(.int w0_5), (.int w0_4), (.ref b117)])) rfl (by rw [hml]; rfl) (Steps.refl _) (argsL := [(.int w0_4), (.int w0_5)]) (rest := []) (lenOf own_pd3 rfl) rfl (by show 2 * 0 + _ ≤ _; exact Nat.le_of_eq rfl) (hb hby at_180) (fun _ _ => ⟨rfl, rfl, (by decide : 6 + 0 ≤ _), (by decide : 1494 + 0 ≤ _)⟩)
          dsimp only [Pt.U, Pt.locs, Pt.cells, Pt.slots] at X173 l173 y173 z173 st173 hQ173
          subst l173 y173 z173
          obtain ⟨rfl, N173q, eh173⟩ := hQ173
          have N173 := Fr.app N161 N173q
          refine own_pre (fun _ k => st173.trans k) ?_
          refine own_pre (A := T173.setTop (mkF m 185 #[iv p0, iv p1, iv p2, iv p3, iv p4, iv w0_1, iv w0_2, iv w0_3, iv w0_4, iv w0_5, rv b115, rv b117, iv w0_12, iv (0:Int32), iv w0_13] [(.int w0_13), (.int (f6 w0_4 w0_5 (1:Int32) (0:Int32)))])) (fun t k => ?_) ?_
          · show Steps p.tables e below (T173.setTop (mkF m 183 #[iv p0, iv p1, iv p2, iv p3, iv p4, iv w0_1, iv w0_2, iv w0_3, iv w0_4, iv w0_5, rv b115, rv b117, iv w0_12, iv (0:Int32), iv w0_13] [(.int (f6 w0_4 w0_5 (1:Int32) (0:Int32)))])) _
            refine XS.iload X173.here hx rfl (hb hby at_183) rfl ?_
            exact k
          obtain ⟨w0_14, hw0_14⟩ : ∃ z : Int32, z = (if (f6 w0_4 w0_5 (1:Int32) (0:Int32)) = w0_13 then (1:Int32) else (0:Int32)) := ⟨_, rfl⟩
          refine own_pre (A := T173.setTop (mkF m 193 #[iv p0, iv p1, iv p2, iv p3, iv p4, iv w0_1, iv w0_2, iv w0_3, iv w0_4, iv w0_5, rv b115, rv b117, iv w0_12, iv (0:Int32), iv w0_13] [(.int w0_14)])) (fun t k => ?_) ?_
          · show Steps p.tables e below (T173.setTop (mkF m 185 #[iv p0, iv p1, iv p2, iv p3, iv p4, iv w0_1, iv w0_2, iv w0_3, iv w0_4, iv w0_5, rv b115, rv b117, iv w0_12, iv (0:Int32), iv w0_13] [(.int w0_13), (.int (f6 w0_4 w0_5 (1:Int32) (0:Int32)))])) _
            by_cases hm185_23 : (f6 w0_4 w0_5 (1:Int32) (0:Int32)) = w0_13
            · refine XS.icmpNo X173.here hx rfl (hb hby at_185) rfl (XT.ii_ne_f hm185_23) ?_
              show Steps p.tables e below (T173.setTop (mkF m 188 #[iv p0, iv p1, iv p2, iv p3, iv p4, iv w0_1, iv w0_2, iv w0_3, iv w0_4, iv w0_5, rv b115, rv b117, iv w0_12, iv (0:Int32), iv w0_13] [])) _
              refine XS.iconst X173.here hx rfl (hb hby at_188) ?_
              show Steps p.tables e below (T173.setTop (mkF m 189 #[iv p0, iv p1, iv p2, iv p3, iv p4, iv w0_1, iv w0_2, iv w0_3, iv w0_4, iv w0_5, rv b115, rv b117, iv w0_12, iv (0:Int32), iv w0_13] [(.int (1:Int32))])) _
              refine XS.goto X173.here hx rfl (pc0 := 189) (pc' := 193) rfl (hb hby at_189) (by decide) (by decide) ?_
              rw [hw0_14.trans (if_pos hm185_23)] at k
              exact k
            · refine XS.icmpYes X173.here hx rfl (pc0 := 185) (pc' := 192) rfl (hb hby at_185) rfl (XT.ii_ne_t hm185_23) (by decide) (by decide) ?_
              show Steps p.tables e below (T173.setTop (mkF m 192 #[iv p0, iv p1, iv p2, iv p3, iv p4, iv w0_1, iv w0_2, iv w0_3, iv w0_4, iv w0_5, rv b115, rv b117, iv w0_12, iv (0:Int32), iv w0_13] [])) _
              refine XS.iconst X173.here hx rfl (hb hby at_192) ?_
              rw [hw0_14.trans (if_neg hm185_23)] at k
              exact k
          have hv175 : (w0_14 &&& 1) = f0 p0 p1 p2 p3 p4 := by subst hw0_1 hw0_2 hw0_3 hw0_4 hw0_5 hw0_12 hw0_13 hw0_14; simp only [f0, if_pos hs55_3, if_pos hs66_5, if_neg hs77_7, if_pos hs87_19]
          exact own_end X173 (BodyLoose.notSynchronized Bd) (fun h => by rw [Bd.returns] at h; cases h) (v := some (.int (w0_14 &&& 1))) (fun fs hr => retN X173 hx (t := .boolean) Bd.returns (by simp) (hb hby at_193) hr) (by show Q0 Z p0 p1 p2 p3 p4 h0 n0 _ T173.heap _; rw [eh173]; exact ⟨(congrArg (fun z => some (Value.int z)) hv175), N173⟩) (by decide) (by decide)
        · refine own_pre (A := T161.setTop (mkF m 97 #[iv p0, iv p1, iv p2, iv p3, iv p4, iv w0_1, iv w0_2, iv w0_3, iv w0_4, iv w0_5, rv b115, rv b117, .unset, .unset, .unset] [(.int w0_3), (.int (0:Int32)), (.ref b115), (.ref b117)])) (fun t k => ?_) ?_
          · show Steps p.tables e below (T161.setTop (mkF m 87 #[iv p0, iv p1, iv p2, iv p3, iv p4, iv w0_1, iv w0_2, iv w0_3, iv w0_4, iv w0_5, rv b115, rv b117, .unset, .unset, .unset] [(.int w0_2)])) _
            refine XS.ifNo X161.here hx rfl (hb hby at_87) rfl (XT.i0_eq_f hs87_19) ?_
            show Steps p.tables e below (T161.setTop (mkF m 90 #[iv p0, iv p1, iv p2, iv p3, iv p4, iv w0_1, iv w0_2, iv w0_3, iv w0_4, iv w0_5, rv b115, rv b117, .unset, .unset, .unset] [])) _
            refine XS.aload X161.here hx rfl (hb hby at_90) rfl rfl ?_
            show Steps p.tables e below (T161.setTop (mkF m 92 #[iv p0, iv p1, iv p2, iv p3, iv p4, iv w0_1, iv w0_2, iv w0_3, iv w0_4, iv w0_5, rv b115, rv b117, .unset, .unset, .unset] [(.ref b117)])) _
            refine XS.aload X161.here hx rfl (hb hby at_92) rfl rfl ?_
            show Steps p.tables e below (T161.setTop (mkF m 94 #[iv p0, iv p1, iv p2, iv p3, iv p4, iv w0_1, iv w0_2, iv w0_3, iv w0_4, iv w0_5, rv b115, rv b117, .unset, .unset, .unset] [(.ref b115), (.ref b117)])) _
            refine XS.iconst X161.here hx rfl (hb hby at_94) ?_
            show Steps p.tables e below (T161.setTop (mkF m 95 #[iv p0, iv p1, iv p2, iv p3, iv p4, iv w0_1, iv w0_2, iv w0_3, iv w0_4, iv w0_5, rv b115, rv b117, .unset, .unset, .unset] [(.int (0:Int32)), (.ref b115), (.ref b117)])) _
            refine XS.iload X161.here hx rfl (hb hby at_95) rfl ?_
            exact k
          have F177 := (F162.keep K161)
          have F178 := (G136.keep K161 (ninS (Ne.symm ne143) (ninS (Ne.symm ne127) nin0)))
          have F179 := (G137.keep K161 (ninS (Ne.symm ne146) (ninS (Ne.symm ne128) nin0)))
          have F180 := ((F120.keep K119 (ninS ne_b115_b117 nin0)).keep K161 (ninS ne_b115_b117 (ninS ne139 nin0)))
          obtain ⟨cq176, kq176, q176a, q176b, q176c⟩ := isOf hZ rfl F177
          obtain ⟨_, _, ⟨T176, L176, k176, n176⟩, -, X176, ⟨Lc176, hQ176, l176, y176, z176⟩, st176⟩ := X161.virtualBack hx (y := (⟨"com/example/fanout4/fanout4/xdm/RecordedEvents", "text", "([CII)V"⟩ : MethodName)) (z := (⟨"com/example/fanout4/fanout4/xdm/RecordedEvents", "text", "([CII)V"⟩ : MethodName)) hown (mvT hZ (own_h hw 23 rfl)) (mvT hZ (own_h hw 24 rfl)) (notFace_of_selects (args := #[]) (mvT hZ (own_h hw 26 rfl))) (mvT hZ (own_h hw 26 rfl)) (mvT hZ (own_h hw 25 rfl)) (by decide) (backOf (W := 0) (rm3 l Z aZ hw [] b117 b115 w0_3 kd_121 nb_122 ch_123 own_v171 (1:Int32) (List.replicate 128 (0:Int32)) (List.replicate 1024 (0:Int32)) [(0:Int32), (0:Int32), (0:Int32), (0:Int32), (0:Int32), (0:Int32), (0:Int32), (0:Int32), (0:Int32), (0:Int32), (0:Int32), (0:Int32), (0:Int32), (0:Int32), (0:Int32), (0:Int32)] T161.heap n0 Z169 F177 G163 G164 G165 G170 G167 G172 F178 F179 F180 ne140 ne143 ne146 ne127 ne128 ne129 ne_b115_b117 ne139 ne142 ne145 ge_b117 ge141 ge144 ge147 (by first | (simp; done) | decide +kernel) (by decide) (by first | (simp; done) | decide +kernel) (by first | (simp; done) | decide +kernel) rfl (own_l15 hw0_3)) hZ (own_h hw 27 rfl) (own_h hw 4 rfl) (by decide) (by decide)) q176a q176c (g := (mkF m 97 #[iv p0, iv p1, iv p2, iv p3, iv p4, iv w0_1, iv w0_2, iv w0_3, iv w0_4, iv w0_5, rv b115, rv b117, .unset, .unset, .unset] [(.int w0_3), (.int (0:Int32)), (.ref b115), (.ref b117)])) rfl (by rw [hml]; rfl) (Steps.refl _) (argsL := [(.ref b115), (.int (0:Int32)), (.int w0_3)]) (rest := []) (lenOf own_pd4 rfl) rfl (by show 2 * 0 + _ ≤ _; exact Nat.le_of_eq rfl) (hb hby at_97) (fun _ _ => ⟨rfl, rfl, (by decide : 6 + 0 ≤ _), (by decide : 1494 + 0 ≤ _)⟩)
          dsimp only [Pt.U, Pt.locs, Pt.cells, Pt.slots] at X176 l176 y176 z176 st176 hQ176
          subst l176 y176 z176
          obtain ⟨rfl, N176q, K176, G181, G182⟩ := hQ176
          have N176 := Fr.app N161 N176q
          have Z183 : n0 ≤ T176.heap.size := Nat.le_trans Z169 K176.1
          have G184 : Fld Z T176.heap b117 "com/example/fanout4/fanout4/xdm/RecordedEvents" "size" "I" (.int (2:Int32)) := G181
          refine own_pre (fun _ k => st176.trans k) ?_
          obtain ⟨w0_15, hw0_15⟩ : ∃ z : Int32, z = (w0_1 + (1:Int32)) := ⟨_, rfl⟩
          refine own_pre (A := T176.setTop (mkF m 130 #[iv p0, iv p1, iv p2, iv p3, iv p4, iv w0_1, iv w0_2, iv w0_3, iv w0_4, iv w0_5, rv b115, rv b117, iv w0_15, iv w0_3, .unset] [(.int w0_15)])) (fun t k => ?_) ?_
          · show Steps p.tables e below (T176.setTop (mkF m 100 #[iv p0, iv p1, iv p2, iv p3, iv p4, iv w0_1, iv w0_2, iv w0_3, iv w0_4, iv w0_5, rv b115, rv b117, .unset, .unset, .unset] [])) _
            refine XS.iload X176.here hx rfl (hb hby at_100) rfl ?_
            show Steps p.tables e below (T176.setTop (mkF m 102 #[iv p0, iv p1, iv p2, iv p3, iv p4, iv w0_1, iv w0_2, iv w0_3, iv w0_4, iv w0_5, rv b115, rv b117, .unset, .unset, .unset] [(.int w0_1)])) _
            refine XS.iload X176.here hx rfl (hb hby at_102) rfl ?_
            show Steps p.tables e below (T176.setTop (mkF m 104 #[iv p0, iv p1, iv p2, iv p3, iv p4, iv w0_1, iv w0_2, iv w0_3, iv w0_4, iv w0_5, rv b115, rv b117, .unset, .unset, .unset] [(.int w0_2), (.int w0_1)])) _
            refine XS.ifNo X176.here hx rfl (hb hby at_104) rfl (XT.i0_eq_f hs87_19) ?_
            show Steps p.tables e below (T176.setTop (mkF m 107 #[iv p0, iv p1, iv p2, iv p3, iv p4, iv w0_1, iv w0_2, iv w0_3, iv w0_4, iv w0_5, rv b115, rv b117, .unset, .unset, .unset] [(.int w0_1)])) _
            refine XS.iconst X176.here hx rfl (hb hby at_107) ?_
            show Steps p.tables e below (T176.setTop (mkF m 108 #[iv p0, iv p1, iv p2, iv p3, iv p4, iv w0_1, iv w0_2, iv w0_3, iv w0_4, iv w0_5, rv b115, rv b117, .unset, .unset, .unset] [(.int (1:Int32)), (.int w0_1)])) _
            refine XS.goto X176.here hx rfl (pc0 := 108) (pc' := 112) rfl (hb hby at_108) (by decide) (by decide) ?_
            show Steps p.tables e below (T176.setTop (mkF m 112 #[iv p0, iv p1, iv p2, iv p3, iv p4, iv w0_1, iv w0_2, iv w0_3, iv w0_4, iv w0_5, rv b115, rv b117, .unset, .unset, .unset] [(.int (1:Int32)), (.int w0_1)])) _
            refine XS.iadd X176.here hx rfl (hb hby at_112) rfl ?_
            show Steps p.tables e below (T176.setTop (mkF m 113 #[iv p0, iv p1, iv p2, iv p3, iv p4, iv w0_1, iv w0_2, iv w0_3, iv w0_4, iv w0_5, rv b115, rv b117, .unset, .unset, .unset] [(.int (w0_1 + (1:Int32)))])) _
            refine XS.istore X176.here hx rfl (hb hby at_113) rfl (l' := #[iv p0, iv p1, iv p2, iv p3, iv p4, iv w0_1, iv w0_2, iv w0_3, iv w0_4, iv w0_5, rv b115, rv b117, iv w0_15, .unset, .unset]) (by rw [hw0_15]; rfl) ?_
            show Steps p.tables e below (T176.setTop (mkF m 115 #[iv p0, iv p1, iv p2, iv p3, iv p4, iv w0_1, iv w0_2, iv w0_3, iv w0_4, iv w0_5, rv b115, rv b117, iv w0_15, .unset, .unset] [])) _
            refine XS.iload X176.here hx rfl (hb hby at_115) rfl ?_
            show Steps p.tables e below (T176.setTop (mkF m 117 #[iv p0, iv p1, iv p2, iv p3, iv p4, iv w0_1, iv w0_2, iv w0_3, iv w0_4, iv w0_5, rv b115, rv b117, iv w0_15, .unset, .unset] [(.int w0_2)])) _
            refine XS.ifNo X176.here hx rfl (hb hby at_117) rfl (XT.i0_eq_f hs87_19) ?_
            show Steps p.tables e below (T176.setTop (mkF m 120 #[iv p0, iv p1, iv p2, iv p3, iv p4, iv w0_1, iv w0_2, iv w0_3, iv w0_4, iv w0_5, rv b115, rv b117, iv w0_15, .unset, .unset] [])) _
            refine XS.iload X176.here hx rfl (hb hby at_120) rfl ?_
            show Steps p.tables e below (T176.setTop (mkF m 122 #[iv p0, iv p1, iv p2, iv p3, iv p4, iv w0_1, iv w0_2, iv w0_3, iv w0_4, iv w0_5, rv b115, rv b117, iv w0_15, .unset, .unset] [(.int w0_3)])) _
            refine XS.goto X176.here hx rfl (pc0 := 122) (pc' := 126) rfl (hb hby at_122) (by decide) (by decide) ?_
            show Steps p.tables e below (T176.setTop (mkF m 126 #[iv p0, iv p1, iv p2, iv p3, iv p4, iv w0_1, iv w0_2, iv w0_3, iv w0_4, iv w0_5, rv b115, rv b117, iv w0_15, .unset, .unset] [(.int w0_3)])) _
            refine XS.istore X176.here hx rfl (hb hby at_126) rfl (l' := #[iv p0, iv p1, iv p2, iv p3, iv p4, iv w0_1, iv w0_2, iv w0_3, iv w0_4, iv w0_5, rv b115, rv b117, iv w0_15, iv w0_3, .unset]) rfl ?_
            show Steps p.tables e below (T176.setTop (mkF m 128 #[iv p0, iv p1, iv p2, iv p3, iv p4, iv w0_1, iv w0_2, iv w0_3, iv w0_4, iv w0_5, rv b115, rv b117, iv w0_15, iv w0_3, .unset] [])) _
            refine XS.iload X176.here hx rfl (hb hby at_128) rfl ?_
            exact k
          obtain ⟨w0_16, hw0_16⟩ : ∃ z : Int32, z = (if w0_15 = (0:Int32) then (0:Int32) else (if (w0_15 + w0_4) < (1025:Int32) then (if (w0_3 + w0_5) < (16385:Int32) then (0:Int32) else (1:Int32)) else (1:Int32))) := ⟨_, rfl⟩
          refine own_pre (A := T176.setTop (mkF m 174 #[iv p0, iv p1, iv p2, iv p3, iv p4, iv w0_1, iv w0_2, iv w0_3, iv w0_4, iv w0_5, rv b115, rv b117, iv w0_15, iv w0_3, iv w0_16] [])) (fun t k => ?_) ?_
          · show Steps p.tables e below (T176.setTop (mkF m 130 #[iv p0, iv p1, iv p2, iv p3, iv p4, iv w0_1, iv w0_2, iv w0_3, iv w0_4, iv w0_5, rv b115, rv b117, iv w0_15, iv w0_3, .unset] [(.int w0_15)])) _
            by_cases hm130_24 : w0_15 = (0:Int32)
            · refine XS.ifNo X176.here hx rfl (hb hby at_130) rfl (XT.i0_ne_f hm130_24) ?_
              show Steps p.tables e below (T176.setTop (mkF m 133 #[iv p0, iv p1, iv p2, iv p3, iv p4, iv w0_1, iv w0_2, iv w0_3, iv w0_4, iv w0_5, rv b115, rv b117, iv w0_15, iv w0_3, .unset] [])) _
              refine XS.iconst X176.here hx rfl (hb hby at_133) ?_
              show Steps p.tables e below (T176.setTop (mkF m 134 #[iv p0, iv p1, iv p2, iv p3, iv p4, iv w0_1, iv w0_2, iv w0_3, iv w0_4, iv w0_5, rv b115, rv b117, iv w0_15, iv w0_3, .unset] [(.int (0:Int32))])) _
              refine XS.istore X176.here hx rfl (hb hby at_134) rfl (l' := #[iv p0, iv p1, iv p2, iv p3, iv p4, iv w0_1, iv w0_2, iv w0_3, iv w0_4, iv w0_5, rv b115, rv b117, iv w0_15, iv w0_3, iv (0:Int32)]) rfl ?_
              show Steps p.tables e below (T176.setTop (mkF m 136 #[iv p0, iv p1, iv p2, iv p3, iv p4, iv w0_1, iv w0_2, iv w0_3, iv w0_4, iv w0_5, rv b115, rv b117, iv w0_15, iv w0_3, iv (0:Int32)] [])) _
              refine XS.goto X176.here hx rfl (pc0 := 136) (pc' := 174) rfl (hb hby at_136) (by decide) (by decide) ?_
              rw [hw0_16.trans (if_pos hm130_24)] at k
              exact k
            · refine XS.ifYes X176.here hx rfl (pc0 := 130) (pc' := 139) rfl (hb hby at_130) rfl (XT.i0_ne_t hm130_24) (by decide) (by decide) ?_
              show Steps p.tables e below (T176.setTop (mkF m 139 #[iv p0, iv p1, iv p2, iv p3, iv p4, iv w0_1, iv w0_2, iv w0_3, iv w0_4, iv w0_5, rv b115, rv b117, iv w0_15, iv w0_3, .unset] [])) _
              refine XS.iload X176.here hx rfl (hb hby at_139) rfl ?_
              show Steps p.tables e below (T176.setTop (mkF m 141 #[iv p0, iv p1, iv p2, iv p3, iv p4, iv w0_1, iv w0_2, iv w0_3, iv w0_4, iv w0_5, rv b115, rv b117, iv w0_15, iv w0_3, .unset] [(.int w0_15)])) _
              refine XS.iload X176.here hx rfl (hb hby at_141) rfl ?_
              show Steps p.tables e below (T176.setTop (mkF m 143 #[iv p0, iv p1, iv p2, iv p3, iv p4, iv w0_1, iv w0_2, iv w0_3, iv w0_4, iv w0_5, rv b115, rv b117, iv w0_15, iv w0_3, .unset] [(.int w0_4), (.int w0_15)])) _
              refine XS.iadd X176.here hx rfl (hb hby at_143) rfl ?_
              show Steps p.tables e below (T176.setTop (mkF m 144 #[iv p0, iv p1, iv p2, iv p3, iv p4, iv w0_1, iv w0_2, iv w0_3, iv w0_4, iv w0_5, rv b115, rv b117, iv w0_15, iv w0_3, .unset] [(.int (w0_15 + w0_4))])) _
              refine XS.sipush X176.here hx rfl (hb hby at_144) ?_
              show Steps p.tables e below (T176.setTop (mkF m 147 #[iv p0, iv p1, iv p2, iv p3, iv p4, iv w0_1, iv w0_2, iv w0_3, iv w0_4, iv w0_5, rv b115, rv b117, iv w0_15, iv w0_3, .unset] [(.int (1025:Int32)), (.int (w0_15 + w0_4))])) _
              by_cases hm147_25 : (w0_15 + w0_4) < (1025:Int32)
              · refine XS.icmpYes X176.here hx rfl (pc0 := 147) (pc' := 156) rfl (hb hby at_147) rfl (XT.ii_lt_t hm147_25) (by decide) (by decide) ?_
                show Steps p.tables e below (T176.setTop (mkF m 156 #[iv p0, iv p1, iv p2, iv p3, iv p4, iv w0_1, iv w0_2, iv w0_3, iv w0_4, iv w0_5, rv b115, rv b117, iv w0_15, iv w0_3, .unset] [])) _
                refine XS.iload X176.here hx rfl (hb hby at_156) rfl ?_
                show Steps p.tables e below (T176.setTop (mkF m 158 #[iv p0, iv p1, iv p2, iv p3, iv p4, iv w0_1, iv w0_2, iv w0_3, iv w0_4, iv w0_5, rv b115, rv b117, iv w0_15, iv w0_3, .unset] [(.int w0_3)])) _
                refine XS.iload X176.here hx rfl (hb hby at_158) rfl ?_
                show Steps p.tables e below (T176.setTop (mkF m 160 #[iv p0, iv p1, iv p2, iv p3, iv p4, iv w0_1, iv w0_2, iv w0_3, iv w0_4, iv w0_5, rv b115, rv b117, iv w0_15, iv w0_3, .unset] [(.int w0_5), (.int w0_3)])) _
                refine XS.iadd X176.here hx rfl (hb hby at_160) rfl ?_
                show Steps p.tables e below (T176.setTop (mkF m 161 #[iv p0, iv p1, iv p2, iv p3, iv p4, iv w0_1, iv w0_2, iv w0_3, iv w0_4, iv w0_5, rv b115, rv b117, iv w0_15, iv w0_3, .unset] [(.int (w0_3 + w0_5))])) _
                refine XS.sipush X176.here hx rfl (hb hby at_161) ?_
                show Steps p.tables e below (T176.setTop (mkF m 164 #[iv p0, iv p1, iv p2, iv p3, iv p4, iv w0_1, iv w0_2, iv w0_3, iv w0_4, iv w0_5, rv b115, rv b117, iv w0_15, iv w0_3, .unset] [(.int (16385:Int32)), (.int (w0_3 + w0_5))])) _
                by_cases hm164_26 : (w0_3 + w0_5) < (16385:Int32)
                · refine XS.icmpYes X176.here hx rfl (pc0 := 164) (pc' := 171) rfl (hb hby at_164) rfl (XT.ii_lt_t hm164_26) (by decide) (by decide) ?_
                  show Steps p.tables e below (T176.setTop (mkF m 171 #[iv p0, iv p1, iv p2, iv p3, iv p4, iv w0_1, iv w0_2, iv w0_3, iv w0_4, iv w0_5, rv b115, rv b117, iv w0_15, iv w0_3, .unset] [])) _
                  refine XS.iconst X176.here hx rfl (hb hby at_171) ?_
                  show Steps p.tables e below (T176.setTop (mkF m 172 #[iv p0, iv p1, iv p2, iv p3, iv p4, iv w0_1, iv w0_2, iv w0_3, iv w0_4, iv w0_5, rv b115, rv b117, iv w0_15, iv w0_3, .unset] [(.int (0:Int32))])) _
                  refine XS.istore X176.here hx rfl (hb hby at_172) rfl (l' := #[iv p0, iv p1, iv p2, iv p3, iv p4, iv w0_1, iv w0_2, iv w0_3, iv w0_4, iv w0_5, rv b115, rv b117, iv w0_15, iv w0_3, iv (0:Int32)]) rfl ?_
                  rw [hw0_16.trans (((if_neg hm130_24).trans (if_pos hm147_25)).trans (if_pos hm164_26))] at k
                  exact k
                · refine XS.icmpNo X176.here hx rfl (hb hby at_164) rfl (XT.ii_lt_f hm164_26) ?_
                  show Steps p.tables e below (T176.setTop (mkF m 167 #[iv p0, iv p1, iv p2, iv p3, iv p4, iv w0_1, iv w0_2, iv w0_3, iv w0_4, iv w0_5, rv b115, rv b117, iv w0_15, iv w0_3, .unset] [])) _
                  refine XS.iconst X176.here hx rfl (hb hby at_167) ?_
                  show Steps p.tables e below (T176.setTop (mkF m 168 #[iv p0, iv p1, iv p2, iv p3, iv p4, iv w0_1, iv w0_2, iv w0_3, iv w0_4, iv w0_5, rv b115, rv b117, iv w0_15, iv w0_3, .unset] [(.int (1:Int32))])) _
                  refine XS.goto X176.here hx rfl (pc0 := 168) (pc' := 172) rfl (hb hby at_168) (by decide) (by decide) ?_
                  show Steps p.tables e below (T176.setTop (mkF m 172 #[iv p0, iv p1, iv p2, iv p3, iv p4, iv w0_1, iv w0_2, iv w0_3, iv w0_4, iv w0_5, rv b115, rv b117, iv w0_15, iv w0_3, .unset] [(.int (1:Int32))])) _
                  refine XS.istore X176.here hx rfl (hb hby at_172) rfl (l' := #[iv p0, iv p1, iv p2, iv p3, iv p4, iv w0_1, iv w0_2, iv w0_3, iv w0_4, iv w0_5, rv b115, rv b117, iv w0_15, iv w0_3, iv (1:Int32)]) rfl ?_
                  rw [hw0_16.trans (((if_neg hm130_24).trans (if_pos hm147_25)).trans (if_neg hm164_26))] at k
                  exact k
              · refine XS.icmpNo X176.here hx rfl (hb hby at_147) rfl (XT.ii_lt_f hm147_25) ?_
                show Steps p.tables e below (T176.setTop (mkF m 150 #[iv p0, iv p1, iv p2, iv p3, iv p4, iv w0_1, iv w0_2, iv w0_3, iv w0_4, iv w0_5, rv b115, rv b117, iv w0_15, iv w0_3, .unset] [])) _
                refine XS.iconst X176.here hx rfl (hb hby at_150) ?_
                show Steps p.tables e below (T176.setTop (mkF m 151 #[iv p0, iv p1, iv p2, iv p3, iv p4, iv w0_1, iv w0_2, iv w0_3, iv w0_4, iv w0_5, rv b115, rv b117, iv w0_15, iv w0_3, .unset] [(.int (1:Int32))])) _
                refine XS.istore X176.here hx rfl (hb hby at_151) rfl (l' := #[iv p0, iv p1, iv p2, iv p3, iv p4, iv w0_1, iv w0_2, iv w0_3, iv w0_4, iv w0_5, rv b115, rv b117, iv w0_15, iv w0_3, iv (1:Int32)]) rfl ?_
                show Steps p.tables e below (T176.setTop (mkF m 153 #[iv p0, iv p1, iv p2, iv p3, iv p4, iv w0_1, iv w0_2, iv w0_3, iv w0_4, iv w0_5, rv b115, rv b117, iv w0_15, iv w0_3, iv (1:Int32)] [])) _
                refine XS.goto X176.here hx rfl (pc0 := 153) (pc' := 174) rfl (hb hby at_153) (by decide) (by decide) ?_
                rw [hw0_16.trans ((if_neg hm130_24).trans (if_neg hm147_25))] at k
                exact k
          refine own_pre (A := T176.setTop (mkF m 180 #[iv p0, iv p1, iv p2, iv p3, iv p4, iv w0_1, iv w0_2, iv w0_3, iv w0_4, iv w0_5, rv b115, rv b117, iv w0_15, iv w0_3, iv w0_16] [(.int w0_5), (.int w0_4), (.ref b117)])) (fun t k => ?_) ?_
          · show Steps p.tables e below (T176.setTop (mkF m 174 #[iv p0, iv p1, iv p2, iv p3, iv p4, iv w0_1, iv w0_2, iv w0_3, iv w0_4, iv w0_5, rv b115, rv b117, iv w0_15, iv w0_3, iv w0_16] [])) _
            refine XS.aload X176.here hx rfl (hb hby at_174) rfl rfl ?_
            show Steps p.tables e below (T176.setTop (mkF m 176 #[iv p0, iv p1, iv p2, iv p3, iv p4, iv w0_1, iv w0_2, iv w0_3, iv w0_4, iv w0_5, rv b115, rv b117, iv w0_15, iv w0_3, iv w0_16] [(.ref b117)])) _
            refine XS.iload X176.here hx rfl (hb hby at_176) rfl ?_
            show Steps p.tables e below (T176.setTop (mkF m 178 #[iv p0, iv p1, iv p2, iv p3, iv p4, iv w0_1, iv w0_2, iv w0_3, iv w0_4, iv w0_5, rv b115, rv b117, iv w0_15, iv w0_3, iv w0_16] [(.int w0_4), (.ref b117)])) _
            refine XS.iload X176.here hx rfl (hb hby at_178) rfl ?_
            exact k
          have F186 := (F177.keep K176)
          obtain ⟨cq185, kq185, q185a, q185b, q185c⟩ := isOf hZ rfl F186
          obtain ⟨_, _, ⟨T185, L185, k185, n185⟩, -, X185, ⟨Lc185, hQ185, l185, y185, z185⟩, st185⟩ := X176.virtualBack hx (y := (⟨"com/example/fanout4/fanout4/xdm/RecordedEvents", "isFullFor", "(II)Z"⟩ : MethodName)) (z := (⟨"com/example/fanout4/fanout4/xdm/RecordedEvents", "isFullFor", "(II)Z"⟩ : MethodName)) hown (mvT hZ (own_h hw 44 rfl)) (mvT hZ (own_h hw 45 rfl)) (notFace_of_selects (args := #[]) (mvT hZ (own_h hw 47 rfl))) (mvT hZ (own_h hw 47 rfl)) (mvT hZ (own_h hw 46 rfl)) (by decide) (backOf (W := 0) (rm6 l Z aZ hw [] b117 w0_4 w0_5 (2:Int32) ((0:Int32) + w0_3) T176.heap n0 Z183 G184 G182) hZ (own_h hw 48 rfl) (own_h hw 4 rfl) (by decide) (by decide)) q185a q185c (g := (mkF m 180 #[iv p0, iv p1, iv p2, iv p3, iv p4, iv w0_1, iv w0_2, iv w0_3, iv w0_4, iv w0_5, rv b115, rv b117, iv w0_15, iv w0_3, iv w0_16] [(.int w0_5), (.int w0_4), (.ref b117)])) rfl (by rw [hml]; rfl) (Steps.refl _) (argsL := [(.int w0_4), (.int w0_5)]) (rest := []) (lenOf own_pd3 rfl) rfl (by show 2 * 0 + _ ≤ _; exact Nat.le_of_eq rfl) (hb hby at_180) (fun _ _ => ⟨rfl, rfl, (by decide : 6 + 0 ≤ _), (by decide : 1494 + 0 ≤ _)⟩)
          dsimp only [Pt.U, Pt.locs, Pt.cells, Pt.slots] at X185 l185 y185 z185 st185 hQ185
          subst l185 y185 z185
          obtain ⟨rfl, N185q, eh185⟩ := hQ185
          have N185 := Fr.app N176 N185q
          refine own_pre (fun _ k => st185.trans k) ?_
          refine own_pre (A := T185.setTop (mkF m 185 #[iv p0, iv p1, iv p2, iv p3, iv p4, iv w0_1, iv w0_2, iv w0_3, iv w0_4, iv w0_5, rv b115, rv b117, iv w0_15, iv w0_3, iv w0_16] [(.int w0_16), (.int (f6 w0_4 w0_5 (2:Int32) ((0:Int32) + w0_3)))])) (fun t k => ?_) ?_
          · show Steps p.tables e below (T185.setTop (mkF m 183 #[iv p0, iv p1, iv p2, iv p3, iv p4, iv w0_1, iv w0_2, iv w0_3, iv w0_4, iv w0_5, rv b115, rv b117, iv w0_15, iv w0_3, iv w0_16] [(.int (f6 w0_4 w0_5 (2:Int32) ((0:Int32) + w0_3)))])) _
            refine XS.iload X185.here hx rfl (hb hby at_183) rfl ?_
            exact k
          obtain ⟨w0_17, hw0_17⟩ : ∃ z : Int32, z = (if (f6 w0_4 w0_5 (2:Int32) ((0:Int32) + w0_3)) = w0_16 then (1:Int32) else (0:Int32)) := ⟨_, rfl⟩
          refine own_pre (A := T185.setTop (mkF m 193 #[iv p0, iv p1, iv p2, iv p3, iv p4, iv w0_1, iv w0_2, iv w0_3, iv w0_4, iv w0_5, rv b115, rv b117, iv w0_15, iv w0_3, iv w0_16] [(.int w0_17)])) (fun t k => ?_) ?_
          · show Steps p.tables e below (T185.setTop (mkF m 185 #[iv p0, iv p1, iv p2, iv p3, iv p4, iv w0_1, iv w0_2, iv w0_3, iv w0_4, iv w0_5, rv b115, rv b117, iv w0_15, iv w0_3, iv w0_16] [(.int w0_16), (.int (f6 w0_4 w0_5 (2:Int32) ((0:Int32) + w0_3)))])) _
            by_cases hm185_27 : (f6 w0_4 w0_5 (2:Int32) ((0:Int32) + w0_3)) = w0_16
            · refine XS.icmpNo X185.here hx rfl (hb hby at_185) rfl (XT.ii_ne_f hm185_27) ?_
              show Steps p.tables e below (T185.setTop (mkF m 188 #[iv p0, iv p1, iv p2, iv p3, iv p4, iv w0_1, iv w0_2, iv w0_3, iv w0_4, iv w0_5, rv b115, rv b117, iv w0_15, iv w0_3, iv w0_16] [])) _
              refine XS.iconst X185.here hx rfl (hb hby at_188) ?_
              show Steps p.tables e below (T185.setTop (mkF m 189 #[iv p0, iv p1, iv p2, iv p3, iv p4, iv w0_1, iv w0_2, iv w0_3, iv w0_4, iv w0_5, rv b115, rv b117, iv w0_15, iv w0_3, iv w0_16] [(.int (1:Int32))])) _
              refine XS.goto X185.here hx rfl (pc0 := 189) (pc' := 193) rfl (hb hby at_189) (by decide) (by decide) ?_
              rw [hw0_17.trans (if_pos hm185_27)] at k
              exact k
            · refine XS.icmpYes X185.here hx rfl (pc0 := 185) (pc' := 192) rfl (hb hby at_185) rfl (XT.ii_ne_t hm185_27) (by decide) (by decide) ?_
              show Steps p.tables e below (T185.setTop (mkF m 192 #[iv p0, iv p1, iv p2, iv p3, iv p4, iv w0_1, iv w0_2, iv w0_3, iv w0_4, iv w0_5, rv b115, rv b117, iv w0_15, iv w0_3, iv w0_16] [])) _
              refine XS.iconst X185.here hx rfl (hb hby at_192) ?_
              rw [hw0_17.trans (if_neg hm185_27)] at k
              exact k
          have hv187 : (w0_17 &&& 1) = f0 p0 p1 p2 p3 p4 := by subst hw0_1 hw0_2 hw0_3 hw0_4 hw0_5 hw0_15 hw0_16 hw0_17; simp only [f0, if_pos hs55_3, if_pos hs66_5, if_neg hs77_7, if_neg hs87_19]
          exact own_end X185 (BodyLoose.notSynchronized Bd) (fun h => by rw [Bd.returns] at h; cases h) (v := some (.int (w0_17 &&& 1))) (fun fs hr => retN X185 hx (t := .boolean) Bd.returns (by simp) (hb hby at_193) hr) (by show Q0 Z p0 p1 p2 p3 p4 h0 n0 _ T185.heap _; rw [eh185]; exact ⟨(congrArg (fun z => some (Value.int z)) hv187), N185⟩) (by decide) (by decide)
    · refine own_pre (A := T119.setTop (mkF m 71 #[iv p0, iv p1, iv p2, iv p3, iv p4, iv w0_1, iv w0_2, iv w0_3, iv w0_4, iv w0_5, rv b115, rv b117, .unset, .unset, .unset] [(.ref b117)])) (fun t k => ?_) ?_
      · show Steps p.tables e below (T119.setTop (mkF m 66 #[iv p0, iv p1, iv p2, iv p3, iv p4, iv w0_1, iv w0_2, iv w0_3, iv w0_4, iv w0_5, rv b115, rv b117, .unset, .unset, .unset] [(.int (2:Int32)), (.int w0_1)])) _
        refine XS.icmpNo X119.here hx rfl (hb hby at_66) rfl (XT.ii_lt_f hs66_5) ?_
        show Steps p.tables e below (T119.setTop (mkF m 69 #[iv p0, iv p1, iv p2, iv p3, iv p4, iv w0_1, iv w0_2, iv w0_3, iv w0_4, iv w0_5, rv b115, rv b117, .unset, .unset, .unset] [])) _
        refine XS.aload X119.here hx rfl (hb hby at_69) rfl rfl ?_
        exact k
      have F189 := (A117.keep K119)
      obtain ⟨cq188, kq188, q188a, q188b, q188c⟩ := isOf hZ rfl F189
      obtain ⟨_, _, ⟨T188, L188, k188, n188⟩, -, X188, ⟨Lc188, hQ188, l188, y188, z188⟩, st188⟩ := X119.virtualBack hx (y := (⟨"com/example/fanout4/fanout4/xdm/RecordedEvents", "endTag", "()V"⟩ : MethodName)) (z := (⟨"com/example/fanout4/fanout4/xdm/RecordedEvents", "endTag", "()V"⟩ : MethodName)) hown (mvT hZ (own_h hw 49 rfl)) (mvT hZ (own_h hw 50 rfl)) (notFace_of_selects (args := #[]) (mvT hZ (own_h hw 52 rfl))) (mvT hZ (own_h hw 52 rfl)) (mvT hZ (own_h hw 51 rfl)) (by decide) (backOf (W := 0) (rm7 l Z aZ hw [] b117 kd_121 nb_122 ch_123 (List.replicate 64 (0:Int32)) (0:Int32) (0:Int32) T119.heap n0 Z138 F189 G130 G131 G132 G133 G134 G135 ne140 ge_b117 ge141 (by first | (simp; done) | decide +kernel) (by decide)) hZ (own_h hw 53 rfl) (own_h hw 4 rfl) (by decide) (by decide)) q188a q188c (g := (mkF m 71 #[iv p0, iv p1, iv p2, iv p3, iv p4, iv w0_1, iv w0_2, iv w0_3, iv w0_4, iv w0_5, rv b115, rv b117, .unset, .unset, .unset] [(.ref b117)])) rfl (by rw [hml]; rfl) (Steps.refl _) (argsL := []) (rest := []) (lenOf own_pd2 rfl) rfl (by show 2 * 0 + _ ≤ _; exact Nat.le_of_eq rfl) (hb hby at_71) (fun _ _ => ⟨rfl, rfl, (by decide : 6 + 0 ≤ _), (by decide : 1494 + 0 ≤ _)⟩)
      dsimp only [Pt.U, Pt.locs, Pt.cells, Pt.slots] at X188 l188 y188 z188 st188 hQ188
      subst l188 y188 z188
      obtain ⟨rfl, N188q, K188, G190, G191, G192, G193, G194, G195⟩ := hQ188
      have N188 := Fr.app N119 N188q
      have Z196 : n0 ≤ T188.heap.size := Nat.le_trans Z138 K188.1
      have G197 : Fld Z T188.heap b117 "com/example/fanout4/fanout4/xdm/RecordedEvents" "size" "I" (.int (1:Int32)) := G193
      have G198 : own_Bytes Z T188.heap kd_121 own_v171 := G195
      refine own_pre (fun _ k => st188.trans k) ?_
      refine own_pre (A := T188.setTop (mkF m 77 #[iv p0, iv p1, iv p2, iv p3, iv p4, iv w0_1, iv w0_2, iv w0_3, iv w0_4, iv w0_5, rv b115, rv b117, .unset, .unset, .unset] [(.int (3:Int32)), (.int w0_1)])) (fun t k => ?_) ?_
      · show Steps p.tables e below (T188.setTop (mkF m 74 #[iv p0, iv p1, iv p2, iv p3, iv p4, iv w0_1, iv w0_2, iv w0_3, iv w0_4, iv w0_5, rv b115, rv b117, .unset, .unset, .unset] [])) _
        refine XS.iload X188.here hx rfl (hb hby at_74) rfl ?_
        show Steps p.tables e below (T188.setTop (mkF m 76 #[iv p0, iv p1, iv p2, iv p3, iv p4, iv w0_1, iv w0_2, iv w0_3, iv w0_4, iv w0_5, rv b115, rv b117, .unset, .unset, .unset] [(.int w0_1)])) _
        refine XS.iconst X188.here hx rfl (hb hby at_76) ?_
        exact k
      by_cases hs77_29 : w0_1 < (3:Int32)
      · refine own_pre (A := T188.setTop (mkF m 87 #[iv p0, iv p1, iv p2, iv p3, iv p4, iv w0_1, iv w0_2, iv w0_3, iv w0_4, iv w0_5, rv b115, rv b117, .unset, .unset, .unset] [(.int w0_2)])) (fun t k => ?_) ?_
        · show Steps p.tables e below (T188.setTop (mkF m 77 #[iv p0, iv p1, iv p2, iv p3, iv p4, iv w0_1, iv w0_2, iv w0_3, iv w0_4, iv w0_5, rv b115, rv b117, .unset, .unset, .unset] [(.int (3:Int32)), (.int w0_1)])) _
          refine XS.icmpYes X188.here hx rfl (pc0 := 77) (pc' := 85) rfl (hb hby at_77) rfl (XT.ii_lt_t hs77_29) (by decide) (by decide) ?_
          show Steps p.tables e below (T188.setTop (mkF m 85 #[iv p0, iv p1, iv p2, iv p3, iv p4, iv w0_1, iv w0_2, iv w0_3, iv w0_4, iv w0_5, rv b115, rv b117, .unset, .unset, .unset] [])) _
          refine XS.iload X188.here hx rfl (hb hby at_85) rfl ?_
          exact k
        by_cases hs87_31 : w0_2 = (0:Int32)
        · obtain ⟨w0_18, hw0_18⟩ : ∃ z : Int32, z = (w0_1 + (0:Int32)) := ⟨_, rfl⟩
          refine own_pre (A := T188.setTop (mkF m 130 #[iv p0, iv p1, iv p2, iv p3, iv p4, iv w0_1, iv w0_2, iv w0_3, iv w0_4, iv w0_5, rv b115, rv b117, iv w0_18, iv (0:Int32), .unset] [(.int w0_18)])) (fun t k => ?_) ?_
          · show Steps p.tables e below (T188.setTop (mkF m 87 #[iv p0, iv p1, iv p2, iv p3, iv p4, iv w0_1, iv w0_2, iv w0_3, iv w0_4, iv w0_5, rv b115, rv b117, .unset, .unset, .unset] [(.int w0_2)])) _
            refine XS.ifYes X188.here hx rfl (pc0 := 87) (pc' := 100) rfl (hb hby at_87) rfl (XT.i0_eq_t hs87_31) (by decide) (by decide) ?_
            show Steps p.tables e below (T188.setTop (mkF m 100 #[iv p0, iv p1, iv p2, iv p3, iv p4, iv w0_1, iv w0_2, iv w0_3, iv w0_4, iv w0_5, rv b115, rv b117, .unset, .unset, .unset] [])) _
            refine XS.iload X188.here hx rfl (hb hby at_100) rfl ?_
            show Steps p.tables e below (T188.setTop (mkF m 102 #[iv p0, iv p1, iv p2, iv p3, iv p4, iv w0_1, iv w0_2, iv w0_3, iv w0_4, iv w0_5, rv b115, rv b117, .unset, .unset, .unset] [(.int w0_1)])) _
            refine XS.iload X188.here hx rfl (hb hby at_102) rfl ?_
            show Steps p.tables e below (T188.setTop (mkF m 104 #[iv p0, iv p1, iv p2, iv p3, iv p4, iv w0_1, iv w0_2, iv w0_3, iv w0_4, iv w0_5, rv b115, rv b117, .unset, .unset, .unset] [(.int w0_2), (.int w0_1)])) _
            refine XS.ifYes X188.here hx rfl (pc0 := 104) (pc' := 111) rfl (hb hby at_104) rfl (XT.i0_eq_t hs87_31) (by decide) (by decide) ?_
            show Steps p.tables e below (T188.setTop (mkF m 111 #[iv p0, iv p1, iv p2, iv p3, iv p4, iv w0_1, iv w0_2, iv w0_3, iv w0_4, iv w0_5, rv b115, rv b117, .unset, .unset, .unset] [(.int w0_1)])) _
            refine XS.iconst X188.here hx rfl (hb hby at_111) ?_
            show Steps p.tables e below (T188.setTop (mkF m 112 #[iv p0, iv p1, iv p2, iv p3, iv p4, iv w0_1, iv w0_2, iv w0_3, iv w0_4, iv w0_5, rv b115, rv b117, .unset, .unset, .unset] [(.int (0:Int32)), (.int w0_1)])) _
            refine XS.iadd X188.here hx rfl (hb hby at_112) rfl ?_
            show Steps p.tables e below (T188.setTop (mkF m 113 #[iv p0, iv p1, iv p2, iv p3, iv p4, iv w0_1, iv w0_2, iv w0_3, iv w0_4, iv w0_5, rv b115, rv b117, .unset, .unset, .unset] [(.int (w0_1 + (0:Int32)))])) _
            refine XS.istore X188.here hx rfl (hb hby at_113) rfl (l' := #[iv p0, iv p1, iv p2, iv p3, iv p4, iv w0_1, iv w0_2, iv w0_3, iv w0_4, iv w0_5, rv b115, rv b117, iv w0_18, .unset, .unset]) (by rw [hw0_18]; rfl) ?_
            show Steps p.tables e below (T188.setTop (mkF m 115 #[iv p0, iv p1, iv p2, iv p3, iv p4, iv w0_1, iv w0_2, iv w0_3, iv w0_4, iv w0_5, rv b115, rv b117, iv w0_18, .unset, .unset] [])) _
            refine XS.iload X188.here hx rfl (hb hby at_115) rfl ?_
            show Steps p.tables e below (T188.setTop (mkF m 117 #[iv p0, iv p1, iv p2, iv p3, iv p4, iv w0_1, iv w0_2, iv w0_3, iv w0_4, iv w0_5, rv b115, rv b117, iv w0_18, .unset, .unset] [(.int w0_2)])) _
            refine XS.ifYes X188.here hx rfl (pc0 := 117) (pc' := 125) rfl (hb hby at_117) rfl (XT.i0_eq_t hs87_31) (by decide) (by decide) ?_
            show Steps p.tables e below (T188.setTop (mkF m 125 #[iv p0, iv p1, iv p2, iv p3, iv p4, iv w0_1, iv w0_2, iv w0_3, iv w0_4, iv w0_5, rv b115, rv b117, iv w0_18, .unset, .unset] [])) _
            refine XS.iconst X188.here hx rfl (hb hby at_125) ?_
            show Steps p.tables e below (T188.setTop (mkF m 126 #[iv p0, iv p1, iv p2, iv p3, iv p4, iv w0_1, iv w0_2, iv w0_3, iv w0_4, iv w0_5, rv b115, rv b117, iv w0_18, .unset, .unset] [(.int (0:Int32))])) _
            refine XS.istore X188.here hx rfl (hb hby at_126) rfl (l' := #[iv p0, iv p1, iv p2, iv p3, iv p4, iv w0_1, iv w0_2, iv w0_3, iv w0_4, iv w0_5, rv b115, rv b117, iv w0_18, iv (0:Int32), .unset]) rfl ?_
            show Steps p.tables e below (T188.setTop (mkF m 128 #[iv p0, iv p1, iv p2, iv p3, iv p4, iv w0_1, iv w0_2, iv w0_3, iv w0_4, iv w0_5, rv b115, rv b117, iv w0_18, iv (0:Int32), .unset] [])) _
            refine XS.iload X188.here hx rfl (hb hby at_128) rfl ?_
            exact k
          obtain ⟨w0_19, hw0_19⟩ : ∃ z : Int32, z = (if w0_18 = (0:Int32) then (0:Int32) else (if (w0_18 + w0_4) < (1025:Int32) then (if ((0:Int32) + w0_5) < (16385:Int32) then (0:Int32) else (1:Int32)) else (1:Int32))) := ⟨_, rfl⟩
          refine own_pre (A := T188.setTop (mkF m 174 #[iv p0, iv p1, iv p2, iv p3, iv p4, iv w0_1, iv w0_2, iv w0_3, iv w0_4, iv w0_5, rv b115, rv b117, iv w0_18, iv (0:Int32), iv w0_19] [])) (fun t k => ?_) ?_
          · show Steps p.tables e below (T188.setTop (mkF m 130 #[iv p0, iv p1, iv p2, iv p3, iv p4, iv w0_1, iv w0_2, iv w0_3, iv w0_4, iv w0_5, rv b115, rv b117, iv w0_18, iv (0:Int32), .unset] [(.int w0_18)])) _
            by_cases hm130_32 : w0_18 = (0:Int32)
            · refine XS.ifNo X188.here hx rfl (hb hby at_130) rfl (XT.i0_ne_f hm130_32) ?_
              show Steps p.tables e below (T188.setTop (mkF m 133 #[iv p0, iv p1, iv p2, iv p3, iv p4, iv w0_1, iv w0_2, iv w0_3, iv w0_4, iv w0_5, rv b115, rv b117, iv w0_18, iv (0:Int32), .unset] [])) _
              refine XS.iconst X188.here hx rfl (hb hby at_133) ?_
              show Steps p.tables e below (T188.setTop (mkF m 134 #[iv p0, iv p1, iv p2, iv p3, iv p4, iv w0_1, iv w0_2, iv w0_3, iv w0_4, iv w0_5, rv b115, rv b117, iv w0_18, iv (0:Int32), .unset] [(.int (0:Int32))])) _
              refine XS.istore X188.here hx rfl (hb hby at_134) rfl (l' := #[iv p0, iv p1, iv p2, iv p3, iv p4, iv w0_1, iv w0_2, iv w0_3, iv w0_4, iv w0_5, rv b115, rv b117, iv w0_18, iv (0:Int32), iv (0:Int32)]) rfl ?_
              show Steps p.tables e below (T188.setTop (mkF m 136 #[iv p0, iv p1, iv p2, iv p3, iv p4, iv w0_1, iv w0_2, iv w0_3, iv w0_4, iv w0_5, rv b115, rv b117, iv w0_18, iv (0:Int32), iv (0:Int32)] [])) _
              refine XS.goto X188.here hx rfl (pc0 := 136) (pc' := 174) rfl (hb hby at_136) (by decide) (by decide) ?_
              rw [hw0_19.trans (if_pos hm130_32)] at k
              exact k
            · refine XS.ifYes X188.here hx rfl (pc0 := 130) (pc' := 139) rfl (hb hby at_130) rfl (XT.i0_ne_t hm130_32) (by decide) (by decide) ?_
              show Steps p.tables e below (T188.setTop (mkF m 139 #[iv p0, iv p1, iv p2, iv p3, iv p4, iv w0_1, iv w0_2, iv w0_3, iv w0_4, iv w0_5, rv b115, rv b117, iv w0_18, iv (0:Int32), .unset] [])) _
              refine XS.iload X188.here hx rfl (hb hby at_139) rfl ?_
              show Steps p.tables e below (T188.setTop (mkF m 141 #[iv p0, iv p1, iv p2, iv p3, iv p4, iv w0_1, iv w0_2, iv w0_3, iv w0_4, iv w0_5, rv b115, rv b117, iv w0_18, iv (0:Int32), .unset] [(.int w0_18)])) _
              refine XS.iload X188.here hx rfl (hb hby at_141) rfl ?_
              show Steps p.tables e below (T188.setTop (mkF m 143 #[iv p0, iv p1, iv p2, iv p3, iv p4, iv w0_1, iv w0_2, iv w0_3, iv w0_4, iv w0_5, rv b115, rv b117, iv w0_18, iv (0:Int32), .unset] [(.int w0_4), (.int w0_18)])) _
              refine XS.iadd X188.here hx rfl (hb hby at_143) rfl ?_
              show Steps p.tables e below (T188.setTop (mkF m 144 #[iv p0, iv p1, iv p2, iv p3, iv p4, iv w0_1, iv w0_2, iv w0_3, iv w0_4, iv w0_5, rv b115, rv b117, iv w0_18, iv (0:Int32), .unset] [(.int (w0_18 + w0_4))])) _
              refine XS.sipush X188.here hx rfl (hb hby at_144) ?_
              show Steps p.tables e below (T188.setTop (mkF m 147 #[iv p0, iv p1, iv p2, iv p3, iv p4, iv w0_1, iv w0_2, iv w0_3, iv w0_4, iv w0_5, rv b115, rv b117, iv w0_18, iv (0:Int32), .unset] [(.int (1025:Int32)), (.int (w0_18 + w0_4))])) _
              by_cases hm147_33 : (w0_18 + w0_4) < (1025:Int32)
              · refine XS.icmpYes X188.here hx rfl (pc0 := 147) (pc' := 156) rfl (hb hby at_147) rfl (XT.ii_lt_t hm147_33) (by decide) (by decide) ?_
                show Steps p.tables e below (T188.setTop (mkF m 156 #[iv p0, iv p1, iv p2, iv p3, iv p4, iv w0_1, iv w0_2, iv w0_3, iv w0_4, iv w0_5, rv b115, rv b117, iv w0_18, iv (0:Int32), .unset] [])) _
                refine XS.iload X188.here hx rfl (hb hby at_156) rfl ?_
                show Steps p.tables e below (T188.setTop (mkF m 158 #[iv p0, iv p1, iv p2, iv p3, iv p4, iv w0_1, iv w0_2, iv w0_3, iv w0_4, iv w0_5, rv b115, rv b117, iv w0_18, iv (0:Int32), .unset] [(.int (0:Int32))])) _
                refine XS.iload X188.here hx rfl (hb hby at_158) rfl ?_
                show Steps p.tables e below (T188.setTop (mkF m 160 #[iv p0, iv p1, iv p2, iv p3, iv p4, iv w0_1, iv w0_2, iv w0_3, iv w0_4, iv w0_5, rv b115, rv b117, iv w0_18, iv (0:Int32), .unset] [(.int w0_5), (.int (0:Int32))])) _
                refine XS.iadd X188.here hx rfl (hb hby at_160) rfl ?_
                show Steps p.tables e below (T188.setTop (mkF m 161 #[iv p0, iv p1, iv p2, iv p3, iv p4, iv w0_1, iv w0_2, iv w0_3, iv w0_4, iv w0_5, rv b115, rv b117, iv w0_18, iv (0:Int32), .unset] [(.int ((0:Int32) + w0_5))])) _
                refine XS.sipush X188.here hx rfl (hb hby at_161) ?_
                show Steps p.tables e below (T188.setTop (mkF m 164 #[iv p0, iv p1, iv p2, iv p3, iv p4, iv w0_1, iv w0_2, iv w0_3, iv w0_4, iv w0_5, rv b115, rv b117, iv w0_18, iv (0:Int32), .unset] [(.int (16385:Int32)), (.int ((0:Int32) + w0_5))])) _
                by_cases hm164_34 : ((0:Int32) + w0_5) < (16385:Int32)
                · refine XS.icmpYes X188.here hx rfl (pc0 := 164) (pc' := 171) rfl (hb hby at_164) rfl (XT.ii_lt_t hm164_34) (by decide) (by decide) ?_
                  show Steps p.tables e below (T188.setTop (mkF m 171 #[iv p0, iv p1, iv p2, iv p3, iv p4, iv w0_1, iv w0_2, iv w0_3, iv w0_4, iv w0_5, rv b115, rv b117, iv w0_18, iv (0:Int32), .unset] [])) _
                  refine XS.iconst X188.here hx rfl (hb hby at_171) ?_
                  show Steps p.tables e below (T188.setTop (mkF m 172 #[iv p0, iv p1, iv p2, iv p3, iv p4, iv w0_1, iv w0_2, iv w0_3, iv w0_4, iv w0_5, rv b115, rv b117, iv w0_18, iv (0:Int32), .unset] [(.int (0:Int32))])) _
                  refine XS.istore X188.here hx rfl (hb hby at_172) rfl (l' := #[iv p0, iv p1, iv p2, iv p3, iv p4, iv w0_1, iv w0_2, iv w0_3, iv w0_4, iv w0_5, rv b115, rv b117, iv w0_18, iv (0:Int32), iv (0:Int32)]) rfl ?_
                  rw [hw0_19.trans (((if_neg hm130_32).trans (if_pos hm147_33)).trans (if_pos hm164_34))] at k
                  exact k
                · refine XS.icmpNo X188.here hx rfl (hb hby at_164) rfl (XT.ii_lt_f hm164_34) ?_
                  show Steps p.tables e below (T188.setTop (mkF m 167 #[iv p0, iv p1, iv p2, iv p3, iv p4, iv w0_1, iv w0_2, iv w0_3, iv w0_4, iv w0_5, rv b115, rv b117, iv w0_18, iv (0:Int32), .unset] [])) _
                  refine XS.iconst X188.here hx rfl (hb hby at_167) ?_
                  show Steps p.tables e below (T188.setTop (mkF m 168 #[iv p0, iv p1, iv p2, iv p3, iv p4, iv w0_1, iv w0_2, iv w0_3, iv w0_4, iv w0_5, rv b115, rv b117, iv w0_18, iv (0:Int32), .unset] [(.int (1:Int32))])) _
                  refine XS.goto X188.here hx rfl (pc0 := 168) (pc' := 172) rfl (hb hby at_168) (by decide) (by decide) ?_
                  show Steps p.tables e below (T188.setTop (mkF m 172 #[iv p0, iv p1, iv p2, iv p3, iv p4, iv w0_1, iv w0_2, iv w0_3, iv w0_4, iv w0_5, rv b115, rv b117, iv w0_18, iv (0:Int32), .unset] [(.int (1:Int32))])) _
                  refine XS.istore X188.here hx rfl (hb hby at_172) rfl (l' := #[iv p0, iv p1, iv p2, iv p3, iv p4, iv w0_1, iv w0_2, iv w0_3, iv w0_4, iv w0_5, rv b115, rv b117, iv w0_18, iv (0:Int32), iv (1:Int32)]) rfl ?_
                  rw [hw0_19.trans (((if_neg hm130_32).trans (if_pos hm147_33)).trans (if_neg hm164_34))] at k
                  exact k
              · refine XS.icmpNo X188.here hx rfl (hb hby at_147) rfl (XT.ii_lt_f hm147_33) ?_
                show Steps p.tables e below (T188.setTop (mkF m 150 #[iv p0, iv p1, iv p2, iv p3, iv p4, iv w0_1, iv w0_2, iv w0_3, iv w0_4, iv w0_5, rv b115, rv b117, iv w0_18, iv (0:Int32), .unset] [])) _
                refine XS.iconst X188.here hx rfl (hb hby at_150) ?_
                show Steps p.tables e below (T188.setTop (mkF m 151 #[iv p0, iv p1, iv p2, iv p3, iv p4, iv w0_1, iv w0_2, iv w0_3, iv w0_4, iv w0_5, rv b115, rv b117, iv w0_18, iv (0:Int32), .unset] [(.int (1:Int32))])) _
                refine XS.istore X188.here hx rfl (hb hby at_151) rfl (l' := #[iv p0, iv p1, iv p2, iv p3, iv p4, iv w0_1, iv w0_2, iv w0_3, iv w0_4, iv w0_5, rv b115, rv b117, iv w0_18, iv (0:Int32), iv (1:Int32)]) rfl ?_
                show Steps p.tables e below (T188.setTop (mkF m 153 #[iv p0, iv p1, iv p2, iv p3, iv p4, iv w0_1, iv w0_2, iv w0_3, iv w0_4, iv w0_5, rv b115, rv b117, iv w0_18, iv (0:Int32), iv (1:Int32)] [])) _
                refine XS.goto X188.here hx rfl (pc0 := 153) (pc' := 174) rfl (hb hby at_153) (by decide) (by decide) ?_
                rw [hw0_19.trans ((if_neg hm130_32).trans (if_neg hm147_33))] at k
                exact k
          refine own_pre (A := T188.setTop (mkF m 180 #[iv p0, iv p1, iv p2, iv p3, iv p4, iv w0_1, iv w0_2, iv w0_3, iv w0_4, iv w0_5, rv b115, rv b117, iv w0_18, iv (0:Int32), iv w0_19] [(.int w0_5), (.int w0_4), (.ref b117)])) (fun t k => ?_) ?_
          · show Steps p.tables e below (T188.setTop (mkF m 174 #[iv p0, iv p1, iv p2, iv p3, iv p4, iv w0_1, iv w0_2, iv w0_3, iv w0_4, iv w0_5, rv b115, rv b117, iv w0_18, iv (0:Int32), iv w0_19] [])) _
            refine XS.aload X188.here hx rfl (hb hby at_174) rfl rfl ?_
            show Steps p.tables e below (T188.setTop (mkF m 176 #[iv p0, iv p1, iv p2, iv p3, iv p4, iv w0_1, iv w0_2, iv w0_3, iv w0_4, iv w0_5, rv b115, rv b117, iv w0_18, iv (0:Int32), iv w0_19] [(.ref b117)])) _
            refine XS.iload X188.here hx rfl (hb hby at_176) rfl ?_
            show Steps p.tables e below (T188.setTop (mkF m 178 #[iv p0, iv p1, iv p2, iv p3, iv p4, iv w0_1, iv w0_2, iv w0_3, iv w0_4, iv w0_5, rv b115, rv b117, iv w0_18, iv (0:Int32), iv w0_19] [(.int w0_4), (.ref b117)])) _
            refine XS.iload X188.here hx rfl (hb hby at_178) rfl ?_
            exact k
          have F200 := (F189.keep K188)
          obtain ⟨cq199, kq199, q199a, q199b, q199c⟩ := isOf hZ rfl F200
          obtain ⟨_, _, ⟨T199, L199, k199, n199⟩, -, X199, ⟨Lc199, hQ199, l199, y199, z199⟩, st199⟩ := X188.virtualBack hx (y := (⟨"com/example/fanout4/fanout4/xdm/RecordedEvents", "isFullFor", "(II)Z"⟩ : MethodName)) (z := (⟨"com/example/fanout4/fanout4/xdm/RecordedEvents", "isFullFor", "(II)Z"⟩ : MethodName)) hown (mvT hZ (own_h hw 44 rfl)) (mvT hZ (own_h hw 45 rfl)) (notFace_of_selects (args := #[]) (mvT hZ (own_h hw 47 rfl))) (mvT hZ (own_h hw 47 rfl)) (mvT hZ (own_h hw 46 rfl)) (by decide) (backOf (W := 0) (rm6 l Z aZ hw [] b117 w0_4 w0_5 (1:Int32) (0:Int32) T188.heap n0 Z196 G197 G194) hZ (own_h hw 48 rfl) (own_h hw 4 rfl) (by decide) (by decide)) q199a q199c (g := (mkF m 180 #[iv p0, iv p1, iv p2, iv p3, iv p4, iv w0_1, iv w0_2, iv w0_3, iv w0_4, iv w0_5, rv b115, rv b117, iv w0_18, iv (0:Int32), iv w0_19] [(.int w0_5), (.int w0_4), (.ref b117)])) rfl (by rw [hml]; rfl) (Steps.refl _) (argsL := [(.int w0_4), (.int w0_5)]) (rest := []) (lenOf own_pd3 rfl) rfl (by show 2 * 0 + _ ≤ _; exact Nat.le_of_eq rfl) (hb hby at_180) (fun _ _ => ⟨rfl, rfl, (by decide : 6 + 0 ≤ _), (by decide : 1494 + 0 ≤ _)⟩)
          dsimp only [Pt.U, Pt.locs, Pt.cells, Pt.slots] at X199 l199 y199 z199 st199 hQ199
          subst l199 y199 z199
          obtain ⟨rfl, N199q, eh199⟩ := hQ199
          have N199 := Fr.app N188 N199q
          refine own_pre (fun _ k => st199.trans k) ?_
          refine own_pre (A := T199.setTop (mkF m 185 #[iv p0, iv p1, iv p2, iv p3, iv p4, iv w0_1, iv w0_2, iv w0_3, iv w0_4, iv w0_5, rv b115, rv b117, iv w0_18, iv (0:Int32), iv w0_19] [(.int w0_19), (.int (f6 w0_4 w0_5 (1:Int32) (0:Int32)))])) (fun t k => ?_) ?_
          · show Steps p.tables e below (T199.setTop (mkF m 183 #[iv p0, iv p1, iv p2, iv p3, iv p4, iv w0_1, iv w0_2, iv w0_3, iv w0_4, iv w0_5, rv b115, rv b117, iv w0_18, iv (0:Int32), iv w0_19] [(.int (f6 w0_4 w0_5 (1:Int32) (0:Int32)))])) _
            refine XS.iload X199.here hx rfl (hb hby at_183) rfl ?_
            exact k
          obtain ⟨w0_20, hw0_20⟩ : ∃ z : Int32, z = (if (f6 w0_4 w0_5 (1:Int32) (0:Int32)) = w0_19 then (1:Int32) else (0:Int32)) := ⟨_, rfl⟩
          refine own_pre (A := T199.setTop (mkF m 193 #[iv p0, iv p1, iv p2, iv p3, iv p4, iv w0_1, iv w0_2, iv w0_3, iv w0_4, iv w0_5, rv b115, rv b117, iv w0_18, iv (0:Int32), iv w0_19] [(.int w0_20)])) (fun t k => ?_) ?_
          · show Steps p.tables e below (T199.setTop (mkF m 185 #[iv p0, iv p1, iv p2, iv p3, iv p4, iv w0_1, iv w0_2, iv w0_3, iv w0_4, iv w0_5, rv b115, rv b117, iv w0_18, iv (0:Int32), iv w0_19] [(.int w0_19), (.int (f6 w0_4 w0_5 (1:Int32) (0:Int32)))])) _
            by_cases hm185_35 : (f6 w0_4 w0_5 (1:Int32) (0:Int32)) = w0_19
            · refine XS.icmpNo X199.here hx rfl (hb hby at_185) rfl (XT.ii_ne_f hm185_35) ?_
              show Steps p.tables e below (T199.setTop (mkF m 188 #[iv p0, iv p1, iv p2, iv p3, iv p4, iv w0_1, iv w0_2, iv w0_3, iv w0_4, iv w0_5, rv b115, rv b117, iv w0_18, iv (0:Int32), iv w0_19] [])) _
              refine XS.iconst X199.here hx rfl (hb hby at_188) ?_
              show Steps p.tables e below (T199.setTop (mkF m 189 #[iv p0, iv p1, iv p2, iv p3, iv p4, iv w0_1, iv w0_2, iv w0_3, iv w0_4, iv w0_5, rv b115, rv b117, iv w0_18, iv (0:Int32), iv w0_19] [(.int (1:Int32))])) _
              refine XS.goto X199.here hx rfl (pc0 := 189) (pc' := 193) rfl (hb hby at_189) (by decide) (by decide) ?_
              rw [hw0_20.trans (if_pos hm185_35)] at k
              exact k
            · refine XS.icmpYes X199.here hx rfl (pc0 := 185) (pc' := 192) rfl (hb hby at_185) rfl (XT.ii_ne_t hm185_35) (by decide) (by decide) ?_
              show Steps p.tables e below (T199.setTop (mkF m 192 #[iv p0, iv p1, iv p2, iv p3, iv p4, iv w0_1, iv w0_2, iv w0_3, iv w0_4, iv w0_5, rv b115, rv b117, iv w0_18, iv (0:Int32), iv w0_19] [])) _
              refine XS.iconst X199.here hx rfl (hb hby at_192) ?_
              rw [hw0_20.trans (if_neg hm185_35)] at k
              exact k
          have hv201 : (w0_20 &&& 1) = f0 p0 p1 p2 p3 p4 := by subst hw0_1 hw0_2 hw0_3 hw0_4 hw0_5 hw0_18 hw0_19 hw0_20; simp only [f0, if_pos hs55_3, if_neg hs66_5, if_pos hs77_29, if_pos hs87_31]
          exact own_end X199 (BodyLoose.notSynchronized Bd) (fun h => by rw [Bd.returns] at h; cases h) (v := some (.int (w0_20 &&& 1))) (fun fs hr => retN X199 hx (t := .boolean) Bd.returns (by simp) (hb hby at_193) hr) (by show Q0 Z p0 p1 p2 p3 p4 h0 n0 _ T199.heap _; rw [eh199]; exact ⟨(congrArg (fun z => some (Value.int z)) hv201), N199⟩) (by decide) (by decide)
        · refine own_pre (A := T188.setTop (mkF m 97 #[iv p0, iv p1, iv p2, iv p3, iv p4, iv w0_1, iv w0_2, iv w0_3, iv w0_4, iv w0_5, rv b115, rv b117, .unset, .unset, .unset] [(.int w0_3), (.int (0:Int32)), (.ref b115), (.ref b117)])) (fun t k => ?_) ?_
          · show Steps p.tables e below (T188.setTop (mkF m 87 #[iv p0, iv p1, iv p2, iv p3, iv p4, iv w0_1, iv w0_2, iv w0_3, iv w0_4, iv w0_5, rv b115, rv b117, .unset, .unset, .unset] [(.int w0_2)])) _
            refine XS.ifNo X188.here hx rfl (hb hby at_87) rfl (XT.i0_eq_f hs87_31) ?_
            show Steps p.tables e below (T188.setTop (mkF m 90 #[iv p0, iv p1, iv p2, iv p3, iv p4, iv w0_1, iv w0_2, iv w0_3, iv w0_4, iv w0_5, rv b115, rv b117, .unset, .unset, .unset] [])) _
            refine XS.aload X188.here hx rfl (hb hby at_90) rfl rfl ?_
            show Steps p.tables e below (T188.setTop (mkF m 92 #[iv p0, iv p1, iv p2, iv p3, iv p4, iv w0_1, iv w0_2, iv w0_3, iv w0_4, iv w0_5, rv b115, rv b117, .unset, .unset, .unset] [(.ref b117)])) _
            refine XS.aload X188.here hx rfl (hb hby at_92) rfl rfl ?_
            show Steps p.tables e below (T188.setTop (mkF m 94 #[iv p0, iv p1, iv p2, iv p3, iv p4, iv w0_1, iv w0_2, iv w0_3, iv w0_4, iv w0_5, rv b115, rv b117, .unset, .unset, .unset] [(.ref b115), (.ref b117)])) _
            refine XS.iconst X188.here hx rfl (hb hby at_94) ?_
            show Steps p.tables e below (T188.setTop (mkF m 95 #[iv p0, iv p1, iv p2, iv p3, iv p4, iv w0_1, iv w0_2, iv w0_3, iv w0_4, iv w0_5, rv b115, rv b117, .unset, .unset, .unset] [(.int (0:Int32)), (.ref b115), (.ref b117)])) _
            refine XS.iload X188.here hx rfl (hb hby at_95) rfl ?_
            exact k
          have F203 := (F189.keep K188)
          have F204 := (G136.keep K188 (ninS (Ne.symm ne143) (ninS (Ne.symm ne127) nin0)))
          have F205 := (G137.keep K188 (ninS (Ne.symm ne146) (ninS (Ne.symm ne128) nin0)))
          have F206 := ((F120.keep K119 (ninS ne_b115_b117 nin0)).keep K188 (ninS ne_b115_b117 (ninS ne139 nin0)))
          obtain ⟨cq202, kq202, q202a, q202b, q202c⟩ := isOf hZ rfl F203
          obtain ⟨_, _, ⟨T202, L202, k202, n202⟩, -, X202, ⟨Lc202, hQ202, l202, y202, z202⟩, st202⟩ := X188.virtualBack hx (y := (⟨"com/example/fanout4/fanout4/xdm/RecordedEvents", "text", "([CII)V"⟩ : MethodName)) (z := (⟨"com/example/fanout4/fanout4/xdm/RecordedEvents", "text", "([CII)V"⟩ : MethodName)) hown (mvT hZ (own_h hw 23 rfl)) (mvT hZ (own_h hw 24 rfl)) (notFace_of_selects (args := #[]) (mvT hZ (own_h hw 26 rfl))) (mvT hZ (own_h hw 26 rfl)) (mvT hZ (own_h hw 25 rfl)) (by decide) (backOf (W := 0) (rm3 l Z aZ hw [] b117 b115 w0_3 kd_121 nb_122 ch_123 own_v171 (1:Int32) (List.replicate 128 (0:Int32)) (List.replicate 1024 (0:Int32)) [(0:Int32), (0:Int32), (0:Int32), (0:Int32), (0:Int32), (0:Int32), (0:Int32), (0:Int32), (0:Int32), (0:Int32), (0:Int32), (0:Int32), (0:Int32), (0:Int32), (0:Int32), (0:Int32)] T188.heap n0 Z196 F203 G190 G191 G192 G197 G194 G198 F204 F205 F206 ne140 ne143 ne146 ne127 ne128 ne129 ne_b115_b117 ne139 ne142 ne145 ge_b117 ge141 ge144 ge147 (by first | (simp; done) | decide +kernel) (by decide) (by first | (simp; done) | decide +kernel) (by first | (simp; done) | decide +kernel) rfl (own_l15 hw0_3)) hZ (own_h hw 27 rfl) (own_h hw 4 rfl) (by decide) (by decide)) q202a q202c (g := (mkF m 97 #[iv p0, iv p1, iv p2, iv p3, iv p4, iv w0_1, iv w0_2, iv w0_3, iv w0_4, iv w0_5, rv b115, rv b117, .unset, .unset, .unset] [(.int w0_3), (.int (0:Int32)), (.ref b115), (.ref b117)])) rfl (by rw [hml]; rfl) (Steps.refl _) (argsL := [(.ref b115), (.int (0:Int32)), (.int w0_3)]) (rest := []) (lenOf own_pd4 rfl) rfl (by show 2 * 0 + _ ≤ _; exact Nat.le_of_eq rfl) (hb hby at_97) (fun _ _ => ⟨rfl, rfl, (by decide : 6 + 0 ≤ _), (by decide : 1494 + 0 ≤ _)⟩)
          dsimp only [Pt.U, Pt.locs, Pt.cells, Pt.slots] at X202 l202 y202 z202 st202 hQ202
          subst l202 y202 z202
          obtain ⟨rfl, N202q, K202, G207, G208⟩ := hQ202
          have N202 := Fr.app N188 N202q
          have Z209 : n0 ≤ T202.heap.size := Nat.le_trans Z196 K202.1
          have G210 : Fld Z T202.heap b117 "com/example/fanout4/fanout4/xdm/RecordedEvents" "size" "I" (.int (2:Int32)) := G207
          refine own_pre (fun _ k => st202.trans k) ?_
          obtain ⟨w0_21, hw0_21⟩ : ∃ z : Int32, z = (w0_1 + (1:Int32)) := ⟨_, rfl⟩
          refine own_pre (A := T202.setTop (mkF m 130 #[iv p0, iv p1, iv p2, iv p3, iv p4, iv w0_1, iv w0_2, iv w0_3, iv w0_4, iv w0_5, rv b115, rv b117, iv w0_21, iv w0_3, .unset] [(.int w0_21)])) (fun t k => ?_) ?_
          · show Steps p.tables e below (T202.setTop (mkF m 100 #[iv p0, iv p1, iv p2, iv p3, iv p4, iv w0_1, iv w0_2, iv w0_3, iv w0_4, iv w0_5, rv b115, rv b117, .unset, .unset, .unset] [])) _
            refine XS.iload X202.here hx rfl (hb hby at_100) rfl ?_
            show Steps p.tables e below (T202.setTop (mkF m 102 #[iv p0, iv p1, iv p2, iv p3, iv p4, iv w0_1, iv w0_2, iv w0_3, iv w0_4, iv w0_5, rv b115, rv b117, .unset, .unset, .unset] [(.int w0_1)])) _
            refine XS.iload X202.here hx rfl (hb hby at_102) rfl ?_
            show Steps p.tables e below (T202.setTop (mkF m 104 #[iv p0, iv p1, iv p2, iv p3, iv p4, iv w0_1, iv w0_2, iv w0_3, iv w0_4, iv w0_5, rv b115, rv b117, .unset, .unset, .unset] [(.int w0_2), (.int w0_1)])) _
            refine XS.ifNo X202.here hx rfl (hb hby at_104) rfl (XT.i0_eq_f hs87_31) ?_
            show Steps p.tables e below (T202.setTop (mkF m 107 #[iv p0, iv p1, iv p2, iv p3, iv p4, iv w0_1, iv w0_2, iv w0_3, iv w0_4, iv w0_5, rv b115, rv b117, .unset, .unset, .unset] [(.int w0_1)])) _
            refine XS.iconst X202.here hx rfl (hb hby at_107) ?_
            show Steps p.tables e below (T202.setTop (mkF m 108 #[iv p0, iv p1, iv p2, iv p3, iv p4, iv w0_1, iv w0_2, iv w0_3, iv w0_4, iv w0_5, rv b115, rv b117, .unset, .unset, .unset] [(.int (1:Int32)), (.int w0_1)])) _
            refine XS.goto X202.here hx rfl (pc0 := 108) (pc' := 112) rfl (hb hby at_108) (by decide) (by decide) ?_
            show Steps p.tables e below (T202.setTop (mkF m 112 #[iv p0, iv p1, iv p2, iv p3, iv p4, iv w0_1, iv w0_2, iv w0_3, iv w0_4, iv w0_5, rv b115, rv b117, .unset, .unset, .unset] [(.int (1:Int32)), (.int w0_1)])) _
            refine XS.iadd X202.here hx rfl (hb hby at_112) rfl ?_
            show Steps p.tables e below (T202.setTop (mkF m 113 #[iv p0, iv p1, iv p2, iv p3, iv p4, iv w0_1, iv w0_2, iv w0_3, iv w0_4, iv w0_5, rv b115, rv b117, .unset, .unset, .unset] [(.int (w0_1 + (1:Int32)))])) _
            refine XS.istore X202.here hx rfl (hb hby at_113) rfl (l' := #[iv p0, iv p1, iv p2, iv p3, iv p4, iv w0_1, iv w0_2, iv w0_3, iv w0_4, iv w0_5, rv b115, rv b117, iv w0_21, .unset, .unset]) (by rw [hw0_21]; rfl) ?_
            show Steps p.tables e below (T202.setTop (mkF m 115 #[iv p0, iv p1, iv p2, iv p3, iv p4, iv w0_1, iv w0_2, iv w0_3, iv w0_4, iv w0_5, rv b115, rv b117, iv w0_21, .unset, .unset] [])) _
            refine XS.iload X202.here hx rfl (hb hby at_115) rfl ?_
            show Steps p.tables e below (T202.setTop (mkF m 117 #[iv p0, iv p1, iv p2, iv p3, iv p4, iv w0_1, iv w0_2, iv w0_3, iv w0_4, iv w0_5, rv b115, rv b117, iv w0_21, .unset, .unset] [(.int w0_2)])) _
            refine XS.ifNo X202.here hx rfl (hb hby at_117) rfl (XT.i0_eq_f hs87_31) ?_
            show Steps p.tables e below (T202.setTop (mkF m 120 #[iv p0, iv p1, iv p2, iv p3, iv p4, iv w0_1, iv w0_2, iv w0_3, iv w0_4, iv w0_5, rv b115, rv b117, iv w0_21, .unset, .unset] [])) _
            refine XS.iload X202.here hx rfl (hb hby at_120) rfl ?_
            show Steps p.tables e below (T202.setTop (mkF m 122 #[iv p0, iv p1, iv p2, iv p3, iv p4, iv w0_1, iv w0_2, iv w0_3, iv w0_4, iv w0_5, rv b115, rv b117, iv w0_21, .unset, .unset] [(.int w0_3)])) _
            refine XS.goto X202.here hx rfl (pc0 := 122) (pc' := 126) rfl (hb hby at_122) (by decide) (by decide) ?_
            show Steps p.tables e below (T202.setTop (mkF m 126 #[iv p0, iv p1, iv p2, iv p3, iv p4, iv w0_1, iv w0_2, iv w0_3, iv w0_4, iv w0_5, rv b115, rv b117, iv w0_21, .unset, .unset] [(.int w0_3)])) _
            refine XS.istore X202.here hx rfl (hb hby at_126) rfl (l' := #[iv p0, iv p1, iv p2, iv p3, iv p4, iv w0_1, iv w0_2, iv w0_3, iv w0_4, iv w0_5, rv b115, rv b117, iv w0_21, iv w0_3, .unset]) rfl ?_
            show Steps p.tables e below (T202.setTop (mkF m 128 #[iv p0, iv p1, iv p2, iv p3, iv p4, iv w0_1, iv w0_2, iv w0_3, iv w0_4, iv w0_5, rv b115, rv b117, iv w0_21, iv w0_3, .unset] [])) _
            refine XS.iload X202.here hx rfl (hb hby at_128) rfl ?_
            exact k
          obtain ⟨w0_22, hw0_22⟩ : ∃ z : Int32, z = (if w0_21 = (0:Int32) then (0:Int32) else (if (w0_21 + w0_4) < (1025:Int32) then (if (w0_3 + w0_5) < (16385:Int32) then (0:Int32) else (1:Int32)) else (1:Int32))) := ⟨_, rfl⟩
          refine own_pre (A := T202.setTop (mkF m 174 #[iv p0, iv p1, iv p2, iv p3, iv p4, iv w0_1, iv w0_2, iv w0_3, iv w0_4, iv w0_5, rv b115, rv b117, iv w0_21, iv w0_3, iv w0_22] [])) (fun t k => ?_) ?_
          · show Steps p.tables e below (T202.setTop (mkF m 130 #[iv p0, iv p1, iv p2, iv p3, iv p4, iv w0_1, iv w0_2, iv w0_3, iv w0_4, iv w0_5, rv b115, rv b117, iv w0_21, iv w0_3, .unset] [(.int w0_21)])) _
            by_cases hm130_36 : w0_21 = (0:Int32)
            · refine XS.ifNo X202.here hx rfl (hb hby at_130) rfl (XT.i0_ne_f hm130_36) ?_
              show Steps p.tables e below (T202.setTop (mkF m 133 #[iv p0, iv p1, iv p2, iv p3, iv p4, iv w0_1, iv w0_2, iv w0_3, iv w0_4, iv w0_5, rv b115, rv b117, iv w0_21, iv w0_3, .unset] [])) _
              refine XS.iconst X202.here hx rfl (hb hby at_133) ?_
              show Steps p.tables e below (T202.setTop (mkF m 134 #[iv p0, iv p1, iv p2, iv p3, iv p4, iv w0_1, iv w0_2, iv w0_3, iv w0_4, iv w0_5, rv b115, rv b117, iv w0_21, iv w0_3, .unset] [(.int (0:Int32))])) _
              refine XS.istore X202.here hx rfl (hb hby at_134) rfl (l' := #[iv p0, iv p1, iv p2, iv p3, iv p4, iv w0_1, iv w0_2, iv w0_3, iv w0_4, iv w0_5, rv b115, rv b117, iv w0_21, iv w0_3, iv (0:Int32)]) rfl ?_
              show Steps p.tables e below (T202.setTop (mkF m 136 #[iv p0, iv p1, iv p2, iv p3, iv p4, iv w0_1, iv w0_2, iv w0_3, iv w0_4, iv w0_5, rv b115, rv b117, iv w0_21, iv w0_3, iv (0:Int32)] [])) _
              refine XS.goto X202.here hx rfl (pc0 := 136) (pc' := 174) rfl (hb hby at_136) (by decide) (by decide) ?_
              rw [hw0_22.trans (if_pos hm130_36)] at k
              exact k
            · refine XS.ifYes X202.here hx rfl (pc0 := 130) (pc' := 139) rfl (hb hby at_130) rfl (XT.i0_ne_t hm130_36) (by decide) (by decide) ?_
              show Steps p.tables e below (T202.setTop (mkF m 139 #[iv p0, iv p1, iv p2, iv p3, iv p4, iv w0_1, iv w0_2, iv w0_3, iv w0_4, iv w0_5, rv b115, rv b117, iv w0_21, iv w0_3, .unset] [])) _
              refine XS.iload X202.here hx rfl (hb hby at_139) rfl ?_
              show Steps p.tables e below (T202.setTop (mkF m 141 #[iv p0, iv p1, iv p2, iv p3, iv p4, iv w0_1, iv w0_2, iv w0_3, iv w0_4, iv w0_5, rv b115, rv b117, iv w0_21, iv w0_3, .unset] [(.int w0_21)])) _
              refine XS.iload X202.here hx rfl (hb hby at_141) rfl ?_
              show Steps p.tables e below (T202.setTop (mkF m 143 #[iv p0, iv p1, iv p2, iv p3, iv p4, iv w0_1, iv w0_2, iv w0_3, iv w0_4, iv w0_5, rv b115, rv b117, iv w0_21, iv w0_3, .unset] [(.int w0_4), (.int w0_21)])) _
              refine XS.iadd X202.here hx rfl (hb hby at_143) rfl ?_
              show Steps p.tables e below (T202.setTop (mkF m 144 #[iv p0, iv p1, iv p2, iv p3, iv p4, iv w0_1, iv w0_2, iv w0_3, iv w0_4, iv w0_5, rv b115, rv b117, iv w0_21, iv w0_3, .unset] [(.int (w0_21 + w0_4))])) _
              refine XS.sipush X202.here hx rfl (hb hby at_144) ?_
              show Steps p.tables e below (T202.setTop (mkF m 147 #[iv p0, iv p1, iv p2, iv p3, iv p4, iv w0_1, iv w0_2, iv w0_3, iv w0_4, iv w0_5, rv b115, rv b117, iv w0_21, iv w0_3, .unset] [(.int (1025:Int32)), (.int (w0_21 + w0_4))])) _
              by_cases hm147_37 : (w0_21 + w0_4) < (1025:Int32)
              · refine XS.icmpYes X202.here hx rfl (pc0 := 147) (pc' := 156) rfl (hb hby at_147) rfl (XT.ii_lt_t hm147_37) (by decide) (by decide) ?_
                show Steps p.tables e below (T202.setTop (mkF m 156 #[iv p0, iv p1, iv p2, iv p3, iv p4, iv w0_1, iv w0_2, iv w0_3, iv w0_4, iv w0_5, rv b115, rv b117, iv w0_21, iv w0_3, .unset] [])) _
                refine XS.iload X202.here hx rfl (hb hby at_156) rfl ?_
                show Steps p.tables e below (T202.setTop (mkF m 158 #[iv p0, iv p1, iv p2, iv p3, iv p4, iv w0_1, iv w0_2, iv w0_3, iv w0_4, iv w0_5, rv b115, rv b117, iv w0_21, iv w0_3, .unset] [(.int w0_3)])) _
                refine XS.iload X202.here hx rfl (hb hby at_158) rfl ?_
                show Steps p.tables e below (T202.setTop (mkF m 160 #[iv p0, iv p1, iv p2, iv p3, iv p4, iv w0_1, iv w0_2, iv w0_3, iv w0_4, iv w0_5, rv b115, rv b117, iv w0_21, iv w0_3, .unset] [(.int w0_5), (.int w0_3)])) _
                refine XS.iadd X202.here hx rfl (hb hby at_160) rfl ?_
                show Steps p.tables e below (T202.setTop (mkF m 161 #[iv p0, iv p1, iv p2, iv p3, iv p4, iv w0_1, iv w0_2, iv w0_3, iv w0_4, iv w0_5, rv b115, rv b117, iv w0_21, iv w0_3, .unset] [(.int (w0_3 + w0_5))])) _
                refine XS.sipush X202.here hx rfl (hb hby at_161) ?_
                show Steps p.tables e below (T202.setTop (mkF m 164 #[iv p0, iv p1, iv p2, iv p3, iv p4, iv w0_1, iv w0_2, iv w0_3, iv w0_4, iv w0_5, rv b115, rv b117, iv w0_21, iv w0_3, .unset] [(.int (16385:Int32)), (.int (w0_3 + w0_5))])) _
                by_cases hm164_38 : (w0_3 + w0_5) < (16385:Int32)
                · refine XS.icmpYes X202.here hx rfl (pc0 := 164) (pc' := 171) rfl (hb hby at_164) rfl (XT.ii_lt_t hm164_38) (by decide) (by decide) ?_
                  show Steps p.tables e below (T202.setTop (mkF m 171 #[iv p0, iv p1, iv p2, iv p3, iv p4, iv w0_1, iv w0_2, iv w0_3, iv w0_4, iv w0_5, rv b115, rv b117, iv w0_21, iv w0_3, .unset] [])) _
                  refine XS.iconst X202.here hx rfl (hb hby at_171) ?_
                  show Steps p.tables e below (T202.setTop (mkF m 172 #[iv p0, iv p1, iv p2, iv p3, iv p4, iv w0_1, iv w0_2, iv w0_3, iv w0_4, iv w0_5, rv b115, rv b117, iv w0_21, iv w0_3, .unset] [(.int (0:Int32))])) _
                  refine XS.istore X202.here hx rfl (hb hby at_172) rfl (l' := #[iv p0, iv p1, iv p2, iv p3, iv p4, iv w0_1, iv w0_2, iv w0_3, iv w0_4, iv w0_5, rv b115, rv b117, iv w0_21, iv w0_3, iv (0:Int32)]) rfl ?_
                  rw [hw0_22.trans (((if_neg hm130_36).trans (if_pos hm147_37)).trans (if_pos hm164_38))] at k
                  exact k
                · refine XS.icmpNo X202.here hx rfl (hb hby at_164) rfl (XT.ii_lt_f hm164_38) ?_
                  show Steps p.tables e below (T202.setTop (mkF m 167 #[iv p0, iv p1, iv p2, iv p3, iv p4, iv w0_1, iv w0_2, iv w0_3, iv w0_4, iv w0_5, rv b115, rv b117, iv w0_21, iv w0_3, .unset] [])) _
                  refine XS.iconst X202.here hx rfl (hb hby at_167) ?_
                  show Steps p.tables e below (T202.setTop (mkF m 168 #[iv p0, iv p1, iv p2, iv p3, iv p4, iv w0_1, iv w0_2, iv w0_3, iv w0_4, iv w0_5, rv b115, rv b117, iv w0_21, iv w0_3, .unset] [(.int (1:Int32))])) _
                  refine XS.goto X202.here hx rfl (pc0 := 168) (pc' := 172) rfl (hb hby at_168) (by decide) (by decide) ?_
                  show Steps p.tables e below (T202.setTop (mkF m 172 #[iv p0, iv p1, iv p2, iv p3, iv p4, iv w0_1, iv w0_2, iv w0_3, iv w0_4, iv w0_5, rv b115, rv b117, iv w0_21, iv w0_3, .unset] [(.int (1:Int32))])) _
                  refine XS.istore X202.here hx rfl (hb hby at_172) rfl (l' := #[iv p0, iv p1, iv p2, iv p3, iv p4, iv w0_1, iv w0_2, iv w0_3, iv w0_4, iv w0_5, rv b115, rv b117, iv w0_21, iv w0_3, iv (1:Int32)]) rfl ?_
                  rw [hw0_22.trans (((if_neg hm130_36).trans (if_pos hm147_37)).trans (if_neg hm164_38))] at k
                  exact k
              · refine XS.icmpNo X202.here hx rfl (hb hby at_147) rfl (XT.ii_lt_f hm147_37) ?_
                show Steps p.tables e below (T202.setTop (mkF m 150 #[iv p0, iv p1, iv p2, iv p3, iv p4, iv w0_1, iv w0_2, iv w0_3, iv w0_4, iv w0_5, rv b115, rv b117, iv w0_21, iv w0_3, .unset] [])) _
                refine XS.iconst X202.here hx rfl (hb hby at_150) ?_
                show Steps p.tables e below (T202.setTop (mkF m 151 #[iv p0, iv p1, iv p2, iv p3, iv p4, iv w0_1, iv w0_2, iv w0_3, iv w0_4, iv w0_5, rv b115, rv b117, iv w0_21, iv w0_3, .unset] [(.int (1:Int32))])) _
                refine XS.istore X202.here hx rfl (hb hby at_151) rfl (l' := #[iv p0, iv p1, iv p2, iv p3, iv p4, iv w0_1, iv w0_2, iv w0_3, iv w0_4, iv w0_5, rv b115, rv b117, iv w0_21, iv w0_3, iv (1:Int32)]) rfl ?_
                show Steps p.tables e below (T202.setTop (mkF m 153 #[iv p0, iv p1, iv p2, iv p3, iv p4, iv w0_1, iv w0_2, iv w0_3, iv w0_4, iv w0_5, rv b115, rv b117, iv w0_21, iv w0_3, iv (1:Int32)] [])) _
                refine XS.goto X202.here hx rfl (pc0 := 153) (pc' := 174) rfl (hb hby at_153) (by decide) (by decide) ?_
                rw [hw0_22.trans ((if_neg hm130_36).trans (if_neg hm147_37))] at k
                exact k
          refine own_pre (A := T202.setTop (mkF m 180 #[iv p0, iv p1, iv p2, iv p3, iv p4, iv w0_1, iv w0_2, iv w0_3, iv w0_4, iv w0_5, rv b115, rv b117, iv w0_21, iv w0_3, iv w0_22] [(.int w0_5), (.int w0_4), (.ref b117)])) (fun t k => ?_) ?_
          · show Steps p.tables e below (T202.setTop (mkF m 174 #[iv p0, iv p1, iv p2, iv p3, iv p4, iv w0_1, iv w0_2, iv w0_3, iv w0_4, iv w0_5, rv b115, rv b117, iv w0_21, iv w0_3, iv w0_22] [])) _
            refine XS.aload X202.here hx rfl (hb hby at_174) rfl rfl ?_
            show Steps p.tables e below (T202.setTop (mkF m 176 #[iv p0, iv p1, iv p2, iv p3, iv p4, iv w0_1, iv w0_2, iv w0_3, iv w0_4, iv w0_5, rv b115, rv b117, iv w0_21, iv w0_3, iv w0_22] [(.ref b117)])) _
            refine XS.iload X202.here hx rfl (hb hby at_176) rfl ?_
            show Steps p.tables e below (T202.setTop (mkF m 178 #[iv p0, iv p1, iv p2, iv p3, iv p4, iv w0_1, iv w0_2, iv w0_3, iv w0_4, iv w0_5, rv b115, rv b117, iv w0_21, iv w0_3, iv w0_22] [(.int w0_4), (.ref b117)])) _
            refine XS.iload X202.here hx rfl (hb hby at_178) rfl ?_
            exact k
          have F212 := (F203.keep K202)
          obtain ⟨cq211, kq211, q211a, q211b, q211c⟩ := isOf hZ rfl F212
          obtain ⟨_, _, ⟨T211, L211, k211, n211⟩, -, X211, ⟨Lc211, hQ211, l211, y211, z211⟩, st211⟩ := X202.virtualBack hx (y := (⟨"com/example/fanout4/fanout4/xdm/RecordedEvents", "isFullFor", "(II)Z"⟩ : MethodName)) (z := (⟨"com/example/fanout4/fanout4/xdm/RecordedEvents", "isFullFor", "(II)Z"⟩ : MethodName)) hown (mvT hZ (own_h hw 44 rfl)) (mvT hZ (own_h hw 45 rfl)) (notFace_of_selects (args := #[]) (mvT hZ (own_h hw 47 rfl))) (mvT hZ (own_h hw 47 rfl)) (mvT hZ (own_h hw 46 rfl)) (by decide) (backOf (W := 0) (rm6 l Z aZ hw [] b117 w0_4 w0_5 (2:Int32) ((0:Int32) + w0_3) T202.heap n0 Z209 G210 G208) hZ (own_h hw 48 rfl) (own_h hw 4 rfl) (by decide) (by decide)) q211a q211c (g := (mkF m 180 #[iv p0, iv p1, iv p2, iv p3, iv p4, iv w0_1, iv w0_2, iv w0_3, iv w0_4, iv w0_5, rv b115, rv b117, iv w0_21, iv w0_3, iv w0_22] [(.int w0_5), (.int w0_4), (.ref b117)])) rfl (by rw [hml]; rfl) (Steps.refl _) (argsL := [(.int w0_4), (.int w0_5)]) (rest := []) (lenOf own_pd3 rfl) rfl (by show 2 * 0 + _ ≤ _; exact Nat.le_of_eq rfl) (hb hby at_180) (fun _ _ => ⟨rfl, rfl, (by decide : 6 + 0 ≤ _), (by decide : 1494 + 0 ≤ _)⟩)
          dsimp only [Pt.U, Pt.locs, Pt.cells, Pt.slots] at X211 l211 y211 z211 st211 hQ211
          subst l211 y211 z211
          obtain ⟨rfl, N211q, eh211⟩ := hQ211
          have N211 := Fr.app N202 N211q
          refine own_pre (fun _ k => st211.trans k) ?_
          refine own_pre (A := T211.setTop (mkF m 185 #[iv p0, iv p1, iv p2, iv p3, iv p4, iv w0_1, iv w0_2, iv w0_3, iv w0_4, iv w0_5, rv b115, rv b117, iv w0_21, iv w0_3, iv w0_22] [(.int w0_22), (.int (f6 w0_4 w0_5 (2:Int32) ((0:Int32) + w0_3)))])) (fun t k => ?_) ?_
          · show Steps p.tables e below (T211.setTop (mkF m 183 #[iv p0, iv p1, iv p2, iv p3, iv p4, iv w0_1, iv w0_2, iv w0_3, iv w0_4, iv w0_5, rv b115, rv b117, iv w0_21, iv w0_3, iv w0_22] [(.int (f6 w0_4 w0_5 (2:Int32) ((0:Int32) + w0_3)))])) _
            refine XS.iload X211.here hx rfl (hb hby at_183) rfl ?_
            exact k
          obtain ⟨w0_23, hw0_23⟩ : ∃ z : Int32, z = (if (f6 w0_4 w0_5 (2:Int32) ((0:Int32) + w0_3)) = w0_22 then (1:Int32) else (0:Int32)) := ⟨_, rfl⟩
          refine own_pre (A := T211.setTop (mkF m 193 #[iv p0, iv p1, iv p2, iv p3, iv p4, iv w0_1, iv w0_2, iv w0_3, iv w0_4, iv w0_5, rv b115, rv b117, iv w0_21, iv w0_3, iv w0_22] [(.int w0_23)])) (fun t k => ?_) ?_
          · show Steps p.tables e below (T211.setTop (mkF m 185 #[iv p0, iv p1, iv p2, iv p3, iv p4, iv w0_1, iv w0_2, iv w0_3, iv w0_4, iv w0_5, rv b115, rv b117, iv w0_21, iv w0_3, iv w0_22] [(.int w0_22), (.int (f6 w0_4 w0_5 (2:Int32) ((0:Int32) + w0_3)))])) _
            by_cases hm185_39 : (f6 w0_4 w0_5 (2:Int32) ((0:Int32) + w0_3)) = w0_22
            · refine XS.icmpNo X211.here hx rfl (hb hby at_185) rfl (XT.ii_ne_f hm185_39) ?_
              show Steps p.tables e below (T211.setTop (mkF m 188 #[iv p0, iv p1, iv p2, iv p3, iv p4, iv w0_1, iv w0_2, iv w0_3, iv w0_4, iv w0_5, rv b115, rv b117, iv w0_21, iv w0_3, iv w0_22] [])) _
              refine XS.iconst X211.here hx rfl (hb hby at_188) ?_
              show Steps p.tables e below (T211.setTop (mkF m 189 #[iv p0, iv p1, iv p2, iv p3, iv p4, iv w0_1, iv w0_2, iv w0_3, iv w0_4, iv w0_5, rv b115, rv b117, iv w0_21, iv w0_3, iv w0_22] [(.int (1:Int32))])) _
              refine XS.goto X211.here hx rfl (pc0 := 189) (pc' := 193) rfl (hb hby at_189) (by decide) (by decide) ?_
              rw [hw0_23.trans (if_pos hm185_39)] at k
              exact k
            · refine XS.icmpYes X211.here hx rfl (pc0 := 185) (pc' := 192) rfl (hb hby at_185) rfl (XT.ii_ne_t hm185_39) (by decide) (by decide) ?_
              show Steps p.tables e below (T211.setTop (mkF m 192 #[iv p0, iv p1, iv p2, iv p3, iv p4, iv w0_1, iv w0_2, iv w0_3, iv w0_4, iv w0_5, rv b115, rv b117, iv w0_21, iv w0_3, iv w0_22] [])) _
              refine XS.iconst X211.here hx rfl (hb hby at_192) ?_
              rw [hw0_23.trans (if_neg hm185_39)] at k
              exact k
          have hv213 : (w0_23 &&& 1) = f0 p0 p1 p2 p3 p4 := by subst hw0_1 hw0_2 hw0_3 hw0_4 hw0_5 hw0_21 hw0_22 hw0_23; simp only [f0, if_pos hs55_3, if_neg hs66_5, if_pos hs77_29, if_neg hs87_31]
          exact own_end X211 (BodyLoose.notSynchronized Bd) (fun h => by rw [Bd.returns] at h; cases h) (v := some (.int (w0_23 &&& 1))) (fun fs hr => retN X211 hx (t := .boolean) Bd.returns (by simp) (hb hby at_193) hr) (by show Q0 Z p0 p1 p2 p3 p4 h0 n0 _ T211.heap _; rw [eh211]; exact ⟨(congrArg (fun z => some (Value.int z)) hv213), N211⟩) (by decide) (by decide)
      · refine own_pre (A := T188.setTop (mkF m 82 #[iv p0, iv p1, iv p2, iv p3, iv p4, iv w0_1, iv w0_2, iv w0_3, iv w0_4, iv w0_5, rv b115, rv b117, .unset, .unset, .unset] [(.ref b117)])) (fun t k => ?_) ?_
        · show Steps p.tables e below (T188.setTop (mkF m 77 #[iv p0, iv p1, iv p2, iv p3, iv p4, iv w0_1, iv w0_2, iv w0_3, iv w0_4, iv w0_5, rv b115, rv b117, .unset, .unset, .unset] [(.int (3:Int32)), (.int w0_1)])) _
          refine XS.icmpNo X188.here hx rfl (hb hby at_77) rfl (XT.ii_lt_f hs77_29) ?_
          show Steps p.tables e below (T188.setTop (mkF m 80 #[iv p0, iv p1, iv p2, iv p3, iv p4, iv w0_1, iv w0_2, iv w0_3, iv w0_4, iv w0_5, rv b115, rv b117, .unset, .unset, .unset] [])) _
          refine XS.aload X188.here hx rfl (hb hby at_80) rfl rfl ?_
          exact k
        have F215 := (F189.keep K188)
        obtain ⟨cq214, kq214, q214a, q214b, q214c⟩ := isOf hZ rfl F215
        obtain ⟨_, _, ⟨T214, L214, k214, n214⟩, -, X214, ⟨Lc214, hQ214, l214, y214, z214⟩, st214⟩ := X188.virtualBack hx (y := (⟨"com/example/fanout4/fanout4/xdm/RecordedEvents", "endTag", "()V"⟩ : MethodName)) (z := (⟨"com/example/fanout4/fanout4/xdm/RecordedEvents", "endTag", "()V"⟩ : MethodName)) hown (mvT hZ (own_h hw 49 rfl)) (mvT hZ (own_h hw 50 rfl)) (notFace_of_selects (args := #[]) (mvT hZ (own_h hw 52 rfl))) (mvT hZ (own_h hw 52 rfl)) (mvT hZ (own_h hw 51 rfl)) (by decide) (backOf (W := 0) (rm7 l Z aZ hw [] b117 kd_121 nb_122 ch_123 own_v171 (1:Int32) (0:Int32) T188.heap n0 Z196 F215 G190 G191 G192 G197 G194 G198 ne140 ge_b117 ge141 (by first | (simp; done) | decide +kernel) (by decide)) hZ (own_h hw 53 rfl) (own_h hw 4 rfl) (by decide) (by decide)) q214a q214c (g := (mkF m 82 #[iv p0, iv p1, iv p2, iv p3, iv p4, iv w0_1, iv w0_2, iv w0_3, iv w0_4, iv w0_5, rv b115, rv b117, .unset, .unset, .unset] [(.ref b117)])) rfl (by rw [hml]; rfl) (Steps.refl _) (argsL := []) (rest := []) (lenOf own_pd2 rfl) rfl (by show 2 * 0 + _ ≤ _; exact Nat.le_of_eq rfl) (hb hby at_82) (fun _ _ => ⟨rfl, rfl, (by decide : 6 + 0 ≤ _), (by decide : 1494 + 0 ≤ _)⟩)
        dsimp only [Pt.U, Pt.locs, Pt.cells, Pt.slots] at X214 l214 y214 z214 st214 hQ214
        subst l214 y214 z214
        obtain ⟨rfl, N214q, K214, G216, G217, G218, G219, G220, G221⟩ := hQ214
        have N214 := Fr.app N188 N214q
        have Z222 : n0 ≤ T214.heap.size := Nat.le_trans Z196 K214.1
        have G223 : Fld Z T214.heap b117 "com/example/fanout4/fanout4/xdm/RecordedEvents" "size" "I" (.int (2:Int32)) := G219
        refine own_pre (fun _ k => st214.trans k) ?_
        refine own_pre (A := T214.setTop (mkF m 87 #[iv p0, iv p1, iv p2, iv p3, iv p4, iv w0_1, iv w0_2, iv w0_3, iv w0_4, iv w0_5, rv b115, rv b117, .unset, .unset, .unset] [(.int w0_2)])) (fun t k => ?_) ?_
        · show Steps p.tables e below (T214.setTop (mkF m 85 #[iv p0, iv p1, iv p2, iv p3, iv p4, iv w0_1, iv w0_2, iv w0_3, iv w0_4, iv w0_5, rv b115, rv b117, .unset, .unset, .unset] [])) _
          refine XS.iload X214.here hx rfl (hb hby at_85) rfl ?_
          exact k
        by_cases hs87_41 : w0_2 = (0:Int32)
        · obtain ⟨w0_24, hw0_24⟩ : ∃ z : Int32, z = (w0_1 + (0:Int32)) := ⟨_, rfl⟩
          refine own_pre (A := T214.setTop (mkF m 130 #[iv p0, iv p1, iv p2, iv p3, iv p4, iv w0_1, iv w0_2, iv w0_3, iv w0_4, iv w0_5, rv b115, rv b117, iv w0_24, iv (0:Int32), .unset] [(.int w0_24)])) (fun t k => ?_) ?_
          · show Steps p.tables e below (T214.setTop (mkF m 87 #[iv p0, iv p1, iv p2, iv p3, iv p4, iv w0_1, iv w0_2, iv w0_3, iv w0_4, iv w0_5, rv b115, rv b117, .unset, .unset, .unset] [(.int w0_2)])) _
            refine XS.ifYes X214.here hx rfl (pc0 := 87) (pc' := 100) rfl (hb hby at_87) rfl (XT.i0_eq_t hs87_41) (by decide) (by decide) ?_
            show Steps p.tables e below (T214.setTop (mkF m 100 #[iv p0, iv p1, iv p2, iv p3, iv p4, iv w0_1, iv w0_2, iv w0_3, iv w0_4, iv w0_5, rv b115, rv b117, .unset, .unset, .unset] [])) _
            refine XS.iload X214.here hx rfl (hb hby at_100) rfl ?_
            show Steps p.tables e below (T214.setTop (mkF m 102 #[iv p0, iv p1, iv p2, iv p3, iv p4, iv w0_1, iv w0_2, iv w0_3, iv w0_4, iv w0_5, rv b115, rv b117, .unset, .unset, .unset] [(.int w0_1)])) _
            refine XS.iload X214.here hx rfl (hb hby at_102) rfl ?_
            show Steps p.tables e below (T214.setTop (mkF m 104 #[iv p0, iv p1, iv p2, iv p3, iv p4, iv w0_1, iv w0_2, iv w0_3, iv w0_4, iv w0_5, rv b115, rv b117, .unset, .unset, .unset] [(.int w0_2), (.int w0_1)])) _
            refine XS.ifYes X214.here hx rfl (pc0 := 104) (pc' := 111) rfl (hb hby at_104) rfl (XT.i0_eq_t hs87_41) (by decide) (by decide) ?_
            show Steps p.tables e below (T214.setTop (mkF m 111 #[iv p0, iv p1, iv p2, iv p3, iv p4, iv w0_1, iv w0_2, iv w0_3, iv w0_4, iv w0_5, rv b115, rv b117, .unset, .unset, .unset] [(.int w0_1)])) _
            refine XS.iconst X214.here hx rfl (hb hby at_111) ?_
            show Steps p.tables e below (T214.setTop (mkF m 112 #[iv p0, iv p1, iv p2, iv p3, iv p4, iv w0_1, iv w0_2, iv w0_3, iv w0_4, iv w0_5, rv b115, rv b117, .unset, .unset, .unset] [(.int (0:Int32)), (.int w0_1)])) _
            refine XS.iadd X214.here hx rfl (hb hby at_112) rfl ?_
            show Steps p.tables e below (T214.setTop (mkF m 113 #[iv p0, iv p1, iv p2, iv p3, iv p4, iv w0_1, iv w0_2, iv w0_3, iv w0_4, iv w0_5, rv b115, rv b117, .unset, .unset, .unset] [(.int (w0_1 + (0:Int32)))])) _
            refine XS.istore X214.here hx rfl (hb hby at_113) rfl (l' := #[iv p0, iv p1, iv p2, iv p3, iv p4, iv w0_1, iv w0_2, iv w0_3, iv w0_4, iv w0_5, rv b115, rv b117, iv w0_24, .unset, .unset]) (by rw [hw0_24]; rfl) ?_
            show Steps p.tables e below (T214.setTop (mkF m 115 #[iv p0, iv p1, iv p2, iv p3, iv p4, iv w0_1, iv w0_2, iv w0_3, iv w0_4, iv w0_5, rv b115, rv b117, iv w0_24, .unset, .unset] [])) _
            refine XS.iload X214.here hx rfl (hb hby at_115) rfl ?_
            show Steps p.tables e below (T214.setTop (mkF m 117 #[iv p0, iv p1, iv p2, iv p3, iv p4, iv w0_1, iv w0_2, iv w0_3, iv w0_4, iv w0_5, rv b115, rv b117, iv w0_24, .unset, .unset] [(.int w0_2)])) _
            refine XS.ifYes X214.here hx rfl (pc0 := 117) (pc' := 125) rfl (hb hby at_117) rfl (XT.i0_eq_t hs87_41) (by decide) (by decide) ?_
            show Steps p.tables e below (T214.setTop (mkF m 125 #[iv p0, iv p1, iv p2, iv p3, iv p4, iv w0_1, iv w0_2, iv w0_3, iv w0_4, iv w0_5, rv b115, rv b117, iv w0_24, .unset, .unset] [])) _
            refine XS.iconst X214.here hx rfl (hb hby at_125) ?_
            show Steps p.tables e below (T214.setTop (mkF m 126 #[iv p0, iv p1, iv p2, iv p3, iv p4, iv w0_1, iv w0_2, iv w0_3, iv w0_4, iv w0_5, rv b115, rv b117, iv w0_24, .unset, .unset] [(.int (0:Int32))])) _
            refine XS.istore X214.here hx rfl (hb hby at_126) rfl (l' := #[iv p0, iv p1, iv p2, iv p3, iv p4, iv w0_1, iv w0_2, iv w0_3, iv w0_4, iv w0_5, rv b115, rv b117, iv w0_24, iv (0:Int32), .unset]) rfl ?_
            show Steps p.tables e below (T214.setTop (mkF m 128 #[iv p0, iv p1, iv p2, iv p3, iv p4, iv w0_1, iv w0_2, iv w0_3, iv w0_4, iv w0_5, rv b115, rv b117, iv w0_24, iv (0:Int32), .unset] [])) _
            refine XS.iload X214.here hx rfl (hb hby at_128) rfl ?_
            exact k
          obtain ⟨w0_25, hw0_25⟩ : ∃ z : Int32, z = (if w0_24 = (0:Int32) then (0:Int32) else (if (w0_24 + w0_4) < (1025:Int32) then (if ((0:Int32) + w0_5) < (16385:Int32) then (0:Int32) else (1:Int32)) else (1:Int32))) := ⟨_, rfl⟩
          refine own_pre (A := T214.setTop (mkF m 174 #[iv p0, iv p1, iv p2, iv p3, iv p4, iv w0_1, iv w0_2, iv w0_3, iv w0_4, iv w0_5, rv b115, rv b117, iv w0_24, iv (0:Int32), iv w0_25] [])) (fun t k => ?_) ?_
          · show Steps p.tables e below (T214.setTop (mkF m 130 #[iv p0, iv p1, iv p2, iv p3, iv p4, iv w0_1, iv w0_2, iv w0_3, iv w0_4, iv w0_5, rv b115, rv b117, iv w0_24, iv (0:Int32), .unset] [(.int w0_24)])) _
            by_cases hm130_42 : w0_24 = (0:Int32)
            · refine XS.ifNo X214.here hx rfl (hb hby at_130) rfl (XT.i0_ne_f hm130_42) ?_
              show Steps p.tables e below (T214.setTop (mkF m 133 #[iv p0, iv p1, iv p2, iv p3, iv p4, iv w0_1, iv w0_2, iv w0_3, iv w0_4, iv w0_5, rv b115, rv b117, iv w0_24, iv (0:Int32), .unset] [])) _
              refine XS.iconst X214.here hx rfl (hb hby at_133) ?_
              show Steps p.tables e below (T214.setTop (mkF m 134 #[iv p0, iv p1, iv p2, iv p3, iv p4, iv w0_1, iv w0_2, iv w0_3, iv w0_4, iv w0_5, rv b115, rv b117, iv w0_24, iv (0:Int32), .unset] [(.int (0:Int32))])) _
              refine XS.istore X214.here hx rfl (hb hby at_134) rfl (l' := #[iv p0, iv p1, iv p2, iv p3, iv p4, iv w0_1, iv w0_2, iv w0_3, iv w0_4, iv w0_5, rv b115, rv b117, iv w0_24, iv (0:Int32), iv (0:Int32)]) rfl ?_
              show Steps p.tables e below (T214.setTop (mkF m 136 #[iv p0, iv p1, iv p2, iv p3, iv p4, iv w0_1, iv w0_2, iv w0_3, iv w0_4, iv w0_5, rv b115, rv b117, iv w0_24, iv (0:Int32), iv (0:Int32)] [])) _
              refine XS.goto X214.here hx rfl (pc0 := 136) (pc' := 174) rfl (hb hby at_136) (by decide) (by decide) ?_
              rw [hw0_25.trans (if_pos hm130_42)] at k
              exact k
            · refine XS.ifYes X214.here hx rfl (pc0 := 130) (pc' := 139) rfl (hb hby at_130) rfl (XT.i0_ne_t hm130_42) (by decide) (by decide) ?_
              show Steps p.tables e below (T214.setTop (mkF m 139 #[iv p0, iv p1, iv p2, iv p3, iv p4, iv w0_1, iv w0_2, iv w0_3, iv w0_4, iv w0_5, rv b115, rv b117, iv w0_24, iv (0:Int32), .unset] [])) _
              refine XS.iload X214.here hx rfl (hb hby at_139) rfl ?_
              show Steps p.tables e below (T214.setTop (mkF m 141 #[iv p0, iv p1, iv p2, iv p3, iv p4, iv w0_1, iv w0_2, iv w0_3, iv w0_4, iv w0_5, rv b115, rv b117, iv w0_24, iv (0:Int32), .unset] [(.int w0_24)])) _
              refine XS.iload X214.here hx rfl (hb hby at_141) rfl ?_
              show Steps p.tables e below (T214.setTop (mkF m 143 #[iv p0, iv p1, iv p2, iv p3, iv p4, iv w0_1, iv w0_2, iv w0_3, iv w0_4, iv w0_5, rv b115, rv b117, iv w0_24, iv (0:Int32), .unset] [(.int w0_4), (.int w0_24)])) _
              refine XS.iadd X214.here hx rfl (hb hby at_143) rfl ?_
              show Steps p.tables e below (T214.setTop (mkF m 144 #[iv p0, iv p1, iv p2, iv p3, iv p4, iv w0_1, iv w0_2, iv w0_3, iv w0_4, iv w0_5, rv b115, rv b117, iv w0_24, iv (0:Int32), .unset] [(.int (w0_24 + w0_4))])) _
              refine XS.sipush X214.here hx rfl (hb hby at_144) ?_
              show Steps p.tables e below (T214.setTop (mkF m 147 #[iv p0, iv p1, iv p2, iv p3, iv p4, iv w0_1, iv w0_2, iv w0_3, iv w0_4, iv w0_5, rv b115, rv b117, iv w0_24, iv (0:Int32), .unset] [(.int (1025:Int32)), (.int (w0_24 + w0_4))])) _
              by_cases hm147_43 : (w0_24 + w0_4) < (1025:Int32)
              · refine XS.icmpYes X214.here hx rfl (pc0 := 147) (pc' := 156) rfl (hb hby at_147) rfl (XT.ii_lt_t hm147_43) (by decide) (by decide) ?_
                show Steps p.tables e below (T214.setTop (mkF m 156 #[iv p0, iv p1, iv p2, iv p3, iv p4, iv w0_1, iv w0_2, iv w0_3, iv w0_4, iv w0_5, rv b115, rv b117, iv w0_24, iv (0:Int32), .unset] [])) _
                refine XS.iload X214.here hx rfl (hb hby at_156) rfl ?_
                show Steps p.tables e below (T214.setTop (mkF m 158 #[iv p0, iv p1, iv p2, iv p3, iv p4, iv w0_1, iv w0_2, iv w0_3, iv w0_4, iv w0_5, rv b115, rv b117, iv w0_24, iv (0:Int32), .unset] [(.int (0:Int32))])) _
                refine XS.iload X214.here hx rfl (hb hby at_158) rfl ?_
                show Steps p.tables e below (T214.setTop (mkF m 160 #[iv p0, iv p1, iv p2, iv p3, iv p4, iv w0_1, iv w0_2, iv w0_3, iv w0_4, iv w0_5, rv b115, rv b117, iv w0_24, iv (0:Int32), .unset] [(.int w0_5), (.int (0:Int32))])) _
                refine XS.iadd X214.here hx rfl (hb hby at_160) rfl ?_
                show Steps p.tables e below (T214.setTop (mkF m 161 #[iv p0, iv p1, iv p2, iv p3, iv p4, iv w0_1, iv w0_2, iv w0_3, iv w0_4, iv w0_5, rv b115, rv b117, iv w0_24, iv (0:Int32), .unset] [(.int ((0:Int32) + w0_5))])) _
                refine XS.sipush X214.here hx rfl (hb hby at_161) ?_
                show Steps p.tables e below (T214.setTop (mkF m 164 #[iv p0, iv p1, iv p2, iv p3, iv p4, iv w0_1, iv w0_2, iv w0_3, iv w0_4, iv w0_5, rv b115, rv b117, iv w0_24, iv (0:Int32), .unset] [(.int (16385:Int32)), (.int ((0:Int32) + w0_5))])) _
                by_cases hm164_44 : ((0:Int32) + w0_5) < (16385:Int32)
                · refine XS.icmpYes X214.here hx rfl (pc0 := 164) (pc' := 171) rfl (hb hby at_164) rfl (XT.ii_lt_t hm164_44) (by decide) (by decide) ?_
                  show Steps p.tables e below (T214.setTop (mkF m 171 #[iv p0, iv p1, iv p2, iv p3, iv p4, iv w0_1, iv w0_2, iv w0_3, iv w0_4, iv w0_5, rv b115, rv b117, iv w0_24, iv (0:Int32), .unset] [])) _
                  refine XS.iconst X214.here hx rfl (hb hby at_171) ?_
                  show Steps p.tables e below (T214.setTop (mkF m 172 #[iv p0, iv p1, iv p2, iv p3, iv p4, iv w0_1, iv w0_2, iv w0_3, iv w0_4, iv w0_5, rv b115, rv b117, iv w0_24, iv (0:Int32), .unset] [(.int (0:Int32))])) _
                  refine XS.istore X214.here hx rfl (hb hby at_172) rfl (l' := #[iv p0, iv p1, iv p2, iv p3, iv p4, iv w0_1, iv w0_2, iv w0_3, iv w0_4, iv w0_5, rv b115, rv b117, iv w0_24, iv (0:Int32), iv (0:Int32)]) rfl ?_
                  rw [hw0_25.trans (((if_neg hm130_42).trans (if_pos hm147_43)).trans (if_pos hm164_44))] at k
                  exact k
                · refine XS.icmpNo X214.here hx rfl (hb hby at_164) rfl (XT.ii_lt_f hm164_44) ?_
                  show Steps p.tables e below (T214.setTop (mkF m 167 #[iv p0, iv p1, iv p2, iv p3, iv p4, iv w0_1, iv w0_2, iv w0_3, iv w0_4, iv w0_5, rv b115, rv b117, iv w0_24, iv (0:Int32), .unset] [])) _
                  refine XS.iconst X214.here hx rfl (hb hby at_167) ?_
                  show Steps p.tables e below (T214.setTop (mkF m 168 #[iv p0, iv p1, iv p2, iv p3, iv p4, iv w0_1, iv w0_2, iv w0_3, iv w0_4, iv w0_5, rv b115, rv b117, iv w0_24, iv (0:Int32), .unset] [(.int (1:Int32))])) _
                  refine XS.goto X214.here hx rfl (pc0 := 168) (pc' := 172) rfl (hb hby at_168) (by decide) (by decide) ?_
                  show Steps p.tables e below (T214.setTop (mkF m 172 #[iv p0, iv p1, iv p2, iv p3, iv p4, iv w0_1, iv w0_2, iv w0_3, iv w0_4, iv w0_5, rv b115, rv b117, iv w0_24, iv (0:Int32), .unset] [(.int (1:Int32))])) _
                  refine XS.istore X214.here hx rfl (hb hby at_172) rfl (l' := #[iv p0, iv p1, iv p2, iv p3, iv p4, iv w0_1, iv w0_2, iv w0_3, iv w0_4, iv w0_5, rv b115, rv b117, iv w0_24, iv (0:Int32), iv (1:Int32)]) rfl ?_
                  rw [hw0_25.trans (((if_neg hm130_42).trans (if_pos hm147_43)).trans (if_neg hm164_44))] at k
                  exact k
              · refine XS.icmpNo X214.here hx rfl (hb hby at_147) rfl (XT.ii_lt_f hm147_43) ?_
                show Steps p.tables e below (T214.setTop (mkF m 150 #[iv p0, iv p1, iv p2, iv p3, iv p4, iv w0_1, iv w0_2, iv w0_3, iv w0_4, iv w0_5, rv b115, rv b117, iv w0_24, iv (0:Int32), .unset] [])) _
                refine XS.iconst X214.here hx rfl (hb hby at_150) ?_
                show Steps p.tables e below (T214.setTop (mkF m 151 #[iv p0, iv p1, iv p2, iv p3, iv p4, iv w0_1, iv w0_2, iv w0_3, iv w0_4, iv w0_5, rv b115, rv b117, iv w0_24, iv (0:Int32), .unset] [(.int (1:Int32))])) _
                refine XS.istore X214.here hx rfl (hb hby at_151) rfl (l' := #[iv p0, iv p1, iv p2, iv p3, iv p4, iv w0_1, iv w0_2, iv w0_3, iv w0_4, iv w0_5, rv b115, rv b117, iv w0_24, iv (0:Int32), iv (1:Int32)]) rfl ?_
                show Steps p.tables e below (T214.setTop (mkF m 153 #[iv p0, iv p1, iv p2, iv p3, iv p4, iv w0_1, iv w0_2, iv w0_3, iv w0_4, iv w0_5, rv b115, rv b117, iv w0_24, iv (0:Int32), iv (1:Int32)] [])) _
                refine XS.goto X214.here hx rfl (pc0 := 153) (pc' := 174) rfl (hb hby at_153) (by decide) (by decide) ?_
                rw [hw0_25.trans ((if_neg hm130_42).trans (if_neg hm147_43))] at k
                exact k
          refine own_pre (A := T214.setTop (mkF m 180 #[iv p0, iv p1, iv p2, iv p3, iv p4, iv w0_1, iv w0_2, iv w0_3, iv w0_4, iv w0_5, rv b115, rv b117, iv w0_24, iv (0:Int32), iv w0_25] [(.int w0_5), (.int w0_4), (.ref b117)])) (fun t k => ?_) ?_
          · show Steps p.tables e below (T214.setTop (mkF m 174 #[iv p0, iv p1, iv p2, iv p3, iv p4, iv w0_1, iv w0_2, iv w0_3, iv w0_4, iv w0_5, rv b115, rv b117, iv w0_24, iv (0:Int32), iv w0_25] [])) _
            refine XS.aload X214.here hx rfl (hb hby at_174) rfl rfl ?_
            show Steps p.tables e below (T214.setTop (mkF m 176 #[iv p0, iv p1, iv p2, iv p3, iv p4, iv w0_1, iv w0_2, iv w0_3, iv w0_4, iv w0_5, rv b115, rv b117, iv w0_24, iv (0:Int32), iv w0_25] [(.ref b117)])) _
            refine XS.iload X214.here hx rfl (hb hby at_176) rfl ?_
            show Steps p.tables e below (T214.setTop (mkF m 178 #[iv p0, iv p1, iv p2, iv p3, iv p4, iv w0_1, iv w0_2, iv w0_3, iv w0_4, iv w0_5, rv b115, rv b117, iv w0_24, iv (0:Int32), iv w0_25] [(.int w0_4), (.ref b117)])) _
            refine XS.iload X214.here hx rfl (hb hby at_178) rfl ?_
            exact k
          have F225 := (F215.keep K214)
          obtain ⟨cq224, kq224, q224a, q224b, q224c⟩ := isOf hZ rfl F225
          obtain ⟨_, _, ⟨T224, L224, k224, n224⟩, -, X224, ⟨Lc224, hQ224, l224, y224, z224⟩, st224⟩ := X214.virtualBack hx (y := (⟨"com/example/fanout4/fanout4/xdm/RecordedEvents", "isFullFor", "(II)Z"⟩ : MethodName)) (z := (⟨"com/example/fanout4/fanout4/xdm/RecordedEvents", "isFullFor", "(II)Z"⟩ : MethodName)) hown (mvT hZ (own_h hw 44 rfl)) (mvT hZ (own_h hw 45 rfl)) (notFace_of_selects (args := #[]) (mvT hZ (own_h hw 47 rfl))) (mvT hZ (own_h hw 47 rfl)) (mvT hZ (own_h hw 46 rfl)) (by decide) (backOf (W := 0) (rm6 l Z aZ hw [] b117 w0_4 w0_5 (2:Int32) (0:Int32) T214.heap n0 Z222 G223 G220) hZ (own_h hw 48 rfl) (own_h hw 4 rfl) (by decide) (by decide)) q224a q224c (g := (mkF m 180 #[iv p0, iv p1, iv p2, iv p3, iv p4, iv w0_1, iv w0_2, iv w0_3, iv w0_4, iv w0_5, rv b115, rv b117, iv w0_24, iv (0:Int32), iv w0_25] [(.int w0_5), (.int w0_4), (.ref b117)])) rfl (by rw [hml]; rfl) (Steps.refl _) (argsL := [(.int w0_4), (.int w0_5)]) (rest := []) (lenOf own_pd3 rfl) rfl (by show 2 * 0 + _ ≤ _; exact Nat.le_of_eq rfl) (hb hby at_180) (fun _ _ => ⟨rfl, rfl, (by decide : 6 + 0 ≤ _), (by decide : 1494 + 0 ≤ _)⟩)
          dsimp only [Pt.U, Pt.locs, Pt.cells, Pt.slots] at X224 l224 y224 z224 st224 hQ224
          subst l224 y224 z224
          obtain ⟨rfl, N224q, eh224⟩ := hQ224
          have N224 := Fr.app N214 N224q
          refine own_pre (fun _ k => st224.trans k) ?_
          refine own_pre (A := T224.setTop (mkF m 185 #[iv p0, iv p1, iv p2, iv p3, iv p4, iv w0_1, iv w0_2, iv w0_3, iv w0_4, iv w0_5, rv b115, rv b117, iv w0_24, iv (0:Int32), iv w0_25] [(.int w0_25), (.int (f6 w0_4 w0_5 (2:Int32) (0:Int32)))])) (fun t k => ?_) ?_
          · show Steps p.tables e below (T224.setTop (mkF m 183 #[iv p0, iv p1, iv p2, iv p3, iv p4, iv w0_1, iv w0_2, iv w0_3, iv w0_4, iv w0_5, rv b115, rv b117, iv w0_24, iv (0:Int32), iv w0_25] [(.int (f6 w0_4 w0_5 (2:Int32) (0:Int32)))])) _
            refine XS.iload X224.here hx rfl (hb hby at_183) rfl ?_
            exact k
          obtain ⟨w0_26, hw0_26⟩ : ∃ z : Int32, z = (if (f6 w0_4 w0_5 (2:Int32) (0:Int32)) = w0_25 then (1:Int32) else (0:Int32)) := ⟨_, rfl⟩
          refine own_pre (A := T224.setTop (mkF m 193 #[iv p0, iv p1, iv p2, iv p3, iv p4, iv w0_1, iv w0_2, iv w0_3, iv w0_4, iv w0_5, rv b115, rv b117, iv w0_24, iv (0:Int32), iv w0_25] [(.int w0_26)])) (fun t k => ?_) ?_
          · show Steps p.tables e below (T224.setTop (mkF m 185 #[iv p0, iv p1, iv p2, iv p3, iv p4, iv w0_1, iv w0_2, iv w0_3, iv w0_4, iv w0_5, rv b115, rv b117, iv w0_24, iv (0:Int32), iv w0_25] [(.int w0_25), (.int (f6 w0_4 w0_5 (2:Int32) (0:Int32)))])) _
            by_cases hm185_45 : (f6 w0_4 w0_5 (2:Int32) (0:Int32)) = w0_25
            · refine XS.icmpNo X224.here hx rfl (hb hby at_185) rfl (XT.ii_ne_f hm185_45) ?_
              show Steps p.tables e below (T224.setTop (mkF m 188 #[iv p0, iv p1, iv p2, iv p3, iv p4, iv w0_1, iv w0_2, iv w0_3, iv w0_4, iv w0_5, rv b115, rv b117, iv w0_24, iv (0:Int32), iv w0_25] [])) _
              refine XS.iconst X224.here hx rfl (hb hby at_188) ?_
              show Steps p.tables e below (T224.setTop (mkF m 189 #[iv p0, iv p1, iv p2, iv p3, iv p4, iv w0_1, iv w0_2, iv w0_3, iv w0_4, iv w0_5, rv b115, rv b117, iv w0_24, iv (0:Int32), iv w0_25] [(.int (1:Int32))])) _
              refine XS.goto X224.here hx rfl (pc0 := 189) (pc' := 193) rfl (hb hby at_189) (by decide) (by decide) ?_
              rw [hw0_26.trans (if_pos hm185_45)] at k
              exact k
            · refine XS.icmpYes X224.here hx rfl (pc0 := 185) (pc' := 192) rfl (hb hby at_185) rfl (XT.ii_ne_t hm185_45) (by decide) (by decide) ?_
              show Steps p.tables e below (T224.setTop (mkF m 192 #[iv p0, iv p1, iv p2, iv p3, iv p4, iv w0_1, iv w0_2, iv w0_3, iv w0_4, iv w0_5, rv b115, rv b117, iv w0_24, iv (0:Int32), iv w0_25] [])) _
              refine XS.iconst X224.here hx rfl (hb hby at_192) ?_
              rw [hw0_26.trans (if_neg hm185_45)] at k
              exact k
          have hv226 : (w0_26 &&& 1) = f0 p0 p1 p2 p3 p4 := by subst hw0_1 hw0_2 hw0_3 hw0_4 hw0_5 hw0_24 hw0_25 hw0_26; simp only [f0, if_pos hs55_3, if_neg hs66_5, if_neg hs77_29, if_pos hs87_41]
          exact own_end X224 (BodyLoose.notSynchronized Bd) (fun h => by rw [Bd.returns] at h; cases h) (v := some (.int (w0_26 &&& 1))) (fun fs hr => retN X224 hx (t := .boolean) Bd.returns (by simp) (hb hby at_193) hr) (by show Q0 Z p0 p1 p2 p3 p4 h0 n0 _ T224.heap _; rw [eh224]; exact ⟨(congrArg (fun z => some (Value.int z)) hv226), N224⟩) (by decide) (by decide)
        · refine own_pre (A := T214.setTop (mkF m 97 #[iv p0, iv p1, iv p2, iv p3, iv p4, iv w0_1, iv w0_2, iv w0_3, iv w0_4, iv w0_5, rv b115, rv b117, .unset, .unset, .unset] [(.int w0_3), (.int (0:Int32)), (.ref b115), (.ref b117)])) (fun t k => ?_) ?_
          · show Steps p.tables e below (T214.setTop (mkF m 87 #[iv p0, iv p1, iv p2, iv p3, iv p4, iv w0_1, iv w0_2, iv w0_3, iv w0_4, iv w0_5, rv b115, rv b117, .unset, .unset, .unset] [(.int w0_2)])) _
            refine XS.ifNo X214.here hx rfl (hb hby at_87) rfl (XT.i0_eq_f hs87_41) ?_
            show Steps p.tables e below (T214.setTop (mkF m 90 #[iv p0, iv p1, iv p2, iv p3, iv p4, iv w0_1, iv w0_2, iv w0_3, iv w0_4, iv w0_5, rv b115, rv b117, .unset, .unset, .unset] [])) _
            refine XS.aload X214.here hx rfl (hb hby at_90) rfl rfl ?_
            show Steps p.tables e below (T214.setTop (mkF m 92 #[iv p0, iv p1, iv p2, iv p3, iv p4, iv w0_1, iv w0_2, iv w0_3, iv w0_4, iv w0_5, rv b115, rv b117, .unset, .unset, .unset] [(.ref b117)])) _
            refine XS.aload X214.here hx rfl (hb hby at_92) rfl rfl ?_
            show Steps p.tables e below (T214.setTop (mkF m 94 #[iv p0, iv p1, iv p2, iv p3, iv p4, iv w0_1, iv w0_2, iv w0_3, iv w0_4, iv w0_5, rv b115, rv b117, .unset, .unset, .unset] [(.ref b115), (.ref b117)])) _
            refine XS.iconst X214.here hx rfl (hb hby at_94) ?_
            show Steps p.tables e below (T214.setTop (mkF m 95 #[iv p0, iv p1, iv p2, iv p3, iv p4, iv w0_1, iv w0_2, iv w0_3, iv w0_4, iv w0_5, rv b115, rv b117, .unset, .unset, .unset] [(.int (0:Int32)), (.ref b115), (.ref b117)])) _
            refine XS.iload X214.here hx rfl (hb hby at_95) rfl ?_
            exact k
          have F228 := (F215.keep K214)
          have F229 := ((G136.keep K188 (ninS (Ne.symm ne143) (ninS (Ne.symm ne127) nin0))).keep K214 (ninS (Ne.symm ne143) (ninS (Ne.symm ne127) nin0)))
          have F230 := ((G137.keep K188 (ninS (Ne.symm ne146) (ninS (Ne.symm ne128) nin0))).keep K214 (ninS (Ne.symm ne146) (ninS (Ne.symm ne128) nin0)))
          have F231 := (((F120.keep K119 (ninS ne_b115_b117 nin0)).keep K188 (ninS ne_b115_b117 (ninS ne139 nin0))).keep K214 (ninS ne_b115_b117 (ninS ne139 nin0)))
          obtain ⟨cq227, kq227, q227a, q227b, q227c⟩ := isOf hZ rfl F228
          obtain ⟨_, _, ⟨T227, L227, k227, n227⟩, -, X227, ⟨Lc227, hQ227, l227, y227, z227⟩, st227⟩ := X214.virtualBack hx (y := (⟨"com/example/fanout4/fanout4/xdm/RecordedEvents", "text", "([CII)V"⟩ : MethodName)) (z := (⟨"com/example/fanout4/fanout4/xdm/RecordedEvents", "text", "([CII)V"⟩ : MethodName)) hown (mvT hZ (own_h hw 23 rfl)) (mvT hZ (own_h hw 24 rfl)) (notFace_of_selects (args := #[]) (mvT hZ (own_h hw 26 rfl))) (mvT hZ (own_h hw 26 rfl)) (mvT hZ (own_h hw 25 rfl)) (by decide) (backOf (W := 0) (rm3 l Z aZ hw [] b117 b115 w0_3 kd_121 nb_122 ch_123 (own_v171.set (1:Int32).toNatClampNeg ((3:Int32).toInt8.toInt32)) (2:Int32) (List.replicate 128 (0:Int32)) (List.replicate 1024 (0:Int32)) [(0:Int32), (0:Int32), (0:Int32), (0:Int32), (0:Int32), (0:Int32), (0:Int32), (0:Int32), (0:Int32), (0:Int32), (0:Int32), (0:Int32), (0:Int32), (0:Int32), (0:Int32), (0:Int32)] T214.heap n0 Z222 F228 G216 G217 G218 G223 G220 G221 F229 F230 F231 ne140 ne143 ne146 ne127 ne128 ne129 ne_b115_b117 ne139 ne142 ne145 ge_b117 ge141 ge144 ge147 (by first | (simp; done) | decide +kernel) (by decide) (by first | (simp; done) | decide +kernel) (by first | (simp; done) | decide +kernel) rfl (own_l15 hw0_3)) hZ (own_h hw 27 rfl) (own_h hw 4 rfl) (by decide) (by decide)) q227a q227c (g := (mkF m 97 #[iv p0, iv p1, iv p2, iv p3, iv p4, iv w0_1, iv w0_2, iv w0_3, iv w0_4, iv w0_5, rv b115, rv b117, .unset, .unset, .unset] [(.int w0_3), (.int (0:Int32)), (.ref b115), (.ref b117)])) rfl (by rw [hml]; rfl) (Steps.refl _) (argsL := [(.ref b115), (.int (0:Int32)), (.int w0_3)]) (rest := []) (lenOf own_pd4 rfl) rfl (by show 2 * 0 + _ ≤ _; exact Nat.le_of_eq rfl) (hb hby at_97) (fun _ _ => ⟨rfl, rfl, (by decide : 6 + 0 ≤ _), (by decide : 1494 + 0 ≤ _)⟩)
          dsimp only [Pt.U, Pt.locs, Pt.cells, Pt.slots] at X227 l227 y227 z227 st227 hQ227
          subst l227 y227 z227
          obtain ⟨rfl, N227q, K227, G232, G233⟩ := hQ227
          have N227 := Fr.app N214 N227q
          have Z234 : n0 ≤ T227.heap.size := Nat.le_trans Z222 K227.1
          have G235 : Fld Z T227.heap b117 "com/example/fanout4/fanout4/xdm/RecordedEvents" "size" "I" (.int (3:Int32)) := G232
          refine own_pre (fun _ k => st227.trans k) ?_
          obtain ⟨w0_27, hw0_27⟩ : ∃ z : Int32, z = (w0_1 + (1:Int32)) := ⟨_, rfl⟩
          refine own_pre (A := T227.setTop (mkF m 130 #[iv p0, iv p1, iv p2, iv p3, iv p4, iv w0_1, iv w0_2, iv w0_3, iv w0_4, iv w0_5, rv b115, rv b117, iv w0_27, iv w0_3, .unset] [(.int w0_27)])) (fun t k => ?_) ?_
          · show Steps p.tables e below (T227.setTop (mkF m 100 #[iv p0, iv p1, iv p2, iv p3, iv p4, iv w0_1, iv w0_2, iv w0_3, iv w0_4, iv w0_5, rv b115, rv b117, .unset, .unset, .unset] [])) _
            refine XS.iload X227.here hx rfl (hb hby at_100) rfl ?_
            show Steps p.tables e below (T227.setTop (mkF m 102 #[iv p0, iv p1, iv p2, iv p3, iv p4, iv w0_1, iv w0_2, iv w0_3, iv w0_4, iv w0_5, rv b115, rv b117, .unset, .unset, .unset] [(.int w0_1)])) _
            refine XS.iload X227.here hx rfl (hb hby at_102) rfl ?_
            show Steps p.tables e below (T227.setTop (mkF m 104 #[iv p0, iv p1, iv p2, iv p3, iv p4, iv w0_1, iv w0_2, iv w0_3, iv w0_4, iv w0_5, rv b115, rv b117, .unset, .unset, .unset] [(.int w0_2), (.int w0_1)])) _
            refine XS.ifNo X227.here hx rfl (hb hby at_104) rfl (XT.i0_eq_f hs87_41) ?_
            show Steps p.tables e below (T227.setTop (mkF m 107 #[iv p0, iv p1, iv p2, iv p3, iv p4, iv w0_1, iv w0_2, iv w0_3, iv w0_4, iv w0_5, rv b115, rv b117, .unset, .unset, .unset] [(.int w0_1)])) _
            refine XS.iconst X227.here hx rfl (hb hby at_107) ?_
            show Steps p.tables e below (T227.setTop (mkF m 108 #[iv p0, iv p1, iv p2, iv p3, iv p4, iv w0_1, iv w0_2, iv w0_3, iv w0_4, iv w0_5, rv b115, rv b117, .unset, .unset, .unset] [(.int (1:Int32)), (.int w0_1)])) _
            refine XS.goto X227.here hx rfl (pc0 := 108) (pc' := 112) rfl (hb hby at_108) (by decide) (by decide) ?_
            show Steps p.tables e below (T227.setTop (mkF m 112 #[iv p0, iv p1, iv p2, iv p3, iv p4, iv w0_1, iv w0_2, iv w0_3, iv w0_4, iv w0_5, rv b115, rv b117, .unset, .unset, .unset] [(.int (1:Int32)), (.int w0_1)])) _
            refine XS.iadd X227.here hx rfl (hb hby at_112) rfl ?_
            show Steps p.tables e below (T227.setTop (mkF m 113 #[iv p0, iv p1, iv p2, iv p3, iv p4, iv w0_1, iv w0_2, iv w0_3, iv w0_4, iv w0_5, rv b115, rv b117, .unset, .unset, .unset] [(.int (w0_1 + (1:Int32)))])) _
            refine XS.istore X227.here hx rfl (hb hby at_113) rfl (l' := #[iv p0, iv p1, iv p2, iv p3, iv p4, iv w0_1, iv w0_2, iv w0_3, iv w0_4, iv w0_5, rv b115, rv b117, iv w0_27, .unset, .unset]) (by rw [hw0_27]; rfl) ?_
            show Steps p.tables e below (T227.setTop (mkF m 115 #[iv p0, iv p1, iv p2, iv p3, iv p4, iv w0_1, iv w0_2, iv w0_3, iv w0_4, iv w0_5, rv b115, rv b117, iv w0_27, .unset, .unset] [])) _
            refine XS.iload X227.here hx rfl (hb hby at_115) rfl ?_
            show Steps p.tables e below (T227.setTop (mkF m 117 #[iv p0, iv p1, iv p2, iv p3, iv p4, iv w0_1, iv w0_2, iv w0_3, iv w0_4, iv w0_5, rv b115, rv b117, iv w0_27, .unset, .unset] [(.int w0_2)])) _
            refine XS.ifNo X227.here hx rfl (hb hby at_117) rfl (XT.i0_eq_f hs87_41) ?_
            show Steps p.tables e below (T227.setTop (mkF m 120 #[iv p0, iv p1, iv p2, iv p3, iv p4, iv w0_1, iv w0_2, iv w0_3, iv w0_4, iv w0_5, rv b115, rv b117, iv w0_27, .unset, .unset] [])) _
            refine XS.iload X227.here hx rfl (hb hby at_120) rfl ?_
            show Steps p.tables e below (T227.setTop (mkF m 122 #[iv p0, iv p1, iv p2, iv p3, iv p4, iv w0_1, iv w0_2, iv w0_3, iv w0_4, iv w0_5, rv b115, rv b117, iv w0_27, .unset, .unset] [(.int w0_3)])) _
            refine XS.goto X227.here hx rfl (pc0 := 122) (pc' := 126) rfl (hb hby at_122) (by decide) (by decide) ?_
            show Steps p.tables e below (T227.setTop (mkF m 126 #[iv p0, iv p1, iv p2, iv p3, iv p4, iv w0_1, iv w0_2, iv w0_3, iv w0_4, iv w0_5, rv b115, rv b117, iv w0_27, .unset, .unset] [(.int w0_3)])) _
            refine XS.istore X227.here hx rfl (hb hby at_126) rfl (l' := #[iv p0, iv p1, iv p2, iv p3, iv p4, iv w0_1, iv w0_2, iv w0_3, iv w0_4, iv w0_5, rv b115, rv b117, iv w0_27, iv w0_3, .unset]) rfl ?_
            show Steps p.tables e below (T227.setTop (mkF m 128 #[iv p0, iv p1, iv p2, iv p3, iv p4, iv w0_1, iv w0_2, iv w0_3, iv w0_4, iv w0_5, rv b115, rv b117, iv w0_27, iv w0_3, .unset] [])) _
            refine XS.iload X227.here hx rfl (hb hby at_128) rfl ?_
            exact k
          obtain ⟨w0_28, hw0_28⟩ : ∃ z : Int32, z = (if w0_27 = (0:Int32) then (0:Int32) else (if (w0_27 + w0_4) < (1025:Int32) then (if (w0_3 + w0_5) < (16385:Int32) then (0:Int32) else (1:Int32)) else (1:Int32))) := ⟨_, rfl⟩
          refine own_pre (A := T227.setTop (mkF m 174 #[iv p0, iv p1, iv p2, iv p3, iv p4, iv w0_1, iv w0_2, iv w0_3, iv w0_4, iv w0_5, rv b115, rv b117, iv w0_27, iv w0_3, iv w0_28] [])) (fun t k => ?_) ?_
          · show Steps p.tables e below (T227.setTop (mkF m 130 #[iv p0, iv p1, iv p2, iv p3, iv p4, iv w0_1, iv w0_2, iv w0_3, iv w0_4, iv w0_5, rv b115, rv b117, iv w0_27, iv w0_3, .unset] [(.int w0_27)])) _
            by_cases hm130_46 : w0_27 = (0:Int32)
            · refine XS.ifNo X227.here hx rfl (hb hby at_130) rfl (XT.i0_ne_f hm130_46) ?_
              show Steps p.tables e below (T227.setTop (mkF m 133 #[iv p0, iv p1, iv p2, iv p3, iv p4, iv w0_1, iv w0_2, iv w0_3, iv w0_4, iv w0_5, rv b115, rv b117, iv w0_27, iv w0_3, .unset] [])) _
              refine XS.iconst X227.here hx rfl (hb hby at_133) ?_
              show Steps p.tables e below (T227.setTop (mkF m 134 #[iv p0, iv p1, iv p2, iv p3, iv p4, iv w0_1, iv w0_2, iv w0_3, iv w0_4, iv w0_5, rv b115, rv b117, iv w0_27, iv w0_3, .unset] [(.int (0:Int32))])) _
              refine XS.istore X227.here hx rfl (hb hby at_134) rfl (l' := #[iv p0, iv p1, iv p2, iv p3, iv p4, iv w0_1, iv w0_2, iv w0_3, iv w0_4, iv w0_5, rv b115, rv b117, iv w0_27, iv w0_3, iv (0:Int32)]) rfl ?_
              show Steps p.tables e below (T227.setTop (mkF m 136 #[iv p0, iv p1, iv p2, iv p3, iv p4, iv w0_1, iv w0_2, iv w0_3, iv w0_4, iv w0_5, rv b115, rv b117, iv w0_27, iv w0_3, iv (0:Int32)] [])) _
              refine XS.goto X227.here hx rfl (pc0 := 136) (pc' := 174) rfl (hb hby at_136) (by decide) (by decide) ?_
              rw [hw0_28.trans (if_pos hm130_46)] at k
              exact k
            · refine XS.ifYes X227.here hx rfl (pc0 := 130) (pc' := 139) rfl (hb hby at_130) rfl (XT.i0_ne_t hm130_46) (by decide) (by decide) ?_
              show Steps p.tables e below (T227.setTop (mkF m 139 #[iv p0, iv p1, iv p2, iv p3, iv p4, iv w0_1, iv w0_2, iv w0_3, iv w0_4, iv w0_5, rv b115, rv b117, iv w0_27, iv w0_3, .unset] [])) _
              refine XS.iload X227.here hx rfl (hb hby at_139) rfl ?_
              show Steps p.tables e below (T227.setTop (mkF m 141 #[iv p0, iv p1, iv p2, iv p3, iv p4, iv w0_1, iv w0_2, iv w0_3, iv w0_4, iv w0_5, rv b115, rv b117, iv w0_27, iv w0_3, .unset] [(.int w0_27)])) _
              refine XS.iload X227.here hx rfl (hb hby at_141) rfl ?_
              show Steps p.tables e below (T227.setTop (mkF m 143 #[iv p0, iv p1, iv p2, iv p3, iv p4, iv w0_1, iv w0_2, iv w0_3, iv w0_4, iv w0_5, rv b115, rv b117, iv w0_27, iv w0_3, .unset] [(.int w0_4), (.int w0_27)])) _
              refine XS.iadd X227.here hx rfl (hb hby at_143) rfl ?_
              show Steps p.tables e below (T227.setTop (mkF m 144 #[iv p0, iv p1, iv p2, iv p3, iv p4, iv w0_1, iv w0_2, iv w0_3, iv w0_4, iv w0_5, rv b115, rv b117, iv w0_27, iv w0_3, .unset] [(.int (w0_27 + w0_4))])) _
              refine XS.sipush X227.here hx rfl (hb hby at_144) ?_
              show Steps p.tables e below (T227.setTop (mkF m 147 #[iv p0, iv p1, iv p2, iv p3, iv p4, iv w0_1, iv w0_2, iv w0_3, iv w0_4, iv w0_5, rv b115, rv b117, iv w0_27, iv w0_3, .unset] [(.int (1025:Int32)), (.int (w0_27 + w0_4))])) _
              by_cases hm147_47 : (w0_27 + w0_4) < (1025:Int32)
              · refine XS.icmpYes X227.here hx rfl (pc0 := 147) (pc' := 156) rfl (hb hby at_147) rfl (XT.ii_lt_t hm147_47) (by decide) (by decide) ?_
                show Steps p.tables e below (T227.setTop (mkF m 156 #[iv p0, iv p1, iv p2, iv p3, iv p4, iv w0_1, iv w0_2, iv w0_3, iv w0_4, iv w0_5, rv b115, rv b117, iv w0_27, iv w0_3, .unset] [])) _
                refine XS.iload X227.here hx rfl (hb hby at_156) rfl ?_
                show Steps p.tables e below (T227.setTop (mkF m 158 #[iv p0, iv p1, iv p2, iv p3, iv p4, iv w0_1, iv w0_2, iv w0_3, iv w0_4, iv w0_5, rv b115, rv b117, iv w0_27, iv w0_3, .unset] [(.int w0_3)])) _
                refine XS.iload X227.here hx rfl (hb hby at_158) rfl ?_
                show Steps p.tables e below (T227.setTop (mkF m 160 #[iv p0, iv p1, iv p2, iv p3, iv p4, iv w0_1, iv w0_2, iv w0_3, iv w0_4, iv w0_5, rv b115, rv b117, iv w0_27, iv w0_3, .unset] [(.int w0_5), (.int w0_3)])) _
                refine XS.iadd X227.here hx rfl (hb hby at_160) rfl ?_
                show Steps p.tables e below (T227.setTop (mkF m 161 #[iv p0, iv p1, iv p2, iv p3, iv p4, iv w0_1, iv w0_2, iv w0_3, iv w0_4, iv w0_5, rv b115, rv b117, iv w0_27, iv w0_3, .unset] [(.int (w0_3 + w0_5))])) _
                refine XS.sipush X227.here hx rfl (hb hby at_161) ?_
                show Steps p.tables e below (T227.setTop (mkF m 164 #[iv p0, iv p1, iv p2, iv p3, iv p4, iv w0_1, iv w0_2, iv w0_3, iv w0_4, iv w0_5, rv b115, rv b117, iv w0_27, iv w0_3, .unset] [(.int (16385:Int32)), (.int (w0_3 + w0_5))])) _
                by_cases hm164_48 : (w0_3 + w0_5) < (16385:Int32)
                · refine XS.icmpYes X227.here hx rfl (pc0 := 164) (pc' := 171) rfl (hb hby at_164) rfl (XT.ii_lt_t hm164_48) (by decide) (by decide) ?_
                  show Steps p.tables e below (T227.setTop (mkF m 171 #[iv p0, iv p1, iv p2, iv p3, iv p4, iv w0_1, iv w0_2, iv w0_3, iv w0_4, iv w0_5, rv b115, rv b117, iv w0_27, iv w0_3, .unset] [])) _
                  refine XS.iconst X227.here hx rfl (hb hby at_171) ?_
                  show Steps p.tables e below (T227.setTop (mkF m 172 #[iv p0, iv p1, iv p2, iv p3, iv p4, iv w0_1, iv w0_2, iv w0_3, iv w0_4, iv w0_5, rv b115, rv b117, iv w0_27, iv w0_3, .unset] [(.int (0:Int32))])) _
                  refine XS.istore X227.here hx rfl (hb hby at_172) rfl (l' := #[iv p0, iv p1, iv p2, iv p3, iv p4, iv w0_1, iv w0_2, iv w0_3, iv w0_4, iv w0_5, rv b115, rv b117, iv w0_27, iv w0_3, iv (0:Int32)]) rfl ?_
                  rw [hw0_28.trans (((if_neg hm130_46).trans (if_pos hm147_47)).trans (if_pos hm164_48))] at k
                  exact k
                · refine XS.icmpNo X227.here hx rfl (hb hby at_164) rfl (XT.ii_lt_f hm164_48) ?_
                  show Steps p.tables e below (T227.setTop (mkF m 167 #[iv p0, iv p1, iv p2, iv p3, iv p4, iv w0_1, iv w0_2, iv w0_3, iv w0_4, iv w0_5, rv b115, rv b117, iv w0_27, iv w0_3, .unset] [])) _
                  refine XS.iconst X227.here hx rfl (hb hby at_167) ?_
                  show Steps p.tables e below (T227.setTop (mkF m 168 #[iv p0, iv p1, iv p2, iv p3, iv p4, iv w0_1, iv w0_2, iv w0_3, iv w0_4, iv w0_5, rv b115, rv b117, iv w0_27, iv w0_3, .unset] [(.int (1:Int32))])) _
                  refine XS.goto X227.here hx rfl (pc0 := 168) (pc' := 172) rfl (hb hby at_168) (by decide) (by decide) ?_
                  show Steps p.tables e below (T227.setTop (mkF m 172 #[iv p0, iv p1, iv p2, iv p3, iv p4, iv w0_1, iv w0_2, iv w0_3, iv w0_4, iv w0_5, rv b115, rv b117, iv w0_27, iv w0_3, .unset] [(.int (1:Int32))])) _
                  refine XS.istore X227.here hx rfl (hb hby at_172) rfl (l' := #[iv p0, iv p1, iv p2, iv p3, iv p4, iv w0_1, iv w0_2, iv w0_3, iv w0_4, iv w0_5, rv b115, rv b117, iv w0_27, iv w0_3, iv (1:Int32)]) rfl ?_
                  rw [hw0_28.trans (((if_neg hm130_46).trans (if_pos hm147_47)).trans (if_neg hm164_48))] at k
                  exact k
              · refine XS.icmpNo X227.here hx rfl (hb hby at_147) rfl (XT.ii_lt_f hm147_47) ?_
                show Steps p.tables e below (T227.setTop (mkF m 150 #[iv p0, iv p1, iv p2, iv p3, iv p4, iv w0_1, iv w0_2, iv w0_3, iv w0_4, iv w0_5, rv b115, rv b117, iv w0_27, iv w0_3, .unset] [])) _
                refine XS.iconst X227.here hx rfl (hb hby at_150) ?_
                show Steps p.tables e below (T227.setTop (mkF m 151 #[iv p0, iv p1, iv p2, iv p3, iv p4, iv w0_1, iv w0_2, iv w0_3, iv w0_4, iv w0_5, rv b115, rv b117, iv w0_27, iv w0_3, .unset] [(.int (1:Int32))])) _
                refine XS.istore X227.here hx rfl (hb hby at_151) rfl (l' := #[iv p0, iv p1, iv p2, iv p3, iv p4, iv w0_1, iv w0_2, iv w0_3, iv w0_4, iv w0_5, rv b115, rv b117, iv w0_27, iv w0_3, iv (1:Int32)]) rfl ?_
                show Steps p.tables e below (T227.setTop (mkF m 153 #[iv p0, iv p1, iv p2, iv p3, iv p4, iv w0_1, iv w0_2, iv w0_3, iv w0_4, iv w0_5, rv b115, rv b117, iv w0_27, iv w0_3, iv (1:Int32)] [])) _
                refine XS.goto X227.here hx rfl (pc0 := 153) (pc' := 174) rfl (hb hby at_153) (by decide) (by decide) ?_
                rw [hw0_28.trans ((if_neg hm130_46).trans (if_neg hm147_47))] at k
                exact k
          refine own_pre (A := T227.setTop (mkF m 180 #[iv p0, iv p1, iv p2, iv p3, iv p4, iv w0_1, iv w0_2, iv w0_3, iv w0_4, iv w0_5, rv b115, rv b117, iv w0_27, iv w0_3, iv w0_28] [(.int w0_5), (.int w0_4), (.ref b117)])) (fun t k => ?_) ?_
          · show Steps p.tables e below (T227.setTop (mkF m 174 #[iv p0, iv p1, iv p2, iv p3, iv p4, iv w0_1, iv w0_2, iv w0_3, iv w0_4, iv w0_5, rv b115, rv b117, iv w0_27, iv w0_3, iv w0_28] [])) _
            refine XS.aload X227.here hx rfl (hb hby at_174) rfl rfl ?_
            show Steps p.tables e below (T227.setTop (mkF m 176 #[iv p0, iv p1, iv p2, iv p3, iv p4, iv w0_1, iv w0_2, iv w0_3, iv w0_4, iv w0_5, rv b115, rv b117, iv w0_27, iv w0_3, iv w0_28] [(.ref b117)])) _
            refine XS.iload X227.here hx rfl (hb hby at_176) rfl ?_
            show Steps p.tables e below (T227.setTop (mkF m 178 #[iv p0, iv p1, iv p2, iv p3, iv p4, iv w0_1, iv w0_2, iv w0_3, iv w0_4, iv w0_5, rv b115, rv b117, iv w0_27, iv w0_3, iv w0_28] [(.int w0_4), (.ref b117)])) _
            refine XS.iload X227.here hx rfl (hb hby at_178) rfl ?_
            exact k
          have F237 := (F228.keep K227)
          obtain ⟨cq236, kq236, q236a, q236b, q236c⟩ := isOf hZ rfl F237
          obtain ⟨_, _, ⟨T236, L236, k236, n236⟩, -, X236, ⟨Lc236, hQ236, l236, y236, z236⟩, st236⟩ := X227.virtualBack hx (y := (⟨"com/example/fanout4/fanout4/xdm/RecordedEvents", "isFullFor", "(II)Z"⟩ : MethodName)) (z := (⟨"com/example/fanout4/fanout4/xdm/RecordedEvents", "isFullFor", "(II)Z"⟩ : MethodName)) hown (mvT hZ (own_h hw 44 rfl)) (mvT hZ (own_h hw 45 rfl)) (notFace_of_selects (args := #[]) (mvT hZ (own_h hw 47 rfl))) (mvT hZ (own_h hw 47 rfl)) (mvT hZ (own_h hw 46 rfl)) (by decide) (backOf (W := 0) (rm6 l Z aZ hw [] b117 w0_4 w0_5 (3:Int32) ((0:Int32) + w0_3) T227.heap n0 Z234 G235 G233) hZ (own_h hw 48 rfl) (own_h hw 4 rfl) (by decide) (by decide)) q236a q236c (g := (mkF m 180 #[iv p0, iv p1, iv p2, iv p3, iv p4, iv w0_1, iv w0_2, iv w0_3, iv w0_4, iv w0_5, rv b115, rv b117, iv w0_27, iv w0_3, iv w0_28] [(.int w0_5), (.int w0_4), (.ref b117)])) rfl (by rw [hml]; rfl) (Steps.refl _) (argsL := [(.int w0_4), (.int w0_5)]) (rest := []) (lenOf own_pd3 rfl) rfl (by show 2 * 0 + _ ≤ _; exact Nat.le_of_eq rfl) (hb hby at_180) (fun _ _ => ⟨rfl, rfl, (by decide : 6 + 0 ≤ _), (by decide : 1494 + 0 ≤ _)⟩)
          dsimp only [Pt.U, Pt.locs, Pt.cells, Pt.slots] at X236 l236 y236 z236 st236 hQ236
          subst l236 y236 z236
          obtain ⟨rfl, N236q, eh236⟩ := hQ236
          have N236 := Fr.app N227 N236q
          refine own_pre (fun _ k => st236.trans k) ?_
          refine own_pre (A := T236.setTop (mkF m 185 #[iv p0, iv p1, iv p2, iv p3, iv p4, iv w0_1, iv w0_2, iv w0_3, iv w0_4, iv w0_5, rv b115, rv b117, iv w0_27, iv w0_3, iv w0_28] [(.int w0_28), (.int (f6 w0_4 w0_5 (3:Int32) ((0:Int32) + w0_3)))])) (fun t k => ?_) ?_
          · show Steps p.tables e below (T236.setTop (mkF m 183 #[iv p0, iv p1, iv p2, iv p3, iv p4, iv w0_1, iv w0_2, iv w0_3, iv w0_4, iv w0_5, rv b115, rv b117, iv w0_27, iv w0_3, iv w0_28] [(.int (f6 w0_4 w0_5 (3:Int32) ((0:Int32) + w0_3)))])) _
            refine XS.iload X236.here hx rfl (hb hby at_183) rfl ?_
            exact k
          obtain ⟨w0_29, hw0_29⟩ : ∃ z : Int32, z = (if (f6 w0_4 w0_5 (3:Int32) ((0:Int32) + w0_3)) = w0_28 then (1:Int32) else (0:Int32)) := ⟨_, rfl⟩
          refine own_pre (A := T236.setTop (mkF m 193 #[iv p0, iv p1, iv p2, iv p3, iv p4, iv w0_1, iv w0_2, iv w0_3, iv w0_4, iv w0_5, rv b115, rv b117, iv w0_27, iv w0_3, iv w0_28] [(.int w0_29)])) (fun t k => ?_) ?_
          · show Steps p.tables e below (T236.setTop (mkF m 185 #[iv p0, iv p1, iv p2, iv p3, iv p4, iv w0_1, iv w0_2, iv w0_3, iv w0_4, iv w0_5, rv b115, rv b117, iv w0_27, iv w0_3, iv w0_28] [(.int w0_28), (.int (f6 w0_4 w0_5 (3:Int32) ((0:Int32) + w0_3)))])) _
            by_cases hm185_49 : (f6 w0_4 w0_5 (3:Int32) ((0:Int32) + w0_3)) = w0_28
            · refine XS.icmpNo X236.here hx rfl (hb hby at_185) rfl (XT.ii_ne_f hm185_49) ?_
              show Steps p.tables e below (T236.setTop (mkF m 188 #[iv p0, iv p1, iv p2, iv p3, iv p4, iv w0_1, iv w0_2, iv w0_3, iv w0_4, iv w0_5, rv b115, rv b117, iv w0_27, iv w0_3, iv w0_28] [])) _
              refine XS.iconst X236.here hx rfl (hb hby at_188) ?_
              show Steps p.tables e below (T236.setTop (mkF m 189 #[iv p0, iv p1, iv p2, iv p3, iv p4, iv w0_1, iv w0_2, iv w0_3, iv w0_4, iv w0_5, rv b115, rv b117, iv w0_27, iv w0_3, iv w0_28] [(.int (1:Int32))])) _
              refine XS.goto X236.here hx rfl (pc0 := 189) (pc' := 193) rfl (hb hby at_189) (by decide) (by decide) ?_
              rw [hw0_29.trans (if_pos hm185_49)] at k
              exact k
            · refine XS.icmpYes X236.here hx rfl (pc0 := 185) (pc' := 192) rfl (hb hby at_185) rfl (XT.ii_ne_t hm185_49) (by decide) (by decide) ?_
              show Steps p.tables e below (T236.setTop (mkF m 192 #[iv p0, iv p1, iv p2, iv p3, iv p4, iv w0_1, iv w0_2, iv w0_3, iv w0_4, iv w0_5, rv b115, rv b117, iv w0_27, iv w0_3, iv w0_28] [])) _
              refine XS.iconst X236.here hx rfl (hb hby at_192) ?_
              rw [hw0_29.trans (if_neg hm185_49)] at k
              exact k
          have hv238 : (w0_29 &&& 1) = f0 p0 p1 p2 p3 p4 := by subst hw0_1 hw0_2 hw0_3 hw0_4 hw0_5 hw0_27 hw0_28 hw0_29; simp only [f0, if_pos hs55_3, if_neg hs66_5, if_neg hs77_29, if_neg hs87_41]
          exact own_end X236 (BodyLoose.notSynchronized Bd) (fun h => by rw [Bd.returns] at h; cases h) (v := some (.int (w0_29 &&& 1))) (fun fs hr => retN X236 hx (t := .boolean) Bd.returns (by simp) (hb hby at_193) hr) (by show Q0 Z p0 p1 p2 p3 p4 h0 n0 _ T236.heap _; rw [eh236]; exact ⟨(congrArg (fun z => some (Value.int z)) hv238), N236⟩) (by decide) (by decide)
  · refine own_pre (A := T119.setTop (mkF m 60 #[iv p0, iv p1, iv p2, iv p3, iv p4, iv w0_1, iv w0_2, iv w0_3, iv w0_4, iv w0_5, rv b115, rv b117, .unset, .unset, .unset] [(.ref b117)])) (fun t k => ?_) ?_
    · show Steps p.tables e below (T119.setTop (mkF m 55 #[iv p0, iv p1, iv p2, iv p3, iv p4, iv w0_1, iv w0_2, iv w0_3, iv w0_4, iv w0_5, rv b115, rv b117, .unset, .unset, .unset] [(.int (1:Int32)), (.int w0_1)])) _
      refine XS.icmpNo X119.here hx rfl (hb hby at_55) rfl (XT.ii_lt_f hs55_3) ?_
      show Steps p.tables e below (T119.setTop (mkF m 58 #[iv p0, iv p1, iv p2, iv p3, iv p4, iv w0_1, iv w0_2, iv w0_3, iv w0_4, iv w0_5, rv b115, rv b117, .unset, .unset, .unset] [])) _
      refine XS.aload X119.here hx rfl (hb hby at_58) rfl rfl ?_
      exact k
    have F240 := (A117.keep K119)
    obtain ⟨cq239, kq239, q239a, q239b, q239c⟩ := isOf hZ rfl F240
    obtain ⟨_, _, ⟨T239, L239, k239, n239⟩, -, X239, ⟨Lc239, hQ239, l239, y239, z239⟩, st239⟩ := X119.virtualBack hx (y := (⟨"com/example/fanout4/fanout4/xdm/RecordedEvents", "endTag", "()V"⟩ : MethodName)) (z := (⟨"com/example/fanout4/fanout4/xdm/RecordedEvents", "endTag", "()V"⟩ : MethodName)) hown (mvT hZ (own_h hw 49 rfl)) (mvT hZ (own_h hw 50 rfl)) (notFace_of_selects (args := #[]) (mvT hZ (own_h hw 52 rfl))) (mvT hZ (own_h hw 52 rfl)) (mvT hZ (own_h hw 51 rfl)) (by decide) (backOf (W := 0) (rm7 l Z aZ hw [] b117 kd_121 nb_122 ch_123 (List.replicate 64 (0:Int32)) (0:Int32) (0:Int32) T119.heap n0 Z138 F240 G130 G131 G132 G133 G134 G135 ne140 ge_b117 ge141 (by first | (simp; done) | decide +kernel) (by decide)) hZ (own_h hw 53 rfl) (own_h hw 4 rfl) (by decide) (by decide)) q239a q239c (g := (mkF m 60 #[iv p0, iv p1, iv p2, iv p3, iv p4, iv w0_1, iv w0_2, iv w0_3, iv w0_4, iv w0_5, rv b115, rv b117, .unset, .unset, .unset] [(.ref b117)])) rfl (by rw [hml]; rfl) (Steps.refl _) (argsL := []) (rest := []) (lenOf own_pd2 rfl) rfl (by show 2 * 0 + _ ≤ _; exact Nat.le_of_eq rfl) (hb hby at_60) (fun _ _ => ⟨rfl, rfl, (by decide : 6 + 0 ≤ _), (by decide : 1494 + 0 ≤ _)⟩)
    dsimp only [Pt.U, Pt.locs, Pt.cells, Pt.slots] at X239 l239 y239 z239 st239 hQ239
    subst l239 y239 z239
    obtain ⟨rfl, N239q, K239, G241, G242, G243, G244, G245, G246⟩ := hQ239
    have N239 := Fr.app N119 N239q
    have Z247 : n0 ≤ T239.heap.size := Nat.le_trans Z138 K239.1
    have G248 : Fld Z T239.heap b117 "com/example/fanout4/fanout4/xdm/RecordedEvents" "size" "I" (.int (1:Int32)) := G244
    have G249 : own_Bytes Z T239.heap kd_121 own_v171 := G246
    refine own_pre (fun _ k => st239.trans k) ?_
    refine own_pre (A := T239.setTop (mkF m 66 #[iv p0, iv p1, iv p2, iv p3, iv p4, iv w0_1, iv w0_2, iv w0_3, iv w0_4, iv w0_5, rv b115, rv b117, .unset, .unset, .unset] [(.int (2:Int32)), (.int w0_1)])) (fun t k => ?_) ?_
    · show Steps p.tables e below (T239.setTop (mkF m 63 #[iv p0, iv p1, iv p2, iv p3, iv p4, iv w0_1, iv w0_2, iv w0_3, iv w0_4, iv w0_5, rv b115, rv b117, .unset, .unset, .unset] [])) _
      refine XS.iload X239.here hx rfl (hb hby at_63) rfl ?_
      show Steps p.tables e below (T239.setTop (mkF m 65 #[iv p0, iv p1, iv p2, iv p3, iv p4, iv w0_1, iv w0_2, iv w0_3, iv w0_4, iv w0_5, rv b115, rv b117, .unset, .unset, .unset] [(.int w0_1)])) _
      refine XS.iconst X239.here hx rfl (hb hby at_65) ?_
      exact k
    by_cases hs66_51 : w0_1 < (2:Int32)
    · refine own_pre (A := T239.setTop (mkF m 77 #[iv p0, iv p1, iv p2, iv p3, iv p4, iv w0_1, iv w0_2, iv w0_3, iv w0_4, iv w0_5, rv b115, rv b117, .unset, .unset, .unset] [(.int (3:Int32)), (.int w0_1)])) (fun t k => ?_) ?_
      · show Steps p.tables e below (T239.setTop (mkF m 66 #[iv p0, iv p1, iv p2, iv p3, iv p4, iv w0_1, iv w0_2, iv w0_3, iv w0_4, iv w0_5, rv b115, rv b117, .unset, .unset, .unset] [(.int (2:Int32)), (.int w0_1)])) _
        refine XS.icmpYes X239.here hx rfl (pc0 := 66) (pc' := 74) rfl (hb hby at_66) rfl (XT.ii_lt_t hs66_51) (by decide) (by decide) ?_
        show Steps p.tables e below (T239.setTop (mkF m 74 #[iv p0, iv p1, iv p2, iv p3, iv p4, iv w0_1, iv w0_2, iv w0_3, iv w0_4, iv w0_5, rv b115, rv b117, .unset, .unset, .unset] [])) _
        refine XS.iload X239.here hx rfl (hb hby at_74) rfl ?_
        show Steps p.tables e below (T239.setTop (mkF m 76 #[iv p0, iv p1, iv p2, iv p3, iv p4, iv w0_1, iv w0_2, iv w0_3, iv w0_4, iv w0_5, rv b115, rv b117, .unset, .unset, .unset] [(.int w0_1)])) _
        refine XS.iconst X239.here hx rfl (hb hby at_76) ?_
        exact k
      by_cases hs77_53 : w0_1 < (3:Int32)
      · refine own_pre (A := T239.setTop (mkF m 87 #[iv p0, iv p1, iv p2, iv p3, iv p4, iv w0_1, iv w0_2, iv w0_3, iv w0_4, iv w0_5, rv b115, rv b117, .unset, .unset, .unset] [(.int w0_2)])) (fun t k => ?_) ?_
        · show Steps p.tables e below (T239.setTop (mkF m 77 #[iv p0, iv p1, iv p2, iv p3, iv p4, iv w0_1, iv w0_2, iv w0_3, iv w0_4, iv w0_5, rv b115, rv b117, .unset, .unset, .unset] [(.int (3:Int32)), (.int w0_1)])) _
          refine XS.icmpYes X239.here hx rfl (pc0 := 77) (pc' := 85) rfl (hb hby at_77) rfl (XT.ii_lt_t hs77_53) (by decide) (by decide) ?_
          show Steps p.tables e below (T239.setTop (mkF m 85 #[iv p0, iv p1, iv p2, iv p3, iv p4, iv w0_1, iv w0_2, iv w0_3, iv w0_4, iv w0_5, rv b115, rv b117, .unset, .unset, .unset] [])) _
          refine XS.iload X239.here hx rfl (hb hby at_85) rfl ?_
          exact k
        by_cases hs87_55 : w0_2 = (0:Int32)
        · obtain ⟨w0_30, hw0_30⟩ : ∃ z : Int32, z = (w0_1 + (0:Int32)) := ⟨_, rfl⟩
          refine own_pre (A := T239.setTop (mkF m 130 #[iv p0, iv p1, iv p2, iv p3, iv p4, iv w0_1, iv w0_2, iv w0_3, iv w0_4, iv w0_5, rv b115, rv b117, iv w0_30, iv (0:Int32), .unset] [(.int w0_30)])) (fun t k => ?_) ?_
          · show Steps p.tables e below (T239.setTop (mkF m 87 #[iv p0, iv p1, iv p2, iv p3, iv p4, iv w0_1, iv w0_2, iv w0_3, iv w0_4, iv w0_5, rv b115, rv b117, .unset, .unset, .unset] [(.int w0_2)])) _
            refine XS.ifYes X239.here hx rfl (pc0 := 87) (pc' := 100) rfl (hb hby at_87) rfl (XT.i0_eq_t hs87_55) (by decide) (by decide) ?_
            show Steps p.tables e below (T239.setTop (mkF m 100 #[iv p0, iv p1, iv p2, iv p3, iv p4, iv w0_1, iv w0_2, iv w0_3, iv w0_4, iv w0_5, rv b115, rv b117, .unset, .unset, .unset] [])) _
            refine XS.iload X239.here hx rfl (hb hby at_100) rfl ?_
            show Steps p.tables e below (T239.setTop (mkF m 102 #[iv p0, iv p1, iv p2, iv p3, iv p4, iv w0_1, iv w0_2, iv w0_3, iv w0_4, iv w0_5, rv b115, rv b117, .unset, .unset, .unset] [(.int w0_1)])) _
            refine XS.iload X239.here hx rfl (hb hby at_102) rfl ?_
            show Steps p.tables e below (T239.setTop (mkF m 104 #[iv p0, iv p1, iv p2, iv p3, iv p4, iv w0_1, iv w0_2, iv w0_3, iv w0_4, iv w0_5, rv b115, rv b117, .unset, .unset, .unset] [(.int w0_2), (.int w0_1)])) _
            refine XS.ifYes X239.here hx rfl (pc0 := 104) (pc' := 111) rfl (hb hby at_104) rfl (XT.i0_eq_t hs87_55) (by decide) (by decide) ?_
            show Steps p.tables e below (T239.setTop (mkF m 111 #[iv p0, iv p1, iv p2, iv p3, iv p4, iv w0_1, iv w0_2, iv w0_3, iv w0_4, iv w0_5, rv b115, rv b117, .unset, .unset, .unset] [(.int w0_1)])) _
            refine XS.iconst X239.here hx rfl (hb hby at_111) ?_
            show Steps p.tables e below (T239.setTop (mkF m 112 #[iv p0, iv p1, iv p2, iv p3, iv p4, iv w0_1, iv w0_2, iv w0_3, iv w0_4, iv w0_5, rv b115, rv b117, .unset, .unset, .unset] [(.int (0:Int32)), (.int w0_1)])) _
            refine XS.iadd X239.here hx rfl (hb hby at_112) rfl ?_
            show Steps p.tables e below (T239.setTop (mkF m 113 #[iv p0, iv p1, iv p2, iv p3, iv p4, iv w0_1, iv w0_2, iv w0_3, iv w0_4, iv w0_5, rv b115, rv b117, .unset, .unset, .unset] [(.int (w0_1 + (0:Int32)))])) _
            refine XS.istore X239.here hx rfl (hb hby at_113) rfl (l' := #[iv p0, iv p1, iv p2, iv p3, iv p4, iv w0_1, iv w0_2, iv w0_3, iv w0_4, iv w0_5, rv b115, rv b117, iv w0_30, .unset, .unset]) (by rw [hw0_30]; rfl) ?_
            show Steps p.tables e below (T239.setTop (mkF m 115 #[iv p0, iv p1, iv p2, iv p3, iv p4, iv w0_1, iv w0_2, iv w0_3, iv w0_4, iv w0_5, rv b115, rv b117, iv w0_30, .unset, .unset] [])) _
            refine XS.iload X239.here hx rfl (hb hby at_115) rfl ?_
            show Steps p.tables e below (T239.setTop (mkF m 117 #[iv p0, iv p1, iv p2, iv p3, iv p4, iv w0_1, iv w0_2, iv w0_3, iv w0_4, iv w0_5, rv b115, rv b117, iv w0_30, .unset, .unset] [(.int w0_2)])) _
            refine XS.ifYes X239.here hx rfl (pc0 := 117) (pc' := 125) rfl (hb hby at_117) rfl (XT.i0_eq_t hs87_55) (by decide) (by decide) ?_
            show Steps p.tables e below (T239.setTop (mkF m 125 #[iv p0, iv p1, iv p2, iv p3, iv p4, iv w0_1, iv w0_2, iv w0_3, iv w0_4, iv w0_5, rv b115, rv b117, iv w0_30, .unset, .unset] [])) _
            refine XS.iconst X239.here hx rfl (hb hby at_125) ?_
            show Steps p.tables e below (T239.setTop (mkF m 126 #[iv p0, iv p1, iv p2, iv p3, iv p4, iv w0_1, iv w0_2, iv w0_3, iv w0_4, iv w0_5, rv b115, rv b117, iv w0_30, .unset, .unset] [(.int (0:Int32))])) _
            refine XS.istore X239.here hx rfl (hb hby at_126) rfl (l' := #[iv p0, iv p1, iv p2, iv p3, iv p4, iv w0_1, iv w0_2, iv w0_3, iv w0_4, iv w0_5, rv b115, rv b117, iv w0_30, iv (0:Int32), .unset]) rfl ?_
            show Steps p.tables e below (T239.setTop (mkF m 128 #[iv p0, iv p1, iv p2, iv p3, iv p4, iv w0_1, iv w0_2, iv w0_3, iv w0_4, iv w0_5, rv b115, rv b117, iv w0_30, iv (0:Int32), .unset] [])) _
            refine XS.iload X239.here hx rfl (hb hby at_128) rfl ?_
            exact k
          obtain ⟨w0_31, hw0_31⟩ : ∃ z : Int32, z = (if w0_30 = (0:Int32) then (0:Int32) else (if (w0_30 + w0_4) < (1025:Int32) then (if ((0:Int32) + w0_5) < (16385:Int32) then (0:Int32) else (1:Int32)) else (1:Int32))) := ⟨_, rfl⟩
          refine own_pre (A := T239.setTop (mkF m 174 #[iv p0, iv p1, iv p2, iv p3, iv p4, iv w0_1, iv w0_2, iv w0_3, iv w0_4, iv w0_5, rv b115, rv b117, iv w0_30, iv (0:Int32), iv w0_31] [])) (fun t k => ?_) ?_
          · show Steps p.tables e below (T239.setTop (mkF m 130 #[iv p0, iv p1, iv p2, iv p3, iv p4, iv w0_1, iv w0_2, iv w0_3, iv w0_4, iv w0_5, rv b115, rv b117, iv w0_30, iv (0:Int32), .unset] [(.int w0_30)])) _
            by_cases hm130_56 : w0_30 = (0:Int32)
            · refine XS.ifNo X239.here hx rfl (hb hby at_130) rfl (XT.i0_ne_f hm130_56) ?_
              show Steps p.tables e below (T239.setTop (mkF m 133 #[iv p0, iv p1, iv p2, iv p3, iv p4, iv w0_1, iv w0_2, iv w0_3, iv w0_4, iv w0_5, rv b115, rv b117, iv w0_30, iv (0:Int32), .unset] [])) _
              refine XS.iconst X239.here hx rfl (hb hby at_133) ?_
              show Steps p.tables e below (T239.setTop (mkF m 134 #[iv p0, iv p1, iv p2, iv p3, iv p4, iv w0_1, iv w0_2, iv w0_3, iv w0_4, iv w0_5, rv b115, rv b117, iv w0_30, iv (0:Int32), .unset] [(.int (0:Int32))])) _
              refine XS.istore X239.here hx rfl (hb hby at_134) rfl (l' := #[iv p0, iv p1, iv p2, iv p3, iv p4, iv w0_1, iv w0_2, iv w0_3, iv w0_4, iv w0_5, rv b115, rv b117, iv w0_30, iv (0:Int32), iv (0:Int32)]) rfl ?_
              show Steps p.tables e below (T239.setTop (mkF m 136 #[iv p0, iv p1, iv p2, iv p3, iv p4, iv w0_1, iv w0_2, iv w0_3, iv w0_4, iv w0_5, rv b115, rv b117, iv w0_30, iv (0:Int32), iv (0:Int32)] [])) _
              refine XS.goto X239.here hx rfl (pc0 := 136) (pc' := 174) rfl (hb hby at_136) (by decide) (by decide) ?_
              rw [hw0_31.trans (if_pos hm130_56)] at k
              exact k
            · refine XS.ifYes X239.here hx rfl (pc0 := 130) (pc' := 139) rfl (hb hby at_130) rfl (XT.i0_ne_t hm130_56) (by decide) (by decide) ?_
              show Steps p.tables e below (T239.setTop (mkF m 139 #[iv p0, iv p1, iv p2, iv p3, iv p4, iv w0_1, iv w0_2, iv w0_3, iv w0_4, iv w0_5, rv b115, rv b117, iv w0_30, iv (0:Int32), .unset] [])) _
              refine XS.iload X239.here hx rfl (hb hby at_139) rfl ?_
              show Steps p.tables e below (T239.setTop (mkF m 141 #[iv p0, iv p1, iv p2, iv p3, iv p4, iv w0_1, iv w0_2, iv w0_3, iv w0_4, iv w0_5, rv b115, rv b117, iv w0_30, iv (0:Int32), .unset] [(.int w0_30)])) _
              refine XS.iload X239.here hx rfl (hb hby at_141) rfl ?_
              show Steps p.tables e below (T239.setTop (mkF m 143 #[iv p0, iv p1, iv p2, iv p3, iv p4, iv w0_1, iv w0_2, iv w0_3, iv w0_4, iv w0_5, rv b115, rv b117, iv w0_30, iv (0:Int32), .unset] [(.int w0_4), (.int w0_30)])) _
              refine XS.iadd X239.here hx rfl (hb hby at_143) rfl ?_
              show Steps p.tables e below (T239.setTop (mkF m 144 #[iv p0, iv p1, iv p2, iv p3, iv p4, iv w0_1, iv w0_2, iv w0_3, iv w0_4, iv w0_5, rv b115, rv b117, iv w0_30, iv (0:Int32), .unset] [(.int (w0_30 + w0_4))])) _
              refine XS.sipush X239.here hx rfl (hb hby at_144) ?_
              show Steps p.tables e below (T239.setTop (mkF m 147 #[iv p0, iv p1, iv p2, iv p3, iv p4, iv w0_1, iv w0_2, iv w0_3, iv w0_4, iv w0_5, rv b115, rv b117, iv w0_30, iv (0:Int32), .unset] [(.int (1025:Int32)), (.int (w0_30 + w0_4))])) _
              by_cases hm147_57 : (w0_30 + w0_4) < (1025:Int32)
              · refine XS.icmpYes X239.here hx rfl (pc0 := 147) (pc' := 156) rfl (hb hby at_147) rfl (XT.ii_lt_t hm147_57) (by decide) (by decide) ?_
                show Steps p.tables e below (T239.setTop (mkF m 156 #[iv p0, iv p1, iv p2, iv p3, iv p4, iv w0_1, iv w0_2, iv w0_3, iv w0_4, iv w0_5, rv b115, rv b117, iv w0_30, iv (0:Int32), .unset] [])) _
                refine XS.iload X239.here hx rfl (hb hby at_156) rfl ?_
                show Steps p.tables e below (T239.setTop (mkF m 158 #[iv p0, iv p1, iv p2, iv p3, iv p4, iv w0_1, iv w0_2, iv w0_3, iv w0_4, iv w0_5, rv b115, rv b117, iv w0_30, iv (0:Int32), .unset] [(.int (0:Int32))])) _
                refine XS.iload X239.here hx rfl (hb hby at_158) rfl ?_
                show Steps p.tables e below (T239.setTop (mkF m 160 #[iv p0, iv p1, iv p2, iv p3, iv p4, iv w0_1, iv w0_2, iv w0_3, iv w0_4, iv w0_5, rv b115, rv b117, iv w0_30, iv (0:Int32), .unset] [(.int w0_5), (.int (0:Int32))])) _
                refine XS.iadd X239.here hx rfl (hb hby at_160) rfl ?_
                show Steps p.tables e below (T239.setTop (mkF m 161 #[iv p0, iv p1, iv p2, iv p3, iv p4, iv w0_1, iv w0_2, iv w0_3, iv w0_4, iv w0_5, rv b115, rv b117, iv w0_30, iv (0:Int32), .unset] [(.int ((0:Int32) + w0_5))])) _
                refine XS.sipush X239.here hx rfl (hb hby at_161) ?_
                show Steps p.tables e below (T239.setTop (mkF m 164 #[iv p0, iv p1, iv p2, iv p3, iv p4, iv w0_1, iv w0_2, iv w0_3, iv w0_4, iv w0_5, rv b115, rv b117, iv w0_30, iv (0:Int32), .unset] [(.int (16385:Int32)), (.int ((0:Int32) + w0_5))])) _
                by_cases hm164_58 : ((0:Int32) + w0_5) < (16385:Int32)
                · refine XS.icmpYes X239.here hx rfl (pc0 := 164) (pc' := 171) rfl (hb hby at_164) rfl (XT.ii_lt_t hm164_58) (by decide) (by decide) ?_
                  show Steps p.tables e below (T239.setTop (mkF m 171 #[iv p0, iv p1, iv p2, iv p3, iv p4, iv w0_1, iv w0_2, iv w0_3, iv w0_4, iv w0_5, rv b115, rv b117, iv w0_30, iv (0:Int32), .unset] [])) _
                  refine XS.iconst X239.here hx rfl (hb hby at_171) ?_
                  show Steps p.tables e below (T239.setTop (mkF m 172 #[iv p0, iv p1, iv p2, iv p3, iv p4, iv w0_1, iv w0_2, iv w0_3, iv w0_4, iv w0_5, rv b115, rv b117, iv w0_30, iv (0:Int32), .unset] [(.int (0:Int32))])) _
                  refine XS.istore X239.here hx rfl (hb hby at_172) rfl (l' := #[iv p0, iv p1, iv p2, iv p3, iv p4, iv w0_1, iv w0_2, iv w0_3, iv w0_4, iv w0_5, rv b115, rv b117, iv w0_30, iv (0:Int32), iv (0:Int32)]) rfl ?_
                  rw [hw0_31.trans (((if_neg hm130_56).trans (if_pos hm147_57)).trans (if_pos hm164_58))] at k
                  exact k
                · refine XS.icmpNo X239.here hx rfl (hb hby at_164) rfl (XT.ii_lt_f hm164_58) ?_
                  show Steps p.tables e below (T239.setTop (mkF m 167 #[iv p0, iv p1, iv p2, iv p3, iv p4, iv w0_1, iv w0_2, iv w0_3, iv w0_4, iv w0_5, rv b115, rv b117, iv w0_30, iv (0:Int32), .unset] [])) _
                  refine XS.iconst X239.here hx rfl (hb hby at_167) ?_
                  show Steps p.tables e below (T239.setTop (mkF m 168 #[iv p0, iv p1, iv p2, iv p3, iv p4, iv w0_1, iv w0_2, iv w0_3, iv w0_4, iv w0_5, rv b115, rv b117, iv w0_30, iv (0:Int32), .unset] [(.int (1:Int32))])) _
                  refine XS.goto X239.here hx rfl (pc0 := 168) (pc' := 172) rfl (hb hby at_168) (by decide) (by decide) ?_
                  show Steps p.tables e below (T239.setTop (mkF m 172 #[iv p0, iv p1, iv p2, iv p3, iv p4, iv w0_1, iv w0_2, iv w0_3, iv w0_4, iv w0_5, rv b115, rv b117, iv w0_30, iv (0:Int32), .unset] [(.int (1:Int32))])) _
                  refine XS.istore X239.here hx rfl (hb hby at_172) rfl (l' := #[iv p0, iv p1, iv p2, iv p3, iv p4, iv w0_1, iv w0_2, iv w0_3, iv w0_4, iv w0_5, rv b115, rv b117, iv w0_30, iv (0:Int32), iv (1:Int32)]) rfl ?_
                  rw [hw0_31.trans (((if_neg hm130_56).trans (if_pos hm147_57)).trans (if_neg hm164_58))] at k
                  exact k
              · refine XS.icmpNo X239.here hx rfl (hb hby at_147) rfl (XT.ii_lt_f hm147_57) ?_
                show Steps p.tables e below (T239.setTop (mkF m 150 #[iv p0, iv p1, iv p2, iv p3, iv p4, iv w0_1, iv w0_2, iv w0_3, iv w0_4, iv w0_5, rv b115, rv b117, iv w0_30, iv (0:Int32), .unset] [])) _
                refine XS.iconst X239.here hx rfl (hb hby at_150) ?_
                show Steps p.tables e below (T239.setTop (mkF m 151 #[iv p0, iv p1, iv p2, iv p3, iv p4, iv w0_1, iv w0_2, iv w0_3, iv w0_4, iv w0_5, rv b115, rv b117, iv w0_30, iv (0:Int32), .unset] [(.int (1:Int32))])) _
                refine XS.istore X239.here hx rfl (hb hby at_151) rfl (l' := #[iv p0, iv p1, iv p2, iv p3, iv p4, iv w0_1, iv w0_2, iv w0_3, iv w0_4, iv w0_5, rv b115, rv b117, iv w0_30, iv (0:Int32), iv (1:Int32)]) rfl ?_
                show Steps p.tables e below (T239.setTop (mkF m 153 #[iv p0, iv p1, iv p2, iv p3, iv p4, iv w0_1, iv w0_2, iv w0_3, iv w0_4, iv w0_5, rv b115, rv b117, iv w0_30, iv (0:Int32), iv (1:Int32)] [])) _
                refine XS.goto X239.here hx rfl (pc0 := 153) (pc' := 174) rfl (hb hby at_153) (by decide) (by decide) ?_
                rw [hw0_31.trans ((if_neg hm130_56).trans (if_neg hm147_57))] at k
                exact k
          refine own_pre (A := T239.setTop (mkF m 180 #[iv p0, iv p1, iv p2, iv p3, iv p4, iv w0_1, iv w0_2, iv w0_3, iv w0_4, iv w0_5, rv b115, rv b117, iv w0_30, iv (0:Int32), iv w0_31] [(.int w0_5), (.int w0_4), (.ref b117)])) (fun t k => ?_) ?_
          · show Steps p.tables e below (T239.setTop (mkF m 174 #[iv p0, iv p1, iv p2, iv p3, iv p4, iv w0_1, iv w0_2, iv w0_3, iv w0_4, iv w0_5, rv b115, rv b117, iv w0_30, iv (0:Int32), iv w0_31] [])) _
            refine XS.aload X239.here hx rfl (hb hby at_174) rfl rfl ?_
            show Steps p.tables e below (T239.setTop (mkF m 176 #[iv p0, iv p1, iv p2, iv p3, iv p4, iv w0_1, iv w0_2, iv w0_3, iv w0_4, iv w0_5, rv b115, rv b117, iv w0_30, iv (0:Int32), iv w0_31] [(.ref b117)])) _
            refine XS.iload X239.here hx rfl (hb hby at_176) rfl ?_
            show Steps p.tables e below (T239.setTop (mkF m 178 #[iv p0, iv p1, iv p2, iv p3, iv p4, iv w0_1, iv w0_2, iv w0_3, iv w0_4, iv w0_5, rv b115, rv b117, iv w0_30, iv (0:Int32), iv w0_31] [(.int w0_4), (.ref b117)])) _
            refine XS.iload X239.here hx rfl (hb hby at_178) rfl ?_
            exact k
          have F251 := (F240.keep K239)
          obtain ⟨cq250, kq250, q250a, q250b, q250c⟩ := isOf hZ rfl F251
          obtain ⟨_, _, ⟨T250, L250, k250, n250⟩, -, X250, ⟨Lc250, hQ250, l250, y250, z250⟩, st250⟩ := X239.virtualBack hx (y := (⟨"com/example/fanout4/fanout4/xdm/RecordedEvents", "isFullFor", "(II)Z"⟩ : MethodName)) (z := (⟨"com/example/fanout4/fanout4/xdm/RecordedEvents", "isFullFor", "(II)Z"⟩ : MethodName)) hown (mvT hZ (own_h hw 44 rfl)) (mvT hZ (own_h hw 45 rfl)) (notFace_of_selects (args := #[]) (mvT hZ (own_h hw 47 rfl))) (mvT hZ (own_h hw 47 rfl)) (mvT hZ (own_h hw 46 rfl)) (by decide) (backOf (W := 0) (rm6 l Z aZ hw [] b117 w0_4 w0_5 (1:Int32) (0:Int32) T239.heap n0 Z247 G248 G245) hZ (own_h hw 48 rfl) (own_h hw 4 rfl) (by decide) (by decide)) q250a q250c (g := (mkF m 180 #[iv p0, iv p1, iv p2, iv p3, iv p4, iv w0_1, iv w0_2, iv w0_3, iv w0_4, iv w0_5, rv b115, rv b117, iv w0_30, iv (0:Int32), iv w0_31] [(.int w0_5), (.int w0_4), (.ref b117)])) rfl (by rw [hml]; rfl) (Steps.refl _) (argsL := [(.int w0_4), (.int w0_5)]) (rest := []) (lenOf own_pd3 rfl) rfl (by show 2 * 0 + _ ≤ _; exact Nat.le_of_eq rfl) (hb hby at_180) (fun _ _ => ⟨rfl, rfl, (by decide : 6 + 0 ≤ _), (by decide : 1494 + 0 ≤ _)⟩)
          dsimp only [Pt.U, Pt.locs, Pt.cells, Pt.slots] at X250 l250 y250 z250 st250 hQ250
          subst l250 y250 z250
          obtain ⟨rfl, N250q, eh250⟩ := hQ250
          have N250 := Fr.app N239 N250q
          refine own_pre (fun _ k => st250.trans k) ?_
          refine own_pre (A := T250.setTop (mkF m 185 #[iv p0, iv p1, iv p2, iv p3, iv p4, iv w0_1, iv w0_2, iv w0_3, iv w0_4, iv w0_5, rv b115, rv b117, iv w0_30, iv (0:Int32), iv w0_31] [(.int w0_31), (.int (f6 w0_4 w0_5 (1:Int32) (0:Int32)))])) (fun t k => ?_) ?_
          · show Steps p.tables e below (T250.setTop (mkF m 183 #[iv p0, iv p1, iv p2, iv p3, iv p4, iv w0_1, iv w0_2, iv w0_3, iv w0_4, iv w0_5, rv b115, rv b117, iv w0_30, iv (0:Int32), iv w0_31] [(.int (f6 w0_4 w0_5 (1:Int32) (0:Int32)))])) _
            refine XS.iload X250.here hx rfl (hb hby at_183) rfl ?_
            exact k
          obtain ⟨w0_32, hw0_32⟩ : ∃ z : Int32, z = (if (f6 w0_4 w0_5 (1:Int32) (0:Int32)) = w0_31 then (1:Int32) else (0:Int32)) := ⟨_, rfl⟩
          refine own_pre (A := T250.setTop (mkF m 193 #[iv p0, iv p1, iv p2, iv p3, iv p4, iv w0_1, iv w0_2, iv w0_3, iv w0_4, iv w0_5, rv b115, rv b117, iv w0_30, iv (0:Int32), iv w0_31] [(.int w0_32)])) (fun t k => ?_) ?_
          · show Steps p.tables e below (T250.setTop (mkF m 185 #[iv p0, iv p1, iv p2, iv p3, iv p4, iv w0_1, iv w0_2, iv w0_3, iv w0_4, iv w0_5, rv b115, rv b117, iv w0_30, iv (0:Int32), iv w0_31] [(.int w0_31), (.int (f6 w0_4 w0_5 (1:Int32) (0:Int32)))])) _
            by_cases hm185_59 : (f6 w0_4 w0_5 (1:Int32) (0:Int32)) = w0_31
            · refine XS.icmpNo X250.here hx rfl (hb hby at_185) rfl (XT.ii_ne_f hm185_59) ?_
              show Steps p.tables e below (T250.setTop (mkF m 188 #[iv p0, iv p1, iv p2, iv p3, iv p4, iv w0_1, iv w0_2, iv w0_3, iv w0_4, iv w0_5, rv b115, rv b117, iv w0_30, iv (0:Int32), iv w0_31] [])) _
              refine XS.iconst X250.here hx rfl (hb hby at_188) ?_
              show Steps p.tables e below (T250.setTop (mkF m 189 #[iv p0, iv p1, iv p2, iv p3, iv p4, iv w0_1, iv w0_2, iv w0_3, iv w0_4, iv w0_5, rv b115, rv b117, iv w0_30, iv (0:Int32), iv w0_31] [(.int (1:Int32))])) _
              refine XS.goto X250.here hx rfl (pc0 := 189) (pc' := 193) rfl (hb hby at_189) (by decide) (by decide) ?_
              rw [hw0_32.trans (if_pos hm185_59)] at k
              exact k
            · refine XS.icmpYes X250.here hx rfl (pc0 := 185) (pc' := 192) rfl (hb hby at_185) rfl (XT.ii_ne_t hm185_59) (by decide) (by decide) ?_
              show Steps p.tables e below (T250.setTop (mkF m 192 #[iv p0, iv p1, iv p2, iv p3, iv p4, iv w0_1, iv w0_2, iv w0_3, iv w0_4, iv w0_5, rv b115, rv b117, iv w0_30, iv (0:Int32), iv w0_31] [])) _
              refine XS.iconst X250.here hx rfl (hb hby at_192) ?_
              rw [hw0_32.trans (if_neg hm185_59)] at k
              exact k
          have hv252 : (w0_32 &&& 1) = f0 p0 p1 p2 p3 p4 := by subst hw0_1 hw0_2 hw0_3 hw0_4 hw0_5 hw0_30 hw0_31 hw0_32; simp only [f0, if_neg hs55_3, if_pos hs66_51, if_pos hs77_53, if_pos hs87_55]
          exact own_end X250 (BodyLoose.notSynchronized Bd) (fun h => by rw [Bd.returns] at h; cases h) (v := some (.int (w0_32 &&& 1))) (fun fs hr => retN X250 hx (t := .boolean) Bd.returns (by simp) (hb hby at_193) hr) (by show Q0 Z p0 p1 p2 p3 p4 h0 n0 _ T250.heap _; rw [eh250]; exact ⟨(congrArg (fun z => some (Value.int z)) hv252), N250⟩) (by decide) (by decide)
        · refine own_pre (A := T239.setTop (mkF m 97 #[iv p0, iv p1, iv p2, iv p3, iv p4, iv w0_1, iv w0_2, iv w0_3, iv w0_4, iv w0_5, rv b115, rv b117, .unset, .unset, .unset] [(.int w0_3), (.int (0:Int32)), (.ref b115), (.ref b117)])) (fun t k => ?_) ?_
          · show Steps p.tables e below (T239.setTop (mkF m 87 #[iv p0, iv p1, iv p2, iv p3, iv p4, iv w0_1, iv w0_2, iv w0_3, iv w0_4, iv w0_5, rv b115, rv b117, .unset, .unset, .unset] [(.int w0_2)])) _
            refine XS.ifNo X239.here hx rfl (hb hby at_87) rfl (XT.i0_eq_f hs87_55) ?_
            show Steps p.tables e below (T239.setTop (mkF m 90 #[iv p0, iv p1, iv p2, iv p3, iv p4, iv w0_1, iv w0_2, iv w0_3, iv w0_4, iv w0_5, rv b115, rv b117, .unset, .unset, .unset] [])) _
            refine XS.aload X239.here hx rfl (hb hby at_90) rfl rfl ?_
            show Steps p.tables e below (T239.setTop (mkF m 92 #[iv p0, iv p1, iv p2, iv p3, iv p4, iv w0_1, iv w0_2, iv w0_3, iv w0_4, iv w0_5, rv b115, rv b117, .unset, .unset, .unset] [(.ref b117)])) _
            refine XS.aload X239.here hx rfl (hb hby at_92) rfl rfl ?_
            show Steps p.tables e below (T239.setTop (mkF m 94 #[iv p0, iv p1, iv p2, iv p3, iv p4, iv w0_1, iv w0_2, iv w0_3, iv w0_4, iv w0_5, rv b115, rv b117, .unset, .unset, .unset] [(.ref b115), (.ref b117)])) _
            refine XS.iconst X239.here hx rfl (hb hby at_94) ?_
            show Steps p.tables e below (T239.setTop (mkF m 95 #[iv p0, iv p1, iv p2, iv p3, iv p4, iv w0_1, iv w0_2, iv w0_3, iv w0_4, iv w0_5, rv b115, rv b117, .unset, .unset, .unset] [(.int (0:Int32)), (.ref b115), (.ref b117)])) _
            refine XS.iload X239.here hx rfl (hb hby at_95) rfl ?_
            exact k
          have F254 := (F240.keep K239)
          have F255 := (G136.keep K239 (ninS (Ne.symm ne143) (ninS (Ne.symm ne127) nin0)))
          have F256 := (G137.keep K239 (ninS (Ne.symm ne146) (ninS (Ne.symm ne128) nin0)))
          have F257 := ((F120.keep K119 (ninS ne_b115_b117 nin0)).keep K239 (ninS ne_b115_b117 (ninS ne139 nin0)))
          obtain ⟨cq253, kq253, q253a, q253b, q253c⟩ := isOf hZ rfl F254
          obtain ⟨_, _, ⟨T253, L253, k253, n253⟩, -, X253, ⟨Lc253, hQ253, l253, y253, z253⟩, st253⟩ := X239.virtualBack hx (y := (⟨"com/example/fanout4/fanout4/xdm/RecordedEvents", "text", "([CII)V"⟩ : MethodName)) (z := (⟨"com/example/fanout4/fanout4/xdm/RecordedEvents", "text", "([CII)V"⟩ : MethodName)) hown (mvT hZ (own_h hw 23 rfl)) (mvT hZ (own_h hw 24 rfl)) (notFace_of_selects (args := #[]) (mvT hZ (own_h hw 26 rfl))) (mvT hZ (own_h hw 26 rfl)) (mvT hZ (own_h hw 25 rfl)) (by decide) (backOf (W := 0) (rm3 l Z aZ hw [] b117 b115 w0_3 kd_121 nb_122 ch_123 own_v171 (1:Int32) (List.replicate 128 (0:Int32)) (List.replicate 1024 (0:Int32)) [(0:Int32), (0:Int32), (0:Int32), (0:Int32), (0:Int32), (0:Int32), (0:Int32), (0:Int32), (0:Int32), (0:Int32), (0:Int32), (0:Int32), (0:Int32), (0:Int32), (0:Int32), (0:Int32)] T239.heap n0 Z247 F254 G241 G242 G243 G248 G245 G249 F255 F256 F257 ne140 ne143 ne146 ne127 ne128 ne129 ne_b115_b117 ne139 ne142 ne145 ge_b117 ge141 ge144 ge147 (by first | (simp; done) | decide +kernel) (by decide) (by first | (simp; done) | decide +kernel) (by first | (simp; done) | decide +kernel) rfl (own_l15 hw0_3)) hZ (own_h hw 27 rfl) (own_h hw 4 rfl) (by decide) (by decide)) q253a q253c (g := (mkF m 97 #[iv p0, iv p1, iv p2, iv p3, iv p4, iv w0_1, iv w0_2, iv w0_3, iv w0_4, iv w0_5, rv b115, rv b117, .unset, .unset, .unset] [(.int w0_3), (.int (0:Int32)), (.ref b115), (.ref b117)])) rfl (by rw [hml]; rfl) (Steps.refl _) (argsL := [(.ref b115), (.int (0:Int32)), (.int w0_3)]) (rest := []) (lenOf own_pd4 rfl) rfl (by show 2 * 0 + _ ≤ _; exact Nat.le_of_eq rfl) (hb hby at_97) (fun _ _ => ⟨rfl, rfl, (by decide : 6 + 0 ≤ _), (by decide : 1494 + 0 ≤ _)⟩)
          dsimp only [Pt.U, Pt.locs, Pt.cells, Pt.slots] at X253 l253 y253 z253 st253 hQ253
          subst l253 y253 z253
          obtain ⟨rfl, N253q, K253, G258, G259⟩ := hQ253
          have N253 := Fr.app N239 N253q
          have Z260 : n0 ≤ T253.heap.size := Nat.le_trans Z247 K253.1
          have G261 : Fld Z T253.heap b117 "com/example/fanout4/fanout4/xdm/RecordedEvents" "size" "I" (.int (2:Int32)) := G258
          refine own_pre (fun _ k => st253.trans k) ?_
          obtain ⟨w0_33, hw0_33⟩ : ∃ z : Int32, z = (w0_1 + (1:Int32)) := ⟨_, rfl⟩
          refine own_pre (A := T253.setTop (mkF m 130 #[iv p0, iv p1, iv p2, iv p3, iv p4, iv w0_1, iv w0_2, iv w0_3, iv w0_4, iv w0_5, rv b115, rv b117, iv w0_33, iv w0_3, .unset] [(.int w0_33)])) (fun t k => ?_) ?_
          · show Steps p.tables e below (T253.setTop (mkF m 100 #[iv p0, iv p1, iv p2, iv p3, iv p4, iv w0_1, iv w0_2, iv w0_3, iv w0_4, iv w0_5, rv b115, rv b117, .unset, .unset, .unset] [])) _
            refine XS.iload X253.here hx rfl (hb hby at_100) rfl ?_
            show Steps p.tables e below (T253.setTop (mkF m 102 #[iv p0, iv p1, iv p2, iv p3, iv p4, iv w0_1, iv w0_2, iv w0_3, iv w0_4, iv w0_5, rv b115, rv b117, .unset, .unset, .unset] [(.int w0_1)])) _
            refine XS.iload X253.here hx rfl (hb hby at_102) rfl ?_
            show Steps p.tables e below (T253.setTop (mkF m 104 #[iv p0, iv p1, iv p2, iv p3, iv p4, iv w0_1, iv w0_2, iv w0_3, iv w0_4, iv w0_5, rv b115, rv b117, .unset, .unset, .unset] [(.int w0_2), (.int w0_1)])) _
            refine XS.ifNo X253.here hx rfl (hb hby at_104) rfl (XT.i0_eq_f hs87_55) ?_
            show Steps p.tables e below (T253.setTop (mkF m 107 #[iv p0, iv p1, iv p2, iv p3, iv p4, iv w0_1, iv w0_2, iv w0_3, iv w0_4, iv w0_5, rv b115, rv b117, .unset, .unset, .unset] [(.int w0_1)])) _
            refine XS.iconst X253.here hx rfl (hb hby at_107) ?_
            show Steps p.tables e below (T253.setTop (mkF m 108 #[iv p0, iv p1, iv p2, iv p3, iv p4, iv w0_1, iv w0_2, iv w0_3, iv w0_4, iv w0_5, rv b115, rv b117, .unset, .unset, .unset] [(.int (1:Int32)), (.int w0_1)])) _
            refine XS.goto X253.here hx rfl (pc0 := 108) (pc' := 112) rfl (hb hby at_108) (by decide) (by decide) ?_
            show Steps p.tables e below (T253.setTop (mkF m 112 #[iv p0, iv p1, iv p2, iv p3, iv p4, iv w0_1, iv w0_2, iv w0_3, iv w0_4, iv w0_5, rv b115, rv b117, .unset, .unset, .unset] [(.int (1:Int32)), (.int w0_1)])) _
            refine XS.iadd X253.here hx rfl (hb hby at_112) rfl ?_
            show Steps p.tables e below (T253.setTop (mkF m 113 #[iv p0, iv p1, iv p2, iv p3, iv p4, iv w0_1, iv w0_2, iv w0_3, iv w0_4, iv w0_5, rv b115, rv b117, .unset, .unset, .unset] [(.int (w0_1 + (1:Int32)))])) _
            refine XS.istore X253.here hx rfl (hb hby at_113) rfl (l' := #[iv p0, iv p1, iv p2, iv p3, iv p4, iv w0_1, iv w0_2, iv w0_3, iv w0_4, iv w0_5, rv b115, rv b117, iv w0_33, .unset, .unset]) (by rw [hw0_33]; rfl) ?_
            show Steps p.tables e below (T253.setTop (mkF m 115 #[iv p0, iv p1, iv p2, iv p3, iv p4, iv w0_1, iv w0_2, iv w0_3, iv w0_4, iv w0_5, rv b115, rv b117, iv w0_33, .unset, .unset] [])) _
            refine XS.iload X253.here hx rfl (hb hby at_115) rfl ?_
            show Steps p.tables e below (T253.setTop (mkF m 117 #[iv p0, iv p1, iv p2, iv p3, iv p4, iv w0_1, iv w0_2, iv w0_3, iv w0_4, iv w0_5, rv b115, rv b117, iv w0_33, .unset, .unset] [(.int w0_2)])) _
            refine XS.ifNo X253.here hx rfl (hb hby at_117) rfl (XT.i0_eq_f hs87_55) ?_
            show Steps p.tables e below (T253.setTop (mkF m 120 #[iv p0, iv p1, iv p2, iv p3, iv p4, iv w0_1, iv w0_2, iv w0_3, iv w0_4, iv w0_5, rv b115, rv b117, iv w0_33, .unset, .unset] [])) _
            refine XS.iload X253.here hx rfl (hb hby at_120) rfl ?_
            show Steps p.tables e below (T253.setTop (mkF m 122 #[iv p0, iv p1, iv p2, iv p3, iv p4, iv w0_1, iv w0_2, iv w0_3, iv w0_4, iv w0_5, rv b115, rv b117, iv w0_33, .unset, .unset] [(.int w0_3)])) _
            refine XS.goto X253.here hx rfl (pc0 := 122) (pc' := 126) rfl (hb hby at_122) (by decide) (by decide) ?_
            show Steps p.tables e below (T253.setTop (mkF m 126 #[iv p0, iv p1, iv p2, iv p3, iv p4, iv w0_1, iv w0_2, iv w0_3, iv w0_4, iv w0_5, rv b115, rv b117, iv w0_33, .unset, .unset] [(.int w0_3)])) _
            refine XS.istore X253.here hx rfl (hb hby at_126) rfl (l' := #[iv p0, iv p1, iv p2, iv p3, iv p4, iv w0_1, iv w0_2, iv w0_3, iv w0_4, iv w0_5, rv b115, rv b117, iv w0_33, iv w0_3, .unset]) rfl ?_
            show Steps p.tables e below (T253.setTop (mkF m 128 #[iv p0, iv p1, iv p2, iv p3, iv p4, iv w0_1, iv w0_2, iv w0_3, iv w0_4, iv w0_5, rv b115, rv b117, iv w0_33, iv w0_3, .unset] [])) _
            refine XS.iload X253.here hx rfl (hb hby at_128) rfl ?_
            exact k
          obtain ⟨w0_34, hw0_34⟩ : ∃ z : Int32, z = (if w0_33 = (0:Int32) then (0:Int32) else (if (w0_33 + w0_4) < (1025:Int32) then (if (w0_3 + w0_5) < (16385:Int32) then (0:Int32) else (1:Int32)) else (1:Int32))) := ⟨_, rfl⟩
          refine own_pre (A := T253.setTop (mkF m 174 #[iv p0, iv p1, iv p2, iv p3, iv p4, iv w0_1, iv w0_2, iv w0_3, iv w0_4, iv w0_5, rv b115, rv b117, iv w0_33, iv w0_3, iv w0_34] [])) (fun t k => ?_) ?_
          · show Steps p.tables e below (T253.setTop (mkF m 130 #[iv p0, iv p1, iv p2, iv p3, iv p4, iv w0_1, iv w0_2, iv w0_3, iv w0_4, iv w0_5, rv b115, rv b117, iv w0_33, iv w0_3, .unset] [(.int w0_33)])) _
            by_cases hm130_60 : w0_33 = (0:Int32)
            · refine XS.ifNo X253.here hx rfl (hb hby at_130) rfl (XT.i0_ne_f hm130_60) ?_
              show Steps p.tables e below (T253.setTop (mkF m 133 #[iv p0, iv p1, iv p2, iv p3, iv p4, iv w0_1, iv w0_2, iv w0_3, iv w0_4, iv w0_5, rv b115, rv b117, iv w0_33, iv w0_3, .unset] [])) _
              refine XS.iconst X253.here hx rfl (hb hby at_133) ?_
              show Steps p.tables e below (T253.setTop (mkF m 134 #[iv p0, iv p1, iv p2, iv p3, iv p4, iv w0_1, iv w0_2, iv w0_3, iv w0_4, iv w0_5, rv b115, rv b117, iv w0_33, iv w0_3, .unset] [(.int (0:Int32))])) _
              refine XS.istore X253.here hx rfl (hb hby at_134) rfl (l' := #[iv p0, iv p1, iv p2, iv p3, iv p4, iv w0_1, iv w0_2, iv w0_3, iv w0_4, iv w0_5, rv b115, rv b117, iv w0_33, iv w0_3, iv (0:Int32)]) rfl ?_
              show Steps p.tables e below (T253.setTop (mkF m 136 #[iv p0, iv p1, iv p2, iv p3, iv p4, iv w0_1, iv w0_2, iv w0_3, iv w0_4, iv w0_5, rv b115, rv b117, iv w0_33, iv w0_3, iv (0:Int32)] [])) _
              refine XS.goto X253.here hx rfl (pc0 := 136) (pc' := 174) rfl (hb hby at_136) (by decide) (by decide) ?_
              rw [hw0_34.trans (if_pos hm130_60)] at k
              exact k
            · refine XS.ifYes X253.here hx rfl (pc0 := 130) (pc' := 139) rfl (hb hby at_130) rfl (XT.i0_ne_t hm130_60) (by decide) (by decide) ?_
              show Steps p.tables e below (T253.setTop (mkF m 139 #[iv p0, iv p1, iv p2, iv p3, iv p4, iv w0_1, iv w0_2, iv w0_3, iv w0_4, iv w0_5, rv b115, rv b117, iv w0_33, iv w0_3, .unset] [])) _
              refine XS.iload X253.here hx rfl (hb hby at_139) rfl ?_
              show Steps p.tables e below (T253.setTop (mkF m 141 #[iv p0, iv p1, iv p2, iv p3, iv p4, iv w0_1, iv w0_2, iv w0_3, iv w0_4, iv w0_5, rv b115, rv b117, iv w0_33, iv w0_3, .unset] [(.int w0_33)])) _
              refine XS.iload X253.here hx rfl (hb hby at_141) rfl ?_
              show Steps p.tables e below (T253.setTop (mkF m 143 #[iv p0, iv p1, iv p2, iv p3, iv p4, iv w0_1, iv w0_2, iv w0_3, iv w0_4, iv w0_5, rv b115, rv b117, iv w0_33, iv w0_3, .unset] [(.int w0_4), (.int w0_33)])) _
              refine XS.iadd X253.here hx rfl (hb hby at_143) rfl ?_
              show Steps p.tables e below (T253.setTop (mkF m 144 #[iv p0, iv p1, iv p2, iv p3, iv p4, iv w0_1, iv w0_2, iv w0_3, iv w0_4, iv w0_5, rv b115, rv b117, iv w0_33, iv w0_3, .unset] [(.int (w0_33 + w0_4))])) _
              refine XS.sipush X253.here hx rfl (hb hby at_144) ?_
              show Steps p.tables e below (T253.setTop (mkF m 147 #[iv p0, iv p1, iv p2, iv p3, iv p4, iv w0_1, iv w0_2, iv w0_3, iv w0_4, iv w0_5, rv b115, rv b117, iv w0_33, iv w0_3, .unset] [(.int (1025:Int32)), (.int (w0_33 + w0_4))])) _
              by_cases hm147_61 : (w0_33 + w0_4) < (1025:Int32)
              · refine XS.icmpYes X253.here hx rfl (pc0 := 147) (pc' := 156) rfl (hb hby at_147) rfl (XT.ii_lt_t hm147_61) (by decide) (by decide) ?_
                show Steps p.tables e below (T253.setTop (mkF m 156 #[iv p0, iv p1, iv p2, iv p3, iv p4, iv w0_1, iv w0_2, iv w0_3, iv w0_4, iv w0_5, rv b115, rv b117, iv w0_33, iv w0_3, .unset] [])) _
                refine XS.iload X253.here hx rfl (hb hby at_156) rfl ?_
                show Steps p.tables e below (T253.setTop (mkF m 158 #[iv p0, iv p1, iv p2, iv p3, iv p4, iv w0_1, iv w0_2, iv w0_3, iv w0_4, iv w0_5, rv b115, rv b117, iv w0_33, iv w0_3, .unset] [(.int w0_3)])) _
                refine XS.iload X253.here hx rfl (hb hby at_158) rfl ?_
                show Steps p.tables e below (T253.setTop (mkF m 160 #[iv p0, iv p1, iv p2, iv p3, iv p4, iv w0_1, iv w0_2, iv w0_3, iv w0_4, iv w0_5, rv b115, rv b117, iv w0_33, iv w0_3, .unset] [(.int w0_5), (.int w0_3)])) _
                refine XS.iadd X253.here hx rfl (hb hby at_160) rfl ?_
                show Steps p.tables e below (T253.setTop (mkF m 161 #[iv p0, iv p1, iv p2, iv p3, iv p4, iv w0_1, iv w0_2, iv w0_3, iv w0_4, iv w0_5, rv b115, rv b117, iv w0_33, iv w0_3, .unset] [(.int (w0_3 + w0_5))])) _
                refine XS.sipush X253.here hx rfl (hb hby at_161) ?_
                show Steps p.tables e below (T253.setTop (mkF m 164 #[iv p0, iv p1, iv p2, iv p3, iv p4, iv w0_1, iv w0_2, iv w0_3, iv w0_4, iv w0_5, rv b115, rv b117, iv w0_33, iv w0_3, .unset] [(.int (16385:Int32)), (.int (w0_3 + w0_5))])) _
                by_cases hm164_62 : (w0_3 + w0_5) < (16385:Int32)
                · refine XS.icmpYes X253.here hx rfl (pc0 := 164) (pc' := 171) rfl (hb hby at_164) rfl (XT.ii_lt_t hm164_62) (by decide) (by decide) ?_
                  show Steps p.tables e below (T253.setTop (mkF m 171 #[iv p0, iv p1, iv p2, iv p3, iv p4, iv w0_1, iv w0_2, iv w0_3, iv w0_4, iv w0_5, rv b115, rv b117, iv w0_33, iv w0_3, .unset] [])) _
                  refine XS.iconst X253.here hx rfl (hb hby at_171) ?_
                  show Steps p.tables e below (T253.setTop (mkF m 172 #[iv p0, iv p1, iv p2, iv p3, iv p4, iv w0_1, iv w0_2, iv w0_3, iv w0_4, iv w0_5, rv b115, rv b117, iv w0_33, iv w0_3, .unset] [(.int (0:Int32))])) _
                  refine XS.istore X253.here hx rfl (hb hby at_172) rfl (l' := #[iv p0, iv p1, iv p2, iv p3, iv p4, iv w0_1, iv w0_2, iv w0_3, iv w0_4, iv w0_5, rv b115, rv b117, iv w0_33, iv w0_3, iv (0:Int32)]) rfl ?_
                  rw [hw0_34.trans (((if_neg hm130_60).trans (if_pos hm147_61)).trans (if_pos hm164_62))] at k
                  exact k
                · refine XS.icmpNo X253.here hx rfl (hb hby at_164) rfl (XT.ii_lt_f hm164_62) ?_
                  show Steps p.tables e below (T253.setTop (mkF m 167 #[iv p0, iv p1, iv p2, iv p3, iv p4, iv w0_1, iv w0_2, iv w0_3, iv w0_4, iv w0_5, rv b115, rv b117, iv w0_33, iv w0_3, .unset] [])) _
                  refine XS.iconst X253.here hx rfl (hb hby at_167) ?_
                  show Steps p.tables e below (T253.setTop (mkF m 168 #[iv p0, iv p1, iv p2, iv p3, iv p4, iv w0_1, iv w0_2, iv w0_3, iv w0_4, iv w0_5, rv b115, rv b117, iv w0_33, iv w0_3, .unset] [(.int (1:Int32))])) _
                  refine XS.goto X253.here hx rfl (pc0 := 168) (pc' := 172) rfl (hb hby at_168) (by decide) (by decide) ?_
                  show Steps p.tables e below (T253.setTop (mkF m 172 #[iv p0, iv p1, iv p2, iv p3, iv p4, iv w0_1, iv w0_2, iv w0_3, iv w0_4, iv w0_5, rv b115, rv b117, iv w0_33, iv w0_3, .unset] [(.int (1:Int32))])) _
                  refine XS.istore X253.here hx rfl (hb hby at_172) rfl (l' := #[iv p0, iv p1, iv p2, iv p3, iv p4, iv w0_1, iv w0_2, iv w0_3, iv w0_4, iv w0_5, rv b115, rv b117, iv w0_33, iv w0_3, iv (1:Int32)]) rfl ?_
                  rw [hw0_34.trans (((if_neg hm130_60).trans (if_pos hm147_61)).trans (if_neg hm164_62))] at k
                  exact k
              · refine XS.icmpNo X253.here hx rfl (hb hby at_147) rfl (XT.ii_lt_f hm147_61) ?_
                show Steps p.tables e below (T253.setTop (mkF m 150 #[iv p0, iv p1, iv p2, iv p3, iv p4, iv w0_1, iv w0_2, iv w0_3, iv w0_4, iv w0_5, rv b115, rv b117, iv w0_33, iv w0_3, .unset] [])) _
                refine XS.iconst X253.here hx rfl (hb hby at_150) ?_
                show Steps p.tables e below (T253.setTop (mkF m 151 #[iv p0, iv p1, iv p2, iv p3, iv p4, iv w0_1, iv w0_2, iv w0_3, iv w0_4, iv w0_5, rv b115, rv b117, iv w0_33, iv w0_3, .unset] [(.int (1:Int32))])) _
                refine XS.istore X253.here hx rfl (hb hby at_151) rfl (l' := #[iv p0, iv p1, iv p2, iv p3, iv p4, iv w0_1, iv w0_2, iv w0_3, iv w0_4, iv w0_5, rv b115, rv b117, iv w0_33, iv w0_3, iv (1:Int32)]) rfl ?_
                show Steps p.tables e below (T253.setTop (mkF m 153 #[iv p0, iv p1, iv p2, iv p3, iv p4, iv w0_1, iv w0_2, iv w0_3, iv w0_4, iv w0_5, rv b115, rv b117, iv w0_33, iv w0_3, iv (1:Int32)] [])) _
                refine XS.goto X253.here hx rfl (pc0 := 153) (pc' := 174) rfl (hb hby at_153) (by decide) (by decide) ?_
                rw [hw0_34.trans ((if_neg hm130_60).trans (if_neg hm147_61))] at k
                exact k
          refine own_pre (A := T253.setTop (mkF m 180 #[iv p0, iv p1, iv p2, iv p3, iv p4, iv w0_1, iv w0_2, iv w0_3, iv w0_4, iv w0_5, rv b115, rv b117, iv w0_33, iv w0_3, iv w0_34] [(.int w0_5), (.int w0_4), (.ref b117)])) (fun t k => ?_) ?_
          · show Steps p.tables e below (T253.setTop (mkF m 174 #[iv p0, iv p1, iv p2, iv p3, iv p4, iv w0_1, iv w0_2, iv w0_3, iv w0_4, iv w0_5, rv b115, rv b117, iv w0_33, iv w0_3, iv w0_34] [])) _
            refine XS.aload X253.here hx rfl (hb hby at_174) rfl rfl ?_
            show Steps p.tables e below (T253.setTop (mkF m 176 #[iv p0, iv p1, iv p2, iv p3, iv p4, iv w0_1, iv w0_2, iv w0_3, iv w0_4, iv w0_5, rv b115, rv b117, iv w0_33, iv w0_3, iv w0_34] [(.ref b117)])) _
            refine XS.iload X253.here hx rfl (hb hby at_176) rfl ?_
            show Steps p.tables e below (T253.setTop (mkF m 178 #[iv p0, iv p1, iv p2, iv p3, iv p4, iv w0_1, iv w0_2, iv w0_3, iv w0_4, iv w0_5, rv b115, rv b117, iv w0_33, iv w0_3, iv w0_34] [(.int w0_4), (.ref b117)])) _
            refine XS.iload X253.here hx rfl (hb hby at_178) rfl ?_
            exact k
          have F263 := (F254.keep K253)
          obtain ⟨cq262, kq262, q262a, q262b, q262c⟩ := isOf hZ rfl F263
          obtain ⟨_, _, ⟨T262, L262, k262, n262⟩, -, X262, ⟨Lc262, hQ262, l262, y262, z262⟩, st262⟩ := X253.virtualBack hx (y := (⟨"com/example/fanout4/fanout4/xdm/RecordedEvents", "isFullFor", "(II)Z"⟩ : MethodName)) (z := (⟨"com/example/fanout4/fanout4/xdm/RecordedEvents", "isFullFor", "(II)Z"⟩ : MethodName)) hown (mvT hZ (own_h hw 44 rfl)) (mvT hZ (own_h hw 45 rfl)) (notFace_of_selects (args := #[]) (mvT hZ (own_h hw 47 rfl))) (mvT hZ (own_h hw 47 rfl)) (mvT hZ (own_h hw 46 rfl)) (by decide) (backOf (W := 0) (rm6 l Z aZ hw [] b117 w0_4 w0_5 (2:Int32) ((0:Int32) + w0_3) T253.heap n0 Z260 G261 G259) hZ (own_h hw 48 rfl) (own_h hw 4 rfl) (by decide) (by decide)) q262a q262c (g := (mkF m 180 #[iv p0, iv p1, iv p2, iv p3, iv p4, iv w0_1, iv w0_2, iv w0_3, iv w0_4, iv w0_5, rv b115, rv b117, iv w0_33, iv w0_3, iv w0_34] [(.int w0_5), (.int w0_4), (.ref b117)])) rfl (by rw [hml]; rfl) (Steps.refl _) (argsL := [(.int w0_4), (.int w0_5)]) (rest := []) (lenOf own_pd3 rfl) rfl (by show 2 * 0 + _ ≤ _; exact Nat.le_of_eq rfl) (hb hby at_180) (fun _ _ => ⟨rfl, rfl, (by decide : 6 + 0 ≤ _), (by decide : 1494 + 0 ≤ _)⟩)
          dsimp only [Pt.U, Pt.locs, Pt.cells, Pt.slots] at X262 l262 y262 z262 st262 hQ262
          subst l262 y262 z262
          obtain ⟨rfl, N262q, eh262⟩ := hQ262
          have N262 := Fr.app N253 N262q
          refine own_pre (fun _ k => st262.trans k) ?_
          refine own_pre (A := T262.setTop (mkF m 185 #[iv p0, iv p1, iv p2, iv p3, iv p4, iv w0_1, iv w0_2, iv w0_3, iv w0_4, iv w0_5, rv b115, rv b117, iv w0_33, iv w0_3, iv w0_34] [(.int w0_34), (.int (f6 w0_4 w0_5 (2:Int32) ((0:Int32) + w0_3)))])) (fun t k => ?_) ?_
          · show Steps p.tables e below (T262.setTop (mkF m 183 #[iv p0, iv p1, iv p2, iv p3, iv p4, iv w0_1, iv w0_2, iv w0_3, iv w0_4, iv w0_5, rv b115, rv b117, iv w0_33, iv w0_3, iv w0_34] [(.int (f6 w0_4 w0_5 (2:Int32) ((0:Int32) + w0_3)))])) _
            refine XS.iload X262.here hx rfl (hb hby at_183) rfl ?_
            exact k
          obtain ⟨w0_35, hw0_35⟩ : ∃ z : Int32, z = (if (f6 w0_4 w0_5 (2:Int32) ((0:Int32) + w0_3)) = w0_34 then (1:Int32) else (0:Int32)) := ⟨_, rfl⟩
          refine own_pre (A := T262.setTop (mkF m 193 #[iv p0, iv p1, iv p2, iv p3, iv p4, iv w0_1, iv w0_2, iv w0_3, iv w0_4, iv w0_5, rv b115, rv b117, iv w0_33, iv w0_3, iv w0_34] [(.int w0_35)])) (fun t k => ?_) ?_
          · show Steps p.tables e below (T262.setTop (mkF m 185 #[iv p0, iv p1, iv p2, iv p3, iv p4, iv w0_1, iv w0_2, iv w0_3, iv w0_4, iv w0_5, rv b115, rv b117, iv w0_33, iv w0_3, iv w0_34] [(.int w0_34), (.int (f6 w0_4 w0_5 (2:Int32) ((0:Int32) + w0_3)))])) _
            by_cases hm185_63 : (f6 w0_4 w0_5 (2:Int32) ((0:Int32) + w0_3)) = w0_34
            · refine XS.icmpNo X262.here hx rfl (hb hby at_185) rfl (XT.ii_ne_f hm185_63) ?_
              show Steps p.tables e below (T262.setTop (mkF m 188 #[iv p0, iv p1, iv p2, iv p3, iv p4, iv w0_1, iv w0_2, iv w0_3, iv w0_4, iv w0_5, rv b115, rv b117, iv w0_33, iv w0_3, iv w0_34] [])) _
              refine XS.iconst X262.here hx rfl (hb hby at_188) ?_
              show Steps p.tables e below (T262.setTop (mkF m 189 #[iv p0, iv p1, iv p2, iv p3, iv p4, iv w0_1, iv w0_2, iv w0_3, iv w0_4, iv w0_5, rv b115, rv b117, iv w0_33, iv w0_3, iv w0_34] [(.int (1:Int32))])) _
              refine XS.goto X262.here hx rfl (pc0 := 189) (pc' := 193) rfl (hb hby at_189) (by decide) (by decide) ?_
              rw [hw0_35.trans (if_pos hm185_63)] at k
              exact k
            · refine XS.icmpYes X262.here hx rfl (pc0 := 185) (pc' := 192) rfl (hb hby at_185) rfl (XT.ii_ne_t hm185_63) (by decide) (by decide) ?_
              show Steps p.tables e below (T262.setTop (mkF m 192 #[iv p0, iv p1, iv p2, iv p3, iv p4, iv w0_1, iv w0_2, iv w0_3, iv w0_4, iv w0_5, rv b115, rv b117, iv w0_33, iv w0_3, iv w0_34] [])) _
              refine XS.iconst X262.here hx rfl (hb hby at_192) ?_
              rw [hw0_35.trans (if_neg hm185_63)] at k
              exact k
          have hv264 : (w0_35 &&& 1) = f0 p0 p1 p2 p3 p4 := by subst hw0_1 hw0_2 hw0_3 hw0_4 hw0_5 hw0_33 hw0_34 hw0_35; simp only [f0, if_neg hs55_3, if_pos hs66_51, if_pos hs77_53, if_neg hs87_55]
          exact own_end X262 (BodyLoose.notSynchronized Bd) (fun h => by rw [Bd.returns] at h; cases h) (v := some (.int (w0_35 &&& 1))) (fun fs hr => retN X262 hx (t := .boolean) Bd.returns (by simp) (hb hby at_193) hr) (by show Q0 Z p0 p1 p2 p3 p4 h0 n0 _ T262.heap _; rw [eh262]; exact ⟨(congrArg (fun z => some (Value.int z)) hv264), N262⟩) (by decide) (by decide)
      · refine own_pre (A := T239.setTop (mkF m 82 #[iv p0, iv p1, iv p2, iv p3, iv p4, iv w0_1, iv w0_2, iv w0_3, iv w0_4, iv w0_5, rv b115, rv b117, .unset, .unset, .unset] [(.ref b117)])) (fun t k => ?_) ?_
        · show Steps p.tables e below (T239.setTop (mkF m 77 #[iv p0, iv p1, iv p2, iv p3, iv p4, iv w0_1, iv w0_2, iv w0_3, iv w0_4, iv w0_5, rv b115, rv b117, .unset, .unset, .unset] [(.int (3:Int32)), (.int w0_1)])) _
          refine XS.icmpNo X239.here hx rfl (hb hby at_77) rfl (XT.ii_lt_f hs77_53) ?_
          show Steps p.tables e below (T239.setTop (mkF m 80 #[iv p0, iv p1, iv p2, iv p3, iv p4, iv w0_1, iv w0_2, iv w0_3, iv w0_4, iv w0_5, rv b115, rv b117, .unset, .unset, .unset] [])) _
          refine XS.aload X239.here hx rfl (hb hby at_80) rfl rfl ?_
          exact k
        have F266 := (F240.keep K239)
        obtain ⟨cq265, kq265, q265a, q265b, q265c⟩ := isOf hZ rfl F266
        obtain ⟨_, _, ⟨T265, L265, k265, n265⟩, -, X265, ⟨Lc265, hQ265, l265, y265, z265⟩, st265⟩ := X239.virtualBack hx (y := (⟨"com/example/fanout4/fanout4/xdm/RecordedEvents", "endTag", "()V"⟩ : MethodName)) (z := (⟨"com/example/fanout4/fanout4/xdm/RecordedEvents", "endTag", "()V"⟩ : MethodName)) hown (mvT hZ (own_h hw 49 rfl)) (mvT hZ (own_h hw 50 rfl)) (notFace_of_selects (args := #[]) (mvT hZ (own_h hw 52 rfl))) (mvT hZ (own_h hw 52 rfl)) (mvT hZ (own_h hw 51 rfl)) (by decide) (backOf (W := 0) (rm7 l Z aZ hw [] b117 kd_121 nb_122 ch_123 own_v171 (1:Int32) (0:Int32) T239.heap n0 Z247 F266 G241 G242 G243 G248 G245 G249 ne140 ge_b117 ge141 (by first | (simp; done) | decide +kernel) (by decide)) hZ (own_h hw 53 rfl) (own_h hw 4 rfl) (by decide) (by decide)) q265a q265c (g := (mkF m 82 #[iv p0, iv p1, iv p2, iv p3, iv p4, iv w0_1, iv w0_2, iv w0_3, iv w0_4, iv w0_5, rv b115, rv b117, .unset, .unset, .unset] [(.ref b117)])) rfl (by rw [hml]; rfl) (Steps.refl _) (argsL := []) (rest := []) (lenOf own_pd2 rfl) rfl (by show 2 * 0 + _ ≤ _; exact Nat.le_of_eq rfl) (hb hby at_82) (fun _ _ => ⟨rfl, rfl, (by decide : 6 + 0 ≤ _), (by decide : 1494 + 0 ≤ _)⟩)
        dsimp only [Pt.U, Pt.locs, Pt.cells, Pt.slots] at X265 l265 y265 z265 st265 hQ265
        subst l265 y265 z265
        obtain ⟨rfl, N265q, K265, G267, G268, G269, G270, G271, G272⟩ := hQ265
        have N265 := Fr.app N239 N265q
        have Z273 : n0 ≤ T265.heap.size := Nat.le_trans Z247 K265.1
        have G274 : Fld Z T265.heap b117 "com/example/fanout4/fanout4/xdm/RecordedEvents" "size" "I" (.int (2:Int32)) := G270
        refine own_pre (fun _ k => st265.trans k) ?_
        refine own_pre (A := T265.setTop (mkF m 87 #[iv p0, iv p1, iv p2, iv p3, iv p4, iv w0_1, iv w0_2, iv w0_3, iv w0_4, iv w0_5, rv b115, rv b117, .unset, .unset, .unset] [(.int w0_2)])) (fun t k => ?_) ?_
        · show Steps p.tables e below (T265.setTop (mkF m 85 #[iv p0, iv p1, iv p2, iv p3, iv p4, iv w0_1, iv w0_2, iv w0_3, iv w0_4, iv w0_5, rv b115, rv b117, .unset, .unset, .unset] [])) _
          refine XS.iload X265.here hx rfl (hb hby at_85) rfl ?_
          exact k
        by_cases hs87_65 : w0_2 = (0:Int32)
        · obtain ⟨w0_36, hw0_36⟩ : ∃ z : Int32, z = (w0_1 + (0:Int32)) := ⟨_, rfl⟩
          refine own_pre (A := T265.setTop (mkF m 130 #[iv p0, iv p1, iv p2, iv p3, iv p4, iv w0_1, iv w0_2, iv w0_3, iv w0_4, iv w0_5, rv b115, rv b117, iv w0_36, iv (0:Int32), .unset] [(.int w0_36)])) (fun t k => ?_) ?_
          · show Steps p.tables e below (T265.setTop (mkF m 87 #[iv p0, iv p1, iv p2, iv p3, iv p4, iv w0_1, iv w0_2, iv w0_3, iv w0_4, iv w0_5, rv b115, rv b117, .unset, .unset, .unset] [(.int w0_2)])) _
            refine XS.ifYes X265.here hx rfl (pc0 := 87) (pc' := 100) rfl (hb hby at_87) rfl (XT.i0_eq_t hs87_65) (by decide) (by decide) ?_
            show Steps p.tables e below (T265.setTop (mkF m 100 #[iv p0, iv p1, iv p2, iv p3, iv p4, iv w0_1, iv w0_2, iv w0_3, iv w0_4, iv w0_5, rv b115, rv b117, .unset, .unset, .unset] [])) _
            refine XS.iload X265.here hx rfl (hb hby at_100) rfl ?_
            show Steps p.tables e below (T265.setTop (mkF m 102 #[iv p0, iv p1, iv p2, iv p3, iv p4, iv w0_1, iv w0_2, iv w0_3, iv w0_4, iv w0_5, rv b115, rv b117, .unset, .unset, .unset] [(.int w0_1)])) _
            refine XS.iload X265.here hx rfl (hb hby at_102) rfl ?_
            show Steps p.tables e below (T265.setTop (mkF m 104 #[iv p0, iv p1, iv p2, iv p3, iv p4, iv w0_1, iv w0_2, iv w0_3, iv w0_4, iv w0_5, rv b115, rv b117, .unset, .unset, .unset] [(.int w0_2), (.int w0_1)])) _
            refine XS.ifYes X265.here hx rfl (pc0 := 104) (pc' := 111) rfl (hb hby at_104) rfl (XT.i0_eq_t hs87_65) (by decide) (by decide) ?_
            show Steps p.tables e below (T265.setTop (mkF m 111 #[iv p0, iv p1, iv p2, iv p3, iv p4, iv w0_1, iv w0_2, iv w0_3, iv w0_4, iv w0_5, rv b115, rv b117, .unset, .unset, .unset] [(.int w0_1)])) _
            refine XS.iconst X265.here hx rfl (hb hby at_111) ?_
            show Steps p.tables e below (T265.setTop (mkF m 112 #[iv p0, iv p1, iv p2, iv p3, iv p4, iv w0_1, iv w0_2, iv w0_3, iv w0_4, iv w0_5, rv b115, rv b117, .unset, .unset, .unset] [(.int (0:Int32)), (.int w0_1)])) _
            refine XS.iadd X265.here hx rfl (hb hby at_112) rfl ?_
            show Steps p.tables e below (T265.setTop (mkF m 113 #[iv p0, iv p1, iv p2, iv p3, iv p4, iv w0_1, iv w0_2, iv w0_3, iv w0_4, iv w0_5, rv b115, rv b117, .unset, .unset, .unset] [(.int (w0_1 + (0:Int32)))])) _
            refine XS.istore X265.here hx rfl (hb hby at_113) rfl (l' := #[iv p0, iv p1, iv p2, iv p3, iv p4, iv w0_1, iv w0_2, iv w0_3, iv w0_4, iv w0_5, rv b115, rv b117, iv w0_36, .unset, .unset]) (by rw [hw0_36]; rfl) ?_
            show Steps p.tables e below (T265.setTop (mkF m 115 #[iv p0, iv p1, iv p2, iv p3, iv p4, iv w0_1, iv w0_2, iv w0_3, iv w0_4, iv w0_5, rv b115, rv b117, iv w0_36, .unset, .unset] [])) _
            refine XS.iload X265.here hx rfl (hb hby at_115) rfl ?_
            show Steps p.tables e below (T265.setTop (mkF m 117 #[iv p0, iv p1, iv p2, iv p3, iv p4, iv w0_1, iv w0_2, iv w0_3, iv w0_4, iv w0_5, rv b115, rv b117, iv w0_36, .unset, .unset] [(.int w0_2)])) _
            refine XS.ifYes X265.here hx rfl (pc0 := 117) (pc' := 125) rfl (hb hby at_117) rfl (XT.i0_eq_t hs87_65) (by decide) (by decide) ?_
            show Steps p.tables e below (T265.setTop (mkF m 125 #[iv p0, iv p1, iv p2, iv p3, iv p4, iv w0_1, iv w0_2, iv w0_3, iv w0_4, iv w0_5, rv b115, rv b117, iv w0_36, .unset, .unset] [])) _
            refine XS.iconst X265.here hx rfl (hb hby at_125) ?_
            show Steps p.tables e below (T265.setTop (mkF m 126 #[iv p0, iv p1, iv p2, iv p3, iv p4, iv w0_1, iv w0_2, iv w0_3, iv w0_4, iv w0_5, rv b115, rv b117, iv w0_36, .unset, .unset] [(.int (0:Int32))])) _
            refine XS.istore X265.here hx rfl (hb hby at_126) rfl (l' := #[iv p0, iv p1, iv p2, iv p3, iv p4, iv w0_1, iv w0_2, iv w0_3, iv w0_4, iv w0_5, rv b115, rv b117, iv w0_36, iv (0:Int32), .unset]) rfl ?_
            show Steps p.tables e below (T265.setTop (mkF m 128 #[iv p0, iv p1, iv p2, iv p3, iv p4, iv w0_1, iv w0_2, iv w0_3, iv w0_4, iv w0_5, rv b115, rv b117, iv w0_36, iv (0:Int32), .unset] [])) _
            refine XS.iload X265.here hx rfl (hb hby at_128) rfl ?_
            exact k
          obtain ⟨w0_37, hw0_37⟩ : ∃ z : Int32, z = (if w0_36 = (0:Int32) then (0:Int32) else (if (w0_36 + w0_4) < (1025:Int32) then (if ((0:Int32) + w0_5) < (16385:Int32) then (0:Int32) else (1:Int32)) else (1:Int32))) := ⟨_, rfl⟩
          refine own_pre (A := T265.setTop (mkF m 174 #[iv p0, iv p1, iv p2, iv p3, iv p4, iv w0_1, iv w0_2, iv w0_3, iv w0_4, iv w0_5, rv b115, rv b117, iv w0_36, iv (0:Int32), iv w0_37] [])) (fun t k => ?_) ?_
          · show Steps p.tables e below (T265.setTop (mkF m 130 #[iv p0, iv p1, iv p2, iv p3, iv p4, iv w0_1, iv w0_2, iv w0_3, iv w0_4, iv w0_5, rv b115, rv b117, iv w0_36, iv (0:Int32), .unset] [(.int w0_36)])) _
            by_cases hm130_66 : w0_36 = (0:Int32)
            · refine XS.ifNo X265.here hx rfl (hb hby at_130) rfl (XT.i0_ne_f hm130_66) ?_
              show Steps p.tables e below (T265.setTop (mkF m 133 #[iv p0, iv p1, iv p2, iv p3, iv p4, iv w0_1, iv w0_2, iv w0_3, iv w0_4, iv w0_5, rv b115, rv b117, iv w0_36, iv (0:Int32), .unset] [])) _
              refine XS.iconst X265.here hx rfl (hb hby at_133) ?_
              show Steps p.tables e below (T265.setTop (mkF m 134 #[iv p0, iv p1, iv p2, iv p3, iv p4, iv w0_1, iv w0_2, iv w0_3, iv w0_4, iv w0_5, rv b115, rv b117, iv w0_36, iv (0:Int32), .unset] [(.int (0:Int32))])) _
              refine XS.istore X265.here hx rfl (hb hby at_134) rfl (l' := #[iv p0, iv p1, iv p2, iv p3, iv p4, iv w0_1, iv w0_2, iv w0_3, iv w0_4, iv w0_5, rv b115, rv b117, iv w0_36, iv (0:Int32), iv (0:Int32)]) rfl ?_
              show Steps p.tables e below (T265.setTop (mkF m 136 #[iv p0, iv p1, iv p2, iv p3, iv p4, iv w0_1, iv w0_2, iv w0_3, iv w0_4, iv w0_5, rv b115, rv b117, iv w0_36, iv (0:Int32), iv (0:Int32)] [])) _
              refine XS.goto X265.here hx rfl (pc0 := 136) (pc' := 174) rfl (hb hby at_136) (by decide) (by decide) ?_
              rw [hw0_37.trans (if_pos hm130_66)] at k
              exact k
            · refine XS.ifYes X265.here hx rfl (pc0 := 130) (pc' := 139) rfl (hb hby at_130) rfl (XT.i0_ne_t hm130_66) (by decide) (by decide) ?_
              show Steps p.tables e below (T265.setTop (mkF m 139 #[iv p0, iv p1, iv p2, iv p3, iv p4, iv w0_1, iv w0_2, iv w0_3, iv w0_4, iv w0_5, rv b115, rv b117, iv w0_36, iv (0:Int32), .unset] [])) _
              refine XS.iload X265.here hx rfl (hb hby at_139) rfl ?_
              show Steps p.tables e below (T265.setTop (mkF m 141 #[iv p0, iv p1, iv p2, iv p3, iv p4, iv w0_1, iv w0_2, iv w0_3, iv w0_4, iv w0_5, rv b115, rv b117, iv w0_36, iv (0:Int32), .unset] [(.int w0_36)])) _
              refine XS.iload X265.here hx rfl (hb hby at_141) rfl ?_
              show Steps p.tables e below (T265.setTop (mkF m 143 #[iv p0, iv p1, iv p2, iv p3, iv p4, iv w0_1, iv w0_2, iv w0_3, iv w0_4, iv w0_5, rv b115, rv b117, iv w0_36, iv (0:Int32), .unset] [(.int w0_4), (.int w0_36)])) _
              refine XS.iadd X265.here hx rfl (hb hby at_143) rfl ?_
              show Steps p.tables e below (T265.setTop (mkF m 144 #[iv p0, iv p1, iv p2, iv p3, iv p4, iv w0_1, iv w0_2, iv w0_3, iv w0_4, iv w0_5, rv b115, rv b117, iv w0_36, iv (0:Int32), .unset] [(.int (w0_36 + w0_4))])) _
              refine XS.sipush X265.here hx rfl (hb hby at_144) ?_
              show Steps p.tables e below (T265.setTop (mkF m 147 #[iv p0, iv p1, iv p2, iv p3, iv p4, iv w0_1, iv w0_2, iv w0_3, iv w0_4, iv w0_5, rv b115, rv b117, iv w0_36, iv (0:Int32), .unset] [(.int (1025:Int32)), (.int (w0_36 + w0_4))])) _
              by_cases hm147_67 : (w0_36 + w0_4) < (1025:Int32)
              · refine XS.icmpYes X265.here hx rfl (pc0 := 147) (pc' := 156) rfl (hb hby at_147) rfl (XT.ii_lt_t hm147_67) (by decide) (by decide) ?_
                show Steps p.tables e below (T265.setTop (mkF m 156 #[iv p0, iv p1, iv p2, iv p3, iv p4, iv w0_1, iv w0_2, iv w0_3, iv w0_4, iv w0_5, rv b115, rv b117, iv w0_36, iv (0:Int32), .unset] [])) _
                refine XS.iload X265.here hx rfl (hb hby at_156) rfl ?_
                show Steps p.tables e below (T265.setTop (mkF m 158 #[iv p0, iv p1, iv p2, iv p3, iv p4, iv w0_1, iv w0_2, iv w0_3, iv w0_4, iv w0_5, rv b115, rv b117, iv w0_36, iv (0:Int32), .unset] [(.int (0:Int32))])) _
                refine XS.iload X265.here hx rfl (hb hby at_158) rfl ?_
                show Steps p.tables e below (T265.setTop (mkF m 160 #[iv p0, iv p1, iv p2, iv p3, iv p4, iv w0_1, iv w0_2, iv w0_3, iv w0_4, iv w0_5, rv b115, rv b117, iv w0_36, iv (0:Int32), .unset] [(.int w0_5), (.int (0:Int32))])) _
                refine XS.iadd X265.here hx rfl (hb hby at_160) rfl ?_
                show Steps p.tables e below (T265.setTop (mkF m 161 #[iv p0, iv p1, iv p2, iv p3, iv p4, iv w0_1, iv w0_2, iv w0_3, iv w0_4, iv w0_5, rv b115, rv b117, iv w0_36, iv (0:Int32), .unset] [(.int ((0:Int32) + w0_5))])) _
                refine XS.sipush X265.here hx rfl (hb hby at_161) ?_
                show Steps p.tables e below (T265.setTop (mkF m 164 #[iv p0, iv p1, iv p2, iv p3, iv p4, iv w0_1, iv w0_2, iv w0_3, iv w0_4, iv w0_5, rv b115, rv b117, iv w0_36, iv (0:Int32), .unset] [(.int (16385:Int32)), (.int ((0:Int32) + w0_5))])) _
                by_cases hm164_68 : ((0:Int32) + w0_5) < (16385:Int32)
                · refine XS.icmpYes X265.here hx rfl (pc0 := 164) (pc' := 171) rfl (hb hby at_164) rfl (XT.ii_lt_t hm164_68) (by decide) (by decide) ?_
                  show Steps p.tables e below (T265.setTop (mkF m 171 #[iv p0, iv p1, iv p2, iv p3, iv p4, iv w0_1, iv w0_2, iv w0_3, iv w0_4, iv w0_5, rv b115, rv b117, iv w0_36, iv (0:Int32), .unset] [])) _
                  refine XS.iconst X265.here hx rfl (hb hby at_171) ?_
                  show Steps p.tables e below (T265.setTop (mkF m 172 #[iv p0, iv p1, iv p2, iv p3, iv p4, iv w0_1, iv w0_2, iv w0_3, iv w0_4, iv w0_5, rv b115, rv b117, iv w0_36, iv (0:Int32), .unset] [(.int (0:Int32))])) _
                  refine XS.istore X265.here hx rfl (hb hby at_172) rfl (l' := #[iv p0, iv p1, iv p2, iv p3, iv p4, iv w0_1, iv w0_2, iv w0_3, iv w0_4, iv w0_5, rv b115, rv b117, iv w0_36, iv (0:Int32), iv (0:Int32)]) rfl ?_
                  rw [hw0_37.trans (((if_neg hm130_66).trans (if_pos hm147_67)).trans (if_pos hm164_68))] at k
                  exact k
                · refine XS.icmpNo X265.here hx rfl (hb hby at_164) rfl (XT.ii_lt_f hm164_68) ?_
                  show Steps p.tables e below (T265.setTop (mkF m 167 #[iv p0, iv p1, iv p2, iv p3, iv p4, iv w0_1, iv w0_2, iv w0_3, iv w0_4, iv w0_5, rv b115, rv b117, iv w0_36, iv (0:Int32), .unset] [])) _
                  refine XS.iconst X265.here hx rfl (hb hby at_167) ?_
                  show Steps p.tables e below (T265.setTop (mkF m 168 #[iv p0, iv p1, iv p2, iv p3, iv p4, iv w0_1, iv w0_2, iv w0_3, iv w0_4, iv w0_5, rv b115, rv b117, iv w0_36, iv (0:Int32), .unset] [(.int (1:Int32))])) _
                  refine XS.goto X265.here hx rfl (pc0 := 168) (pc' := 172) rfl (hb hby at_168) (by decide) (by decide) ?_
                  show Steps p.tables e below (T265.setTop (mkF m 172 #[iv p0, iv p1, iv p2, iv p3, iv p4, iv w0_1, iv w0_2, iv w0_3, iv w0_4, iv w0_5, rv b115, rv b117, iv w0_36, iv (0:Int32), .unset] [(.int (1:Int32))])) _
                  refine XS.istore X265.here hx rfl (hb hby at_172) rfl (l' := #[iv p0, iv p1, iv p2, iv p3, iv p4, iv w0_1, iv w0_2, iv w0_3, iv w0_4, iv w0_5, rv b115, rv b117, iv w0_36, iv (0:Int32), iv (1:Int32)]) rfl ?_
                  rw [hw0_37.trans (((if_neg hm130_66).trans (if_pos hm147_67)).trans (if_neg hm164_68))] at k
                  exact k
              · refine XS.icmpNo X265.here hx rfl (hb hby at_147) rfl (XT.ii_lt_f hm147_67) ?_
                show Steps p.tables e below (T265.setTop (mkF m 150 #[iv p0, iv p1, iv p2, iv p3, iv p4, iv w0_1, iv w0_2, iv w0_3, iv w0_4, iv w0_5, rv b115, rv b117, iv w0_36, iv (0:Int32), .unset] [])) _
                refine XS.iconst X265.here hx rfl (hb hby at_150) ?_
                show Steps p.tables e below (T265.setTop (mkF m 151 #[iv p0, iv p1, iv p2, iv p3, iv p4, iv w0_1, iv w0_2, iv w0_3, iv w0_4, iv w0_5, rv b115, rv b117, iv w0_36, iv (0:Int32), .unset] [(.int (1:Int32))])) _
                refine XS.istore X265.here hx rfl (hb hby at_151) rfl (l' := #[iv p0, iv p1, iv p2, iv p3, iv p4, iv w0_1, iv w0_2, iv w0_3, iv w0_4, iv w0_5, rv b115, rv b117, iv w0_36, iv (0:Int32), iv (1:Int32)]) rfl ?_
                show Steps p.tables e below (T265.setTop (mkF m 153 #[iv p0, iv p1, iv p2, iv p3, iv p4, iv w0_1, iv w0_2, iv w0_3, iv w0_4, iv w0_5, rv b115, rv b117, iv w0_36, iv (0:Int32), iv (1:Int32)] [])) _
                refine XS.goto X265.here hx rfl (pc0 := 153) (pc' := 174) rfl (hb hby at_153) (by decide) (by decide) ?_
                rw [hw0_37.trans ((if_neg hm130_66).trans (if_neg hm147_67))] at k
                exact k
          refine own_pre (A := T265.setTop (mkF m 180 #[iv p0, iv p1, iv p2, iv p3, iv p4, iv w0_1, iv w0_2, iv w0_3, iv w0_4, iv w0_5, rv b115, rv b117, iv w0_36, iv (0:Int32), iv w0_37] [(.int w0_5), (.int w0_4), (.ref b117)])) (fun t k => ?_) ?_
          · show Steps p.tables e below (T265.setTop (mkF m 174 #[iv p0, iv p1, iv p2, iv p3, iv p4, iv w0_1, iv w0_2, iv w0_3, iv w0_4, iv w0_5, rv b115, rv b117, iv w0_36, iv (0:Int32), iv w0_37] [])) _
            refine XS.aload X265.here hx rfl (hb hby at_174) rfl rfl ?_
            show Steps p.tables e below (T265.setTop (mkF m 176 #[iv p0, iv p1, iv p2, iv p3, iv p4, iv w0_1, iv w0_2, iv w0_3, iv w0_4, iv w0_5, rv b115, rv b117, iv w0_36, iv (0:Int32), iv w0_37] [(.ref b117)])) _
            refine XS.iload X265.here hx rfl (hb hby at_176) rfl ?_
            show Steps p.tables e below (T265.setTop (mkF m 178 #[iv p0, iv p1, iv p2, iv p3, iv p4, iv w0_1, iv w0_2, iv w0_3, iv w0_4, iv w0_5, rv b115, rv b117, iv w0_36, iv (0:Int32), iv w0_37] [(.int w0_4), (.ref b117)])) _
            refine XS.iload X265.here hx rfl (hb hby at_178) rfl ?_
            exact k
          have F276 := (F266.keep K265)
          obtain ⟨cq275, kq275, q275a, q275b, q275c⟩ := isOf hZ rfl F276
          obtain ⟨_, _, ⟨T275, L275, k275, n275⟩, -, X275, ⟨Lc275, hQ275, l275, y275, z275⟩, st275⟩ := X265.virtualBack hx (y := (⟨"com/example/fanout4/fanout4/xdm/RecordedEvents", "isFullFor", "(II)Z"⟩ : MethodName)) (z := (⟨"com/example/fanout4/fanout4/xdm/RecordedEvents", "isFullFor", "(II)Z"⟩ : MethodName)) hown (mvT hZ (own_h hw 44 rfl)) (mvT hZ (own_h hw 45 rfl)) (notFace_of_selects (args := #[]) (mvT hZ (own_h hw 47 rfl))) (mvT hZ (own_h hw 47 rfl)) (mvT hZ (own_h hw 46 rfl)) (by decide) (backOf (W := 0) (rm6 l Z aZ hw [] b117 w0_4 w0_5 (2:Int32) (0:Int32) T265.heap n0 Z273 G274 G271) hZ (own_h hw 48 rfl) (own_h hw 4 rfl) (by decide) (by decide)) q275a q275c (g := (mkF m 180 #[iv p0, iv p1, iv p2, iv p3, iv p4, iv w0_1, iv w0_2, iv w0_3, iv w0_4, iv w0_5, rv b115, rv b117, iv w0_36, iv (0:Int32), iv w0_37] [(.int w0_5), (.int w0_4), (.ref b117)])) rfl (by rw [hml]; rfl) (Steps.refl _) (argsL := [(.int w0_4), (.int w0_5)]) (rest := []) (lenOf own_pd3 rfl) rfl (by show 2 * 0 + _ ≤ _; exact Nat.le_of_eq rfl) (hb hby at_180) (fun _ _ => ⟨rfl, rfl, (by decide : 6 + 0 ≤ _), (by decide : 1494 + 0 ≤ _)⟩)
          dsimp only [Pt.U, Pt.locs, Pt.cells, Pt.slots] at X275 l275 y275 z275 st275 hQ275
          subst l275 y275 z275
          obtain ⟨rfl, N275q, eh275⟩ := hQ275
          have N275 := Fr.app N265 N275q
          refine own_pre (fun _ k => st275.trans k) ?_
          refine own_pre (A := T275.setTop (mkF m 185 #[iv p0, iv p1, iv p2, iv p3, iv p4, iv w0_1, iv w0_2, iv w0_3, iv w0_4, iv w0_5, rv b115, rv b117, iv w0_36, iv (0:Int32), iv w0_37] [(.int w0_37), (.int (f6 w0_4 w0_5 (2:Int32) (0:Int32)))])) (fun t k => ?_) ?_
          · show Steps p.tables e below (T275.setTop (mkF m 183 #[iv p0, iv p1, iv p2, iv p3, iv p4, iv w0_1, iv w0_2, iv w0_3, iv w0_4, iv w0_5, rv b115, rv b117, iv w0_36, iv (0:Int32), iv w0_37] [(.int (f6 w0_4 w0_5 (2:Int32) (0:Int32)))])) _
            refine XS.iload X275.here hx rfl (hb hby at_183) rfl ?_
            exact k
          obtain ⟨w0_38, hw0_38⟩ : ∃ z : Int32, z = (if (f6 w0_4 w0_5 (2:Int32) (0:Int32)) = w0_37 then (1:Int32) else (0:Int32)) := ⟨_, rfl⟩
          refine own_pre (A := T275.setTop (mkF m 193 #[iv p0, iv p1, iv p2, iv p3, iv p4, iv w0_1, iv w0_2, iv w0_3, iv w0_4, iv w0_5, rv b115, rv b117, iv w0_36, iv (0:Int32), iv w0_37] [(.int w0_38)])) (fun t k => ?_) ?_
          · show Steps p.tables e below (T275.setTop (mkF m 185 #[iv p0, iv p1, iv p2, iv p3, iv p4, iv w0_1, iv w0_2, iv w0_3, iv w0_4, iv w0_5, rv b115, rv b117, iv w0_36, iv (0:Int32), iv w0_37] [(.int w0_37), (.int (f6 w0_4 w0_5 (2:Int32) (0:Int32)))])) _
            by_cases hm185_69 : (f6 w0_4 w0_5 (2:Int32) (0:Int32)) = w0_37
            · refine XS.icmpNo X275.here hx rfl (hb hby at_185) rfl (XT.ii_ne_f hm185_69) ?_
              show Steps p.tables e below (T275.setTop (mkF m 188 #[iv p0, iv p1, iv p2, iv p3, iv p4, iv w0_1, iv w0_2, iv w0_3, iv w0_4, iv w0_5, rv b115, rv b117, iv w0_36, iv (0:Int32), iv w0_37] [])) _
              refine XS.iconst X275.here hx rfl (hb hby at_188) ?_
              show Steps p.tables e below (T275.setTop (mkF m 189 #[iv p0, iv p1, iv p2, iv p3, iv p4, iv w0_1, iv w0_2, iv w0_3, iv w0_4, iv w0_5, rv b115, rv b117, iv w0_36, iv (0:Int32), iv w0_37] [(.int (1:Int32))])) _
              refine XS.goto X275.here hx rfl (pc0 := 189) (pc' := 193) rfl (hb hby at_189) (by decide) (by decide) ?_
              rw [hw0_38.trans (if_pos hm185_69)] at k
              exact k
            · refine XS.icmpYes X275.here hx rfl (pc0 := 185) (pc' := 192) rfl (hb hby at_185) rfl (XT.ii_ne_t hm185_69) (by decide) (by decide) ?_
              show Steps p.tables e below (T275.setTop (mkF m 192 #[iv p0, iv p1, iv p2, iv p3, iv p4, iv w0_1, iv w0_2, iv w0_3, iv w0_4, iv w0_5, rv b115, rv b117, iv w0_36, iv (0:Int32), iv w0_37] [])) _
              refine XS.iconst X275.here hx rfl (hb hby at_192) ?_
              rw [hw0_38.trans (if_neg hm185_69)] at k
              exact k
          have hv277 : (w0_38 &&& 1) = f0 p0 p1 p2 p3 p4 := by subst hw0_1 hw0_2 hw0_3 hw0_4 hw0_5 hw0_36 hw0_37 hw0_38; simp only [f0, if_neg hs55_3, if_pos hs66_51, if_neg hs77_53, if_pos hs87_65]
          exact own_end X275 (BodyLoose.notSynchronized Bd) (fun h => by rw [Bd.returns] at h; cases h) (v := some (.int (w0_38 &&& 1))) (fun fs hr => retN X275 hx (t := .boolean) Bd.returns (by simp) (hb hby at_193) hr) (by show Q0 Z p0 p1 p2 p3 p4 h0 n0 _ T275.heap _; rw [eh275]; exact ⟨(congrArg (fun z => some (Value.int z)) hv277), N275⟩) (by decide) (by decide)
        · refine own_pre (A := T265.setTop (mkF m 97 #[iv p0, iv p1, iv p2, iv p3, iv p4, iv w0_1, iv w0_2, iv w0_3, iv w0_4, iv w0_5, rv b115, rv b117, .unset, .unset, .unset] [(.int w0_3), (.int (0:Int32)), (.ref b115), (.ref b117)])) (fun t k => ?_) ?_
          · show Steps p.tables e below (T265.setTop (mkF m 87 #[iv p0, iv p1, iv p2, iv p3, iv p4, iv w0_1, iv w0_2, iv w0_3, iv w0_4, iv w0_5, rv b115, rv b117, .unset, .unset, .unset] [(.int w0_2)])) _
            refine XS.ifNo X265.here hx rfl (hb hby at_87) rfl (XT.i0_eq_f hs87_65) ?_
            show Steps p.tables e below (T265.setTop (mkF m 90 #[iv p0, iv p1, iv p2, iv p3, iv p4, iv w0_1, iv w0_2, iv w0_3, iv w0_4, iv w0_5, rv b115, rv b117, .unset, .unset, .unset] [])) _
            refine XS.aload X265.here hx rfl (hb hby at_90) rfl rfl ?_
            show Steps p.tables e below (T265.setTop (mkF m 92 #[iv p0, iv p1, iv p2, iv p3, iv p4, iv w0_1, iv w0_2, iv w0_3, iv w0_4, iv w0_5, rv b115, rv b117, .unset, .unset, .unset] [(.ref b117)])) _
            refine XS.aload X265.here hx rfl (hb hby at_92) rfl rfl ?_
            show Steps p.tables e below (T265.setTop (mkF m 94 #[iv p0, iv p1, iv p2, iv p3, iv p4, iv w0_1, iv w0_2, iv w0_3, iv w0_4, iv w0_5, rv b115, rv b117, .unset, .unset, .unset] [(.ref b115), (.ref b117)])) _
            refine XS.iconst X265.here hx rfl (hb hby at_94) ?_
            show Steps p.tables e below (T265.setTop (mkF m 95 #[iv p0, iv p1, iv p2, iv p3, iv p4, iv w0_1, iv w0_2, iv w0_3, iv w0_4, iv w0_5, rv b115, rv b117, .unset, .unset, .unset] [(.int (0:Int32)), (.ref b115), (.ref b117)])) _
            refine XS.iload X265.here hx rfl (hb hby at_95) rfl ?_
            exact k
          have F279 := (F266.keep K265)
          have F280 := ((G136.keep K239 (ninS (Ne.symm ne143) (ninS (Ne.symm ne127) nin0))).keep K265 (ninS (Ne.symm ne143) (ninS (Ne.symm ne127) nin0)))
          have F281 := ((G137.keep K239 (ninS (Ne.symm ne146) (ninS (Ne.symm ne128) nin0))).keep K265 (ninS (Ne.symm ne146) (ninS (Ne.symm ne128) nin0)))
          have F282 := (((F120.keep K119 (ninS ne_b115_b117 nin0)).keep K239 (ninS ne_b115_b117 (ninS ne139 nin0))).keep K265 (ninS ne_b115_b117 (ninS ne139 nin0)))
          obtain ⟨cq278, kq278, q278a, q278b, q278c⟩ := isOf hZ rfl F279
          obtain ⟨_, _, ⟨T278, L278, k278, n278⟩, -, X278, ⟨Lc278, hQ278, l278, y278, z278⟩, st278⟩ := X265.virtualBack hx (y := (⟨"com/example/fanout4/fanout4/xdm/RecordedEvents", "text", "([CII)V"⟩ : MethodName)) (z := (⟨"com/example/fanout4/fanout4/xdm/RecordedEvents", "text", "([CII)V"⟩ : MethodName)) hown (mvT hZ (own_h hw 23 rfl)) (mvT hZ (own_h hw 24 rfl)) (notFace_of_selects (args := #[]) (mvT hZ (own_h hw 26 rfl))) (mvT hZ (own_h hw 26 rfl)) (mvT hZ (own_h hw 25 rfl)) (by decide) (backOf (W := 0) (rm3 l Z aZ hw [] b117 b115 w0_3 kd_121 nb_122 ch_123 (own_v171.set (1:Int32).toNatClampNeg ((3:Int32).toInt8.toInt32)) (2:Int32) (List.replicate 128 (0:Int32)) (List.replicate 1024 (0:Int32)) [(0:Int32), (0:Int32), (0:Int32), (0:Int32), (0:Int32), (0:Int32), (0:Int32), (0:Int32), (0:Int32), (0:Int32), (0:Int32), (0:Int32), (0:Int32), (0:Int32), (0:Int32), (0:Int32)] T265.heap n0 Z273 F279 G267 G268 G269 G274 G271 G272 F280 F281 F282 ne140 ne143 ne146 ne127 ne128 ne129 ne_b115_b117 ne139 ne142 ne145 ge_b117 ge141 ge144 ge147 (by first | (simp; done) | decide +kernel) (by decide) (by first | (simp; done) | decide +kernel) (by first | (simp; done) | decide +kernel) rfl (own_l15 hw0_3)) hZ (own_h hw 27 rfl) (own_h hw 4 rfl) (by decide) (by decide)) q278a q278c (g := (mkF m 97 #[iv p0, iv p1, iv p2, iv p3, iv p4, iv w0_1, iv w0_2, iv w0_3, iv w0_4, iv w0_5, rv b115, rv b117, .unset, .unset, .unset] [(.int w0_3), (.int (0:Int32)), (.ref b115), (.ref b117)])) rfl (by rw [hml]; rfl) (Steps.refl _) (argsL := [(.ref b115), (.int (0:Int32)), (.int w0_3)]) (rest := []) (lenOf own_pd4 rfl) rfl (by show 2 * 0 + _ ≤ _; exact Nat.le_of_eq rfl) (hb hby at_97) (fun _ _ => ⟨rfl, rfl, (by decide : 6 + 0 ≤ _), (by decide : 1494 + 0 ≤ _)⟩)
          dsimp only [Pt.U, Pt.locs, Pt.cells, Pt.slots] at X278 l278 y278 z278 st278 hQ278
          subst l278 y278 z278
          obtain ⟨rfl, N278q, K278, G283, G284⟩ := hQ278
          have N278 := Fr.app N265 N278q
          have Z285 : n0 ≤ T278.heap.size := Nat.le_trans Z273 K278.1
          have G286 : Fld Z T278.heap b117 "com/example/fanout4/fanout4/xdm/RecordedEvents" "size" "I" (.int (3:Int32)) := G283
          refine own_pre (fun _ k => st278.trans k) ?_
          obtain ⟨w0_39, hw0_39⟩ : ∃ z : Int32, z = (w0_1 + (1:Int32)) := ⟨_, rfl⟩
          refine own_pre (A := T278.setTop (mkF m 130 #[iv p0, iv p1, iv p2, iv p3, iv p4, iv w0_1, iv w0_2, iv w0_3, iv w0_4, iv w0_5, rv b115, rv b117, iv w0_39, iv w0_3, .unset] [(.int w0_39)])) (fun t k => ?_) ?_
          · show Steps p.tables e below (T278.setTop (mkF m 100 #[iv p0, iv p1, iv p2, iv p3, iv p4, iv w0_1, iv w0_2, iv w0_3, iv w0_4, iv w0_5, rv b115, rv b117, .unset, .unset, .unset] [])) _
            refine XS.iload X278.here hx rfl (hb hby at_100) rfl ?_
            show Steps p.tables e below (T278.setTop (mkF m 102 #[iv p0, iv p1, iv p2, iv p3, iv p4, iv w0_1, iv w0_2, iv w0_3, iv w0_4, iv w0_5, rv b115, rv b117, .unset, .unset, .unset] [(.int w0_1)])) _
            refine XS.iload X278.here hx rfl (hb hby at_102) rfl ?_
            show Steps p.tables e below (T278.setTop (mkF m 104 #[iv p0, iv p1, iv p2, iv p3, iv p4, iv w0_1, iv w0_2, iv w0_3, iv w0_4, iv w0_5, rv b115, rv b117, .unset, .unset, .unset] [(.int w0_2), (.int w0_1)])) _
            refine XS.ifNo X278.here hx rfl (hb hby at_104) rfl (XT.i0_eq_f hs87_65) ?_
            show Steps p.tables e below (T278.setTop (mkF m 107 #[iv p0, iv p1, iv p2, iv p3, iv p4, iv w0_1, iv w0_2, iv w0_3, iv w0_4, iv w0_5, rv b115, rv b117, .unset, .unset, .unset] [(.int w0_1)])) _
            refine XS.iconst X278.here hx rfl (hb hby at_107) ?_
            show Steps p.tables e below (T278.setTop (mkF m 108 #[iv p0, iv p1, iv p2, iv p3, iv p4, iv w0_1, iv w0_2, iv w0_3, iv w0_4, iv w0_5, rv b115, rv b117, .unset, .unset, .unset] [(.int (1:Int32)), (.int w0_1)])) _
            refine XS.goto X278.here hx rfl (pc0 := 108) (pc' := 112) rfl (hb hby at_108) (by decide) (by decide) ?_
            show Steps p.tables e below (T278.setTop (mkF m 112 #[iv p0, iv p1, iv p2, iv p3, iv p4, iv w0_1, iv w0_2, iv w0_3, iv w0_4, iv w0_5, rv b115, rv b117, .unset, .unset, .unset] [(.int (1:Int32)), (.int w0_1)])) _
            refine XS.iadd X278.here hx rfl (hb hby at_112) rfl ?_
            show Steps p.tables e below (T278.setTop (mkF m 113 #[iv p0, iv p1, iv p2, iv p3, iv p4, iv w0_1, iv w0_2, iv w0_3, iv w0_4, iv w0_5, rv b115, rv b117, .unset, .unset, .unset] [(.int (w0_1 + (1:Int32)))])) _
            refine XS.istore X278.here hx rfl (hb hby at_113) rfl (l' := #[iv p0, iv p1, iv p2, iv p3, iv p4, iv w0_1, iv w0_2, iv w0_3, iv w0_4, iv w0_5, rv b115, rv b117, iv w0_39, .unset, .unset]) (by rw [hw0_39]; rfl) ?_
            show Steps p.tables e below (T278.setTop (mkF m 115 #[iv p0, iv p1, iv p2, iv p3, iv p4, iv w0_1, iv w0_2, iv w0_3, iv w0_4, iv w0_5, rv b115, rv b117, iv w0_39, .unset, .unset] [])) _
            refine XS.iload X278.here hx rfl (hb hby at_115) rfl ?_
            show Steps p.tables e below (T278.setTop (mkF m 117 #[iv p0, iv p1, iv p2, iv p3, iv p4, iv w0_1, iv w0_2, iv w0_3, iv w0_4, iv w0_5, rv b115, rv b117, iv w0_39, .unset, .unset] [(.int w0_2)])) _
            refine XS.ifNo X278.here hx rfl (hb hby at_117) rfl (XT.i0_eq_f hs87_65) ?_
            show Steps p.tables e below (T278.setTop (mkF m 120 #[iv p0, iv p1, iv p2, iv p3, iv p4, iv w0_1, iv w0_2, iv w0_3, iv w0_4, iv w0_5, rv b115, rv b117, iv w0_39, .unset, .unset] [])) _
            refine XS.iload X278.here hx rfl (hb hby at_120) rfl ?_
            show Steps p.tables e below (T278.setTop (mkF m 122 #[iv p0, iv p1, iv p2, iv p3, iv p4, iv w0_1, iv w0_2, iv w0_3, iv w0_4, iv w0_5, rv b115, rv b117, iv w0_39, .unset, .unset] [(.int w0_3)])) _
            refine XS.goto X278.here hx rfl (pc0 := 122) (pc' := 126) rfl (hb hby at_122) (by decide) (by decide) ?_
            show Steps p.tables e below (T278.setTop (mkF m 126 #[iv p0, iv p1, iv p2, iv p3, iv p4, iv w0_1, iv w0_2, iv w0_3, iv w0_4, iv w0_5, rv b115, rv b117, iv w0_39, .unset, .unset] [(.int w0_3)])) _
            refine XS.istore X278.here hx rfl (hb hby at_126) rfl (l' := #[iv p0, iv p1, iv p2, iv p3, iv p4, iv w0_1, iv w0_2, iv w0_3, iv w0_4, iv w0_5, rv b115, rv b117, iv w0_39, iv w0_3, .unset]) rfl ?_
            show Steps p.tables e below (T278.setTop (mkF m 128 #[iv p0, iv p1, iv p2, iv p3, iv p4, iv w0_1, iv w0_2, iv w0_3, iv w0_4, iv w0_5, rv b115, rv b117, iv w0_39, iv w0_3, .unset] [])) _
            refine XS.iload X278.here hx rfl (hb hby at_128) rfl ?_
            exact k
          obtain ⟨w0_40, hw0_40⟩ : ∃ z : Int32, z = (if w0_39 = (0:Int32) then (0:Int32) else (if (w0_39 + w0_4) < (1025:Int32) then (if (w0_3 + w0_5) < (16385:Int32) then (0:Int32) else (1:Int32)) else (1:Int32))) := ⟨_, rfl⟩
          refine own_pre (A := T278.setTop (mkF m 174 #[iv p0, iv p1, iv p2, iv p3, iv p4, iv w0_1, iv w0_2, iv w0_3, iv w0_4, iv w0_5, rv b115, rv b117, iv w0_39, iv w0_3, iv w0_40] [])) (fun t k => ?_) ?_
          · show Steps p.tables e below (T278.setTop (mkF m 130 #[iv p0, iv p1, iv p2, iv p3, iv p4, iv w0_1, iv w0_2, iv w0_3, iv w0_4, iv w0_5, rv b115, rv b117, iv w0_39, iv w0_3, .unset] [(.int w0_39)])) _
            by_cases hm130_70 : w0_39 = (0:Int32)
            · refine XS.ifNo X278.here hx rfl (hb hby at_130) rfl (XT.i0_ne_f hm130_70) ?_
              show Steps p.tables e below (T278.setTop (mkF m 133 #[iv p0, iv p1, iv p2, iv p3, iv p4, iv w0_1, iv w0_2, iv w0_3, iv w0_4, iv w0_5, rv b115, rv b117, iv w0_39, iv w0_3, .unset] [])) _
              refine XS.iconst X278.here hx rfl (hb hby at_133) ?_
              show Steps p.tables e below (T278.setTop (mkF m 134 #[iv p0, iv p1, iv p2, iv p3, iv p4, iv w0_1, iv w0_2, iv w0_3, iv w0_4, iv w0_5, rv b115, rv b117, iv w0_39, iv w0_3, .unset] [(.int (0:Int32))])) _
              refine XS.istore X278.here hx rfl (hb hby at_134) rfl (l' := #[iv p0, iv p1, iv p2, iv p3, iv p4, iv w0_1, iv w0_2, iv w0_3, iv w0_4, iv w0_5, rv b115, rv b117, iv w0_39, iv w0_3, iv (0:Int32)]) rfl ?_
              show Steps p.tables e below (T278.setTop (mkF m 136 #[iv p0, iv p1, iv p2, iv p3, iv p4, iv w0_1, iv w0_2, iv w0_3, iv w0_4, iv w0_5, rv b115, rv b117, iv w0_39, iv w0_3, iv (0:Int32)] [])) _
              refine XS.goto X278.here hx rfl (pc0 := 136) (pc' := 174) rfl (hb hby at_136) (by decide) (by decide) ?_
              rw [hw0_40.trans (if_pos hm130_70)] at k
              exact k
            · refine XS.ifYes X278.here hx rfl (pc0 := 130) (pc' := 139) rfl (hb hby at_130) rfl (XT.i0_ne_t hm130_70) (by decide) (by decide) ?_
              show Steps p.tables e below (T278.setTop (mkF m 139 #[iv p0, iv p1, iv p2, iv p3, iv p4, iv w0_1, iv w0_2, iv w0_3, iv w0_4, iv w0_5, rv b115, rv b117, iv w0_39, iv w0_3, .unset] [])) _
              refine XS.iload X278.here hx rfl (hb hby at_139) rfl ?_
              show Steps p.tables e below (T278.setTop (mkF m 141 #[iv p0, iv p1, iv p2, iv p3, iv p4, iv w0_1, iv w0_2, iv w0_3, iv w0_4, iv w0_5, rv b115, rv b117, iv w0_39, iv w0_3, .unset] [(.int w0_39)])) _
              refine XS.iload X278.here hx rfl (hb hby at_141) rfl ?_
              show Steps p.tables e below (T278.setTop (mkF m 143 #[iv p0, iv p1, iv p2, iv p3, iv p4, iv w0_1, iv w0_2, iv w0_3, iv w0_4, iv w0_5, rv b115, rv b117, iv w0_39, iv w0_3, .unset] [(.int w0_4), (.int w0_39)])) _
              refine XS.iadd X278.here hx rfl (hb hby at_143) rfl ?_
              show Steps p.tables e below (T278.setTop (mkF m 144 #[iv p0, iv p1, iv p2, iv p3, iv p4, iv w0_1, iv w0_2, iv w0_3, iv w0_4, iv w0_5, rv b115, rv b117, iv w0_39, iv w0_3, .unset] [(.int (w0_39 + w0_4))])) _
              refine XS.sipush X278.here hx rfl (hb hby at_144) ?_
              show Steps p.tables e below (T278.setTop (mkF m 147 #[iv p0, iv p1, iv p2, iv p3, iv p4, iv w0_1, iv w0_2, iv w0_3, iv w0_4, iv w0_5, rv b115, rv b117, iv w0_39, iv w0_3, .unset] [(.int (1025:Int32)), (.int (w0_39 + w0_4))])) _
              by_cases hm147_71 : (w0_39 + w0_4) < (1025:Int32)
              · refine XS.icmpYes X278.here hx rfl (pc0 := 147) (pc' := 156) rfl (hb hby at_147) rfl (XT.ii_lt_t hm147_71) (by decide) (by decide) ?_
                show Steps p.tables e below (T278.setTop (mkF m 156 #[iv p0, iv p1, iv p2, iv p3, iv p4, iv w0_1, iv w0_2, iv w0_3, iv w0_4, iv w0_5, rv b115, rv b117, iv w0_39, iv w0_3, .unset] [])) _
                refine XS.iload X278.here hx rfl (hb hby at_156) rfl ?_
                show Steps p.tables e below (T278.setTop (mkF m 158 #[iv p0, iv p1, iv p2, iv p3, iv p4, iv w0_1, iv w0_2, iv w0_3, iv w0_4, iv w0_5, rv b115, rv b117, iv w0_39, iv w0_3, .unset] [(.int w0_3)])) _
                refine XS.iload X278.here hx rfl (hb hby at_158) rfl ?_
                show Steps p.tables e below (T278.setTop (mkF m 160 #[iv p0, iv p1, iv p2, iv p3, iv p4, iv w0_1, iv w0_2, iv w0_3, iv w0_4, iv w0_5, rv b115, rv b117, iv w0_39, iv w0_3, .unset] [(.int w0_5), (.int w0_3)])) _
                refine XS.iadd X278.here hx rfl (hb hby at_160) rfl ?_
                show Steps p.tables e below (T278.setTop (mkF m 161 #[iv p0, iv p1, iv p2, iv p3, iv p4, iv w0_1, iv w0_2, iv w0_3, iv w0_4, iv w0_5, rv b115, rv b117, iv w0_39, iv w0_3, .unset] [(.int (w0_3 + w0_5))])) _
                refine XS.sipush X278.here hx rfl (hb hby at_161) ?_
                show Steps p.tables e below (T278.setTop (mkF m 164 #[iv p0, iv p1, iv p2, iv p3, iv p4, iv w0_1, iv w0_2, iv w0_3, iv w0_4, iv w0_5, rv b115, rv b117, iv w0_39, iv w0_3, .unset] [(.int (16385:Int32)), (.int (w0_3 + w0_5))])) _
                by_cases hm164_72 : (w0_3 + w0_5) < (16385:Int32)
                · refine XS.icmpYes X278.here hx rfl (pc0 := 164) (pc' := 171) rfl (hb hby at_164) rfl (XT.ii_lt_t hm164_72) (by decide) (by decide) ?_
                  show Steps p.tables e below (T278.setTop (mkF m 171 #[iv p0, iv p1, iv p2, iv p3, iv p4, iv w0_1, iv w0_2, iv w0_3, iv w0_4, iv w0_5, rv b115, rv b117, iv w0_39, iv w0_3, .unset] [])) _
                  refine XS.iconst X278.here hx rfl (hb hby at_171) ?_
                  show Steps p.tables e below (T278.setTop (mkF m 172 #[iv p0, iv p1, iv p2, iv p3, iv p4, iv w0_1, iv w0_2, iv w0_3, iv w0_4, iv w0_5, rv b115, rv b117, iv w0_39, iv w0_3, .unset] [(.int (0:Int32))])) _
                  refine XS.istore X278.here hx rfl (hb hby at_172) rfl (l' := #[iv p0, iv p1, iv p2, iv p3, iv p4, iv w0_1, iv w0_2, iv w0_3, iv w0_4, iv w0_5, rv b115, rv b117, iv w0_39, iv w0_3, iv (0:Int32)]) rfl ?_
                  rw [hw0_40.trans (((if_neg hm130_70).trans (if_pos hm147_71)).trans (if_pos hm164_72))] at k
                  exact k
                · refine XS.icmpNo X278.here hx rfl (hb hby at_164) rfl (XT.ii_lt_f hm164_72) ?_
                  show Steps p.tables e below (T278.setTop (mkF m 167 #[iv p0, iv p1, iv p2, iv p3, iv p4, iv w0_1, iv w0_2, iv w0_3, iv w0_4, iv w0_5, rv b115, rv b117, iv w0_39, iv w0_3, .unset] [])) _
                  refine XS.iconst X278.here hx rfl (hb hby at_167) ?_
                  show Steps p.tables e below (T278.setTop (mkF m 168 #[iv p0, iv p1, iv p2, iv p3, iv p4, iv w0_1, iv w0_2, iv w0_3, iv w0_4, iv w0_5, rv b115, rv b117, iv w0_39, iv w0_3, .unset] [(.int (1:Int32))])) _
                  refine XS.goto X278.here hx rfl (pc0 := 168) (pc' := 172) rfl (hb hby at_168) (by decide) (by decide) ?_
                  show Steps p.tables e below (T278.setTop (mkF m 172 #[iv p0, iv p1, iv p2, iv p3, iv p4, iv w0_1, iv w0_2, iv w0_3, iv w0_4, iv w0_5, rv b115, rv b117, iv w0_39, iv w0_3, .unset] [(.int (1:Int32))])) _
                  refine XS.istore X278.here hx rfl (hb hby at_172) rfl (l' := #[iv p0, iv p1, iv p2, iv p3, iv p4, iv w0_1, iv w0_2, iv w0_3, iv w0_4, iv w0_5, rv b115, rv b117, iv w0_39, iv w0_3, iv (1:Int32)]) rfl ?_
                  rw [hw0_40.trans (((if_neg hm130_70).trans (if_pos hm147_71)).trans (if_neg hm164_72))] at k
                  exact k
              · refine XS.icmpNo X278.here hx rfl (hb hby at_147) rfl (XT.ii_lt_f hm147_71) ?_
                show Steps p.tables e below (T278.setTop (mkF m 150 #[iv p0, iv p1, iv p2, iv p3, iv p4, iv w0_1, iv w0_2, iv w0_3, iv w0_4, iv w0_5, rv b115, rv b117, iv w0_39, iv w0_3, .unset] [])) _
                refine XS.iconst X278.here hx rfl (hb hby at_150) ?_
                show Steps p.tables e below (T278.setTop (mkF m 151 #[iv p0, iv p1, iv p2, iv p3, iv p4, iv w0_1, iv w0_2, iv w0_3, iv w0_4, iv w0_5, rv b115, rv b117, iv w0_39, iv w0_3, .unset] [(.int (1:Int32))])) _
                refine XS.istore X278.here hx rfl (hb hby at_151) rfl (l' := #[iv p0, iv p1, iv p2, iv p3, iv p4, iv w0_1, iv w0_2, iv w0_3, iv w0_4, iv w0_5, rv b115, rv b117, iv w0_39, iv w0_3, iv (1:Int32)]) rfl ?_
                show Steps p.tables e below (T278.setTop (mkF m 153 #[iv p0, iv p1, iv p2, iv p3, iv p4, iv w0_1, iv w0_2, iv w0_3, iv w0_4, iv w0_5, rv b115, rv b117, iv w0_39, iv w0_3, iv (1:Int32)] [])) _
                refine XS.goto X278.here hx rfl (pc0 := 153) (pc' := 174) rfl (hb hby at_153) (by decide) (by decide) ?_
                rw [hw0_40.trans ((if_neg hm130_70).trans (if_neg hm147_71))] at k
                exact k
          refine own_pre (A := T278.setTop (mkF m 180 #[iv p0, iv p1, iv p2, iv p3, iv p4, iv w0_1, iv w0_2, iv w0_3, iv w0_4, iv w0_5, rv b115, rv b117, iv w0_39, iv w0_3, iv w0_40] [(.int w0_5), (.int w0_4), (.ref b117)])) (fun t k => ?_) ?_
          · show Steps p.tables e below (T278.setTop (mkF m 174 #[iv p0, iv p1, iv p2, iv p3, iv p4, iv w0_1, iv w0_2, iv w0_3, iv w0_4, iv w0_5, rv b115, rv b117, iv w0_39, iv w0_3, iv w0_40] [])) _
            refine XS.aload X278.here hx rfl (hb hby at_174) rfl rfl ?_
            show Steps p.tables e below (T278.setTop (mkF m 176 #[iv p0, iv p1, iv p2, iv p3, iv p4, iv w0_1, iv w0_2, iv w0_3, iv w0_4, iv w0_5, rv b115, rv b117, iv w0_39, iv w0_3, iv w0_40] [(.ref b117)])) _
            refine XS.iload X278.here hx rfl (hb hby at_176) rfl ?_
            show Steps p.tables e below (T278.setTop (mkF m 178 #[iv p0, iv p1, iv p2, iv p3, iv p4, iv w0_1, iv w0_2, iv w0_3, iv w0_4, iv w0_5, rv b115, rv b117, iv w0_39, iv w0_3, iv w0_40] [(.int w0_4), (.ref b117)])) _
            refine XS.iload X278.here hx rfl (hb hby at_178) rfl ?_
            exact k
          have F288 := (F279.keep K278)
          obtain ⟨cq287, kq287, q287a, q287b, q287c⟩ := isOf hZ rfl F288
          obtain ⟨_, _, ⟨T287, L287, k287, n287⟩, -, X287, ⟨Lc287, hQ287, l287, y287, z287⟩, st287⟩ := X278.virtualBack hx (y := (⟨"com/example/fanout4/fanout4/xdm/RecordedEvents", "isFullFor", "(II)Z"⟩ : MethodName)) (z := (⟨"com/example/fanout4/fanout4/xdm/RecordedEvents", "isFullFor", "(II)Z"⟩ : MethodName)) hown (mvT hZ (own_h hw 44 rfl)) (mvT hZ (own_h hw 45 rfl)) (notFace_of_selects (args := #[]) (mvT hZ (own_h hw 47 rfl))) (mvT hZ (own_h hw 47 rfl)) (mvT hZ (own_h hw 46 rfl)) (by decide) (backOf (W := 0) (rm6 l Z aZ hw [] b117 w0_4 w0_5 (3:Int32) ((0:Int32) + w0_3) T278.heap n0 Z285 G286 G284) hZ (own_h hw 48 rfl) (own_h hw 4 rfl) (by decide) (by decide)) q287a q287c (g := (mkF m 180 #[iv p0, iv p1, iv p2, iv p3, iv p4, iv w0_1, iv w0_2, iv w0_3, iv w0_4, iv w0_5, rv b115, rv b117, iv w0_39, iv w0_3, iv w0_40] [(.int w0_5), (.int w0_4), (.ref b117)])) rfl (by rw [hml]; rfl) (Steps.refl _) (argsL := [(.int w0_4), (.int w0_5)]) (rest := []) (lenOf own_pd3 rfl) rfl (by show 2 * 0 + _ ≤ _; exact Nat.le_of_eq rfl) (hb hby at_180) (fun _ _ => ⟨rfl, rfl, (by decide : 6 + 0 ≤ _), (by decide : 1494 + 0 ≤ _)⟩)
          dsimp only [Pt.U, Pt.locs, Pt.cells, Pt.slots] at X287 l287 y287 z287 st287 hQ287
          subst l287 y287 z287
          obtain ⟨rfl, N287q, eh287⟩ := hQ287
          have N287 := Fr.app N278 N287q
          refine own_pre (fun _ k => st287.trans k) ?_
          refine own_pre (A := T287.setTop (mkF m 185 #[iv p0, iv p1, iv p2, iv p3, iv p4, iv w0_1, iv w0_2, iv w0_3, iv w0_4, iv w0_5, rv b115, rv b117, iv w0_39, iv w0_3, iv w0_40] [(.int w0_40), (.int (f6 w0_4 w0_5 (3:Int32) ((0:Int32) + w0_3)))])) (fun t k => ?_) ?_
          · show Steps p.tables e below (T287.setTop (mkF m 183 #[iv p0, iv p1, iv p2, iv p3, iv p4, iv w0_1, iv w0_2, iv w0_3, iv w0_4, iv w0_5, rv b115, rv b117, iv w0_39, iv w0_3, iv w0_40] [(.int (f6 w0_4 w0_5 (3:Int32) ((0:Int32) + w0_3)))])) _
            refine XS.iload X287.here hx rfl (hb hby at_183) rfl ?_
            exact k
          obtain ⟨w0_41, hw0_41⟩ : ∃ z : Int32, z = (if (f6 w0_4 w0_5 (3:Int32) ((0:Int32) + w0_3)) = w0_40 then (1:Int32) else (0:Int32)) := ⟨_, rfl⟩
          refine own_pre (A := T287.setTop (mkF m 193 #[iv p0, iv p1, iv p2, iv p3, iv p4, iv w0_1, iv w0_2, iv w0_3, iv w0_4, iv w0_5, rv b115, rv b117, iv w0_39, iv w0_3, iv w0_40] [(.int w0_41)])) (fun t k => ?_) ?_
          · show Steps p.tables e below (T287.setTop (mkF m 185 #[iv p0, iv p1, iv p2, iv p3, iv p4, iv w0_1, iv w0_2, iv w0_3, iv w0_4, iv w0_5, rv b115, rv b117, iv w0_39, iv w0_3, iv w0_40] [(.int w0_40), (.int (f6 w0_4 w0_5 (3:Int32) ((0:Int32) + w0_3)))])) _
            by_cases hm185_73 : (f6 w0_4 w0_5 (3:Int32) ((0:Int32) + w0_3)) = w0_40
            · refine XS.icmpNo X287.here hx rfl (hb hby at_185) rfl (XT.ii_ne_f hm185_73) ?_
              show Steps p.tables e below (T287.setTop (mkF m 188 #[iv p0, iv p1, iv p2, iv p3, iv p4, iv w0_1, iv w0_2, iv w0_3, iv w0_4, iv w0_5, rv b115, rv b117, iv w0_39, iv w0_3, iv w0_40] [])) _
              refine XS.iconst X287.here hx rfl (hb hby at_188) ?_
              show Steps p.tables e below (T287.setTop (mkF m 189 #[iv p0, iv p1, iv p2, iv p3, iv p4, iv w0_1, iv w0_2, iv w0_3, iv w0_4, iv w0_5, rv b115, rv b117, iv w0_39, iv w0_3, iv w0_40] [(.int (1:Int32))])) _
              refine XS.goto X287.here hx rfl (pc0 := 189) (pc' := 193) rfl (hb hby at_189) (by decide) (by decide) ?_
              rw [hw0_41.trans (if_pos hm185_73)] at k
              exact k
            · refine XS.icmpYes X287.here hx rfl (pc0 := 185) (pc' := 192) rfl (hb hby at_185) rfl (XT.ii_ne_t hm185_73) (by decide) (by decide) ?_
              show Steps p.tables e below (T287.setTop (mkF m 192 #[iv p0, iv p1, iv p2, iv p3, iv p4, iv w0_1, iv w0_2, iv w0_3, iv w0_4, iv w0_5, rv b115, rv b117, iv w0_39, iv w0_3, iv w0_40] [])) _
              refine XS.iconst X287.here hx rfl (hb hby at_192) ?_
              rw [hw0_41.trans (if_neg hm185_73)] at k
              exact k
          have hv289 : (w0_41 &&& 1) = f0 p0 p1 p2 p3 p4 := by subst hw0_1 hw0_2 hw0_3 hw0_4 hw0_5 hw0_39 hw0_40 hw0_41; simp only [f0, if_neg hs55_3, if_pos hs66_51, if_neg hs77_53, if_neg hs87_65]
          exact own_end X287 (BodyLoose.notSynchronized Bd) (fun h => by rw [Bd.returns] at h; cases h) (v := some (.int (w0_41 &&& 1))) (fun fs hr => retN X287 hx (t := .boolean) Bd.returns (by simp) (hb hby at_193) hr) (by show Q0 Z p0 p1 p2 p3 p4 h0 n0 _ T287.heap _; rw [eh287]; exact ⟨(congrArg (fun z => some (Value.int z)) hv289), N287⟩) (by decide) (by decide)
    · refine own_pre (A := T239.setTop (mkF m 71 #[iv p0, iv p1, iv p2, iv p3, iv p4, iv w0_1, iv w0_2, iv w0_3, iv w0_4, iv w0_5, rv b115, rv b117, .unset, .unset, .unset] [(.ref b117)])) (fun t k => ?_) ?_
      · show Steps p.tables e below (T239.setTop (mkF m 66 #[iv p0, iv p1, iv p2, iv p3, iv p4, iv w0_1, iv w0_2, iv w0_3, iv w0_4, iv w0_5, rv b115, rv b117, .unset, .unset, .unset] [(.int (2:Int32)), (.int w0_1)])) _
        refine XS.icmpNo X239.here hx rfl (hb hby at_66) rfl (XT.ii_lt_f hs66_51) ?_
        show Steps p.tables e below (T239.setTop (mkF m 69 #[iv p0, iv p1, iv p2, iv p3, iv p4, iv w0_1, iv w0_2, iv w0_3, iv w0_4, iv w0_5, rv b115, rv b117, .unset, .unset, .unset] [])) _
        refine XS.aload X239.here hx rfl (hb hby at_69) rfl rfl ?_
        exact k
      have F291 := (F240.keep K239)
      obtain ⟨cq290, kq290, q290a, q290b, q290c⟩ := isOf hZ rfl F291
      obtain ⟨_, _, ⟨T290, L290, k290, n290⟩, -, X290, ⟨Lc290, hQ290, l290, y290, z290⟩, st290⟩ := X239.virtualBack hx (y := (⟨"com/example/fanout4/fanout4/xdm/RecordedEvents", "endTag", "()V"⟩ : MethodName)) (z := (⟨"com/example/fanout4/fanout4/xdm/RecordedEvents", "endTag", "()V"⟩ : MethodName)) hown (mvT hZ (own_h hw 49 rfl)) (mvT hZ (own_h hw 50 rfl)) (notFace_of_selects (args := #[]) (mvT hZ (own_h hw 52 rfl))) (mvT hZ (own_h hw 52 rfl)) (mvT hZ (own_h hw 51 rfl)) (by decide) (backOf (W := 0) (rm7 l Z aZ hw [] b117 kd_121 nb_122 ch_123 own_v171 (1:Int32) (0:Int32) T239.heap n0 Z247 F291 G241 G242 G243 G248 G245 G249 ne140 ge_b117 ge141 (by first | (simp; done) | decide +kernel) (by decide)) hZ (own_h hw 53 rfl) (own_h hw 4 rfl) (by decide) (by decide)) q290a q290c (g := (mkF m 71 #[iv p0, iv p1, iv p2, iv p3, iv p4, iv w0_1, iv w0_2, iv w0_3, iv w0_4, iv w0_5, rv b115, rv b117, .unset, .unset, .unset] [(.ref b117)])) rfl (by rw [hml]; rfl) (Steps.refl _) (argsL := []) (rest := []) (lenOf own_pd2 rfl) rfl (by show 2 * 0 + _ ≤ _; exact Nat.le_of_eq rfl) (hb hby at_71) (fun _ _ => ⟨rfl, rfl, (by decide : 6 + 0 ≤ _), (by decide : 1494 + 0 ≤ _)⟩)
      dsimp only [Pt.U, Pt.locs, Pt.cells, Pt.slots] at X290 l290 y290 z290 st290 hQ290
      subst l290 y290 z290
      obtain ⟨rfl, N290q, K290, G292, G293, G294, G295, G296, G297⟩ := hQ290
      have N290 := Fr.app N239 N290q
      have Z298 : n0 ≤ T290.heap.size := Nat.le_trans Z247 K290.1
      have G299 : Fld Z T290.heap b117 "com/example/fanout4/fanout4/xdm/RecordedEvents" "size" "I" (.int (2:Int32)) := G295
      refine own_pre (fun _ k => st290.trans k) ?_
      refine own_pre (A := T290.setTop (mkF m 77 #[iv p0, iv p1, iv p2, iv p3, iv p4, iv w0_1, iv w0_2, iv w0_3, iv w0_4, iv w0_5, rv b115, rv b117, .unset, .unset, .unset] [(.int (3:Int32)), (.int w0_1)])) (fun t k => ?_) ?_
      · show Steps p.tables e below (T290.setTop (mkF m 74 #[iv p0, iv p1, iv p2, iv p3, iv p4, iv w0_1, iv w0_2, iv w0_3, iv w0_4, iv w0_5, rv b115, rv b117, .unset, .unset, .unset] [])) _
        refine XS.iload X290.here hx rfl (hb hby at_74) rfl ?_
        show Steps p.tables e below (T290.setTop (mkF m 76 #[iv p0, iv p1, iv p2, iv p3, iv p4, iv w0_1, iv w0_2, iv w0_3, iv w0_4, iv w0_5, rv b115, rv b117, .unset, .unset, .unset] [(.int w0_1)])) _
        refine XS.iconst X290.here hx rfl (hb hby at_76) ?_
        exact k
      by_cases hs77_75 : w0_1 < (3:Int32)
      · refine own_pre (A := T290.setTop (mkF m 87 #[iv p0, iv p1, iv p2, iv p3, iv p4, iv w0_1, iv w0_2, iv w0_3, iv w0_4, iv w0_5, rv b115, rv b117, .unset, .unset, .unset] [(.int w0_2)])) (fun t k => ?_) ?_
        · show Steps p.tables e below (T290.setTop (mkF m 77 #[iv p0, iv p1, iv p2, iv p3, iv p4, iv w0_1, iv w0_2, iv w0_3, iv w0_4, iv w0_5, rv b115, rv b117, .unset, .unset, .unset] [(.int (3:Int32)), (.int w0_1)])) _
          refine XS.icmpYes X290.here hx rfl (pc0 := 77) (pc' := 85) rfl (hb hby at_77) rfl (XT.ii_lt_t hs77_75) (by decide) (by decide) ?_
          show Steps p.tables e below (T290.setTop (mkF m 85 #[iv p0, iv p1, iv p2, iv p3, iv p4, iv w0_1, iv w0_2, iv w0_3, iv w0_4, iv w0_5, rv b115, rv b117, .unset, .unset, .unset] [])) _
          refine XS.iload X290.here hx rfl (hb hby at_85) rfl ?_
          exact k
        by_cases hs87_77 : w0_2 = (0:Int32)
        · obtain ⟨w0_42, hw0_42⟩ : ∃ z : Int32, z = (w0_1 + (0:Int32)) := ⟨_, rfl⟩
          refine own_pre (A := T290.setTop (mkF m 130 #[iv p0, iv p1, iv p2, iv p3, iv p4, iv w0_1, iv w0_2, iv w0_3, iv w0_4, iv w0_5, rv b115, rv b117, iv w0_42, iv (0:Int32), .unset] [(.int w0_42)])) (fun t k => ?_) ?_
          · show Steps p.tables e below (T290.setTop (mkF m 87 #[iv p0, iv p1, iv p2, iv p3, iv p4, iv w0_1, iv w0_2, iv w0_3, iv w0_4, iv w0_5, rv b115, rv b117, .unset, .unset, .unset] [(.int w0_2)])) _
            refine XS.ifYes X290.here hx rfl (pc0 := 87) (pc' := 100) rfl (hb hby at_87) rfl (XT.i0_eq_t hs87_77) (by decide) (by decide) ?_
            show Steps p.tables e below (T290.setTop (mkF m 100 #[iv p0, iv p1, iv p2, iv p3, iv p4, iv w0_1, iv w0_2, iv w0_3, iv w0_4, iv w0_5, rv b115, rv b117, .unset, .unset, .unset] [])) _
            refine XS.iload X290.here hx rfl (hb hby at_100) rfl ?_
            show Steps p.tables e below (T290.setTop (mkF m 102 #[iv p0, iv p1, iv p2, iv p3, iv p4, iv w0_1, iv w0_2, iv w0_3, iv w0_4, iv w0_5, rv b115, rv b117, .unset, .unset, .unset] [(.int w0_1)])) _
            refine XS.iload X290.here hx rfl (hb hby at_102) rfl ?_
            show Steps p.tables e below (T290.setTop (mkF m 104 #[iv p0, iv p1, iv p2, iv p3, iv p4, iv w0_1, iv w0_2, iv w0_3, iv w0_4, iv w0_5, rv b115, rv b117, .unset, .unset, .unset] [(.int w0_2), (.int w0_1)])) _
            refine XS.ifYes X290.here hx rfl (pc0 := 104) (pc' := 111) rfl (hb hby at_104) rfl (XT.i0_eq_t hs87_77) (by decide) (by decide) ?_
            show Steps p.tables e below (T290.setTop (mkF m 111 #[iv p0, iv p1, iv p2, iv p3, iv p4, iv w0_1, iv w0_2, iv w0_3, iv w0_4, iv w0_5, rv b115, rv b117, .unset, .unset, .unset] [(.int w0_1)])) _
            refine XS.iconst X290.here hx rfl (hb hby at_111) ?_
            show Steps p.tables e below (T290.setTop (mkF m 112 #[iv p0, iv p1, iv p2, iv p3, iv p4, iv w0_1, iv w0_2, iv w0_3, iv w0_4, iv w0_5, rv b115, rv b117, .unset, .unset, .unset] [(.int (0:Int32)), (.int w0_1)])) _
            refine XS.iadd X290.here hx rfl (hb hby at_112) rfl ?_
            show Steps p.tables e below (T290.setTop (mkF m 113 #[iv p0, iv p1, iv p2, iv p3, iv p4, iv w0_1, iv w0_2, iv w0_3, iv w0_4, iv w0_5, rv b115, rv b117, .unset, .unset, .unset] [(.int (w0_1 + (0:Int32)))])) _
            refine XS.istore X290.here hx rfl (hb hby at_113) rfl (l' := #[iv p0, iv p1, iv p2, iv p3, iv p4, iv w0_1, iv w0_2, iv w0_3, iv w0_4, iv w0_5, rv b115, rv b117, iv w0_42, .unset, .unset]) (by rw [hw0_42]; rfl) ?_
            show Steps p.tables e below (T290.setTop (mkF m 115 #[iv p0, iv p1, iv p2, iv p3, iv p4, iv w0_1, iv w0_2, iv w0_3, iv w0_4, iv w0_5, rv b115, rv b117, iv w0_42, .unset, .unset] [])) _
            refine XS.iload X290.here hx rfl (hb hby at_115) rfl ?_
            show Steps p.tables e below (T290.setTop (mkF m 117 #[iv p0, iv p1, iv p2, iv p3, iv p4, iv w0_1, iv w0_2, iv w0_3, iv w0_4, iv w0_5, rv b115, rv b117, iv w0_42, .unset, .unset] [(.int w0_2)])) _
            refine XS.ifYes X290.here hx rfl (pc0 := 117) (pc' := 125) rfl (hb hby at_117) rfl (XT.i0_eq_t hs87_77) (by decide) (by decide) ?_
            show Steps p.tables e below (T290.setTop (mkF m 125 #[iv p0, iv p1, iv p2, iv p3, iv p4, iv w0_1, iv w0_2, iv w0_3, iv w0_4, iv w0_5, rv b115, rv b117, iv w0_42, .unset, .unset] [])) _
            refine XS.iconst X290.here hx rfl (hb hby at_125) ?_
            show Steps p.tables e below (T290.setTop (mkF m 126 #[iv p0, iv p1, iv p2, iv p3, iv p4, iv w0_1, iv w0_2, iv w0_3, iv w0_4, iv w0_5, rv b115, rv b117, iv w0_42, .unset, .unset] [(.int (0:Int32))])) _
            refine XS.istore X290.here hx rfl (hb hby at_126) rfl (l' := #[iv p0, iv p1, iv p2, iv p3, iv p4, iv w0_1, iv w0_2, iv w0_3, iv w0_4, iv w0_5, rv b115, rv b117, iv w0_42, iv (0:Int32), .unset]) rfl ?_
            show Steps p.tables e below (T290.setTop (mkF m 128 #[iv p0, iv p1, iv p2, iv p3, iv p4, iv w0_1, iv w0_2, iv w0_3, iv w0_4, iv w0_5, rv b115, rv b117, iv w0_42, iv (0:Int32), .unset] [])) _
            refine XS.iload X290.here hx rfl (hb hby at_128) rfl ?_
            exact k
          obtain ⟨w0_43, hw0_43⟩ : ∃ z : Int32, z = (if w0_42 = (0:Int32) then (0:Int32) else (if (w0_42 + w0_4) < (1025:Int32) then (if ((0:Int32) + w0_5) < (16385:Int32) then (0:Int32) else (1:Int32)) else (1:Int32))) := ⟨_, rfl⟩
          refine own_pre (A := T290.setTop (mkF m 174 #[iv p0, iv p1, iv p2, iv p3, iv p4, iv w0_1, iv w0_2, iv w0_3, iv w0_4, iv w0_5, rv b115, rv b117, iv w0_42, iv (0:Int32), iv w0_43] [])) (fun t k => ?_) ?_
          · show Steps p.tables e below (T290.setTop (mkF m 130 #[iv p0, iv p1, iv p2, iv p3, iv p4, iv w0_1, iv w0_2, iv w0_3, iv w0_4, iv w0_5, rv b115, rv b117, iv w0_42, iv (0:Int32), .unset] [(.int w0_42)])) _
            by_cases hm130_78 : w0_42 = (0:Int32)
            · refine XS.ifNo X290.here hx rfl (hb hby at_130) rfl (XT.i0_ne_f hm130_78) ?_
              show Steps p.tables e below (T290.setTop (mkF m 133 #[iv p0, iv p1, iv p2, iv p3, iv p4, iv w0_1, iv w0_2, iv w0_3, iv w0_4, iv w0_5, rv b115, rv b117, iv w0_42, iv (0:Int32), .unset] [])) _
              refine XS.iconst X290.here hx rfl (hb hby at_133) ?_
              show Steps p.tables e below (T290.setTop (mkF m 134 #[iv p0, iv p1, iv p2, iv p3, iv p4, iv w0_1, iv w0_2, iv w0_3, iv w0_4, iv w0_5, rv b115, rv b117, iv w0_42, iv (0:Int32), .unset] [(.int (0:Int32))])) _
              refine XS.istore X290.here hx rfl (hb hby at_134) rfl (l' := #[iv p0, iv p1, iv p2, iv p3, iv p4, iv w0_1, iv w0_2, iv w0_3, iv w0_4, iv w0_5, rv b115, rv b117, iv w0_42, iv (0:Int32), iv (0:Int32)]) rfl ?_
              show Steps p.tables e below (T290.setTop (mkF m 136 #[iv p0, iv p1, iv p2, iv p3, iv p4, iv w0_1, iv w0_2, iv w0_3, iv w0_4, iv w0_5, rv b115, rv b117, iv w0_42, iv (0:Int32), iv (0:Int32)] [])) _
              refine XS.goto X290.here hx rfl (pc0 := 136) (pc' := 174) rfl (hb hby at_136) (by decide) (by decide) ?_
              rw [hw0_43.trans (if_pos hm130_78)] at k
              exact k
            · refine XS.ifYes X290.here hx rfl (pc0 := 130) (pc' := 139) rfl (hb hby at_130) rfl (XT.i0_ne_t hm130_78) (by decide) (by decide) ?_
              show Steps p.tables e below (T290.setTop (mkF m 139 #[iv p0, iv p1, iv p2, iv p3, iv p4, iv w0_1, iv w0_2, iv w0_3, iv w0_4, iv w0_5, rv b115, rv b117, iv w0_42, iv (0:Int32), .unset] [])) _
              refine XS.iload X290.here hx rfl (hb hby at_139) rfl ?_
              show Steps p.tables e below (T290.setTop (mkF m 141 #[iv p0, iv p1, iv p2, iv p3, iv p4, iv w0_1, iv w0_2, iv w0_3, iv w0_4, iv w0_5, rv b115, rv b117, iv w0_42, iv (0:Int32), .unset] [(.int w0_42)])) _
              refine XS.iload X290.here hx rfl (hb hby at_141) rfl ?_
              show Steps p.tables e below (T290.setTop (mkF m 143 #[iv p0, iv p1, iv p2, iv p3, iv p4, iv w0_1, iv w0_2, iv w0_3, iv w0_4, iv w0_5, rv b115, rv b117, iv w0_42, iv (0:Int32), .unset] [(.int w0_4), (.int w0_42)])) _
              refine XS.iadd X290.here hx rfl (hb hby at_143) rfl ?_
              show Steps p.tables e below (T290.setTop (mkF m 144 #[iv p0, iv p1, iv p2, iv p3, iv p4, iv w0_1, iv w0_2, iv w0_3, iv w0_4, iv w0_5, rv b115, rv b117, iv w0_42, iv (0:Int32), .unset] [(.int (w0_42 + w0_4))])) _
              refine XS.sipush X290.here hx rfl (hb hby at_144) ?_
              show Steps p.tables e below (T290.setTop (mkF m 147 #[iv p0, iv p1, iv p2, iv p3, iv p4, iv w0_1, iv w0_2, iv w0_3, iv w0_4, iv w0_5, rv b115, rv b117, iv w0_42, iv (0:Int32), .unset] [(.int (1025:Int32)), (.int (w0_42 + w0_4))])) _
              by_cases hm147_79 : (w0_42 + w0_4) < (1025:Int32)
              · refine XS.icmpYes X290.here hx rfl (pc0 := 147) (pc' := 156) rfl (hb hby at_147) rfl (XT.ii_lt_t hm147_79) (by decide) (by decide) ?_
                show Steps p.tables e below (T290.setTop (mkF m 156 #[iv p0, iv p1, iv p2, iv p3, iv p4, iv w0_1, iv w0_2, iv w0_3, iv w0_4, iv w0_5, rv b115, rv b117, iv w0_42, iv (0:Int32), .unset] [])) _
                refine XS.iload X290.here hx rfl (hb hby at_156) rfl ?_
                show Steps p.tables e below (T290.setTop (mkF m 158 #[iv p0, iv p1, iv p2, iv p3, iv p4, iv w0_1, iv w0_2, iv w0_3, iv w0_4, iv w0_5, rv b115, rv b117, iv w0_42, iv (0:Int32), .unset] [(.int (0:Int32))])) _
                refine XS.iload X290.here hx rfl (hb hby at_158) rfl ?_
                show Steps p.tables e below (T290.setTop (mkF m 160 #[iv p0, iv p1, iv p2, iv p3, iv p4, iv w0_1, iv w0_2, iv w0_3, iv w0_4, iv w0_5, rv b115, rv b117, iv w0_42, iv (0:Int32), .unset] [(.int w0_5), (.int (0:Int32))])) _
                refine XS.iadd X290.here hx rfl (hb hby at_160) rfl ?_
                show Steps p.tables e below (T290.setTop (mkF m 161 #[iv p0, iv p1, iv p2, iv p3, iv p4, iv w0_1, iv w0_2, iv w0_3, iv w0_4, iv w0_5, rv b115, rv b117, iv w0_42, iv (0:Int32), .unset] [(.int ((0:Int32) + w0_5))])) _
                refine XS.sipush X290.here hx rfl (hb hby at_161) ?_
                show Steps p.tables e below (T290.setTop (mkF m 164 #[iv p0, iv p1, iv p2, iv p3, iv p4, iv w0_1, iv w0_2, iv w0_3, iv w0_4, iv w0_5, rv b115, rv b117, iv w0_42, iv (0:Int32), .unset] [(.int (16385:Int32)), (.int ((0:Int32) + w0_5))])) _
                by_cases hm164_80 : ((0:Int32) + w0_5) < (16385:Int32)
                · refine XS.icmpYes X290.here hx rfl (pc0 := 164) (pc' := 171) rfl (hb hby at_164) rfl (XT.ii_lt_t hm164_80) (by decide) (by decide) ?_
                  show Steps p.tables e below (T290.setTop (mkF m 171 #[iv p0, iv p1, iv p2, iv p3, iv p4, iv w0_1, iv w0_2, iv w0_3, iv w0_4, iv w0_5, rv b115, rv b117, iv w0_42, iv (0:Int32), .unset] [])) _
                  refine XS.iconst X290.here hx rfl (hb hby at_171) ?_
                  show Steps p.tables e below (T290.setTop (mkF m 172 #[iv p0, iv p1, iv p2, iv p3, iv p4, iv w0_1, iv w0_2, iv w0_3, iv w0_4, iv w0_5, rv b115, rv b117, iv w0_42, iv (0:Int32), .unset] [(.int (0:Int32))])) _
                  refine XS.istore X290.here hx rfl (hb hby at_172) rfl (l' := #[iv p0, iv p1, iv p2, iv p3, iv p4, iv w0_1, iv w0_2, iv w0_3, iv w0_4, iv w0_5, rv b115, rv b117, iv w0_42, iv (0:Int32), iv (0:Int32)]) rfl ?_
                  rw [hw0_43.trans (((if_neg hm130_78).trans (if_pos hm147_79)).trans (if_pos hm164_80))] at k
                  exact k
                · refine XS.icmpNo X290.here hx rfl (hb hby at_164) rfl (XT.ii_lt_f hm164_80) ?_
                  show Steps p.tables e below (T290.setTop (mkF m 167 #[iv p0, iv p1, iv p2, iv p3, iv p4, iv w0_1, iv w0_2, iv w0_3, iv w0_4, iv w0_5, rv b115, rv b117, iv w0_42, iv (0:Int32), .unset] [])) _
                  refine XS.iconst X290.here hx rfl (hb hby at_167) ?_
                  show Steps p.tables e below (T290.setTop (mkF m 168 #[iv p0, iv p1, iv p2, iv p3, iv p4, iv w0_1, iv w0_2, iv w0_3, iv w0_4, iv w0_5, rv b115, rv b117, iv w0_42, iv (0:Int32), .unset] [(.int (1:Int32))])) _
                  refine XS.goto X290.here hx rfl (pc0 := 168) (pc' := 172) rfl (hb hby at_168) (by decide) (by decide) ?_
                  show Steps p.tables e below (T290.setTop (mkF m 172 #[iv p0, iv p1, iv p2, iv p3, iv p4, iv w0_1, iv w0_2, iv w0_3, iv w0_4, iv w0_5, rv b115, rv b117, iv w0_42, iv (0:Int32), .unset] [(.int (1:Int32))])) _
                  refine XS.istore X290.here hx rfl (hb hby at_172) rfl (l' := #[iv p0, iv p1, iv p2, iv p3, iv p4, iv w0_1, iv w0_2, iv w0_3, iv w0_4, iv w0_5, rv b115, rv b117, iv w0_42, iv (0:Int32), iv (1:Int32)]) rfl ?_
                  rw [hw0_43.trans (((if_neg hm130_78).trans (if_pos hm147_79)).trans (if_neg hm164_80))] at k
                  exact k
              · refine XS.icmpNo X290.here hx rfl (hb hby at_147) rfl (XT.ii_lt_f hm147_79) ?_
                show Steps p.tables e below (T290.setTop (mkF m 150 #[iv p0, iv p1, iv p2, iv p3, iv p4, iv w0_1, iv w0_2, iv w0_3, iv w0_4, iv w0_5, rv b115, rv b117, iv w0_42, iv (0:Int32), .unset] [])) _
                refine XS.iconst X290.here hx rfl (hb hby at_150) ?_
                show Steps p.tables e below (T290.setTop (mkF m 151 #[iv p0, iv p1, iv p2, iv p3, iv p4, iv w0_1, iv w0_2, iv w0_3, iv w0_4, iv w0_5, rv b115, rv b117, iv w0_42, iv (0:Int32), .unset] [(.int (1:Int32))])) _
                refine XS.istore X290.here hx rfl (hb hby at_151) rfl (l' := #[iv p0, iv p1, iv p2, iv p3, iv p4, iv w0_1, iv w0_2, iv w0_3, iv w0_4, iv w0_5, rv b115, rv b117, iv w0_42, iv (0:Int32), iv (1:Int32)]) rfl ?_
                show Steps p.tables e below (T290.setTop (mkF m 153 #[iv p0, iv p1, iv p2, iv p3, iv p4, iv w0_1, iv w0_2, iv w0_3, iv w0_4, iv w0_5, rv b115, rv b117, iv w0_42, iv (0:Int32), iv (1:Int32)] [])) _
                refine XS.goto X290.here hx rfl (pc0 := 153) (pc' := 174) rfl (hb hby at_153) (by decide) (by decide) ?_
                rw [hw0_43.trans ((if_neg hm130_78).trans (if_neg hm147_79))] at k
                exact k
          refine own_pre (A := T290.setTop (mkF m 180 #[iv p0, iv p1, iv p2, iv p3, iv p4, iv w0_1, iv w0_2, iv w0_3, iv w0_4, iv w0_5, rv b115, rv b117, iv w0_42, iv (0:Int32), iv w0_43] [(.int w0_5), (.int w0_4), (.ref b117)])) (fun t k => ?_) ?_
          · show Steps p.tables e below (T290.setTop (mkF m 174 #[iv p0, iv p1, iv p2, iv p3, iv p4, iv w0_1, iv w0_2, iv w0_3, iv w0_4, iv w0_5, rv b115, rv b117, iv w0_42, iv (0:Int32), iv w0_43] [])) _
            refine XS.aload X290.here hx rfl (hb hby at_174) rfl rfl ?_
            show Steps p.tables e below (T290.setTop (mkF m 176 #[iv p0, iv p1, iv p2, iv p3, iv p4, iv w0_1, iv w0_2, iv w0_3, iv w0_4, iv w0_5, rv b115, rv b117, iv w0_42, iv (0:Int32), iv w0_43] [(.ref b117)])) _
            refine XS.iload X290.here hx rfl (hb hby at_176) rfl ?_
            show Steps p.tables e below (T290.setTop (mkF m 178 #[iv p0, iv p1, iv p2, iv p3, iv p4, iv w0_1, iv w0_2, iv w0_3, iv w0_4, iv w0_5, rv b115, rv b117, iv w0_42, iv (0:Int32), iv w0_43] [(.int w0_4), (.ref b117)])) _
            refine XS.iload X290.here hx rfl (hb hby at_178) rfl ?_
            exact k
          have F301 := (F291.keep K290)
          obtain ⟨cq300, kq300, q300a, q300b, q300c⟩ := isOf hZ rfl F301
          obtain ⟨_, _, ⟨T300, L300, k300, n300⟩, -, X300, ⟨Lc300, hQ300, l300, y300, z300⟩, st300⟩ := X290.virtualBack hx (y := (⟨"com/example/fanout4/fanout4/xdm/RecordedEvents", "isFullFor", "(II)Z"⟩ : MethodName)) (z := (⟨"com/example/fanout4/fanout4/xdm/RecordedEvents", "isFullFor", "(II)Z"⟩ : MethodName)) hown (mvT hZ (own_h hw 44 rfl)) (mvT hZ (own_h hw 45 rfl)) (notFace_of_selects (args := #[]) (mvT hZ (own_h hw 47 rfl))) (mvT hZ (own_h hw 47 rfl)) (mvT hZ (own_h hw 46 rfl)) (by decide) (backOf (W := 0) (rm6 l Z aZ hw [] b117 w0_4 w0_5 (2:Int32) (0:Int32) T290.heap n0 Z298 G299 G296) hZ (own_h hw 48 rfl) (own_h hw 4 rfl) (by decide) (by decide)) q300a q300c (g := (mkF m 180 #[iv p0, iv p1, iv p2, iv p3, iv p4, iv w0_1, iv w0_2, iv w0_3, iv w0_4, iv w0_5, rv b115, rv b117, iv w0_42, iv (0:Int32), iv w0_43] [(.int w0_5), (.int w0_4), (.ref b117)])) rfl (by rw [hml]; rfl) (Steps.refl _) (argsL := [(.int w0_4), (.int w0_5)]) (rest := []) (lenOf own_pd3 rfl) rfl (by show 2 * 0 + _ ≤ _; exact Nat.le_of_eq rfl) (hb hby at_180) (fun _ _ => ⟨rfl, rfl, (by decide : 6 + 0 ≤ _), (by decide : 1494 + 0 ≤ _)⟩)
          dsimp only [Pt.U, Pt.locs, Pt.cells, Pt.slots] at X300 l300 y300 z300 st300 hQ300
          subst l300 y300 z300
          obtain ⟨rfl, N300q, eh300⟩ := hQ300
          have N300 := Fr.app N290 N300q
          refine own_pre (fun _ k => st300.trans k) ?_
          refine own_pre (A := T300.setTop (mkF m 185 #[iv p0, iv p1, iv p2, iv p3, iv p4, iv w0_1, iv w0_2, iv w0_3, iv w0_4, iv w0_5, rv b115, rv b117, iv w0_42, iv (0:Int32), iv w0_43] [(.int w0_43), (.int (f6 w0_4 w0_5 (2:Int32) (0:Int32)))])) (fun t k => ?_) ?_
          · show Steps p.tables e below (T300.setTop (mkF m 183 #[iv p0, iv p1, iv p2, iv p3, iv p4, iv w0_1, iv w0_2, iv w0_3, iv w0_4, iv w0_5, rv b115, rv b117, iv w0_42, iv (0:Int32), iv w0_43] [(.int (f6 w0_4 w0_5 (2:Int32) (0:Int32)))])) _
            refine XS.iload X300.here hx rfl (hb hby at_183) rfl ?_
            exact k
          obtain ⟨w0_44, hw0_44⟩ : ∃ z : Int32, z = (if (f6 w0_4 w0_5 (2:Int32) (0:Int32)) = w0_43 then (1:Int32) else (0:Int32)) := ⟨_, rfl⟩
          refine own_pre (A := T300.setTop (mkF m 193 #[iv p0, iv p1, iv p2, iv p3, iv p4, iv w0_1, iv w0_2, iv w0_3, iv w0_4, iv w0_5, rv b115, rv b117, iv w0_42, iv (0:Int32), iv w0_43] [(.int w0_44)])) (fun t k => ?_) ?_
          · show Steps p.tables e below (T300.setTop (mkF m 185 #[iv p0, iv p1, iv p2, iv p3, iv p4, iv w0_1, iv w0_2, iv w0_3, iv w0_4, iv w0_5, rv b115, rv b117, iv w0_42, iv (0:Int32), iv w0_43] [(.int w0_43), (.int (f6 w0_4 w0_5 (2:Int32) (0:Int32)))])) _
            by_cases hm185_81 : (f6 w0_4 w0_5 (2:Int32) (0:Int32)) = w0_43
            · refine XS.icmpNo X300.here hx rfl (hb hby at_185) rfl (XT.ii_ne_f hm185_81) ?_
              show Steps p.tables e below (T300.setTop (mkF m 188 #[iv p0, iv p1, iv p2, iv p3, iv p4, iv w0_1, iv w0_2, iv w0_3, iv w0_4, iv w0_5, rv b115, rv b117, iv w0_42, iv (0:Int32), iv w0_43] [])) _
              refine XS.iconst X300.here hx rfl (hb hby at_188) ?_
              show Steps p.tables e below (T300.setTop (mkF m 189 #[iv p0, iv p1, iv p2, iv p3, iv p4, iv w0_1, iv w0_2, iv w0_3, iv w0_4, iv w0_5, rv b115, rv b117, iv w0_42, iv (0:Int32), iv w0_43] [(.int (1:Int32))])) _
              refine XS.goto X300.here hx rfl (pc0 := 189) (pc' := 193) rfl (hb hby at_189) (by decide) (by decide) ?_
              rw [hw0_44.trans (if_pos hm185_81)] at k
              exact k
            · refine XS.icmpYes X300.here hx rfl (pc0 := 185) (pc' := 192) rfl (hb hby at_185) rfl (XT.ii_ne_t hm185_81) (by decide) (by decide) ?_
              show Steps p.tables e below (T300.setTop (mkF m 192 #[iv p0, iv p1, iv p2, iv p3, iv p4, iv w0_1, iv w0_2, iv w0_3, iv w0_4, iv w0_5, rv b115, rv b117, iv w0_42, iv (0:Int32), iv w0_43] [])) _
              refine XS.iconst X300.here hx rfl (hb hby at_192) ?_
              rw [hw0_44.trans (if_neg hm185_81)] at k
              exact k
          have hv302 : (w0_44 &&& 1) = f0 p0 p1 p2 p3 p4 := by subst hw0_1 hw0_2 hw0_3 hw0_4 hw0_5 hw0_42 hw0_43 hw0_44; simp only [f0, if_neg hs55_3, if_neg hs66_51, if_pos hs77_75, if_pos hs87_77]
          exact own_end X300 (BodyLoose.notSynchronized Bd) (fun h => by rw [Bd.returns] at h; cases h) (v := some (.int (w0_44 &&& 1))) (fun fs hr => retN X300 hx (t := .boolean) Bd.returns (by simp) (hb hby at_193) hr) (by show Q0 Z p0 p1 p2 p3 p4 h0 n0 _ T300.heap _; rw [eh300]; exact ⟨(congrArg (fun z => some (Value.int z)) hv302), N300⟩) (by decide) (by decide)
        · refine own_pre (A := T290.setTop (mkF m 97 #[iv p0, iv p1, iv p2, iv p3, iv p4, iv w0_1, iv w0_2, iv w0_3, iv w0_4, iv w0_5, rv b115, rv b117, .unset, .unset, .unset] [(.int w0_3), (.int (0:Int32)), (.ref b115), (.ref b117)])) (fun t k => ?_) ?_
          · show Steps p.tables e below (T290.setTop (mkF m 87 #[iv p0, iv p1, iv p2, iv p3, iv p4, iv w0_1, iv w0_2, iv w0_3, iv w0_4, iv w0_5, rv b115, rv b117, .unset, .unset, .unset] [(.int w0_2)])) _
            refine XS.ifNo X290.here hx rfl (hb hby at_87) rfl (XT.i0_eq_f hs87_77) ?_
            show Steps p.tables e below (T290.setTop (mkF m 90 #[iv p0, iv p1, iv p2, iv p3, iv p4, iv w0_1, iv w0_2, iv w0_3, iv w0_4, iv w0_5, rv b115, rv b117, .unset, .unset, .unset] [])) _
            refine XS.aload X290.here hx rfl (hb hby at_90) rfl rfl ?_
            show Steps p.tables e below (T290.setTop (mkF m 92 #[iv p0, iv p1, iv p2, iv p3, iv p4, iv w0_1, iv w0_2, iv w0_3, iv w0_4, iv w0_5, rv b115, rv b117, .unset, .unset, .unset] [(.ref b117)])) _
            refine XS.aload X290.here hx rfl (hb hby at_92) rfl rfl ?_
            show Steps p.tables e below (T290.setTop (mkF m 94 #[iv p0, iv p1, iv p2, iv p3, iv p4, iv w0_1, iv w0_2, iv w0_3, iv w0_4, iv w0_5, rv b115, rv b117, .unset, .unset, .unset] [(.ref b115), (.ref b117)])) _
            refine XS.iconst X290.here hx rfl (hb hby at_94) ?_
            show Steps p.tables e below (T290.setTop (mkF m 95 #[iv p0, iv p1, iv p2, iv p3, iv p4, iv w0_1, iv w0_2, iv w0_3, iv w0_4, iv w0_5, rv b115, rv b117, .unset, .unset, .unset] [(.int (0:Int32)), (.ref b115), (.ref b117)])) _
            refine XS.iload X290.here hx rfl (hb hby at_95) rfl ?_
            exact k
          have F304 := (F291.keep K290)
          have F305 := ((G136.keep K239 (ninS (Ne.symm ne143) (ninS (Ne.symm ne127) nin0))).keep K290 (ninS (Ne.symm ne143) (ninS (Ne.symm ne127) nin0)))
          have F306 := ((G137.keep K239 (ninS (Ne.symm ne146) (ninS (Ne.symm ne128) nin0))).keep K290 (ninS (Ne.symm ne146) (ninS (Ne.symm ne128) nin0)))
          have F307 := (((F120.keep K119 (ninS ne_b115_b117 nin0)).keep K239 (ninS ne_b115_b117 (ninS ne139 nin0))).keep K290 (ninS ne_b115_b117 (ninS ne139 nin0)))
          obtain ⟨cq303, kq303, q303a, q303b, q303c⟩ := isOf hZ rfl F304
          obtain ⟨_, _, ⟨T303, L303, k303, n303⟩, -, X303, ⟨Lc303, hQ303, l303, y303, z303⟩, st303⟩ := X290.virtualBack hx (y := (⟨"com/example/fanout4/fanout4/xdm/RecordedEvents", "text", "([CII)V"⟩ : MethodName)) (z := (⟨"com/example/fanout4/fanout4/xdm/RecordedEvents", "text", "([CII)V"⟩ : MethodName)) hown (mvT hZ (own_h hw 23 rfl)) (mvT hZ (own_h hw 24 rfl)) (notFace_of_selects (args := #[]) (mvT hZ (own_h hw 26 rfl))) (mvT hZ (own_h hw 26 rfl)) (mvT hZ (own_h hw 25 rfl)) (by decide) (backOf (W := 0) (rm3 l Z aZ hw [] b117 b115 w0_3 kd_121 nb_122 ch_123 (own_v171.set (1:Int32).toNatClampNeg ((3:Int32).toInt8.toInt32)) (2:Int32) (List.replicate 128 (0:Int32)) (List.replicate 1024 (0:Int32)) [(0:Int32), (0:Int32), (0:Int32), (0:Int32), (0:Int32), (0:Int32), (0:Int32), (0:Int32), (0:Int32), (0:Int32), (0:Int32), (0:Int32), (0:Int32), (0:Int32), (0:Int32), (0:Int32)] T290.heap n0 Z298 F304 G292 G293 G294 G299 G296 G297 F305 F306 F307 ne140 ne143 ne146 ne127 ne128 ne129 ne_b115_b117 ne139 ne142 ne145 ge_b117 ge141 ge144 ge147 (by first | (simp; done) | decide +kernel) (by decide) (by first | (simp; done) | decide +kernel) (by first | (simp; done) | decide +kernel) rfl (own_l15 hw0_3)) hZ (own_h hw 27 rfl) (own_h hw 4 rfl) (by decide) (by decide)) q303a q303c (g := (mkF m 97 #[iv p0, iv p1, iv p2, iv p3, iv p4, iv w0_1, iv w0_2, iv w0_3, iv w0_4, iv w0_5, rv b115, rv b117, .unset, .unset, .unset] [(.int w0_3), (.int (0:Int32)), (.ref b115), (.ref b117)])) rfl (by rw [hml]; rfl) (Steps.refl _) (argsL := [(.ref b115), (.int (0:Int32)), (.int w0_3)]) (rest := []) (lenOf own_pd4 rfl) rfl (by show 2 * 0 + _ ≤ _; exact Nat.le_of_eq rfl) (hb hby at_97) (fun _ _ => ⟨rfl, rfl, (by decide : 6 + 0 ≤ _), (by decide : 1494 + 0 ≤ _)⟩)
          dsimp only [Pt.U, Pt.locs, Pt.cells, Pt.slots] at X303 l303 y303 z303 st303 hQ303
          subst l303 y303 z303
          obtain ⟨rfl, N303q, K303, G308, G309⟩ := hQ303
          have N303 := Fr.app N290 N303q
          have Z310 : n0 ≤ T303.heap.size := Nat.le_trans Z298 K303.1
          have G311 : Fld Z T303.heap b117 "com/example/fanout4/fanout4/xdm/RecordedEvents" "size" "I" (.int (3:Int32)) := G308
          refine own_pre (fun _ k => st303.trans k) ?_
          obtain ⟨w0_45, hw0_45⟩ : ∃ z : Int32, z = (w0_1 + (1:Int32)) := ⟨_, rfl⟩
          refine own_pre (A := T303.setTop (mkF m 130 #[iv p0, iv p1, iv p2, iv p3, iv p4, iv w0_1, iv w0_2, iv w0_3, iv w0_4, iv w0_5, rv b115, rv b117, iv w0_45, iv w0_3, .unset] [(.int w0_45)])) (fun t k => ?_) ?_
          · show Steps p.tables e below (T303.setTop (mkF m 100 #[iv p0, iv p1, iv p2, iv p3, iv p4, iv w0_1, iv w0_2, iv w0_3, iv w0_4, iv w0_5, rv b115, rv b117, .unset, .unset, .unset] [])) _
            refine XS.iload X303.here hx rfl (hb hby at_100) rfl ?_
            show Steps p.tables e below (T303.setTop (mkF m 102 #[iv p0, iv p1, iv p2, iv p3, iv p4, iv w0_1, iv w0_2, iv w0_3, iv w0_4, iv w0_5, rv b115, rv b117, .unset, .unset, .unset] [(.int w0_1)])) _
            refine XS.iload X303.here hx rfl (hb hby at_102) rfl ?_
            show Steps p.tables e below (T303.setTop (mkF m 104 #[iv p0, iv p1, iv p2, iv p3, iv p4, iv w0_1, iv w0_2, iv w0_3, iv w0_4, iv w0_5, rv b115, rv b117, .unset, .unset, .unset] [(.int w0_2), (.int w0_1)])) _
            refine XS.ifNo X303.here hx rfl (hb hby at_104) rfl (XT.i0_eq_f hs87_77) ?_
            show Steps p.tables e below (T303.setTop (mkF m 107 #[iv p0, iv p1, iv p2, iv p3, iv p4, iv w0_1, iv w0_2, iv w0_3, iv w0_4, iv w0_5, rv b115, rv b117, .unset, .unset, .unset] [(.int w0_1)])) _
            refine XS.iconst X303.here hx rfl (hb hby at_107) ?_
            show Steps p.tables e below (T303.setTop (mkF m 108 #[iv p0, iv p1, iv p2, iv p3, iv p4, iv w0_1, iv w0_2, iv w0_3, iv w0_4, iv w0_5, rv b115, rv b117, .unset, .unset, .unset] [(.int (1:Int32)), (.int w0_1)])) _
            refine XS.goto X303.here hx rfl (pc0 := 108) (pc' := 112) rfl (hb hby at_108) (by decide) (by decide) ?_
            show Steps p.tables e below (T303.setTop (mkF m 112 #[iv p0, iv p1, iv p2, iv p3, iv p4, iv w0_1, iv w0_2, iv w0_3, iv w0_4, iv w0_5, rv b115, rv b117, .unset, .unset, .unset] [(.int (1:Int32)), (.int w0_1)])) _
            refine XS.iadd X303.here hx rfl (hb hby at_112) rfl ?_
            show Steps p.tables e below (T303.setTop (mkF m 113 #[iv p0, iv p1, iv p2, iv p3, iv p4, iv w0_1, iv w0_2, iv w0_3, iv w0_4, iv w0_5, rv b115, rv b117, .unset, .unset, .unset] [(.int (w0_1 + (1:Int32)))])) _
            refine XS.istore X303.here hx rfl (hb hby at_113) rfl (l' := #[iv p0, iv p1, iv p2, iv p3, iv p4, iv w0_1, iv w0_2, iv w0_3, iv w0_4, iv w0_5, rv b115, rv b117, iv w0_45, .unset, .unset]) (by rw [hw0_45]; rfl) ?_
            show Steps p.tables e below (T303.setTop (mkF m 115 #[iv p0, iv p1, iv p2, iv p3, iv p4, iv w0_1, iv w0_2, iv w0_3, iv w0_4, iv w0_5, rv b115, rv b117, iv w0_45, .unset, .unset] [])) _
            refine XS.iload X303.here hx rfl (hb hby at_115) rfl ?_
            show Steps p.tables e below (T303.setTop (mkF m 117 #[iv p0, iv p1, iv p2, iv p3, iv p4, iv w0_1, iv w0_2, iv w0_3, iv w0_4, iv w0_5, rv b115, rv b117, iv w0_45, .unset, .unset] [(.int w0_2)])) _
            refine XS.ifNo X303.here hx rfl (hb hby at_117) rfl (XT.i0_eq_f hs87_77) ?_
            show Steps p.tables e below (T303.setTop (mkF m 120 #[iv p0, iv p1, iv p2, iv p3, iv p4, iv w0_1, iv w0_2, iv w0_3, iv w0_4, iv w0_5, rv b115, rv b117, iv w0_45, .unset, .unset] [])) _
            refine XS.iload X303.here hx rfl (hb hby at_120) rfl ?_
            show Steps p.tables e below (T303.setTop (mkF m 122 #[iv p0, iv p1, iv p2, iv p3, iv p4, iv w0_1, iv w0_2, iv w0_3, iv w0_4, iv w0_5, rv b115, rv b117, iv w0_45, .unset, .unset] [(.int w0_3)])) _
            refine XS.goto X303.here hx rfl (pc0 := 122) (pc' := 126) rfl (hb hby at_122) (by decide) (by decide) ?_
            show Steps p.tables e below (T303.setTop (mkF m 126 #[iv p0, iv p1, iv p2, iv p3, iv p4, iv w0_1, iv w0_2, iv w0_3, iv w0_4, iv w0_5, rv b115, rv b117, iv w0_45, .unset, .unset] [(.int w0_3)])) _
            refine XS.istore X303.here hx rfl (hb hby at_126) rfl (l' := #[iv p0, iv p1, iv p2, iv p3, iv p4, iv w0_1, iv w0_2, iv w0_3, iv w0_4, iv w0_5, rv b115, rv b117, iv w0_45, iv w0_3, .unset]) rfl ?_
            show Steps p.tables e below (T303.setTop (mkF m 128 #[iv p0, iv p1, iv p2, iv p3, iv p4, iv w0_1, iv w0_2, iv w0_3, iv w0_4, iv w0_5, rv b115, rv b117, iv w0_45, iv w0_3, .unset] [])) _
            refine XS.iload X303.here hx rfl (hb hby at_128) rfl ?_
            exact k
          obtain ⟨w0_46, hw0_46⟩ : ∃ z : Int32, z = (if w0_45 = (0:Int32) then (0:Int32) else (if (w0_45 + w0_4) < (1025:Int32) then (if (w0_3 + w0_5) < (16385:Int32) then (0:Int32) else (1:Int32)) else (1:Int32))) := ⟨_, rfl⟩
          refine own_pre (A := T303.setTop (mkF m 174 #[iv p0, iv p1, iv p2, iv p3, iv p4, iv w0_1, iv w0_2, iv w0_3, iv w0_4, iv w0_5, rv b115, rv b117, iv w0_45, iv w0_3, iv w0_46] [])) (fun t k => ?_) ?_
          · show Steps p.tables e below (T303.setTop (mkF m 130 #[iv p0, iv p1, iv p2, iv p3, iv p4, iv w0_1, iv w0_2, iv w0_3, iv w0_4, iv w0_5, rv b115, rv b117, iv w0_45, iv w0_3, .unset] [(.int w0_45)])) _
            by_cases hm130_82 : w0_45 = (0:Int32)
            · refine XS.ifNo X303.here hx rfl (hb hby at_130) rfl (XT.i0_ne_f hm130_82) ?_
              show Steps p.tables e below (T303.setTop (mkF m 133 #[iv p0, iv p1, iv p2, iv p3, iv p4, iv w0_1, iv w0_2, iv w0_3, iv w0_4, iv w0_5, rv b115, rv b117, iv w0_45, iv w0_3, .unset] [])) _
              refine XS.iconst X303.here hx rfl (hb hby at_133) ?_
              show Steps p.tables e below (T303.setTop (mkF m 134 #[iv p0, iv p1, iv p2, iv p3, iv p4, iv w0_1, iv w0_2, iv w0_3, iv w0_4, iv w0_5, rv b115, rv b117, iv w0_45, iv w0_3, .unset] [(.int (0:Int32))])) _
              refine XS.istore X303.here hx rfl (hb hby at_134) rfl (l' := #[iv p0, iv p1, iv p2, iv p3, iv p4, iv w0_1, iv w0_2, iv w0_3, iv w0_4, iv w0_5, rv b115, rv b117, iv w0_45, iv w0_3, iv (0:Int32)]) rfl ?_
              show Steps p.tables e below (T303.setTop (mkF m 136 #[iv p0, iv p1, iv p2, iv p3, iv p4, iv w0_1, iv w0_2, iv w0_3, iv w0_4, iv w0_5, rv b115, rv b117, iv w0_45, iv w0_3, iv (0:Int32)] [])) _
              refine XS.goto X303.here hx rfl (pc0 := 136) (pc' := 174) rfl (hb hby at_136) (by decide) (by decide) ?_
              rw [hw0_46.trans (if_pos hm130_82)] at k
              exact k
            · refine XS.ifYes X303.here hx rfl (pc0 := 130) (pc' := 139) rfl (hb hby at_130) rfl (XT.i0_ne_t hm130_82) (by decide) (by decide) ?_
              show Steps p.tables e below (T303.setTop (mkF m 139 #[iv p0, iv p1, iv p2, iv p3, iv p4, iv w0_1, iv w0_2, iv w0_3, iv w0_4, iv w0_5, rv b115, rv b117, iv w0_45, iv w0_3, .unset] [])) _
              refine XS.iload X303.here hx rfl (hb hby at_139) rfl ?_
              show Steps p.tables e below (T303.setTop (mkF m 141 #[iv p0, iv p1, iv p2, iv p3, iv p4, iv w0_1, iv w0_2, iv w0_3, iv w0_4, iv w0_5, rv b115, rv b117, iv w0_45, iv w0_3, .unset] [(.int w0_45)])) _
              refine XS.iload X303.here hx rfl (hb hby at_141) rfl ?_
              show Steps p.tables e below (T303.setTop (mkF m 143 #[iv p0, iv p1, iv p2, iv p3, iv p4, iv w0_1, iv w0_2, iv w0_3, iv w0_4, iv w0_5, rv b115, rv b117, iv w0_45, iv w0_3, .unset] [(.int w0_4), (.int w0_45)])) _
              refine XS.iadd X303.here hx rfl (hb hby at_143) rfl ?_
              show Steps p.tables e below (T303.setTop (mkF m 144 #[iv p0, iv p1, iv p2, iv p3, iv p4, iv w0_1, iv w0_2, iv w0_3, iv w0_4, iv w0_5, rv b115, rv b117, iv w0_45, iv w0_3, .unset] [(.int (w0_45 + w0_4))])) _
              refine XS.sipush X303.here hx rfl (hb hby at_144) ?_
              show Steps p.tables e below (T303.setTop (mkF m 147 #[iv p0, iv p1, iv p2, iv p3, iv p4, iv w0_1, iv w0_2, iv w0_3, iv w0_4, iv w0_5, rv b115, rv b117, iv w0_45, iv w0_3, .unset] [(.int (1025:Int32)), (.int (w0_45 + w0_4))])) _
              by_cases hm147_83 : (w0_45 + w0_4) < (1025:Int32)
              · refine XS.icmpYes X303.here hx rfl (pc0 := 147) (pc' := 156) rfl (hb hby at_147) rfl (XT.ii_lt_t hm147_83) (by decide) (by decide) ?_
                show Steps p.tables e below (T303.setTop (mkF m 156 #[iv p0, iv p1, iv p2, iv p3, iv p4, iv w0_1, iv w0_2, iv w0_3, iv w0_4, iv w0_5, rv b115, rv b117, iv w0_45, iv w0_3, .unset] [])) _
                refine XS.iload X303.here hx rfl (hb hby at_156) rfl ?_
                show Steps p.tables e below (T303.setTop (mkF m 158 #[iv p0, iv p1, iv p2, iv p3, iv p4, iv w0_1, iv w0_2, iv w0_3, iv w0_4, iv w0_5, rv b115, rv b117, iv w0_45, iv w0_3, .unset] [(.int w0_3)])) _
                refine XS.iload X303.here hx rfl (hb hby at_158) rfl ?_
                show Steps p.tables e below (T303.setTop (mkF m 160 #[iv p0, iv p1, iv p2, iv p3, iv p4, iv w0_1, iv w0_2, iv w0_3, iv w0_4, iv w0_5, rv b115, rv b117, iv w0_45, iv w0_3, .unset] [(.int w0_5), (.int w0_3)])) _
                refine XS.iadd X303.here hx rfl (hb hby at_160) rfl ?_
                show Steps p.tables e below (T303.setTop (mkF m 161 #[iv p0, iv p1, iv p2, iv p3, iv p4, iv w0_1, iv w0_2, iv w0_3, iv w0_4, iv w0_5, rv b115, rv b117, iv w0_45, iv w0_3, .unset] [(.int (w0_3 + w0_5))])) _
                refine XS.sipush X303.here hx rfl (hb hby at_161) ?_
                show Steps p.tables e below (T303.setTop (mkF m 164 #[iv p0, iv p1, iv p2, iv p3, iv p4, iv w0_1, iv w0_2, iv w0_3, iv w0_4, iv w0_5, rv b115, rv b117, iv w0_45, iv w0_3, .unset] [(.int (16385:Int32)), (.int (w0_3 + w0_5))])) _
                by_cases hm164_84 : (w0_3 + w0_5) < (16385:Int32)
                · refine XS.icmpYes X303.here hx rfl (pc0 := 164) (pc' := 171) rfl (hb hby at_164) rfl (XT.ii_lt_t hm164_84) (by decide) (by decide) ?_
                  show Steps p.tables e below (T303.setTop (mkF m 171 #[iv p0, iv p1, iv p2, iv p3, iv p4, iv w0_1, iv w0_2, iv w0_3, iv w0_4, iv w0_5, rv b115, rv b117, iv w0_45, iv w0_3, .unset] [])) _
                  refine XS.iconst X303.here hx rfl (hb hby at_171) ?_
                  show Steps p.tables e below (T303.setTop (mkF m 172 #[iv p0, iv p1, iv p2, iv p3, iv p4, iv w0_1, iv w0_2, iv w0_3, iv w0_4, iv w0_5, rv b115, rv b117, iv w0_45, iv w0_3, .unset] [(.int (0:Int32))])) _
                  refine XS.istore X303.here hx rfl (hb hby at_172) rfl (l' := #[iv p0, iv p1, iv p2, iv p3, iv p4, iv w0_1, iv w0_2, iv w0_3, iv w0_4, iv w0_5, rv b115, rv b117, iv w0_45, iv w0_3, iv (0:Int32)]) rfl ?_
                  rw [hw0_46.trans (((if_neg hm130_82).trans (if_pos hm147_83)).trans (if_pos hm164_84))] at k
                  exact k
                · refine XS.icmpNo X303.here hx rfl (hb hby at_164) rfl (XT.ii_lt_f hm164_84) ?_
                  show Steps p.tables e below (T303.setTop (mkF m 167 #[iv p0, iv p1, iv p2, iv p3, iv p4, iv w0_1, iv w0_2, iv w0_3, iv w0_4, iv w0_5, rv b115, rv b117, iv w0_45, iv w0_3, .unset] [])) _
                  refine XS.iconst X303.here hx rfl (hb hby at_167) ?_
                  show Steps p.tables e below (T303.setTop (mkF m 168 #[iv p0, iv p1, iv p2, iv p3, iv p4, iv w0_1, iv w0_2, iv w0_3, iv w0_4, iv w0_5, rv b115, rv b117, iv w0_45, iv w0_3, .unset] [(.int (1:Int32))])) _
                  refine XS.goto X303.here hx rfl (pc0 := 168) (pc' := 172) rfl (hb hby at_168) (by decide) (by decide) ?_
                  show Steps p.tables e below (T303.setTop (mkF m 172 #[iv p0, iv p1, iv p2, iv p3, iv p4, iv w0_1, iv w0_2, iv w0_3, iv w0_4, iv w0_5, rv b115, rv b117, iv w0_45, iv w0_3, .unset] [(.int (1:Int32))])) _
                  refine XS.istore X303.here hx rfl (hb hby at_172) rfl (l' := #[iv p0, iv p1, iv p2, iv p3, iv p4, iv w0_1, iv w0_2, iv w0_3, iv w0_4, iv w0_5, rv b115, rv b117, iv w0_45, iv w0_3, iv (1:Int32)]) rfl ?_
                  rw [hw0_46.trans (((if_neg hm130_82).trans (if_pos hm147_83)).trans (if_neg hm164_84))] at k
                  exact k
              · refine XS.icmpNo X303.here hx rfl (hb hby at_147) rfl (XT.ii_lt_f hm147_83) ?_
                show Steps p.tables e below (T303.setTop (mkF m 150 #[iv p0, iv p1, iv p2, iv p3, iv p4, iv w0_1, iv w0_2, iv w0_3, iv w0_4, iv w0_5, rv b115, rv b117, iv w0_45, iv w0_3, .unset] [])) _
                refine XS.iconst X303.here hx rfl (hb hby at_150) ?_
                show Steps p.tables e below (T303.setTop (mkF m 151 #[iv p0, iv p1, iv p2, iv p3, iv p4, iv w0_1, iv w0_2, iv w0_3, iv w0_4, iv w0_5, rv b115, rv b117, iv w0_45, iv w0_3, .unset] [(.int (1:Int32))])) _
                refine XS.istore X303.here hx rfl (hb hby at_151) rfl (l' := #[iv p0, iv p1, iv p2, iv p3, iv p4, iv w0_1, iv w0_2, iv w0_3, iv w0_4, iv w0_5, rv b115, rv b117, iv w0_45, iv w0_3, iv (1:Int32)]) rfl ?_
                show Steps p.tables e below (T303.setTop (mkF m 153 #[iv p0, iv p1, iv p2, iv p3, iv p4, iv w0_1, iv w0_2, iv w0_3, iv w0_4, iv w0_5, rv b115, rv b117, iv w0_45, iv w0_3, iv (1:Int32)] [])) _
                refine XS.goto X303.here hx rfl (pc0 := 153) (pc' := 174) rfl (hb hby at_153) (by decide) (by decide) ?_
                rw [hw0_46.trans ((if_neg hm130_82).trans (if_neg hm147_83))] at k
                exact k
          refine own_pre (A := T303.setTop (mkF m 180 #[iv p0, iv p1, iv p2, iv p3, iv p4, iv w0_1, iv w0_2, iv w0_3, iv w0_4, iv w0_5, rv b115, rv b117, iv w0_45, iv w0_3, iv w0_46] [(.int w0_5), (.int w0_4), (.ref b117)])) (fun t k => ?_) ?_
          · show Steps p.tables e below (T303.setTop (mkF m 174 #[iv p0, iv p1, iv p2, iv p3, iv p4, iv w0_1, iv w0_2, iv w0_3, iv w0_4, iv w0_5, rv b115, rv b117, iv w0_45, iv w0_3, iv w0_46] [])) _
            refine XS.aload X303.here hx rfl (hb hby at_174) rfl rfl ?_
            show Steps p.tables e below (T303.setTop (mkF m 176 #[iv p0, iv p1, iv p2, iv p3, iv p4, iv w0_1, iv w0_2, iv w0_3, iv w0_4, iv w0_5, rv b115, rv b117, iv w0_45, iv w0_3, iv w0_46] [(.ref b117)])) _
            refine XS.iload X303.here hx rfl (hb hby at_176) rfl ?_
            show Steps p.tables e below (T303.setTop (mkF m 178 #[iv p0, iv p1, iv p2, iv p3, iv p4, iv w0_1, iv w0_2, iv w0_3, iv w0_4, iv w0_5, rv b115, rv b117, iv w0_45, iv w0_3, iv w0_46] [(.int w0_4), (.ref b117)])) _
            refine XS.iload X303.here hx rfl (hb hby at_178) rfl ?_
            exact k
          have F313 := (F304.keep K303)
          obtain ⟨cq312, kq312, q312a, q312b, q312c⟩ := isOf hZ rfl F313
          obtain ⟨_, _, ⟨T312, L312, k312, n312⟩, -, X312, ⟨Lc312, hQ312, l312, y312, z312⟩, st312⟩ := X303.virtualBack hx (y := (⟨"com/example/fanout4/fanout4/xdm/RecordedEvents", "isFullFor", "(II)Z"⟩ : MethodName)) (z := (⟨"com/example/fanout4/fanout4/xdm/RecordedEvents", "isFullFor", "(II)Z"⟩ : MethodName)) hown (mvT hZ (own_h hw 44 rfl)) (mvT hZ (own_h hw 45 rfl)) (notFace_of_selects (args := #[]) (mvT hZ (own_h hw 47 rfl))) (mvT hZ (own_h hw 47 rfl)) (mvT hZ (own_h hw 46 rfl)) (by decide) (backOf (W := 0) (rm6 l Z aZ hw [] b117 w0_4 w0_5 (3:Int32) ((0:Int32) + w0_3) T303.heap n0 Z310 G311 G309) hZ (own_h hw 48 rfl) (own_h hw 4 rfl) (by decide) (by decide)) q312a q312c (g := (mkF m 180 #[iv p0, iv p1, iv p2, iv p3, iv p4, iv w0_1, iv w0_2, iv w0_3, iv w0_4, iv w0_5, rv b115, rv b117, iv w0_45, iv w0_3, iv w0_46] [(.int w0_5), (.int w0_4), (.ref b117)])) rfl (by rw [hml]; rfl) (Steps.refl _) (argsL := [(.int w0_4), (.int w0_5)]) (rest := []) (lenOf own_pd3 rfl) rfl (by show 2 * 0 + _ ≤ _; exact Nat.le_of_eq rfl) (hb hby at_180) (fun _ _ => ⟨rfl, rfl, (by decide : 6 + 0 ≤ _), (by decide : 1494 + 0 ≤ _)⟩)
          dsimp only [Pt.U, Pt.locs, Pt.cells, Pt.slots] at X312 l312 y312 z312 st312 hQ312
          subst l312 y312 z312
          obtain ⟨rfl, N312q, eh312⟩ := hQ312
          have N312 := Fr.app N303 N312q
          refine own_pre (fun _ k => st312.trans k) ?_
          refine own_pre (A := T312.setTop (mkF m 185 #[iv p0, iv p1, iv p2, iv p3, iv p4, iv w0_1, iv w0_2, iv w0_3, iv w0_4, iv w0_5, rv b115, rv b117, iv w0_45, iv w0_3, iv w0_46] [(.int w0_46), (.int (f6 w0_4 w0_5 (3:Int32) ((0:Int32) + w0_3)))])) (fun t k => ?_) ?_
          · show Steps p.tables e below (T312.setTop (mkF m 183 #[iv p0, iv p1, iv p2, iv p3, iv p4, iv w0_1, iv w0_2, iv w0_3, iv w0_4, iv w0_5, rv b115, rv b117, iv w0_45, iv w0_3, iv w0_46] [(.int (f6 w0_4 w0_5 (3:Int32) ((0:Int32) + w0_3)))])) _
            refine XS.iload X312.here hx rfl (hb hby at_183) rfl ?_
            exact k
          obtain ⟨w0_47, hw0_47⟩ : ∃ z : Int32, z = (if (f6 w0_4 w0_5 (3:Int32) ((0:Int32) + w0_3)) = w0_46 then (1:Int32) else (0:Int32)) := ⟨_, rfl⟩
          refine own_pre (A := T312.setTop (mkF m 193 #[iv p0, iv p1, iv p2, iv p3, iv p4, iv w0_1, iv w0_2, iv w0_3, iv w0_4, iv w0_5, rv b115, rv b117, iv w0_45, iv w0_3, iv w0_46] [(.int w0_47)])) (fun t k => ?_) ?_
          · show Steps p.tables e below (T312.setTop (mkF m 185 #[iv p0, iv p1, iv p2, iv p3, iv p4, iv w0_1, iv w0_2, iv w0_3, iv w0_4, iv w0_5, rv b115, rv b117, iv w0_45, iv w0_3, iv w0_46] [(.int w0_46), (.int (f6 w0_4 w0_5 (3:Int32) ((0:Int32) + w0_3)))])) _
            by_cases hm185_85 : (f6 w0_4 w0_5 (3:Int32) ((0:Int32) + w0_3)) = w0_46
            · refine XS.icmpNo X312.here hx rfl (hb hby at_185) rfl (XT.ii_ne_f hm185_85) ?_
              show Steps p.tables e below (T312.setTop (mkF m 188 #[iv p0, iv p1, iv p2, iv p3, iv p4, iv w0_1, iv w0_2, iv w0_3, iv w0_4, iv w0_5, rv b115, rv b117, iv w0_45, iv w0_3, iv w0_46] [])) _
              refine XS.iconst X312.here hx rfl (hb hby at_188) ?_
              show Steps p.tables e below (T312.setTop (mkF m 189 #[iv p0, iv p1, iv p2, iv p3, iv p4, iv w0_1, iv w0_2, iv w0_3, iv w0_4, iv w0_5, rv b115, rv b117, iv w0_45, iv w0_3, iv w0_46] [(.int (1:Int32))])) _
              refine XS.goto X312.here hx rfl (pc0 := 189) (pc' := 193) rfl (hb hby at_189) (by decide) (by decide) ?_
              rw [hw0_47.trans (if_pos hm185_85)] at k
              exact k
            · refine XS.icmpYes X312.here hx rfl (pc0 := 185) (pc' := 192) rfl (hb hby at_185) rfl (XT.ii_ne_t hm185_85) (by decide) (by decide) ?_
              show Steps p.tables e below (T312.setTop (mkF m 192 #[iv p0, iv p1, iv p2, iv p3, iv p4, iv w0_1, iv w0_2, iv w0_3, iv w0_4, iv w0_5, rv b115, rv b117, iv w0_45, iv w0_3, iv w0_46] [])) _
              refine XS.iconst X312.here hx rfl (hb hby at_192) ?_
              rw [hw0_47.trans (if_neg hm185_85)] at k
              exact k
          have hv314 : (w0_47 &&& 1) = f0 p0 p1 p2 p3 p4 := by subst hw0_1 hw0_2 hw0_3 hw0_4 hw0_5 hw0_45 hw0_46 hw0_47; simp only [f0, if_neg hs55_3, if_neg hs66_51, if_pos hs77_75, if_neg hs87_77]
          exact own_end X312 (BodyLoose.notSynchronized Bd) (fun h => by rw [Bd.returns] at h; cases h) (v := some (.int (w0_47 &&& 1))) (fun fs hr => retN X312 hx (t := .boolean) Bd.returns (by simp) (hb hby at_193) hr) (by show Q0 Z p0 p1 p2 p3 p4 h0 n0 _ T312.heap _; rw [eh312]; exact ⟨(congrArg (fun z => some (Value.int z)) hv314), N312⟩) (by decide) (by decide)
      · refine own_pre (A := T290.setTop (mkF m 82 #[iv p0, iv p1, iv p2, iv p3, iv p4, iv w0_1, iv w0_2, iv w0_3, iv w0_4, iv w0_5, rv b115, rv b117, .unset, .unset, .unset] [(.ref b117)])) (fun t k => ?_) ?_
        · show Steps p.tables e below (T290.setTop (mkF m 77 #[iv p0, iv p1, iv p2, iv p3, iv p4, iv w0_1, iv w0_2, iv w0_3, iv w0_4, iv w0_5, rv b115, rv b117, .unset, .unset, .unset] [(.int (3:Int32)), (.int w0_1)])) _
          refine XS.icmpNo X290.here hx rfl (hb hby at_77) rfl (XT.ii_lt_f hs77_75) ?_
          show Steps p.tables e below (T290.setTop (mkF m 80 #[iv p0, iv p1, iv p2, iv p3, iv p4, iv w0_1, iv w0_2, iv w0_3, iv w0_4, iv w0_5, rv b115, rv b117, .unset, .unset, .unset] [])) _
          refine XS.aload X290.here hx rfl (hb hby at_80) rfl rfl ?_
          exact k
        have F316 := (F291.keep K290)
        obtain ⟨cq315, kq315, q315a, q315b, q315c⟩ := isOf hZ rfl F316
        obtain ⟨_, _, ⟨T315, L315, k315, n315⟩, -, X315, ⟨Lc315, hQ315, l315, y315, z315⟩, st315⟩ := X290.virtualBack hx (y := (⟨"com/example/fanout4/fanout4/xdm/RecordedEvents", "endTag", "()V"⟩ : MethodName)) (z := (⟨"com/example/fanout4/fanout4/xdm/RecordedEvents", "endTag", "()V"⟩ : MethodName)) hown (mvT hZ (own_h hw 49 rfl)) (mvT hZ (own_h hw 50 rfl)) (notFace_of_selects (args := #[]) (mvT hZ (own_h hw 52 rfl))) (mvT hZ (own_h hw 52 rfl)) (mvT hZ (own_h hw 51 rfl)) (by decide) (backOf (W := 0) (rm7 l Z aZ hw [] b117 kd_121 nb_122 ch_123 (own_v171.set (1:Int32).toNatClampNeg ((3:Int32).toInt8.toInt32)) (2:Int32) (0:Int32) T290.heap n0 Z298 F316 G292 G293 G294 G299 G296 G297 ne140 ge_b117 ge141 (by first | (simp; done) | decide +kernel) (by decide)) hZ (own_h hw 53 rfl) (own_h hw 4 rfl) (by decide) (by decide)) q315a q315c (g := (mkF m 82 #[iv p0, iv p1, iv p2, iv p3, iv p4, iv w0_1, iv w0_2, iv w0_3, iv w0_4, iv w0_5, rv b115, rv b117, .unset, .unset, .unset] [(.ref b117)])) rfl (by rw [hml]; rfl) (Steps.refl _) (argsL := []) (rest := []) (lenOf own_pd2 rfl) rfl (by show 2 * 0 + _ ≤ _; exact Nat.le_of_eq rfl) (hb hby at_82) (fun _ _ => ⟨rfl, rfl, (by decide : 6 + 0 ≤ _), (by decide : 1494 + 0 ≤ _)⟩)
        dsimp only [Pt.U, Pt.locs, Pt.cells, Pt.slots] at X315 l315 y315 z315 st315 hQ315
        subst l315 y315 z315
        obtain ⟨rfl, N315q, K315, G317, G318, G319, G320, G321, G322⟩ := hQ315
        have N315 := Fr.app N290 N315q
        have Z323 : n0 ≤ T315.heap.size := Nat.le_trans Z298 K315.1
        have G324 : Fld Z T315.heap b117 "com/example/fanout4/fanout4/xdm/RecordedEvents" "size" "I" (.int (3:Int32)) := G320
        have G326 : own_Bytes Z T315.heap kd_121 own_v325 := G322
        refine own_pre (fun _ k => st315.trans k) ?_
        refine own_pre (A := T315.setTop (mkF m 87 #[iv p0, iv p1, iv p2, iv p3, iv p4, iv w0_1, iv w0_2, iv w0_3, iv w0_4, iv w0_5, rv b115, rv b117, .unset, .unset, .unset] [(.int w0_2)])) (fun t k => ?_) ?_
        · show Steps p.tables e below (T315.setTop (mkF m 85 #[iv p0, iv p1, iv p2, iv p3, iv p4, iv w0_1, iv w0_2, iv w0_3, iv w0_4, iv w0_5, rv b115, rv b117, .unset, .unset, .unset] [])) _
          refine XS.iload X315.here hx rfl (hb hby at_85) rfl ?_
          exact k
        by_cases hs87_87 : w0_2 = (0:Int32)
        · obtain ⟨w0_48, hw0_48⟩ : ∃ z : Int32, z = (w0_1 + (0:Int32)) := ⟨_, rfl⟩
          refine own_pre (A := T315.setTop (mkF m 130 #[iv p0, iv p1, iv p2, iv p3, iv p4, iv w0_1, iv w0_2, iv w0_3, iv w0_4, iv w0_5, rv b115, rv b117, iv w0_48, iv (0:Int32), .unset] [(.int w0_48)])) (fun t k => ?_) ?_
          · show Steps p.tables e below (T315.setTop (mkF m 87 #[iv p0, iv p1, iv p2, iv p3, iv p4, iv w0_1, iv w0_2, iv w0_3, iv w0_4, iv w0_5, rv b115, rv b117, .unset, .unset, .unset] [(.int w0_2)])) _
            refine XS.ifYes X315.here hx rfl (pc0 := 87) (pc' := 100) rfl (hb hby at_87) rfl (XT.i0_eq_t hs87_87) (by decide) (by decide) ?_
            show Steps p.tables e below (T315.setTop (mkF m 100 #[iv p0, iv p1, iv p2, iv p3, iv p4, iv w0_1, iv w0_2, iv w0_3, iv w0_4, iv w0_5, rv b115, rv b117, .unset, .unset, .unset] [])) _
            refine XS.iload X315.here hx rfl (hb hby at_100) rfl ?_
            show Steps p.tables e below (T315.setTop (mkF m 102 #[iv p0, iv p1, iv p2, iv p3, iv p4, iv w0_1, iv w0_2, iv w0_3, iv w0_4, iv w0_5, rv b115, rv b117, .unset, .unset, .unset] [(.int w0_1)])) _
            refine XS.iload X315.here hx rfl (hb hby at_102) rfl ?_
            show Steps p.tables e below (T315.setTop (mkF m 104 #[iv p0, iv p1, iv p2, iv p3, iv p4, iv w0_1, iv w0_2, iv w0_3, iv w0_4, iv w0_5, rv b115, rv b117, .unset, .unset, .unset] [(.int w0_2), (.int w0_1)])) _
            refine XS.ifYes X315.here hx rfl (pc0 := 104) (pc' := 111) rfl (hb hby at_104) rfl (XT.i0_eq_t hs87_87) (by decide) (by decide) ?_
            show Steps p.tables e below (T315.setTop (mkF m 111 #[iv p0, iv p1, iv p2, iv p3, iv p4, iv w0_1, iv w0_2, iv w0_3, iv w0_4, iv w0_5, rv b115, rv b117, .unset, .unset, .unset] [(.int w0_1)])) _
            refine XS.iconst X315.here hx rfl (hb hby at_111) ?_
            show Steps p.tables e below (T315.setTop (mkF m 112 #[iv p0, iv p1, iv p2, iv p3, iv p4, iv w0_1, iv w0_2, iv w0_3, iv w0_4, iv w0_5, rv b115, rv b117, .unset, .unset, .unset] [(.int (0:Int32)), (.int w0_1)])) _
            refine XS.iadd X315.here hx rfl (hb hby at_112) rfl ?_
            show Steps p.tables e below (T315.setTop (mkF m 113 #[iv p0, iv p1, iv p2, iv p3, iv p4, iv w0_1, iv w0_2, iv w0_3, iv w0_4, iv w0_5, rv b115, rv b117, .unset, .unset, .unset] [(.int (w0_1 + (0:Int32)))])) _
            refine XS.istore X315.here hx rfl (hb hby at_113) rfl (l' := #[iv p0, iv p1, iv p2, iv p3, iv p4, iv w0_1, iv w0_2, iv w0_3, iv w0_4, iv w0_5, rv b115, rv b117, iv w0_48, .unset, .unset]) (by rw [hw0_48]; rfl) ?_
            show Steps p.tables e below (T315.setTop (mkF m 115 #[iv p0, iv p1, iv p2, iv p3, iv p4, iv w0_1, iv w0_2, iv w0_3, iv w0_4, iv w0_5, rv b115, rv b117, iv w0_48, .unset, .unset] [])) _
            refine XS.iload X315.here hx rfl (hb hby at_115) rfl ?_
            show Steps p.tables e below (T315.setTop (mkF m 117 #[iv p0, iv p1, iv p2, iv p3, iv p4, iv w0_1, iv w0_2, iv w0_3, iv w0_4, iv w0_5, rv b115, rv b117, iv w0_48, .unset, .unset] [(.int w0_2)])) _
            refine XS.ifYes X315.here hx rfl (pc0 := 117) (pc' := 125) rfl (hb hby at_117) rfl (XT.i0_eq_t hs87_87) (by decide) (by decide) ?_
            show Steps p.tables e below (T315.setTop (mkF m 125 #[iv p0, iv p1, iv p2, iv p3, iv p4, iv w0_1, iv w0_2, iv w0_3, iv w0_4, iv w0_5, rv b115, rv b117, iv w0_48, .unset, .unset] [])) _
            refine XS.iconst X315.here hx rfl (hb hby at_125) ?_
            show Steps p.tables e below (T315.setTop (mkF m 126 #[iv p0, iv p1, iv p2, iv p3, iv p4, iv w0_1, iv w0_2, iv w0_3, iv w0_4, iv w0_5, rv b115, rv b117, iv w0_48, .unset, .unset] [(.int (0:Int32))])) _
            refine XS.istore X315.here hx rfl (hb hby at_126) rfl (l' := #[iv p0, iv p1, iv p2, iv p3, iv p4, iv w0_1, iv w0_2, iv w0_3, iv w0_4, iv w0_5, rv b115, rv b117, iv w0_48, iv (0:Int32), .unset]) rfl ?_
            show Steps p.tables e below (T315.setTop (mkF m 128 #[iv p0, iv p1, iv p2, iv p3, iv p4, iv w0_1, iv w0_2, iv w0_3, iv w0_4, iv w0_5, rv b115, rv b117, iv w0_48, iv (0:Int32), .unset] [])) _
            refine XS.iload X315.here hx rfl (hb hby at_128) rfl ?_
            exact k
          obtain ⟨w0_49, hw0_49⟩ : ∃ z : Int32, z = (if w0_48 = (0:Int32) then (0:Int32) else (if (w0_48 + w0_4) < (1025:Int32) then (if ((0:Int32) + w0_5) < (16385:Int32) then (0:Int32) else (1:Int32)) else (1:Int32))) := ⟨_, rfl⟩
          refine own_pre (A := T315.setTop (mkF m 174 #[iv p0, iv p1, iv p2, iv p3, iv p4, iv w0_1, iv w0_2, iv w0_3, iv w0_4, iv w0_5, rv b115, rv b117, iv w0_48, iv (0:Int32), iv w0_49] [])) (fun t k => ?_) ?_
          · show Steps p.tables e below (T315.setTop (mkF m 130 #[iv p0, iv p1, iv p2, iv p3, iv p4, iv w0_1, iv w0_2, iv w0_3, iv w0_4, iv w0_5, rv b115, rv b117, iv w0_48, iv (0:Int32), .unset] [(.int w0_48)])) _
            by_cases hm130_88 : w0_48 = (0:Int32)
            · refine XS.ifNo X315.here hx rfl (hb hby at_130) rfl (XT.i0_ne_f hm130_88) ?_
              show Steps p.tables e below (T315.setTop (mkF m 133 #[iv p0, iv p1, iv p2, iv p3, iv p4, iv w0_1, iv w0_2, iv w0_3, iv w0_4, iv w0_5, rv b115, rv b117, iv w0_48, iv (0:Int32), .unset] [])) _
              refine XS.iconst X315.here hx rfl (hb hby at_133) ?_
              show Steps p.tables e below (T315.setTop (mkF m 134 #[iv p0, iv p1, iv p2, iv p3, iv p4, iv w0_1, iv w0_2, iv w0_3, iv w0_4, iv w0_5, rv b115, rv b117, iv w0_48, iv (0:Int32), .unset] [(.int (0:Int32))])) _
              refine XS.istore X315.here hx rfl (hb hby at_134) rfl (l' := #[iv p0, iv p1, iv p2, iv p3, iv p4, iv w0_1, iv w0_2, iv w0_3, iv w0_4, iv w0_5, rv b115, rv b117, iv w0_48, iv (0:Int32), iv (0:Int32)]) rfl ?_
              show Steps p.tables e below (T315.setTop (mkF m 136 #[iv p0, iv p1, iv p2, iv p3, iv p4, iv w0_1, iv w0_2, iv w0_3, iv w0_4, iv w0_5, rv b115, rv b117, iv w0_48, iv (0:Int32), iv (0:Int32)] [])) _
              refine XS.goto X315.here hx rfl (pc0 := 136) (pc' := 174) rfl (hb hby at_136) (by decide) (by decide) ?_
              rw [hw0_49.trans (if_pos hm130_88)] at k
              exact k
            · refine XS.ifYes X315.here hx rfl (pc0 := 130) (pc' := 139) rfl (hb hby at_130) rfl (XT.i0_ne_t hm130_88) (by decide) (by decide) ?_
              show Steps p.tables e below (T315.setTop (mkF m 139 #[iv p0, iv p1, iv p2, iv p3, iv p4, iv w0_1, iv w0_2, iv w0_3, iv w0_4, iv w0_5, rv b115, rv b117, iv w0_48, iv (0:Int32), .unset] [])) _
              refine XS.iload X315.here hx rfl (hb hby at_139) rfl ?_
              show Steps p.tables e below (T315.setTop (mkF m 141 #[iv p0, iv p1, iv p2, iv p3, iv p4, iv w0_1, iv w0_2, iv w0_3, iv w0_4, iv w0_5, rv b115, rv b117, iv w0_48, iv (0:Int32), .unset] [(.int w0_48)])) _
              refine XS.iload X315.here hx rfl (hb hby at_141) rfl ?_
              show Steps p.tables e below (T315.setTop (mkF m 143 #[iv p0, iv p1, iv p2, iv p3, iv p4, iv w0_1, iv w0_2, iv w0_3, iv w0_4, iv w0_5, rv b115, rv b117, iv w0_48, iv (0:Int32), .unset] [(.int w0_4), (.int w0_48)])) _
              refine XS.iadd X315.here hx rfl (hb hby at_143) rfl ?_
              show Steps p.tables e below (T315.setTop (mkF m 144 #[iv p0, iv p1, iv p2, iv p3, iv p4, iv w0_1, iv w0_2, iv w0_3, iv w0_4, iv w0_5, rv b115, rv b117, iv w0_48, iv (0:Int32), .unset] [(.int (w0_48 + w0_4))])) _
              refine XS.sipush X315.here hx rfl (hb hby at_144) ?_
              show Steps p.tables e below (T315.setTop (mkF m 147 #[iv p0, iv p1, iv p2, iv p3, iv p4, iv w0_1, iv w0_2, iv w0_3, iv w0_4, iv w0_5, rv b115, rv b117, iv w0_48, iv (0:Int32), .unset] [(.int (1025:Int32)), (.int (w0_48 + w0_4))])) _
              by_cases hm147_89 : (w0_48 + w0_4) < (1025:Int32)
              · refine XS.icmpYes X315.here hx rfl (pc0 := 147) (pc' := 156) rfl (hb hby at_147) rfl (XT.ii_lt_t hm147_89) (by decide) (by decide) ?_
                show Steps p.tables e below (T315.setTop (mkF m 156 #[iv p0, iv p1, iv p2, iv p3, iv p4, iv w0_1, iv w0_2, iv w0_3, iv w0_4, iv w0_5, rv b115, rv b117, iv w0_48, iv (0:Int32), .unset] [])) _
                refine XS.iload X315.here hx rfl (hb hby at_156) rfl ?_
                show Steps p.tables e below (T315.setTop (mkF m 158 #[iv p0, iv p1, iv p2, iv p3, iv p4, iv w0_1, iv w0_2, iv w0_3, iv w0_4, iv w0_5, rv b115, rv b117, iv w0_48, iv (0:Int32), .unset] [(.int (0:Int32))])) _
                refine XS.iload X315.here hx rfl (hb hby at_158) rfl ?_
                show Steps p.tables e below (T315.setTop (mkF m 160 #[iv p0, iv p1, iv p2, iv p3, iv p4, iv w0_1, iv w0_2, iv w0_3, iv w0_4, iv w0_5, rv b115, rv b117, iv w0_48, iv (0:Int32), .unset] [(.int w0_5), (.int (0:Int32))])) _
                refine XS.iadd X315.here hx rfl (hb hby at_160) rfl ?_
                show Steps p.tables e below (T315.setTop (mkF m 161 #[iv p0, iv p1, iv p2, iv p3, iv p4, iv w0_1, iv w0_2, iv w0_3, iv w0_4, iv w0_5, rv b115, rv b117, iv w0_48, iv (0:Int32), .unset] [(.int ((0:Int32) + w0_5))])) _
                refine XS.sipush X315.here hx rfl (hb hby at_161) ?_
                show Steps p.tables e below (T315.setTop (mkF m 164 #[iv p0, iv p1, iv p2, iv p3, iv p4, iv w0_1, iv w0_2, iv w0_3, iv w0_4, iv w0_5, rv b115, rv b117, iv w0_48, iv (0:Int32), .unset] [(.int (16385:Int32)), (.int ((0:Int32) + w0_5))])) _
                by_cases hm164_90 : ((0:Int32) + w0_5) < (16385:Int32)
                · refine XS.icmpYes X315.here hx rfl (pc0 := 164) (pc' := 171) rfl (hb hby at_164) rfl (XT.ii_lt_t hm164_90) (by decide) (by decide) ?_
                  show Steps p.tables e below (T315.setTop (mkF m 171 #[iv p0, iv p1, iv p2, iv p3, iv p4, iv w0_1, iv w0_2, iv w0_3, iv w0_4, iv w0_5, rv b115, rv b117, iv w0_48, iv (0:Int32), .unset] [])) _
                  refine XS.iconst X315.here hx rfl (hb hby at_171) ?_
                  show Steps p.tables e below (T315.setTop (mkF m 172 #[iv p0, iv p1, iv p2, iv p3, iv p4, iv w0_1, iv w0_2, iv w0_3, iv w0_4, iv w0_5, rv b115, rv b117, iv w0_48, iv (0:Int32), .unset] [(.int (0:Int32))])) _
                  refine XS.istore X315.here hx rfl (hb hby at_172) rfl (l' := #[iv p0, iv p1, iv p2, iv p3, iv p4, iv w0_1, iv w0_2, iv w0_3, iv w0_4, iv w0_5, rv b115, rv b117, iv w0_48, iv (0:Int32), iv (0:Int32)]) rfl ?_
                  rw [hw0_49.trans (((if_neg hm130_88).trans (if_pos hm147_89)).trans (if_pos hm164_90))] at k
                  exact k
                · refine XS.icmpNo X315.here hx rfl (hb hby at_164) rfl (XT.ii_lt_f hm164_90) ?_
                  show Steps p.tables e below (T315.setTop (mkF m 167 #[iv p0, iv p1, iv p2, iv p3, iv p4, iv w0_1, iv w0_2, iv w0_3, iv w0_4, iv w0_5, rv b115, rv b117, iv w0_48, iv (0:Int32), .unset] [])) _
                  refine XS.iconst X315.here hx rfl (hb hby at_167) ?_
                  show Steps p.tables e below (T315.setTop (mkF m 168 #[iv p0, iv p1, iv p2, iv p3, iv p4, iv w0_1, iv w0_2, iv w0_3, iv w0_4, iv w0_5, rv b115, rv b117, iv w0_48, iv (0:Int32), .unset] [(.int (1:Int32))])) _
                  refine XS.goto X315.here hx rfl (pc0 := 168) (pc' := 172) rfl (hb hby at_168) (by decide) (by decide) ?_
                  show Steps p.tables e below (T315.setTop (mkF m 172 #[iv p0, iv p1, iv p2, iv p3, iv p4, iv w0_1, iv w0_2, iv w0_3, iv w0_4, iv w0_5, rv b115, rv b117, iv w0_48, iv (0:Int32), .unset] [(.int (1:Int32))])) _
                  refine XS.istore X315.here hx rfl (hb hby at_172) rfl (l' := #[iv p0, iv p1, iv p2, iv p3, iv p4, iv w0_1, iv w0_2, iv w0_3, iv w0_4, iv w0_5, rv b115, rv b117, iv w0_48, iv (0:Int32), iv (1:Int32)]) rfl ?_
                  rw [hw0_49.trans (((if_neg hm130_88).trans (if_pos hm147_89)).trans (if_neg hm164_90))] at k
                  exact k
              · refine XS.icmpNo X315.here hx rfl (hb hby at_147) rfl (XT.ii_lt_f hm147_89) ?_
                show Steps p.tables e below (T315.setTop (mkF m 150 #[iv p0, iv p1, iv p2, iv p3, iv p4, iv w0_1, iv w0_2, iv w0_3, iv w0_4, iv w0_5, rv b115, rv b117, iv w0_48, iv (0:Int32), .unset] [])) _
                refine XS.iconst X315.here hx rfl (hb hby at_150) ?_
                show Steps p.tables e below (T315.setTop (mkF m 151 #[iv p0, iv p1, iv p2, iv p3, iv p4, iv w0_1, iv w0_2, iv w0_3, iv w0_4, iv w0_5, rv b115, rv b117, iv w0_48, iv (0:Int32), .unset] [(.int (1:Int32))])) _
                refine XS.istore X315.here hx rfl (hb hby at_151) rfl (l' := #[iv p0, iv p1, iv p2, iv p3, iv p4, iv w0_1, iv w0_2, iv w0_3, iv w0_4, iv w0_5, rv b115, rv b117, iv w0_48, iv (0:Int32), iv (1:Int32)]) rfl ?_
                show Steps p.tables e below (T315.setTop (mkF m 153 #[iv p0, iv p1, iv p2, iv p3, iv p4, iv w0_1, iv w0_2, iv w0_3, iv w0_4, iv w0_5, rv b115, rv b117, iv w0_48, iv (0:Int32), iv (1:Int32)] [])) _
                refine XS.goto X315.here hx rfl (pc0 := 153) (pc' := 174) rfl (hb hby at_153) (by decide) (by decide) ?_
                rw [hw0_49.trans ((if_neg hm130_88).trans (if_neg hm147_89))] at k
                exact k
          refine own_pre (A := T315.setTop (mkF m 180 #[iv p0, iv p1, iv p2, iv p3, iv p4, iv w0_1, iv w0_2, iv w0_3, iv w0_4, iv w0_5, rv b115, rv b117, iv w0_48, iv (0:Int32), iv w0_49] [(.int w0_5), (.int w0_4), (.ref b117)])) (fun t k => ?_) ?_
          · show Steps p.tables e below (T315.setTop (mkF m 174 #[iv p0, iv p1, iv p2, iv p3, iv p4, iv w0_1, iv w0_2, iv w0_3, iv w0_4, iv w0_5, rv b115, rv b117, iv w0_48, iv (0:Int32), iv w0_49] [])) _
            refine XS.aload X315.here hx rfl (hb hby at_174) rfl rfl ?_
            show Steps p.tables e below (T315.setTop (mkF m 176 #[iv p0, iv p1, iv p2, iv p3, iv p4, iv w0_1, iv w0_2, iv w0_3, iv w0_4, iv w0_5, rv b115, rv b117, iv w0_48, iv (0:Int32), iv w0_49] [(.ref b117)])) _
            refine XS.iload X315.here hx rfl (hb hby at_176) rfl ?_
            show Steps p.tables e below (T315.setTop (mkF m 178 #[iv p0, iv p1, iv p2, iv p3, iv p4, iv w0_1, iv w0_2, iv w0_3, iv w0_4, iv w0_5, rv b115, rv b117, iv w0_48, iv (0:Int32), iv w0_49] [(.int w0_4), (.ref b117)])) _
            refine XS.iload X315.here hx rfl (hb hby at_178) rfl ?_
            exact k
          have F328 := (F316.keep K315)
          obtain ⟨cq327, kq327, q327a, q327b, q327c⟩ := isOf hZ rfl F328
          obtain ⟨_, _, ⟨T327, L327, k327, n327⟩, -, X327, ⟨Lc327, hQ327, l327, y327, z327⟩, st327⟩ := X315.virtualBack hx (y := (⟨"com/example/fanout4/fanout4/xdm/RecordedEvents", "isFullFor", "(II)Z"⟩ : MethodName)) (z := (⟨"com/example/fanout4/fanout4/xdm/RecordedEvents", "isFullFor", "(II)Z"⟩ : MethodName)) hown (mvT hZ (own_h hw 44 rfl)) (mvT hZ (own_h hw 45 rfl)) (notFace_of_selects (args := #[]) (mvT hZ (own_h hw 47 rfl))) (mvT hZ (own_h hw 47 rfl)) (mvT hZ (own_h hw 46 rfl)) (by decide) (backOf (W := 0) (rm6 l Z aZ hw [] b117 w0_4 w0_5 (3:Int32) (0:Int32) T315.heap n0 Z323 G324 G321) hZ (own_h hw 48 rfl) (own_h hw 4 rfl) (by decide) (by decide)) q327a q327c (g := (mkF m 180 #[iv p0, iv p1, iv p2, iv p3, iv p4, iv w0_1, iv w0_2, iv w0_3, iv w0_4, iv w0_5, rv b115, rv b117, iv w0_48, iv (0:Int32), iv w0_49] [(.int w0_5), (.int w0_4), (.ref b117)])) rfl (by rw [hml]; rfl) (Steps.refl _) (argsL := [(.int w0_4), (.int w0_5)]) (rest := []) (lenOf own_pd3 rfl) rfl (by show 2 * 0 + _ ≤ _; exact Nat.le_of_eq rfl) (hb hby at_180) (fun _ _ => ⟨rfl, rfl, (by decide : 6 + 0 ≤ _), (by decide : 1494 + 0 ≤ _)⟩)
          dsimp only [Pt.U, Pt.locs, Pt.cells, Pt.slots] at X327 l327 y327 z327 st327 hQ327
          subst l327 y327 z327
          obtain ⟨rfl, N327q, eh327⟩ := hQ327
          have N327 := Fr.app N315 N327q
          refine own_pre (fun _ k => st327.trans k) ?_
          refine own_pre (A := T327.setTop (mkF m 185 #[iv p0, iv p1, iv p2, iv p3, iv p4, iv w0_1, iv w0_2, iv w0_3, iv w0_4, iv w0_5, rv b115, rv b117, iv w0_48, iv (0:Int32), iv w0_49] [(.int w0_49), (.int (f6 w0_4 w0_5 (3:Int32) (0:Int32)))])) (fun t k => ?_) ?_
          · show Steps p.tables e below (T327.setTop (mkF m 183 #[iv p0, iv p1, iv p2, iv p3, iv p4, iv w0_1, iv w0_2, iv w0_3, iv w0_4, iv w0_5, rv b115, rv b117, iv w0_48, iv (0:Int32), iv w0_49] [(.int (f6 w0_4 w0_5 (3:Int32) (0:Int32)))])) _
            refine XS.iload X327.here hx rfl (hb hby at_183) rfl ?_
            exact k
          obtain ⟨w0_50, hw0_50⟩ : ∃ z : Int32, z = (if (f6 w0_4 w0_5 (3:Int32) (0:Int32)) = w0_49 then (1:Int32) else (0:Int32)) := ⟨_, rfl⟩
          refine own_pre (A := T327.setTop (mkF m 193 #[iv p0, iv p1, iv p2, iv p3, iv p4, iv w0_1, iv w0_2, iv w0_3, iv w0_4, iv w0_5, rv b115, rv b117, iv w0_48, iv (0:Int32), iv w0_49] [(.int w0_50)])) (fun t k => ?_) ?_
          · show Steps p.tables e below (T327.setTop (mkF m 185 #[iv p0, iv p1, iv p2, iv p3, iv p4, iv w0_1, iv w0_2, iv w0_3, iv w0_4, iv w0_5, rv b115, rv b117, iv w0_48, iv (0:Int32), iv w0_49] [(.int w0_49), (.int (f6 w0_4 w0_5 (3:Int32) (0:Int32)))])) _
            by_cases hm185_91 : (f6 w0_4 w0_5 (3:Int32) (0:Int32)) = w0_49
            · refine XS.icmpNo X327.here hx rfl (hb hby at_185) rfl (XT.ii_ne_f hm185_91) ?_
              show Steps p.tables e below (T327.setTop (mkF m 188 #[iv p0, iv p1, iv p2, iv p3, iv p4, iv w0_1, iv w0_2, iv w0_3, iv w0_4, iv w0_5, rv b115, rv b117, iv w0_48, iv (0:Int32), iv w0_49] [])) _
              refine XS.iconst X327.here hx rfl (hb hby at_188) ?_
              show Steps p.tables e below (T327.setTop (mkF m 189 #[iv p0, iv p1, iv p2, iv p3, iv p4, iv w0_1, iv w0_2, iv w0_3, iv w0_4, iv w0_5, rv b115, rv b117, iv w0_48, iv (0:Int32), iv w0_49] [(.int (1:Int32))])) _
              refine XS.goto X327.here hx rfl (pc0 := 189) (pc' := 193) rfl (hb hby at_189) (by decide) (by decide) ?_
              rw [hw0_50.trans (if_pos hm185_91)] at k
              exact k
            · refine XS.icmpYes X327.here hx rfl (pc0 := 185) (pc' := 192) rfl (hb hby at_185) rfl (XT.ii_ne_t hm185_91) (by decide) (by decide) ?_
              show Steps p.tables e below (T327.setTop (mkF m 192 #[iv p0, iv p1, iv p2, iv p3, iv p4, iv w0_1, iv w0_2, iv w0_3, iv w0_4, iv w0_5, rv b115, rv b117, iv w0_48, iv (0:Int32), iv w0_49] [])) _
              refine XS.iconst X327.here hx rfl (hb hby at_192) ?_
              rw [hw0_50.trans (if_neg hm185_91)] at k
              exact k
          have hv329 : (w0_50 &&& 1) = f0 p0 p1 p2 p3 p4 := by subst hw0_1 hw0_2 hw0_3 hw0_4 hw0_5 hw0_48 hw0_49 hw0_50; simp only [f0, if_neg hs55_3, if_neg hs66_51, if_neg hs77_75, if_pos hs87_87]
          exact own_end X327 (BodyLoose.notSynchronized Bd) (fun h => by rw [Bd.returns] at h; cases h) (v := some (.int (w0_50 &&& 1))) (fun fs hr => retN X327 hx (t := .boolean) Bd.returns (by simp) (hb hby at_193) hr) (by show Q0 Z p0 p1 p2 p3 p4 h0 n0 _ T327.heap _; rw [eh327]; exact ⟨(congrArg (fun z => some (Value.int z)) hv329), N327⟩) (by decide) (by decide)
        · refine own_pre (A := T315.setTop (mkF m 97 #[iv p0, iv p1, iv p2, iv p3, iv p4, iv w0_1, iv w0_2, iv w0_3, iv w0_4, iv w0_5, rv b115, rv b117, .unset, .unset, .unset] [(.int w0_3), (.int (0:Int32)), (.ref b115), (.ref b117)])) (fun t k => ?_) ?_
          · show Steps p.tables e below (T315.setTop (mkF m 87 #[iv p0, iv p1, iv p2, iv p3, iv p4, iv w0_1, iv w0_2, iv w0_3, iv w0_4, iv w0_5, rv b115, rv b117, .unset, .unset, .unset] [(.int w0_2)])) _
            refine XS.ifNo X315.here hx rfl (hb hby at_87) rfl (XT.i0_eq_f hs87_87) ?_
            show Steps p.tables e below (T315.setTop (mkF m 90 #[iv p0, iv p1, iv p2, iv p3, iv p4, iv w0_1, iv w0_2, iv w0_3, iv w0_4, iv w0_5, rv b115, rv b117, .unset, .unset, .unset] [])) _
            refine XS.aload X315.here hx rfl (hb hby at_90) rfl rfl ?_
            show Steps p.tables e below (T315.setTop (mkF m 92 #[iv p0, iv p1, iv p2, iv p3, iv p4, iv w0_1, iv w0_2, iv w0_3, iv w0_4, iv w0_5, rv b115, rv b117, .unset, .unset, .unset] [(.ref b117)])) _
            refine XS.aload X315.here hx rfl (hb hby at_92) rfl rfl ?_
            show Steps p.tables e below (T315.setTop (mkF m 94 #[iv p0, iv p1, iv p2, iv p3, iv p4, iv w0_1, iv w0_2, iv w0_3, iv w0_4, iv w0_5, rv b115, rv b117, .unset, .unset, .unset] [(.ref b115), (.ref b117)])) _
            refine XS.iconst X315.here hx rfl (hb hby at_94) ?_
            show Steps p.tables e below (T315.setTop (mkF m 95 #[iv p0, iv p1, iv p2, iv p3, iv p4, iv w0_1, iv w0_2, iv w0_3, iv w0_4, iv w0_5, rv b115, rv b117, .unset, .unset, .unset] [(.int (0:Int32)), (.ref b115), (.ref b117)])) _
            refine XS.iload X315.here hx rfl (hb hby at_95) rfl ?_
            exact k
          have F331 := (F316.keep K315)
          have F332 := (((G136.keep K239 (ninS (Ne.symm ne143) (ninS (Ne.symm ne127) nin0))).keep K290 (ninS (Ne.symm ne143) (ninS (Ne.symm ne127) nin0))).keep K315 (ninS (Ne.symm ne143) (ninS (Ne.symm ne127) nin0)))
          have F333 := (((G137.keep K239 (ninS (Ne.symm ne146) (ninS (Ne.symm ne128) nin0))).keep K290 (ninS (Ne.symm ne146) (ninS (Ne.symm ne128) nin0))).keep K315 (ninS (Ne.symm ne146) (ninS (Ne.symm ne128) nin0)))
          have F334 := ((((F120.keep K119 (ninS ne_b115_b117 nin0)).keep K239 (ninS ne_b115_b117 (ninS ne139 nin0))).keep K290 (ninS ne_b115_b117 (ninS ne139 nin0))).keep K315 (ninS ne_b115_b117 (ninS ne139 nin0)))
          obtain ⟨cq330, kq330, q330a, q330b, q330c⟩ := isOf hZ rfl F331
          obtain ⟨_, _, ⟨T330, L330, k330, n330⟩, -, X330, ⟨Lc330, hQ330, l330, y330, z330⟩, st330⟩ := X315.virtualBack hx (y := (⟨"com/example/fanout4/fanout4/xdm/RecordedEvents", "text", "([CII)V"⟩ : MethodName)) (z := (⟨"com/example/fanout4/fanout4/xdm/RecordedEvents", "text", "([CII)V"⟩ : MethodName)) hown (mvT hZ (own_h hw 23 rfl)) (mvT hZ (own_h hw 24 rfl)) (notFace_of_selects (args := #[]) (mvT hZ (own_h hw 26 rfl))) (mvT hZ (own_h hw 26 rfl)) (mvT hZ (own_h hw 25 rfl)) (by decide) (backOf (W := 0) (rm3 l Z aZ hw [] b117 b115 w0_3 kd_121 nb_122 ch_123 own_v325 (3:Int32) (List.replicate 128 (0:Int32)) (List.replicate 1024 (0:Int32)) [(0:Int32), (0:Int32), (0:Int32), (0:Int32), (0:Int32), (0:Int32), (0:Int32), (0:Int32), (0:Int32), (0:Int32), (0:Int32), (0:Int32), (0:Int32), (0:Int32), (0:Int32), (0:Int32)] T315.heap n0 Z323 F331 G317 G318 G319 G324 G321 G326 F332 F333 F334 ne140 ne143 ne146 ne127 ne128 ne129 ne_b115_b117 ne139 ne142 ne145 ge_b117 ge141 ge144 ge147 (by first | (simp; done) | decide +kernel) (by decide) (by first | (simp; done) | decide +kernel) (by first | (simp; done) | decide +kernel) rfl (own_l15 hw0_3)) hZ (own_h hw 27 rfl) (own_h hw 4 rfl) (by decide) (by decide)) q330a q330c (g := (mkF m 97 #[iv p0, iv p1, iv p2, iv p3, iv p4, iv w0_1, iv w0_2, iv w0_3, iv w0_4, iv w0_5, rv b115, rv b117, .unset, .unset, .unset] [(.int w0_3), (.int (0:Int32)), (.ref b115), (.ref b117)])) rfl (by rw [hml]; rfl) (Steps.refl _) (argsL := [(.ref b115), (.int (0:Int32)), (.int w0_3)]) (rest := []) (lenOf own_pd4 rfl) rfl (by show 2 * 0 + _ ≤ _; exact Nat.le_of_eq rfl) (hb hby at_97) (fun _ _ => ⟨rfl, rfl, (by decide : 6 + 0 ≤ _), (by decide : 1494 + 0 ≤ _)⟩)
          dsimp only [Pt.U, Pt.locs, Pt.cells, Pt.slots] at X330 l330 y330 z330 st330 hQ330
          subst l330 y330 z330
          obtain ⟨rfl, N330q, K330, G335, G336⟩ := hQ330
          have N330 := Fr.app N315 N330q
          have Z337 : n0 ≤ T330.heap.size := Nat.le_trans Z323 K330.1
          have G338 : Fld Z T330.heap b117 "com/example/fanout4/fanout4/xdm/RecordedEvents" "size" "I" (.int (4:Int32)) := G335
          refine own_pre (fun _ k => st330.trans k) ?_
          obtain ⟨w0_51, hw0_51⟩ : ∃ z : Int32, z = (w0_1 + (1:Int32)) := ⟨_, rfl⟩
          refine own_pre (A := T330.setTop (mkF m 130 #[iv p0, iv p1, iv p2, iv p3, iv p4, iv w0_1, iv w0_2, iv w0_3, iv w0_4, iv w0_5, rv b115, rv b117, iv w0_51, iv w0_3, .unset] [(.int w0_51)])) (fun t k => ?_) ?_
          · show Steps p.tables e below (T330.setTop (mkF m 100 #[iv p0, iv p1, iv p2, iv p3, iv p4, iv w0_1, iv w0_2, iv w0_3, iv w0_4, iv w0_5, rv b115, rv b117, .unset, .unset, .unset] [])) _
            refine XS.iload X330.here hx rfl (hb hby at_100) rfl ?_
            show Steps p.tables e below (T330.setTop (mkF m 102 #[iv p0, iv p1, iv p2, iv p3, iv p4, iv w0_1, iv w0_2, iv w0_3, iv w0_4, iv w0_5, rv b115, rv b117, .unset, .unset, .unset] [(.int w0_1)])) _
            refine XS.iload X330.here hx rfl (hb hby at_102) rfl ?_
            show Steps p.tables e below (T330.setTop (mkF m 104 #[iv p0, iv p1, iv p2, iv p3, iv p4, iv w0_1, iv w0_2, iv w0_3, iv w0_4, iv w0_5, rv b115, rv b117, .unset, .unset, .unset] [(.int w0_2), (.int w0_1)])) _
            refine XS.ifNo X330.here hx rfl (hb hby at_104) rfl (XT.i0_eq_f hs87_87) ?_
            show Steps p.tables e below (T330.setTop (mkF m 107 #[iv p0, iv p1, iv p2, iv p3, iv p4, iv w0_1, iv w0_2, iv w0_3, iv w0_4, iv w0_5, rv b115, rv b117, .unset, .unset, .unset] [(.int w0_1)])) _
            refine XS.iconst X330.here hx rfl (hb hby at_107) ?_
            show Steps p.tables e below (T330.setTop (mkF m 108 #[iv p0, iv p1, iv p2, iv p3, iv p4, iv w0_1, iv w0_2, iv w0_3, iv w0_4, iv w0_5, rv b115, rv b117, .unset, .unset, .unset] [(.int (1:Int32)), (.int w0_1)])) _
            refine XS.goto X330.here hx rfl (pc0 := 108) (pc' := 112) rfl (hb hby at_108) (by decide) (by decide) ?_
            show Steps p.tables e below (T330.setTop (mkF m 112 #[iv p0, iv p1, iv p2, iv p3, iv p4, iv w0_1, iv w0_2, iv w0_3, iv w0_4, iv w0_5, rv b115, rv b117, .unset, .unset, .unset] [(.int (1:Int32)), (.int w0_1)])) _
            refine XS.iadd X330.here hx rfl (hb hby at_112) rfl ?_
            show Steps p.tables e below (T330.setTop (mkF m 113 #[iv p0, iv p1, iv p2, iv p3, iv p4, iv w0_1, iv w0_2, iv w0_3, iv w0_4, iv w0_5, rv b115, rv b117, .unset, .unset, .unset] [(.int (w0_1 + (1:Int32)))])) _
            refine XS.istore X330.here hx rfl (hb hby at_113) rfl (l' := #[iv p0, iv p1, iv p2, iv p3, iv p4, iv w0_1, iv w0_2, iv w0_3, iv w0_4, iv w0_5, rv b115, rv b117, iv w0_51, .unset, .unset]) (by rw [hw0_51]; rfl) ?_
            show Steps p.tables e below (T330.setTop (mkF m 115 #[iv p0, iv p1, iv p2, iv p3, iv p4, iv w0_1, iv w0_2, iv w0_3, iv w0_4, iv w0_5, rv b115, rv b117, iv w0_51, .unset, .unset] [])) _
            refine XS.iload X330.here hx rfl (hb hby at_115) rfl ?_
            show Steps p.tables e below (T330.setTop (mkF m 117 #[iv p0, iv p1, iv p2, iv p3, iv p4, iv w0_1, iv w0_2, iv w0_3, iv w0_4, iv w0_5, rv b115, rv b117, iv w0_51, .unset, .unset] [(.int w0_2)])) _
            refine XS.ifNo X330.here hx rfl (hb hby at_117) rfl (XT.i0_eq_f hs87_87) ?_
            show Steps p.tables e below (T330.setTop (mkF m 120 #[iv p0, iv p1, iv p2, iv p3, iv p4, iv w0_1, iv w0_2, iv w0_3, iv w0_4, iv w0_5, rv b115, rv b117, iv w0_51, .unset, .unset] [])) _
            refine XS.iload X330.here hx rfl (hb hby at_120) rfl ?_
            show Steps p.tables e below (T330.setTop (mkF m 122 #[iv p0, iv p1, iv p2, iv p3, iv p4, iv w0_1, iv w0_2, iv w0_3, iv w0_4, iv w0_5, rv b115, rv b117, iv w0_51, .unset, .unset] [(.int w0_3)])) _
            refine XS.goto X330.here hx rfl (pc0 := 122) (pc' := 126) rfl (hb hby at_122) (by decide) (by decide) ?_
            show Steps p.tables e below (T330.setTop (mkF m 126 #[iv p0, iv p1, iv p2, iv p3, iv p4, iv w0_1, iv w0_2, iv w0_3, iv w0_4, iv w0_5, rv b115, rv b117, iv w0_51, .unset, .unset] [(.int w0_3)])) _
            refine XS.istore X330.here hx rfl (hb hby at_126) rfl (l' := #[iv p0, iv p1, iv p2, iv p3, iv p4, iv w0_1, iv w0_2, iv w0_3, iv w0_4, iv w0_5, rv b115, rv b117, iv w0_51, iv w0_3, .unset]) rfl ?_
            show Steps p.tables e below (T330.setTop (mkF m 128 #[iv p0, iv p1, iv p2, iv p3, iv p4, iv w0_1, iv w0_2, iv w0_3, iv w0_4, iv w0_5, rv b115, rv b117, iv w0_51, iv w0_3, .unset] [])) _
            refine XS.iload X330.here hx rfl (hb hby at_128) rfl ?_
            exact k
          obtain ⟨w0_52, hw0_52⟩ : ∃ z : Int32, z = (if w0_51 = (0:Int32) then (0:Int32) else (if (w0_51 + w0_4) < (1025:Int32) then (if (w0_3 + w0_5) < (16385:Int32) then (0:Int32) else (1:Int32)) else (1:Int32))) := ⟨_, rfl⟩
          refine own_pre (A := T330.setTop (mkF m 174 #[iv p0, iv p1, iv p2, iv p3, iv p4, iv w0_1, iv w0_2, iv w0_3, iv w0_4, iv w0_5, rv b115, rv b117, iv w0_51, iv w0_3, iv w0_52] [])) (fun t k => ?_) ?_
          · show Steps p.tables e below (T330.setTop (mkF m 130 #[iv p0, iv p1, iv p2, iv p3, iv p4, iv w0_1, iv w0_2, iv w0_3, iv w0_4, iv w0_5, rv b115, rv b117, iv w0_51, iv w0_3, .unset] [(.int w0_51)])) _
            by_cases hm130_92 : w0_51 = (0:Int32)
            · refine XS.ifNo X330.here hx rfl (hb hby at_130) rfl (XT.i0_ne_f hm130_92) ?_
              show Steps p.tables e below (T330.setTop (mkF m 133 #[iv p0, iv p1, iv p2, iv p3, iv p4, iv w0_1, iv w0_2, iv w0_3, iv w0_4, iv w0_5, rv b115, rv b117, iv w0_51, iv w0_3, .unset] [])) _
              refine XS.iconst X330.here hx rfl (hb hby at_133) ?_
              show Steps p.tables e below (T330.setTop (mkF m 134 #[iv p0, iv p1, iv p2, iv p3, iv p4, iv w0_1, iv w0_2, iv w0_3, iv w0_4, iv w0_5, rv b115, rv b117, iv w0_51, iv w0_3, .unset] [(.int (0:Int32))])) _
              refine XS.istore X330.here hx rfl (hb hby at_134) rfl (l' := #[iv p0, iv p1, iv p2, iv p3, iv p4, iv w0_1, iv w0_2, iv w0_3, iv w0_4, iv w0_5, rv b115, rv b117, iv w0_51, iv w0_3, iv (0:Int32)]) rfl ?_
              show Steps p.tables e below (T330.setTop (mkF m 136 #[iv p0, iv p1, iv p2, iv p3, iv p4, iv w0_1, iv w0_2, iv w0_3, iv w0_4, iv w0_5, rv b115, rv b117, iv w0_51, iv w0_3, iv (0:Int32)] [])) _
              refine XS.goto X330.here hx rfl (pc0 := 136) (pc' := 174) rfl (hb hby at_136) (by decide) (by decide) ?_
              rw [hw0_52.trans (if_pos hm130_92)] at k
              exact k
            · refine XS.ifYes X330.here hx rfl (pc0 := 130) (pc' := 139) rfl (hb hby at_130) rfl (XT.i0_ne_t hm130_92) (by decide) (by decide) ?_
              show Steps p.tables e below (T330.setTop (mkF m 139 #[iv p0, iv p1, iv p2, iv p3, iv p4, iv w0_1, iv w0_2, iv w0_3, iv w0_4, iv w0_5, rv b115, rv b117, iv w0_51, iv w0_3, .unset] [])) _
              refine XS.iload X330.here hx rfl (hb hby at_139) rfl ?_
              show Steps p.tables e below (T330.setTop (mkF m 141 #[iv p0, iv p1, iv p2, iv p3, iv p4, iv w0_1, iv w0_2, iv w0_3, iv w0_4, iv w0_5, rv b115, rv b117, iv w0_51, iv w0_3, .unset] [(.int w0_51)])) _
              refine XS.iload X330.here hx rfl (hb hby at_141) rfl ?_
              show Steps p.tables e below (T330.setTop (mkF m 143 #[iv p0, iv p1, iv p2, iv p3, iv p4, iv w0_1, iv w0_2, iv w0_3, iv w0_4, iv w0_5, rv b115, rv b117, iv w0_51, iv w0_3, .unset] [(.int w0_4), (.int w0_51)])) _
              refine XS.iadd X330.here hx rfl (hb hby at_143) rfl ?_
              show Steps p.tables e below (T330.setTop (mkF m 144 #[iv p0, iv p1, iv p2, iv p3, iv p4, iv w0_1, iv w0_2, iv w0_3, iv w0_4, iv w0_5, rv b115, rv b117, iv w0_51, iv w0_3, .unset] [(.int (w0_51 + w0_4))])) _
              refine XS.sipush X330.here hx rfl (hb hby at_144) ?_
              show Steps p.tables e below (T330.setTop (mkF m 147 #[iv p0, iv p1, iv p2, iv p3, iv p4, iv w0_1, iv w0_2, iv w0_3, iv w0_4, iv w0_5, rv b115, rv b117, iv w0_51, iv w0_3, .unset] [(.int (1025:Int32)), (.int (w0_51 + w0_4))])) _
              by_cases hm147_93 : (w0_51 + w0_4) < (1025:Int32)
              · refine XS.icmpYes X330.here hx rfl (pc0 := 147) (pc' := 156) rfl (hb hby at_147) rfl (XT.ii_lt_t hm147_93) (by decide) (by decide) ?_
                show Steps p.tables e below (T330.setTop (mkF m 156 #[iv p0, iv p1, iv p2, iv p3, iv p4, iv w0_1, iv w0_2, iv w0_3, iv w0_4, iv w0_5, rv b115, rv b117, iv w0_51, iv w0_3, .unset] [])) _
                refine XS.iload X330.here hx rfl (hb hby at_156) rfl ?_
                show Steps p.tables e below (T330.setTop (mkF m 158 #[iv p0, iv p1, iv p2, iv p3, iv p4, iv w0_1, iv w0_2, iv w0_3, iv w0_4, iv w0_5, rv b115, rv b117, iv w0_51, iv w0_3, .unset] [(.int w0_3)])) _
                refine XS.iload X330.here hx rfl (hb hby at_158) rfl ?_
                show Steps p.tables e below (T330.setTop (mkF m 160 #[iv p0, iv p1, iv p2, iv p3, iv p4, iv w0_1, iv w0_2, iv w0_3, iv w0_4, iv w0_5, rv b115, rv b117, iv w0_51, iv w0_3, .unset] [(.int w0_5), (.int w0_3)])) _
                refine XS.iadd X330.here hx rfl (hb hby at_160) rfl ?_
                show Steps p.tables e below (T330.setTop (mkF m 161 #[iv p0, iv p1, iv p2, iv p3, iv p4, iv w0_1, iv w0_2, iv w0_3, iv w0_4, iv w0_5, rv b115, rv b117, iv w0_51, iv w0_3, .unset] [(.int (w0_3 + w0_5))])) _
                refine XS.sipush X330.here hx rfl (hb hby at_161) ?_
                show Steps p.tables e below (T330.setTop (mkF m 164 #[iv p0, iv p1, iv p2, iv p3, iv p4, iv w0_1, iv w0_2, iv w0_3, iv w0_4, iv w0_5, rv b115, rv b117, iv w0_51, iv w0_3, .unset] [(.int (16385:Int32)), (.int (w0_3 + w0_5))])) _
                by_cases hm164_94 : (w0_3 + w0_5) < (16385:Int32)
                · refine XS.icmpYes X330.here hx rfl (pc0 := 164) (pc' := 171) rfl (hb hby at_164) rfl (XT.ii_lt_t hm164_94) (by decide) (by decide) ?_
                  show Steps p.tables e below (T330.setTop (mkF m 171 #[iv p0, iv p1, iv p2, iv p3, iv p4, iv w0_1, iv w0_2, iv w0_3, iv w0_4, iv w0_5, rv b115, rv b117, iv w0_51, iv w0_3, .unset] [])) _
                  refine XS.iconst X330.here hx rfl (hb hby at_171) ?_
                  show Steps p.tables e below (T330.setTop (mkF m 172 #[iv p0, iv p1, iv p2, iv p3, iv p4, iv w0_1, iv w0_2, iv w0_3, iv w0_4, iv w0_5, rv b115, rv b117, iv w0_51, iv w0_3, .unset] [(.int (0:Int32))])) _
                  refine XS.istore X330.here hx rfl (hb hby at_172) rfl (l' := #[iv p0, iv p1, iv p2, iv p3, iv p4, iv w0_1, iv w0_2, iv w0_3, iv w0_4, iv w0_5, rv b115, rv b117, iv w0_51, iv w0_3, iv (0:Int32)]) rfl ?_
                  rw [hw0_52.trans (((if_neg hm130_92).trans (if_pos hm147_93)).trans (if_pos hm164_94))] at k
                  exact k
                · refine XS.icmpNo X330.here hx rfl (hb hby at_164) rfl (XT.ii_lt_f hm164_94) ?_
                  show Steps p.tables e below (T330.setTop (mkF m 167 #[iv p0, iv p1, iv p2, iv p3, iv p4, iv w0_1, iv w0_2, iv w0_3, iv w0_4, iv w0_5, rv b115, rv b117, iv w0_51, iv w0_3, .unset] [])) _
                  refine XS.iconst X330.here hx rfl (hb hby at_167) ?_
                  show Steps p.tables e below (T330.setTop (mkF m 168 #[iv p0, iv p1, iv p2, iv p3, iv p4, iv w0_1, iv w0_2, iv w0_3, iv w0_4, iv w0_5, rv b115, rv b117, iv w0_51, iv w0_3, .unset] [(.int (1:Int32))])) _
                  refine XS.goto X330.here hx rfl (pc0 := 168) (pc' := 172) rfl (hb hby at_168) (by decide) (by decide) ?_
                  show Steps p.tables e below (T330.setTop (mkF m 172 #[iv p0, iv p1, iv p2, iv p3, iv p4, iv w0_1, iv w0_2, iv w0_3, iv w0_4, iv w0_5, rv b115, rv b117, iv w0_51, iv w0_3, .unset] [(.int (1:Int32))])) _
                  refine XS.istore X330.here hx rfl (hb hby at_172) rfl (l' := #[iv p0, iv p1, iv p2, iv p3, iv p4, iv w0_1, iv w0_2, iv w0_3, iv w0_4, iv w0_5, rv b115, rv b117, iv w0_51, iv w0_3, iv (1:Int32)]) rfl ?_
                  rw [hw0_52.trans (((if_neg hm130_92).trans (if_pos hm147_93)).trans (if_neg hm164_94))] at k
                  exact k
              · refine XS.icmpNo X330.here hx rfl (hb hby at_147) rfl (XT.ii_lt_f hm147_93) ?_
                show Steps p.tables e below (T330.setTop (mkF m 150 #[iv p0, iv p1, iv p2, iv p3, iv p4, iv w0_1, iv w0_2, iv w0_3, iv w0_4, iv w0_5, rv b115, rv b117, iv w0_51, iv w0_3, .unset] [])) _
                refine XS.iconst X330.here hx rfl (hb hby at_150) ?_
                show Steps p.tables e below (T330.setTop (mkF m 151 #[iv p0, iv p1, iv p2, iv p3, iv p4, iv w0_1, iv w0_2, iv w0_3, iv w0_4, iv w0_5, rv b115, rv b117, iv w0_51, iv w0_3, .unset] [(.int (1:Int32))])) _
                refine XS.istore X330.here hx rfl (hb hby at_151) rfl (l' := #[iv p0, iv p1, iv p2, iv p3, iv p4, iv w0_1, iv w0_2, iv w0_3, iv w0_4, iv w0_5, rv b115, rv b117, iv w0_51, iv w0_3, iv (1:Int32)]) rfl ?_
                show Steps p.tables e below (T330.setTop (mkF m 153 #[iv p0, iv p1, iv p2, iv p3, iv p4, iv w0_1, iv w0_2, iv w0_3, iv w0_4, iv w0_5, rv b115, rv b117, iv w0_51, iv w0_3, iv (1:Int32)] [])) _
                refine XS.goto X330.here hx rfl (pc0 := 153) (pc' := 174) rfl (hb hby at_153) (by decide) (by decide) ?_
                rw [hw0_52.trans ((if_neg hm130_92).trans (if_neg hm147_93))] at k
                exact k
          refine own_pre (A := T330.setTop (mkF m 180 #[iv p0, iv p1, iv p2, iv p3, iv p4, iv w0_1, iv w0_2, iv w0_3, iv w0_4, iv w0_5, rv b115, rv b117, iv w0_51, iv w0_3, iv w0_52] [(.int w0_5), (.int w0_4), (.ref b117)])) (fun t k => ?_) ?_
          · show Steps p.tables e below (T330.setTop (mkF m 174 #[iv p0, iv p1, iv p2, iv p3, iv p4, iv w0_1, iv w0_2, iv w0_3, iv w0_4, iv w0_5, rv b115, rv b117, iv w0_51, iv w0_3, iv w0_52] [])) _
            refine XS.aload X330.here hx rfl (hb hby at_174) rfl rfl ?_
            show Steps p.tables e below (T330.setTop (mkF m 176 #[iv p0, iv p1, iv p2, iv p3, iv p4, iv w0_1, iv w0_2, iv w0_3, iv w0_4, iv w0_5, rv b115, rv b117, iv w0_51, iv w0_3, iv w0_52] [(.ref b117)])) _
            refine XS.iload X330.here hx rfl (hb hby at_176) rfl ?_
            show Steps p.tables e below (T330.setTop (mkF m 178 #[iv p0, iv p1, iv p2, iv p3, iv p4, iv w0_1, iv w0_2, iv w0_3, iv w0_4, iv w0_5, rv b115, rv b117, iv w0_51, iv w0_3, iv w0_52] [(.int w0_4), (.ref b117)])) _
            refine XS.iload X330.here hx rfl (hb hby at_178) rfl ?_
            exact k
          have F340 := (F331.keep K330)
          obtain ⟨cq339, kq339, q339a, q339b, q339c⟩ := isOf hZ rfl F340
          obtain ⟨_, _, ⟨T339, L339, k339, n339⟩, -, X339, ⟨Lc339, hQ339, l339, y339, z339⟩, st339⟩ := X330.virtualBack hx (y := (⟨"com/example/fanout4/fanout4/xdm/RecordedEvents", "isFullFor", "(II)Z"⟩ : MethodName)) (z := (⟨"com/example/fanout4/fanout4/xdm/RecordedEvents", "isFullFor", "(II)Z"⟩ : MethodName)) hown (mvT hZ (own_h hw 44 rfl)) (mvT hZ (own_h hw 45 rfl)) (notFace_of_selects (args := #[]) (mvT hZ (own_h hw 47 rfl))) (mvT hZ (own_h hw 47 rfl)) (mvT hZ (own_h hw 46 rfl)) (by decide) (backOf (W := 0) (rm6 l Z aZ hw [] b117 w0_4 w0_5 (4:Int32) ((0:Int32) + w0_3) T330.heap n0 Z337 G338 G336) hZ (own_h hw 48 rfl) (own_h hw 4 rfl) (by decide) (by decide)) q339a q339c (g := (mkF m 180 #[iv p0, iv p1, iv p2, iv p3, iv p4, iv w0_1, iv w0_2, iv w0_3, iv w0_4, iv w0_5, rv b115, rv b117, iv w0_51, iv w0_3, iv w0_52] [(.int w0_5), (.int w0_4), (.ref b117)])) rfl (by rw [hml]; rfl) (Steps.refl _) (argsL := [(.int w0_4), (.int w0_5)]) (rest := []) (lenOf own_pd3 rfl) rfl (by show 2 * 0 + _ ≤ _; exact Nat.le_of_eq rfl) (hb hby at_180) (fun _ _ => ⟨rfl, rfl, (by decide : 6 + 0 ≤ _), (by decide : 1494 + 0 ≤ _)⟩)
          dsimp only [Pt.U, Pt.locs, Pt.cells, Pt.slots] at X339 l339 y339 z339 st339 hQ339
          subst l339 y339 z339
          obtain ⟨rfl, N339q, eh339⟩ := hQ339
          have N339 := Fr.app N330 N339q
          refine own_pre (fun _ k => st339.trans k) ?_
          refine own_pre (A := T339.setTop (mkF m 185 #[iv p0, iv p1, iv p2, iv p3, iv p4, iv w0_1, iv w0_2, iv w0_3, iv w0_4, iv w0_5, rv b115, rv b117, iv w0_51, iv w0_3, iv w0_52] [(.int w0_52), (.int (f6 w0_4 w0_5 (4:Int32) ((0:Int32) + w0_3)))])) (fun t k => ?_) ?_
          · show Steps p.tables e below (T339.setTop (mkF m 183 #[iv p0, iv p1, iv p2, iv p3, iv p4, iv w0_1, iv w0_2, iv w0_3, iv w0_4, iv w0_5, rv b115, rv b117, iv w0_51, iv w0_3, iv w0_52] [(.int (f6 w0_4 w0_5 (4:Int32) ((0:Int32) + w0_3)))])) _
            refine XS.iload X339.here hx rfl (hb hby at_183) rfl ?_
            exact k
          obtain ⟨w0_53, hw0_53⟩ : ∃ z : Int32, z = (if (f6 w0_4 w0_5 (4:Int32) ((0:Int32) + w0_3)) = w0_52 then (1:Int32) else (0:Int32)) := ⟨_, rfl⟩
          refine own_pre (A := T339.setTop (mkF m 193 #[iv p0, iv p1, iv p2, iv p3, iv p4, iv w0_1, iv w0_2, iv w0_3, iv w0_4, iv w0_5, rv b115, rv b117, iv w0_51, iv w0_3, iv w0_52] [(.int w0_53)])) (fun t k => ?_) ?_
          · show Steps p.tables e below (T339.setTop (mkF m 185 #[iv p0, iv p1, iv p2, iv p3, iv p4, iv w0_1, iv w0_2, iv w0_3, iv w0_4, iv w0_5, rv b115, rv b117, iv w0_51, iv w0_3, iv w0_52] [(.int w0_52), (.int (f6 w0_4 w0_5 (4:Int32) ((0:Int32) + w0_3)))])) _
            by_cases hm185_95 : (f6 w0_4 w0_5 (4:Int32) ((0:Int32) + w0_3)) = w0_52
            · refine XS.icmpNo X339.here hx rfl (hb hby at_185) rfl (XT.ii_ne_f hm185_95) ?_
              show Steps p.tables e below (T339.setTop (mkF m 188 #[iv p0, iv p1, iv p2, iv p3, iv p4, iv w0_1, iv w0_2, iv w0_3, iv w0_4, iv w0_5, rv b115, rv b117, iv w0_51, iv w0_3, iv w0_52] [])) _
              refine XS.iconst X339.here hx rfl (hb hby at_188) ?_
              show Steps p.tables e below (T339.setTop (mkF m 189 #[iv p0, iv p1, iv p2, iv p3, iv p4, iv w0_1, iv w0_2, iv w0_3, iv w0_4, iv w0_5, rv b115, rv b117, iv w0_51, iv w0_3, iv w0_52] [(.int (1:Int32))])) _
              refine XS.goto X339.here hx rfl (pc0 := 189) (pc' := 193) rfl (hb hby at_189) (by decide) (by decide) ?_
              rw [hw0_53.trans (if_pos hm185_95)] at k
              exact k
            · refine XS.icmpYes X339.here hx rfl (pc0 := 185) (pc' := 192) rfl (hb hby at_185) rfl (XT.ii_ne_t hm185_95) (by decide) (by decide) ?_
              show Steps p.tables e below (T339.setTop (mkF m 192 #[iv p0, iv p1, iv p2, iv p3, iv p4, iv w0_1, iv w0_2, iv w0_3, iv w0_4, iv w0_5, rv b115, rv b117, iv w0_51, iv w0_3, iv w0_52] [])) _
              refine XS.iconst X339.here hx rfl (hb hby at_192) ?_
              rw [hw0_53.trans (if_neg hm185_95)] at k
              exact k
          have hv341 : (w0_53 &&& 1) = f0 p0 p1 p2 p3 p4 := by subst hw0_1 hw0_2 hw0_3 hw0_4 hw0_5 hw0_51 hw0_52 hw0_53; simp only [f0, if_neg hs55_3, if_neg hs66_51, if_neg hs77_75, if_neg hs87_87]
          exact own_end X339 (BodyLoose.notSynchronized Bd) (fun h => by rw [Bd.returns] at h; cases h) (v := some (.int (w0_53 &&& 1))) (fun fs hr => retN X339 hx (t := .boolean) Bd.returns (by simp) (hb hby at_193) hr) (by show Q0 Z p0 p1 p2 p3 p4 h0 n0 _ T339.heap _; rw [eh339]; exact ⟨(congrArg (fun z => some (Value.int z)) hv341), N339⟩) (by decide) (by decide)
theorem own_full (ev ch sz cc : Int32) (h1 : 0 ≤ ev.toInt ∧ ev.toInt < 1073741824) (h2 : 0 ≤ ch.toInt ∧ ch.toInt < 1073741824) (h3 : 0 ≤ sz.toInt ∧ sz.toInt < 5) (h4 : 0 ≤ cc.toInt ∧ cc.toInt < 16) :
    f6 ev ch sz cc = (if sz = (0:Int32) then (0:Int32) else (if (sz + ev) < (1025:Int32) then (if (cc + ch) < (16385:Int32) then (0:Int32) else (1:Int32)) else (1:Int32))) := by
  have l0 : (0:Int32).toInt = 0 := by decide
  have l1 : (1024:Int32).toInt = 1024 := by decide
  have l2 : (1025:Int32).toInt = 1025 := by decide
  have l3 : (16384:Int32).toInt = 16384 := by decide
  have l4 : (16385:Int32).toInt = 16385 := by decide
  have e1 : (sz + ev).toInt = sz.toInt + ev.toInt := Jvm.Kit.i32_add (by omega) (by omega)
  have e2 : (cc + ch).toInt = cc.toInt + ch.toInt := Jvm.Kit.i32_add (by omega) (by omega)
  simp only [f6, Int32.lt_iff_toInt_lt, ← Int32.toInt_inj, e1, e2, l0, l1, l2, l3, l4]
  (repeat' split) <;> first | rfl | (exfalso; omega)
theorem own_plain (p0 p1 p2 p3 p4 : Int32) : f0 p0 p1 p2 p3 p4 = 1 := by
  simp only [f0]
  have he : (p0 &&& (3:Int32)).toInt = p0.toInt % 2 ^ 2 := Jvm.Kit.i32_mask p0 _ (k := 2) (by decide) (by decide)
  have hl : (p2 &&& (15:Int32)).toInt = p2.toInt % 2 ^ 4 := Jvm.Kit.i32_mask p2 _ (k := 4) (by decide) (by decide)
  have hv : (p3 &&& (1073741823:Int32)).toInt = p3.toInt % 2 ^ 30 := Jvm.Kit.i32_mask p3 _ (k := 30) (by decide) (by decide)
  have hc : (p4 &&& (1073741823:Int32)).toInt = p4.toInt % 2 ^ 30 := Jvm.Kit.i32_mask p4 _ (k := 30) (by decide) (by decide)
  generalize p0 &&& (3:Int32) = e at *
  generalize p2 &&& (15:Int32) = len at *
  generalize p3 &&& (1073741823:Int32) = ev at *
  generalize p4 &&& (1073741823:Int32) = ch at *
  have F := fun sz cc h3 h4 => own_full ev ch sz cc ⟨by omega, by omega⟩ ⟨by omega, by omega⟩ h3 h4
  have l0 : (0:Int32).toInt = 0 := by decide
  have l1 : (1:Int32).toInt = 1 := by decide
  have l2 : (2:Int32).toInt = 2 := by decide
  have l3 : (3:Int32).toInt = 3 := by decide
  have four : e = 0 ∨ e = 1 ∨ e = 2 ∨ e = 3 := by
    simp only [← Int32.toInt_inj, l0, l1, l2, l3]; omega
  have zl : (0:Int32) + len = len := Int32.zero_add len
  have r0 : 0 ≤ (0:Int32).toInt ∧ (0:Int32).toInt < 16 := by decide
  have rl : 0 ≤ len.toInt ∧ len.toInt < 16 := ⟨by omega, by omega⟩
  have a0 := F 0 0 (by decide) r0
  have a1 := F 1 0 (by decide) r0
  have a2 := F 2 0 (by decide) r0
  have a3 := F 3 0 (by decide) r0
  have b1 := F 1 len (by decide) rl
  have b2 := F 2 len (by decide) rl
  have b3 := F 3 len (by decide) rl
  have b4 := F 4 len (by decide) rl
  have s1 : (1:Int32) + 1 = 2 := by decide
  have s2 : (2:Int32) + 1 = 3 := by decide
  have s3 : (3:Int32) + 1 = 4 := by decide
  have c01 : (0:Int32) < 1 := by decide
  have c02 : (0:Int32) < 2 := by decide
  have c03 : (0:Int32) < 3 := by decide
  have c11 : ¬ (1:Int32) < 1 := by decide
  have c12 : (1:Int32) < 2 := by decide
  have c13 : (1:Int32) < 3 := by decide
  have c21 : ¬ (2:Int32) < 1 := by decide
  have c22 : ¬ (2:Int32) < 2 := by decide
  have c23 : (2:Int32) < 3 := by decide
  have c31 : ¬ (3:Int32) < 1 := by decide
  have c32 : ¬ (3:Int32) < 2 := by decide
  have c33 : ¬ (3:Int32) < 3 := by decide
  have t : ∀ x : Int32, ((if x = x then (1:Int32) else 0) &&& 1) = 1 := by intro x; rw [if_pos rfl]; rfl
  by_cases q : (p1 &&& (1:Int32)) = (0:Int32)
  · have w : (if (p1 &&& (1:Int32)) = (0:Int32) then (0:Int32) else (1:Int32)) = 0 := if_pos q
    rcases four with rfl | rfl | rfl | rfl
    · simp only [w, if_pos c01, if_pos c02, if_pos c03, Int32.add_zero, a0]; simp
    · simp only [w, if_neg c11, if_pos c12, if_pos c13, Int32.add_zero, a1]; simp
    · simp only [w, if_neg c21, if_neg c22, if_pos c23, Int32.add_zero, a2]; simp
    · simp only [w, if_neg c31, if_neg c32, if_neg c33, Int32.add_zero, a3]; simp
  · have w : (if (p1 &&& (1:Int32)) = (0:Int32) then (0:Int32) else (1:Int32)) = 1 := if_neg q
    rcases four with rfl | rfl | rfl | rfl
    · simp only [w, if_pos c01, if_pos c02, if_pos c03, Int32.zero_add, zl, b1]; simp
    · simp only [w, if_neg c11, if_pos c12, if_pos c13, s1, zl, b2]; simp
    · simp only [w, if_neg c21, if_neg c22, if_pos c23, s2, zl, b3]; simp
    · simp only [w, if_neg c31, if_neg c32, if_neg c33, s3, zl, b4]; simp
set_option maxRecDepth 65536 in
set_option maxHeartbeats 40000000 in
theorem comes_1 {Post : Tables → Env → Array Value → State → Outcome → State → Prop} (hpost : ∀ tb e args s v u, (limb_1_1.after args s (.returned v) u = true ∧ limb_1_2.after args s (.returned v) u = true ∧ True) → FrameEnd s (.returned v) u (Jvm.fieldLocs frame_1_writes args s ++ Jvm.arrayLocs frame_1_arrays args s ++ Jvm.staticLocs frame_1_statics s) 24 3072 → Post tb e args s (.returned v) u) :
    ArmFor flags0 classFile x code maxLocals ret World_1 tables_1 room_1 Calls_1 rest_1 Pre_1 Post := by
  intro l hfl _ _ p e ha hc hk s m args below hf hA hF happ hP
  obtain ⟨hcalls, hrest, hpre⟩ := hP
  obtain ⟨-, -, -, hnamed, -, -, -, hat⟩ := (Spec.applies_iff hf).mp happ
  obtain ⟨hg, hn⟩ := and_e (Cond.before_iff.mp (show (Jvm.Cond.and given_1 narrow_1).before args s = true from hpre))
  obtain ⟨g2, g3⟩ := and_e hg
  obtain ⟨g4, g5⟩ := and_e g3
  obtain ⟨g6, g7⟩ := and_e g5
  obtain ⟨g8, g9⟩ := and_e g7
  obtain ⟨g10, g11⟩ := and_e g9
  obtain ⟨w0, w1, w2, w3, w4, rfl⟩ : ∃ w0 w1 w2 w3 w4 : Value, args = #[w0, w1, w2, w3, w4] := by
    have hs : args.size = 5 := by simpa [Cond.value, given_1] using g2
    obtain ⟨L⟩ := args
    match L, hs with
    | [w0, w1, w2, w3, w4], _ => exact ⟨w0, w1, w2, w3, w4, rfl⟩
  have hw := fun d (hd : d ∈ tables_1) => atoms_spec (ws := Jvm.Cond.code x code maxLocals ret :: tables_1) hat d (List.mem_cons_of_mem _ hd)
  obtain ⟨i0, ei0⟩ := is_v g4
  obtain rfl : w0 = (.int i0) := Option.some.inj ei0
  obtain ⟨i1, ei1⟩ := is_v g6
  obtain rfl : w1 = (.int i1) := Option.some.inj ei1
  obtain ⟨i2, ei2⟩ := is_v g8
  obtain rfl : w2 = (.int i2) := Option.some.inj ei2
  obtain ⟨i3, ei3⟩ := is_v g10
  obtain rfl : w3 = (.int i3) := Option.some.inj ei3
  obtain ⟨i4, ei4⟩ := is_v g11
  obtain rfl : w4 = (.int i4) := Option.some.inj ei4
  obtain ⟨n, o, h1, h2, h3, _, L, rfl, ⟨hv, N⟩, hq⟩ := rm0 l s _ hw tables_1 i0 i1 i2 i3 i4 s.heap s.heap.size (Nat.le_refl _)  p e ha hc hk s m _ below hf ((Spec.applies_iff_loose hf).mp happ).1 ⟨rfl, State.Warmed39.refl s, rfl⟩ trivial
  rw [own_plain] at hv
  subst hv
  refine ⟨n, _, h1, h2, h3, hpost _ _ _ _ _ _ ⟨Cond.after_iff.mpr rfl, Cond.after_iff.mpr (eq_i res_at (Term.int_eval (1)) rfl), trivial⟩ ⟨hq.1, hq.2.1, (hq.2.2.sift fun y hy => Or.inr (N y hy)).mono (by decide) (by decide)⟩⟩
theorem main_1_1 : Claimed_1_1 := comes_1 fun _ _ _ _ _ _ h hF => ⟨h.1, hF⟩
theorem main_1_2 : Claimed_1_2 := comes_1 fun _ _ _ _ _ _ h hF => ⟨h.2.1, hF⟩
end Jvm.Pilot.@@N@@
namespace Jvm.Pilot.@@N@@
open Jvm Jvm.ClassFile Sem Op Lib Jvm.Free Jvm.Stand Jvm.Pilot.@@N@@.Jvm.D
/-! MADE BY PROGRAM (witnessworld.py) out of the Statement's table words and the real class files: 18 classes; the members and pool entries that the words name. The judged class is class 1, her method 1. -/
namespace start1
open Jvm.ClassFile
def u (s : String) : CpInfo := .utf8 (stringToUtf16 s)
/-- a pool by its gaps: so many unusable entries, then the entry; so many at the end -/
def gap : Nat → List CpInfo → List CpInfo
  | 0, r => r
  | n + 1, r => .unusable :: gap n r
def poolList (es : List (Nat × CpInfo)) (last : Nat) : List CpInfo := es.foldr (fun e r => gap e.1 (e.2 :: r)) (gap last [])
def pool (es : List (Nat × CpInfo)) (last : Nat) : Array CpInfo := ⟨poolList es last⟩
def fileOf (pool : Array CpInfo) (this : Nat) (attrs : Array Attribute := #[]) (ms : Array MethodInfo := #[]) (fl : Nat := 33) (sup : Nat := 0) (ifs : Array Nat := #[]) (fds : Array FieldInfo := #[]) : ClassFile where
  minorVersion := 0
  majorVersion := 65
  constantPool := pool
  accessFlags := fl
  thisClass := this
  superClass := sup
  interfaces := ifs
  fields := fds
  methods := ms
  attributes := attrs
def plain (name : String) (sup : Option ClassId) : Class where
  name := name
  kind := .ordinary
  loader := none
  accessFlags := 33
  super := sup
  interfaces := #[]
  cf := none
  fields := #[]
  methods := #[]
  instanceTypes := #[]
  staticTypes := #[]
  resolved := #[]
  callSites := []
  init := .initialized
  statics := none
  mirror := none

def pool0 : Array CpInfo := pool [(5, u "<init>"), (0, u "()V"), (1, .class_ 10), (1, u "java/lang/Object")] 113

def k0c0 : Code := { maxStack := 0, maxLocals := 1, code := object_method_1_code, exceptionTable := #[], attributes := #[] }
def k0m0 : Method := { name := "<init>", desc := "()V", sig := { parameters := [], returnType := none }, accessFlags := 1, code := some k0c0 }
/-- java/lang/Object -/
def k0 : Class := { plain "java/lang/Object" none with
  accessFlags := 33
  interfaces := #[]
  cf := some (fileOf pool0 8 #[] #[{ accessFlags := 1, nameIndex := 5, descriptorIndex := 6, attributes := #[] }] 33 0 #[] #[])
  fields := #[]
  methods := #[k0m0]
  instanceTypes := #[]
  staticTypes := #[]
  resolved := Array.replicate 124 none
  statics := none }

def pool1 : Array CpInfo := pool [(2, .class_ 4), (0, .nameAndType 5 6), (0, u "java/lang/Object"), (0, u "<init>"), (0, u "()V"), (0, .integer 1073741823), (0, .class_ 9), (0, u "com/example/fanout4/fanout4/xdm/RecordedEvents"), (0, .methodref 8 3), (0, .methodref 8 12), (0, .nameAndType 13 6), (0, u "endTag"), (0, .methodref 8 15), (0, .nameAndType 16 17), (0, u "text"), (0, u "([CII)V"), (0, .methodref 8 19), (0, .nameAndType 20 21), (0, u "isFullFor"), (0, u "(II)Z"), (0, .class_ 23), (0, u "com/example/fanout4/fanout4/xdm/RecordedEventsIsFullForPinLaw"), (2, u "law"), (0, u "(IIIII)Z")] 5

def k1m0 : Method := { name := "<init>", desc := "()V", sig := { parameters := [], returnType := none }, accessFlags := 1, code := none }
def k1c1 : Code := { maxStack := 4, maxLocals := 15, code := code, exceptionTable := #[], attributes := #[] }
def k1m1 : Method := { name := "law", desc := "(IIIII)Z", sig := { parameters := [.int, .int, .int, .int, .int], returnType := some .boolean }, accessFlags := 9, code := some k1c1 }
/-- com/example/fanout4/fanout4/xdm/RecordedEventsIsFullForPinLaw -/
def k1 : Class := { plain "com/example/fanout4/fanout4/xdm/RecordedEventsIsFullForPinLaw" (some 0) with
  accessFlags := 49
  interfaces := #[]
  cf := some (fileOf pool1 22 #[] #[{ accessFlags := 1, nameIndex := 5, descriptorIndex := 6, attributes := #[] }, { accessFlags := 9, nameIndex := 26, descriptorIndex := 27, attributes := #[] }] 49 2 #[] #[])
  fields := #[]
  methods := #[k1m0, k1m1]
  instanceTypes := #[]
  staticTypes := #[]
  resolved := Array.replicate 33 none
  statics := none }

def pool2 : Array CpInfo := pool [(1, .methodref 2 3), (0, .class_ 4), (0, .nameAndType 5 6), (0, u "java/lang/Object"), (0, u "<init>"), (0, u "()V"), (0, .fieldref 8 9), (0, .class_ 10), (0, .nameAndType 11 12), (0, u "com/example/fanout4/fanout4/xdm/RecordedEvents"), (0, u "kinds"), (0, u "[B"), (0, .class_ 14), (0, u "java/lang/String"), (0, .fieldref 8 16), (0, .nameAndType 17 18), (0, u "strings"), (0, u "[Ljava/lang/String;"), (0, .fieldref 8 20), (0, .nameAndType 21 22), (0, u "numbers"), (0, u "[I"), (0, .fieldref 8 24), (0, .nameAndType 25 26), (0, u "characters"), (0, u "[C"), (0, .fieldref 8 28), (0, .nameAndType 29 30), (0, u "size"), (0, u "I"), (0, .fieldref 8 32), (0, .nameAndType 33 30), (0, u "characterCount"), (0, .methodref 8 35), (0, .nameAndType 36 37), (0, u "add"), (0, u "(B)I"), (0, .methodref 8 39), (0, .nameAndType 40 41), (0, u "addCharacters"), (0, u "(B[CII)V"), (12, .methodref 55 56), (0, .class_ 57), (0, .nameAndType 58 59), (0, u "java/lang/System"), (0, u "arraycopy"), (0, u "(Ljava/lang/Object;ILjava/lang/Object;II)V"), (8, u "([CII)V"), (10, u "NAMESPACE"), (0, u "B"), (2, u "START_TAG"), (1, u "ATTRIBUTE"), (1, u "END_TAG"), (1, u "TEXT"), (1, u "COMMENT"), (1, u "INSTRUCTION"), (1, u "MAX_EVENTS"), (1, u "MAX_CHARACTERS"), (1, u "STRINGS"), (0, u "NUMBERS"), (2, u "isFullFor"), (0, u "(II)Z"), (9, u "endTag"), (0, u "text")] 13

def k2c0 : Code := { maxStack := 3, maxLocals := 1, code := prog_62_method_1_code, exceptionTable := #[], attributes := #[] }
def k2m0 : Method := { name := "<init>", desc := "()V", sig := { parameters := [], returnType := none }, accessFlags := 0, code := some k2c0 }
def k2c1 : Code := { maxStack := 2, maxLocals := 3, code := prog_62_method_2_code, exceptionTable := #[], attributes := #[] }
def k2m1 : Method := { name := "isFullFor", desc := "(II)Z", sig := { parameters := [.int, .int], returnType := some .boolean }, accessFlags := 0, code := some k2c1 }
def k2c2 : Code := { maxStack := 2, maxLocals := 1, code := prog_62_method_8_code, exceptionTable := #[], attributes := #[] }
def k2m2 : Method := { name := "endTag", desc := "()V", sig := { parameters := [], returnType := none }, accessFlags := 0, code := some k2c2 }
def k2c3 : Code := { maxStack := 5, maxLocals := 4, code := prog_62_method_9_code, exceptionTable := #[], attributes := #[] }
def k2m3 : Method := { name := "text", desc := "([CII)V", sig := { parameters := [(.array .char), .int, .int], returnType := none }, accessFlags := 0, code := some k2c3 }
def k2c4 : Code := { maxStack := 5, maxLocals := 6, code := prog_62_method_12_code, exceptionTable := #[], attributes := #[] }
def k2m4 : Method := { name := "addCharacters", desc := "(B[CII)V", sig := { parameters := [.byte, (.array .char), .int, .int], returnType := none }, accessFlags := 2, code := some k2c4 }
def k2c5 : Code := { maxStack := 4, maxLocals := 2, code := prog_62_method_21_code, exceptionTable := #[], attributes := #[] }
def k2m5 : Method := { name := "add", desc := "(B)I", sig := { parameters := [.byte], returnType := some .int }, accessFlags := 2, code := some k2c5 }
/-- com/example/fanout4/fanout4/xdm/RecordedEvents -/
def k2 : Class := { plain "com/example/fanout4/fanout4/xdm/RecordedEvents" (some 0) with
  accessFlags := 32
  interfaces := #[]
  cf := some (fileOf pool2 8 #[] #[{ accessFlags := 0, nameIndex := 5, descriptorIndex := 6, attributes := #[] }, { accessFlags := 0, nameIndex := 103, descriptorIndex := 104, attributes := #[] }, { accessFlags := 0, nameIndex := 114, descriptorIndex := 6, attributes := #[] }, { accessFlags := 0, nameIndex := 115, descriptorIndex := 68, attributes := #[] }, { accessFlags := 2, nameIndex := 40, descriptorIndex := 41, attributes := #[] }, { accessFlags := 2, nameIndex := 36, descriptorIndex := 37, attributes := #[] }] 32 2 #[] #[{ accessFlags := 24, nameIndex := 79, descriptorIndex := 80, attributes := #[] }, { accessFlags := 24, nameIndex := 83, descriptorIndex := 80, attributes := #[] }, { accessFlags := 24, nameIndex := 85, descriptorIndex := 80, attributes := #[] }, { accessFlags := 24, nameIndex := 87, descriptorIndex := 80, attributes := #[] }, { accessFlags := 24, nameIndex := 89, descriptorIndex := 80, attributes := #[] }, { accessFlags := 24, nameIndex := 91, descriptorIndex := 80, attributes := #[] }, { accessFlags := 24, nameIndex := 93, descriptorIndex := 80, attributes := #[] }, { accessFlags := 26, nameIndex := 95, descriptorIndex := 30, attributes := #[] }, { accessFlags := 26, nameIndex := 97, descriptorIndex := 30, attributes := #[] }, { accessFlags := 26, nameIndex := 99, descriptorIndex := 30, attributes := #[] }, { accessFlags := 26, nameIndex := 100, descriptorIndex := 30, attributes := #[] }, { accessFlags := 2, nameIndex := 11, descriptorIndex := 12, attributes := #[] }, { accessFlags := 2, nameIndex := 17, descriptorIndex := 18, attributes := #[] }, { accessFlags := 2, nameIndex := 21, descriptorIndex := 22, attributes := #[] }, { accessFlags := 2, nameIndex := 29, descriptorIndex := 30, attributes := #[] }, { accessFlags := 2, nameIndex := 25, descriptorIndex := 26, attributes := #[] }, { accessFlags := 2, nameIndex := 33, descriptorIndex := 30, attributes := #[] }])
  fields := #[{ name := "NAMESPACE", type := .byte, accessFlags := 24, slot := 0, constantValue := 0 }, { name := "START_TAG", type := .byte, accessFlags := 24, slot := 1, constantValue := 0 }, { name := "ATTRIBUTE", type := .byte, accessFlags := 24, slot := 2, constantValue := 0 }, { name := "END_TAG", type := .byte, accessFlags := 24, slot := 3, constantValue := 0 }, { name := "TEXT", type := .byte, accessFlags := 24, slot := 4, constantValue := 0 }, { name := "COMMENT", type := .byte, accessFlags := 24, slot := 5, constantValue := 0 }, { name := "INSTRUCTION", type := .byte, accessFlags := 24, slot := 6, constantValue := 0 }, { name := "MAX_EVENTS", type := .int, accessFlags := 26, slot := 7, constantValue := 0 }, { name := "MAX_CHARACTERS", type := .int, accessFlags := 26, slot := 8, constantValue := 0 }, { name := "STRINGS", type := .int, accessFlags := 26, slot := 9, constantValue := 0 }, { name := "NUMBERS", type := .int, accessFlags := 26, slot := 10, constantValue := 0 }, { name := "kinds", type := (.array .byte), accessFlags := 2, slot := 0, constantValue := 0 }, { name := "strings", type := (.array (.object "java/lang/String")), accessFlags := 2, slot := 1, constantValue := 0 }, { name := "numbers", type := (.array .int), accessFlags := 2, slot := 2, constantValue := 0 }, { name := "size", type := .int, accessFlags := 2, slot := 3, constantValue := 0 }, { name := "characters", type := (.array .char), accessFlags := 2, slot := 4, constantValue := 0 }, { name := "characterCount", type := .int, accessFlags := 2, slot := 5, constantValue := 0 }]
  methods := #[k2m0, k2m1, k2m2, k2m3, k2m4, k2m5]
  instanceTypes := #[(.array .byte), (.array (.object "java/lang/String")), (.array .int), .int, (.array .char), .int]
  staticTypes := #[.byte, .byte, .byte, .byte, .byte, .byte, .byte, .int, .int, .int, .int]
  resolved := Array.replicate 129 none
  statics := none }

def pool3 : Array CpInfo := pool [(1, .class_ 2), (0, u "java/io/Serializable"), (0, .class_ 4), (0, u "java/lang/Object")] 2

/-- java/io/Serializable -/
def k3 : Class := { plain "java/io/Serializable" (some 0) with
  accessFlags := 1537
  interfaces := #[]
  cf := some (fileOf pool3 1 #[] #[] 1537 3 #[] #[])
  fields := #[]
  methods := #[]
  instanceTypes := #[]
  staticTypes := #[]
  resolved := Array.replicate 7 none
  statics := none }

def pool4 : Array CpInfo := pool [(1, .class_ 2), (0, u "java/lang/Comparable"), (0, .class_ 4), (0, u "java/lang/Object")] 7

/-- java/lang/Comparable -/
def k4 : Class := { plain "java/lang/Comparable" (some 0) with
  accessFlags := 1537
  interfaces := #[]
  cf := some (fileOf pool4 1 #[] #[] 1537 3 #[] #[])
  fields := #[]
  methods := #[]
  instanceTypes := #[]
  staticTypes := #[]
  resolved := Array.replicate 12 none
  statics := none }

def pool5 : Array CpInfo := pool [(2, .class_ 4), (1, u "java/lang/CharSequence"), (42, .class_ 48), (0, u "java/lang/CharSequence$1CodePointIterator"), (10, .class_ 60), (0, u "java/lang/CharSequence$1CharIterator"), (5, .class_ 67), (0, u "java/lang/Object")] 63

/-- java/lang/CharSequence -/
def k5 : Class := { plain "java/lang/CharSequence" (some 0) with
  accessFlags := 1537
  interfaces := #[]
  cf := some (fileOf pool5 2 #[.nestMembers #[47, 59]] #[] 1537 66 #[] #[])
  fields := #[]
  methods := #[]
  instanceTypes := #[]
  staticTypes := #[]
  resolved := Array.replicate 131 none
  statics := none }

def pool6 : Array CpInfo := pool [(1, .class_ 2), (0, u "java/lang/constant/Constable"), (0, .class_ 4), (0, u "java/lang/Object")] 6

/-- java/lang/constant/Constable -/
def k6 : Class := { plain "java/lang/constant/Constable" (some 0) with
  accessFlags := 1537
  interfaces := #[]
  cf := some (fileOf pool6 1 #[] #[] 1537 3 #[] #[])
  fields := #[]
  methods := #[]
  instanceTypes := #[]
  staticTypes := #[]
  resolved := Array.replicate 11 none
  statics := none }

def pool7 : Array CpInfo := pool [(1, .class_ 2), (0, u "java/lang/constant/ConstantDesc"), (0, .class_ 4), (0, u "java/lang/Object")] 32

/-- java/lang/constant/ConstantDesc -/
def k7 : Class := { plain "java/lang/constant/ConstantDesc" (some 0) with
  accessFlags := 1537
  interfaces := #[]
  cf := some (fileOf pool7 1 #[] #[] 1537 3 #[] #[])
  fields := #[]
  methods := #[]
  instanceTypes := #[]
  staticTypes := #[]
  resolved := Array.replicate 37 none
  statics := none }

def pool8 : Array CpInfo := pool [(2, .class_ 4), (1, u "java/lang/Object"), (0, u "<init>"), (0, u "()V"), (3, .class_ 12), (1, u "java/lang/String"), (0, u "value"), (0, u "[B"), (2, u "coder"), (0, u "B"), (2, u "hash"), (0, u "I"), (2, u "hashIsZero"), (0, u "Z"), (13, u "COMPACT_STRINGS"), (534, .class_ 576), (0, u "java/lang/CharSequence"), (22, u "CASE_INSENSITIVE_ORDER"), (0, u "Ljava/util/Comparator;"), (500, u "serialPersistentFields"), (0, u "[Ljava/io/ObjectStreamField;"), (0, .class_ 1104), (0, u "java/lang/String$CaseInsensitiveComparator"), (1, .class_ 1107), (0, u "java/io/Serializable"), (0, .class_ 1109), (0, u "java/lang/Comparable"), (0, .class_ 1111), (0, u "java/lang/constant/Constable"), (0, .class_ 1113), (0, u "java/lang/constant/ConstantDesc"), (2, u "serialVersionUID"), (0, u "J"), (3, u "REPL"), (0, u "C"), (2, u "LATIN1"), (1, u "UTF16")] 323

def k8m0 : Method := { name := "<init>", desc := "()V", sig := { parameters := [], returnType := none }, accessFlags := 1, code := none }
/-- java/lang/String -/
def k8 : Class := { plain "java/lang/String" (some 0) with
  accessFlags := 49
  interfaces := #[3, 4, 5, 6, 7]
  cf := some (fileOf pool8 10 #[.nestMembers #[1103]] #[{ accessFlags := 1, nameIndex := 5, descriptorIndex := 6, attributes := #[] }] 49 2 #[1106, 1108, 575, 1110, 1112] #[{ accessFlags := 18, nameIndex := 13, descriptorIndex := 14, attributes := #[] }, { accessFlags := 18, nameIndex := 17, descriptorIndex := 18, attributes := #[] }, { accessFlags := 2, nameIndex := 21, descriptorIndex := 22, attributes := #[] }, { accessFlags := 2, nameIndex := 25, descriptorIndex := 26, attributes := #[] }, { accessFlags := 26, nameIndex := 1116, descriptorIndex := 1117, attributes := #[] }, { accessFlags := 24, nameIndex := 40, descriptorIndex := 26, attributes := #[] }, { accessFlags := 26, nameIndex := 1101, descriptorIndex := 1102, attributes := #[] }, { accessFlags := 26, nameIndex := 1121, descriptorIndex := 1122, attributes := #[] }, { accessFlags := 25, nameIndex := 599, descriptorIndex := 600, attributes := #[] }, { accessFlags := 24, nameIndex := 1125, descriptorIndex := 18, attributes := #[] }, { accessFlags := 24, nameIndex := 1127, descriptorIndex := 18, attributes := #[] }])
  fields := #[{ name := "value", type := (.array .byte), accessFlags := 18, slot := 0, constantValue := 0 }, { name := "coder", type := .byte, accessFlags := 18, slot := 1, constantValue := 0 }, { name := "hash", type := .int, accessFlags := 2, slot := 2, constantValue := 0 }, { name := "hashIsZero", type := .boolean, accessFlags := 2, slot := 3, constantValue := 0 }, { name := "serialVersionUID", type := .long, accessFlags := 26, slot := 0, constantValue := 0 }, { name := "COMPACT_STRINGS", type := .boolean, accessFlags := 24, slot := 1, constantValue := 0 }, { name := "serialPersistentFields", type := (.array (.object "java/io/ObjectStreamField")), accessFlags := 26, slot := 2, constantValue := 0 }, { name := "REPL", type := .char, accessFlags := 26, slot := 3, constantValue := 0 }, { name := "CASE_INSENSITIVE_ORDER", type := (.object "java/util/Comparator"), accessFlags := 25, slot := 4, constantValue := 0 }, { name := "LATIN1", type := .byte, accessFlags := 24, slot := 5, constantValue := 0 }, { name := "UTF16", type := .byte, accessFlags := 24, slot := 6, constantValue := 0 }]
  methods := #[k8m0]
  instanceTypes := #[(.array .byte), .byte, .int, .boolean]
  staticTypes := #[.long, .boolean, (.array (.object "java/io/ObjectStreamField")), .char, (.object "java/util/Comparator"), .byte, .byte]
  resolved := Array.replicate 1451 none
  statics := none }

def pool9 : Array CpInfo := pool [(2, .class_ 4), (1, u "java/lang/Object"), (0, u "<init>"), (0, u "()V"), (1, .class_ 10), (1, u "java/lang/System"), (0, u "allowSecurityManager"), (0, u "I"), (16, u "cons"), (0, u "Ljava/io/Console;"), (77, .class_ 110), (1, u "java/lang/System$CallersHolder"), (43, u "initialErrStream"), (0, u "Ljava/io/PrintStream;"), (19, u "security"), (0, u "Ljava/lang/SecurityManager;"), (31, .class_ 209), (0, u "java/lang/System$1"), (7, u "props"), (0, u "Ljava/util/Properties;"), (2, u "lineSeparator"), (0, u "Ljava/lang/String;"), (96, .class_ 321), (1, u "java/lang/System$LoggerFinder"), (5, .class_ 328), (0, u "java/lang/System$Logger"), (67, u "err"), (2, u "out"), (91, u "notSupportedJnuEncoding"), (15, u "in"), (17, u "initialIn"), (0, u "Ljava/io/InputStream;"), (35, u "bootLayer"), (0, u "Ljava/lang/ModuleLayer;"), (99, .class_ 664), (0, u "java/lang/System$2"), (9, u "NEVER"), (2, u "MAYBE"), (49, u "arraycopy"), (0, u "(Ljava/lang/Object;ILjava/lang/Object;II)V"), (72, .class_ 802), (0, u "java/lang/System$Logger$Level")] 31

def k9m0 : Method := { name := "<init>", desc := "()V", sig := { parameters := [], returnType := none }, accessFlags := 2, code := none }
def k9m1 : Method := { name := "arraycopy", desc := "(Ljava/lang/Object;ILjava/lang/Object;II)V", sig := { parameters := [(.object "java/lang/Object"), .int, (.object "java/lang/Object"), .int, .int], returnType := none }, accessFlags := 265, code := none }
/-- java/lang/System -/
def k9 : Class := { plain "java/lang/System" (some 0) with
  accessFlags := 49
  interfaces := #[]
  cf := some (fileOf pool9 8 #[.nestMembers #[319, 327, 801, 108, 663, 208]] #[{ accessFlags := 2, nameIndex := 5, descriptorIndex := 6, attributes := #[] }, { accessFlags := 265, nameIndex := 727, descriptorIndex := 728, attributes := #[] }] 49 2 #[] #[{ accessFlags := 25, nameIndex := 507, descriptorIndex := 526, attributes := #[] }, { accessFlags := 25, nameIndex := 399, descriptorIndex := 155, attributes := #[] }, { accessFlags := 25, nameIndex := 396, descriptorIndex := 155, attributes := #[] }, { accessFlags := 10, nameIndex := 525, descriptorIndex := 526, attributes := #[] }, { accessFlags := 26, nameIndex := 674, descriptorIndex := 12, attributes := #[] }, { accessFlags := 26, nameIndex := 677, descriptorIndex := 12, attributes := #[] }, { accessFlags := 10, nameIndex := 11, descriptorIndex := 12, attributes := #[] }, { accessFlags := 74, nameIndex := 175, descriptorIndex := 176, attributes := #[] }, { accessFlags := 10, nameIndex := 491, descriptorIndex := 222, attributes := #[] }, { accessFlags := 74, nameIndex := 29, descriptorIndex := 30, attributes := #[] }, { accessFlags := 74, nameIndex := 154, descriptorIndex := 155, attributes := #[] }, { accessFlags := 10, nameIndex := 217, descriptorIndex := 218, attributes := #[] }, { accessFlags := 10, nameIndex := 221, descriptorIndex := 222, attributes := #[] }, { accessFlags := 8, nameIndex := 562, descriptorIndex := 563, attributes := #[] }])
  fields := #[{ name := "in", type := (.object "java/io/InputStream"), accessFlags := 25, slot := 0, constantValue := 0 }, { name := "out", type := (.object "java/io/PrintStream"), accessFlags := 25, slot := 1, constantValue := 0 }, { name := "err", type := (.object "java/io/PrintStream"), accessFlags := 25, slot := 2, constantValue := 0 }, { name := "initialIn", type := (.object "java/io/InputStream"), accessFlags := 10, slot := 3, constantValue := 0 }, { name := "NEVER", type := .int, accessFlags := 26, slot := 4, constantValue := 0 }, { name := "MAYBE", type := .int, accessFlags := 26, slot := 5, constantValue := 0 }, { name := "allowSecurityManager", type := .int, accessFlags := 10, slot := 6, constantValue := 0 }, { name := "security", type := (.object "java/lang/SecurityManager"), accessFlags := 74, slot := 7, constantValue := 0 }, { name := "notSupportedJnuEncoding", type := (.object "java/lang/String"), accessFlags := 10, slot := 8, constantValue := 0 }, { name := "cons", type := (.object "java/io/Console"), accessFlags := 74, slot := 9, constantValue := 0 }, { name := "initialErrStream", type := (.object "java/io/PrintStream"), accessFlags := 74, slot := 10, constantValue := 0 }, { name := "props", type := (.object "java/util/Properties"), accessFlags := 10, slot := 11, constantValue := 0 }, { name := "lineSeparator", type := (.object "java/lang/String"), accessFlags := 10, slot := 12, constantValue := 0 }, { name := "bootLayer", type := (.object "java/lang/ModuleLayer"), accessFlags := 8, slot := 13, constantValue := 0 }]
  methods := #[k9m0, k9m1]
  instanceTypes := #[]
  staticTypes := #[(.object "java/io/InputStream"), (.object "java/io/PrintStream"), (.object "java/io/PrintStream"), (.object "java/io/InputStream"), .int, .int, .int, (.object "java/lang/SecurityManager"), (.object "java/lang/String"), (.object "java/io/Console"), (.object "java/io/PrintStream"), (.object "java/util/Properties"), (.object "java/lang/String"), (.object "java/lang/ModuleLayer")]
  resolved := Array.replicate 834 none
  statics := none }

def pool10 : Array CpInfo := pool [(1, u "java/lang/Cloneable"), (0, .class_ 1), (0, u "java/lang/Object"), (0, .class_ 3)] 3

/-- java/lang/Cloneable -/
def k10 : Class := { plain "java/lang/Cloneable" (some 0) with
  accessFlags := 1537
  interfaces := #[]
  cf := some (fileOf pool10 2 #[] #[] 1537 4 #[] #[])
  fields := #[]
  methods := #[]
  instanceTypes := #[]
  staticTypes := #[]
  resolved := Array.replicate 8 none
  statics := none }

/-- the primitive byte -/
def k11 : Class := { plain "byte" none with kind := .primitive 'B', accessFlags := 0x411 }
/-- [B -/
def k12 : Class := { plain "[B" (some 0) with kind := .array 11 .byte, interfaces := #[10, 3], accessFlags := 1041 }

/-- the primitive char -/
def k13 : Class := { plain "char" none with kind := .primitive 'C', accessFlags := 0x411 }
/-- [C -/
def k14 : Class := { plain "[C" (some 0) with kind := .array 13 .char, interfaces := #[10, 3], accessFlags := 1041 }

/-- the primitive int -/
def k15 : Class := { plain "int" none with kind := .primitive 'I', accessFlags := 0x411 }
/-- [I -/
def k16 : Class := { plain "[I" (some 0) with kind := .array 15 .int, interfaces := #[10, 3], accessFlags := 1041 }

/-- [Ljava/lang/String; -/
def k17 : Class := { plain "[Ljava/lang/String;" (some 0) with kind := .array 8 (.object "java/lang/String"), interfaces := #[10, 3], accessFlags := 1041 }

def heap : Heap := #[]
def classes : Array Class := #[k0, k1, k2, k3, k4, k5, k6, k7, k8, k9, k10, k11, k12, k13, k14, k15, k16, k17]
def interned : List (Array UInt16 × Addr) := []
def slotsUsed : Nat := 0
def theMethod : MethodId := ⟨1, 1⟩
def args0 : Array Value := #[.int 5, .int 5, .int 5, .int 5, .int 5]
def aboutOver (below : List Frame) : State where
  vm := { classes := classes, interned := interned.toArray }
  heap := heap
  slotsUsed := slotsUsed
  threads := #[{ frames := .invoking theMethod args0 :: below }]
def below0 : List Frame := [.native { method := ⟨0, 0⟩, args := #[] }]
def about1 : State := aboutOver below0
def p0 : Program := .bare "" "" ""
def e0 : Env := launch0.env 0 0 0
theorem w_frames : about1.frames = Frame.invoking theMethod args0 :: below0 := rfl
set_option maxRecDepth 65536 in
theorem w_args : argsFit about1.vm theMethod args0 = true := by decide +kernel
set_option maxRecDepth 65536 in
theorem w_heap : heapFits about1 = true := by decide +kernel
set_option maxRecDepth 65536 in
theorem w_runnable : about1.curStatus? = some .runnable := by decide +kernel
set_option maxRecDepth 65536 in
theorem w_alone : about1.alone = true := by decide +kernel
set_option maxRecDepth 65536 in
theorem w_named : about1.methodNamed? x = some theMethod := by decide +kernel
set_option maxRecDepth 65536 in
theorem w_hears : about1.hears theMethod below0 = true := by decide +kernel
set_option maxRecDepth 65536 in
theorem w_ripe : about1.ripe theMethod args0 below0 = true := by decide +kernel
theorem w_running : about1.status = .running := rfl
set_option maxRecDepth 65536 in
theorem w_room : about1.hasRoom e0.platform room_1 = true :=
  launch0.hasRoom_least _ room_1 (by decide +kernel) (by decide +kernel) (by decide +kernel) (by decide +kernel) (by decide +kernel) (by decide +kernel)
theorem allAtoms_all (ts : List Jvm.Cond) (a : Array Jvm.Value) (st : Jvm.State) : (allAtoms ts).before a st = ts.all (fun c => c.before a st) := by
  induction ts with
  | nil => rfl
  | cons c t ih =>
    show (Jvm.Cond.and c (allAtoms t)).before a st = _
    rw [Jvm.Cond.before_and, ih, List.all_cons]
def words1 : List Jvm.Cond := Jvm.Cond.code x code maxLocals ret :: tables_1
/-- a 'code' word, met by the world's own term for the bytes: nothing is compared byte by byte -/
theorem code_word {y : MethodName} {bytes : ByteArray} {mx : Nat} {rt : Option FieldType} {a : Array Value} {s : State} {m : MethodId} {meth : Method} {c : Code} (h1 : s.methodNamed? y = some m) (h2 : s.vm.method? m = some meth) (h3 : meth.code = some c) (h4 : c.code = bytes)
    (h5 : (c.maxLocals == mx && c.exceptionTable.isEmpty && decide (c.maxStack ≤ mostOperands) && decide (meth.sig.returnType = rt) && !meth.locks && decide (parseMethodDescriptor y.desc = some meth.sig)) = true) : (Jvm.Cond.code y bytes mx rt).before a s = true := by
  simp only [Bool.and_eq_true, beq_iff_eq, Bool.not_eq_true', decide_eq_true_eq] at h5
  obtain ⟨⟨⟨⟨⟨g1, g2⟩, g3⟩, g4⟩, g5⟩, g6⟩ := h5
  simp [Cond.before, Cond.holds, Cond.value, h1, h2, h3, h4, g1, g2, g3, g4, g5, g6]
def isCode : Jvm.Cond → Bool
  | .code _ _ _ _ => true
  | _ => false
theorem all_split {L : List Jvm.Cond} {P : Jvm.Cond → Bool} (h1 : L.all (fun c => isCode c || P c) = true) (h2 : ∀ c ∈ L.filter isCode, P c = true) : L.all P = true := by
  refine List.all_eq_true.mpr fun c hc => ?_
  have h := List.all_eq_true.mp h1 c hc
  rcases Bool.eq_false_or_eq_true (isCode c) with hi | hi
  · exact h2 c (List.mem_filter.mpr ⟨hc, hi⟩)
  · simpa [hi] using h
set_option maxRecDepth 65536 in
theorem w_c0 : (Jvm.Cond.code x code maxLocals ret).before args0 about1 = true := code_word (m := ⟨1, 1⟩) (meth := k1m1) (c := k1c1) (by decide +kernel) rfl rfl rfl (by decide +kernel)
set_option maxRecDepth 65536 in
theorem w_c1 : (Jvm.Cond.code ({ cls := "com/example/fanout4/fanout4/xdm/RecordedEvents", name := "<init>", desc := "()V" } : Jvm.MethodName) prog_62_method_1_code (1 : Nat) (Option.none : Option Jvm.ClassFile.FieldType)).before args0 about1 = true := code_word (m := ⟨2, 0⟩) (meth := k2m0) (c := k2c0) (by decide +kernel) rfl rfl rfl (by decide +kernel)
set_option maxRecDepth 65536 in
theorem w_c2 : (Jvm.Cond.code ({ cls := "java/lang/Object", name := "<init>", desc := "()V" } : Jvm.MethodName) object_method_1_code (1 : Nat) (Option.none : Option Jvm.ClassFile.FieldType)).before args0 about1 = true := code_word (m := ⟨0, 0⟩) (meth := k0m0) (c := k0c0) (by decide +kernel) rfl rfl rfl (by decide +kernel)
set_option maxRecDepth 65536 in
theorem w_c3 : (Jvm.Cond.code ({ cls := "com/example/fanout4/fanout4/xdm/RecordedEvents", name := "text", desc := "([CII)V" } : Jvm.MethodName) prog_62_method_9_code (4 : Nat) (Option.none : Option Jvm.ClassFile.FieldType)).before args0 about1 = true := code_word (m := ⟨2, 3⟩) (meth := k2m3) (c := k2c3) (by decide +kernel) rfl rfl rfl (by decide +kernel)
set_option maxRecDepth 65536 in
theorem w_c4 : (Jvm.Cond.code ({ cls := "com/example/fanout4/fanout4/xdm/RecordedEvents", name := "addCharacters", desc := "(B[CII)V" } : Jvm.MethodName) prog_62_method_12_code (6 : Nat) (Option.none : Option Jvm.ClassFile.FieldType)).before args0 about1 = true := code_word (m := ⟨2, 4⟩) (meth := k2m4) (c := k2c4) (by decide +kernel) rfl rfl rfl (by decide +kernel)
set_option maxRecDepth 65536 in
theorem w_c5 : (Jvm.Cond.code ({ cls := "com/example/fanout4/fanout4/xdm/RecordedEvents", name := "add", desc := "(B)I" } : Jvm.MethodName) prog_62_method_21_code (2 : Nat) (Option.some Jvm.ClassFile.FieldType.int)).before args0 about1 = true := code_word (m := ⟨2, 5⟩) (meth := k2m5) (c := k2c5) (by decide +kernel) rfl rfl rfl (by decide +kernel)
set_option maxRecDepth 65536 in
theorem w_c6 : (Jvm.Cond.code ({ cls := "com/example/fanout4/fanout4/xdm/RecordedEvents", name := "isFullFor", desc := "(II)Z" } : Jvm.MethodName) prog_62_method_2_code (3 : Nat) (Option.some Jvm.ClassFile.FieldType.boolean)).before args0 about1 = true := code_word (m := ⟨2, 1⟩) (meth := k2m1) (c := k2c1) (by decide +kernel) rfl rfl rfl (by decide +kernel)
set_option maxRecDepth 65536 in
theorem w_c7 : (Jvm.Cond.code ({ cls := "com/example/fanout4/fanout4/xdm/RecordedEvents", name := "endTag", desc := "()V" } : Jvm.MethodName) prog_62_method_8_code (1 : Nat) (Option.none : Option Jvm.ClassFile.FieldType)).before args0 about1 = true := code_word (m := ⟨2, 2⟩) (meth := k2m2) (c := k2c2) (by decide +kernel) rfl rfl rfl (by decide +kernel)
def codes1 : List Jvm.Cond := [Jvm.Cond.code x code maxLocals ret, Jvm.Cond.code ({ cls := "com/example/fanout4/fanout4/xdm/RecordedEvents", name := "<init>", desc := "()V" } : Jvm.MethodName) prog_62_method_1_code (1 : Nat) (Option.none : Option Jvm.ClassFile.FieldType), Jvm.Cond.code ({ cls := "java/lang/Object", name := "<init>", desc := "()V" } : Jvm.MethodName) object_method_1_code (1 : Nat) (Option.none : Option Jvm.ClassFile.FieldType), Jvm.Cond.code ({ cls := "com/example/fanout4/fanout4/xdm/RecordedEvents", name := "text", desc := "([CII)V" } : Jvm.MethodName) prog_62_method_9_code (4 : Nat) (Option.none : Option Jvm.ClassFile.FieldType), Jvm.Cond.code ({ cls := "com/example/fanout4/fanout4/xdm/RecordedEvents", name := "addCharacters", desc := "(B[CII)V" } : Jvm.MethodName) prog_62_method_12_code (6 : Nat) (Option.none : Option Jvm.ClassFile.FieldType), Jvm.Cond.code ({ cls := "com/example/fanout4/fanout4/xdm/RecordedEvents", name := "add", desc := "(B)I" } : Jvm.MethodName) prog_62_method_21_code (2 : Nat) (Option.some Jvm.ClassFile.FieldType.int), Jvm.Cond.code ({ cls := "com/example/fanout4/fanout4/xdm/RecordedEvents", name := "isFullFor", desc := "(II)Z" } : Jvm.MethodName) prog_62_method_2_code (3 : Nat) (Option.some Jvm.ClassFile.FieldType.boolean), Jvm.Cond.code ({ cls := "com/example/fanout4/fanout4/xdm/RecordedEvents", name := "endTag", desc := "()V" } : Jvm.MethodName) prog_62_method_8_code (1 : Nat) (Option.none : Option Jvm.ClassFile.FieldType)]
set_option maxRecDepth 65536 in
theorem codes_eq : words1.filter isCode = codes1 := rfl
theorem w_codes : ∀ c ∈ words1.filter isCode, c.before args0 about1 = true := by
  rw [codes_eq]
  intro c hc
  simp only [codes1, List.mem_cons, List.not_mem_nil, or_false] at hc
  rcases hc with rfl | rfl | rfl | rfl | rfl | rfl | rfl | rfl
  · exact w_c0
  · exact w_c1
  · exact w_c2
  · exact w_c3
  · exact w_c4
  · exact w_c5
  · exact w_c6
  · exact w_c7
set_option maxRecDepth 65536 in
theorem w_t1 : (words1.take 24).all (fun c => isCode c || c.before args0 about1) = true := by decide +kernel
set_option maxRecDepth 65536 in
theorem w_t2 : ((words1.drop 24).take 24).all (fun c => isCode c || c.before args0 about1) = true := by decide +kernel
set_option maxRecDepth 65536 in
theorem w_t3 : ((words1.drop 24).drop 24).all (fun c => isCode c || c.before args0 about1) = true := by decide +kernel
theorem w_tables : (allAtoms (Jvm.Cond.code x code maxLocals ret :: tables_1)).before args0 about1 = true := by
  rw [allAtoms_all]
  show words1.all (fun c => c.before args0 about1) = true
  refine all_split ?_ w_codes
  rw [← List.take_append_drop 24 words1, List.all_append, w_t1, ← List.take_append_drop 24 (words1.drop 24), List.all_append, w_t2, w_t3]
  rfl
set_option maxRecDepth 65536 in
theorem w_case : (Jvm.Cond.and given_1 narrow_1).before args0 about1 = true := by decide +kernel
theorem w_applies : (headSpec (Jvm.Cond.code x code maxLocals ret :: tables_1) room_1).applies x e0.platform about1 = true :=
  (Spec.applies_iff w_frames).mpr ⟨w_running, w_runnable, w_alone, w_named, w_hears, w_ripe, w_room, w_tables⟩
theorem atStart : AtStart classFile x code maxLocals ret World_1 tables_1 room_1 Calls_1 rest_1 Pre_1 launch0 p0 e0 about1 theMethod args0 below0 :=
  ⟨lists_1, trivial, launch0.admits_env _ _ _, launch0.least_env, fairChoices_fair.cas, fairChoices_fair.clock, w_frames, w_args, w_heap, w_applies, trivial, trivial, w_case⟩
end start1
theorem witness_1 : WitnessClaimed_1 := ⟨start1.p0, start1.e0, start1.about1, start1.theMethod, start1.args0, start1.below0, start1.atStart⟩
end Jvm.Pilot.@@N@@
