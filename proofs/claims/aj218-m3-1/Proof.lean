import JvmDerived
import JvmDerived.Pilot.@@N@@Statement
import JvmDerived.Pilot.@@N@@Code
set_option linter.unusedVariables false
set_option linter.unusedSimpArgs false
@@BLOCK:NumsL.lean.txt@@
namespace Jvm.Pilot.@@N@@
open Jvm Jvm.ClassFile Sem Op Lib Jvm.Free Jvm.Stand Jvm.LawKit Jvm.RoadKit Bundle Jvm.Pilot.@@N@@.Jvm.D
def own_Goes (p : Program) (e : Env) (below : List Frame) (s : State) (Q : Option Value → Heap → List Loc → Prop) (ce sl : Nat) (A : State) : Prop :=
  ∃ s₂ o, Steps p.tables e below A s₂ ∧ s₂.status = .running ∧ Ended s₂ below o ∧ ∃ v L, o = .returned v ∧ Q v s₂.heap L ∧ FrameEnd s o s₂ L ce sl
theorem own_pre {p : Program} {e : Env} {below : List Frame} {s : State} {Q : Option Value → Heap → List Loc → Prop} {ce sl : Nat} {A B : State} (h : ∀ t, Steps p.tables e below A t → Steps p.tables e below B t) (G : own_Goes p e below s Q ce sl A) : own_Goes p e below s Q ce sl B := by
  obtain ⟨s₂, o, h1, r⟩ := G
  exact ⟨s₂, o, h _ h1, r⟩
theorem own_end {p : Program} {l : Launch} {e : Env} {R : Room} {s : State} {m : MethodId} {args : Array Value} {below : List Frame} {meth : Method} {c : Code} {T : State} {locs : List Loc} {cells slots : Nat} (X : Stand p l e R s m args below meth c T locs cells slots)
    {v : Option Value} {Q : Option Value → Heap → List Loc → Prop} {ce sl : Nat} {A : State} (hlocks : meth.locks = false) (hv : meth.sig.returnType = none → v = none)
    (hstep : ∀ fs, (∀ (f : JFrame) (acts : List Action), f.method = m → f.locked = none → f.entered = [] → (doReturn e (T.setTop f) acts v).1 = T.setFrames fs) → Steps p.tables e below A (T.setFrames fs))
    (hQ : Q v T.heap locs) (hc : cells ≤ ce) (hs : slots ≤ sl) : own_Goes p e below s Q ce sl A := by
  obtain ⟨fs, hr, hrun, hended, hW, hsame⟩ := X.leave hv hlocks
  exact ⟨_, _, hstep fs hr, hrun, hended, _, _, rfl, hQ, ⟨_, rfl⟩, hW, hsame.mono hc hs⟩
theorem own_lrem_eq (x y : Int64) : x - (x / y) * y = x % y := Int64.toInt_inj.mp (by rw [Jvm.Kit.i64_rem, Int64.toInt_mod])
theorem own_lrem {tb : Tables} [Ours tb] {e : Env} {below : List Frame} {T target : State} {m : MethodId} {c : Code} {g : JFrame} (h : At T m c below) (hx : tb.exec = Jvm.exec) (hg : g.method = m) {x y : Int64} {rest : List Value} (hd : decode c.code g.pc = .ok (.lrem, 1)) (hs : g.stack = .long y :: .long x :: rest) (hy : y ≠ 0)
    (hr : Steps tb e below (T.setTop { g with pc := g.pc + 1, stack := .long (x % y) :: rest }) target) : Steps tb e below (T.setTop g) target :=
  XS.lrem h hx hg hd hs hy (by rw [own_lrem_eq]; exact hr)
theorem own_h {a0 : Array Value} {Z : State} {L : List Jvm.Cond} (hw : ∀ d ∈ L, d.before a0 Z = true) (i : Nat) {d : Jvm.Cond} (h : L[i]? = some d) : d.before a0 Z = true := hw _ (List.mem_of_getElem? h)
abbrev own_In (j : Int32) (n : Nat) : Prop := 0 ≤ j.toInt ∧ j.toInt < (n : Int)
def own_at (xs : List Int32) (j : Int32) : Int32 := xs.getD j.toNatClampNeg 0
def own_atJ (xs : List Int64) (j : Int32) : Int64 := xs.getD j.toNatClampNeg 0
def own_len {α : Type} (xs : List α) : Int32 := xs.length.toInt32
theorem own_getD (xs : List Int32) (i : Nat) : (xs.map Value.int).getD i (.int 0) = .int (xs.getD i 0) := by
  simp only [List.getD_eq_getElem?_getD, List.getElem?_map]
  cases xs[i]? <;> rfl
theorem own_getDJ (xs : List Int64) (i : Nat) : (xs.map Value.long).getD i (.long 0) = .long (xs.getD i 0) := by
  simp only [List.getD_eq_getElem?_getD, List.getElem?_map]
  cases xs[i]? <;> rfl
theorem own_pad {ty : FieldType} {Z : State} {h : Heap} {a : Addr} {k : ClassId} {n : Int32} {dv : Value} (F : Arv Z h a k ty n [] dv) : Arv Z h a k ty n (List.replicate n.toNatClampNeg dv) dv := F.pad (pad_rep [] dv n.toNatClampNeg)
section OwnArr
variable {p : Program} {l : Launch} {e : Env} {R : Room} {s : State} {m : MethodId} {args : Array Value} {below : List Frame} {meth : Method} {c : Code} {T : State} {locs : List Loc} {cells slots : Nat} {Z : State} {h h' : Heap} {a b : Addr} {sl : Nat} {v d : Value} {ws : List Addr} {ty : FieldType} {vs : List Value}
def own_Arr (ty : FieldType) (d : Value) (Z : State) (h : Heap) (a : Addr) (vs : List Value) : Prop := ∃ k n, Arv Z h a k ty n vs d ∧ n.toNatClampNeg = vs.length
theorem own_Arr.ext (F : own_Arr ty d Z h a vs) (E : Ext h h') : own_Arr ty d Z h' a vs := by obtain ⟨k, n, A, r⟩ := F; exact ⟨k, n, A.ext E, r⟩
theorem own_Arr.other (F : own_Arr ty d Z h b vs) (W : Wr h h' a sl v) (q : b ≠ a) : own_Arr ty d Z h' b vs := by obtain ⟨k, n, A, r⟩ := F; exact ⟨k, n, A.other W q, r⟩
theorem own_Arr.keep (F : own_Arr ty d Z h a vs) (K : Keep h h' ws) (q : a ∉ ws) : own_Arr ty d Z h' a vs := by obtain ⟨k, n, A, r⟩ := F; exact ⟨k, n, A.keep K q, r⟩
theorem own_Arr.lt (F : own_Arr ty d Z h a vs) : a < h.size := by obtain ⟨k, n, A, r⟩ := F; exact A.lt
theorem own_inb {cl : Cell} {n j : Int32} {N : Nat} (S : cl.slots.size = n.toNatClampNeg) (q : n.toNatClampNeg = N) (hj : own_In j N) : ¬ (j < 0 ∨ cl.slots.size ≤ j.toNatClampNeg) := by
  rw [S, q]; obtain ⟨q1, q2⟩ := hj
  have e0 : (0 : Int32).toInt = 0 := rfl
  simp only [Int32.lt_iff_toInt_lt, Int32.toNatClampNeg, e0] at *; omega
theorem own_ixlt {j : Int32} {N : Nat} (hj : own_In j N) : j.toNatClampNeg < N := by obtain ⟨q1, q2⟩ := hj; simp only [Int32.toNatClampNeg]; omega
def own_Ints (Z : State) (h : Heap) (a : Addr) (xs : List Int32) : Prop := own_Arr .int (.int 0) Z h a (xs.map Value.int)
def own_Longs (Z : State) (h : Heap) (a : Addr) (xs : List Int64) : Prop := own_Arr .long (.long 0) Z h a (xs.map Value.long)
def own_Bytes (Z : State) (h : Heap) (a : Addr) (xs : List Int32) : Prop := own_Arr .byte (.int 0) Z h a (xs.map Value.int)
def own_Chars (Z : State) (h : Heap) (a : Addr) (xs : List Int32) : Prop := own_Arr .char (.int 0) Z h a (xs.map Value.int)
theorem own_Ints.ext {xs : List Int32} (F : own_Ints Z h a xs) (E : Ext h h') : own_Ints Z h' a xs := own_Arr.ext F E
theorem own_Ints.other {xs : List Int32} (F : own_Ints Z h b xs) (W : Wr h h' a sl v) (q : b ≠ a) : own_Ints Z h' b xs := own_Arr.other F W q
theorem own_Ints.keep {xs : List Int32} (F : own_Ints Z h a xs) (K : Keep h h' ws) (q : a ∉ ws) : own_Ints Z h' a xs := own_Arr.keep F K q
theorem own_Ints.lt {xs : List Int32} (F : own_Ints Z h a xs) : a < h.size := own_Arr.lt F
theorem own_newI {k : ClassId} {n : Int32} (A : Arr Z h a (newA k .int n) .int) (q : ¬ n < 0) : own_Ints Z h a (List.replicate n.toNatClampNeg 0) := by
  refine ⟨k, n, ?_, by simp⟩
  have := own_pad (Arv.new A q)
  rw [List.map_replicate]
  exact this
theorem own_iaload {target : State} (X : Stand p l e R s m args below meth c T locs cells slots) (hx : p.tables.exec = Jvm.exec) (hZ : Z.Warmed39 s.vm) (eT : T.heap = h) {xs : List Int32} {j : Int32} (F : own_Ints Z h a xs) (hj : own_In j xs.length) {g : JFrame} (hg : g.method = m) {rest : List Value} (hs : g.stack = .int j :: .ref a :: rest) (hd : decode c.code g.pc = .ok (.iaload, 1))
    (hr : Steps p.tables e below (T.setTop { g with pc := g.pc + 1, stack := .int (own_at xs j) :: rest }) target) : Steps p.tables e below (T.setTop g) target := by
  obtain ⟨k, n, ⟨cl, A, q1, S, q3, H, G⟩, q⟩ := F
  have hin := own_inb S q (by rw [List.length_map]; exact hj)
  exact X.iaload hx (j := j) (v := .int (own_at xs j)) (by rw [eT]; exact A.1) (State.isArrayOf_alike hZ.alike A.2.1) A.2.2 hin (H.at hin (own_getD xs _)) (g := g) hg hs hd _ hr
theorem own_arrlenI {target : State} (X : Stand p l e R s m args below meth c T locs cells slots) (hx : p.tables.exec = Jvm.exec) (hZ : Z.Warmed39 s.vm) (eT : T.heap = h) {xs : List Int32} (F : own_Ints Z h a xs) {g : JFrame} (hg : g.method = m) {rest : List Value} (hs : g.stack = .ref a :: rest) (hd : decode c.code g.pc = .ok (.arraylength, 1))
    (hr : Steps p.tables e below (T.setTop { g with pc := g.pc + 1, stack := .int (own_len xs) :: rest }) target) : Steps p.tables e below (T.setTop g) target := by
  obtain ⟨k, n, ⟨cl, A, q1, S, q3, H, G⟩, q⟩ := F
  refine X.arraylength hx (by rw [eT]; exact A.1) (State.isArrayOf_alike hZ.alike A.2.1) (g := g) hg hs hd _ ?_
  have e1 : cl.slots.size = xs.length := by rw [S, q, List.length_map]
  rw [e1]
  exact hr
theorem own_iastore (X : Stand p l e R s m args below meth c T locs cells slots) (hx : p.tables.exec = Jvm.exec) (hZ : Z.Warmed39 s.vm) (eT : T.heap = h) {xs : List Int32} {j : Int32} {x : Int32} (F : own_Ints Z h a xs) (hj : own_In j xs.length) {g : JFrame} (hg : g.method = m) {rest : List Value} (hs : g.stack = .int x :: .int j :: .ref a :: rest) (hd : decode c.code g.pc = .ok (.iastore, 1)) :
    ∃ T' h', Stand p l e R s m args below meth c T' (locs ++ [⟨a, j.toNatClampNeg⟩]) cells slots ∧ T'.heap = h' ∧ Wr h h' a j.toNatClampNeg (.int (x)) ∧ own_Ints Z h' a (xs.set j.toNatClampNeg (x)) ∧ ∀ target, Steps p.tables e below (T'.setTop { g with pc := g.pc + 1, stack := rest }) target → Steps p.tables e below (T.setTop g) target := by
  obtain ⟨k, n, ⟨cl, A, q1, S, q3, H, G⟩, q⟩ := F
  have hin := own_inb S q (by rw [List.length_map]; exact hj)
  obtain ⟨T', h', X', e', W, st⟩ := stI X hx hZ eT A (j := j) (x := x) hin (g := g) hg hs hd
  refine ⟨T', h', X', e', W, ⟨k, n, ?_, by rw [q]; simp⟩, st⟩
  rw [List.map_set]
  exact Arv.set A q1 S q3 H G rfl W _ rfl (by rw [List.length_map]; exact own_ixlt hj)
theorem own_Longs.ext {xs : List Int64} (F : own_Longs Z h a xs) (E : Ext h h') : own_Longs Z h' a xs := own_Arr.ext F E
theorem own_Longs.other {xs : List Int64} (F : own_Longs Z h b xs) (W : Wr h h' a sl v) (q : b ≠ a) : own_Longs Z h' b xs := own_Arr.other F W q
theorem own_Longs.keep {xs : List Int64} (F : own_Longs Z h a xs) (K : Keep h h' ws) (q : a ∉ ws) : own_Longs Z h' a xs := own_Arr.keep F K q
theorem own_Longs.lt {xs : List Int64} (F : own_Longs Z h a xs) : a < h.size := own_Arr.lt F
theorem own_newJ {k : ClassId} {n : Int32} (A : Arr Z h a (newA k .long n) .long) (q : ¬ n < 0) : own_Longs Z h a (List.replicate n.toNatClampNeg 0) := by
  refine ⟨k, n, ?_, by simp⟩
  have := own_pad (Arv.new A q)
  rw [List.map_replicate]
  exact this
theorem own_laload {target : State} (X : Stand p l e R s m args below meth c T locs cells slots) (hx : p.tables.exec = Jvm.exec) (hZ : Z.Warmed39 s.vm) (eT : T.heap = h) {xs : List Int64} {j : Int32} (F : own_Longs Z h a xs) (hj : own_In j xs.length) {g : JFrame} (hg : g.method = m) {rest : List Value} (hs : g.stack = .int j :: .ref a :: rest) (hd : decode c.code g.pc = .ok (.laload, 1))
    (hr : Steps p.tables e below (T.setTop { g with pc := g.pc + 1, stack := .long (own_atJ xs j) :: rest }) target) : Steps p.tables e below (T.setTop g) target := by
  obtain ⟨k, n, ⟨cl, A, q1, S, q3, H, G⟩, q⟩ := F
  have hin := own_inb S q (by rw [List.length_map]; exact hj)
  exact X.laload hx (j := j) (v := .long (own_atJ xs j)) (by rw [eT]; exact A.1) (State.isArrayOf_alike hZ.alike A.2.1) A.2.2 hin (H.at hin (own_getDJ xs _)) (g := g) hg hs hd _ hr
theorem own_arrlenJ {target : State} (X : Stand p l e R s m args below meth c T locs cells slots) (hx : p.tables.exec = Jvm.exec) (hZ : Z.Warmed39 s.vm) (eT : T.heap = h) {xs : List Int64} (F : own_Longs Z h a xs) {g : JFrame} (hg : g.method = m) {rest : List Value} (hs : g.stack = .ref a :: rest) (hd : decode c.code g.pc = .ok (.arraylength, 1))
    (hr : Steps p.tables e below (T.setTop { g with pc := g.pc + 1, stack := .int (own_len xs) :: rest }) target) : Steps p.tables e below (T.setTop g) target := by
  obtain ⟨k, n, ⟨cl, A, q1, S, q3, H, G⟩, q⟩ := F
  refine X.arraylength hx (by rw [eT]; exact A.1) (State.isArrayOf_alike hZ.alike A.2.1) (g := g) hg hs hd _ ?_
  have e1 : cl.slots.size = xs.length := by rw [S, q, List.length_map]
  rw [e1]
  exact hr
theorem own_lastore (X : Stand p l e R s m args below meth c T locs cells slots) (hx : p.tables.exec = Jvm.exec) (hZ : Z.Warmed39 s.vm) (eT : T.heap = h) {xs : List Int64} {j : Int32} {x : Int64} (F : own_Longs Z h a xs) (hj : own_In j xs.length) {g : JFrame} (hg : g.method = m) {rest : List Value} (hs : g.stack = .long x :: .int j :: .ref a :: rest) (hd : decode c.code g.pc = .ok (.lastore, 1)) :
    ∃ T' h', Stand p l e R s m args below meth c T' (locs ++ [⟨a, j.toNatClampNeg⟩]) cells slots ∧ T'.heap = h' ∧ Wr h h' a j.toNatClampNeg (.long (x)) ∧ own_Longs Z h' a (xs.set j.toNatClampNeg (x)) ∧ ∀ target, Steps p.tables e below (T'.setTop { g with pc := g.pc + 1, stack := rest }) target → Steps p.tables e below (T.setTop g) target := by
  obtain ⟨k, n, ⟨cl, A, q1, S, q3, H, G⟩, q⟩ := F
  have hin := own_inb S q (by rw [List.length_map]; exact hj)
  obtain ⟨T', h', X', e', W, st⟩ := stJ X hx hZ eT A (j := j) (x := x) hin (g := g) hg hs hd
  refine ⟨T', h', X', e', W, ⟨k, n, ?_, by rw [q]; simp⟩, st⟩
  rw [List.map_set]
  exact Arv.set A q1 S q3 H G rfl W _ rfl (by rw [List.length_map]; exact own_ixlt hj)
theorem own_Bytes.ext {xs : List Int32} (F : own_Bytes Z h a xs) (E : Ext h h') : own_Bytes Z h' a xs := own_Arr.ext F E
theorem own_Bytes.other {xs : List Int32} (F : own_Bytes Z h b xs) (W : Wr h h' a sl v) (q : b ≠ a) : own_Bytes Z h' b xs := own_Arr.other F W q
theorem own_Bytes.keep {xs : List Int32} (F : own_Bytes Z h a xs) (K : Keep h h' ws) (q : a ∉ ws) : own_Bytes Z h' a xs := own_Arr.keep F K q
theorem own_Bytes.lt {xs : List Int32} (F : own_Bytes Z h a xs) : a < h.size := own_Arr.lt F
theorem own_newB {k : ClassId} {n : Int32} (A : Arr Z h a (newA k .byte n) .byte) (q : ¬ n < 0) : own_Bytes Z h a (List.replicate n.toNatClampNeg 0) := by
  refine ⟨k, n, ?_, by simp⟩
  have := own_pad (Arv.new A q)
  rw [List.map_replicate]
  exact this
theorem own_baload {target : State} (X : Stand p l e R s m args below meth c T locs cells slots) (hx : p.tables.exec = Jvm.exec) (hZ : Z.Warmed39 s.vm) (eT : T.heap = h) {xs : List Int32} {j : Int32} (F : own_Bytes Z h a xs) (hj : own_In j xs.length) {g : JFrame} (hg : g.method = m) {rest : List Value} (hs : g.stack = .int j :: .ref a :: rest) (hd : decode c.code g.pc = .ok (.baload, 1))
    (hr : Steps p.tables e below (T.setTop { g with pc := g.pc + 1, stack := .int (own_at xs j) :: rest }) target) : Steps p.tables e below (T.setTop g) target := by
  obtain ⟨k, n, ⟨cl, A, q1, S, q3, H, G⟩, q⟩ := F
  have hin := own_inb S q (by rw [List.length_map]; exact hj)
  exact X.baloadBytes hx (j := j) (v := .int (own_at xs j)) (by rw [eT]; exact A.1) (State.isArrayOf_alike hZ.alike A.2.1) A.2.2 hin (H.at hin (own_getD xs _)) (g := g) hg hs hd _ hr
theorem own_arrlenB {target : State} (X : Stand p l e R s m args below meth c T locs cells slots) (hx : p.tables.exec = Jvm.exec) (hZ : Z.Warmed39 s.vm) (eT : T.heap = h) {xs : List Int32} (F : own_Bytes Z h a xs) {g : JFrame} (hg : g.method = m) {rest : List Value} (hs : g.stack = .ref a :: rest) (hd : decode c.code g.pc = .ok (.arraylength, 1))
    (hr : Steps p.tables e below (T.setTop { g with pc := g.pc + 1, stack := .int (own_len xs) :: rest }) target) : Steps p.tables e below (T.setTop g) target := by
  obtain ⟨k, n, ⟨cl, A, q1, S, q3, H, G⟩, q⟩ := F
  refine X.arraylength hx (by rw [eT]; exact A.1) (State.isArrayOf_alike hZ.alike A.2.1) (g := g) hg hs hd _ ?_
  have e1 : cl.slots.size = xs.length := by rw [S, q, List.length_map]
  rw [e1]
  exact hr
theorem own_bastore (X : Stand p l e R s m args below meth c T locs cells slots) (hx : p.tables.exec = Jvm.exec) (hZ : Z.Warmed39 s.vm) (eT : T.heap = h) {xs : List Int32} {j : Int32} {x : Int32} (F : own_Bytes Z h a xs) (hj : own_In j xs.length) {g : JFrame} (hg : g.method = m) {rest : List Value} (hs : g.stack = .int x :: .int j :: .ref a :: rest) (hd : decode c.code g.pc = .ok (.bastore, 1)) :
    ∃ T' h', Stand p l e R s m args below meth c T' (locs ++ [⟨a, j.toNatClampNeg⟩]) cells slots ∧ T'.heap = h' ∧ Wr h h' a j.toNatClampNeg (.int (x.toInt8.toInt32)) ∧ own_Bytes Z h' a (xs.set j.toNatClampNeg (x.toInt8.toInt32)) ∧ ∀ target, Steps p.tables e below (T'.setTop { g with pc := g.pc + 1, stack := rest }) target → Steps p.tables e below (T.setTop g) target := by
  obtain ⟨k, n, ⟨cl, A, q1, S, q3, H, G⟩, q⟩ := F
  have hin := own_inb S q (by rw [List.length_map]; exact hj)
  obtain ⟨T', h', X', e', W, st⟩ := stB X hx hZ eT A (j := j) (x := x) hin (g := g) hg hs hd
  refine ⟨T', h', X', e', W, ⟨k, n, ?_, by rw [q]; simp⟩, st⟩
  rw [List.map_set]
  exact Arv.set A q1 S q3 H G (fits_nar_byte x) W _ rfl (by rw [List.length_map]; exact own_ixlt hj)
theorem own_Chars.ext {xs : List Int32} (F : own_Chars Z h a xs) (E : Ext h h') : own_Chars Z h' a xs := own_Arr.ext F E
theorem own_Chars.other {xs : List Int32} (F : own_Chars Z h b xs) (W : Wr h h' a sl v) (q : b ≠ a) : own_Chars Z h' b xs := own_Arr.other F W q
theorem own_Chars.keep {xs : List Int32} (F : own_Chars Z h a xs) (K : Keep h h' ws) (q : a ∉ ws) : own_Chars Z h' a xs := own_Arr.keep F K q
theorem own_Chars.lt {xs : List Int32} (F : own_Chars Z h a xs) : a < h.size := own_Arr.lt F
theorem own_newC {k : ClassId} {n : Int32} (A : Arr Z h a (newA k .char n) .char) (q : ¬ n < 0) : own_Chars Z h a (List.replicate n.toNatClampNeg 0) := by
  refine ⟨k, n, ?_, by simp⟩
  have := own_pad (Arv.new A q)
  rw [List.map_replicate]
  exact this
theorem own_caload {target : State} (X : Stand p l e R s m args below meth c T locs cells slots) (hx : p.tables.exec = Jvm.exec) (hZ : Z.Warmed39 s.vm) (eT : T.heap = h) {xs : List Int32} {j : Int32} (F : own_Chars Z h a xs) (hj : own_In j xs.length) {g : JFrame} (hg : g.method = m) {rest : List Value} (hs : g.stack = .int j :: .ref a :: rest) (hd : decode c.code g.pc = .ok (.caload, 1))
    (hr : Steps p.tables e below (T.setTop { g with pc := g.pc + 1, stack := .int (own_at xs j) :: rest }) target) : Steps p.tables e below (T.setTop g) target := by
  obtain ⟨k, n, ⟨cl, A, q1, S, q3, H, G⟩, q⟩ := F
  have hin := own_inb S q (by rw [List.length_map]; exact hj)
  exact X.caload hx (j := j) (v := .int (own_at xs j)) (by rw [eT]; exact A.1) (State.isArrayOf_alike hZ.alike A.2.1) A.2.2 hin (H.at hin (own_getD xs _)) (g := g) hg hs hd _ hr
theorem own_arrlenC {target : State} (X : Stand p l e R s m args below meth c T locs cells slots) (hx : p.tables.exec = Jvm.exec) (hZ : Z.Warmed39 s.vm) (eT : T.heap = h) {xs : List Int32} (F : own_Chars Z h a xs) {g : JFrame} (hg : g.method = m) {rest : List Value} (hs : g.stack = .ref a :: rest) (hd : decode c.code g.pc = .ok (.arraylength, 1))
    (hr : Steps p.tables e below (T.setTop { g with pc := g.pc + 1, stack := .int (own_len xs) :: rest }) target) : Steps p.tables e below (T.setTop g) target := by
  obtain ⟨k, n, ⟨cl, A, q1, S, q3, H, G⟩, q⟩ := F
  refine X.arraylength hx (by rw [eT]; exact A.1) (State.isArrayOf_alike hZ.alike A.2.1) (g := g) hg hs hd _ ?_
  have e1 : cl.slots.size = xs.length := by rw [S, q, List.length_map]
  rw [e1]
  exact hr
theorem own_castore (X : Stand p l e R s m args below meth c T locs cells slots) (hx : p.tables.exec = Jvm.exec) (hZ : Z.Warmed39 s.vm) (eT : T.heap = h) {xs : List Int32} {j : Int32} {x : Int32} (F : own_Chars Z h a xs) (hj : own_In j xs.length) {g : JFrame} (hg : g.method = m) {rest : List Value} (hs : g.stack = .int x :: .int j :: .ref a :: rest) (hd : decode c.code g.pc = .ok (.castore, 1)) :
    ∃ T' h', Stand p l e R s m args below meth c T' (locs ++ [⟨a, j.toNatClampNeg⟩]) cells slots ∧ T'.heap = h' ∧ Wr h h' a j.toNatClampNeg (.int (x.toUInt32.toUInt16.toUInt32.toInt32)) ∧ own_Chars Z h' a (xs.set j.toNatClampNeg (x.toUInt32.toUInt16.toUInt32.toInt32)) ∧ ∀ target, Steps p.tables e below (T'.setTop { g with pc := g.pc + 1, stack := rest }) target → Steps p.tables e below (T.setTop g) target := by
  obtain ⟨k, n, ⟨cl, A, q1, S, q3, H, G⟩, q⟩ := F
  have hin := own_inb S q (by rw [List.length_map]; exact hj)
  obtain ⟨T', h', X', e', W, st⟩ := stC X hx hZ eT A (j := j) (x := x) hin (g := g) hg hs hd
  refine ⟨T', h', X', e', W, ⟨k, n, ?_, by rw [q]; simp⟩, st⟩
  rw [List.map_set]
  exact Arv.set A q1 S q3 H G (fits_nar_char x) W _ rfl (by rw [List.length_map]; exact own_ixlt hj)
end OwnArr
theorem own_lit {j : Int32} {n : Nat} (h : (decide (0 ≤ j.toInt) && decide (j.toInt < (n : Int))) = true) : own_In j n := by
  simp only [Bool.and_eq_true, decide_eq_true_eq] at h; exact h
theorem own_small {y : Int32} (h : y.toBitVec.toNat < 2 ^ 31) : y.toInt = (y.toBitVec.toNat : Int) := by
  show BitVec.toInt _ = _
  rw [BitVec.toInt_eq_toNat_of_lt]; omega
theorem own_nat {y : Int32} (h : 0 ≤ y.toInt) : y.toInt = (y.toBitVec.toNat : Int) := by
  apply own_small
  have h' : 0 ≤ y.toBitVec.toInt := h
  have := BitVec.toInt_eq_toNat_cond y.toBitVec
  have h2 := y.toBitVec.isLt
  split at this <;> omega
theorem own_c16 (x : Int32) : 0 ≤ (x.toUInt32.toUInt16.toUInt32.toInt32).toInt ∧ (x.toUInt32.toUInt16.toUInt32.toInt32).toInt < 65536 := by
  have e : (x.toUInt32.toUInt16.toUInt32.toInt32).toBitVec.toNat = x.toUInt32.toUInt16.toUInt32.toNat := rfl
  have h : x.toUInt32.toUInt16.toUInt32.toNat < 65536 := by rw [UInt16.toNat_toUInt32]; exact UInt16.toNat_lt _
  rw [own_small (by rw [e]; omega), e]; omega
theorem own_nor32 (n : Nat) : n ||| 32 = if n % 64 < 32 then n + 32 else n := by
  have hd : n = 2 ^ 6 * (n / 64) ||| (n % 64) := by rw [← Nat.two_pow_add_eq_or_of_lt (by omega)]; omega
  have key : ∀ r < 64, r ||| 32 = if r < 32 then r + 32 else r := by decide
  have hr := key (n % 64) (by omega)
  have h2 : n % 64 ||| 32 < 2 ^ 6 := by rw [hr]; split <;> omega
  have e : n ||| 32 = 2 ^ 6 * (n / 64) + (n % 64 ||| 32) := by
    rw [Nat.two_pow_add_eq_or_of_lt h2, ← Nat.or_assoc, ← hd]
  rw [e, hr]; split <;> omega
theorem own_or32 (c : Int32) (h0 : 0 ≤ c.toInt) (h1 : c.toInt < 65536) : (c ||| 32).toInt = if c.toInt % 64 < 32 then c.toInt + 32 else c.toInt := by
  have hn := own_nat h0
  have e1 : (c ||| 32).toBitVec.toNat = c.toBitVec.toNat ||| 32 := by
    rw [Int32.toBitVec_or, BitVec.toNat_or]; rfl
  have e2 := own_nor32 c.toBitVec.toNat
  have h3 : (c ||| 32).toBitVec.toNat < 2 ^ 31 := by rw [e1, e2]; split <;> omega
  rw [own_small h3, e1, e2, hn]
  split <;> split <;> omega
theorem own_pn0 : plainName "com/example/fanout4/fanout4/xdm/Whitespace" = true := by first | (simp [plainName, overriddenIn]; done) | decide +kernel
theorem d1_0 : decode prog_77_method_2_code 0 = .ok (.iload_n 0, 1) := by decide +kernel
theorem d1_1 : decode prog_77_method_2_code 1 = .ok (.bipush 32, 2) := by decide +kernel
theorem d1_3 : decode prog_77_method_2_code 3 = .ok (.if_icmp .eq 21, 3) := by decide +kernel
theorem d1_6 : decode prog_77_method_2_code 6 = .ok (.iload_n 0, 1) := by decide +kernel
theorem d1_7 : decode prog_77_method_2_code 7 = .ok (.bipush 9, 2) := by decide +kernel
theorem d1_9 : decode prog_77_method_2_code 9 = .ok (.if_icmp .eq 15, 3) := by decide +kernel
theorem d1_12 : decode prog_77_method_2_code 12 = .ok (.iload_n 0, 1) := by decide +kernel
theorem d1_13 : decode prog_77_method_2_code 13 = .ok (.bipush 13, 2) := by decide +kernel
theorem d1_15 : decode prog_77_method_2_code 15 = .ok (.if_icmp .eq 9, 3) := by decide +kernel
theorem d1_18 : decode prog_77_method_2_code 18 = .ok (.iload_n 0, 1) := by decide +kernel
theorem d1_19 : decode prog_77_method_2_code 19 = .ok (.bipush 10, 2) := by decide +kernel
theorem d1_21 : decode prog_77_method_2_code 21 = .ok (.if_icmp .ne 7, 3) := by decide +kernel
theorem d1_24 : decode prog_77_method_2_code 24 = .ok (.iconst 1, 1) := by decide +kernel
theorem d1_25 : decode prog_77_method_2_code 25 = .ok (.goto 4, 3) := by decide +kernel
theorem d1_28 : decode prog_77_method_2_code 28 = .ok (.iconst 0, 1) := by decide +kernel
theorem d1_29 : decode prog_77_method_2_code 29 = .ok (.ireturn, 1) := by decide +kernel
theorem ef1 (m : MethodId) (p0 : Int32) : entryFrame m #[(.int p0)] 1 = mkF m 0 #[iv p0] [] := by first | (simp [entryFrame, mkF, argsToLocals, Value.category]; done) | rfl
def f1 (p0 : Int32) : Int32 := (let w1_1 : Int32 := (if p0 = (32:Int32) then (1:Int32) else (if p0 = (9:Int32) then (1:Int32) else (if p0 = (13:Int32) then (1:Int32) else (if p0 = (10:Int32) then (1:Int32) else (0:Int32))))); (w1_1 &&& 1))
def Q1 (Z : State) (p0 : Int32)  (h0 : Heap) (n0 : Nat) (v : Option Value) (h : Heap) (L : List Loc) : Prop := v = some (.int (f1 p0)) ∧ Fr n0 L ∧ h = h0
set_option maxRecDepth 65536 in
set_option maxHeartbeats 40000000 in
theorem rm1 (l : Launch) (Z : State) (aZ : Array Value) (hw : ∀ d ∈ tables_1, d.before aZ Z = true) (ws : List Jvm.Cond) (p0 : Int32)  (h0 : Heap) (n0 : Nat) (Z0 : n0 ≤ h0.size)  :
    MetFree l (⟨"com/example/fanout4/fanout4/xdm/Whitespace", "isWhitespace", "(C)Z"⟩ : MethodName) (head1 (Jvm.Cond.code (⟨"com/example/fanout4/fanout4/xdm/Whitespace", "isWhitespace", "(C)Z"⟩ : MethodName) prog_77_method_2_code 1 (some .boolean) :: ws) ({ frames := 0, cells := 0, slots := 0, locals := 0 } : Room)) (fun a U => a = #[(.int p0)] ∧ Z.Warmed39 U.vm ∧ U.heap = h0) (fun _ _ _ _ _ => True) (fun _ U o U' => ∃ v L, o = .returned v ∧ Q1 Z p0 h0 n0 v U'.heap L ∧ FrameEnd U o U' L ({ frames := 0, cells := 0, slots := 0, locals := 0 } : Room).cells ({ frames := 0, cells := 0, slots := 0, locals := 0 } : Room).slots) := by
  refine MetFree.of_bodySF (plainFor_of_name own_pn0) hisR ?_
  intro p e s m args below meth c s₁ Bd hml0 hP hK
  obtain ⟨rfl, hZ, hh⟩ := hP
  have hx := Bd.exec
  have hby := Bd.bytes
  have hml : c.maxLocals = 1 := hml0
  have hown : s.vm.findClass "com/example/fanout4/fanout4/xdm/Whitespace" = some m.cls := findClass_of_methodNamed Bd.named
  have hnm := (name_of_methodNamed Bd.named Bd.method).1
  have X0 : Stand p l e ({ frames := 0, cells := 0, slots := 0, locals := 0 } : Room) s m #[(.int p0)] below meth c s₁ [] 0 0 := Stand.of_body Bd
  have e0 : s₁.heap = h0 := by rw [← hh, Bd.state]; rfl
  have N0 := Fr.nil n0
  show own_Goes p e below s (Q1 Z p0 h0 n0) ({ frames := 0, cells := 0, slots := 0, locals := 0 } : Room).cells ({ frames := 0, cells := 0, slots := 0, locals := 0 } : Room).slots _
  refine own_pre (fun t k => castTop (ef1 m p0) k) ?_
  refine own_pre (A := s₁.setTop (mkF m 3 #[iv p0] [(.int (32:Int32)), (.int p0)])) (fun t k => ?_) ?_
  · show Steps p.tables e below (s₁.setTop (mkF m 0 #[iv p0] [])) _
    refine XS.iloadN X0.here hx rfl (hb hby d1_0) rfl ?_
    show Steps p.tables e below (s₁.setTop (mkF m 1 #[iv p0] [(.int p0)])) _
    refine XS.bipush X0.here hx rfl (hb hby d1_1) ?_
    exact k
  obtain ⟨w1_1, hw1_1⟩ : ∃ z : Int32, z = (if p0 = (32:Int32) then (1:Int32) else (if p0 = (9:Int32) then (1:Int32) else (if p0 = (13:Int32) then (1:Int32) else (if p0 = (10:Int32) then (1:Int32) else (0:Int32))))) := ⟨_, rfl⟩
  refine own_pre (A := s₁.setTop (mkF m 29 #[iv p0] [(.int w1_1)])) (fun t k => ?_) ?_
  · show Steps p.tables e below (s₁.setTop (mkF m 3 #[iv p0] [(.int (32:Int32)), (.int p0)])) _
    by_cases hm3_1 : p0 = (32:Int32)
    · refine XS.icmpYes X0.here hx rfl (pc0 := 3) (pc' := 24) rfl (hb hby d1_3) rfl (XT.ii_eq_t hm3_1) (by decide) (by decide) ?_
      show Steps p.tables e below (s₁.setTop (mkF m 24 #[iv p0] [])) _
      refine XS.iconst X0.here hx rfl (hb hby d1_24) ?_
      show Steps p.tables e below (s₁.setTop (mkF m 25 #[iv p0] [(.int (1:Int32))])) _
      refine XS.goto X0.here hx rfl (pc0 := 25) (pc' := 29) rfl (hb hby d1_25) (by decide) (by decide) ?_
      rw [hw1_1.trans (if_pos hm3_1)] at k
      exact k
    · refine XS.icmpNo X0.here hx rfl (hb hby d1_3) rfl (XT.ii_eq_f hm3_1) ?_
      show Steps p.tables e below (s₁.setTop (mkF m 6 #[iv p0] [])) _
      refine XS.iloadN X0.here hx rfl (hb hby d1_6) rfl ?_
      show Steps p.tables e below (s₁.setTop (mkF m 7 #[iv p0] [(.int p0)])) _
      refine XS.bipush X0.here hx rfl (hb hby d1_7) ?_
      show Steps p.tables e below (s₁.setTop (mkF m 9 #[iv p0] [(.int (9:Int32)), (.int p0)])) _
      by_cases hm9_2 : p0 = (9:Int32)
      · refine XS.icmpYes X0.here hx rfl (pc0 := 9) (pc' := 24) rfl (hb hby d1_9) rfl (XT.ii_eq_t hm9_2) (by decide) (by decide) ?_
        show Steps p.tables e below (s₁.setTop (mkF m 24 #[iv p0] [])) _
        refine XS.iconst X0.here hx rfl (hb hby d1_24) ?_
        show Steps p.tables e below (s₁.setTop (mkF m 25 #[iv p0] [(.int (1:Int32))])) _
        refine XS.goto X0.here hx rfl (pc0 := 25) (pc' := 29) rfl (hb hby d1_25) (by decide) (by decide) ?_
        rw [hw1_1.trans ((if_neg hm3_1).trans (if_pos hm9_2))] at k
        exact k
      · refine XS.icmpNo X0.here hx rfl (hb hby d1_9) rfl (XT.ii_eq_f hm9_2) ?_
        show Steps p.tables e below (s₁.setTop (mkF m 12 #[iv p0] [])) _
        refine XS.iloadN X0.here hx rfl (hb hby d1_12) rfl ?_
        show Steps p.tables e below (s₁.setTop (mkF m 13 #[iv p0] [(.int p0)])) _
        refine XS.bipush X0.here hx rfl (hb hby d1_13) ?_
        show Steps p.tables e below (s₁.setTop (mkF m 15 #[iv p0] [(.int (13:Int32)), (.int p0)])) _
        by_cases hm15_3 : p0 = (13:Int32)
        · refine XS.icmpYes X0.here hx rfl (pc0 := 15) (pc' := 24) rfl (hb hby d1_15) rfl (XT.ii_eq_t hm15_3) (by decide) (by decide) ?_
          show Steps p.tables e below (s₁.setTop (mkF m 24 #[iv p0] [])) _
          refine XS.iconst X0.here hx rfl (hb hby d1_24) ?_
          show Steps p.tables e below (s₁.setTop (mkF m 25 #[iv p0] [(.int (1:Int32))])) _
          refine XS.goto X0.here hx rfl (pc0 := 25) (pc' := 29) rfl (hb hby d1_25) (by decide) (by decide) ?_
          rw [hw1_1.trans (((if_neg hm3_1).trans (if_neg hm9_2)).trans (if_pos hm15_3))] at k
          exact k
        · refine XS.icmpNo X0.here hx rfl (hb hby d1_15) rfl (XT.ii_eq_f hm15_3) ?_
          show Steps p.tables e below (s₁.setTop (mkF m 18 #[iv p0] [])) _
          refine XS.iloadN X0.here hx rfl (hb hby d1_18) rfl ?_
          show Steps p.tables e below (s₁.setTop (mkF m 19 #[iv p0] [(.int p0)])) _
          refine XS.bipush X0.here hx rfl (hb hby d1_19) ?_
          show Steps p.tables e below (s₁.setTop (mkF m 21 #[iv p0] [(.int (10:Int32)), (.int p0)])) _
          by_cases hm21_4 : p0 = (10:Int32)
          · refine XS.icmpNo X0.here hx rfl (hb hby d1_21) rfl (XT.ii_ne_f hm21_4) ?_
            show Steps p.tables e below (s₁.setTop (mkF m 24 #[iv p0] [])) _
            refine XS.iconst X0.here hx rfl (hb hby d1_24) ?_
            show Steps p.tables e below (s₁.setTop (mkF m 25 #[iv p0] [(.int (1:Int32))])) _
            refine XS.goto X0.here hx rfl (pc0 := 25) (pc' := 29) rfl (hb hby d1_25) (by decide) (by decide) ?_
            rw [hw1_1.trans ((((if_neg hm3_1).trans (if_neg hm9_2)).trans (if_neg hm15_3)).trans (if_pos hm21_4))] at k
            exact k
          · refine XS.icmpYes X0.here hx rfl (pc0 := 21) (pc' := 28) rfl (hb hby d1_21) rfl (XT.ii_ne_t hm21_4) (by decide) (by decide) ?_
            show Steps p.tables e below (s₁.setTop (mkF m 28 #[iv p0] [])) _
            refine XS.iconst X0.here hx rfl (hb hby d1_28) ?_
            rw [hw1_1.trans ((((if_neg hm3_1).trans (if_neg hm9_2)).trans (if_neg hm15_3)).trans (if_neg hm21_4))] at k
            exact k
  have hv1 : (w1_1 &&& 1) = f1 p0 := by subst hw1_1; rfl
  exact own_end X0 (BodyLoose.notSynchronized Bd) (fun h => by rw [Bd.returns] at h; cases h) (v := some (.int (w1_1 &&& 1))) (fun fs hr => retN X0 hx (t := .boolean) Bd.returns (by simp) (hb hby d1_29) hr) (by show Q1 Z p0 h0 n0 _ s₁.heap _; rw [e0]; exact ⟨(congrArg (fun z => some (Value.int z)) hv1), N0, rfl⟩) (by decide) (by decide)
theorem own_pn1 : plainName "com/example/fanout4/fanout4/xdm/WhitespaceIsWhitespacePinLaw" = true := by first | (simp [plainName, overriddenIn]; done) | decide +kernel
theorem d2_0 : decode method_2_code 0 = .ok (.iload_n 0, 1) := by decide +kernel
theorem d2_1 : decode method_2_code 1 = .ok (.istore_n 1, 1) := by decide +kernel
theorem d2_2 : decode method_2_code 2 = .ok (.iload_n 1, 1) := by decide +kernel
theorem d2_3 : decode method_2_code 3 = .ok (.bipush 32, 2) := by decide +kernel
theorem d2_5 : decode method_2_code 5 = .ok (.if_icmp .le 5, 3) := by decide +kernel
theorem d2_8 : decode method_2_code 8 = .ok (.iconst 0, 1) := by decide +kernel
theorem d2_9 : decode method_2_code 9 = .ok (.ireturn, 1) := by decide +kernel
theorem d2_10 : decode method_2_code 10 = .ok (.ldc2_w 7, 3) := by decide +kernel
theorem d2_13 : decode method_2_code 13 = .ok (.lstore_n 2, 1) := by decide +kernel
theorem d2_14 : decode method_2_code 14 = .ok (.lload_n 2, 1) := by decide +kernel
theorem d2_15 : decode method_2_code 15 = .ok (.iload_n 1, 1) := by decide +kernel
theorem d2_16 : decode method_2_code 16 = .ok (.lushr, 1) := by decide +kernel
theorem d2_17 : decode method_2_code 17 = .ok (.lconst 1, 1) := by decide +kernel
theorem d2_18 : decode method_2_code 18 = .ok (.land, 1) := by decide +kernel
theorem d2_19 : decode method_2_code 19 = .ok (.lconst 0, 1) := by decide +kernel
theorem d2_20 : decode method_2_code 20 = .ok (.lcmp, 1) := by decide +kernel
theorem d2_21 : decode method_2_code 21 = .ok (.ifCond .eq 7, 3) := by decide +kernel
theorem d2_24 : decode method_2_code 24 = .ok (.iconst 1, 1) := by decide +kernel
theorem d2_25 : decode method_2_code 25 = .ok (.goto 4, 3) := by decide +kernel
theorem d2_28 : decode method_2_code 28 = .ok (.iconst 0, 1) := by decide +kernel
theorem d2_29 : decode method_2_code 29 = .ok (.ireturn, 1) := by decide +kernel
theorem ef2 (m : MethodId) (p0 : Int32) : entryFrame m #[(.int p0)] 4 = mkF m 0 #[iv p0, .unset, .unset, .unset] [] := by first | (simp [entryFrame, mkF, argsToLocals, Value.category]; done) | rfl
def f2 (p0 : Int32) : Int32 := (if (32:Int32) < p0 then (0:Int32) else (let w2_1 : Int32 := (if ((((4294977024:Int64).toUInt64 >>> (p0 &&& 0x3f).toInt64.toUInt64).toInt64) &&& (1:Int64)) = (0:Int64) then (0:Int32) else (1:Int32)); (w2_1 &&& 1)))
def Q2 (Z : State) (p0 : Int32)  (h0 : Heap) (n0 : Nat) (v : Option Value) (h : Heap) (L : List Loc) : Prop := v = some (.int (f2 p0)) ∧ Fr n0 L ∧ h = h0
set_option maxRecDepth 65536 in
set_option maxHeartbeats 40000000 in
theorem rm2 (l : Launch) (Z : State) (aZ : Array Value) (hw : ∀ d ∈ tables_1, d.before aZ Z = true) (ws : List Jvm.Cond) (p0 : Int32)  (h0 : Heap) (n0 : Nat) (Z0 : n0 ≤ h0.size)  :
    MetFree l (⟨"com/example/fanout4/fanout4/xdm/WhitespaceIsWhitespacePinLaw", "reference", "(C)Z"⟩ : MethodName) (head1 (Jvm.Cond.code (⟨"com/example/fanout4/fanout4/xdm/WhitespaceIsWhitespacePinLaw", "reference", "(C)Z"⟩ : MethodName) method_2_code 4 (some .boolean) :: ws) ({ frames := 0, cells := 0, slots := 0, locals := 0 } : Room)) (fun a U => a = #[(.int p0)] ∧ Z.Warmed39 U.vm ∧ U.heap = h0) (fun _ _ _ _ _ => True) (fun _ U o U' => ∃ v L, o = .returned v ∧ Q2 Z p0 h0 n0 v U'.heap L ∧ FrameEnd U o U' L ({ frames := 0, cells := 0, slots := 0, locals := 0 } : Room).cells ({ frames := 0, cells := 0, slots := 0, locals := 0 } : Room).slots) := by
  refine MetFree.of_bodySF (plainFor_of_name own_pn1) hisR ?_
  intro p e s m args below meth c s₁ Bd hml0 hP hK
  obtain ⟨rfl, hZ, hh⟩ := hP
  have hx := Bd.exec
  have hby := Bd.bytes
  have hml : c.maxLocals = 4 := hml0
  have hown : s.vm.findClass "com/example/fanout4/fanout4/xdm/WhitespaceIsWhitespacePinLaw" = some m.cls := findClass_of_methodNamed Bd.named
  have hnm := (name_of_methodNamed Bd.named Bd.method).1
  have X0 : Stand p l e ({ frames := 0, cells := 0, slots := 0, locals := 0 } : Room) s m #[(.int p0)] below meth c s₁ [] 0 0 := Stand.of_body Bd
  have e0 : s₁.heap = h0 := by rw [← hh, Bd.state]; rfl
  have N0 := Fr.nil n0
  show own_Goes p e below s (Q2 Z p0 h0 n0) ({ frames := 0, cells := 0, slots := 0, locals := 0 } : Room).cells ({ frames := 0, cells := 0, slots := 0, locals := 0 } : Room).slots _
  refine own_pre (fun t k => castTop (ef2 m p0) k) ?_
  refine own_pre (A := s₁.setTop (mkF m 5 #[iv p0, iv p0, .unset, .unset] [(.int (32:Int32)), (.int p0)])) (fun t k => ?_) ?_
  · show Steps p.tables e below (s₁.setTop (mkF m 0 #[iv p0, .unset, .unset, .unset] [])) _
    refine XS.iloadN X0.here hx rfl (hb hby d2_0) rfl ?_
    show Steps p.tables e below (s₁.setTop (mkF m 1 #[iv p0, .unset, .unset, .unset] [(.int p0)])) _
    refine XS.istoreN X0.here hx rfl (hb hby d2_1) rfl (l' := #[iv p0, iv p0, .unset, .unset]) rfl ?_
    show Steps p.tables e below (s₁.setTop (mkF m 2 #[iv p0, iv p0, .unset, .unset] [])) _
    refine XS.iloadN X0.here hx rfl (hb hby d2_2) rfl ?_
    show Steps p.tables e below (s₁.setTop (mkF m 3 #[iv p0, iv p0, .unset, .unset] [(.int p0)])) _
    refine XS.bipush X0.here hx rfl (hb hby d2_3) ?_
    exact k
  by_cases hs5_1 : (32:Int32) < p0
  · refine own_pre (A := s₁.setTop (mkF m 9 #[iv p0, iv p0, .unset, .unset] [(.int (0:Int32))])) (fun t k => ?_) ?_
    · show Steps p.tables e below (s₁.setTop (mkF m 5 #[iv p0, iv p0, .unset, .unset] [(.int (32:Int32)), (.int p0)])) _
      refine XS.icmpNo X0.here hx rfl (hb hby d2_5) rfl (XT.ii_le_f hs5_1) ?_
      show Steps p.tables e below (s₁.setTop (mkF m 8 #[iv p0, iv p0, .unset, .unset] [])) _
      refine XS.iconst X0.here hx rfl (hb hby d2_8) ?_
      exact k
    have hv2 : (0:Int32) = f2 p0 := by simp only [f2, if_pos hs5_1]
    exact own_end X0 (BodyLoose.notSynchronized Bd) (fun h => by rw [Bd.returns] at h; cases h) (v := some (.int (0:Int32))) (fun fs hr => retN X0 hx (t := .boolean) Bd.returns (by simp) (hb hby d2_9) hr) (by show Q2 Z p0 h0 n0 _ s₁.heap _; rw [e0]; exact ⟨(congrArg (fun z => some (Value.int z)) hv2), N0, rfl⟩) (by decide) (by decide)
  · refine own_pre (A := s₁.setTop (mkF m 21 #[iv p0, iv p0, .val (.long (4294977024:Int64)), .second] [(.int (XT.cmpL ((((4294977024:Int64).toUInt64 >>> (p0 &&& 0x3f).toInt64.toUInt64).toInt64) &&& (1:Int64)) (0:Int64)))])) (fun t k => ?_) ?_
    · show Steps p.tables e below (s₁.setTop (mkF m 5 #[iv p0, iv p0, .unset, .unset] [(.int (32:Int32)), (.int p0)])) _
      refine XS.icmpYes X0.here hx rfl (pc0 := 5) (pc' := 10) rfl (hb hby d2_5) rfl (XT.ii_le_t hs5_1) (by decide) (by decide) ?_
      show Steps p.tables e below (s₁.setTop (mkF m 10 #[iv p0, iv p0, .unset, .unset] [])) _
      refine Jvm.Stand.ldc2J X0 hx hown (mvT hZ (own_h hw 10 rfl)) rfl (hb hby d2_10) ?_
      show Steps p.tables e below (s₁.setTop (mkF m 13 #[iv p0, iv p0, .unset, .unset] [(.long (4294977024:Int64))])) _
      refine XS.lstoreN X0.here hx rfl (hb hby d2_13) rfl (l' := #[iv p0, iv p0, .val (.long (4294977024:Int64)), .second]) rfl ?_
      show Steps p.tables e below (s₁.setTop (mkF m 14 #[iv p0, iv p0, .val (.long (4294977024:Int64)), .second] [])) _
      refine XS.lloadN X0.here hx rfl (hb hby d2_14) rfl ?_
      show Steps p.tables e below (s₁.setTop (mkF m 15 #[iv p0, iv p0, .val (.long (4294977024:Int64)), .second] [(.long (4294977024:Int64))])) _
      refine XS.iloadN X0.here hx rfl (hb hby d2_15) rfl ?_
      show Steps p.tables e below (s₁.setTop (mkF m 16 #[iv p0, iv p0, .val (.long (4294977024:Int64)), .second] [(.int p0), (.long (4294977024:Int64))])) _
      refine XS.lushr X0.here hx rfl (hb hby d2_16) rfl ?_
      show Steps p.tables e below (s₁.setTop (mkF m 17 #[iv p0, iv p0, .val (.long (4294977024:Int64)), .second] [(.long (((4294977024:Int64).toUInt64 >>> (p0 &&& 0x3f).toInt64.toUInt64).toInt64))])) _
      refine XS.lconst X0.here hx rfl (hb hby d2_17) ?_
      show Steps p.tables e below (s₁.setTop (mkF m 18 #[iv p0, iv p0, .val (.long (4294977024:Int64)), .second] [(.long (1:Int64)), (.long (((4294977024:Int64).toUInt64 >>> (p0 &&& 0x3f).toInt64.toUInt64).toInt64))])) _
      refine XS.land X0.here hx rfl (hb hby d2_18) rfl ?_
      show Steps p.tables e below (s₁.setTop (mkF m 19 #[iv p0, iv p0, .val (.long (4294977024:Int64)), .second] [(.long ((((4294977024:Int64).toUInt64 >>> (p0 &&& 0x3f).toInt64.toUInt64).toInt64) &&& (1:Int64)))])) _
      refine XS.lconst X0.here hx rfl (hb hby d2_19) ?_
      show Steps p.tables e below (s₁.setTop (mkF m 20 #[iv p0, iv p0, .val (.long (4294977024:Int64)), .second] [(.long (0:Int64)), (.long ((((4294977024:Int64).toUInt64 >>> (p0 &&& 0x3f).toInt64.toUInt64).toInt64) &&& (1:Int64)))])) _
      refine XT.lcmp X0.here hx rfl (hb hby d2_20) rfl ?_
      exact k
    obtain ⟨w2_1, hw2_1⟩ : ∃ z : Int32, z = (if ((((4294977024:Int64).toUInt64 >>> (p0 &&& 0x3f).toInt64.toUInt64).toInt64) &&& (1:Int64)) = (0:Int64) then (0:Int32) else (1:Int32)) := ⟨_, rfl⟩
    refine own_pre (A := s₁.setTop (mkF m 29 #[iv p0, iv p0, .val (.long (4294977024:Int64)), .second] [(.int w2_1)])) (fun t k => ?_) ?_
    · show Steps p.tables e below (s₁.setTop (mkF m 21 #[iv p0, iv p0, .val (.long (4294977024:Int64)), .second] [(.int (XT.cmpL ((((4294977024:Int64).toUInt64 >>> (p0 &&& 0x3f).toInt64.toUInt64).toInt64) &&& (1:Int64)) (0:Int64)))])) _
      by_cases hm21_2 : ((((4294977024:Int64).toUInt64 >>> (p0 &&& 0x3f).toInt64.toUInt64).toInt64) &&& (1:Int64)) = (0:Int64)
      · refine XS.ifYes X0.here hx rfl (pc0 := 21) (pc' := 28) rfl (hb hby d2_21) rfl (XT.ll_eq_t hm21_2) (by decide) (by decide) ?_
        show Steps p.tables e below (s₁.setTop (mkF m 28 #[iv p0, iv p0, .val (.long (4294977024:Int64)), .second] [])) _
        refine XS.iconst X0.here hx rfl (hb hby d2_28) ?_
        rw [hw2_1.trans (if_pos hm21_2)] at k
        exact k
      · refine XS.ifNo X0.here hx rfl (hb hby d2_21) rfl (XT.ll_eq_f hm21_2) ?_
        show Steps p.tables e below (s₁.setTop (mkF m 24 #[iv p0, iv p0, .val (.long (4294977024:Int64)), .second] [])) _
        refine XS.iconst X0.here hx rfl (hb hby d2_24) ?_
        show Steps p.tables e below (s₁.setTop (mkF m 25 #[iv p0, iv p0, .val (.long (4294977024:Int64)), .second] [(.int (1:Int32))])) _
        refine XS.goto X0.here hx rfl (pc0 := 25) (pc' := 29) rfl (hb hby d2_25) (by decide) (by decide) ?_
        rw [hw2_1.trans (if_neg hm21_2)] at k
        exact k
    have hv3 : (w2_1 &&& 1) = f2 p0 := by subst hw2_1; simp only [f2, if_neg hs5_1]
    exact own_end X0 (BodyLoose.notSynchronized Bd) (fun h => by rw [Bd.returns] at h; cases h) (v := some (.int (w2_1 &&& 1))) (fun fs hr => retN X0 hx (t := .boolean) Bd.returns (by simp) (hb hby d2_29) hr) (by show Q2 Z p0 h0 n0 _ s₁.heap _; rw [e0]; exact ⟨(congrArg (fun z => some (Value.int z)) hv3), N0, rfl⟩) (by decide) (by decide)
theorem own_m15 (p : Int32) : (p &&& (15:Int32)).toInt = p.toInt % 16 := Jvm.Kit.i32_mask p _ (k := 4) (by decide) (by decide)
theorem own_i15 (p : Int32) : own_In (p &&& (15:Int32)) 16 := by
  have h := own_m15 p
  show 0 ≤ _ ∧ _ < _
  rw [h]; omega
theorem own_pd0 : parseMethodDescriptor "(C)Z" = some ⟨[.char], some .boolean⟩ := by decide +kernel
theorem ef0 (m : MethodId) (p0 : Int32) (p1 : Int32) : entryFrame m #[(.int p0), (.int p1)] maxLocals = mkF m 0 #[iv p0, iv p1, .unset, .unset, .unset, .unset, .unset] [] := by first | (simp [entryFrame, mkF, argsToLocals, Value.category, maxLocals]; done) | rfl
def f0 (p0 : Int32) (p1 : Int32) : Int32 := (let w0_1 : Int32 := ((p0 &&& (65535:Int32)).toUInt32.toUInt16.toUInt32.toInt32); let w0_2 : Int32 := (own_at [(32:Int32), (9:Int32), (13:Int32), (10:Int32), (8:Int32), (11:Int32), (12:Int32), (14:Int32), (31:Int32), (33:Int32), (133:Int32), (160:Int32), (8232:Int32), (12288:Int32), (0:Int32), (65535:Int32)] (p1 &&& (15:Int32))); let w0_3 : Int32 := (if (f1 w0_1) = (f2 w0_1) then (1:Int32) else (0:Int32)); let w0_4 : Int32 := (if (f1 w0_2) = (f2 w0_2) then (1:Int32) else (0:Int32)); let w0_5 : Int32 := (if w0_3 = (0:Int32) then (0:Int32) else (if w0_4 = (0:Int32) then (0:Int32) else (1:Int32))); (w0_5 &&& 1))
def Q0 (Z : State) (p0 : Int32) (p1 : Int32)  (h0 : Heap) (n0 : Nat) (v : Option Value) (h : Heap) (L : List Loc) : Prop := v = some (.int (f0 p0 p1)) ∧ Fr n0 L
set_option maxRecDepth 65536 in
set_option maxHeartbeats 40000000 in
theorem rm0 (l : Launch) (Z : State) (aZ : Array Value) (hw : ∀ d ∈ tables_1, d.before aZ Z = true) (ws : List Jvm.Cond) (p0 : Int32) (p1 : Int32)  (h0 : Heap) (n0 : Nat) (Z0 : n0 ≤ h0.size)  :
    MetFree l x (head1 (Jvm.Cond.code x code maxLocals ret :: ws) room_1) (fun a U => a = #[(.int p0), (.int p1)] ∧ Z.Warmed39 U.vm ∧ U.heap = h0) (fun _ _ _ _ _ => True) (fun _ U o U' => ∃ v L, o = .returned v ∧ Q0 Z p0 p1 h0 n0 v U'.heap L ∧ FrameEnd U o U' L 1 16) := by
  refine MetFree.of_bodySF (plainFor_of_name own_pn1) hisR ?_
  intro p e s m args below meth c s₁ Bd hml0 hP hK
  obtain ⟨rfl, hZ, hh⟩ := hP
  have hx := Bd.exec
  have hby := Bd.bytes
  have hml : c.maxLocals = 7 := hml0
  have hown : s.vm.findClass "com/example/fanout4/fanout4/xdm/WhitespaceIsWhitespacePinLaw" = some m.cls := findClass_of_methodNamed Bd.named
  have hnm := (name_of_methodNamed Bd.named Bd.method).1
  have X0 : Stand p l e room_1 s m #[(.int p0), (.int p1)] below meth c s₁ [] 0 0 := Stand.of_body Bd
  have e0 : s₁.heap = h0 := by rw [← hh, Bd.state]; rfl
  have N0 := Fr.nil n0
  show own_Goes p e below s (Q0 Z p0 p1 h0 n0) 1 16 _
  refine own_pre (fun t k => castTop (ef0 m p0 p1) k) ?_
  obtain ⟨w0_1, hw0_1⟩ : ∃ z : Int32, z = ((p0 &&& (65535:Int32)).toUInt32.toUInt16.toUInt32.toInt32) := ⟨_, rfl⟩
  refine own_pre (A := s₁.setTop (mkF m 8 #[iv p0, iv p1, iv w0_1, .unset, .unset, .unset, .unset] [(.int (16:Int32))])) (fun t k => ?_) ?_
  · show Steps p.tables e below (s₁.setTop (mkF m 0 #[iv p0, iv p1, .unset, .unset, .unset, .unset, .unset] [])) _
    refine XS.iloadN X0.here hx rfl (hb hby at_0) rfl ?_
    show Steps p.tables e below (s₁.setTop (mkF m 1 #[iv p0, iv p1, .unset, .unset, .unset, .unset, .unset] [(.int p0)])) _
    refine Jvm.Stand.ldcI X0 hx hown (mvT hZ (own_h hw 0 rfl)) rfl (hb hby at_1) ?_
    show Steps p.tables e below (s₁.setTop (mkF m 3 #[iv p0, iv p1, .unset, .unset, .unset, .unset, .unset] [(.int (65535:Int32)), (.int p0)])) _
    refine XS.iand X0.here hx rfl (hb hby at_3) rfl ?_
    show Steps p.tables e below (s₁.setTop (mkF m 4 #[iv p0, iv p1, .unset, .unset, .unset, .unset, .unset] [(.int (p0 &&& (65535:Int32)))])) _
    refine XS.i2c X0.here hx rfl (hb hby at_4) rfl ?_
    show Steps p.tables e below (s₁.setTop (mkF m 5 #[iv p0, iv p1, .unset, .unset, .unset, .unset, .unset] [(.int ((p0 &&& (65535:Int32)).toUInt32.toUInt16.toUInt32.toInt32))])) _
    refine XS.istoreN X0.here hx rfl (hb hby at_5) rfl (l' := #[iv p0, iv p1, iv w0_1, .unset, .unset, .unset, .unset]) (by rw [hw0_1]; rfl) ?_
    show Steps p.tables e below (s₁.setTop (mkF m 6 #[iv p0, iv p1, iv w0_1, .unset, .unset, .unset, .unset] [])) _
    refine XS.bipush X0.here hx rfl (hb hby at_6) ?_
    exact k
  obtain ⟨T4, h4, k4, X4, e4, E4, A4, st4⟩ := newP X0 hx hZ (own_h hw 1 rfl) e0 (g := (mkF m 8 #[iv p0, iv p1, iv w0_1, .unset, .unset, .unset, .unset] [(.int (16:Int32))])) rfl (hb hby at_8) rfl (by decide) (cap := 16) (by decide) (by decide) (by decide) (by decide)
  obtain ⟨b4, g4⟩ : ∃ z, z = h0.size := ⟨_, rfl⟩
  rw [← g4] at A4 st4
  have ge_b4 : n0 ≤ b4 := Nat.le_trans Z0 (Nat.le_of_eq g4.symm)
  have Z5 : n0 ≤ h4.size := Nat.le_trans Z0 E4.1
  have V4 : own_Chars Z h4 b4 [(0:Int32), (0:Int32), (0:Int32), (0:Int32), (0:Int32), (0:Int32), (0:Int32), (0:Int32), (0:Int32), (0:Int32), (0:Int32), (0:Int32), (0:Int32), (0:Int32), (0:Int32), (0:Int32)] := own_newC A4 (by decide)
  refine own_pre st4 ?_
  refine own_pre (A := T4.setTop (mkF m 14 #[iv p0, iv p1, iv w0_1, .unset, .unset, .unset, .unset] [(.int (32:Int32)), (.int (0:Int32)), (.ref b4), (.ref b4)])) (fun t k => ?_) ?_
  · show Steps p.tables e below (T4.setTop (mkF m 10 #[iv p0, iv p1, iv w0_1, .unset, .unset, .unset, .unset] [(.ref b4)])) _
    refine XS.dup X4.here hx rfl (hb hby at_10) rfl rfl ?_
    show Steps p.tables e below (T4.setTop (mkF m 11 #[iv p0, iv p1, iv w0_1, .unset, .unset, .unset, .unset] [(.ref b4), (.ref b4)])) _
    refine XS.iconst X4.here hx rfl (hb hby at_11) ?_
    show Steps p.tables e below (T4.setTop (mkF m 12 #[iv p0, iv p1, iv w0_1, .unset, .unset, .unset, .unset] [(.int (0:Int32)), (.ref b4), (.ref b4)])) _
    refine XS.bipush X4.here hx rfl (hb hby at_12) ?_
    exact k
  have hbn7 : own_In (0:Int32) [(0:Int32), (0:Int32), (0:Int32), (0:Int32), (0:Int32), (0:Int32), (0:Int32), (0:Int32), (0:Int32), (0:Int32), (0:Int32), (0:Int32), (0:Int32), (0:Int32), (0:Int32), (0:Int32)].length := own_lit rfl
  obtain ⟨T6, h6, X6, e6, W6, V6, st6⟩ := own_castore X4 hx hZ e4 V4 (j := (0:Int32)) (x := (32:Int32)) hbn7 (g := (mkF m 14 #[iv p0, iv p1, iv w0_1, .unset, .unset, .unset, .unset] [(.int (32:Int32)), (.int (0:Int32)), (.ref b4), (.ref b4)])) rfl rfl (hb hby at_14)
  have Z8 : n0 ≤ h6.size := Nat.le_trans Z5 (Nat.le_of_eq W6.size.symm)
  have N6 := Fr.snoc X6 N0 ge_b4
  have Vw6 : own_Chars Z h6 b4 [(32:Int32), (0:Int32), (0:Int32), (0:Int32), (0:Int32), (0:Int32), (0:Int32), (0:Int32), (0:Int32), (0:Int32), (0:Int32), (0:Int32), (0:Int32), (0:Int32), (0:Int32), (0:Int32)] := V6
  refine own_pre st6 ?_
  refine own_pre (A := T6.setTop (mkF m 19 #[iv p0, iv p1, iv w0_1, .unset, .unset, .unset, .unset] [(.int (9:Int32)), (.int (1:Int32)), (.ref b4), (.ref b4)])) (fun t k => ?_) ?_
  · show Steps p.tables e below (T6.setTop (mkF m 15 #[iv p0, iv p1, iv w0_1, .unset, .unset, .unset, .unset] [(.ref b4)])) _
    refine XS.dup X6.here hx rfl (hb hby at_15) rfl rfl ?_
    show Steps p.tables e below (T6.setTop (mkF m 16 #[iv p0, iv p1, iv w0_1, .unset, .unset, .unset, .unset] [(.ref b4), (.ref b4)])) _
    refine XS.iconst X6.here hx rfl (hb hby at_16) ?_
    show Steps p.tables e below (T6.setTop (mkF m 17 #[iv p0, iv p1, iv w0_1, .unset, .unset, .unset, .unset] [(.int (1:Int32)), (.ref b4), (.ref b4)])) _
    refine XS.bipush X6.here hx rfl (hb hby at_17) ?_
    exact k
  have hbn10 : own_In (1:Int32) [(32:Int32), (0:Int32), (0:Int32), (0:Int32), (0:Int32), (0:Int32), (0:Int32), (0:Int32), (0:Int32), (0:Int32), (0:Int32), (0:Int32), (0:Int32), (0:Int32), (0:Int32), (0:Int32)].length := own_lit rfl
  obtain ⟨T9, h9, X9, e9, W9, V9, st9⟩ := own_castore X6 hx hZ e6 Vw6 (j := (1:Int32)) (x := (9:Int32)) hbn10 (g := (mkF m 19 #[iv p0, iv p1, iv w0_1, .unset, .unset, .unset, .unset] [(.int (9:Int32)), (.int (1:Int32)), (.ref b4), (.ref b4)])) rfl rfl (hb hby at_19)
  have Z11 : n0 ≤ h9.size := Nat.le_trans Z8 (Nat.le_of_eq W9.size.symm)
  have N9 := Fr.snoc X9 N6 ge_b4
  have Vw9 : own_Chars Z h9 b4 [(32:Int32), (9:Int32), (0:Int32), (0:Int32), (0:Int32), (0:Int32), (0:Int32), (0:Int32), (0:Int32), (0:Int32), (0:Int32), (0:Int32), (0:Int32), (0:Int32), (0:Int32), (0:Int32)] := V9
  refine own_pre st9 ?_
  refine own_pre (A := T9.setTop (mkF m 24 #[iv p0, iv p1, iv w0_1, .unset, .unset, .unset, .unset] [(.int (13:Int32)), (.int (2:Int32)), (.ref b4), (.ref b4)])) (fun t k => ?_) ?_
  · show Steps p.tables e below (T9.setTop (mkF m 20 #[iv p0, iv p1, iv w0_1, .unset, .unset, .unset, .unset] [(.ref b4)])) _
    refine XS.dup X9.here hx rfl (hb hby at_20) rfl rfl ?_
    show Steps p.tables e below (T9.setTop (mkF m 21 #[iv p0, iv p1, iv w0_1, .unset, .unset, .unset, .unset] [(.ref b4), (.ref b4)])) _
    refine XS.iconst X9.here hx rfl (hb hby at_21) ?_
    show Steps p.tables e below (T9.setTop (mkF m 22 #[iv p0, iv p1, iv w0_1, .unset, .unset, .unset, .unset] [(.int (2:Int32)), (.ref b4), (.ref b4)])) _
    refine XS.bipush X9.here hx rfl (hb hby at_22) ?_
    exact k
  have hbn13 : own_In (2:Int32) [(32:Int32), (9:Int32), (0:Int32), (0:Int32), (0:Int32), (0:Int32), (0:Int32), (0:Int32), (0:Int32), (0:Int32), (0:Int32), (0:Int32), (0:Int32), (0:Int32), (0:Int32), (0:Int32)].length := own_lit rfl
  obtain ⟨T12, h12, X12, e12, W12, V12, st12⟩ := own_castore X9 hx hZ e9 Vw9 (j := (2:Int32)) (x := (13:Int32)) hbn13 (g := (mkF m 24 #[iv p0, iv p1, iv w0_1, .unset, .unset, .unset, .unset] [(.int (13:Int32)), (.int (2:Int32)), (.ref b4), (.ref b4)])) rfl rfl (hb hby at_24)
  have Z14 : n0 ≤ h12.size := Nat.le_trans Z11 (Nat.le_of_eq W12.size.symm)
  have N12 := Fr.snoc X12 N9 ge_b4
  have Vw12 : own_Chars Z h12 b4 [(32:Int32), (9:Int32), (13:Int32), (0:Int32), (0:Int32), (0:Int32), (0:Int32), (0:Int32), (0:Int32), (0:Int32), (0:Int32), (0:Int32), (0:Int32), (0:Int32), (0:Int32), (0:Int32)] := V12
  refine own_pre st12 ?_
  refine own_pre (A := T12.setTop (mkF m 29 #[iv p0, iv p1, iv w0_1, .unset, .unset, .unset, .unset] [(.int (10:Int32)), (.int (3:Int32)), (.ref b4), (.ref b4)])) (fun t k => ?_) ?_
  · show Steps p.tables e below (T12.setTop (mkF m 25 #[iv p0, iv p1, iv w0_1, .unset, .unset, .unset, .unset] [(.ref b4)])) _
    refine XS.dup X12.here hx rfl (hb hby at_25) rfl rfl ?_
    show Steps p.tables e below (T12.setTop (mkF m 26 #[iv p0, iv p1, iv w0_1, .unset, .unset, .unset, .unset] [(.ref b4), (.ref b4)])) _
    refine XS.iconst X12.here hx rfl (hb hby at_26) ?_
    show Steps p.tables e below (T12.setTop (mkF m 27 #[iv p0, iv p1, iv w0_1, .unset, .unset, .unset, .unset] [(.int (3:Int32)), (.ref b4), (.ref b4)])) _
    refine XS.bipush X12.here hx rfl (hb hby at_27) ?_
    exact k
  have hbn16 : own_In (3:Int32) [(32:Int32), (9:Int32), (13:Int32), (0:Int32), (0:Int32), (0:Int32), (0:Int32), (0:Int32), (0:Int32), (0:Int32), (0:Int32), (0:Int32), (0:Int32), (0:Int32), (0:Int32), (0:Int32)].length := own_lit rfl
  obtain ⟨T15, h15, X15, e15, W15, V15, st15⟩ := own_castore X12 hx hZ e12 Vw12 (j := (3:Int32)) (x := (10:Int32)) hbn16 (g := (mkF m 29 #[iv p0, iv p1, iv w0_1, .unset, .unset, .unset, .unset] [(.int (10:Int32)), (.int (3:Int32)), (.ref b4), (.ref b4)])) rfl rfl (hb hby at_29)
  have Z17 : n0 ≤ h15.size := Nat.le_trans Z14 (Nat.le_of_eq W15.size.symm)
  have N15 := Fr.snoc X15 N12 ge_b4
  have Vw15 : own_Chars Z h15 b4 [(32:Int32), (9:Int32), (13:Int32), (10:Int32), (0:Int32), (0:Int32), (0:Int32), (0:Int32), (0:Int32), (0:Int32), (0:Int32), (0:Int32), (0:Int32), (0:Int32), (0:Int32), (0:Int32)] := V15
  refine own_pre st15 ?_
  refine own_pre (A := T15.setTop (mkF m 34 #[iv p0, iv p1, iv w0_1, .unset, .unset, .unset, .unset] [(.int (8:Int32)), (.int (4:Int32)), (.ref b4), (.ref b4)])) (fun t k => ?_) ?_
  · show Steps p.tables e below (T15.setTop (mkF m 30 #[iv p0, iv p1, iv w0_1, .unset, .unset, .unset, .unset] [(.ref b4)])) _
    refine XS.dup X15.here hx rfl (hb hby at_30) rfl rfl ?_
    show Steps p.tables e below (T15.setTop (mkF m 31 #[iv p0, iv p1, iv w0_1, .unset, .unset, .unset, .unset] [(.ref b4), (.ref b4)])) _
    refine XS.iconst X15.here hx rfl (hb hby at_31) ?_
    show Steps p.tables e below (T15.setTop (mkF m 32 #[iv p0, iv p1, iv w0_1, .unset, .unset, .unset, .unset] [(.int (4:Int32)), (.ref b4), (.ref b4)])) _
    refine XS.bipush X15.here hx rfl (hb hby at_32) ?_
    exact k
  have hbn19 : own_In (4:Int32) [(32:Int32), (9:Int32), (13:Int32), (10:Int32), (0:Int32), (0:Int32), (0:Int32), (0:Int32), (0:Int32), (0:Int32), (0:Int32), (0:Int32), (0:Int32), (0:Int32), (0:Int32), (0:Int32)].length := own_lit rfl
  obtain ⟨T18, h18, X18, e18, W18, V18, st18⟩ := own_castore X15 hx hZ e15 Vw15 (j := (4:Int32)) (x := (8:Int32)) hbn19 (g := (mkF m 34 #[iv p0, iv p1, iv w0_1, .unset, .unset, .unset, .unset] [(.int (8:Int32)), (.int (4:Int32)), (.ref b4), (.ref b4)])) rfl rfl (hb hby at_34)
  have Z20 : n0 ≤ h18.size := Nat.le_trans Z17 (Nat.le_of_eq W18.size.symm)
  have N18 := Fr.snoc X18 N15 ge_b4
  have Vw18 : own_Chars Z h18 b4 [(32:Int32), (9:Int32), (13:Int32), (10:Int32), (8:Int32), (0:Int32), (0:Int32), (0:Int32), (0:Int32), (0:Int32), (0:Int32), (0:Int32), (0:Int32), (0:Int32), (0:Int32), (0:Int32)] := V18
  refine own_pre st18 ?_
  refine own_pre (A := T18.setTop (mkF m 39 #[iv p0, iv p1, iv w0_1, .unset, .unset, .unset, .unset] [(.int (11:Int32)), (.int (5:Int32)), (.ref b4), (.ref b4)])) (fun t k => ?_) ?_
  · show Steps p.tables e below (T18.setTop (mkF m 35 #[iv p0, iv p1, iv w0_1, .unset, .unset, .unset, .unset] [(.ref b4)])) _
    refine XS.dup X18.here hx rfl (hb hby at_35) rfl rfl ?_
    show Steps p.tables e below (T18.setTop (mkF m 36 #[iv p0, iv p1, iv w0_1, .unset, .unset, .unset, .unset] [(.ref b4), (.ref b4)])) _
    refine XS.iconst X18.here hx rfl (hb hby at_36) ?_
    show Steps p.tables e below (T18.setTop (mkF m 37 #[iv p0, iv p1, iv w0_1, .unset, .unset, .unset, .unset] [(.int (5:Int32)), (.ref b4), (.ref b4)])) _
    refine XS.bipush X18.here hx rfl (hb hby at_37) ?_
    exact k
  have hbn22 : own_In (5:Int32) [(32:Int32), (9:Int32), (13:Int32), (10:Int32), (8:Int32), (0:Int32), (0:Int32), (0:Int32), (0:Int32), (0:Int32), (0:Int32), (0:Int32), (0:Int32), (0:Int32), (0:Int32), (0:Int32)].length := own_lit rfl
  obtain ⟨T21, h21, X21, e21, W21, V21, st21⟩ := own_castore X18 hx hZ e18 Vw18 (j := (5:Int32)) (x := (11:Int32)) hbn22 (g := (mkF m 39 #[iv p0, iv p1, iv w0_1, .unset, .unset, .unset, .unset] [(.int (11:Int32)), (.int (5:Int32)), (.ref b4), (.ref b4)])) rfl rfl (hb hby at_39)
  have Z23 : n0 ≤ h21.size := Nat.le_trans Z20 (Nat.le_of_eq W21.size.symm)
  have N21 := Fr.snoc X21 N18 ge_b4
  have Vw21 : own_Chars Z h21 b4 [(32:Int32), (9:Int32), (13:Int32), (10:Int32), (8:Int32), (11:Int32), (0:Int32), (0:Int32), (0:Int32), (0:Int32), (0:Int32), (0:Int32), (0:Int32), (0:Int32), (0:Int32), (0:Int32)] := V21
  refine own_pre st21 ?_
  refine own_pre (A := T21.setTop (mkF m 45 #[iv p0, iv p1, iv w0_1, .unset, .unset, .unset, .unset] [(.int (12:Int32)), (.int (6:Int32)), (.ref b4), (.ref b4)])) (fun t k => ?_) ?_
  · show Steps p.tables e below (T21.setTop (mkF m 40 #[iv p0, iv p1, iv w0_1, .unset, .unset, .unset, .unset] [(.ref b4)])) _
    refine XS.dup X21.here hx rfl (hb hby at_40) rfl rfl ?_
    show Steps p.tables e below (T21.setTop (mkF m 41 #[iv p0, iv p1, iv w0_1, .unset, .unset, .unset, .unset] [(.ref b4), (.ref b4)])) _
    refine XS.bipush X21.here hx rfl (hb hby at_41) ?_
    show Steps p.tables e below (T21.setTop (mkF m 43 #[iv p0, iv p1, iv w0_1, .unset, .unset, .unset, .unset] [(.int (6:Int32)), (.ref b4), (.ref b4)])) _
    refine XS.bipush X21.here hx rfl (hb hby at_43) ?_
    exact k
  have hbn25 : own_In (6:Int32) [(32:Int32), (9:Int32), (13:Int32), (10:Int32), (8:Int32), (11:Int32), (0:Int32), (0:Int32), (0:Int32), (0:Int32), (0:Int32), (0:Int32), (0:Int32), (0:Int32), (0:Int32), (0:Int32)].length := own_lit rfl
  obtain ⟨T24, h24, X24, e24, W24, V24, st24⟩ := own_castore X21 hx hZ e21 Vw21 (j := (6:Int32)) (x := (12:Int32)) hbn25 (g := (mkF m 45 #[iv p0, iv p1, iv w0_1, .unset, .unset, .unset, .unset] [(.int (12:Int32)), (.int (6:Int32)), (.ref b4), (.ref b4)])) rfl rfl (hb hby at_45)
  have Z26 : n0 ≤ h24.size := Nat.le_trans Z23 (Nat.le_of_eq W24.size.symm)
  have N24 := Fr.snoc X24 N21 ge_b4
  have Vw24 : own_Chars Z h24 b4 [(32:Int32), (9:Int32), (13:Int32), (10:Int32), (8:Int32), (11:Int32), (12:Int32), (0:Int32), (0:Int32), (0:Int32), (0:Int32), (0:Int32), (0:Int32), (0:Int32), (0:Int32), (0:Int32)] := V24
  refine own_pre st24 ?_
  refine own_pre (A := T24.setTop (mkF m 51 #[iv p0, iv p1, iv w0_1, .unset, .unset, .unset, .unset] [(.int (14:Int32)), (.int (7:Int32)), (.ref b4), (.ref b4)])) (fun t k => ?_) ?_
  · show Steps p.tables e below (T24.setTop (mkF m 46 #[iv p0, iv p1, iv w0_1, .unset, .unset, .unset, .unset] [(.ref b4)])) _
    refine XS.dup X24.here hx rfl (hb hby at_46) rfl rfl ?_
    show Steps p.tables e below (T24.setTop (mkF m 47 #[iv p0, iv p1, iv w0_1, .unset, .unset, .unset, .unset] [(.ref b4), (.ref b4)])) _
    refine XS.bipush X24.here hx rfl (hb hby at_47) ?_
    show Steps p.tables e below (T24.setTop (mkF m 49 #[iv p0, iv p1, iv w0_1, .unset, .unset, .unset, .unset] [(.int (7:Int32)), (.ref b4), (.ref b4)])) _
    refine XS.bipush X24.here hx rfl (hb hby at_49) ?_
    exact k
  have hbn28 : own_In (7:Int32) [(32:Int32), (9:Int32), (13:Int32), (10:Int32), (8:Int32), (11:Int32), (12:Int32), (0:Int32), (0:Int32), (0:Int32), (0:Int32), (0:Int32), (0:Int32), (0:Int32), (0:Int32), (0:Int32)].length := own_lit rfl
  obtain ⟨T27, h27, X27, e27, W27, V27, st27⟩ := own_castore X24 hx hZ e24 Vw24 (j := (7:Int32)) (x := (14:Int32)) hbn28 (g := (mkF m 51 #[iv p0, iv p1, iv w0_1, .unset, .unset, .unset, .unset] [(.int (14:Int32)), (.int (7:Int32)), (.ref b4), (.ref b4)])) rfl rfl (hb hby at_51)
  have Z29 : n0 ≤ h27.size := Nat.le_trans Z26 (Nat.le_of_eq W27.size.symm)
  have N27 := Fr.snoc X27 N24 ge_b4
  have Vw27 : own_Chars Z h27 b4 [(32:Int32), (9:Int32), (13:Int32), (10:Int32), (8:Int32), (11:Int32), (12:Int32), (14:Int32), (0:Int32), (0:Int32), (0:Int32), (0:Int32), (0:Int32), (0:Int32), (0:Int32), (0:Int32)] := V27
  refine own_pre st27 ?_
  refine own_pre (A := T27.setTop (mkF m 57 #[iv p0, iv p1, iv w0_1, .unset, .unset, .unset, .unset] [(.int (31:Int32)), (.int (8:Int32)), (.ref b4), (.ref b4)])) (fun t k => ?_) ?_
  · show Steps p.tables e below (T27.setTop (mkF m 52 #[iv p0, iv p1, iv w0_1, .unset, .unset, .unset, .unset] [(.ref b4)])) _
    refine XS.dup X27.here hx rfl (hb hby at_52) rfl rfl ?_
    show Steps p.tables e below (T27.setTop (mkF m 53 #[iv p0, iv p1, iv w0_1, .unset, .unset, .unset, .unset] [(.ref b4), (.ref b4)])) _
    refine XS.bipush X27.here hx rfl (hb hby at_53) ?_
    show Steps p.tables e below (T27.setTop (mkF m 55 #[iv p0, iv p1, iv w0_1, .unset, .unset, .unset, .unset] [(.int (8:Int32)), (.ref b4), (.ref b4)])) _
    refine XS.bipush X27.here hx rfl (hb hby at_55) ?_
    exact k
  have hbn31 : own_In (8:Int32) [(32:Int32), (9:Int32), (13:Int32), (10:Int32), (8:Int32), (11:Int32), (12:Int32), (14:Int32), (0:Int32), (0:Int32), (0:Int32), (0:Int32), (0:Int32), (0:Int32), (0:Int32), (0:Int32)].length := own_lit rfl
  obtain ⟨T30, h30, X30, e30, W30, V30, st30⟩ := own_castore X27 hx hZ e27 Vw27 (j := (8:Int32)) (x := (31:Int32)) hbn31 (g := (mkF m 57 #[iv p0, iv p1, iv w0_1, .unset, .unset, .unset, .unset] [(.int (31:Int32)), (.int (8:Int32)), (.ref b4), (.ref b4)])) rfl rfl (hb hby at_57)
  have Z32 : n0 ≤ h30.size := Nat.le_trans Z29 (Nat.le_of_eq W30.size.symm)
  have N30 := Fr.snoc X30 N27 ge_b4
  have Vw30 : own_Chars Z h30 b4 [(32:Int32), (9:Int32), (13:Int32), (10:Int32), (8:Int32), (11:Int32), (12:Int32), (14:Int32), (31:Int32), (0:Int32), (0:Int32), (0:Int32), (0:Int32), (0:Int32), (0:Int32), (0:Int32)] := V30
  refine own_pre st30 ?_
  refine own_pre (A := T30.setTop (mkF m 63 #[iv p0, iv p1, iv w0_1, .unset, .unset, .unset, .unset] [(.int (33:Int32)), (.int (9:Int32)), (.ref b4), (.ref b4)])) (fun t k => ?_) ?_
  · show Steps p.tables e below (T30.setTop (mkF m 58 #[iv p0, iv p1, iv w0_1, .unset, .unset, .unset, .unset] [(.ref b4)])) _
    refine XS.dup X30.here hx rfl (hb hby at_58) rfl rfl ?_
    show Steps p.tables e below (T30.setTop (mkF m 59 #[iv p0, iv p1, iv w0_1, .unset, .unset, .unset, .unset] [(.ref b4), (.ref b4)])) _
    refine XS.bipush X30.here hx rfl (hb hby at_59) ?_
    show Steps p.tables e below (T30.setTop (mkF m 61 #[iv p0, iv p1, iv w0_1, .unset, .unset, .unset, .unset] [(.int (9:Int32)), (.ref b4), (.ref b4)])) _
    refine XS.bipush X30.here hx rfl (hb hby at_61) ?_
    exact k
  have hbn34 : own_In (9:Int32) [(32:Int32), (9:Int32), (13:Int32), (10:Int32), (8:Int32), (11:Int32), (12:Int32), (14:Int32), (31:Int32), (0:Int32), (0:Int32), (0:Int32), (0:Int32), (0:Int32), (0:Int32), (0:Int32)].length := own_lit rfl
  obtain ⟨T33, h33, X33, e33, W33, V33, st33⟩ := own_castore X30 hx hZ e30 Vw30 (j := (9:Int32)) (x := (33:Int32)) hbn34 (g := (mkF m 63 #[iv p0, iv p1, iv w0_1, .unset, .unset, .unset, .unset] [(.int (33:Int32)), (.int (9:Int32)), (.ref b4), (.ref b4)])) rfl rfl (hb hby at_63)
  have Z35 : n0 ≤ h33.size := Nat.le_trans Z32 (Nat.le_of_eq W33.size.symm)
  have N33 := Fr.snoc X33 N30 ge_b4
  have Vw33 : own_Chars Z h33 b4 [(32:Int32), (9:Int32), (13:Int32), (10:Int32), (8:Int32), (11:Int32), (12:Int32), (14:Int32), (31:Int32), (33:Int32), (0:Int32), (0:Int32), (0:Int32), (0:Int32), (0:Int32), (0:Int32)] := V33
  refine own_pre st33 ?_
  refine own_pre (A := T33.setTop (mkF m 70 #[iv p0, iv p1, iv w0_1, .unset, .unset, .unset, .unset] [(.int (133:Int32)), (.int (10:Int32)), (.ref b4), (.ref b4)])) (fun t k => ?_) ?_
  · show Steps p.tables e below (T33.setTop (mkF m 64 #[iv p0, iv p1, iv w0_1, .unset, .unset, .unset, .unset] [(.ref b4)])) _
    refine XS.dup X33.here hx rfl (hb hby at_64) rfl rfl ?_
    show Steps p.tables e below (T33.setTop (mkF m 65 #[iv p0, iv p1, iv w0_1, .unset, .unset, .unset, .unset] [(.ref b4), (.ref b4)])) _
    refine XS.bipush X33.here hx rfl (hb hby at_65) ?_
    show Steps p.tables e below (T33.setTop (mkF m 67 #[iv p0, iv p1, iv w0_1, .unset, .unset, .unset, .unset] [(.int (10:Int32)), (.ref b4), (.ref b4)])) _
    refine XS.sipush X33.here hx rfl (hb hby at_67) ?_
    exact k
  have hbn37 : own_In (10:Int32) [(32:Int32), (9:Int32), (13:Int32), (10:Int32), (8:Int32), (11:Int32), (12:Int32), (14:Int32), (31:Int32), (33:Int32), (0:Int32), (0:Int32), (0:Int32), (0:Int32), (0:Int32), (0:Int32)].length := own_lit rfl
  obtain ⟨T36, h36, X36, e36, W36, V36, st36⟩ := own_castore X33 hx hZ e33 Vw33 (j := (10:Int32)) (x := (133:Int32)) hbn37 (g := (mkF m 70 #[iv p0, iv p1, iv w0_1, .unset, .unset, .unset, .unset] [(.int (133:Int32)), (.int (10:Int32)), (.ref b4), (.ref b4)])) rfl rfl (hb hby at_70)
  have Z38 : n0 ≤ h36.size := Nat.le_trans Z35 (Nat.le_of_eq W36.size.symm)
  have N36 := Fr.snoc X36 N33 ge_b4
  have Vw36 : own_Chars Z h36 b4 [(32:Int32), (9:Int32), (13:Int32), (10:Int32), (8:Int32), (11:Int32), (12:Int32), (14:Int32), (31:Int32), (33:Int32), (133:Int32), (0:Int32), (0:Int32), (0:Int32), (0:Int32), (0:Int32)] := V36
  refine own_pre st36 ?_
  refine own_pre (A := T36.setTop (mkF m 77 #[iv p0, iv p1, iv w0_1, .unset, .unset, .unset, .unset] [(.int (160:Int32)), (.int (11:Int32)), (.ref b4), (.ref b4)])) (fun t k => ?_) ?_
  · show Steps p.tables e below (T36.setTop (mkF m 71 #[iv p0, iv p1, iv w0_1, .unset, .unset, .unset, .unset] [(.ref b4)])) _
    refine XS.dup X36.here hx rfl (hb hby at_71) rfl rfl ?_
    show Steps p.tables e below (T36.setTop (mkF m 72 #[iv p0, iv p1, iv w0_1, .unset, .unset, .unset, .unset] [(.ref b4), (.ref b4)])) _
    refine XS.bipush X36.here hx rfl (hb hby at_72) ?_
    show Steps p.tables e below (T36.setTop (mkF m 74 #[iv p0, iv p1, iv w0_1, .unset, .unset, .unset, .unset] [(.int (11:Int32)), (.ref b4), (.ref b4)])) _
    refine XS.sipush X36.here hx rfl (hb hby at_74) ?_
    exact k
  have hbn40 : own_In (11:Int32) [(32:Int32), (9:Int32), (13:Int32), (10:Int32), (8:Int32), (11:Int32), (12:Int32), (14:Int32), (31:Int32), (33:Int32), (133:Int32), (0:Int32), (0:Int32), (0:Int32), (0:Int32), (0:Int32)].length := own_lit rfl
  obtain ⟨T39, h39, X39, e39, W39, V39, st39⟩ := own_castore X36 hx hZ e36 Vw36 (j := (11:Int32)) (x := (160:Int32)) hbn40 (g := (mkF m 77 #[iv p0, iv p1, iv w0_1, .unset, .unset, .unset, .unset] [(.int (160:Int32)), (.int (11:Int32)), (.ref b4), (.ref b4)])) rfl rfl (hb hby at_77)
  have Z41 : n0 ≤ h39.size := Nat.le_trans Z38 (Nat.le_of_eq W39.size.symm)
  have N39 := Fr.snoc X39 N36 ge_b4
  have Vw39 : own_Chars Z h39 b4 [(32:Int32), (9:Int32), (13:Int32), (10:Int32), (8:Int32), (11:Int32), (12:Int32), (14:Int32), (31:Int32), (33:Int32), (133:Int32), (160:Int32), (0:Int32), (0:Int32), (0:Int32), (0:Int32)] := V39
  refine own_pre st39 ?_
  refine own_pre (A := T39.setTop (mkF m 84 #[iv p0, iv p1, iv w0_1, .unset, .unset, .unset, .unset] [(.int (8232:Int32)), (.int (12:Int32)), (.ref b4), (.ref b4)])) (fun t k => ?_) ?_
  · show Steps p.tables e below (T39.setTop (mkF m 78 #[iv p0, iv p1, iv w0_1, .unset, .unset, .unset, .unset] [(.ref b4)])) _
    refine XS.dup X39.here hx rfl (hb hby at_78) rfl rfl ?_
    show Steps p.tables e below (T39.setTop (mkF m 79 #[iv p0, iv p1, iv w0_1, .unset, .unset, .unset, .unset] [(.ref b4), (.ref b4)])) _
    refine XS.bipush X39.here hx rfl (hb hby at_79) ?_
    show Steps p.tables e below (T39.setTop (mkF m 81 #[iv p0, iv p1, iv w0_1, .unset, .unset, .unset, .unset] [(.int (12:Int32)), (.ref b4), (.ref b4)])) _
    refine XS.sipush X39.here hx rfl (hb hby at_81) ?_
    exact k
  have hbn43 : own_In (12:Int32) [(32:Int32), (9:Int32), (13:Int32), (10:Int32), (8:Int32), (11:Int32), (12:Int32), (14:Int32), (31:Int32), (33:Int32), (133:Int32), (160:Int32), (0:Int32), (0:Int32), (0:Int32), (0:Int32)].length := own_lit rfl
  obtain ⟨T42, h42, X42, e42, W42, V42, st42⟩ := own_castore X39 hx hZ e39 Vw39 (j := (12:Int32)) (x := (8232:Int32)) hbn43 (g := (mkF m 84 #[iv p0, iv p1, iv w0_1, .unset, .unset, .unset, .unset] [(.int (8232:Int32)), (.int (12:Int32)), (.ref b4), (.ref b4)])) rfl rfl (hb hby at_84)
  have Z44 : n0 ≤ h42.size := Nat.le_trans Z41 (Nat.le_of_eq W42.size.symm)
  have N42 := Fr.snoc X42 N39 ge_b4
  have Vw42 : own_Chars Z h42 b4 [(32:Int32), (9:Int32), (13:Int32), (10:Int32), (8:Int32), (11:Int32), (12:Int32), (14:Int32), (31:Int32), (33:Int32), (133:Int32), (160:Int32), (8232:Int32), (0:Int32), (0:Int32), (0:Int32)] := V42
  refine own_pre st42 ?_
  refine own_pre (A := T42.setTop (mkF m 91 #[iv p0, iv p1, iv w0_1, .unset, .unset, .unset, .unset] [(.int (12288:Int32)), (.int (13:Int32)), (.ref b4), (.ref b4)])) (fun t k => ?_) ?_
  · show Steps p.tables e below (T42.setTop (mkF m 85 #[iv p0, iv p1, iv w0_1, .unset, .unset, .unset, .unset] [(.ref b4)])) _
    refine XS.dup X42.here hx rfl (hb hby at_85) rfl rfl ?_
    show Steps p.tables e below (T42.setTop (mkF m 86 #[iv p0, iv p1, iv w0_1, .unset, .unset, .unset, .unset] [(.ref b4), (.ref b4)])) _
    refine XS.bipush X42.here hx rfl (hb hby at_86) ?_
    show Steps p.tables e below (T42.setTop (mkF m 88 #[iv p0, iv p1, iv w0_1, .unset, .unset, .unset, .unset] [(.int (13:Int32)), (.ref b4), (.ref b4)])) _
    refine XS.sipush X42.here hx rfl (hb hby at_88) ?_
    exact k
  have hbn46 : own_In (13:Int32) [(32:Int32), (9:Int32), (13:Int32), (10:Int32), (8:Int32), (11:Int32), (12:Int32), (14:Int32), (31:Int32), (33:Int32), (133:Int32), (160:Int32), (8232:Int32), (0:Int32), (0:Int32), (0:Int32)].length := own_lit rfl
  obtain ⟨T45, h45, X45, e45, W45, V45, st45⟩ := own_castore X42 hx hZ e42 Vw42 (j := (13:Int32)) (x := (12288:Int32)) hbn46 (g := (mkF m 91 #[iv p0, iv p1, iv w0_1, .unset, .unset, .unset, .unset] [(.int (12288:Int32)), (.int (13:Int32)), (.ref b4), (.ref b4)])) rfl rfl (hb hby at_91)
  have Z47 : n0 ≤ h45.size := Nat.le_trans Z44 (Nat.le_of_eq W45.size.symm)
  have N45 := Fr.snoc X45 N42 ge_b4
  have Vw45 : own_Chars Z h45 b4 [(32:Int32), (9:Int32), (13:Int32), (10:Int32), (8:Int32), (11:Int32), (12:Int32), (14:Int32), (31:Int32), (33:Int32), (133:Int32), (160:Int32), (8232:Int32), (12288:Int32), (0:Int32), (0:Int32)] := V45
  refine own_pre st45 ?_
  refine own_pre (A := T45.setTop (mkF m 96 #[iv p0, iv p1, iv w0_1, .unset, .unset, .unset, .unset] [(.int (0:Int32)), (.int (14:Int32)), (.ref b4), (.ref b4)])) (fun t k => ?_) ?_
  · show Steps p.tables e below (T45.setTop (mkF m 92 #[iv p0, iv p1, iv w0_1, .unset, .unset, .unset, .unset] [(.ref b4)])) _
    refine XS.dup X45.here hx rfl (hb hby at_92) rfl rfl ?_
    show Steps p.tables e below (T45.setTop (mkF m 93 #[iv p0, iv p1, iv w0_1, .unset, .unset, .unset, .unset] [(.ref b4), (.ref b4)])) _
    refine XS.bipush X45.here hx rfl (hb hby at_93) ?_
    show Steps p.tables e below (T45.setTop (mkF m 95 #[iv p0, iv p1, iv w0_1, .unset, .unset, .unset, .unset] [(.int (14:Int32)), (.ref b4), (.ref b4)])) _
    refine XS.iconst X45.here hx rfl (hb hby at_95) ?_
    exact k
  have hbn49 : own_In (14:Int32) [(32:Int32), (9:Int32), (13:Int32), (10:Int32), (8:Int32), (11:Int32), (12:Int32), (14:Int32), (31:Int32), (33:Int32), (133:Int32), (160:Int32), (8232:Int32), (12288:Int32), (0:Int32), (0:Int32)].length := own_lit rfl
  obtain ⟨T48, h48, X48, e48, W48, V48, st48⟩ := own_castore X45 hx hZ e45 Vw45 (j := (14:Int32)) (x := (0:Int32)) hbn49 (g := (mkF m 96 #[iv p0, iv p1, iv w0_1, .unset, .unset, .unset, .unset] [(.int (0:Int32)), (.int (14:Int32)), (.ref b4), (.ref b4)])) rfl rfl (hb hby at_96)
  have Z50 : n0 ≤ h48.size := Nat.le_trans Z47 (Nat.le_of_eq W48.size.symm)
  have N48 := Fr.snoc X48 N45 ge_b4
  have Vw48 : own_Chars Z h48 b4 [(32:Int32), (9:Int32), (13:Int32), (10:Int32), (8:Int32), (11:Int32), (12:Int32), (14:Int32), (31:Int32), (33:Int32), (133:Int32), (160:Int32), (8232:Int32), (12288:Int32), (0:Int32), (0:Int32)] := V48
  refine own_pre st48 ?_
  refine own_pre (A := T48.setTop (mkF m 102 #[iv p0, iv p1, iv w0_1, .unset, .unset, .unset, .unset] [(.int (65535:Int32)), (.int (15:Int32)), (.ref b4), (.ref b4)])) (fun t k => ?_) ?_
  · show Steps p.tables e below (T48.setTop (mkF m 97 #[iv p0, iv p1, iv w0_1, .unset, .unset, .unset, .unset] [(.ref b4)])) _
    refine XS.dup X48.here hx rfl (hb hby at_97) rfl rfl ?_
    show Steps p.tables e below (T48.setTop (mkF m 98 #[iv p0, iv p1, iv w0_1, .unset, .unset, .unset, .unset] [(.ref b4), (.ref b4)])) _
    refine XS.bipush X48.here hx rfl (hb hby at_98) ?_
    show Steps p.tables e below (T48.setTop (mkF m 100 #[iv p0, iv p1, iv w0_1, .unset, .unset, .unset, .unset] [(.int (15:Int32)), (.ref b4), (.ref b4)])) _
    refine Jvm.Stand.ldcI X48 hx hown (mvT hZ (own_h hw 0 rfl)) rfl (hb hby at_100) ?_
    exact k
  have hbn52 : own_In (15:Int32) [(32:Int32), (9:Int32), (13:Int32), (10:Int32), (8:Int32), (11:Int32), (12:Int32), (14:Int32), (31:Int32), (33:Int32), (133:Int32), (160:Int32), (8232:Int32), (12288:Int32), (0:Int32), (0:Int32)].length := own_lit rfl
  obtain ⟨T51, h51, X51, e51, W51, V51, st51⟩ := own_castore X48 hx hZ e48 Vw48 (j := (15:Int32)) (x := (65535:Int32)) hbn52 (g := (mkF m 102 #[iv p0, iv p1, iv w0_1, .unset, .unset, .unset, .unset] [(.int (65535:Int32)), (.int (15:Int32)), (.ref b4), (.ref b4)])) rfl rfl (hb hby at_102)
  have Z53 : n0 ≤ h51.size := Nat.le_trans Z50 (Nat.le_of_eq W51.size.symm)
  have N51 := Fr.snoc X51 N48 ge_b4
  have Vw51 : own_Chars Z h51 b4 [(32:Int32), (9:Int32), (13:Int32), (10:Int32), (8:Int32), (11:Int32), (12:Int32), (14:Int32), (31:Int32), (33:Int32), (133:Int32), (160:Int32), (8232:Int32), (12288:Int32), (0:Int32), (65535:Int32)] := V51
  refine own_pre st51 ?_
  have hbn54 : own_In (p1 &&& (15:Int32)) [(32:Int32), (9:Int32), (13:Int32), (10:Int32), (8:Int32), (11:Int32), (12:Int32), (14:Int32), (31:Int32), (33:Int32), (133:Int32), (160:Int32), (8232:Int32), (12288:Int32), (0:Int32), (65535:Int32)].length := own_i15 p1
  obtain ⟨w0_2, hw0_2⟩ : ∃ z : Int32, z = (own_at [(32:Int32), (9:Int32), (13:Int32), (10:Int32), (8:Int32), (11:Int32), (12:Int32), (14:Int32), (31:Int32), (33:Int32), (133:Int32), (160:Int32), (8232:Int32), (12288:Int32), (0:Int32), (65535:Int32)] (p1 &&& (15:Int32))) := ⟨_, rfl⟩
  refine own_pre (A := T51.setTop (mkF m 113 #[iv p0, iv p1, iv w0_1, rv b4, iv w0_2, .unset, .unset] [(.int w0_1)])) (fun t k => ?_) ?_
  · show Steps p.tables e below (T51.setTop (mkF m 103 #[iv p0, iv p1, iv w0_1, .unset, .unset, .unset, .unset] [(.ref b4)])) _
    refine XS.astoreN X51.here hx rfl (hb hby at_103) rfl rfl (l' := #[iv p0, iv p1, iv w0_1, rv b4, .unset, .unset, .unset]) rfl ?_
    show Steps p.tables e below (T51.setTop (mkF m 104 #[iv p0, iv p1, iv w0_1, rv b4, .unset, .unset, .unset] [])) _
    refine XS.aloadN X51.here hx rfl (hb hby at_104) rfl rfl ?_
    show Steps p.tables e below (T51.setTop (mkF m 105 #[iv p0, iv p1, iv w0_1, rv b4, .unset, .unset, .unset] [(.ref b4)])) _
    refine XS.iloadN X51.here hx rfl (hb hby at_105) rfl ?_
    show Steps p.tables e below (T51.setTop (mkF m 106 #[iv p0, iv p1, iv w0_1, rv b4, .unset, .unset, .unset] [(.int p1), (.ref b4)])) _
    refine XS.bipush X51.here hx rfl (hb hby at_106) ?_
    show Steps p.tables e below (T51.setTop (mkF m 108 #[iv p0, iv p1, iv w0_1, rv b4, .unset, .unset, .unset] [(.int (15:Int32)), (.int p1), (.ref b4)])) _
    refine XS.iand X51.here hx rfl (hb hby at_108) rfl ?_
    show Steps p.tables e below (T51.setTop (mkF m 109 #[iv p0, iv p1, iv w0_1, rv b4, .unset, .unset, .unset] [(.int (p1 &&& (15:Int32))), (.ref b4)])) _
    refine own_caload X51 hx hZ e51 Vw51 hbn54 rfl rfl (hb hby at_109) ?_
    show Steps p.tables e below (T51.setTop (mkF m 110 #[iv p0, iv p1, iv w0_1, rv b4, .unset, .unset, .unset] [(.int (own_at [(32:Int32), (9:Int32), (13:Int32), (10:Int32), (8:Int32), (11:Int32), (12:Int32), (14:Int32), (31:Int32), (33:Int32), (133:Int32), (160:Int32), (8232:Int32), (12288:Int32), (0:Int32), (65535:Int32)] (p1 &&& (15:Int32))))])) _
    refine XS.istore X51.here hx rfl (hb hby at_110) rfl (l' := #[iv p0, iv p1, iv w0_1, rv b4, iv w0_2, .unset, .unset]) (by rw [hw0_2]; rfl) ?_
    show Steps p.tables e below (T51.setTop (mkF m 112 #[iv p0, iv p1, iv w0_1, rv b4, iv w0_2, .unset, .unset] [])) _
    refine XS.iloadN X51.here hx rfl (hb hby at_112) rfl ?_
    exact k
  obtain ⟨_, _, ⟨T55, L55, k55, n55⟩, -, X55, ⟨Lc55, hQ55, l55, y55, z55⟩, st55⟩ := Jvm.LawKit.callS X51 hx (y := (⟨"com/example/fanout4/fanout4/xdm/Whitespace", "isWhitespace", "(C)Z"⟩ : MethodName)) hown (mvT hZ (own_h hw 2 rfl)) (mvT hZ (own_h hw 3 rfl)) (mvT hZ (own_h hw 4 rfl)) (mvT hZ (own_h hw 5 rfl)) (by decide) (backOf (W := 0) (rm1 l Z aZ hw [] w0_1 h51 n0 Z53 ) hZ (own_h hw 5 rfl) (own_h hw 4 rfl) (by decide) (by decide)) (g := (mkF m 113 #[iv p0, iv p1, iv w0_1, rv b4, iv w0_2, .unset, .unset] [(.int w0_1)])) rfl (by rw [hml]; rfl) (argsL := [(.int w0_1)]) (rest := []) (lenOf own_pd0 rfl) rfl (by show 2 * 0 + _ ≤ _; exact Nat.le_of_eq rfl) (hb hby at_113) (fun _ _ => ⟨rfl, e51, (by decide : 1 + 0 ≤ _), (by decide : 16 + 0 ≤ _)⟩)
  dsimp only [Pt.U, Pt.locs, Pt.cells, Pt.slots] at X55 l55 y55 z55 st55 hQ55
  subst l55 y55 z55
  obtain ⟨rfl, N55q, eh55⟩ := hQ55
  have N55 := Fr.app N51 N55q
  refine own_pre st55 ?_
  refine own_pre (A := T55.setTop (mkF m 117 #[iv p0, iv p1, iv w0_1, rv b4, iv w0_2, .unset, .unset] [(.int w0_1), (.int (f1 w0_1))])) (fun t k => ?_) ?_
  · show Steps p.tables e below (T55.setTop (mkF m 116 #[iv p0, iv p1, iv w0_1, rv b4, iv w0_2, .unset, .unset] [(.int (f1 w0_1))])) _
    refine XS.iloadN X55.here hx rfl (hb hby at_116) rfl ?_
    exact k
  obtain ⟨_, _, ⟨T56, L56, k56, n56⟩, -, X56, ⟨Lc56, hQ56, l56, y56, z56⟩, st56⟩ := Jvm.LawKit.callS X55 hx (y := (⟨"com/example/fanout4/fanout4/xdm/WhitespaceIsWhitespacePinLaw", "reference", "(C)Z"⟩ : MethodName)) hown (mvT hZ (own_h hw 6 rfl)) (mvT hZ (own_h hw 7 rfl)) (mvT hZ (own_h hw 8 rfl)) (mvT hZ (own_h hw 9 rfl)) (by decide) (backOf (W := 1) (rm2 l Z aZ hw [] w0_1 h51 n0 Z53 ) hZ (own_h hw 9 rfl) (own_h hw 8 rfl) (by decide) (by decide)) (g := (mkF m 117 #[iv p0, iv p1, iv w0_1, rv b4, iv w0_2, .unset, .unset] [(.int w0_1), (.int (f1 w0_1))])) rfl (by rw [hml]; rfl) (argsL := [(.int w0_1)]) (rest := [(.int (f1 w0_1))]) (lenOf own_pd0 rfl) rfl (by show 2 * 0 + _ ≤ _; exact Nat.le_of_eq rfl) (hb hby at_117) (fun _ _ => ⟨rfl, eh55, (by decide : 1 + 0 ≤ _), (by decide : 16 + 0 ≤ _)⟩)
  dsimp only [Pt.U, Pt.locs, Pt.cells, Pt.slots] at X56 l56 y56 z56 st56 hQ56
  subst l56 y56 z56
  obtain ⟨rfl, N56q, eh56⟩ := hQ56
  have N56 := Fr.app N55 N56q
  refine own_pre st56 ?_
  obtain ⟨w0_3, hw0_3⟩ : ∃ z : Int32, z = (if (f1 w0_1) = (f2 w0_1) then (1:Int32) else (0:Int32)) := ⟨_, rfl⟩
  refine own_pre (A := T56.setTop (mkF m 128 #[iv p0, iv p1, iv w0_1, rv b4, iv w0_2, .unset, .unset] [(.int w0_3)])) (fun t k => ?_) ?_
  · show Steps p.tables e below (T56.setTop (mkF m 120 #[iv p0, iv p1, iv w0_1, rv b4, iv w0_2, .unset, .unset] [(.int (f2 w0_1)), (.int (f1 w0_1))])) _
    by_cases hm120_1 : (f1 w0_1) = (f2 w0_1)
    · refine XS.icmpNo X56.here hx rfl (hb hby at_120) rfl (XT.ii_ne_f hm120_1) ?_
      show Steps p.tables e below (T56.setTop (mkF m 123 #[iv p0, iv p1, iv w0_1, rv b4, iv w0_2, .unset, .unset] [])) _
      refine XS.iconst X56.here hx rfl (hb hby at_123) ?_
      show Steps p.tables e below (T56.setTop (mkF m 124 #[iv p0, iv p1, iv w0_1, rv b4, iv w0_2, .unset, .unset] [(.int (1:Int32))])) _
      refine XS.goto X56.here hx rfl (pc0 := 124) (pc' := 128) rfl (hb hby at_124) (by decide) (by decide) ?_
      rw [hw0_3.trans (if_pos hm120_1)] at k
      exact k
    · refine XS.icmpYes X56.here hx rfl (pc0 := 120) (pc' := 127) rfl (hb hby at_120) rfl (XT.ii_ne_t hm120_1) (by decide) (by decide) ?_
      show Steps p.tables e below (T56.setTop (mkF m 127 #[iv p0, iv p1, iv w0_1, rv b4, iv w0_2, .unset, .unset] [])) _
      refine XS.iconst X56.here hx rfl (hb hby at_127) ?_
      rw [hw0_3.trans (if_neg hm120_1)] at k
      exact k
  refine own_pre (A := T56.setTop (mkF m 132 #[iv p0, iv p1, iv w0_1, rv b4, iv w0_2, iv w0_3, .unset] [(.int w0_2)])) (fun t k => ?_) ?_
  · show Steps p.tables e below (T56.setTop (mkF m 128 #[iv p0, iv p1, iv w0_1, rv b4, iv w0_2, .unset, .unset] [(.int w0_3)])) _
    refine XS.istore X56.here hx rfl (hb hby at_128) rfl (l' := #[iv p0, iv p1, iv w0_1, rv b4, iv w0_2, iv w0_3, .unset]) rfl ?_
    show Steps p.tables e below (T56.setTop (mkF m 130 #[iv p0, iv p1, iv w0_1, rv b4, iv w0_2, iv w0_3, .unset] [])) _
    refine XS.iload X56.here hx rfl (hb hby at_130) rfl ?_
    exact k
  obtain ⟨_, _, ⟨T57, L57, k57, n57⟩, -, X57, ⟨Lc57, hQ57, l57, y57, z57⟩, st57⟩ := Jvm.LawKit.callS X56 hx (y := (⟨"com/example/fanout4/fanout4/xdm/Whitespace", "isWhitespace", "(C)Z"⟩ : MethodName)) hown (mvT hZ (own_h hw 2 rfl)) (mvT hZ (own_h hw 3 rfl)) (mvT hZ (own_h hw 4 rfl)) (mvT hZ (own_h hw 5 rfl)) (by decide) (backOf (W := 0) (rm1 l Z aZ hw [] w0_2 h51 n0 Z53 ) hZ (own_h hw 5 rfl) (own_h hw 4 rfl) (by decide) (by decide)) (g := (mkF m 132 #[iv p0, iv p1, iv w0_1, rv b4, iv w0_2, iv w0_3, .unset] [(.int w0_2)])) rfl (by rw [hml]; rfl) (argsL := [(.int w0_2)]) (rest := []) (lenOf own_pd0 rfl) rfl (by show 2 * 0 + _ ≤ _; exact Nat.le_of_eq rfl) (hb hby at_132) (fun _ _ => ⟨rfl, eh56, (by decide : 1 + 0 ≤ _), (by decide : 16 + 0 ≤ _)⟩)
  dsimp only [Pt.U, Pt.locs, Pt.cells, Pt.slots] at X57 l57 y57 z57 st57 hQ57
  subst l57 y57 z57
  obtain ⟨rfl, N57q, eh57⟩ := hQ57
  have N57 := Fr.app N56 N57q
  refine own_pre st57 ?_
  refine own_pre (A := T57.setTop (mkF m 137 #[iv p0, iv p1, iv w0_1, rv b4, iv w0_2, iv w0_3, .unset] [(.int w0_2), (.int (f1 w0_2))])) (fun t k => ?_) ?_
  · show Steps p.tables e below (T57.setTop (mkF m 135 #[iv p0, iv p1, iv w0_1, rv b4, iv w0_2, iv w0_3, .unset] [(.int (f1 w0_2))])) _
    refine XS.iload X57.here hx rfl (hb hby at_135) rfl ?_
    exact k
  obtain ⟨_, _, ⟨T58, L58, k58, n58⟩, -, X58, ⟨Lc58, hQ58, l58, y58, z58⟩, st58⟩ := Jvm.LawKit.callS X57 hx (y := (⟨"com/example/fanout4/fanout4/xdm/WhitespaceIsWhitespacePinLaw", "reference", "(C)Z"⟩ : MethodName)) hown (mvT hZ (own_h hw 6 rfl)) (mvT hZ (own_h hw 7 rfl)) (mvT hZ (own_h hw 8 rfl)) (mvT hZ (own_h hw 9 rfl)) (by decide) (backOf (W := 1) (rm2 l Z aZ hw [] w0_2 h51 n0 Z53 ) hZ (own_h hw 9 rfl) (own_h hw 8 rfl) (by decide) (by decide)) (g := (mkF m 137 #[iv p0, iv p1, iv w0_1, rv b4, iv w0_2, iv w0_3, .unset] [(.int w0_2), (.int (f1 w0_2))])) rfl (by rw [hml]; rfl) (argsL := [(.int w0_2)]) (rest := [(.int (f1 w0_2))]) (lenOf own_pd0 rfl) rfl (by show 2 * 0 + _ ≤ _; exact Nat.le_of_eq rfl) (hb hby at_137) (fun _ _ => ⟨rfl, eh57, (by decide : 1 + 0 ≤ _), (by decide : 16 + 0 ≤ _)⟩)
  dsimp only [Pt.U, Pt.locs, Pt.cells, Pt.slots] at X58 l58 y58 z58 st58 hQ58
  subst l58 y58 z58
  obtain ⟨rfl, N58q, eh58⟩ := hQ58
  have N58 := Fr.app N57 N58q
  refine own_pre st58 ?_
  obtain ⟨w0_4, hw0_4⟩ : ∃ z : Int32, z = (if (f1 w0_2) = (f2 w0_2) then (1:Int32) else (0:Int32)) := ⟨_, rfl⟩
  refine own_pre (A := T58.setTop (mkF m 148 #[iv p0, iv p1, iv w0_1, rv b4, iv w0_2, iv w0_3, .unset] [(.int w0_4)])) (fun t k => ?_) ?_
  · show Steps p.tables e below (T58.setTop (mkF m 140 #[iv p0, iv p1, iv w0_1, rv b4, iv w0_2, iv w0_3, .unset] [(.int (f2 w0_2)), (.int (f1 w0_2))])) _
    by_cases hm140_2 : (f1 w0_2) = (f2 w0_2)
    · refine XS.icmpNo X58.here hx rfl (hb hby at_140) rfl (XT.ii_ne_f hm140_2) ?_
      show Steps p.tables e below (T58.setTop (mkF m 143 #[iv p0, iv p1, iv w0_1, rv b4, iv w0_2, iv w0_3, .unset] [])) _
      refine XS.iconst X58.here hx rfl (hb hby at_143) ?_
      show Steps p.tables e below (T58.setTop (mkF m 144 #[iv p0, iv p1, iv w0_1, rv b4, iv w0_2, iv w0_3, .unset] [(.int (1:Int32))])) _
      refine XS.goto X58.here hx rfl (pc0 := 144) (pc' := 148) rfl (hb hby at_144) (by decide) (by decide) ?_
      rw [hw0_4.trans (if_pos hm140_2)] at k
      exact k
    · refine XS.icmpYes X58.here hx rfl (pc0 := 140) (pc' := 147) rfl (hb hby at_140) rfl (XT.ii_ne_t hm140_2) (by decide) (by decide) ?_
      show Steps p.tables e below (T58.setTop (mkF m 147 #[iv p0, iv p1, iv w0_1, rv b4, iv w0_2, iv w0_3, .unset] [])) _
      refine XS.iconst X58.here hx rfl (hb hby at_147) ?_
      rw [hw0_4.trans (if_neg hm140_2)] at k
      exact k
  refine own_pre (A := T58.setTop (mkF m 152 #[iv p0, iv p1, iv w0_1, rv b4, iv w0_2, iv w0_3, iv w0_4] [(.int w0_3)])) (fun t k => ?_) ?_
  · show Steps p.tables e below (T58.setTop (mkF m 148 #[iv p0, iv p1, iv w0_1, rv b4, iv w0_2, iv w0_3, .unset] [(.int w0_4)])) _
    refine XS.istore X58.here hx rfl (hb hby at_148) rfl (l' := #[iv p0, iv p1, iv w0_1, rv b4, iv w0_2, iv w0_3, iv w0_4]) rfl ?_
    show Steps p.tables e below (T58.setTop (mkF m 150 #[iv p0, iv p1, iv w0_1, rv b4, iv w0_2, iv w0_3, iv w0_4] [])) _
    refine XS.iload X58.here hx rfl (hb hby at_150) rfl ?_
    exact k
  obtain ⟨w0_5, hw0_5⟩ : ∃ z : Int32, z = (if w0_3 = (0:Int32) then (0:Int32) else (if w0_4 = (0:Int32) then (0:Int32) else (1:Int32))) := ⟨_, rfl⟩
  refine own_pre (A := T58.setTop (mkF m 165 #[iv p0, iv p1, iv w0_1, rv b4, iv w0_2, iv w0_3, iv w0_4] [(.int w0_5)])) (fun t k => ?_) ?_
  · show Steps p.tables e below (T58.setTop (mkF m 152 #[iv p0, iv p1, iv w0_1, rv b4, iv w0_2, iv w0_3, iv w0_4] [(.int w0_3)])) _
    by_cases hm152_3 : w0_3 = (0:Int32)
    · refine XS.ifYes X58.here hx rfl (pc0 := 152) (pc' := 164) rfl (hb hby at_152) rfl (XT.i0_eq_t hm152_3) (by decide) (by decide) ?_
      show Steps p.tables e below (T58.setTop (mkF m 164 #[iv p0, iv p1, iv w0_1, rv b4, iv w0_2, iv w0_3, iv w0_4] [])) _
      refine XS.iconst X58.here hx rfl (hb hby at_164) ?_
      rw [hw0_5.trans (if_pos hm152_3)] at k
      exact k
    · refine XS.ifNo X58.here hx rfl (hb hby at_152) rfl (XT.i0_eq_f hm152_3) ?_
      show Steps p.tables e below (T58.setTop (mkF m 155 #[iv p0, iv p1, iv w0_1, rv b4, iv w0_2, iv w0_3, iv w0_4] [])) _
      refine XS.iload X58.here hx rfl (hb hby at_155) rfl ?_
      show Steps p.tables e below (T58.setTop (mkF m 157 #[iv p0, iv p1, iv w0_1, rv b4, iv w0_2, iv w0_3, iv w0_4] [(.int w0_4)])) _
      by_cases hm157_4 : w0_4 = (0:Int32)
      · refine XS.ifYes X58.here hx rfl (pc0 := 157) (pc' := 164) rfl (hb hby at_157) rfl (XT.i0_eq_t hm157_4) (by decide) (by decide) ?_
        show Steps p.tables e below (T58.setTop (mkF m 164 #[iv p0, iv p1, iv w0_1, rv b4, iv w0_2, iv w0_3, iv w0_4] [])) _
        refine XS.iconst X58.here hx rfl (hb hby at_164) ?_
        rw [hw0_5.trans ((if_neg hm152_3).trans (if_pos hm157_4))] at k
        exact k
      · refine XS.ifNo X58.here hx rfl (hb hby at_157) rfl (XT.i0_eq_f hm157_4) ?_
        show Steps p.tables e below (T58.setTop (mkF m 160 #[iv p0, iv p1, iv w0_1, rv b4, iv w0_2, iv w0_3, iv w0_4] [])) _
        refine XS.iconst X58.here hx rfl (hb hby at_160) ?_
        show Steps p.tables e below (T58.setTop (mkF m 161 #[iv p0, iv p1, iv w0_1, rv b4, iv w0_2, iv w0_3, iv w0_4] [(.int (1:Int32))])) _
        refine XS.goto X58.here hx rfl (pc0 := 161) (pc' := 165) rfl (hb hby at_161) (by decide) (by decide) ?_
        rw [hw0_5.trans ((if_neg hm152_3).trans (if_neg hm157_4))] at k
        exact k
  have hv59 : (w0_5 &&& 1) = f0 p0 p1 := by subst hw0_1 hw0_2 hw0_3 hw0_4 hw0_5; rfl
  exact own_end X58 (BodyLoose.notSynchronized Bd) (fun h => by rw [Bd.returns] at h; cases h) (v := some (.int (w0_5 &&& 1))) (fun fs hr => retN X58 hx (t := .boolean) Bd.returns (by simp) (hb hby at_165) hr) (by show Q0 Z p0 p1 h0 n0 _ T58.heap _; rw [eh58]; exact ⟨(congrArg (fun z => some (Value.int z)) hv59), N58⟩) (by decide) (by decide)
theorem own_ws (c : Int32) (h0 : 0 ≤ c.toInt) : f1 c = f2 c := by
  by_cases hb : c.toInt < 33
  · have key : ∀ n : Fin 33, f1 (Int32.ofNat n.val) = f2 (Int32.ofNat n.val) := by decide +kernel
    have e : c = Int32.ofNat c.toInt.toNat := by
      rw [← Int32.toInt_inj, Int32.toInt_ofNat_small (by omega)]; omega
    rw [e]; exact key ⟨c.toInt.toNat, by omega⟩
  · have l1 : (32:Int32).toInt = 32 := rfl
    have n1 : (32:Int32) < c := by rw [Int32.lt_iff_toInt_lt, l1]; omega
    have ne : ∀ k : Int32, k.toInt ≤ 32 → ¬ (c = k) := by intro k hk q; subst q; omega
    simp only [f1, f2, if_pos n1, if_neg (ne 32 (by decide)), if_neg (ne 9 (by decide)), if_neg (ne 13 (by decide)), if_neg (ne 10 (by decide))]
    rfl
theorem own_pick (j : Int32) (h : own_In j 16) : 0 ≤ (own_at [(32:Int32), (9:Int32), (13:Int32), (10:Int32), (8:Int32), (11:Int32), (12:Int32), (14:Int32), (31:Int32), (33:Int32), (133:Int32), (160:Int32), (8232:Int32), (12288:Int32), (0:Int32), (65535:Int32)] j).toInt := by
  have key : ∀ n : Fin 16, 0 ≤ (own_at [(32:Int32), (9:Int32), (13:Int32), (10:Int32), (8:Int32), (11:Int32), (12:Int32), (14:Int32), (31:Int32), (33:Int32), (133:Int32), (160:Int32), (8232:Int32), (12288:Int32), (0:Int32), (65535:Int32)] (Int32.ofNat n.val)).toInt := by decide +kernel
  have h1 : 0 ≤ j.toInt := h.1
  have h2 : j.toInt < 16 := h.2
  have e : j = Int32.ofNat j.toInt.toNat := by
    rw [← Int32.toInt_inj, Int32.toInt_ofNat_small (by omega)]; omega
  rw [e]; exact key ⟨j.toInt.toNat, by omega⟩
theorem own_plain (p0 p1 : Int32) : f0 p0 p1 = 1 := by
  simp only [f0, own_ws _ (own_c16 _).1, own_ws _ (own_pick _ (own_i15 p1))]
  simp
set_option maxRecDepth 65536 in
set_option maxHeartbeats 40000000 in
theorem comes_1 {Post : Tables → Env → Array Value → State → Outcome → State → Prop} (hpost : ∀ tb e args s v u, (limb_1_1.after args s (.returned v) u = true ∧ limb_1_2.after args s (.returned v) u = true ∧ True) → FrameEnd s (.returned v) u (Jvm.fieldLocs frame_1_writes args s ++ Jvm.arrayLocs frame_1_arrays args s ++ Jvm.staticLocs frame_1_statics s) 16 128 → Post tb e args s (.returned v) u) :
    ArmFor flags0 classFile x code maxLocals ret World_1 tables_1 room_1 Calls_1 rest_1 Pre_1 Post := by
  intro l hfl _ _ p e ha hc hk s m args below hf hA hF happ hP
  obtain ⟨hcalls, hrest, hpre⟩ := hP
  obtain ⟨-, -, -, hnamed, -, -, -, hat⟩ := (Spec.applies_iff hf).mp happ
  obtain ⟨hg, hn⟩ := and_e (Cond.before_iff.mp (show (Jvm.Cond.and given_1 narrow_1).before args s = true from hpre))
  obtain ⟨g2, g3⟩ := and_e hg
  obtain ⟨g4, g5⟩ := and_e g3
  obtain ⟨w0, w1, rfl⟩ : ∃ w0 w1 : Value, args = #[w0, w1] := by
    have hs : args.size = 2 := by simpa [Cond.value, given_1] using g2
    obtain ⟨L⟩ := args
    match L, hs with
    | [w0, w1], _ => exact ⟨w0, w1, rfl⟩
  have hw := fun d (hd : d ∈ tables_1) => atoms_spec (ws := Jvm.Cond.code x code maxLocals ret :: tables_1) hat d (List.mem_cons_of_mem _ hd)
  obtain ⟨i0, ei0⟩ := is_v g4
  obtain rfl : w0 = (.int i0) := Option.some.inj ei0
  obtain ⟨i1, ei1⟩ := is_v g5
  obtain rfl : w1 = (.int i1) := Option.some.inj ei1
  obtain ⟨n, o, h1, h2, h3, _, L, rfl, ⟨hv, N⟩, hq⟩ := rm0 l s _ hw tables_1 i0 i1 s.heap s.heap.size (Nat.le_refl _)  p e ha hc hk s m _ below hf ((Spec.applies_iff_loose hf).mp happ).1 ⟨rfl, State.Warmed39.refl s, rfl⟩ trivial
  rw [own_plain] at hv
  subst hv
  refine ⟨n, _, h1, h2, h3, hpost _ _ _ _ _ _ ⟨Cond.after_iff.mpr rfl, Cond.after_iff.mpr (eq_i res_at (Term.int_eval (1)) rfl), trivial⟩ ⟨hq.1, hq.2.1, (hq.2.2.sift fun y hy => Or.inr (N y hy)).mono (by decide) (by decide)⟩⟩
theorem main_1_1 : Claimed_1_1 := comes_1 fun _ _ _ _ _ _ h hF => ⟨h.1, hF⟩
theorem main_1_2 : Claimed_1_2 := comes_1 fun _ _ _ _ _ _ h hF => ⟨h.2.1, hF⟩
end Jvm.Pilot.@@N@@
namespace Jvm.Pilot.@@N@@
open Jvm Jvm.ClassFile Sem Op Lib Jvm.Free Jvm.Stand Jvm.Pilot.@@N@@.Jvm.D
/-! MADE BY PROGRAM (witnessworld.py) out of the Statement's table words and the real class files: 11 classes; the members and pool entries that the words name. The judged class is class 1, her method 2. -/
namespace start1
open Jvm.ClassFile
def u (s : String) : CpInfo := .utf8 (stringToUtf16 s)
/-- a pool by its gaps: so many unusable entries, then the entry; so many at the end -/
def gap : Nat → List CpInfo → List CpInfo
  | 0, r => r
  | n + 1, r => .unusable :: gap n r
def poolList (es : List (Nat × CpInfo)) (last : Nat) : List CpInfo := es.foldr (fun e r => gap e.1 (e.2 :: r)) (gap last [])
def pool (es : List (Nat × CpInfo)) (last : Nat) : Array CpInfo := ⟨poolList es last⟩
def fileOf (pool : Array CpInfo) (this : Nat) (attrs : Array Attribute := #[]) (ms : Array MethodInfo := #[]) (fl : Nat := 33) (sup : Nat := 0) (ifs : Array Nat := #[]) (fds : Array FieldInfo := #[]) : ClassFile where
  minorVersion := 0
  majorVersion := 65
  constantPool := pool
  accessFlags := fl
  thisClass := this
  superClass := sup
  interfaces := ifs
  fields := fds
  methods := ms
  attributes := attrs
def plain (name : String) (sup : Option ClassId) : Class where
  name := name
  kind := .ordinary
  loader := none
  accessFlags := 33
  super := sup
  interfaces := #[]
  cf := none
  fields := #[]
  methods := #[]
  instanceTypes := #[]
  staticTypes := #[]
  resolved := #[]
  callSites := []
  init := .initialized
  statics := none
  mirror := none

def pool0 : Array CpInfo := pool [(5, u "<init>"), (0, u "()V"), (1, .class_ 10), (1, u "java/lang/Object")] 113

def k0m0 : Method := { name := "<init>", desc := "()V", sig := { parameters := [], returnType := none }, accessFlags := 1, code := none }
/-- java/lang/Object -/
def k0 : Class := { plain "java/lang/Object" none with
  accessFlags := 33
  interfaces := #[]
  cf := some (fileOf pool0 8 #[] #[{ accessFlags := 1, nameIndex := 5, descriptorIndex := 6, attributes := #[] }] 33 0 #[] #[])
  fields := #[]
  methods := #[k0m0]
  instanceTypes := #[]
  staticTypes := #[]
  resolved := Array.replicate 124 none
  statics := none }

def pool1 : Array CpInfo := pool [(2, .class_ 4), (1, u "java/lang/Object"), (0, u "<init>"), (0, u "()V"), (0, .long 4294977024), (1, .integer 65535), (0, .methodref 11 12), (0, .class_ 13), (0, .nameAndType 14 15), (0, u "com/example/fanout4/fanout4/xdm/Whitespace"), (0, u "isWhitespace"), (0, u "(C)Z"), (0, .methodref 17 18), (0, .class_ 19), (0, .nameAndType 20 15), (0, u "com/example/fanout4/fanout4/xdm/WhitespaceIsWhitespacePinLaw"), (0, u "reference"), (3, u "law"), (0, u "(II)Z")] 4

def k1m0 : Method := { name := "<init>", desc := "()V", sig := { parameters := [], returnType := none }, accessFlags := 2, code := none }
def k1c1 : Code := { maxStack := 4, maxLocals := 4, code := method_2_code, exceptionTable := #[], attributes := #[] }
def k1m1 : Method := { name := "reference", desc := "(C)Z", sig := { parameters := [.char], returnType := some .boolean }, accessFlags := 10, code := some k1c1 }
def k1c2 : Code := { maxStack := 4, maxLocals := 7, code := code, exceptionTable := #[], attributes := #[] }
def k1m2 : Method := { name := "law", desc := "(II)Z", sig := { parameters := [.int, .int], returnType := some .boolean }, accessFlags := 9, code := some k1c2 }
/-- com/example/fanout4/fanout4/xdm/WhitespaceIsWhitespacePinLaw -/
def k1 : Class := { plain "com/example/fanout4/fanout4/xdm/WhitespaceIsWhitespacePinLaw" (some 0) with
  accessFlags := 49
  interfaces := #[]
  cf := some (fileOf pool1 17 #[] #[{ accessFlags := 2, nameIndex := 5, descriptorIndex := 6, attributes := #[] }, { accessFlags := 10, nameIndex := 20, descriptorIndex := 15, attributes := #[] }, { accessFlags := 9, nameIndex := 24, descriptorIndex := 25, attributes := #[] }] 49 2 #[] #[])
  fields := #[]
  methods := #[k1m0, k1m1, k1m2]
  instanceTypes := #[]
  staticTypes := #[]
  resolved := Array.replicate 30 none
  statics := none }

def pool2 : Array CpInfo := pool [(2, .class_ 4), (1, u "java/lang/Object"), (0, u "<init>"), (0, u "()V"), (11, .class_ 20), (1, u "com/example/fanout4/fanout4/xdm/Whitespace"), (0, u "isWhitespace"), (0, u "(C)Z"), (20, u "XML_SPACE"), (0, u "Lcom/example/fanout4/fanout4/xdm/QName;")] 44

def k2m0 : Method := { name := "<init>", desc := "()V", sig := { parameters := [], returnType := none }, accessFlags := 2, code := none }
def k2c1 : Code := { maxStack := 2, maxLocals := 1, code := prog_77_method_2_code, exceptionTable := #[], attributes := #[] }
def k2m1 : Method := { name := "isWhitespace", desc := "(C)Z", sig := { parameters := [.char], returnType := some .boolean }, accessFlags := 9, code := some k2c1 }
/-- com/example/fanout4/fanout4/xdm/Whitespace -/
def k2 : Class := { plain "com/example/fanout4/fanout4/xdm/Whitespace" (some 0) with
  accessFlags := 33
  interfaces := #[]
  cf := some (fileOf pool2 18 #[] #[{ accessFlags := 2, nameIndex := 5, descriptorIndex := 6, attributes := #[] }, { accessFlags := 9, nameIndex := 21, descriptorIndex := 22, attributes := #[] }] 33 2 #[] #[{ accessFlags := 25, nameIndex := 43, descriptorIndex := 44, attributes := #[] }])
  fields := #[{ name := "XML_SPACE", type := (.object "com/example/fanout4/fanout4/xdm/QName"), accessFlags := 25, slot := 0, constantValue := 0 }]
  methods := #[k2m0, k2m1]
  instanceTypes := #[]
  staticTypes := #[(.object "com/example/fanout4/fanout4/xdm/QName")]
  resolved := Array.replicate 89 none
  statics := none }

def pool3 : Array CpInfo := pool [(1, u "java/lang/Cloneable"), (0, .class_ 1), (0, u "java/lang/Object"), (0, .class_ 3)] 3

/-- java/lang/Cloneable -/
def k3 : Class := { plain "java/lang/Cloneable" (some 0) with
  accessFlags := 1537
  interfaces := #[]
  cf := some (fileOf pool3 2 #[] #[] 1537 4 #[] #[])
  fields := #[]
  methods := #[]
  instanceTypes := #[]
  staticTypes := #[]
  resolved := Array.replicate 8 none
  statics := none }

def pool4 : Array CpInfo := pool [(1, u "java/io/Serializable"), (0, .class_ 1), (0, u "java/lang/Object"), (0, .class_ 3)] 3

/-- java/io/Serializable -/
def k4 : Class := { plain "java/io/Serializable" (some 0) with
  accessFlags := 1537
  interfaces := #[]
  cf := some (fileOf pool4 2 #[] #[] 1537 4 #[] #[])
  fields := #[]
  methods := #[]
  instanceTypes := #[]
  staticTypes := #[]
  resolved := Array.replicate 8 none
  statics := none }

/-- the primitive byte -/
def k5 : Class := { plain "byte" none with kind := .primitive 'B', accessFlags := 0x411 }
/-- [B -/
def k6 : Class := { plain "[B" (some 0) with kind := .array 5 .byte, interfaces := #[3, 4], accessFlags := 1041 }

/-- the primitive char -/
def k7 : Class := { plain "char" none with kind := .primitive 'C', accessFlags := 0x411 }
/-- [C -/
def k8 : Class := { plain "[C" (some 0) with kind := .array 7 .char, interfaces := #[3, 4], accessFlags := 1041 }

/-- the primitive int -/
def k9 : Class := { plain "int" none with kind := .primitive 'I', accessFlags := 0x411 }
/-- [I -/
def k10 : Class := { plain "[I" (some 0) with kind := .array 9 .int, interfaces := #[3, 4], accessFlags := 1041 }

def heap : Heap := #[]
def classes : Array Class := #[k0, k1, k2, k3, k4, k5, k6, k7, k8, k9, k10]
def interned : List (Array UInt16 × Addr) := []
def slotsUsed : Nat := 0
def theMethod : MethodId := ⟨1, 2⟩
def args0 : Array Value := #[.int 5, .int 5]
def aboutOver (below : List Frame) : State where
  vm := { classes := classes, interned := interned.toArray }
  heap := heap
  slotsUsed := slotsUsed
  threads := #[{ frames := .invoking theMethod args0 :: below }]
def below0 : List Frame := [.native { method := ⟨0, 0⟩, args := #[] }]
def about1 : State := aboutOver below0
def p0 : Program := .bare "" "" ""
def e0 : Env := launch0.env 0 0 0
theorem w_frames : about1.frames = Frame.invoking theMethod args0 :: below0 := rfl
set_option maxRecDepth 65536 in
theorem w_args : argsFit about1.vm theMethod args0 = true := by decide +kernel
set_option maxRecDepth 65536 in
theorem w_heap : heapFits about1 = true := by decide +kernel
set_option maxRecDepth 65536 in
theorem w_runnable : about1.curStatus? = some .runnable := by decide +kernel
set_option maxRecDepth 65536 in
theorem w_alone : about1.alone = true := by decide +kernel
set_option maxRecDepth 65536 in
theorem w_named : about1.methodNamed? x = some theMethod := by decide +kernel
set_option maxRecDepth 65536 in
theorem w_hears : about1.hears theMethod below0 = true := by decide +kernel
set_option maxRecDepth 65536 in
theorem w_ripe : about1.ripe theMethod args0 below0 = true := by decide +kernel
theorem w_running : about1.status = .running := rfl
set_option maxRecDepth 65536 in
theorem w_room : about1.hasRoom e0.platform room_1 = true :=
  launch0.hasRoom_least _ room_1 (by decide +kernel) (by decide +kernel) (by decide +kernel) (by decide +kernel) (by decide +kernel) (by decide +kernel)
theorem allAtoms_all (ts : List Jvm.Cond) (a : Array Jvm.Value) (st : Jvm.State) : (allAtoms ts).before a st = ts.all (fun c => c.before a st) := by
  induction ts with
  | nil => rfl
  | cons c t ih =>
    show (Jvm.Cond.and c (allAtoms t)).before a st = _
    rw [Jvm.Cond.before_and, ih, List.all_cons]
def words1 : List Jvm.Cond := Jvm.Cond.code x code maxLocals ret :: tables_1
/-- a 'code' word, met by the world's own term for the bytes: nothing is compared byte by byte -/
theorem code_word {y : MethodName} {bytes : ByteArray} {mx : Nat} {rt : Option FieldType} {a : Array Value} {s : State} {m : MethodId} {meth : Method} {c : Code} (h1 : s.methodNamed? y = some m) (h2 : s.vm.method? m = some meth) (h3 : meth.code = some c) (h4 : c.code = bytes)
    (h5 : (c.maxLocals == mx && c.exceptionTable.isEmpty && decide (c.maxStack ≤ mostOperands) && decide (meth.sig.returnType = rt) && !meth.locks && decide (parseMethodDescriptor y.desc = some meth.sig)) = true) : (Jvm.Cond.code y bytes mx rt).before a s = true := by
  simp only [Bool.and_eq_true, beq_iff_eq, Bool.not_eq_true', decide_eq_true_eq] at h5
  obtain ⟨⟨⟨⟨⟨g1, g2⟩, g3⟩, g4⟩, g5⟩, g6⟩ := h5
  simp [Cond.before, Cond.holds, Cond.value, h1, h2, h3, h4, g1, g2, g3, g4, g5, g6]
def isCode : Jvm.Cond → Bool
  | .code _ _ _ _ => true
  | _ => false
theorem all_split {L : List Jvm.Cond} {P : Jvm.Cond → Bool} (h1 : L.all (fun c => isCode c || P c) = true) (h2 : ∀ c ∈ L.filter isCode, P c = true) : L.all P = true := by
  refine List.all_eq_true.mpr fun c hc => ?_
  have h := List.all_eq_true.mp h1 c hc
  rcases Bool.eq_false_or_eq_true (isCode c) with hi | hi
  · exact h2 c (List.mem_filter.mpr ⟨hc, hi⟩)
  · simpa [hi] using h
set_option maxRecDepth 65536 in
theorem w_c0 : (Jvm.Cond.code x code maxLocals ret).before args0 about1 = true := code_word (m := ⟨1, 2⟩) (meth := k1m2) (c := k1c2) (by decide +kernel) rfl rfl rfl (by decide +kernel)
set_option maxRecDepth 65536 in
theorem w_c1 : (Jvm.Cond.code ({ cls := "com/example/fanout4/fanout4/xdm/Whitespace", name := "isWhitespace", desc := "(C)Z" } : Jvm.MethodName) prog_77_method_2_code (1 : Nat) (Option.some Jvm.ClassFile.FieldType.boolean)).before args0 about1 = true := code_word (m := ⟨2, 1⟩) (meth := k2m1) (c := k2c1) (by decide +kernel) rfl rfl rfl (by decide +kernel)
set_option maxRecDepth 65536 in
theorem w_c2 : (Jvm.Cond.code ({ cls := "com/example/fanout4/fanout4/xdm/WhitespaceIsWhitespacePinLaw", name := "reference", desc := "(C)Z" } : Jvm.MethodName) method_2_code (4 : Nat) (Option.some Jvm.ClassFile.FieldType.boolean)).before args0 about1 = true := code_word (m := ⟨1, 1⟩) (meth := k1m1) (c := k1c1) (by decide +kernel) rfl rfl rfl (by decide +kernel)
def codes1 : List Jvm.Cond := [Jvm.Cond.code x code maxLocals ret, Jvm.Cond.code ({ cls := "com/example/fanout4/fanout4/xdm/Whitespace", name := "isWhitespace", desc := "(C)Z" } : Jvm.MethodName) prog_77_method_2_code (1 : Nat) (Option.some Jvm.ClassFile.FieldType.boolean), Jvm.Cond.code ({ cls := "com/example/fanout4/fanout4/xdm/WhitespaceIsWhitespacePinLaw", name := "reference", desc := "(C)Z" } : Jvm.MethodName) method_2_code (4 : Nat) (Option.some Jvm.ClassFile.FieldType.boolean)]
set_option maxRecDepth 65536 in
theorem codes_eq : words1.filter isCode = codes1 := rfl
theorem w_codes : ∀ c ∈ words1.filter isCode, c.before args0 about1 = true := by
  rw [codes_eq]
  intro c hc
  simp only [codes1, List.mem_cons, List.not_mem_nil, or_false] at hc
  rcases hc with rfl | rfl | rfl
  · exact w_c0
  · exact w_c1
  · exact w_c2
set_option maxRecDepth 65536 in
theorem w_t1 : words1.all (fun c => isCode c || c.before args0 about1) = true := by decide +kernel
theorem w_tables : (allAtoms (Jvm.Cond.code x code maxLocals ret :: tables_1)).before args0 about1 = true := by
  rw [allAtoms_all]
  show words1.all (fun c => c.before args0 about1) = true
  refine all_split ?_ w_codes
  rw [w_t1]
set_option maxRecDepth 65536 in
theorem w_case : (Jvm.Cond.and given_1 narrow_1).before args0 about1 = true := by decide +kernel
theorem w_applies : (headSpec (Jvm.Cond.code x code maxLocals ret :: tables_1) room_1).applies x e0.platform about1 = true :=
  (Spec.applies_iff w_frames).mpr ⟨w_running, w_runnable, w_alone, w_named, w_hears, w_ripe, w_room, w_tables⟩
theorem atStart : AtStart classFile x code maxLocals ret World_1 tables_1 room_1 Calls_1 rest_1 Pre_1 launch0 p0 e0 about1 theMethod args0 below0 :=
  ⟨lists_1, trivial, launch0.admits_env _ _ _, launch0.least_env, fairChoices_fair.cas, fairChoices_fair.clock, w_frames, w_args, w_heap, w_applies, trivial, trivial, w_case⟩
end start1
theorem witness_1 : WitnessClaimed_1 := ⟨start1.p0, start1.e0, start1.about1, start1.theMethod, start1.args0, start1.below0, start1.atStart⟩
end Jvm.Pilot.@@N@@
