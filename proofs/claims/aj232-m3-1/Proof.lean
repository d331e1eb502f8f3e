import JvmDerived
import JvmDerived.Pilot.@@N@@Statement
import JvmDerived.Pilot.@@N@@Code
set_option linter.unusedVariables false
set_option linter.unusedSimpArgs false
@@BLOCK:NumsL.lean.txt@@
namespace Jvm.Pilot.@@N@@
open Jvm Jvm.ClassFile Sem Op Lib Jvm.Free Jvm.Stand Jvm.LawKit Jvm.RoadKit Bundle Jvm.Pilot.@@N@@.Jvm.D
def own_Goes (p : Program) (e : Env) (below : List Frame) (s : State) (Q : Option Value → Heap → List Loc → Prop) (ce sl : Nat) (A : State) : Prop :=
  ∃ s₂ o, Steps p.tables e below A s₂ ∧ s₂.status = .running ∧ Ended s₂ below o ∧ ∃ v L, o = .returned v ∧ Q v s₂.heap L ∧ FrameEnd s o s₂ L ce sl
theorem own_pre {p : Program} {e : Env} {below : List Frame} {s : State} {Q : Option Value → Heap → List Loc → Prop} {ce sl : Nat} {A B : State} (h : ∀ t, Steps p.tables e below A t → Steps p.tables e below B t) (G : own_Goes p e below s Q ce sl A) : own_Goes p e below s Q ce sl B := by
  obtain ⟨s₂, o, h1, r⟩ := G
  exact ⟨s₂, o, h _ h1, r⟩
theorem own_end {p : Program} {l : Launch} {e : Env} {R : Room} {s : State} {m : MethodId} {args : Array Value} {below : List Frame} {meth : Method} {c : Code} {T : State} {locs : List Loc} {cells slots : Nat} (X : Stand p l e R s m args below meth c T locs cells slots)
    {v : Option Value} {Q : Option Value → Heap → List Loc → Prop} {ce sl : Nat} {A : State} (hlocks : meth.locks = false) (hv : meth.sig.returnType = none → v = none)
    (hstep : ∀ fs, (∀ (f : JFrame) (acts : List Action), f.method = m → f.locked = none → f.entered = [] → (doReturn e (T.setTop f) acts v).1 = T.setFrames fs) → Steps p.tables e below A (T.setFrames fs))
    (hQ : Q v T.heap locs) (hc : cells ≤ ce) (hs : slots ≤ sl) : own_Goes p e below s Q ce sl A := by
  obtain ⟨fs, hr, hrun, hended, hW, hsame⟩ := X.leave hv hlocks
  exact ⟨_, _, hstep fs hr, hrun, hended, _, _, rfl, hQ, ⟨_, rfl⟩, hW, hsame.mono hc hs⟩
theorem own_lrem_eq (x y : Int64) : x - (x / y) * y = x % y := Int64.toInt_inj.mp (by rw [Jvm.Kit.i64_rem, Int64.toInt_mod])
theorem own_lrem {tb : Tables} [Ours tb] {e : Env} {below : List Frame} {T target : State} {m : MethodId} {c : Code} {g : JFrame} (h : At T m c below) (hx : tb.exec = Jvm.exec) (hg : g.method = m) {x y : Int64} {rest : List Value} (hd : decode c.code g.pc = .ok (.lrem, 1)) (hs : g.stack = .long y :: .long x :: rest) (hy : y ≠ 0)
    (hr : Steps tb e below (T.setTop { g with pc := g.pc + 1, stack := .long (x % y) :: rest }) target) : Steps tb e below (T.setTop g) target :=
  XS.lrem h hx hg hd hs hy (by rw [own_lrem_eq]; exact hr)
theorem own_h {a0 : Array Value} {Z : State} {L : List Jvm.Cond} (hw : ∀ d ∈ L, d.before a0 Z = true) (i : Nat) {d : Jvm.Cond} (h : L[i]? = some d) : d.before a0 Z = true := hw _ (List.mem_of_getElem? h)
abbrev own_In (j : Int32) (n : Nat) : Prop := 0 ≤ j.toInt ∧ j.toInt < (n : Int)
def own_at (xs : List Int32) (j : Int32) : Int32 := xs.getD j.toNatClampNeg 0
def own_atJ (xs : List Int64) (j : Int32) : Int64 := xs.getD j.toNatClampNeg 0
def own_len {α : Type} (xs : List α) : Int32 := xs.length.toInt32
theorem own_getD (xs : List Int32) (i : Nat) : (xs.map Value.int).getD i (.int 0) = .int (xs.getD i 0) := by
  simp only [List.getD_eq_getElem?_getD, List.getElem?_map]
  cases xs[i]? <;> rfl
theorem own_getDJ (xs : List Int64) (i : Nat) : (xs.map Value.long).getD i (.long 0) = .long (xs.getD i 0) := by
  simp only [List.getD_eq_getElem?_getD, List.getElem?_map]
  cases xs[i]? <;> rfl
theorem own_pad {ty : FieldType} {Z : State} {h : Heap} {a : Addr} {k : ClassId} {n : Int32} {dv : Value} (F : Arv Z h a k ty n [] dv) : Arv Z h a k ty n (List.replicate n.toNatClampNeg dv) dv := F.pad (pad_rep [] dv n.toNatClampNeg)
section OwnArr
variable {p : Program} {l : Launch} {e : Env} {R : Room} {s : State} {m : MethodId} {args : Array Value} {below : List Frame} {meth : Method} {c : Code} {T : State} {locs : List Loc} {cells slots : Nat} {Z : State} {h h' : Heap} {a b : Addr} {sl : Nat} {v d : Value} {ws : List Addr} {ty : FieldType} {vs : List Value}
def own_Arr (ty : FieldType) (d : Value) (Z : State) (h : Heap) (a : Addr) (vs : List Value) : Prop := ∃ k n, Arv Z h a k ty n vs d ∧ n.toNatClampNeg = vs.length
theorem own_Arr.ext (F : own_Arr ty d Z h a vs) (E : Ext h h') : own_Arr ty d Z h' a vs := by obtain ⟨k, n, A, r⟩ := F; exact ⟨k, n, A.ext E, r⟩
theorem own_Arr.other (F : own_Arr ty d Z h b vs) (W : Wr h h' a sl v) (q : b ≠ a) : own_Arr ty d Z h' b vs := by obtain ⟨k, n, A, r⟩ := F; exact ⟨k, n, A.other W q, r⟩
theorem own_Arr.keep (F : own_Arr ty d Z h a vs) (K : Keep h h' ws) (q : a ∉ ws) : own_Arr ty d Z h' a vs := by obtain ⟨k, n, A, r⟩ := F; exact ⟨k, n, A.keep K q, r⟩
theorem own_Arr.lt (F : own_Arr ty d Z h a vs) : a < h.size := by obtain ⟨k, n, A, r⟩ := F; exact A.lt
theorem own_inb {cl : Cell} {n j : Int32} {N : Nat} (S : cl.slots.size = n.toNatClampNeg) (q : n.toNatClampNeg = N) (hj : own_In j N) : ¬ (j < 0 ∨ cl.slots.size ≤ j.toNatClampNeg) := by
  rw [S, q]; obtain ⟨q1, q2⟩ := hj
  have e0 : (0 : Int32).toInt = 0 := rfl
  simp only [Int32.lt_iff_toInt_lt, Int32.toNatClampNeg, e0] at *; omega
theorem own_ixlt {j : Int32} {N : Nat} (hj : own_In j N) : j.toNatClampNeg < N := by obtain ⟨q1, q2⟩ := hj; simp only [Int32.toNatClampNeg]; omega
def own_Ints (Z : State) (h : Heap) (a : Addr) (xs : List Int32) : Prop := own_Arr .int (.int 0) Z h a (xs.map Value.int)
def own_Longs (Z : State) (h : Heap) (a : Addr) (xs : List Int64) : Prop := own_Arr .long (.long 0) Z h a (xs.map Value.long)
def own_Bytes (Z : State) (h : Heap) (a : Addr) (xs : List Int32) : Prop := own_Arr .byte (.int 0) Z h a (xs.map Value.int)
def own_Chars (Z : State) (h : Heap) (a : Addr) (xs : List Int32) : Prop := own_Arr .char (.int 0) Z h a (xs.map Value.int)
theorem own_Ints.ext {xs : List Int32} (F : own_Ints Z h a xs) (E : Ext h h') : own_Ints Z h' a xs := own_Arr.ext F E
theorem own_Ints.other {xs : List Int32} (F : own_Ints Z h b xs) (W : Wr h h' a sl v) (q : b ≠ a) : own_Ints Z h' b xs := own_Arr.other F W q
theorem own_Ints.keep {xs : List Int32} (F : own_Ints Z h a xs) (K : Keep h h' ws) (q : a ∉ ws) : own_Ints Z h' a xs := own_Arr.keep F K q
theorem own_Ints.lt {xs : List Int32} (F : own_Ints Z h a xs) : a < h.size := own_Arr.lt F
theorem own_newI {k : ClassId} {n : Int32} (A : Arr Z h a (newA k .int n) .int) (q : ¬ n < 0) : own_Ints Z h a (List.replicate n.toNatClampNeg 0) := by
  refine ⟨k, n, ?_, by simp⟩
  have := own_pad (Arv.new A q)
  rw [List.map_replicate]
  exact this
theorem own_iaload {target : State} (X : Stand p l e R s m args below meth c T locs cells slots) (hx : p.tables.exec = Jvm.exec) (hZ : Z.Warmed39 s.vm) (eT : T.heap = h) {xs : List Int32} {j : Int32} (F : own_Ints Z h a xs) (hj : own_In j xs.length) {g : JFrame} (hg : g.method = m) {rest : List Value} (hs : g.stack = .int j :: .ref a :: rest) (hd : decode c.code g.pc = .ok (.iaload, 1))
    (hr : Steps p.tables e below (T.setTop { g with pc := g.pc + 1, stack := .int (own_at xs j) :: rest }) target) : Steps p.tables e below (T.setTop g) target := by
  obtain ⟨k, n, ⟨cl, A, q1, S, q3, H, G⟩, q⟩ := F
  have hin := own_inb S q (by rw [List.length_map]; exact hj)
  exact X.iaload hx (j := j) (v := .int (own_at xs j)) (by rw [eT]; exact A.1) (State.isArrayOf_alike hZ.alike A.2.1) A.2.2 hin (H.at hin (own_getD xs _)) (g := g) hg hs hd _ hr
theorem own_arrlenI {target : State} (X : Stand p l e R s m args below meth c T locs cells slots) (hx : p.tables.exec = Jvm.exec) (hZ : Z.Warmed39 s.vm) (eT : T.heap = h) {xs : List Int32} (F : own_Ints Z h a xs) {g : JFrame} (hg : g.method = m) {rest : List Value} (hs : g.stack = .ref a :: rest) (hd : decode c.code g.pc = .ok (.arraylength, 1))
    (hr : Steps p.tables e below (T.setTop { g with pc := g.pc + 1, stack := .int (own_len xs) :: rest }) target) : Steps p.tables e below (T.setTop g) target := by
  obtain ⟨k, n, ⟨cl, A, q1, S, q3, H, G⟩, q⟩ := F
  refine X.arraylength hx (by rw [eT]; exact A.1) (State.isArrayOf_alike hZ.alike A.2.1) (g := g) hg hs hd _ ?_
  have e1 : cl.slots.size = xs.length := by rw [S, q, List.length_map]
  rw [e1]
  exact hr
theorem own_iastore (X : Stand p l e R s m args below meth c T locs cells slots) (hx : p.tables.exec = Jvm.exec) (hZ : Z.Warmed39 s.vm) (eT : T.heap = h) {xs : List Int32} {j : Int32} {x : Int32} (F : own_Ints Z h a xs) (hj : own_In j xs.length) {g : JFrame} (hg : g.method = m) {rest : List Value} (hs : g.stack = .int x :: .int j :: .ref a :: rest) (hd : decode c.code g.pc = .ok (.iastore, 1)) :
    ∃ T' h', Stand p l e R s m args below meth c T' (locs ++ [⟨a, j.toNatClampNeg⟩]) cells slots ∧ T'.heap = h' ∧ Wr h h' a j.toNatClampNeg (.int (x)) ∧ own_Ints Z h' a (xs.set j.toNatClampNeg (x)) ∧ ∀ target, Steps p.tables e below (T'.setTop { g with pc := g.pc + 1, stack := rest }) target → Steps p.tables e below (T.setTop g) target := by
  obtain ⟨k, n, ⟨cl, A, q1, S, q3, H, G⟩, q⟩ := F
  have hin := own_inb S q (by rw [List.length_map]; exact hj)
  obtain ⟨T', h', X', e', W, st⟩ := stI X hx hZ eT A (j := j) (x := x) hin (g := g) hg hs hd
  refine ⟨T', h', X', e', W, ⟨k, n, ?_, by rw [q]; simp⟩, st⟩
  rw [List.map_set]
  exact Arv.set A q1 S q3 H G rfl W _ rfl (by rw [List.length_map]; exact own_ixlt hj)
theorem own_Longs.ext {xs : List Int64} (F : own_Longs Z h a xs) (E : Ext h h') : own_Longs Z h' a xs := own_Arr.ext F E
theorem own_Longs.other {xs : List Int64} (F : own_Longs Z h b xs) (W : Wr h h' a sl v) (q : b ≠ a) : own_Longs Z h' b xs := own_Arr.other F W q
theorem own_Longs.keep {xs : List Int64} (F : own_Longs Z h a xs) (K : Keep h h' ws) (q : a ∉ ws) : own_Longs Z h' a xs := own_Arr.keep F K q
theorem own_Longs.lt {xs : List Int64} (F : own_Longs Z h a xs) : a < h.size := own_Arr.lt F
theorem own_newJ {k : ClassId} {n : Int32} (A : Arr Z h a (newA k .long n) .long) (q : ¬ n < 0) : own_Longs Z h a (List.replicate n.toNatClampNeg 0) := by
  refine ⟨k, n, ?_, by simp⟩
  have := own_pad (Arv.new A q)
  rw [List.map_replicate]
  exact this
theorem own_laload {target : State} (X : Stand p l e R s m args below meth c T locs cells slots) (hx : p.tables.exec = Jvm.exec) (hZ : Z.Warmed39 s.vm) (eT : T.heap = h) {xs : List Int64} {j : Int32} (F : own_Longs Z h a xs) (hj : own_In j xs.length) {g : JFrame} (hg : g.method = m) {rest : List Value} (hs : g.stack = .int j :: .ref a :: rest) (hd : decode c.code g.pc = .ok (.laload, 1))
    (hr : Steps p.tables e below (T.setTop { g with pc := g.pc + 1, stack := .long (own_atJ xs j) :: rest }) target) : Steps p.tables e below (T.setTop g) target := by
  obtain ⟨k, n, ⟨cl, A, q1, S, q3, H, G⟩, q⟩ := F
  have hin := own_inb S q (by rw [List.length_map]; exact hj)
  exact X.laload hx (j := j) (v := .long (own_atJ xs j)) (by rw [eT]; exact A.1) (State.isArrayOf_alike hZ.alike A.2.1) A.2.2 hin (H.at hin (own_getDJ xs _)) (g := g) hg hs hd _ hr
theorem own_arrlenJ {target : State} (X : Stand p l e R s m args below meth c T locs cells slots) (hx : p.tables.exec = Jvm.exec) (hZ : Z.Warmed39 s.vm) (eT : T.heap = h) {xs : List Int64} (F : own_Longs Z h a xs) {g : JFrame} (hg : g.method = m) {rest : List Value} (hs : g.stack = .ref a :: rest) (hd : decode c.code g.pc = .ok (.arraylength, 1))
    (hr : Steps p.tables e below (T.setTop { g with pc := g.pc + 1, stack := .int (own_len xs) :: rest }) target) : Steps p.tables e below (T.setTop g) target := by
  obtain ⟨k, n, ⟨cl, A, q1, S, q3, H, G⟩, q⟩ := F
  refine X.arraylength hx (by rw [eT]; exact A.1) (State.isArrayOf_alike hZ.alike A.2.1) (g := g) hg hs hd _ ?_
  have e1 : cl.slots.size = xs.length := by rw [S, q, List.length_map]
  rw [e1]
  exact hr
theorem own_lastore (X : Stand p l e R s m args below meth c T locs cells slots) (hx : p.tables.exec = Jvm.exec) (hZ : Z.Warmed39 s.vm) (eT : T.heap = h) {xs : List Int64} {j : Int32} {x : Int64} (F : own_Longs Z h a xs) (hj : own_In j xs.length) {g : JFrame} (hg : g.method = m) {rest : List Value} (hs : g.stack = .long x :: .int j :: .ref a :: rest) (hd : decode c.code g.pc = .ok (.lastore, 1)) :
    ∃ T' h', Stand p l e R s m args below meth c T' (locs ++ [⟨a, j.toNatClampNeg⟩]) cells slots ∧ T'.heap = h' ∧ Wr h h' a j.toNatClampNeg (.long (x)) ∧ own_Longs Z h' a (xs.set j.toNatClampNeg (x)) ∧ ∀ target, Steps p.tables e below (T'.setTop { g with pc := g.pc + 1, stack := rest }) target → Steps p.tables e below (T.setTop g) target := by
  obtain ⟨k, n, ⟨cl, A, q1, S, q3, H, G⟩, q⟩ := F
  have hin := own_inb S q (by rw [List.length_map]; exact hj)
  obtain ⟨T', h', X', e', W, st⟩ := stJ X hx hZ eT A (j := j) (x := x) hin (g := g) hg hs hd
  refine ⟨T', h', X', e', W, ⟨k, n, ?_, by rw [q]; simp⟩, st⟩
  rw [List.map_set]
  exact Arv.set A q1 S q3 H G rfl W _ rfl (by rw [List.length_map]; exact own_ixlt hj)
theorem own_Bytes.ext {xs : List Int32} (F : own_Bytes Z h a xs) (E : Ext h h') : own_Bytes Z h' a xs := own_Arr.ext F E
theorem own_Bytes.other {xs : List Int32} (F : own_Bytes Z h b xs) (W : Wr h h' a sl v) (q : b ≠ a) : own_Bytes Z h' b xs := own_Arr.other F W q
theorem own_Bytes.keep {xs : List Int32} (F : own_Bytes Z h a xs) (K : Keep h h' ws) (q : a ∉ ws) : own_Bytes Z h' a xs := own_Arr.keep F K q
theorem own_Bytes.lt {xs : List Int32} (F : own_Bytes Z h a xs) : a < h.size := own_Arr.lt F
theorem own_newB {k : ClassId} {n : Int32} (A : Arr Z h a (newA k .byte n) .byte) (q : ¬ n < 0) : own_Bytes Z h a (List.replicate n.toNatClampNeg 0) := by
  refine ⟨k, n, ?_, by simp⟩
  have := own_pad (Arv.new A q)
  rw [List.map_replicate]
  exact this
theorem own_baload {target : State} (X : Stand p l e R s m args below meth c T locs cells slots) (hx : p.tables.exec = Jvm.exec) (hZ : Z.Warmed39 s.vm) (eT : T.heap = h) {xs : List Int32} {j : Int32} (F : own_Bytes Z h a xs) (hj : own_In j xs.length) {g : JFrame} (hg : g.method = m) {rest : List Value} (hs : g.stack = .int j :: .ref a :: rest) (hd : decode c.code g.pc = .ok (.baload, 1))
    (hr : Steps p.tables e below (T.setTop { g with pc := g.pc + 1, stack := .int (own_at xs j) :: rest }) target) : Steps p.tables e below (T.setTop g) target := by
  obtain ⟨k, n, ⟨cl, A, q1, S, q3, H, G⟩, q⟩ := F
  have hin := own_inb S q (by rw [List.length_map]; exact hj)
  exact X.baloadBytes hx (j := j) (v := .int (own_at xs j)) (by rw [eT]; exact A.1) (State.isArrayOf_alike hZ.alike A.2.1) A.2.2 hin (H.at hin (own_getD xs _)) (g := g) hg hs hd _ hr
theorem own_arrlenB {target : State} (X : Stand p l e R s m args below meth c T locs cells slots) (hx : p.tables.exec = Jvm.exec) (hZ : Z.Warmed39 s.vm) (eT : T.heap = h) {xs : List Int32} (F : own_Bytes Z h a xs) {g : JFrame} (hg : g.method = m) {rest : List Value} (hs : g.stack = .ref a :: rest) (hd : decode c.code g.pc = .ok (.arraylength, 1))
    (hr : Steps p.tables e below (T.setTop { g with pc := g.pc + 1, stack := .int (own_len xs) :: rest }) target) : Steps p.tables e below (T.setTop g) target := by
  obtain ⟨k, n, ⟨cl, A, q1, S, q3, H, G⟩, q⟩ := F
  refine X.arraylength hx (by rw [eT]; exact A.1) (State.isArrayOf_alike hZ.alike A.2.1) (g := g) hg hs hd _ ?_
  have e1 : cl.slots.size = xs.length := by rw [S, q, List.length_map]
  rw [e1]
  exact hr
theorem own_bastore (X : Stand p l e R s m args below meth c T locs cells slots) (hx : p.tables.exec = Jvm.exec) (hZ : Z.Warmed39 s.vm) (eT : T.heap = h) {xs : List Int32} {j : Int32} {x : Int32} (F : own_Bytes Z h a xs) (hj : own_In j xs.length) {g : JFrame} (hg : g.method = m) {rest : List Value} (hs : g.stack = .int x :: .int j :: .ref a :: rest) (hd : decode c.code g.pc = .ok (.bastore, 1)) :
    ∃ T' h', Stand p l e R s m args below meth c T' (locs ++ [⟨a, j.toNatClampNeg⟩]) cells slots ∧ T'.heap = h' ∧ Wr h h' a j.toNatClampNeg (.int (x.toInt8.toInt32)) ∧ own_Bytes Z h' a (xs.set j.toNatClampNeg (x.toInt8.toInt32)) ∧ ∀ target, Steps p.tables e below (T'.setTop { g with pc := g.pc + 1, stack := rest }) target → Steps p.tables e below (T.setTop g) target := by
  obtain ⟨k, n, ⟨cl, A, q1, S, q3, H, G⟩, q⟩ := F
  have hin := own_inb S q (by rw [List.length_map]; exact hj)
  obtain ⟨T', h', X', e', W, st⟩ := stB X hx hZ eT A (j := j) (x := x) hin (g := g) hg hs hd
  refine ⟨T', h', X', e', W, ⟨k, n, ?_, by rw [q]; simp⟩, st⟩
  rw [List.map_set]
  exact Arv.set A q1 S q3 H G (fits_nar_byte x) W _ rfl (by rw [List.length_map]; exact own_ixlt hj)
theorem own_Chars.ext {xs : List Int32} (F : own_Chars Z h a xs) (E : Ext h h') : own_Chars Z h' a xs := own_Arr.ext F E
theorem own_Chars.other {xs : List Int32} (F : own_Chars Z h b xs) (W : Wr h h' a sl v) (q : b ≠ a) : own_Chars Z h' b xs := own_Arr.other F W q
theorem own_Chars.keep {xs : List Int32} (F : own_Chars Z h a xs) (K : Keep h h' ws) (q : a ∉ ws) : own_Chars Z h' a xs := own_Arr.keep F K q
theorem own_Chars.lt {xs : List Int32} (F : own_Chars Z h a xs) : a < h.size := own_Arr.lt F
theorem own_newC {k : ClassId} {n : Int32} (A : Arr Z h a (newA k .char n) .char) (q : ¬ n < 0) : own_Chars Z h a (List.replicate n.toNatClampNeg 0) := by
  refine ⟨k, n, ?_, by simp⟩
  have := own_pad (Arv.new A q)
  rw [List.map_replicate]
  exact this
theorem own_caload {target : State} (X : Stand p l e R s m args below meth c T locs cells slots) (hx : p.tables.exec = Jvm.exec) (hZ : Z.Warmed39 s.vm) (eT : T.heap = h) {xs : List Int32} {j : Int32} (F : own_Chars Z h a xs) (hj : own_In j xs.length) {g : JFrame} (hg : g.method = m) {rest : List Value} (hs : g.stack = .int j :: .ref a :: rest) (hd : decode c.code g.pc = .ok (.caload, 1))
    (hr : Steps p.tables e below (T.setTop { g with pc := g.pc + 1, stack := .int (own_at xs j) :: rest }) target) : Steps p.tables e below (T.setTop g) target := by
  obtain ⟨k, n, ⟨cl, A, q1, S, q3, H, G⟩, q⟩ := F
  have hin := own_inb S q (by rw [List.length_map]; exact hj)
  exact X.caload hx (j := j) (v := .int (own_at xs j)) (by rw [eT]; exact A.1) (State.isArrayOf_alike hZ.alike A.2.1) A.2.2 hin (H.at hin (own_getD xs _)) (g := g) hg hs hd _ hr
theorem own_arrlenC {target : State} (X : Stand p l e R s m args below meth c T locs cells slots) (hx : p.tables.exec = Jvm.exec) (hZ : Z.Warmed39 s.vm) (eT : T.heap = h) {xs : List Int32} (F : own_Chars Z h a xs) {g : JFrame} (hg : g.method = m) {rest : List Value} (hs : g.stack = .ref a :: rest) (hd : decode c.code g.pc = .ok (.arraylength, 1))
    (hr : Steps p.tables e below (T.setTop { g with pc := g.pc + 1, stack := .int (own_len xs) :: rest }) target) : Steps p.tables e below (T.setTop g) target := by
  obtain ⟨k, n, ⟨cl, A, q1, S, q3, H, G⟩, q⟩ := F
  refine X.arraylength hx (by rw [eT]; exact A.1) (State.isArrayOf_alike hZ.alike A.2.1) (g := g) hg hs hd _ ?_
  have e1 : cl.slots.size = xs.length := by rw [S, q, List.length_map]
  rw [e1]
  exact hr
theorem own_castore (X : Stand p l e R s m args below meth c T locs cells slots) (hx : p.tables.exec = Jvm.exec) (hZ : Z.Warmed39 s.vm) (eT : T.heap = h) {xs : List Int32} {j : Int32} {x : Int32} (F : own_Chars Z h a xs) (hj : own_In j xs.length) {g : JFrame} (hg : g.method = m) {rest : List Value} (hs : g.stack = .int x :: .int j :: .ref a :: rest) (hd : decode c.code g.pc = .ok (.castore, 1)) :
    ∃ T' h', Stand p l e R s m args below meth c T' (locs ++ [⟨a, j.toNatClampNeg⟩]) cells slots ∧ T'.heap = h' ∧ Wr h h' a j.toNatClampNeg (.int (x.toUInt32.toUInt16.toUInt32.toInt32)) ∧ own_Chars Z h' a (xs.set j.toNatClampNeg (x.toUInt32.toUInt16.toUInt32.toInt32)) ∧ ∀ target, Steps p.tables e below (T'.setTop { g with pc := g.pc + 1, stack := rest }) target → Steps p.tables e below (T.setTop g) target := by
  obtain ⟨k, n, ⟨cl, A, q1, S, q3, H, G⟩, q⟩ := F
  have hin := own_inb S q (by rw [List.length_map]; exact hj)
  obtain ⟨T', h', X', e', W, st⟩ := stC X hx hZ eT A (j := j) (x := x) hin (g := g) hg hs hd
  refine ⟨T', h', X', e', W, ⟨k, n, ?_, by rw [q]; simp⟩, st⟩
  rw [List.map_set]
  exact Arv.set A q1 S q3 H G (fits_nar_char x) W _ rfl (by rw [List.length_map]; exact own_ixlt hj)
end OwnArr
theorem own_lit {j : Int32} {n : Nat} (h : (decide (0 ≤ j.toInt) && decide (j.toInt < (n : Int))) = true) : own_In j n := by
  simp only [Bool.and_eq_true, decide_eq_true_eq] at h; exact h
theorem own_amt {y : Int32} {j : Nat} (hj : y.toInt % 64 = (j : Int)) : j < 64 ∧ (y &&& 0x3f) = Int32.ofNat j := by
  have h : (y &&& (0x3f : Int32)).toInt = y.toInt % 2 ^ 6 := Jvm.Kit.i32_mask y _ (k := 6) (by decide) (by decide)
  have hl : j < 64 := by omega
  refine ⟨hl, ?_⟩
  rw [← Int32.toInt_inj, h, Int32.toInt_ofNat_small (by omega)]
  exact hj
theorem own_lshl (x : Int64) {y : Int32} {j : Nat} (hj : y.toInt % 64 = (j : Int)) : (x <<< (y &&& 0x3f).toInt64).toBitVec = x.toBitVec <<< j := by
  obtain ⟨hl, e⟩ := own_amt hj
  have key : ∀ n : Fin 64, ((Int32.ofNat n.val).toInt64.toBitVec.smod 64).toNat = n.val := by decide +kernel
  rw [Int64.toBitVec_shiftLeft, e, BitVec.shiftLeft_eq', key ⟨j, hl⟩]
theorem own_lushr (x : Int64) {y : Int32} {j : Nat} (hj : y.toInt % 64 = (j : Int)) : ((x.toUInt64 >>> (y &&& 0x3f).toInt64.toUInt64).toInt64).toBitVec = x.toBitVec >>> j := by
  obtain ⟨hl, e⟩ := own_amt hj
  have key : ∀ n : Fin 64, ((Int32.ofNat n.val).toInt64.toUInt64.toBitVec % 64).toNat = n.val := by decide +kernel
  rw [UInt64.toBitVec_toInt64, UInt64.toBitVec_shiftRight, Int64.toBitVec_toUInt64, e, BitVec.ushiftRight_eq', key ⟨j, hl⟩]
theorem own_shl1 (x : BitVec 64) (j : Nat) (h : j < 64) : x <<< 1 <<< (63 - j) = if j = 0 then 0 else x <<< (64 - j) := by
  rw [← BitVec.shiftLeft_add]
  split
  · rw [BitVec.shiftLeft_eq_zero (by omega)]; rfl
  · rw [show 1 + (63 - j) = 64 - j by omega]
theorem own_shr1 (x : BitVec 64) (j : Nat) (h : j < 64) : x >>> 1 >>> (63 - j) = if j = 0 then 0 else x >>> (64 - j) := by
  rw [← BitVec.shiftRight_add]
  split
  · rw [BitVec.ushiftRight_eq_zero (by omega)]; rfl
  · rw [show 1 + (63 - j) = 64 - j by omega]
theorem own_pn0 : plainName "com/example/lexarray/lexarray/model/BitsAtPinLaw" = true := by first | (simp [plainName, overriddenIn]; done) | decide +kernel
theorem d1_0 : decode method_2_code 0 = .ok (.iload_n 0, 1) := by decide +kernel
theorem d1_1 : decode method_2_code 1 = .ok (.ifCond .ne 5, 3) := by decide +kernel
theorem d1_4 : decode method_2_code 4 = .ok (.lload_n 1, 1) := by decide +kernel
theorem d1_5 : decode method_2_code 5 = .ok (.lreturn, 1) := by decide +kernel
theorem d1_6 : decode method_2_code 6 = .ok (.iload_n 0, 1) := by decide +kernel
theorem d1_7 : decode method_2_code 7 = .ok (.iconst 1, 1) := by decide +kernel
theorem d1_8 : decode method_2_code 8 = .ok (.if_icmp .ne 5, 3) := by decide +kernel
theorem d1_11 : decode method_2_code 11 = .ok (.lload_n 3, 1) := by decide +kernel
theorem d1_12 : decode method_2_code 12 = .ok (.lreturn, 1) := by decide +kernel
theorem d1_13 : decode method_2_code 13 = .ok (.iload_n 0, 1) := by decide +kernel
theorem d1_14 : decode method_2_code 14 = .ok (.iconst 2, 1) := by decide +kernel
theorem d1_15 : decode method_2_code 15 = .ok (.if_icmp .ne 6, 3) := by decide +kernel
theorem d1_18 : decode method_2_code 18 = .ok (.lload 5, 2) := by decide +kernel
theorem d1_20 : decode method_2_code 20 = .ok (.lreturn, 1) := by decide +kernel
theorem d1_21 : decode method_2_code 21 = .ok (.lload 7, 2) := by decide +kernel
theorem d1_23 : decode method_2_code 23 = .ok (.lreturn, 1) := by decide +kernel
theorem ef1 (m : MethodId) (p0 : Int32) (q1 : Int64) (q2 : Int64) (q3 : Int64) (q4 : Int64) : entryFrame m #[(.int p0), (.long q1), (.long q2), (.long q3), (.long q4)] 9 = mkF m 0 #[iv p0, .val (.long q1), .second, .val (.long q2), .second, .val (.long q3), .second, .val (.long q4), .second] [] := by first | (simp [entryFrame, mkF, argsToLocals, Value.category]; done) | rfl
def f1 (p0 : Int32) (q1 : Int64) (q2 : Int64) (q3 : Int64) (q4 : Int64) : Int64 := (if p0 = (0:Int32) then q1 else (if p0 = (1:Int32) then q2 else (if p0 = (2:Int32) then q3 else q4)))
def Q1 (Z : State) (p0 : Int32) (q1 : Int64) (q2 : Int64) (q3 : Int64) (q4 : Int64)  (h0 : Heap) (n0 : Nat) (v : Option Value) (h : Heap) (L : List Loc) : Prop := v = some (.long (f1 p0 q1 q2 q3 q4)) ∧ Fr n0 L ∧ h = h0
set_option maxRecDepth 65536 in
set_option maxHeartbeats 40000000 in
theorem rm1 (l : Launch) (Z : State) (aZ : Array Value) (hw : ∀ d ∈ tables_1, d.before aZ Z = true) (ws : List Jvm.Cond) (p0 : Int32) (q1 : Int64) (q2 : Int64) (q3 : Int64) (q4 : Int64)  (h0 : Heap) (n0 : Nat) (Z0 : n0 ≤ h0.size)  :
    MetFree l (⟨"com/example/lexarray/lexarray/model/BitsAtPinLaw", "pick", "(IJJJJ)J"⟩ : MethodName) (head1 (Jvm.Cond.code (⟨"com/example/lexarray/lexarray/model/BitsAtPinLaw", "pick", "(IJJJJ)J"⟩ : MethodName) method_2_code 9 (some .long) :: ws) ({ frames := 0, cells := 0, slots := 0, locals := 0 } : Room)) (fun a U => a = #[(.int p0), (.long q1), (.long q2), (.long q3), (.long q4)] ∧ Z.Warmed39 U.vm ∧ U.heap = h0) (fun _ _ _ _ _ => True) (fun _ U o U' => ∃ v L, o = .returned v ∧ Q1 Z p0 q1 q2 q3 q4 h0 n0 v U'.heap L ∧ FrameEnd U o U' L ({ frames := 0, cells := 0, slots := 0, locals := 0 } : Room).cells ({ frames := 0, cells := 0, slots := 0, locals := 0 } : Room).slots) := by
  refine MetFree.of_bodySF (plainFor_of_name own_pn0) hisR ?_
  intro p e s m args below meth c s₁ Bd hml0 hP hK
  obtain ⟨rfl, hZ, hh⟩ := hP
  have hx := Bd.exec
  have hby := Bd.bytes
  have hml : c.maxLocals = 9 := hml0
  have hown : s.vm.findClass "com/example/lexarray/lexarray/model/BitsAtPinLaw" = some m.cls := findClass_of_methodNamed Bd.named
  have hnm := (name_of_methodNamed Bd.named Bd.method).1
  have X0 : Stand p l e ({ frames := 0, cells := 0, slots := 0, locals := 0 } : Room) s m #[(.int p0), (.long q1), (.long q2), (.long q3), (.long q4)] below meth c s₁ [] 0 0 := Stand.of_body Bd
  have e0 : s₁.heap = h0 := by rw [← hh, Bd.state]; rfl
  have N0 := Fr.nil n0
  show own_Goes p e below s (Q1 Z p0 q1 q2 q3 q4 h0 n0) ({ frames := 0, cells := 0, slots := 0, locals := 0 } : Room).cells ({ frames := 0, cells := 0, slots := 0, locals := 0 } : Room).slots _
  refine own_pre (fun t k => castTop (ef1 m p0 q1 q2 q3 q4) k) ?_
  refine own_pre (A := s₁.setTop (mkF m 1 #[iv p0, .val (.long q1), .second, .val (.long q2), .second, .val (.long q3), .second, .val (.long q4), .second] [(.int p0)])) (fun t k => ?_) ?_
  · show Steps p.tables e below (s₁.setTop (mkF m 0 #[iv p0, .val (.long q1), .second, .val (.long q2), .second, .val (.long q3), .second, .val (.long q4), .second] [])) _
    refine XS.iloadN X0.here hx rfl (hb hby d1_0) rfl ?_
    exact k
  by_cases hs1_1 : p0 = (0:Int32)
  · refine own_pre (A := s₁.setTop (mkF m 5 #[iv p0, .val (.long q1), .second, .val (.long q2), .second, .val (.long q3), .second, .val (.long q4), .second] [(.long q1)])) (fun t k => ?_) ?_
    · show Steps p.tables e below (s₁.setTop (mkF m 1 #[iv p0, .val (.long q1), .second, .val (.long q2), .second, .val (.long q3), .second, .val (.long q4), .second] [(.int p0)])) _
      refine XS.ifNo X0.here hx rfl (hb hby d1_1) rfl (XT.i0_ne_f hs1_1) ?_
      show Steps p.tables e below (s₁.setTop (mkF m 4 #[iv p0, .val (.long q1), .second, .val (.long q2), .second, .val (.long q3), .second, .val (.long q4), .second] [])) _
      refine XS.lloadN X0.here hx rfl (hb hby d1_4) rfl ?_
      exact k
    have hv1 : q1 = f1 p0 q1 q2 q3 q4 := by simp only [f1, if_pos hs1_1]
    exact own_end X0 (BodyLoose.notSynchronized Bd) (fun h => by rw [Bd.returns] at h; cases h) (v := some (.long q1)) (fun fs hr => retOut X0 hx Bd.returns rfl (by simp [Value.isRef, FieldType.isReference]) (hb hby d1_5) hr) (by show Q1 Z p0 q1 q2 q3 q4 h0 n0 _ s₁.heap _; rw [e0]; exact ⟨(congrArg (fun z => some (Value.long z)) hv1), N0, rfl⟩) (by decide) (by decide)
  · refine own_pre (A := s₁.setTop (mkF m 8 #[iv p0, .val (.long q1), .second, .val (.long q2), .second, .val (.long q3), .second, .val (.long q4), .second] [(.int (1:Int32)), (.int p0)])) (fun t k => ?_) ?_
    · show Steps p.tables e below (s₁.setTop (mkF m 1 #[iv p0, .val (.long q1), .second, .val (.long q2), .second, .val (.long q3), .second, .val (.long q4), .second] [(.int p0)])) _
      refine XS.ifYes X0.here hx rfl (pc0 := 1) (pc' := 6) rfl (hb hby d1_1) rfl (XT.i0_ne_t hs1_1) (by decide) (by decide) ?_
      show Steps p.tables e below (s₁.setTop (mkF m 6 #[iv p0, .val (.long q1), .second, .val (.long q2), .second, .val (.long q3), .second, .val (.long q4), .second] [])) _
      refine XS.iloadN X0.here hx rfl (hb hby d1_6) rfl ?_
      show Steps p.tables e below (s₁.setTop (mkF m 7 #[iv p0, .val (.long q1), .second, .val (.long q2), .second, .val (.long q3), .second, .val (.long q4), .second] [(.int p0)])) _
      refine XS.iconst X0.here hx rfl (hb hby d1_7) ?_
      exact k
    by_cases hs8_2 : p0 = (1:Int32)
    · refine own_pre (A := s₁.setTop (mkF m 12 #[iv p0, .val (.long q1), .second, .val (.long q2), .second, .val (.long q3), .second, .val (.long q4), .second] [(.long q2)])) (fun t k => ?_) ?_
      · show Steps p.tables e below (s₁.setTop (mkF m 8 #[iv p0, .val (.long q1), .second, .val (.long q2), .second, .val (.long q3), .second, .val (.long q4), .second] [(.int (1:Int32)), (.int p0)])) _
        refine XS.icmpNo X0.here hx rfl (hb hby d1_8) rfl (XT.ii_ne_f hs8_2) ?_
        show Steps p.tables e below (s₁.setTop (mkF m 11 #[iv p0, .val (.long q1), .second, .val (.long q2), .second, .val (.long q3), .second, .val (.long q4), .second] [])) _
        refine XS.lloadN X0.here hx rfl (hb hby d1_11) rfl ?_
        exact k
      have hv2 : q2 = f1 p0 q1 q2 q3 q4 := by simp only [f1, if_neg hs1_1, if_pos hs8_2]
      exact own_end X0 (BodyLoose.notSynchronized Bd) (fun h => by rw [Bd.returns] at h; cases h) (v := some (.long q2)) (fun fs hr => retOut X0 hx Bd.returns rfl (by simp [Value.isRef, FieldType.isReference]) (hb hby d1_12) hr) (by show Q1 Z p0 q1 q2 q3 q4 h0 n0 _ s₁.heap _; rw [e0]; exact ⟨(congrArg (fun z => some (Value.long z)) hv2), N0, rfl⟩) (by decide) (by decide)
    · refine own_pre (A := s₁.setTop (mkF m 15 #[iv p0, .val (.long q1), .second, .val (.long q2), .second, .val (.long q3), .second, .val (.long q4), .second] [(.int (2:Int32)), (.int p0)])) (fun t k => ?_) ?_
      · show Steps p.tables e below (s₁.setTop (mkF m 8 #[iv p0, .val (.long q1), .second, .val (.long q2), .second, .val (.long q3), .second, .val (.long q4), .second] [(.int (1:Int32)), (.int p0)])) _
        refine XS.icmpYes X0.here hx rfl (pc0 := 8) (pc' := 13) rfl (hb hby d1_8) rfl (XT.ii_ne_t hs8_2) (by decide) (by decide) ?_
        show Steps p.tables e below (s₁.setTop (mkF m 13 #[iv p0, .val (.long q1), .second, .val (.long q2), .second, .val (.long q3), .second, .val (.long q4), .second] [])) _
        refine XS.iloadN X0.here hx rfl (hb hby d1_13) rfl ?_
        show Steps p.tables e below (s₁.setTop (mkF m 14 #[iv p0, .val (.long q1), .second, .val (.long q2), .second, .val (.long q3), .second, .val (.long q4), .second] [(.int p0)])) _
        refine XS.iconst X0.here hx rfl (hb hby d1_14) ?_
        exact k
      by_cases hs15_3 : p0 = (2:Int32)
      · refine own_pre (A := s₁.setTop (mkF m 20 #[iv p0, .val (.long q1), .second, .val (.long q2), .second, .val (.long q3), .second, .val (.long q4), .second] [(.long q3)])) (fun t k => ?_) ?_
        · show Steps p.tables e below (s₁.setTop (mkF m 15 #[iv p0, .val (.long q1), .second, .val (.long q2), .second, .val (.long q3), .second, .val (.long q4), .second] [(.int (2:Int32)), (.int p0)])) _
          refine XS.icmpNo X0.here hx rfl (hb hby d1_15) rfl (XT.ii_ne_f hs15_3) ?_
          show Steps p.tables e below (s₁.setTop (mkF m 18 #[iv p0, .val (.long q1), .second, .val (.long q2), .second, .val (.long q3), .second, .val (.long q4), .second] [])) _
          refine XS.lload X0.here hx rfl (hb hby d1_18) rfl ?_
          exact k
        have hv3 : q3 = f1 p0 q1 q2 q3 q4 := by simp only [f1, if_neg hs1_1, if_neg hs8_2, if_pos hs15_3]
        exact own_end X0 (BodyLoose.notSynchronized Bd) (fun h => by rw [Bd.returns] at h; cases h) (v := some (.long q3)) (fun fs hr => retOut X0 hx Bd.returns rfl (by simp [Value.isRef, FieldType.isReference]) (hb hby d1_20) hr) (by show Q1 Z p0 q1 q2 q3 q4 h0 n0 _ s₁.heap _; rw [e0]; exact ⟨(congrArg (fun z => some (Value.long z)) hv3), N0, rfl⟩) (by decide) (by decide)
      · refine own_pre (A := s₁.setTop (mkF m 23 #[iv p0, .val (.long q1), .second, .val (.long q2), .second, .val (.long q3), .second, .val (.long q4), .second] [(.long q4)])) (fun t k => ?_) ?_
        · show Steps p.tables e below (s₁.setTop (mkF m 15 #[iv p0, .val (.long q1), .second, .val (.long q2), .second, .val (.long q3), .second, .val (.long q4), .second] [(.int (2:Int32)), (.int p0)])) _
          refine XS.icmpYes X0.here hx rfl (pc0 := 15) (pc' := 21) rfl (hb hby d1_15) rfl (XT.ii_ne_t hs15_3) (by decide) (by decide) ?_
          show Steps p.tables e below (s₁.setTop (mkF m 21 #[iv p0, .val (.long q1), .second, .val (.long q2), .second, .val (.long q3), .second, .val (.long q4), .second] [])) _
          refine XS.lload X0.here hx rfl (hb hby d1_21) rfl ?_
          exact k
        have hv4 : q4 = f1 p0 q1 q2 q3 q4 := by simp only [f1, if_neg hs1_1, if_neg hs8_2, if_neg hs15_3]
        exact own_end X0 (BodyLoose.notSynchronized Bd) (fun h => by rw [Bd.returns] at h; cases h) (v := some (.long q4)) (fun fs hr => retOut X0 hx Bd.returns rfl (by simp [Value.isRef, FieldType.isReference]) (hb hby d1_23) hr) (by show Q1 Z p0 q1 q2 q3 q4 h0 n0 _ s₁.heap _; rw [e0]; exact ⟨(congrArg (fun z => some (Value.long z)) hv4), N0, rfl⟩) (by decide) (by decide)
theorem own_pn1 : plainName "com/example/lexarray/lexarray/model/Bits" = true := by first | (simp [plainName, overriddenIn]; done) | decide +kernel
theorem d2_0 : decode prog_17_method_2_code 0 = .ok (.lload_n 1, 1) := by decide +kernel
theorem d2_1 : decode prog_17_method_2_code 1 = .ok (.bipush 6, 2) := by decide +kernel
theorem d2_3 : decode prog_17_method_2_code 3 = .ok (.lushr, 1) := by decide +kernel
theorem d2_4 : decode prog_17_method_2_code 4 = .ok (.l2i, 1) := by decide +kernel
theorem d2_5 : decode prog_17_method_2_code 5 = .ok (.istore_n 3, 1) := by decide +kernel
theorem d2_6 : decode prog_17_method_2_code 6 = .ok (.aload_n 0, 1) := by decide +kernel
theorem d2_7 : decode prog_17_method_2_code 7 = .ok (.iload_n 3, 1) := by decide +kernel
theorem d2_8 : decode prog_17_method_2_code 8 = .ok (.laload, 1) := by decide +kernel
theorem d2_9 : decode prog_17_method_2_code 9 = .ok (.lload_n 1, 1) := by decide +kernel
theorem d2_10 : decode prog_17_method_2_code 10 = .ok (.l2i, 1) := by decide +kernel
theorem d2_11 : decode prog_17_method_2_code 11 = .ok (.lushr, 1) := by decide +kernel
theorem d2_12 : decode prog_17_method_2_code 12 = .ok (.aload_n 0, 1) := by decide +kernel
theorem d2_13 : decode prog_17_method_2_code 13 = .ok (.iload_n 3, 1) := by decide +kernel
theorem d2_14 : decode prog_17_method_2_code 14 = .ok (.iconst 1, 1) := by decide +kernel
theorem d2_15 : decode prog_17_method_2_code 15 = .ok (.iadd, 1) := by decide +kernel
theorem d2_16 : decode prog_17_method_2_code 16 = .ok (.laload, 1) := by decide +kernel
theorem d2_17 : decode prog_17_method_2_code 17 = .ok (.iconst 1, 1) := by decide +kernel
theorem d2_18 : decode prog_17_method_2_code 18 = .ok (.lshl, 1) := by decide +kernel
theorem d2_19 : decode prog_17_method_2_code 19 = .ok (.ldc2_w 7, 3) := by decide +kernel
theorem d2_22 : decode prog_17_method_2_code 22 = .ok (.lload_n 1, 1) := by decide +kernel
theorem d2_23 : decode prog_17_method_2_code 23 = .ok (.ldc2_w 7, 3) := by decide +kernel
theorem d2_26 : decode prog_17_method_2_code 26 = .ok (.land, 1) := by decide +kernel
theorem d2_27 : decode prog_17_method_2_code 27 = .ok (.lsub, 1) := by decide +kernel
theorem d2_28 : decode prog_17_method_2_code 28 = .ok (.l2i, 1) := by decide +kernel
theorem d2_29 : decode prog_17_method_2_code 29 = .ok (.lshl, 1) := by decide +kernel
theorem d2_30 : decode prog_17_method_2_code 30 = .ok (.lor, 1) := by decide +kernel
theorem d2_31 : decode prog_17_method_2_code 31 = .ok (.lreturn, 1) := by decide +kernel
theorem ef2 (m : MethodId) (a0 : Addr) (q1 : Int64) : entryFrame m #[(.ref a0), (.long q1)] 4 = mkF m 0 #[rv a0, .val (.long q1), .second, .unset] [] := by first | (simp [entryFrame, mkF, argsToLocals, Value.category]; done) | rfl
def f2 (q1 : Int64) (xs : List Int64) : Int64 := (let w2_1 : Int32 := (((q1.toUInt64 >>> ((6:Int32) &&& 0x3f).toInt64.toUInt64).toInt64).toInt32); ((((own_atJ xs w2_1).toUInt64 >>> ((q1.toInt32) &&& 0x3f).toInt64.toUInt64).toInt64) ||| (((own_atJ xs (w2_1 + (1:Int32))) <<< ((1:Int32) &&& 0x3f).toInt64) <<< ((((63:Int64) - (q1 &&& (63:Int64))).toInt32) &&& 0x3f).toInt64)))
def Q2 (Z : State) (a0 : Addr) (q1 : Int64) (xs : List Int64) (h0 : Heap) (n0 : Nat) (v : Option Value) (h : Heap) (L : List Loc) : Prop := v = some (.long (f2 q1 xs)) ∧ Fr n0 L ∧ h = h0
set_option maxRecDepth 65536 in
set_option maxHeartbeats 40000000 in
theorem rm2 (l : Launch) (Z : State) (aZ : Array Value) (hw : ∀ d ∈ tables_1, d.before aZ Z = true) (ws : List Jvm.Cond) (a0 : Addr) (q1 : Int64) (xs : List Int64) (h0 : Heap) (n0 : Nat) (Z0 : n0 ≤ h0.size) (P0 : own_Longs Z h0 a0 xs) (hin1 : own_In ((q1.toUInt64 >>> ((6:Int32) &&& 0x3f).toInt64.toUInt64).toInt64.toInt32) xs.length) (hin2 : own_In (((q1.toUInt64 >>> ((6:Int32) &&& 0x3f).toInt64.toUInt64).toInt64.toInt32) + (1:Int32)) xs.length) :
    MetFree l (⟨"com/example/lexarray/lexarray/model/Bits", "at", "([JJ)J"⟩ : MethodName) (head1 (Jvm.Cond.code (⟨"com/example/lexarray/lexarray/model/Bits", "at", "([JJ)J"⟩ : MethodName) prog_17_method_2_code 4 (some .long) :: ws) ({ frames := 0, cells := 0, slots := 0, locals := 0 } : Room)) (fun a U => a = #[(.ref a0), (.long q1)] ∧ Z.Warmed39 U.vm ∧ U.heap = h0) (fun _ _ _ _ _ => True) (fun _ U o U' => ∃ v L, o = .returned v ∧ Q2 Z a0 q1 xs h0 n0 v U'.heap L ∧ FrameEnd U o U' L ({ frames := 0, cells := 0, slots := 0, locals := 0 } : Room).cells ({ frames := 0, cells := 0, slots := 0, locals := 0 } : Room).slots) := by
  refine MetFree.of_bodySF (plainFor_of_name own_pn1) hisR ?_
  intro p e s m args below meth c s₁ Bd hml0 hP hK
  obtain ⟨rfl, hZ, hh⟩ := hP
  have hx := Bd.exec
  have hby := Bd.bytes
  have hml : c.maxLocals = 4 := hml0
  have hown : s.vm.findClass "com/example/lexarray/lexarray/model/Bits" = some m.cls := findClass_of_methodNamed Bd.named
  have hnm := (name_of_methodNamed Bd.named Bd.method).1
  have X0 : Stand p l e ({ frames := 0, cells := 0, slots := 0, locals := 0 } : Room) s m #[(.ref a0), (.long q1)] below meth c s₁ [] 0 0 := Stand.of_body Bd
  have e0 : s₁.heap = h0 := by rw [← hh, Bd.state]; rfl
  have N0 := Fr.nil n0
  show own_Goes p e below s (Q2 Z a0 q1 xs h0 n0) ({ frames := 0, cells := 0, slots := 0, locals := 0 } : Room).cells ({ frames := 0, cells := 0, slots := 0, locals := 0 } : Room).slots _
  refine own_pre (fun t k => castTop (ef2 m a0 q1) k) ?_
  obtain ⟨w2_1, hw2_1⟩ : ∃ z : Int32, z = (((q1.toUInt64 >>> ((6:Int32) &&& 0x3f).toInt64.toUInt64).toInt64).toInt32) := ⟨_, rfl⟩
  have hbn5 : own_In w2_1 xs.length := (by rw [hw2_1]; exact hin1)
  have hbn6 : own_In (w2_1 + (1:Int32)) xs.length := (by rw [hw2_1]; exact hin2)
  refine own_pre (A := s₁.setTop (mkF m 31 #[rv a0, .val (.long q1), .second, iv w2_1] [(.long ((((own_atJ xs w2_1).toUInt64 >>> ((q1.toInt32) &&& 0x3f).toInt64.toUInt64).toInt64) ||| (((own_atJ xs (w2_1 + (1:Int32))) <<< ((1:Int32) &&& 0x3f).toInt64) <<< ((((63:Int64) - (q1 &&& (63:Int64))).toInt32) &&& 0x3f).toInt64)))])) (fun t k => ?_) ?_
  · show Steps p.tables e below (s₁.setTop (mkF m 0 #[rv a0, .val (.long q1), .second, .unset] [])) _
    refine XS.lloadN X0.here hx rfl (hb hby d2_0) rfl ?_
    show Steps p.tables e below (s₁.setTop (mkF m 1 #[rv a0, .val (.long q1), .second, .unset] [(.long q1)])) _
    refine XS.bipush X0.here hx rfl (hb hby d2_1) ?_
    show Steps p.tables e below (s₁.setTop (mkF m 3 #[rv a0, .val (.long q1), .second, .unset] [(.int (6:Int32)), (.long q1)])) _
    refine XS.lushr X0.here hx rfl (hb hby d2_3) rfl ?_
    show Steps p.tables e below (s₁.setTop (mkF m 4 #[rv a0, .val (.long q1), .second, .unset] [(.long ((q1.toUInt64 >>> ((6:Int32) &&& 0x3f).toInt64.toUInt64).toInt64))])) _
    refine XS.l2i X0.here hx rfl (hb hby d2_4) rfl ?_
    show Steps p.tables e below (s₁.setTop (mkF m 5 #[rv a0, .val (.long q1), .second, .unset] [(.int (((q1.toUInt64 >>> ((6:Int32) &&& 0x3f).toInt64.toUInt64).toInt64).toInt32))])) _
    refine XS.istoreN X0.here hx rfl (hb hby d2_5) rfl (l' := #[rv a0, .val (.long q1), .second, iv w2_1]) (by rw [hw2_1]; rfl) ?_
    show Steps p.tables e below (s₁.setTop (mkF m 6 #[rv a0, .val (.long q1), .second, iv w2_1] [])) _
    refine XS.aloadN X0.here hx rfl (hb hby d2_6) rfl rfl ?_
    show Steps p.tables e below (s₁.setTop (mkF m 7 #[rv a0, .val (.long q1), .second, iv w2_1] [(.ref a0)])) _
    refine XS.iloadN X0.here hx rfl (hb hby d2_7) rfl ?_
    show Steps p.tables e below (s₁.setTop (mkF m 8 #[rv a0, .val (.long q1), .second, iv w2_1] [(.int w2_1), (.ref a0)])) _
    refine own_laload X0 hx hZ e0 P0 hbn5 rfl rfl (hb hby d2_8) ?_
    show Steps p.tables e below (s₁.setTop (mkF m 9 #[rv a0, .val (.long q1), .second, iv w2_1] [(.long (own_atJ xs w2_1))])) _
    refine XS.lloadN X0.here hx rfl (hb hby d2_9) rfl ?_
    show Steps p.tables e below (s₁.setTop (mkF m 10 #[rv a0, .val (.long q1), .second, iv w2_1] [(.long q1), (.long (own_atJ xs w2_1))])) _
    refine XS.l2i X0.here hx rfl (hb hby d2_10) rfl ?_
    show Steps p.tables e below (s₁.setTop (mkF m 11 #[rv a0, .val (.long q1), .second, iv w2_1] [(.int (q1.toInt32)), (.long (own_atJ xs w2_1))])) _
    refine XS.lushr X0.here hx rfl (hb hby d2_11) rfl ?_
    show Steps p.tables e below (s₁.setTop (mkF m 12 #[rv a0, .val (.long q1), .second, iv w2_1] [(.long (((own_atJ xs w2_1).toUInt64 >>> ((q1.toInt32) &&& 0x3f).toInt64.toUInt64).toInt64))])) _
    refine XS.aloadN X0.here hx rfl (hb hby d2_12) rfl rfl ?_
    show Steps p.tables e below (s₁.setTop (mkF m 13 #[rv a0, .val (.long q1), .second, iv w2_1] [(.ref a0), (.long (((own_atJ xs w2_1).toUInt64 >>> ((q1.toInt32) &&& 0x3f).toInt64.toUInt64).toInt64))])) _
    refine XS.iloadN X0.here hx rfl (hb hby d2_13) rfl ?_
    show Steps p.tables e below (s₁.setTop (mkF m 14 #[rv a0, .val (.long q1), .second, iv w2_1] [(.int w2_1), (.ref a0), (.long (((own_atJ xs w2_1).toUInt64 >>> ((q1.toInt32) &&& 0x3f).toInt64.toUInt64).toInt64))])) _
    refine XS.iconst X0.here hx rfl (hb hby d2_14) ?_
    show Steps p.tables e below (s₁.setTop (mkF m 15 #[rv a0, .val (.long q1), .second, iv w2_1] [(.int (1:Int32)), (.int w2_1), (.ref a0), (.long (((own_atJ xs w2_1).toUInt64 >>> ((q1.toInt32) &&& 0x3f).toInt64.toUInt64).toInt64))])) _
    refine XS.iadd X0.here hx rfl (hb hby d2_15) rfl ?_
    show Steps p.tables e below (s₁.setTop (mkF m 16 #[rv a0, .val (.long q1), .second, iv w2_1] [(.int (w2_1 + (1:Int32))), (.ref a0), (.long (((own_atJ xs w2_1).toUInt64 >>> ((q1.toInt32) &&& 0x3f).toInt64.toUInt64).toInt64))])) _
    refine own_laload X0 hx hZ e0 P0 hbn6 rfl rfl (hb hby d2_16) ?_
    show Steps p.tables e below (s₁.setTop (mkF m 17 #[rv a0, .val (.long q1), .second, iv w2_1] [(.long (own_atJ xs (w2_1 + (1:Int32)))), (.long (((own_atJ xs w2_1).toUInt64 >>> ((q1.toInt32) &&& 0x3f).toInt64.toUInt64).toInt64))])) _
    refine XS.iconst X0.here hx rfl (hb hby d2_17) ?_
    show Steps p.tables e below (s₁.setTop (mkF m 18 #[rv a0, .val (.long q1), .second, iv w2_1] [(.int (1:Int32)), (.long (own_atJ xs (w2_1 + (1:Int32)))), (.long (((own_atJ xs w2_1).toUInt64 >>> ((q1.toInt32) &&& 0x3f).toInt64.toUInt64).toInt64))])) _
    refine XS.lshl X0.here hx rfl (hb hby d2_18) rfl ?_
    show Steps p.tables e below (s₁.setTop (mkF m 19 #[rv a0, .val (.long q1), .second, iv w2_1] [(.long ((own_atJ xs (w2_1 + (1:Int32))) <<< ((1:Int32) &&& 0x3f).toInt64)), (.long (((own_atJ xs w2_1).toUInt64 >>> ((q1.toInt32) &&& 0x3f).toInt64.toUInt64).toInt64))])) _
    refine Jvm.Stand.ldc2J X0 hx hown (mvT hZ (own_h hw 10 rfl)) rfl (hb hby d2_19) ?_
    show Steps p.tables e below (s₁.setTop (mkF m 22 #[rv a0, .val (.long q1), .second, iv w2_1] [(.long (63:Int64)), (.long ((own_atJ xs (w2_1 + (1:Int32))) <<< ((1:Int32) &&& 0x3f).toInt64)), (.long (((own_atJ xs w2_1).toUInt64 >>> ((q1.toInt32) &&& 0x3f).toInt64.toUInt64).toInt64))])) _
    refine XS.lloadN X0.here hx rfl (hb hby d2_22) rfl ?_
    show Steps p.tables e below (s₁.setTop (mkF m 23 #[rv a0, .val (.long q1), .second, iv w2_1] [(.long q1), (.long (63:Int64)), (.long ((own_atJ xs (w2_1 + (1:Int32))) <<< ((1:Int32) &&& 0x3f).toInt64)), (.long (((own_atJ xs w2_1).toUInt64 >>> ((q1.toInt32) &&& 0x3f).toInt64.toUInt64).toInt64))])) _
    refine Jvm.Stand.ldc2J X0 hx hown (mvT hZ (own_h hw 10 rfl)) rfl (hb hby d2_23) ?_
    show Steps p.tables e below (s₁.setTop (mkF m 26 #[rv a0, .val (.long q1), .second, iv w2_1] [(.long (63:Int64)), (.long q1), (.long (63:Int64)), (.long ((own_atJ xs (w2_1 + (1:Int32))) <<< ((1:Int32) &&& 0x3f).toInt64)), (.long (((own_atJ xs w2_1).toUInt64 >>> ((q1.toInt32) &&& 0x3f).toInt64.toUInt64).toInt64))])) _
    refine XS.land X0.here hx rfl (hb hby d2_26) rfl ?_
    show Steps p.tables e below (s₁.setTop (mkF m 27 #[rv a0, .val (.long q1), .second, iv w2_1] [(.long (q1 &&& (63:Int64))), (.long (63:Int64)), (.long ((own_atJ xs (w2_1 + (1:Int32))) <<< ((1:Int32) &&& 0x3f).toInt64)), (.long (((own_atJ xs w2_1).toUInt64 >>> ((q1.toInt32) &&& 0x3f).toInt64.toUInt64).toInt64))])) _
    refine XS.lsub X0.here hx rfl (hb hby d2_27) rfl ?_
    show Steps p.tables e below (s₁.setTop (mkF m 28 #[rv a0, .val (.long q1), .second, iv w2_1] [(.long ((63:Int64) - (q1 &&& (63:Int64)))), (.long ((own_atJ xs (w2_1 + (1:Int32))) <<< ((1:Int32) &&& 0x3f).toInt64)), (.long (((own_atJ xs w2_1).toUInt64 >>> ((q1.toInt32) &&& 0x3f).toInt64.toUInt64).toInt64))])) _
    refine XS.l2i X0.here hx rfl (hb hby d2_28) rfl ?_
    show Steps p.tables e below (s₁.setTop (mkF m 29 #[rv a0, .val (.long q1), .second, iv w2_1] [(.int (((63:Int64) - (q1 &&& (63:Int64))).toInt32)), (.long ((own_atJ xs (w2_1 + (1:Int32))) <<< ((1:Int32) &&& 0x3f).toInt64)), (.long (((own_atJ xs w2_1).toUInt64 >>> ((q1.toInt32) &&& 0x3f).toInt64.toUInt64).toInt64))])) _
    refine XS.lshl X0.here hx rfl (hb hby d2_29) rfl ?_
    show Steps p.tables e below (s₁.setTop (mkF m 30 #[rv a0, .val (.long q1), .second, iv w2_1] [(.long (((own_atJ xs (w2_1 + (1:Int32))) <<< ((1:Int32) &&& 0x3f).toInt64) <<< ((((63:Int64) - (q1 &&& (63:Int64))).toInt32) &&& 0x3f).toInt64)), (.long (((own_atJ xs w2_1).toUInt64 >>> ((q1.toInt32) &&& 0x3f).toInt64.toUInt64).toInt64))])) _
    refine XS.lor X0.here hx rfl (hb hby d2_30) rfl ?_
    exact k
  have hv7 : ((((own_atJ xs w2_1).toUInt64 >>> ((q1.toInt32) &&& 0x3f).toInt64.toUInt64).toInt64) ||| (((own_atJ xs (w2_1 + (1:Int32))) <<< ((1:Int32) &&& 0x3f).toInt64) <<< ((((63:Int64) - (q1 &&& (63:Int64))).toInt32) &&& 0x3f).toInt64)) = f2 q1 xs := by subst hw2_1; rfl
  exact own_end X0 (BodyLoose.notSynchronized Bd) (fun h => by rw [Bd.returns] at h; cases h) (v := some (.long ((((own_atJ xs w2_1).toUInt64 >>> ((q1.toInt32) &&& 0x3f).toInt64.toUInt64).toInt64) ||| (((own_atJ xs (w2_1 + (1:Int32))) <<< ((1:Int32) &&& 0x3f).toInt64) <<< ((((63:Int64) - (q1 &&& (63:Int64))).toInt32) &&& 0x3f).toInt64)))) (fun fs hr => retOut X0 hx Bd.returns rfl (by simp [Value.isRef, FieldType.isReference]) (hb hby d2_31) hr) (by show Q2 Z a0 q1 xs h0 n0 _ s₁.heap _; rw [e0]; exact ⟨(congrArg (fun z => some (Value.long z)) hv7), N0, rfl⟩) (by decide) (by decide)
theorem own_b (q w : Int32) (hw : w = ((q &&& (2147483647:Int32)) % (192:Int32))) : 0 ≤ w.toInt ∧ w.toInt < 192 := by
  have e1 : (q &&& (2147483647:Int32)).toInt = q.toInt % 2 ^ 31 := Jvm.Kit.i32_mask q _ (k := 31) (by decide) (by decide)
  have l1 : (192:Int32).toInt = 192 := by decide
  rw [hw, Int32.toInt_mod, e1, l1, Int.tmod_eq_emod_of_nonneg (by omega)]
  omega
theorem own_idx (w : Int32) (h0 : 0 ≤ w.toInt) (h1 : w.toInt < 192) : ((w.toInt64.toUInt64 >>> ((6:Int32) &&& 0x3f).toInt64.toUInt64).toInt64.toInt32) = w / 64 := by
  have e1 : w.toInt64.toInt = w.toInt := Int32.toInt_toInt64 w
  have e2 : ((w.toInt64.toUInt64 >>> ((6:Int32) &&& 0x3f).toInt64.toUInt64).toInt64).toInt = w.toInt / 2 ^ 6 := by
    rw [Jvm.Kit.i64_lushr (by rw [Jvm.Kit.i64_nonneg, e1]; exact h0) (k := 6) (by decide) (by decide), e1]
  have l1 : (64:Int32).toInt = 64 := by decide
  rw [← Int32.toInt_inj, Jvm.Kit.i32_of_i64 (by rw [e2]; omega) (by rw [e2]; omega), e2, Jvm.Kit.i32_div (by rw [l1]; omega), l1, Int.tdiv_eq_ediv_of_nonneg h0]
  omega
theorem own_q (w : Int32) (h0 : 0 ≤ w.toInt) : (w / 64).toInt = w.toInt / 64 := by
  have l1 : (64:Int32).toInt = 64 := by decide
  rw [Jvm.Kit.i32_div (by rw [l1]; omega), l1, Int.tdiv_eq_ediv_of_nonneg h0]
theorem own_r (w : Int32) (h0 : 0 ≤ w.toInt) : (w % 64).toInt = w.toInt % 64 := by
  have l1 : (64:Int32).toInt = 64 := by decide
  rw [Int32.toInt_mod, l1, Int.tmod_eq_emod_of_nonneg h0]
theorem own_ix (q w : Int32) (hw : w = ((q &&& (2147483647:Int32)) % (192:Int32))) : own_In ((w.toInt64.toUInt64 >>> ((6:Int32) &&& 0x3f).toInt64.toUInt64).toInt64.toInt32) 4 ∧ own_In (((w.toInt64.toUInt64 >>> ((6:Int32) &&& 0x3f).toInt64.toUInt64).toInt64.toInt32) + (1:Int32)) 4 := by
  obtain ⟨h0, h1⟩ := own_b q w hw
  rw [own_idx w h0 h1]
  have e := own_q w h0
  have l1 : (1:Int32).toInt = 1 := by decide
  have e2 : (w / 64 + 1).toInt = w.toInt / 64 + 1 := by rw [Jvm.Kit.i32_add (by rw [e, l1]; omega) (by rw [e, l1]; omega), e, l1]
  show (0 ≤ _ ∧ _ < _) ∧ (0 ≤ _ ∧ _ < _)
  rw [e, e2]; omega
theorem own_pd0 : parseMethodDescriptor "(IJJJJ)J" = some ⟨[.int, .long, .long, .long, .long], some .long⟩ := by decide +kernel
theorem own_pd1 : parseMethodDescriptor "([JJ)J" = some ⟨[(.array .long), .long], some .long⟩ := by decide +kernel
theorem ef0 (m : MethodId) (q0 : Int64) (q1 : Int64) (q2 : Int64) (q3 : Int64) (p4 : Int32) : entryFrame m #[(.long q0), (.long q1), (.long q2), (.long q3), (.int p4)] maxLocals = mkF m 0 #[.val (.long q0), .second, .val (.long q1), .second, .val (.long q2), .second, .val (.long q3), .second, iv p4, .unset, .unset, .unset, .unset, .unset, .unset, .unset, .unset, .unset, .unset, .unset, .unset] [] := by first | (simp [entryFrame, mkF, argsToLocals, Value.category, maxLocals]; done) | rfl
def f0 (q0 : Int64) (q1 : Int64) (q2 : Int64) (q3 : Int64) (p4 : Int32) : Int32 := (let w0_1 : Int32 := ((p4 &&& (2147483647:Int32)) % (192:Int32)); let w0_2 : Int32 := (w0_1 / (64:Int32)); let w0_3 : Int32 := (w0_1 % (64:Int32)); let w0_4 : Int64 := (f1 w0_2 q0 q1 q2 q3); let w0_5 : Int64 := (f1 (w0_2 + (1:Int32)) q0 q1 q2 q3); let w0_6 : Int64 := (if w0_3 = (0:Int32) then w0_4 else (((w0_4.toUInt64 >>> (w0_3 &&& 0x3f).toInt64.toUInt64).toInt64) ||| (w0_5 <<< (((64:Int32) - w0_3) &&& 0x3f).toInt64))); let w0_7 : Int64 := (f2 (w0_1.toInt64) [q0, q1, q2, q3]); let w0_8 : Int32 := (if w0_7 = w0_6 then (1:Int32) else (0:Int32)); (w0_8 &&& 1))
def Q0 (Z : State) (q0 : Int64) (q1 : Int64) (q2 : Int64) (q3 : Int64) (p4 : Int32)  (h0 : Heap) (n0 : Nat) (v : Option Value) (h : Heap) (L : List Loc) : Prop := v = some (.int (f0 q0 q1 q2 q3 p4)) ∧ Fr n0 L
set_option maxRecDepth 65536 in
set_option maxHeartbeats 40000000 in
theorem rm0 (l : Launch) (Z : State) (aZ : Array Value) (hw : ∀ d ∈ tables_1, d.before aZ Z = true) (ws : List Jvm.Cond) (q0 : Int64) (q1 : Int64) (q2 : Int64) (q3 : Int64) (p4 : Int32)  (h0 : Heap) (n0 : Nat) (Z0 : n0 ≤ h0.size)  :
    MetFree l x (head1 (Jvm.Cond.code x code maxLocals ret :: ws) room_1) (fun a U => a = #[(.long q0), (.long q1), (.long q2), (.long q3), (.int p4)] ∧ Z.Warmed39 U.vm ∧ U.heap = h0) (fun _ _ _ _ _ => True) (fun _ U o U' => ∃ v L, o = .returned v ∧ Q0 Z q0 q1 q2 q3 p4 h0 n0 v U'.heap L ∧ FrameEnd U o U' L 1 4) := by
  refine MetFree.of_bodySF (plainFor_of_name own_pn0) hisR ?_
  intro p e s m args below meth c s₁ Bd hml0 hP hK
  obtain ⟨rfl, hZ, hh⟩ := hP
  have hx := Bd.exec
  have hby := Bd.bytes
  have hml : c.maxLocals = 21 := hml0
  have hown : s.vm.findClass "com/example/lexarray/lexarray/model/BitsAtPinLaw" = some m.cls := findClass_of_methodNamed Bd.named
  have hnm := (name_of_methodNamed Bd.named Bd.method).1
  have X0 : Stand p l e room_1 s m #[(.long q0), (.long q1), (.long q2), (.long q3), (.int p4)] below meth c s₁ [] 0 0 := Stand.of_body Bd
  have e0 : s₁.heap = h0 := by rw [← hh, Bd.state]; rfl
  have N0 := Fr.nil n0
  show own_Goes p e below s (Q0 Z q0 q1 q2 q3 p4 h0 n0) 1 4 _
  refine own_pre (fun t k => castTop (ef0 m q0 q1 q2 q3 p4) k) ?_
  obtain ⟨w0_1, hw0_1⟩ : ∃ z : Int32, z = ((p4 &&& (2147483647:Int32)) % (192:Int32)) := ⟨_, rfl⟩
  refine own_pre (A := s₁.setTop (mkF m 12 #[.val (.long q0), .second, .val (.long q1), .second, .val (.long q2), .second, .val (.long q3), .second, iv p4, iv w0_1, .unset, .unset, .unset, .unset, .unset, .unset, .unset, .unset, .unset, .unset, .unset] [(.int (4:Int32))])) (fun t k => ?_) ?_
  · show Steps p.tables e below (s₁.setTop (mkF m 0 #[.val (.long q0), .second, .val (.long q1), .second, .val (.long q2), .second, .val (.long q3), .second, iv p4, .unset, .unset, .unset, .unset, .unset, .unset, .unset, .unset, .unset, .unset, .unset, .unset] [])) _
    refine XS.iload X0.here hx rfl (hb hby at_0) rfl ?_
    show Steps p.tables e below (s₁.setTop (mkF m 2 #[.val (.long q0), .second, .val (.long q1), .second, .val (.long q2), .second, .val (.long q3), .second, iv p4, .unset, .unset, .unset, .unset, .unset, .unset, .unset, .unset, .unset, .unset, .unset, .unset] [(.int p4)])) _
    refine Jvm.Stand.ldcI X0 hx hown (mvT hZ (own_h hw 0 rfl)) rfl (hb hby at_2) ?_
    show Steps p.tables e below (s₁.setTop (mkF m 4 #[.val (.long q0), .second, .val (.long q1), .second, .val (.long q2), .second, .val (.long q3), .second, iv p4, .unset, .unset, .unset, .unset, .unset, .unset, .unset, .unset, .unset, .unset, .unset, .unset] [(.int (2147483647:Int32)), (.int p4)])) _
    refine XS.iand X0.here hx rfl (hb hby at_4) rfl ?_
    show Steps p.tables e below (s₁.setTop (mkF m 5 #[.val (.long q0), .second, .val (.long q1), .second, .val (.long q2), .second, .val (.long q3), .second, iv p4, .unset, .unset, .unset, .unset, .unset, .unset, .unset, .unset, .unset, .unset, .unset, .unset] [(.int (p4 &&& (2147483647:Int32)))])) _
    refine XS.sipush X0.here hx rfl (hb hby at_5) ?_
    show Steps p.tables e below (s₁.setTop (mkF m 8 #[.val (.long q0), .second, .val (.long q1), .second, .val (.long q2), .second, .val (.long q3), .second, iv p4, .unset, .unset, .unset, .unset, .unset, .unset, .unset, .unset, .unset, .unset, .unset, .unset] [(.int (192:Int32)), (.int (p4 &&& (2147483647:Int32)))])) _
    refine iremM X0 hx rfl (hb hby at_8) rfl (by decide) ?_
    show Steps p.tables e below (s₁.setTop (mkF m 9 #[.val (.long q0), .second, .val (.long q1), .second, .val (.long q2), .second, .val (.long q3), .second, iv p4, .unset, .unset, .unset, .unset, .unset, .unset, .unset, .unset, .unset, .unset, .unset, .unset] [(.int ((p4 &&& (2147483647:Int32)) % (192:Int32)))])) _
    refine XS.istore X0.here hx rfl (hb hby at_9) rfl (l' := #[.val (.long q0), .second, .val (.long q1), .second, .val (.long q2), .second, .val (.long q3), .second, iv p4, iv w0_1, .unset, .unset, .unset, .unset, .unset, .unset, .unset, .unset, .unset, .unset, .unset]) (by rw [hw0_1]; rfl) ?_
    show Steps p.tables e below (s₁.setTop (mkF m 11 #[.val (.long q0), .second, .val (.long q1), .second, .val (.long q2), .second, .val (.long q3), .second, iv p4, iv w0_1, .unset, .unset, .unset, .unset, .unset, .unset, .unset, .unset, .unset, .unset, .unset] [])) _
    refine XS.iconst X0.here hx rfl (hb hby at_11) ?_
    exact k
  obtain ⟨T8, h8, k8, X8, e8, E8, A8, st8⟩ := newP X0 hx hZ (own_h hw 1 rfl) e0 (g := (mkF m 12 #[.val (.long q0), .second, .val (.long q1), .second, .val (.long q2), .second, .val (.long q3), .second, iv p4, iv w0_1, .unset, .unset, .unset, .unset, .unset, .unset, .unset, .unset, .unset, .unset, .unset] [(.int (4:Int32))])) rfl (hb hby at_12) rfl (by decide) (cap := 4) (by decide) (by decide) (by decide) (by decide)
  obtain ⟨b8, g8⟩ : ∃ z, z = h0.size := ⟨_, rfl⟩
  rw [← g8] at A8 st8
  have ge_b8 : n0 ≤ b8 := Nat.le_trans Z0 (Nat.le_of_eq g8.symm)
  have Z9 : n0 ≤ h8.size := Nat.le_trans Z0 E8.1
  have V8 : own_Longs Z h8 b8 [(0:Int64), (0:Int64), (0:Int64), (0:Int64)] := own_newJ A8 (by decide)
  refine own_pre st8 ?_
  refine own_pre (A := T8.setTop (mkF m 20 #[.val (.long q0), .second, .val (.long q1), .second, .val (.long q2), .second, .val (.long q3), .second, iv p4, iv w0_1, rv b8, .unset, .unset, .unset, .unset, .unset, .unset, .unset, .unset, .unset, .unset] [(.long q0), (.int (0:Int32)), (.ref b8)])) (fun t k => ?_) ?_
  · show Steps p.tables e below (T8.setTop (mkF m 14 #[.val (.long q0), .second, .val (.long q1), .second, .val (.long q2), .second, .val (.long q3), .second, iv p4, iv w0_1, .unset, .unset, .unset, .unset, .unset, .unset, .unset, .unset, .unset, .unset, .unset] [(.ref b8)])) _
    refine XS.astore X8.here hx rfl (hb hby at_14) rfl rfl (l' := #[.val (.long q0), .second, .val (.long q1), .second, .val (.long q2), .second, .val (.long q3), .second, iv p4, iv w0_1, rv b8, .unset, .unset, .unset, .unset, .unset, .unset, .unset, .unset, .unset, .unset]) rfl ?_
    show Steps p.tables e below (T8.setTop (mkF m 16 #[.val (.long q0), .second, .val (.long q1), .second, .val (.long q2), .second, .val (.long q3), .second, iv p4, iv w0_1, rv b8, .unset, .unset, .unset, .unset, .unset, .unset, .unset, .unset, .unset, .unset] [])) _
    refine XS.aload X8.here hx rfl (hb hby at_16) rfl rfl ?_
    show Steps p.tables e below (T8.setTop (mkF m 18 #[.val (.long q0), .second, .val (.long q1), .second, .val (.long q2), .second, .val (.long q3), .second, iv p4, iv w0_1, rv b8, .unset, .unset, .unset, .unset, .unset, .unset, .unset, .unset, .unset, .unset] [(.ref b8)])) _
    refine XS.iconst X8.here hx rfl (hb hby at_18) ?_
    show Steps p.tables e below (T8.setTop (mkF m 19 #[.val (.long q0), .second, .val (.long q1), .second, .val (.long q2), .second, .val (.long q3), .second, iv p4, iv w0_1, rv b8, .unset, .unset, .unset, .unset, .unset, .unset, .unset, .unset, .unset, .unset] [(.int (0:Int32)), (.ref b8)])) _
    refine XS.lloadN X8.here hx rfl (hb hby at_19) rfl ?_
    exact k
  have hbn11 : own_In (0:Int32) [(0:Int64), (0:Int64), (0:Int64), (0:Int64)].length := own_lit rfl
  obtain ⟨T10, h10, X10, e10, W10, V10, st10⟩ := own_lastore X8 hx hZ e8 V8 (j := (0:Int32)) (x := q0) hbn11 (g := (mkF m 20 #[.val (.long q0), .second, .val (.long q1), .second, .val (.long q2), .second, .val (.long q3), .second, iv p4, iv w0_1, rv b8, .unset, .unset, .unset, .unset, .unset, .unset, .unset, .unset, .unset, .unset] [(.long q0), (.int (0:Int32)), (.ref b8)])) rfl rfl (hb hby at_20)
  have Z12 : n0 ≤ h10.size := Nat.le_trans Z9 (Nat.le_of_eq W10.size.symm)
  have N10 := Fr.snoc X10 N0 ge_b8
  have Vw10 : own_Longs Z h10 b8 [q0, (0:Int64), (0:Int64), (0:Int64)] := V10
  refine own_pre st10 ?_
  refine own_pre (A := T10.setTop (mkF m 25 #[.val (.long q0), .second, .val (.long q1), .second, .val (.long q2), .second, .val (.long q3), .second, iv p4, iv w0_1, rv b8, .unset, .unset, .unset, .unset, .unset, .unset, .unset, .unset, .unset, .unset] [(.long q1), (.int (1:Int32)), (.ref b8)])) (fun t k => ?_) ?_
  · show Steps p.tables e below (T10.setTop (mkF m 21 #[.val (.long q0), .second, .val (.long q1), .second, .val (.long q2), .second, .val (.long q3), .second, iv p4, iv w0_1, rv b8, .unset, .unset, .unset, .unset, .unset, .unset, .unset, .unset, .unset, .unset] [])) _
    refine XS.aload X10.here hx rfl (hb hby at_21) rfl rfl ?_
    show Steps p.tables e below (T10.setTop (mkF m 23 #[.val (.long q0), .second, .val (.long q1), .second, .val (.long q2), .second, .val (.long q3), .second, iv p4, iv w0_1, rv b8, .unset, .unset, .unset, .unset, .unset, .unset, .unset, .unset, .unset, .unset] [(.ref b8)])) _
    refine XS.iconst X10.here hx rfl (hb hby at_23) ?_
    show Steps p.tables e below (T10.setTop (mkF m 24 #[.val (.long q0), .second, .val (.long q1), .second, .val (.long q2), .second, .val (.long q3), .second, iv p4, iv w0_1, rv b8, .unset, .unset, .unset, .unset, .unset, .unset, .unset, .unset, .unset, .unset] [(.int (1:Int32)), (.ref b8)])) _
    refine XS.lloadN X10.here hx rfl (hb hby at_24) rfl ?_
    exact k
  have hbn14 : own_In (1:Int32) [q0, (0:Int64), (0:Int64), (0:Int64)].length := own_lit rfl
  obtain ⟨T13, h13, X13, e13, W13, V13, st13⟩ := own_lastore X10 hx hZ e10 Vw10 (j := (1:Int32)) (x := q1) hbn14 (g := (mkF m 25 #[.val (.long q0), .second, .val (.long q1), .second, .val (.long q2), .second, .val (.long q3), .second, iv p4, iv w0_1, rv b8, .unset, .unset, .unset, .unset, .unset, .unset, .unset, .unset, .unset, .unset] [(.long q1), (.int (1:Int32)), (.ref b8)])) rfl rfl (hb hby at_25)
  have Z15 : n0 ≤ h13.size := Nat.le_trans Z12 (Nat.le_of_eq W13.size.symm)
  have N13 := Fr.snoc X13 N10 ge_b8
  have Vw13 : own_Longs Z h13 b8 [q0, q1, (0:Int64), (0:Int64)] := V13
  refine own_pre st13 ?_
  refine own_pre (A := T13.setTop (mkF m 31 #[.val (.long q0), .second, .val (.long q1), .second, .val (.long q2), .second, .val (.long q3), .second, iv p4, iv w0_1, rv b8, .unset, .unset, .unset, .unset, .unset, .unset, .unset, .unset, .unset, .unset] [(.long q2), (.int (2:Int32)), (.ref b8)])) (fun t k => ?_) ?_
  · show Steps p.tables e below (T13.setTop (mkF m 26 #[.val (.long q0), .second, .val (.long q1), .second, .val (.long q2), .second, .val (.long q3), .second, iv p4, iv w0_1, rv b8, .unset, .unset, .unset, .unset, .unset, .unset, .unset, .unset, .unset, .unset] [])) _
    refine XS.aload X13.here hx rfl (hb hby at_26) rfl rfl ?_
    show Steps p.tables e below (T13.setTop (mkF m 28 #[.val (.long q0), .second, .val (.long q1), .second, .val (.long q2), .second, .val (.long q3), .second, iv p4, iv w0_1, rv b8, .unset, .unset, .unset, .unset, .unset, .unset, .unset, .unset, .unset, .unset] [(.ref b8)])) _
    refine XS.iconst X13.here hx rfl (hb hby at_28) ?_
    show Steps p.tables e below (T13.setTop (mkF m 29 #[.val (.long q0), .second, .val (.long q1), .second, .val (.long q2), .second, .val (.long q3), .second, iv p4, iv w0_1, rv b8, .unset, .unset, .unset, .unset, .unset, .unset, .unset, .unset, .unset, .unset] [(.int (2:Int32)), (.ref b8)])) _
    refine XS.lload X13.here hx rfl (hb hby at_29) rfl ?_
    exact k
  have hbn17 : own_In (2:Int32) [q0, q1, (0:Int64), (0:Int64)].length := own_lit rfl
  obtain ⟨T16, h16, X16, e16, W16, V16, st16⟩ := own_lastore X13 hx hZ e13 Vw13 (j := (2:Int32)) (x := q2) hbn17 (g := (mkF m 31 #[.val (.long q0), .second, .val (.long q1), .second, .val (.long q2), .second, .val (.long q3), .second, iv p4, iv w0_1, rv b8, .unset, .unset, .unset, .unset, .unset, .unset, .unset, .unset, .unset, .unset] [(.long q2), (.int (2:Int32)), (.ref b8)])) rfl rfl (hb hby at_31)
  have Z18 : n0 ≤ h16.size := Nat.le_trans Z15 (Nat.le_of_eq W16.size.symm)
  have N16 := Fr.snoc X16 N13 ge_b8
  have Vw16 : own_Longs Z h16 b8 [q0, q1, q2, (0:Int64)] := V16
  refine own_pre st16 ?_
  refine own_pre (A := T16.setTop (mkF m 37 #[.val (.long q0), .second, .val (.long q1), .second, .val (.long q2), .second, .val (.long q3), .second, iv p4, iv w0_1, rv b8, .unset, .unset, .unset, .unset, .unset, .unset, .unset, .unset, .unset, .unset] [(.long q3), (.int (3:Int32)), (.ref b8)])) (fun t k => ?_) ?_
  · show Steps p.tables e below (T16.setTop (mkF m 32 #[.val (.long q0), .second, .val (.long q1), .second, .val (.long q2), .second, .val (.long q3), .second, iv p4, iv w0_1, rv b8, .unset, .unset, .unset, .unset, .unset, .unset, .unset, .unset, .unset, .unset] [])) _
    refine XS.aload X16.here hx rfl (hb hby at_32) rfl rfl ?_
    show Steps p.tables e below (T16.setTop (mkF m 34 #[.val (.long q0), .second, .val (.long q1), .second, .val (.long q2), .second, .val (.long q3), .second, iv p4, iv w0_1, rv b8, .unset, .unset, .unset, .unset, .unset, .unset, .unset, .unset, .unset, .unset] [(.ref b8)])) _
    refine XS.iconst X16.here hx rfl (hb hby at_34) ?_
    show Steps p.tables e below (T16.setTop (mkF m 35 #[.val (.long q0), .second, .val (.long q1), .second, .val (.long q2), .second, .val (.long q3), .second, iv p4, iv w0_1, rv b8, .unset, .unset, .unset, .unset, .unset, .unset, .unset, .unset, .unset, .unset] [(.int (3:Int32)), (.ref b8)])) _
    refine XS.lload X16.here hx rfl (hb hby at_35) rfl ?_
    exact k
  have hbn20 : own_In (3:Int32) [q0, q1, q2, (0:Int64)].length := own_lit rfl
  obtain ⟨T19, h19, X19, e19, W19, V19, st19⟩ := own_lastore X16 hx hZ e16 Vw16 (j := (3:Int32)) (x := q3) hbn20 (g := (mkF m 37 #[.val (.long q0), .second, .val (.long q1), .second, .val (.long q2), .second, .val (.long q3), .second, iv p4, iv w0_1, rv b8, .unset, .unset, .unset, .unset, .unset, .unset, .unset, .unset, .unset, .unset] [(.long q3), (.int (3:Int32)), (.ref b8)])) rfl rfl (hb hby at_37)
  have Z21 : n0 ≤ h19.size := Nat.le_trans Z18 (Nat.le_of_eq W19.size.symm)
  have N19 := Fr.snoc X19 N16 ge_b8
  have Vw19 : own_Longs Z h19 b8 [q0, q1, q2, q3] := V19
  refine own_pre st19 ?_
  obtain ⟨w0_2, hw0_2⟩ : ∃ z : Int32, z = (w0_1 / (64:Int32)) := ⟨_, rfl⟩
  obtain ⟨w0_3, hw0_3⟩ : ∃ z : Int32, z = (w0_1 % (64:Int32)) := ⟨_, rfl⟩
  refine own_pre (A := T19.setTop (mkF m 60 #[.val (.long q0), .second, .val (.long q1), .second, .val (.long q2), .second, .val (.long q3), .second, iv p4, iv w0_1, rv b8, iv w0_2, iv w0_3, .unset, .unset, .unset, .unset, .unset, .unset, .unset, .unset] [(.long q3), (.long q2), (.long q1), (.long q0), (.int w0_2)])) (fun t k => ?_) ?_
  · show Steps p.tables e below (T19.setTop (mkF m 38 #[.val (.long q0), .second, .val (.long q1), .second, .val (.long q2), .second, .val (.long q3), .second, iv p4, iv w0_1, rv b8, .unset, .unset, .unset, .unset, .unset, .unset, .unset, .unset, .unset, .unset] [])) _
    refine XS.iload X19.here hx rfl (hb hby at_38) rfl ?_
    show Steps p.tables e below (T19.setTop (mkF m 40 #[.val (.long q0), .second, .val (.long q1), .second, .val (.long q2), .second, .val (.long q3), .second, iv p4, iv w0_1, rv b8, .unset, .unset, .unset, .unset, .unset, .unset, .unset, .unset, .unset, .unset] [(.int w0_1)])) _
    refine XS.bipush X19.here hx rfl (hb hby at_40) ?_
    show Steps p.tables e below (T19.setTop (mkF m 42 #[.val (.long q0), .second, .val (.long q1), .second, .val (.long q2), .second, .val (.long q3), .second, iv p4, iv w0_1, rv b8, .unset, .unset, .unset, .unset, .unset, .unset, .unset, .unset, .unset, .unset] [(.int (64:Int32)), (.int w0_1)])) _
    refine XS.idiv X19.here hx rfl (hb hby at_42) rfl (by decide) ?_
    show Steps p.tables e below (T19.setTop (mkF m 43 #[.val (.long q0), .second, .val (.long q1), .second, .val (.long q2), .second, .val (.long q3), .second, iv p4, iv w0_1, rv b8, .unset, .unset, .unset, .unset, .unset, .unset, .unset, .unset, .unset, .unset] [(.int (w0_1 / (64:Int32)))])) _
    refine XS.istore X19.here hx rfl (hb hby at_43) rfl (l' := #[.val (.long q0), .second, .val (.long q1), .second, .val (.long q2), .second, .val (.long q3), .second, iv p4, iv w0_1, rv b8, iv w0_2, .unset, .unset, .unset, .unset, .unset, .unset, .unset, .unset, .unset]) (by rw [hw0_2]; rfl) ?_
    show Steps p.tables e below (T19.setTop (mkF m 45 #[.val (.long q0), .second, .val (.long q1), .second, .val (.long q2), .second, .val (.long q3), .second, iv p4, iv w0_1, rv b8, iv w0_2, .unset, .unset, .unset, .unset, .unset, .unset, .unset, .unset, .unset] [])) _
    refine XS.iload X19.here hx rfl (hb hby at_45) rfl ?_
    show Steps p.tables e below (T19.setTop (mkF m 47 #[.val (.long q0), .second, .val (.long q1), .second, .val (.long q2), .second, .val (.long q3), .second, iv p4, iv w0_1, rv b8, iv w0_2, .unset, .unset, .unset, .unset, .unset, .unset, .unset, .unset, .unset] [(.int w0_1)])) _
    refine XS.bipush X19.here hx rfl (hb hby at_47) ?_
    show Steps p.tables e below (T19.setTop (mkF m 49 #[.val (.long q0), .second, .val (.long q1), .second, .val (.long q2), .second, .val (.long q3), .second, iv p4, iv w0_1, rv b8, iv w0_2, .unset, .unset, .unset, .unset, .unset, .unset, .unset, .unset, .unset] [(.int (64:Int32)), (.int w0_1)])) _
    refine iremM X19 hx rfl (hb hby at_49) rfl (by decide) ?_
    show Steps p.tables e below (T19.setTop (mkF m 50 #[.val (.long q0), .second, .val (.long q1), .second, .val (.long q2), .second, .val (.long q3), .second, iv p4, iv w0_1, rv b8, iv w0_2, .unset, .unset, .unset, .unset, .unset, .unset, .unset, .unset, .unset] [(.int (w0_1 % (64:Int32)))])) _
    refine XS.istore X19.here hx rfl (hb hby at_50) rfl (l' := #[.val (.long q0), .second, .val (.long q1), .second, .val (.long q2), .second, .val (.long q3), .second, iv p4, iv w0_1, rv b8, iv w0_2, iv w0_3, .unset, .unset, .unset, .unset, .unset, .unset, .unset, .unset]) (by rw [hw0_3]; rfl) ?_
    show Steps p.tables e below (T19.setTop (mkF m 52 #[.val (.long q0), .second, .val (.long q1), .second, .val (.long q2), .second, .val (.long q3), .second, iv p4, iv w0_1, rv b8, iv w0_2, iv w0_3, .unset, .unset, .unset, .unset, .unset, .unset, .unset, .unset] [])) _
    refine XS.iload X19.here hx rfl (hb hby at_52) rfl ?_
    show Steps p.tables e below (T19.setTop (mkF m 54 #[.val (.long q0), .second, .val (.long q1), .second, .val (.long q2), .second, .val (.long q3), .second, iv p4, iv w0_1, rv b8, iv w0_2, iv w0_3, .unset, .unset, .unset, .unset, .unset, .unset, .unset, .unset] [(.int w0_2)])) _
    refine XS.lloadN X19.here hx rfl (hb hby at_54) rfl ?_
    show Steps p.tables e below (T19.setTop (mkF m 55 #[.val (.long q0), .second, .val (.long q1), .second, .val (.long q2), .second, .val (.long q3), .second, iv p4, iv w0_1, rv b8, iv w0_2, iv w0_3, .unset, .unset, .unset, .unset, .unset, .unset, .unset, .unset] [(.long q0), (.int w0_2)])) _
    refine XS.lloadN X19.here hx rfl (hb hby at_55) rfl ?_
    show Steps p.tables e below (T19.setTop (mkF m 56 #[.val (.long q0), .second, .val (.long q1), .second, .val (.long q2), .second, .val (.long q3), .second, iv p4, iv w0_1, rv b8, iv w0_2, iv w0_3, .unset, .unset, .unset, .unset, .unset, .unset, .unset, .unset] [(.long q1), (.long q0), (.int w0_2)])) _
    refine XS.lload X19.here hx rfl (hb hby at_56) rfl ?_
    show Steps p.tables e below (T19.setTop (mkF m 58 #[.val (.long q0), .second, .val (.long q1), .second, .val (.long q2), .second, .val (.long q3), .second, iv p4, iv w0_1, rv b8, iv w0_2, iv w0_3, .unset, .unset, .unset, .unset, .unset, .unset, .unset, .unset] [(.long q2), (.long q1), (.long q0), (.int w0_2)])) _
    refine XS.lload X19.here hx rfl (hb hby at_58) rfl ?_
    exact k
  obtain ⟨_, _, ⟨T22, L22, k22, n22⟩, -, X22, ⟨Lc22, hQ22, l22, y22, z22⟩, st22⟩ := Jvm.LawKit.callS X19 hx (y := (⟨"com/example/lexarray/lexarray/model/BitsAtPinLaw", "pick", "(IJJJJ)J"⟩ : MethodName)) hown (mvT hZ (own_h hw 2 rfl)) (mvT hZ (own_h hw 3 rfl)) (mvT hZ (own_h hw 4 rfl)) (mvT hZ (own_h hw 5 rfl)) (by decide) (backOf (W := 0) (rm1 l Z aZ hw [] w0_2 q0 q1 q2 q3 h19 n0 Z21 ) hZ (own_h hw 5 rfl) (own_h hw 4 rfl) (by decide) (by decide)) (g := (mkF m 60 #[.val (.long q0), .second, .val (.long q1), .second, .val (.long q2), .second, .val (.long q3), .second, iv p4, iv w0_1, rv b8, iv w0_2, iv w0_3, .unset, .unset, .unset, .unset, .unset, .unset, .unset, .unset] [(.long q3), (.long q2), (.long q1), (.long q0), (.int w0_2)])) rfl (by rw [hml]; rfl) (argsL := [(.int w0_2), (.long q0), (.long q1), (.long q2), (.long q3)]) (rest := []) (lenOf own_pd0 rfl) rfl (by show 2 * 0 + _ ≤ _; exact Nat.le_of_eq rfl) (hb hby at_60) (fun _ _ => ⟨rfl, e19, (by decide : 1 + 0 ≤ _), (by decide : 4 + 0 ≤ _)⟩)
  dsimp only [Pt.U, Pt.locs, Pt.cells, Pt.slots] at X22 l22 y22 z22 st22 hQ22
  subst l22 y22 z22
  obtain ⟨rfl, N22q, eh22⟩ := hQ22
  have N22 := Fr.app N19 N22q
  refine own_pre st22 ?_
  obtain ⟨w0_4, hw0_4⟩ : ∃ z : Int64, z = (f1 w0_2 q0 q1 q2 q3) := ⟨_, rfl⟩
  refine own_pre (A := T22.setTop (mkF m 75 #[.val (.long q0), .second, .val (.long q1), .second, .val (.long q2), .second, .val (.long q3), .second, iv p4, iv w0_1, rv b8, iv w0_2, iv w0_3, .val (.long w0_4), .second, .unset, .unset, .unset, .unset, .unset, .unset] [(.long q3), (.long q2), (.long q1), (.long q0), (.int (w0_2 + (1:Int32)))])) (fun t k => ?_) ?_
  · show Steps p.tables e below (T22.setTop (mkF m 63 #[.val (.long q0), .second, .val (.long q1), .second, .val (.long q2), .second, .val (.long q3), .second, iv p4, iv w0_1, rv b8, iv w0_2, iv w0_3, .unset, .unset, .unset, .unset, .unset, .unset, .unset, .unset] [(.long (f1 w0_2 q0 q1 q2 q3))])) _
    refine XS.lstore X22.here hx rfl (hb hby at_63) rfl (l' := #[.val (.long q0), .second, .val (.long q1), .second, .val (.long q2), .second, .val (.long q3), .second, iv p4, iv w0_1, rv b8, iv w0_2, iv w0_3, .val (.long w0_4), .second, .unset, .unset, .unset, .unset, .unset, .unset]) (by rw [hw0_4]; rfl) ?_
    show Steps p.tables e below (T22.setTop (mkF m 65 #[.val (.long q0), .second, .val (.long q1), .second, .val (.long q2), .second, .val (.long q3), .second, iv p4, iv w0_1, rv b8, iv w0_2, iv w0_3, .val (.long w0_4), .second, .unset, .unset, .unset, .unset, .unset, .unset] [])) _
    refine XS.iload X22.here hx rfl (hb hby at_65) rfl ?_
    show Steps p.tables e below (T22.setTop (mkF m 67 #[.val (.long q0), .second, .val (.long q1), .second, .val (.long q2), .second, .val (.long q3), .second, iv p4, iv w0_1, rv b8, iv w0_2, iv w0_3, .val (.long w0_4), .second, .unset, .unset, .unset, .unset, .unset, .unset] [(.int w0_2)])) _
    refine XS.iconst X22.here hx rfl (hb hby at_67) ?_
    show Steps p.tables e below (T22.setTop (mkF m 68 #[.val (.long q0), .second, .val (.long q1), .second, .val (.long q2), .second, .val (.long q3), .second, iv p4, iv w0_1, rv b8, iv w0_2, iv w0_3, .val (.long w0_4), .second, .unset, .unset, .unset, .unset, .unset, .unset] [(.int (1:Int32)), (.int w0_2)])) _
    refine XS.iadd X22.here hx rfl (hb hby at_68) rfl ?_
    show Steps p.tables e below (T22.setTop (mkF m 69 #[.val (.long q0), .second, .val (.long q1), .second, .val (.long q2), .second, .val (.long q3), .second, iv p4, iv w0_1, rv b8, iv w0_2, iv w0_3, .val (.long w0_4), .second, .unset, .unset, .unset, .unset, .unset, .unset] [(.int (w0_2 + (1:Int32)))])) _
    refine XS.lloadN X22.here hx rfl (hb hby at_69) rfl ?_
    show Steps p.tables e below (T22.setTop (mkF m 70 #[.val (.long q0), .second, .val (.long q1), .second, .val (.long q2), .second, .val (.long q3), .second, iv p4, iv w0_1, rv b8, iv w0_2, iv w0_3, .val (.long w0_4), .second, .unset, .unset, .unset, .unset, .unset, .unset] [(.long q0), (.int (w0_2 + (1:Int32)))])) _
    refine XS.lloadN X22.here hx rfl (hb hby at_70) rfl ?_
    show Steps p.tables e below (T22.setTop (mkF m 71 #[.val (.long q0), .second, .val (.long q1), .second, .val (.long q2), .second, .val (.long q3), .second, iv p4, iv w0_1, rv b8, iv w0_2, iv w0_3, .val (.long w0_4), .second, .unset, .unset, .unset, .unset, .unset, .unset] [(.long q1), (.long q0), (.int (w0_2 + (1:Int32)))])) _
    refine XS.lload X22.here hx rfl (hb hby at_71) rfl ?_
    show Steps p.tables e below (T22.setTop (mkF m 73 #[.val (.long q0), .second, .val (.long q1), .second, .val (.long q2), .second, .val (.long q3), .second, iv p4, iv w0_1, rv b8, iv w0_2, iv w0_3, .val (.long w0_4), .second, .unset, .unset, .unset, .unset, .unset, .unset] [(.long q2), (.long q1), (.long q0), (.int (w0_2 + (1:Int32)))])) _
    refine XS.lload X22.here hx rfl (hb hby at_73) rfl ?_
    exact k
  obtain ⟨_, _, ⟨T23, L23, k23, n23⟩, -, X23, ⟨Lc23, hQ23, l23, y23, z23⟩, st23⟩ := Jvm.LawKit.callS X22 hx (y := (⟨"com/example/lexarray/lexarray/model/BitsAtPinLaw", "pick", "(IJJJJ)J"⟩ : MethodName)) hown (mvT hZ (own_h hw 2 rfl)) (mvT hZ (own_h hw 3 rfl)) (mvT hZ (own_h hw 4 rfl)) (mvT hZ (own_h hw 5 rfl)) (by decide) (backOf (W := 0) (rm1 l Z aZ hw [] (w0_2 + (1:Int32)) q0 q1 q2 q3 h19 n0 Z21 ) hZ (own_h hw 5 rfl) (own_h hw 4 rfl) (by decide) (by decide)) (g := (mkF m 75 #[.val (.long q0), .second, .val (.long q1), .second, .val (.long q2), .second, .val (.long q3), .second, iv p4, iv w0_1, rv b8, iv w0_2, iv w0_3, .val (.long w0_4), .second, .unset, .unset, .unset, .unset, .unset, .unset] [(.long q3), (.long q2), (.long q1), (.long q0), (.int (w0_2 + (1:Int32)))])) rfl (by rw [hml]; rfl) (argsL := [(.int (w0_2 + (1:Int32))), (.long q0), (.long q1), (.long q2), (.long q3)]) (rest := []) (lenOf own_pd0 rfl) rfl (by show 2 * 0 + _ ≤ _; exact Nat.le_of_eq rfl) (hb hby at_75) (fun _ _ => ⟨rfl, eh22, (by decide : 1 + 0 ≤ _), (by decide : 4 + 0 ≤ _)⟩)
  dsimp only [Pt.U, Pt.locs, Pt.cells, Pt.slots] at X23 l23 y23 z23 st23 hQ23
  subst l23 y23 z23
  obtain ⟨rfl, N23q, eh23⟩ := hQ23
  have N23 := Fr.app N22 N23q
  refine own_pre st23 ?_
  obtain ⟨w0_5, hw0_5⟩ : ∃ z : Int64, z = (f1 (w0_2 + (1:Int32)) q0 q1 q2 q3) := ⟨_, rfl⟩
  refine own_pre (A := T23.setTop (mkF m 82 #[.val (.long q0), .second, .val (.long q1), .second, .val (.long q2), .second, .val (.long q3), .second, iv p4, iv w0_1, rv b8, iv w0_2, iv w0_3, .val (.long w0_4), .second, .val (.long w0_5), .second, .unset, .unset, .unset, .unset] [(.int w0_3)])) (fun t k => ?_) ?_
  · show Steps p.tables e below (T23.setTop (mkF m 78 #[.val (.long q0), .second, .val (.long q1), .second, .val (.long q2), .second, .val (.long q3), .second, iv p4, iv w0_1, rv b8, iv w0_2, iv w0_3, .val (.long w0_4), .second, .unset, .unset, .unset, .unset, .unset, .unset] [(.long (f1 (w0_2 + (1:Int32)) q0 q1 q2 q3))])) _
    refine XS.lstore X23.here hx rfl (hb hby at_78) rfl (l' := #[.val (.long q0), .second, .val (.long q1), .second, .val (.long q2), .second, .val (.long q3), .second, iv p4, iv w0_1, rv b8, iv w0_2, iv w0_3, .val (.long w0_4), .second, .val (.long w0_5), .second, .unset, .unset, .unset, .unset]) (by rw [hw0_5]; rfl) ?_
    show Steps p.tables e below (T23.setTop (mkF m 80 #[.val (.long q0), .second, .val (.long q1), .second, .val (.long q2), .second, .val (.long q3), .second, iv p4, iv w0_1, rv b8, iv w0_2, iv w0_3, .val (.long w0_4), .second, .val (.long w0_5), .second, .unset, .unset, .unset, .unset] [])) _
    refine XS.iload X23.here hx rfl (hb hby at_80) rfl ?_
    exact k
  obtain ⟨w0_6, hw0_6⟩ : ∃ z : Int64, z = (if w0_3 = (0:Int32) then w0_4 else (((w0_4.toUInt64 >>> (w0_3 &&& 0x3f).toInt64.toUInt64).toInt64) ||| (w0_5 <<< (((64:Int32) - w0_3) &&& 0x3f).toInt64))) := ⟨_, rfl⟩
  refine own_pre (A := T23.setTop (mkF m 108 #[.val (.long q0), .second, .val (.long q1), .second, .val (.long q2), .second, .val (.long q3), .second, iv p4, iv w0_1, rv b8, iv w0_2, iv w0_3, .val (.long w0_4), .second, .val (.long w0_5), .second, .val (.long w0_6), .second, .unset, .unset] [])) (fun t k => ?_) ?_
  · show Steps p.tables e below (T23.setTop (mkF m 82 #[.val (.long q0), .second, .val (.long q1), .second, .val (.long q2), .second, .val (.long q3), .second, iv p4, iv w0_1, rv b8, iv w0_2, iv w0_3, .val (.long w0_4), .second, .val (.long w0_5), .second, .unset, .unset, .unset, .unset] [(.int w0_3)])) _
    by_cases hm82_1 : w0_3 = (0:Int32)
    · refine XS.ifNo X23.here hx rfl (hb hby at_82) rfl (XT.i0_ne_f hm82_1) ?_
      show Steps p.tables e below (T23.setTop (mkF m 85 #[.val (.long q0), .second, .val (.long q1), .second, .val (.long q2), .second, .val (.long q3), .second, iv p4, iv w0_1, rv b8, iv w0_2, iv w0_3, .val (.long w0_4), .second, .val (.long w0_5), .second, .unset, .unset, .unset, .unset] [])) _
      refine XS.lload X23.here hx rfl (hb hby at_85) rfl ?_
      show Steps p.tables e below (T23.setTop (mkF m 87 #[.val (.long q0), .second, .val (.long q1), .second, .val (.long q2), .second, .val (.long q3), .second, iv p4, iv w0_1, rv b8, iv w0_2, iv w0_3, .val (.long w0_4), .second, .val (.long w0_5), .second, .unset, .unset, .unset, .unset] [(.long w0_4)])) _
      refine XS.lstore X23.here hx rfl (hb hby at_87) rfl (l' := #[.val (.long q0), .second, .val (.long q1), .second, .val (.long q2), .second, .val (.long q3), .second, iv p4, iv w0_1, rv b8, iv w0_2, iv w0_3, .val (.long w0_4), .second, .val (.long w0_5), .second, .val (.long w0_4), .second, .unset, .unset]) rfl ?_
      show Steps p.tables e below (T23.setTop (mkF m 89 #[.val (.long q0), .second, .val (.long q1), .second, .val (.long q2), .second, .val (.long q3), .second, iv p4, iv w0_1, rv b8, iv w0_2, iv w0_3, .val (.long w0_4), .second, .val (.long w0_5), .second, .val (.long w0_4), .second, .unset, .unset] [])) _
      refine XS.goto X23.here hx rfl (pc0 := 89) (pc' := 108) rfl (hb hby at_89) (by decide) (by decide) ?_
      rw [hw0_6.trans (if_pos hm82_1)] at k
      exact k
    · refine XS.ifYes X23.here hx rfl (pc0 := 82) (pc' := 92) rfl (hb hby at_82) rfl (XT.i0_ne_t hm82_1) (by decide) (by decide) ?_
      show Steps p.tables e below (T23.setTop (mkF m 92 #[.val (.long q0), .second, .val (.long q1), .second, .val (.long q2), .second, .val (.long q3), .second, iv p4, iv w0_1, rv b8, iv w0_2, iv w0_3, .val (.long w0_4), .second, .val (.long w0_5), .second, .unset, .unset, .unset, .unset] [])) _
      refine XS.lload X23.here hx rfl (hb hby at_92) rfl ?_
      show Steps p.tables e below (T23.setTop (mkF m 94 #[.val (.long q0), .second, .val (.long q1), .second, .val (.long q2), .second, .val (.long q3), .second, iv p4, iv w0_1, rv b8, iv w0_2, iv w0_3, .val (.long w0_4), .second, .val (.long w0_5), .second, .unset, .unset, .unset, .unset] [(.long w0_4)])) _
      refine XS.iload X23.here hx rfl (hb hby at_94) rfl ?_
      show Steps p.tables e below (T23.setTop (mkF m 96 #[.val (.long q0), .second, .val (.long q1), .second, .val (.long q2), .second, .val (.long q3), .second, iv p4, iv w0_1, rv b8, iv w0_2, iv w0_3, .val (.long w0_4), .second, .val (.long w0_5), .second, .unset, .unset, .unset, .unset] [(.int w0_3), (.long w0_4)])) _
      refine XS.lushr X23.here hx rfl (hb hby at_96) rfl ?_
      show Steps p.tables e below (T23.setTop (mkF m 97 #[.val (.long q0), .second, .val (.long q1), .second, .val (.long q2), .second, .val (.long q3), .second, iv p4, iv w0_1, rv b8, iv w0_2, iv w0_3, .val (.long w0_4), .second, .val (.long w0_5), .second, .unset, .unset, .unset, .unset] [(.long ((w0_4.toUInt64 >>> (w0_3 &&& 0x3f).toInt64.toUInt64).toInt64))])) _
      refine XS.lload X23.here hx rfl (hb hby at_97) rfl ?_
      show Steps p.tables e below (T23.setTop (mkF m 99 #[.val (.long q0), .second, .val (.long q1), .second, .val (.long q2), .second, .val (.long q3), .second, iv p4, iv w0_1, rv b8, iv w0_2, iv w0_3, .val (.long w0_4), .second, .val (.long w0_5), .second, .unset, .unset, .unset, .unset] [(.long w0_5), (.long ((w0_4.toUInt64 >>> (w0_3 &&& 0x3f).toInt64.toUInt64).toInt64))])) _
      refine XS.bipush X23.here hx rfl (hb hby at_99) ?_
      show Steps p.tables e below (T23.setTop (mkF m 101 #[.val (.long q0), .second, .val (.long q1), .second, .val (.long q2), .second, .val (.long q3), .second, iv p4, iv w0_1, rv b8, iv w0_2, iv w0_3, .val (.long w0_4), .second, .val (.long w0_5), .second, .unset, .unset, .unset, .unset] [(.int (64:Int32)), (.long w0_5), (.long ((w0_4.toUInt64 >>> (w0_3 &&& 0x3f).toInt64.toUInt64).toInt64))])) _
      refine XS.iload X23.here hx rfl (hb hby at_101) rfl ?_
      show Steps p.tables e below (T23.setTop (mkF m 103 #[.val (.long q0), .second, .val (.long q1), .second, .val (.long q2), .second, .val (.long q3), .second, iv p4, iv w0_1, rv b8, iv w0_2, iv w0_3, .val (.long w0_4), .second, .val (.long w0_5), .second, .unset, .unset, .unset, .unset] [(.int w0_3), (.int (64:Int32)), (.long w0_5), (.long ((w0_4.toUInt64 >>> (w0_3 &&& 0x3f).toInt64.toUInt64).toInt64))])) _
      refine XS.isub X23.here hx rfl (hb hby at_103) rfl ?_
      show Steps p.tables e below (T23.setTop (mkF m 104 #[.val (.long q0), .second, .val (.long q1), .second, .val (.long q2), .second, .val (.long q3), .second, iv p4, iv w0_1, rv b8, iv w0_2, iv w0_3, .val (.long w0_4), .second, .val (.long w0_5), .second, .unset, .unset, .unset, .unset] [(.int ((64:Int32) - w0_3)), (.long w0_5), (.long ((w0_4.toUInt64 >>> (w0_3 &&& 0x3f).toInt64.toUInt64).toInt64))])) _
      refine XS.lshl X23.here hx rfl (hb hby at_104) rfl ?_
      show Steps p.tables e below (T23.setTop (mkF m 105 #[.val (.long q0), .second, .val (.long q1), .second, .val (.long q2), .second, .val (.long q3), .second, iv p4, iv w0_1, rv b8, iv w0_2, iv w0_3, .val (.long w0_4), .second, .val (.long w0_5), .second, .unset, .unset, .unset, .unset] [(.long (w0_5 <<< (((64:Int32) - w0_3) &&& 0x3f).toInt64)), (.long ((w0_4.toUInt64 >>> (w0_3 &&& 0x3f).toInt64.toUInt64).toInt64))])) _
      refine XS.lor X23.here hx rfl (hb hby at_105) rfl ?_
      show Steps p.tables e below (T23.setTop (mkF m 106 #[.val (.long q0), .second, .val (.long q1), .second, .val (.long q2), .second, .val (.long q3), .second, iv p4, iv w0_1, rv b8, iv w0_2, iv w0_3, .val (.long w0_4), .second, .val (.long w0_5), .second, .unset, .unset, .unset, .unset] [(.long (((w0_4.toUInt64 >>> (w0_3 &&& 0x3f).toInt64.toUInt64).toInt64) ||| (w0_5 <<< (((64:Int32) - w0_3) &&& 0x3f).toInt64)))])) _
      refine XS.lstore X23.here hx rfl (hb hby at_106) rfl (l' := #[.val (.long q0), .second, .val (.long q1), .second, .val (.long q2), .second, .val (.long q3), .second, iv p4, iv w0_1, rv b8, iv w0_2, iv w0_3, .val (.long w0_4), .second, .val (.long w0_5), .second, .val (.long (((w0_4.toUInt64 >>> (w0_3 &&& 0x3f).toInt64.toUInt64).toInt64) ||| (w0_5 <<< (((64:Int32) - w0_3) &&& 0x3f).toInt64))), .second, .unset, .unset]) rfl ?_
      rw [hw0_6.trans (if_neg hm82_1)] at k
      exact k
  refine own_pre (A := T23.setTop (mkF m 113 #[.val (.long q0), .second, .val (.long q1), .second, .val (.long q2), .second, .val (.long q3), .second, iv p4, iv w0_1, rv b8, iv w0_2, iv w0_3, .val (.long w0_4), .second, .val (.long w0_5), .second, .val (.long w0_6), .second, .unset, .unset] [(.long (w0_1.toInt64)), (.ref b8)])) (fun t k => ?_) ?_
  · show Steps p.tables e below (T23.setTop (mkF m 108 #[.val (.long q0), .second, .val (.long q1), .second, .val (.long q2), .second, .val (.long q3), .second, iv p4, iv w0_1, rv b8, iv w0_2, iv w0_3, .val (.long w0_4), .second, .val (.long w0_5), .second, .val (.long w0_6), .second, .unset, .unset] [])) _
    refine XS.aload X23.here hx rfl (hb hby at_108) rfl rfl ?_
    show Steps p.tables e below (T23.setTop (mkF m 110 #[.val (.long q0), .second, .val (.long q1), .second, .val (.long q2), .second, .val (.long q3), .second, iv p4, iv w0_1, rv b8, iv w0_2, iv w0_3, .val (.long w0_4), .second, .val (.long w0_5), .second, .val (.long w0_6), .second, .unset, .unset] [(.ref b8)])) _
    refine XS.iload X23.here hx rfl (hb hby at_110) rfl ?_
    show Steps p.tables e below (T23.setTop (mkF m 112 #[.val (.long q0), .second, .val (.long q1), .second, .val (.long q2), .second, .val (.long q3), .second, iv p4, iv w0_1, rv b8, iv w0_2, iv w0_3, .val (.long w0_4), .second, .val (.long w0_5), .second, .val (.long w0_6), .second, .unset, .unset] [(.int w0_1), (.ref b8)])) _
    refine XS.i2l X23.here hx rfl (hb hby at_112) rfl ?_
    exact k
  obtain ⟨_, _, ⟨T24, L24, k24, n24⟩, -, X24, ⟨Lc24, hQ24, l24, y24, z24⟩, st24⟩ := Jvm.LawKit.callS X23 hx (y := (⟨"com/example/lexarray/lexarray/model/Bits", "at", "([JJ)J"⟩ : MethodName)) hown (mvT hZ (own_h hw 6 rfl)) (mvT hZ (own_h hw 7 rfl)) (mvT hZ (own_h hw 8 rfl)) (mvT hZ (own_h hw 9 rfl)) (by decide) (backOf (W := 0) (rm2 l Z aZ hw [] b8 (w0_1.toInt64) [q0, q1, q2, q3] h19 n0 Z21 Vw19 (own_ix _ _ hw0_1).1 (own_ix _ _ hw0_1).2) hZ (own_h hw 9 rfl) (own_h hw 8 rfl) (by decide) (by decide)) (g := (mkF m 113 #[.val (.long q0), .second, .val (.long q1), .second, .val (.long q2), .second, .val (.long q3), .second, iv p4, iv w0_1, rv b8, iv w0_2, iv w0_3, .val (.long w0_4), .second, .val (.long w0_5), .second, .val (.long w0_6), .second, .unset, .unset] [(.long (w0_1.toInt64)), (.ref b8)])) rfl (by rw [hml]; rfl) (argsL := [(.ref b8), (.long (w0_1.toInt64))]) (rest := []) (lenOf own_pd1 rfl) rfl (by show 2 * 0 + _ ≤ _; exact Nat.le_of_eq rfl) (hb hby at_113) (fun _ _ => ⟨rfl, eh23, (by decide : 1 + 0 ≤ _), (by decide : 4 + 0 ≤ _)⟩)
  dsimp only [Pt.U, Pt.locs, Pt.cells, Pt.slots] at X24 l24 y24 z24 st24 hQ24
  subst l24 y24 z24
  obtain ⟨rfl, N24q, eh24⟩ := hQ24
  have N24 := Fr.app N23 N24q
  refine own_pre st24 ?_
  obtain ⟨w0_7, hw0_7⟩ : ∃ z : Int64, z = (f2 (w0_1.toInt64) [q0, q1, q2, q3]) := ⟨_, rfl⟩
  refine own_pre (A := T24.setTop (mkF m 123 #[.val (.long q0), .second, .val (.long q1), .second, .val (.long q2), .second, .val (.long q3), .second, iv p4, iv w0_1, rv b8, iv w0_2, iv w0_3, .val (.long w0_4), .second, .val (.long w0_5), .second, .val (.long w0_6), .second, .val (.long w0_7), .second] [(.int (XT.cmpL w0_7 w0_6))])) (fun t k => ?_) ?_
  · show Steps p.tables e below (T24.setTop (mkF m 116 #[.val (.long q0), .second, .val (.long q1), .second, .val (.long q2), .second, .val (.long q3), .second, iv p4, iv w0_1, rv b8, iv w0_2, iv w0_3, .val (.long w0_4), .second, .val (.long w0_5), .second, .val (.long w0_6), .second, .unset, .unset] [(.long (f2 (w0_1.toInt64) [q0, q1, q2, q3]))])) _
    refine XS.lstore X24.here hx rfl (hb hby at_116) rfl (l' := #[.val (.long q0), .second, .val (.long q1), .second, .val (.long q2), .second, .val (.long q3), .second, iv p4, iv w0_1, rv b8, iv w0_2, iv w0_3, .val (.long w0_4), .second, .val (.long w0_5), .second, .val (.long w0_6), .second, .val (.long w0_7), .second]) (by rw [hw0_7]; rfl) ?_
    show Steps p.tables e below (T24.setTop (mkF m 118 #[.val (.long q0), .second, .val (.long q1), .second, .val (.long q2), .second, .val (.long q3), .second, iv p4, iv w0_1, rv b8, iv w0_2, iv w0_3, .val (.long w0_4), .second, .val (.long w0_5), .second, .val (.long w0_6), .second, .val (.long w0_7), .second] [])) _
    refine XS.lload X24.here hx rfl (hb hby at_118) rfl ?_
    show Steps p.tables e below (T24.setTop (mkF m 120 #[.val (.long q0), .second, .val (.long q1), .second, .val (.long q2), .second, .val (.long q3), .second, iv p4, iv w0_1, rv b8, iv w0_2, iv w0_3, .val (.long w0_4), .second, .val (.long w0_5), .second, .val (.long w0_6), .second, .val (.long w0_7), .second] [(.long w0_7)])) _
    refine XS.lload X24.here hx rfl (hb hby at_120) rfl ?_
    show Steps p.tables e below (T24.setTop (mkF m 122 #[.val (.long q0), .second, .val (.long q1), .second, .val (.long q2), .second, .val (.long q3), .second, iv p4, iv w0_1, rv b8, iv w0_2, iv w0_3, .val (.long w0_4), .second, .val (.long w0_5), .second, .val (.long w0_6), .second, .val (.long w0_7), .second] [(.long w0_6), (.long w0_7)])) _
    refine XT.lcmp X24.here hx rfl (hb hby at_122) rfl ?_
    exact k
  obtain ⟨w0_8, hw0_8⟩ : ∃ z : Int32, z = (if w0_7 = w0_6 then (1:Int32) else (0:Int32)) := ⟨_, rfl⟩
  refine own_pre (A := T24.setTop (mkF m 131 #[.val (.long q0), .second, .val (.long q1), .second, .val (.long q2), .second, .val (.long q3), .second, iv p4, iv w0_1, rv b8, iv w0_2, iv w0_3, .val (.long w0_4), .second, .val (.long w0_5), .second, .val (.long w0_6), .second, .val (.long w0_7), .second] [(.int w0_8)])) (fun t k => ?_) ?_
  · show Steps p.tables e below (T24.setTop (mkF m 123 #[.val (.long q0), .second, .val (.long q1), .second, .val (.long q2), .second, .val (.long q3), .second, iv p4, iv w0_1, rv b8, iv w0_2, iv w0_3, .val (.long w0_4), .second, .val (.long w0_5), .second, .val (.long w0_6), .second, .val (.long w0_7), .second] [(.int (XT.cmpL w0_7 w0_6))])) _
    by_cases hm123_2 : w0_7 = w0_6
    · refine XS.ifNo X24.here hx rfl (hb hby at_123) rfl (XT.ll_ne_f hm123_2) ?_
      show Steps p.tables e below (T24.setTop (mkF m 126 #[.val (.long q0), .second, .val (.long q1), .second, .val (.long q2), .second, .val (.long q3), .second, iv p4, iv w0_1, rv b8, iv w0_2, iv w0_3, .val (.long w0_4), .second, .val (.long w0_5), .second, .val (.long w0_6), .second, .val (.long w0_7), .second] [])) _
      refine XS.iconst X24.here hx rfl (hb hby at_126) ?_
      show Steps p.tables e below (T24.setTop (mkF m 127 #[.val (.long q0), .second, .val (.long q1), .second, .val (.long q2), .second, .val (.long q3), .second, iv p4, iv w0_1, rv b8, iv w0_2, iv w0_3, .val (.long w0_4), .second, .val (.long w0_5), .second, .val (.long w0_6), .second, .val (.long w0_7), .second] [(.int (1:Int32))])) _
      refine XS.goto X24.here hx rfl (pc0 := 127) (pc' := 131) rfl (hb hby at_127) (by decide) (by decide) ?_
      rw [hw0_8.trans (if_pos hm123_2)] at k
      exact k
    · refine XS.ifYes X24.here hx rfl (pc0 := 123) (pc' := 130) rfl (hb hby at_123) rfl (XT.ll_ne_t hm123_2) (by decide) (by decide) ?_
      show Steps p.tables e below (T24.setTop (mkF m 130 #[.val (.long q0), .second, .val (.long q1), .second, .val (.long q2), .second, .val (.long q3), .second, iv p4, iv w0_1, rv b8, iv w0_2, iv w0_3, .val (.long w0_4), .second, .val (.long w0_5), .second, .val (.long w0_6), .second, .val (.long w0_7), .second] [])) _
      refine XS.iconst X24.here hx rfl (hb hby at_130) ?_
      rw [hw0_8.trans (if_neg hm123_2)] at k
      exact k
  have hv25 : (w0_8 &&& 1) = f0 q0 q1 q2 q3 p4 := by subst hw0_1 hw0_2 hw0_3 hw0_4 hw0_5 hw0_6 hw0_7 hw0_8; rfl
  exact own_end X24 (BodyLoose.notSynchronized Bd) (fun h => by rw [Bd.returns] at h; cases h) (v := some (.int (w0_8 &&& 1))) (fun fs hr => retN X24 hx (t := .boolean) Bd.returns (by simp) (hb hby at_131) hr) (by show Q0 Z q0 q1 q2 q3 p4 h0 n0 _ T24.heap _; rw [eh24]; exact ⟨(congrArg (fun z => some (Value.int z)) hv25), N24⟩) (by decide) (by decide)
theorem own_three (j : Int32) (h0 : 0 ≤ j.toInt) (h1 : j.toInt < 3) : j = 0 ∨ j = 1 ∨ j = 2 := by
  have l0 : (0:Int32).toInt = 0 := by decide
  have l1 : (1:Int32).toInt = 1 := by decide
  have l2 : (2:Int32).toInt = 2 := by decide
  simp only [← Int32.toInt_inj, l0, l1, l2]; omega
theorem own_plain (q0 q1 q2 q3 : Int64) (p4 : Int32) : f0 q0 q1 q2 q3 p4 = 1 := by
  simp only [f0]
  obtain ⟨w, hw⟩ : ∃ w : Int32, w = ((p4 &&& (2147483647:Int32)) % (192:Int32)) := ⟨_, rfl⟩
  obtain ⟨h0, h1⟩ := own_b p4 w hw
  rw [← hw]
  have hk := own_q w h0
  have hs := own_r w h0
  have hid := own_idx w h0 h1
  have hp : ∀ j : Int32, 0 ≤ j.toInt → j.toInt < 3 → f1 j q0 q1 q2 q3 = own_atJ [q0, q1, q2, q3] j ∧ f1 (j + 1) q0 q1 q2 q3 = own_atJ [q0, q1, q2, q3] (j + 1) := by
    intro j a b
    rcases own_three j a b with rfl | rfl | rfl <;> exact ⟨rfl, rfl⟩
  obtain ⟨p1, p2⟩ := hp (w / 64) (by omega) (by omega)
  have key : f2 (w.toInt64) [q0, q1, q2, q3] = (if w % 64 = 0 then own_atJ [q0, q1, q2, q3] (w / 64) else (((own_atJ [q0, q1, q2, q3] (w / 64)).toUInt64 >>> ((w % 64) &&& 0x3f).toInt64.toUInt64).toInt64) ||| ((own_atJ [q0, q1, q2, q3] (w / 64 + 1)) <<< (((64:Int32) - w % 64) &&& 0x3f).toInt64)) := by
    simp only [f2, hid]
    generalize own_atJ [q0, q1, q2, q3] (w / 64) = lo
    generalize own_atJ [q0, q1, q2, q3] (w / 64 + 1) = hi
    obtain ⟨j, hj⟩ : ∃ j : Nat, w.toInt % 64 = (j : Int) := ⟨(w.toInt % 64).toNat, by omega⟩
    have hl : j < 64 := by omega
    have l63 : (63:Int64).toInt = 63 := by decide
    have l64 : (64:Int32).toInt = 64 := by decide
    have l1 : (1:Int32).toInt = 1 := by decide
    have e1 : w.toInt64.toInt = w.toInt := Int32.toInt_toInt64 w
    have a1 : w.toInt64.toInt32.toInt % 64 = (j : Int) := by rw [Jvm.Kit.i32_of_i64 (by rw [e1]; omega) (by rw [e1]; omega), e1]; exact hj
    have m1 : (w.toInt64 &&& 63).toInt = w.toInt % 64 := by rw [Jvm.Kit.i64_mask _ _ (k := 6) (by decide) (by decide), e1]; rfl
    have m2 : ((63:Int64) - (w.toInt64 &&& 63)).toInt = 63 - w.toInt % 64 := by rw [Jvm.Kit.i64_sub (by rw [m1, l63]; omega) (by rw [m1, l63]; omega), m1, l63]
    have a2 : ((63:Int64) - (w.toInt64 &&& 63)).toInt32.toInt % 64 = ((63 - j : Nat) : Int) := by rw [Jvm.Kit.i32_of_i64 (by rw [m2]; omega) (by rw [m2]; omega), m2]; omega
    have a3 : (1:Int32).toInt % 64 = ((1 : Nat) : Int) := by decide
    rw [← Int64.toBitVec_inj, Int64.toBitVec_or, own_lushr lo a1, own_lshl _ a2, own_lshl hi a3, own_shl1 _ _ hl]
    by_cases z : w % 64 = 0
    · have : j = 0 := by
        have := congrArg Int32.toInt z
        rw [hs] at this
        have l0 : (0:Int32).toInt = 0 := by decide
        omega
      rw [if_pos this, if_pos z, this]; simp
    · have nz : ¬ j = 0 := by
        intro q; apply z
        have l0 : (0:Int32).toInt = 0 := by decide
        rw [← Int32.toInt_inj, hs, l0]; omega
      have a4 : (w % 64).toInt % 64 = (j : Int) := by rw [hs]; omega
      have s1 : ((64:Int32) - w % 64).toInt = 64 - w.toInt % 64 := by rw [Jvm.Kit.i32_sub (by rw [hs, l64]; omega) (by rw [hs, l64]; omega), hs, l64]
      have a5 : ((64:Int32) - w % 64).toInt % 64 = ((64 - j : Nat) : Int) := by rw [s1]; omega
      rw [if_neg nz, if_neg z, Int64.toBitVec_or, own_lushr lo a4, own_lshl hi a5]
  rw [p1, p2, ← key, if_pos rfl]; rfl
set_option maxRecDepth 65536 in
set_option maxHeartbeats 40000000 in
theorem comes_1 {Post : Tables → Env → Array Value → State → Outcome → State → Prop} (hpost : ∀ tb e args s v u, (limb_1_1.after args s (.returned v) u = true ∧ limb_1_2.after args s (.returned v) u = true ∧ True) → FrameEnd s (.returned v) u (Jvm.fieldLocs frame_1_writes args s ++ Jvm.arrayLocs frame_1_arrays args s ++ Jvm.staticLocs frame_1_statics s) 16 128 → Post tb e args s (.returned v) u) :
    ArmFor flags0 classFile x code maxLocals ret World_1 tables_1 room_1 Calls_1 rest_1 Pre_1 Post := by
  intro l hfl _ _ p e ha hc hk s m args below hf hA hF happ hP
  obtain ⟨hcalls, hrest, hpre⟩ := hP
  obtain ⟨-, -, -, hnamed, -, -, -, hat⟩ := (Spec.applies_iff hf).mp happ
  obtain ⟨hg, hn⟩ := and_e (Cond.before_iff.mp (show (Jvm.Cond.and given_1 narrow_1).before args s = true from hpre))
  obtain ⟨g2, g3⟩ := and_e hg
  obtain ⟨g4, g5⟩ := and_e g3
  obtain ⟨g6, g7⟩ := and_e g5
  obtain ⟨g8, g9⟩ := and_e g7
  obtain ⟨g10, g11⟩ := and_e g9
  obtain ⟨w0, w1, w2, w3, w4, rfl⟩ : ∃ w0 w1 w2 w3 w4 : Value, args = #[w0, w1, w2, w3, w4] := by
    have hs : args.size = 5 := by simpa [Cond.value, given_1] using g2
    obtain ⟨L⟩ := args
    match L, hs with
    | [w0, w1, w2, w3, w4], _ => exact ⟨w0, w1, w2, w3, w4, rfl⟩
  have hw := fun d (hd : d ∈ tables_1) => atoms_spec (ws := Jvm.Cond.code x code maxLocals ret :: tables_1) hat d (List.mem_cons_of_mem _ hd)
  obtain ⟨i0, ei0⟩ := isL_v g4
  obtain rfl : w0 = (.long i0) := Option.some.inj ei0
  obtain ⟨i1, ei1⟩ := isL_v g6
  obtain rfl : w1 = (.long i1) := Option.some.inj ei1
  obtain ⟨i2, ei2⟩ := isL_v g8
  obtain rfl : w2 = (.long i2) := Option.some.inj ei2
  obtain ⟨i3, ei3⟩ := isL_v g10
  obtain rfl : w3 = (.long i3) := Option.some.inj ei3
  obtain ⟨i4, ei4⟩ := is_v g11
  obtain rfl : w4 = (.int i4) := Option.some.inj ei4
  obtain ⟨n, o, h1, h2, h3, _, L, rfl, ⟨hv, N⟩, hq⟩ := rm0 l s _ hw tables_1 i0 i1 i2 i3 i4 s.heap s.heap.size (Nat.le_refl _)  p e ha hc hk s m _ below hf ((Spec.applies_iff_loose hf).mp happ).1 ⟨rfl, State.Warmed39.refl s, rfl⟩ trivial
  rw [own_plain] at hv
  subst hv
  refine ⟨n, _, h1, h2, h3, hpost _ _ _ _ _ _ ⟨Cond.after_iff.mpr rfl, Cond.after_iff.mpr (eq_i res_at (Term.int_eval (1)) rfl), trivial⟩ ⟨hq.1, hq.2.1, (hq.2.2.sift fun y hy => Or.inr (N y hy)).mono (by decide) (by decide)⟩⟩
theorem main_1_1 : Claimed_1_1 := comes_1 fun _ _ _ _ _ _ h hF => ⟨h.1, hF⟩
theorem main_1_2 : Claimed_1_2 := comes_1 fun _ _ _ _ _ _ h hF => ⟨h.2.1, hF⟩
end Jvm.Pilot.@@N@@
namespace Jvm.Pilot.@@N@@
open Jvm Jvm.ClassFile Sem Op Lib Jvm.Free Jvm.Stand Jvm.Pilot.@@N@@.Jvm.D
/-! MADE BY PROGRAM (witnessworld.py) out of the Statement's table words and the real class files: 11 classes; the members and pool entries that the words name. The judged class is class 1, her method 2. -/
namespace start1
open Jvm.ClassFile
def u (s : String) : CpInfo := .utf8 (stringToUtf16 s)
/-- a pool by its gaps: so many unusable entries, then the entry; so many at the end -/
def gap : Nat → List CpInfo → List CpInfo
  | 0, r => r
  | n + 1, r => .unusable :: gap n r
def poolList (es : List (Nat × CpInfo)) (last : Nat) : List CpInfo := es.foldr (fun e r => gap e.1 (e.2 :: r)) (gap last [])
def pool (es : List (Nat × CpInfo)) (last : Nat) : Array CpInfo := ⟨poolList es last⟩
def fileOf (pool : Array CpInfo) (this : Nat) (attrs : Array Attribute := #[]) (ms : Array MethodInfo := #[]) (fl : Nat := 33) (sup : Nat := 0) (ifs : Array Nat := #[]) (fds : Array FieldInfo := #[]) : ClassFile where
  minorVersion := 0
  majorVersion := 65
  constantPool := pool
  accessFlags := fl
  thisClass := this
  superClass := sup
  interfaces := ifs
  fields := fds
  methods := ms
  attributes := attrs
def plain (name : String) (sup : Option ClassId) : Class where
  name := name
  kind := .ordinary
  loader := none
  accessFlags := 33
  super := sup
  interfaces := #[]
  cf := none
  fields := #[]
  methods := #[]
  instanceTypes := #[]
  staticTypes := #[]
  resolved := #[]
  callSites := []
  init := .initialized
  statics := none
  mirror := none

def pool0 : Array CpInfo := pool [(5, u "<init>"), (0, u "()V"), (1, .class_ 10), (1, u "java/lang/Object")] 113

def k0m0 : Method := { name := "<init>", desc := "()V", sig := { parameters := [], returnType := none }, accessFlags := 1, code := none }
/-- java/lang/Object -/
def k0 : Class := { plain "java/lang/Object" none with
  accessFlags := 33
  interfaces := #[]
  cf := some (fileOf pool0 8 #[] #[{ accessFlags := 1, nameIndex := 5, descriptorIndex := 6, attributes := #[] }] 33 0 #[] #[])
  fields := #[]
  methods := #[k0m0]
  instanceTypes := #[]
  staticTypes := #[]
  resolved := Array.replicate 124 none
  statics := none }

def pool1 : Array CpInfo := pool [(2, .class_ 4), (1, u "java/lang/Object"), (0, u "<init>"), (0, u "()V"), (0, .integer 2147483647), (0, .methodref 9 10), (0, .class_ 11), (0, .nameAndType 12 13), (0, u "com/example/lexarray/lexarray/model/BitsAtPinLaw"), (0, u "pick"), (0, u "(IJJJJ)J"), (0, .methodref 15 16), (0, .class_ 17), (0, .nameAndType 18 19), (0, u "com/example/lexarray/lexarray/model/Bits"), (0, u "at"), (0, u "([JJ)J"), (3, u "law"), (0, u "(JJJJI)Z")] 4

def k1m0 : Method := { name := "<init>", desc := "()V", sig := { parameters := [], returnType := none }, accessFlags := 2, code := none }
def k1c1 : Code := { maxStack := 2, maxLocals := 9, code := method_2_code, exceptionTable := #[], attributes := #[] }
def k1m1 : Method := { name := "pick", desc := "(IJJJJ)J", sig := { parameters := [.int, .long, .long, .long, .long], returnType := some .long }, accessFlags := 10, code := some k1c1 }
def k1c2 : Code := { maxStack := 9, maxLocals := 21, code := code, exceptionTable := #[], attributes := #[] }
def k1m2 : Method := { name := "law", desc := "(JJJJI)Z", sig := { parameters := [.long, .long, .long, .long, .int], returnType := some .boolean }, accessFlags := 9, code := some k1c2 }
/-- com/example/lexarray/lexarray/model/BitsAtPinLaw -/
def k1 : Class := { plain "com/example/lexarray/lexarray/model/BitsAtPinLaw" (some 0) with
  accessFlags := 49
  interfaces := #[]
  cf := some (fileOf pool1 9 #[] #[{ accessFlags := 2, nameIndex := 5, descriptorIndex := 6, attributes := #[] }, { accessFlags := 10, nameIndex := 12, descriptorIndex := 13, attributes := #[] }, { accessFlags := 9, nameIndex := 23, descriptorIndex := 24, attributes := #[] }] 49 2 #[] #[])
  fields := #[]
  methods := #[k1m0, k1m1, k1m2]
  instanceTypes := #[]
  staticTypes := #[]
  resolved := Array.replicate 29 none
  statics := none }

def pool2 : Array CpInfo := pool [(2, .class_ 4), (1, u "java/lang/Object"), (0, u "<init>"), (0, u "()V"), (0, .long 63), (1, .class_ 10), (0, u "com/example/lexarray/lexarray/model/Bits"), (2, u "at"), (0, u "([JJ)J")] 4

def k2m0 : Method := { name := "<init>", desc := "()V", sig := { parameters := [], returnType := none }, accessFlags := 2, code := none }
def k2c1 : Code := { maxStack := 10, maxLocals := 4, code := prog_17_method_2_code, exceptionTable := #[], attributes := #[] }
def k2m1 : Method := { name := "at", desc := "([JJ)J", sig := { parameters := [(.array .long), .long], returnType := some .long }, accessFlags := 8, code := some k2c1 }
/-- com/example/lexarray/lexarray/model/Bits -/
def k2 : Class := { plain "com/example/lexarray/lexarray/model/Bits" (some 0) with
  accessFlags := 48
  interfaces := #[]
  cf := some (fileOf pool2 9 #[] #[{ accessFlags := 2, nameIndex := 5, descriptorIndex := 6, attributes := #[] }, { accessFlags := 8, nameIndex := 13, descriptorIndex := 14, attributes := #[] }] 48 2 #[] #[])
  fields := #[]
  methods := #[k2m0, k2m1]
  instanceTypes := #[]
  staticTypes := #[]
  resolved := Array.replicate 19 none
  statics := none }

def pool3 : Array CpInfo := pool [(1, u "java/lang/Cloneable"), (0, .class_ 1), (0, u "java/lang/Object"), (0, .class_ 3)] 3

/-- java/lang/Cloneable -/
def k3 : Class := { plain "java/lang/Cloneable" (some 0) with
  accessFlags := 1537
  interfaces := #[]
  cf := some (fileOf pool3 2 #[] #[] 1537 4 #[] #[])
  fields := #[]
  methods := #[]
  instanceTypes := #[]
  staticTypes := #[]
  resolved := Array.replicate 8 none
  statics := none }

def pool4 : Array CpInfo := pool [(1, u "java/io/Serializable"), (0, .class_ 1), (0, u "java/lang/Object"), (0, .class_ 3)] 3

/-- java/io/Serializable -/
def k4 : Class := { plain "java/io/Serializable" (some 0) with
  accessFlags := 1537
  interfaces := #[]
  cf := some (fileOf pool4 2 #[] #[] 1537 4 #[] #[])
  fields := #[]
  methods := #[]
  instanceTypes := #[]
  staticTypes := #[]
  resolved := Array.replicate 8 none
  statics := none }

/-- the primitive byte -/
def k5 : Class := { plain "byte" none with kind := .primitive 'B', accessFlags := 0x411 }
/-- [B -/
def k6 : Class := { plain "[B" (some 0) with kind := .array 5 .byte, interfaces := #[3, 4], accessFlags := 1041 }

/-- the primitive int -/
def k7 : Class := { plain "int" none with kind := .primitive 'I', accessFlags := 0x411 }
/-- [I -/
def k8 : Class := { plain "[I" (some 0) with kind := .array 7 .int, interfaces := #[3, 4], accessFlags := 1041 }

/-- the primitive long -/
def k9 : Class := { plain "long" none with kind := .primitive 'J', accessFlags := 0x411 }
/-- [J -/
def k10 : Class := { plain "[J" (some 0) with kind := .array 9 .long, interfaces := #[3, 4], accessFlags := 1041 }

def heap : Heap := #[]
def classes : Array Class := #[k0, k1, k2, k3, k4, k5, k6, k7, k8, k9, k10]
def interned : List (Array UInt16 × Addr) := []
def slotsUsed : Nat := 0
def theMethod : MethodId := ⟨1, 2⟩
def args0 : Array Value := #[.long 5, .long 5, .long 5, .long 5, .int 5]
def aboutOver (below : List Frame) : State where
  vm := { classes := classes, interned := interned.toArray }
  heap := heap
  slotsUsed := slotsUsed
  threads := #[{ frames := .invoking theMethod args0 :: below }]
def below0 : List Frame := [.native { method := ⟨0, 0⟩, args := #[] }]
def about1 : State := aboutOver below0
def p0 : Program := .bare "" "" ""
def e0 : Env := launch0.env 0 0 0
theorem w_frames : about1.frames = Frame.invoking theMethod args0 :: below0 := rfl
set_option maxRecDepth 65536 in
theorem w_args : argsFit about1.vm theMethod args0 = true := by decide +kernel
set_option maxRecDepth 65536 in
theorem w_heap : heapFits about1 = true := by decide +kernel
set_option maxRecDepth 65536 in
theorem w_runnable : about1.curStatus? = some .runnable := by decide +kernel
set_option maxRecDepth 65536 in
theorem w_alone : about1.alone = true := by decide +kernel
set_option maxRecDepth 65536 in
theorem w_named : about1.methodNamed? x = some theMethod := by decide +kernel
set_option maxRecDepth 65536 in
theorem w_hears : about1.hears theMethod below0 = true := by decide +kernel
set_option maxRecDepth 65536 in
theorem w_ripe : about1.ripe theMethod args0 below0 = true := by decide +kernel
theorem w_running : about1.status = .running := rfl
set_option maxRecDepth 65536 in
theorem w_room : about1.hasRoom e0.platform room_1 = true :=
  launch0.hasRoom_least _ room_1 (by decide +kernel) (by decide +kernel) (by decide +kernel) (by decide +kernel) (by decide +kernel) (by decide +kernel)
theorem allAtoms_all (ts : List Jvm.Cond) (a : Array Jvm.Value) (st : Jvm.State) : (allAtoms ts).before a st = ts.all (fun c => c.before a st) := by
  induction ts with
  | nil => rfl
  | cons c t ih =>
    show (Jvm.Cond.and c (allAtoms t)).before a st = _
    rw [Jvm.Cond.before_and, ih, List.all_cons]
def words1 : List Jvm.Cond := Jvm.Cond.code x code maxLocals ret :: tables_1
/-- a 'code' word, met by the world's own term for the bytes: nothing is compared byte by byte -/
theorem code_word {y : MethodName} {bytes : ByteArray} {mx : Nat} {rt : Option FieldType} {a : Array Value} {s : State} {m : MethodId} {meth : Method} {c : Code} (h1 : s.methodNamed? y = some m) (h2 : s.vm.method? m = some meth) (h3 : meth.code = some c) (h4 : c.code = bytes)
    (h5 : (c.maxLocals == mx && c.exceptionTable.isEmpty && decide (c.maxStack ≤ mostOperands) && decide (meth.sig.returnType = rt) && !meth.locks && decide (parseMethodDescriptor y.desc = some meth.sig)) = true) : (Jvm.Cond.code y bytes mx rt).before a s = true := by
  simp only [Bool.and_eq_true, beq_iff_eq, Bool.not_eq_true', decide_eq_true_eq] at h5
  obtain ⟨⟨⟨⟨⟨g1, g2⟩, g3⟩, g4⟩, g5⟩, g6⟩ := h5
  simp [Cond.before, Cond.holds, Cond.value, h1, h2, h3, h4, g1, g2, g3, g4, g5, g6]
def isCode : Jvm.Cond → Bool
  | .code _ _ _ _ => true
  | _ => false
theorem all_split {L : List Jvm.Cond} {P : Jvm.Cond → Bool} (h1 : L.all (fun c => isCode c || P c) = true) (h2 : ∀ c ∈ L.filter isCode, P c = true) : L.all P = true := by
  refine List.all_eq_true.mpr fun c hc => ?_
  have h := List.all_eq_true.mp h1 c hc
  rcases Bool.eq_false_or_eq_true (isCode c) with hi | hi
  · exact h2 c (List.mem_filter.mpr ⟨hc, hi⟩)
  · simpa [hi] using h
set_option maxRecDepth 65536 in
theorem w_c0 : (Jvm.Cond.code x code maxLocals ret).before args0 about1 = true := code_word (m := ⟨1, 2⟩) (meth := k1m2) (c := k1c2) (by decide +kernel) rfl rfl rfl (by decide +kernel)
set_option maxRecDepth 65536 in
theorem w_c1 : (Jvm.Cond.code ({ cls := "com/example/lexarray/lexarray/model/BitsAtPinLaw", name := "pick", desc := "(IJJJJ)J" } : Jvm.MethodName) method_2_code (9 : Nat) (Option.some Jvm.ClassFile.FieldType.long)).before args0 about1 = true := code_word (m := ⟨1, 1⟩) (meth := k1m1) (c := k1c1) (by decide +kernel) rfl rfl rfl (by decide +kernel)
set_option maxRecDepth 65536 in
theorem w_c2 : (Jvm.Cond.code ({ cls := "com/example/lexarray/lexarray/model/Bits", name := "at", desc := "([JJ)J" } : Jvm.MethodName) prog_17_method_2_code (4 : Nat) (Option.some Jvm.ClassFile.FieldType.long)).before args0 about1 = true := code_word (m := ⟨2, 1⟩) (meth := k2m1) (c := k2c1) (by decide +kernel) rfl rfl rfl (by decide +kernel)
def codes1 : List Jvm.Cond := [Jvm.Cond.code x code maxLocals ret, Jvm.Cond.code ({ cls := "com/example/lexarray/lexarray/model/BitsAtPinLaw", name := "pick", desc := "(IJJJJ)J" } : Jvm.MethodName) method_2_code (9 : Nat) (Option.some Jvm.ClassFile.FieldType.long), Jvm.Cond.code ({ cls := "com/example/lexarray/lexarray/model/Bits", name := "at", desc := "([JJ)J" } : Jvm.MethodName) prog_17_method_2_code (4 : Nat) (Option.some Jvm.ClassFile.FieldType.long)]
set_option maxRecDepth 65536 in
theorem codes_eq : words1.filter isCode = codes1 := rfl
theorem w_codes : ∀ c ∈ words1.filter isCode, c.before args0 about1 = true := by
  rw [codes_eq]
  intro c hc
  simp only [codes1, List.mem_cons, List.not_mem_nil, or_false] at hc
  rcases hc with rfl | rfl | rfl
  · exact w_c0
  · exact w_c1
  · exact w_c2
set_option maxRecDepth 65536 in
theorem w_t1 : words1.all (fun c => isCode c || c.before args0 about1) = true := by decide +kernel
theorem w_tables : (allAtoms (Jvm.Cond.code x code maxLocals ret :: tables_1)).before args0 about1 = true := by
  rw [allAtoms_all]
  show words1.all (fun c => c.before args0 about1) = true
  refine all_split ?_ w_codes
  rw [w_t1]
set_option maxRecDepth 65536 in
theorem w_case : (Jvm.Cond.and given_1 narrow_1).before args0 about1 = true := by decide +kernel
theorem w_applies : (headSpec (Jvm.Cond.code x code maxLocals ret :: tables_1) room_1).applies x e0.platform about1 = true :=
  (Spec.applies_iff w_frames).mpr ⟨w_running, w_runnable, w_alone, w_named, w_hears, w_ripe, w_room, w_tables⟩
theorem atStart : AtStart classFile x code maxLocals ret World_1 tables_1 room_1 Calls_1 rest_1 Pre_1 launch0 p0 e0 about1 theMethod args0 below0 :=
  ⟨lists_1, trivial, launch0.admits_env _ _ _, launch0.least_env, fairChoices_fair.cas, fairChoices_fair.clock, w_frames, w_args, w_heap, w_applies, trivial, trivial, w_case⟩
end start1
theorem witness_1 : WitnessClaimed_1 := ⟨start1.p0, start1.e0, start1.about1, start1.theMethod, start1.args0, start1.below0, start1.atStart⟩
end Jvm.Pilot.@@N@@
