import JvmDerived
import JvmDerived.Pilot.@@N@@Statement
import JvmDerived.Pilot.@@N@@Code
set_option linter.unusedVariables false
set_option linter.unusedSimpArgs false
@@BLOCK:NumsL.lean.txt@@
namespace Jvm.Pilot.@@N@@
open Jvm Jvm.ClassFile Sem Op Lib Jvm.Free Jvm.Stand Jvm.LawKit Jvm.RoadKit Bundle Jvm.Pilot.@@N@@.Jvm.D
def own_Goes (p : Program) (e : Env) (below : List Frame) (s : State) (Q : Option Value → Heap → List Loc → Prop) (ce sl : Nat) (A : State) : Prop :=
  ∃ s₂ o, Steps p.tables e below A s₂ ∧ s₂.status = .running ∧ Ended s₂ below o ∧ ∃ v L, o = .returned v ∧ Q v s₂.heap L ∧ FrameEnd s o s₂ L ce sl
theorem own_pre {p : Program} {e : Env} {below : List Frame} {s : State} {Q : Option Value → Heap → List Loc → Prop} {ce sl : Nat} {A B : State} (h : ∀ t, Steps p.tables e below A t → Steps p.tables e below B t) (G : own_Goes p e below s Q ce sl A) : own_Goes p e below s Q ce sl B := by
  obtain ⟨s₂, o, h1, r⟩ := G
  exact ⟨s₂, o, h _ h1, r⟩
theorem own_end {p : Program} {l : Launch} {e : Env} {R : Room} {s : State} {m : MethodId} {args : Array Value} {below : List Frame} {meth : Method} {c : Code} {T : State} {locs : List Loc} {cells slots : Nat} (X : Stand p l e R s m args below meth c T locs cells slots)
    {v : Option Value} {Q : Option Value → Heap → List Loc → Prop} {ce sl : Nat} {A : State} (hlocks : meth.locks = false) (hv : meth.sig.returnType = none → v = none)
    (hstep : ∀ fs, (∀ (f : JFrame) (acts : List Action), f.method = m → f.locked = none → f.entered = [] → (doReturn e (T.setTop f) acts v).1 = T.setFrames fs) → Steps p.tables e below A (T.setFrames fs))
    (hQ : Q v T.heap locs) (hc : cells ≤ ce) (hs : slots ≤ sl) : own_Goes p e below s Q ce sl A := by
  obtain ⟨fs, hr, hrun, hended, hW, hsame⟩ := X.leave hv hlocks
  exact ⟨_, _, hstep fs hr, hrun, hended, _, _, rfl, hQ, ⟨_, rfl⟩, hW, hsame.mono hc hs⟩
theorem own_lrem_eq (x y : Int64) : x - (x / y) * y = x % y := Int64.toInt_inj.mp (by rw [Jvm.Kit.i64_rem, Int64.toInt_mod])
theorem own_lrem {tb : Tables} [Ours tb] {e : Env} {below : List Frame} {T target : State} {m : MethodId} {c : Code} {g : JFrame} (h : At T m c below) (hx : tb.exec = Jvm.exec) (hg : g.method = m) {x y : Int64} {rest : List Value} (hd : decode c.code g.pc = .ok (.lrem, 1)) (hs : g.stack = .long y :: .long x :: rest) (hy : y ≠ 0)
    (hr : Steps tb e below (T.setTop { g with pc := g.pc + 1, stack := .long (x % y) :: rest }) target) : Steps tb e below (T.setTop g) target :=
  XS.lrem h hx hg hd hs hy (by rw [own_lrem_eq]; exact hr)
theorem own_h {a0 : Array Value} {Z : State} {L : List Jvm.Cond} (hw : ∀ d ∈ L, d.before a0 Z = true) (i : Nat) {d : Jvm.Cond} (h : L[i]? = some d) : d.before a0 Z = true := hw _ (List.mem_of_getElem? h)
abbrev own_In (j : Int32) (n : Nat) : Prop := 0 ≤ j.toInt ∧ j.toInt < (n : Int)
def own_at (xs : List Int32) (j : Int32) : Int32 := xs.getD j.toNatClampNeg 0
def own_atJ (xs : List Int64) (j : Int32) : Int64 := xs.getD j.toNatClampNeg 0
def own_len {α : Type} (xs : List α) : Int32 := xs.length.toInt32
theorem own_getD (xs : List Int32) (i : Nat) : (xs.map Value.int).getD i (.int 0) = .int (xs.getD i 0) := by
  simp only [List.getD_eq_getElem?_getD, List.getElem?_map]
  cases xs[i]? <;> rfl
theorem own_getDJ (xs : List Int64) (i : Nat) : (xs.map Value.long).getD i (.long 0) = .long (xs.getD i 0) := by
  simp only [List.getD_eq_getElem?_getD, List.getElem?_map]
  cases xs[i]? <;> rfl
theorem own_pad {ty : FieldType} {Z : State} {h : Heap} {a : Addr} {k : ClassId} {n : Int32} {dv : Value} (F : Arv Z h a k ty n [] dv) : Arv Z h a k ty n (List.replicate n.toNatClampNeg dv) dv := F.pad (pad_rep [] dv n.toNatClampNeg)
section OwnArr
variable {p : Program} {l : Launch} {e : Env} {R : Room} {s : State} {m : MethodId} {args : Array Value} {below : List Frame} {meth : Method} {c : Code} {T : State} {locs : List Loc} {cells slots : Nat} {Z : State} {h h' : Heap} {a b : Addr} {sl : Nat} {v d : Value} {ws : List Addr} {ty : FieldType} {vs : List Value}
def own_Arr (ty : FieldType) (d : Value) (Z : State) (h : Heap) (a : Addr) (vs : List Value) : Prop := ∃ k n, Arv Z h a k ty n vs d ∧ n.toNatClampNeg = vs.length
theorem own_Arr.ext (F : own_Arr ty d Z h a vs) (E : Ext h h') : own_Arr ty d Z h' a vs := by obtain ⟨k, n, A, r⟩ := F; exact ⟨k, n, A.ext E, r⟩
theorem own_Arr.other (F : own_Arr ty d Z h b vs) (W : Wr h h' a sl v) (q : b ≠ a) : own_Arr ty d Z h' b vs := by obtain ⟨k, n, A, r⟩ := F; exact ⟨k, n, A.other W q, r⟩
theorem own_Arr.keep (F : own_Arr ty d Z h a vs) (K : Keep h h' ws) (q : a ∉ ws) : own_Arr ty d Z h' a vs := by obtain ⟨k, n, A, r⟩ := F; exact ⟨k, n, A.keep K q, r⟩
theorem own_Arr.lt (F : own_Arr ty d Z h a vs) : a < h.size := by obtain ⟨k, n, A, r⟩ := F; exact A.lt
theorem own_inb {cl : Cell} {n j : Int32} {N : Nat} (S : cl.slots.size = n.toNatClampNeg) (q : n.toNatClampNeg = N) (hj : own_In j N) : ¬ (j < 0 ∨ cl.slots.size ≤ j.toNatClampNeg) := by
  rw [S, q]; obtain ⟨q1, q2⟩ := hj
  have e0 : (0 : Int32).toInt = 0 := rfl
  simp only [Int32.lt_iff_toInt_lt, Int32.toNatClampNeg, e0] at *; omega
theorem own_ixlt {j : Int32} {N : Nat} (hj : own_In j N) : j.toNatClampNeg < N := by obtain ⟨q1, q2⟩ := hj; simp only [Int32.toNatClampNeg]; omega
def own_Ints (Z : State) (h : Heap) (a : Addr) (xs : List Int32) : Prop := own_Arr .int (.int 0) Z h a (xs.map Value.int)
def own_Longs (Z : State) (h : Heap) (a : Addr) (xs : List Int64) : Prop := own_Arr .long (.long 0) Z h a (xs.map Value.long)
def own_Bytes (Z : State) (h : Heap) (a : Addr) (xs : List Int32) : Prop := own_Arr .byte (.int 0) Z h a (xs.map Value.int)
def own_Chars (Z : State) (h : Heap) (a : Addr) (xs : List Int32) : Prop := own_Arr .char (.int 0) Z h a (xs.map Value.int)
theorem own_Ints.ext {xs : List Int32} (F : own_Ints Z h a xs) (E : Ext h h') : own_Ints Z h' a xs := own_Arr.ext F E
theorem own_Ints.other {xs : List Int32} (F : own_Ints Z h b xs) (W : Wr h h' a sl v) (q : b ≠ a) : own_Ints Z h' b xs := own_Arr.other F W q
theorem own_Ints.keep {xs : List Int32} (F : own_Ints Z h a xs) (K : Keep h h' ws) (q : a ∉ ws) : own_Ints Z h' a xs := own_Arr.keep F K q
theorem own_Ints.lt {xs : List Int32} (F : own_Ints Z h a xs) : a < h.size := own_Arr.lt F
theorem own_newI {k : ClassId} {n : Int32} (A : Arr Z h a (newA k .int n) .int) (q : ¬ n < 0) : own_Ints Z h a (List.replicate n.toNatClampNeg 0) := by
  refine ⟨k, n, ?_, by simp⟩
  have := own_pad (Arv.new A q)
  rw [List.map_replicate]
  exact this
theorem own_iaload {target : State} (X : Stand p l e R s m args below meth c T locs cells slots) (hx : p.tables.exec = Jvm.exec) (hZ : Z.Warmed39 s.vm) (eT : T.heap = h) {xs : List Int32} {j : Int32} (F : own_Ints Z h a xs) (hj : own_In j xs.length) {g : JFrame} (hg : g.method = m) {rest : List Value} (hs : g.stack = .int j :: .ref a :: rest) (hd : decode c.code g.pc = .ok (.iaload, 1))
    (hr : Steps p.tables e below (T.setTop { g with pc := g.pc + 1, stack := .int (own_at xs j) :: rest }) target) : Steps p.tables e below (T.setTop g) target := by
  obtain ⟨k, n, ⟨cl, A, q1, S, q3, H, G⟩, q⟩ := F
  have hin := own_inb S q (by rw [List.length_map]; exact hj)
  exact X.iaload hx (j := j) (v := .int (own_at xs j)) (by rw [eT]; exact A.1) (State.isArrayOf_alike hZ.alike A.2.1) A.2.2 hin (H.at hin (own_getD xs _)) (g := g) hg hs hd _ hr
theorem own_arrlenI {target : State} (X : Stand p l e R s m args below meth c T locs cells slots) (hx : p.tables.exec = Jvm.exec) (hZ : Z.Warmed39 s.vm) (eT : T.heap = h) {xs : List Int32} (F : own_Ints Z h a xs) {g : JFrame} (hg : g.method = m) {rest : List Value} (hs : g.stack = .ref a :: rest) (hd : decode c.code g.pc = .ok (.arraylength, 1))
    (hr : Steps p.tables e below (T.setTop { g with pc := g.pc + 1, stack := .int (own_len xs) :: rest }) target) : Steps p.tables e below (T.setTop g) target := by
  obtain ⟨k, n, ⟨cl, A, q1, S, q3, H, G⟩, q⟩ := F
  refine X.arraylength hx (by rw [eT]; exact A.1) (State.isArrayOf_alike hZ.alike A.2.1) (g := g) hg hs hd _ ?_
  have e1 : cl.slots.size = xs.length := by rw [S, q, List.length_map]
  rw [e1]
  exact hr
theorem own_iastore (X : Stand p l e R s m args below meth c T locs cells slots) (hx : p.tables.exec = Jvm.exec) (hZ : Z.Warmed39 s.vm) (eT : T.heap = h) {xs : List Int32} {j : Int32} {x : Int32} (F : own_Ints Z h a xs) (hj : own_In j xs.length) {g : JFrame} (hg : g.method = m) {rest : List Value} (hs : g.stack = .int x :: .int j :: .ref a :: rest) (hd : decode c.code g.pc = .ok (.iastore, 1)) :
    ∃ T' h', Stand p l e R s m args below meth c T' (locs ++ [⟨a, j.toNatClampNeg⟩]) cells slots ∧ T'.heap = h' ∧ Wr h h' a j.toNatClampNeg (.int (x)) ∧ own_Ints Z h' a (xs.set j.toNatClampNeg (x)) ∧ ∀ target, Steps p.tables e below (T'.setTop { g with pc := g.pc + 1, stack := rest }) target → Steps p.tables e below (T.setTop g) target := by
  obtain ⟨k, n, ⟨cl, A, q1, S, q3, H, G⟩, q⟩ := F
  have hin := own_inb S q (by rw [List.length_map]; exact hj)
  obtain ⟨T', h', X', e', W, st⟩ := stI X hx hZ eT A (j := j) (x := x) hin (g := g) hg hs hd
  refine ⟨T', h', X', e', W, ⟨k, n, ?_, by rw [q]; simp⟩, st⟩
  rw [List.map_set]
  exact Arv.set A q1 S q3 H G rfl W _ rfl (by rw [List.length_map]; exact own_ixlt hj)
theorem own_Longs.ext {xs : List Int64} (F : own_Longs Z h a xs) (E : Ext h h') : own_Longs Z h' a xs := own_Arr.ext F E
theorem own_Longs.other {xs : List Int64} (F : own_Longs Z h b xs) (W : Wr h h' a sl v) (q : b ≠ a) : own_Longs Z h' b xs := own_Arr.other F W q
theorem own_Longs.keep {xs : List Int64} (F : own_Longs Z h a xs) (K : Keep h h' ws) (q : a ∉ ws) : own_Longs Z h' a xs := own_Arr.keep F K q
theorem own_Longs.lt {xs : List Int64} (F : own_Longs Z h a xs) : a < h.size := own_Arr.lt F
theorem own_newJ {k : ClassId} {n : Int32} (A : Arr Z h a (newA k .long n) .long) (q : ¬ n < 0) : own_Longs Z h a (List.replicate n.toNatClampNeg 0) := by
  refine ⟨k, n, ?_, by simp⟩
  have := own_pad (Arv.new A q)
  rw [List.map_replicate]
  exact this
theorem own_laload {target : State} (X : Stand p l e R s m args below meth c T locs cells slots) (hx : p.tables.exec = Jvm.exec) (hZ : Z.Warmed39 s.vm) (eT : T.heap = h) {xs : List Int64} {j : Int32} (F : own_Longs Z h a xs) (hj : own_In j xs.length) {g : JFrame} (hg : g.method = m) {rest : List Value} (hs : g.stack = .int j :: .ref a :: rest) (hd : decode c.code g.pc = .ok (.laload, 1))
    (hr : Steps p.tables e below (T.setTop { g with pc := g.pc + 1, stack := .long (own_atJ xs j) :: rest }) target) : Steps p.tables e below (T.setTop g) target := by
  obtain ⟨k, n, ⟨cl, A, q1, S, q3, H, G⟩, q⟩ := F
  have hin := own_inb S q (by rw [List.length_map]; exact hj)
  exact X.laload hx (j := j) (v := .long (own_atJ xs j)) (by rw [eT]; exact A.1) (State.isArrayOf_alike hZ.alike A.2.1) A.2.2 hin (H.at hin (own_getDJ xs _)) (g := g) hg hs hd _ hr
theorem own_arrlenJ {target : State} (X : Stand p l e R s m args below meth c T locs cells slots) (hx : p.tables.exec = Jvm.exec) (hZ : Z.Warmed39 s.vm) (eT : T.heap = h) {xs : List Int64} (F : own_Longs Z h a xs) {g : JFrame} (hg : g.method = m) {rest : List Value} (hs : g.stack = .ref a :: rest) (hd : decode c.code g.pc = .ok (.arraylength, 1))
    (hr : Steps p.tables e below (T.setTop { g with pc := g.pc + 1, stack := .int (own_len xs) :: rest }) target) : Steps p.tables e below (T.setTop g) target := by
  obtain ⟨k, n, ⟨cl, A, q1, S, q3, H, G⟩, q⟩ := F
  refine X.arraylength hx (by rw [eT]; exact A.1) (State.isArrayOf_alike hZ.alike A.2.1) (g := g) hg hs hd _ ?_
  have e1 : cl.slots.size = xs.length := by rw [S, q, List.length_map]
  rw [e1]
  exact hr
theorem own_lastore (X : Stand p l e R s m args below meth c T locs cells slots) (hx : p.tables.exec = Jvm.exec) (hZ : Z.Warmed39 s.vm) (eT : T.heap = h) {xs : List Int64} {j : Int32} {x : Int64} (F : own_Longs Z h a xs) (hj : own_In j xs.length) {g : JFrame} (hg : g.method = m) {rest : List Value} (hs : g.stack = .long x :: .int j :: .ref a :: rest) (hd : decode c.code g.pc = .ok (.lastore, 1)) :
    ∃ T' h', Stand p l e R s m args below meth c T' (locs ++ [⟨a, j.toNatClampNeg⟩]) cells slots ∧ T'.heap = h' ∧ Wr h h' a j.toNatClampNeg (.long (x)) ∧ own_Longs Z h' a (xs.set j.toNatClampNeg (x)) ∧ ∀ target, Steps p.tables e below (T'.setTop { g with pc := g.pc + 1, stack := rest }) target → Steps p.tables e below (T.setTop g) target := by
  obtain ⟨k, n, ⟨cl, A, q1, S, q3, H, G⟩, q⟩ := F
  have hin := own_inb S q (by rw [List.length_map]; exact hj)
  obtain ⟨T', h', X', e', W, st⟩ := stJ X hx hZ eT A (j := j) (x := x) hin (g := g) hg hs hd
  refine ⟨T', h', X', e', W, ⟨k, n, ?_, by rw [q]; simp⟩, st⟩
  rw [List.map_set]
  exact Arv.set A q1 S q3 H G rfl W _ rfl (by rw [List.length_map]; exact own_ixlt hj)
theorem own_Bytes.ext {xs : List Int32} (F : own_Bytes Z h a xs) (E : Ext h h') : own_Bytes Z h' a xs := own_Arr.ext F E
theorem own_Bytes.other {xs : List Int32} (F : own_Bytes Z h b xs) (W : Wr h h' a sl v) (q : b ≠ a) : own_Bytes Z h' b xs := own_Arr.other F W q
theorem own_Bytes.keep {xs : List Int32} (F : own_Bytes Z h a xs) (K : Keep h h' ws) (q : a ∉ ws) : own_Bytes Z h' a xs := own_Arr.keep F K q
theorem own_Bytes.lt {xs : List Int32} (F : own_Bytes Z h a xs) : a < h.size := own_Arr.lt F
theorem own_newB {k : ClassId} {n : Int32} (A : Arr Z h a (newA k .byte n) .byte) (q : ¬ n < 0) : own_Bytes Z h a (List.replicate n.toNatClampNeg 0) := by
  refine ⟨k, n, ?_, by simp⟩
  have := own_pad (Arv.new A q)
  rw [List.map_replicate]
  exact this
theorem own_baload {target : State} (X : Stand p l e R s m args below meth c T locs cells slots) (hx : p.tables.exec = Jvm.exec) (hZ : Z.Warmed39 s.vm) (eT : T.heap = h) {xs : List Int32} {j : Int32} (F : own_Bytes Z h a xs) (hj : own_In j xs.length) {g : JFrame} (hg : g.method = m) {rest : List Value} (hs : g.stack = .int j :: .ref a :: rest) (hd : decode c.code g.pc = .ok (.baload, 1))
    (hr : Steps p.tables e below (T.setTop { g with pc := g.pc + 1, stack := .int (own_at xs j) :: rest }) target) : Steps p.tables e below (T.setTop g) target := by
  obtain ⟨k, n, ⟨cl, A, q1, S, q3, H, G⟩, q⟩ := F
  have hin := own_inb S q (by rw [List.length_map]; exact hj)
  exact X.baloadBytes hx (j := j) (v := .int (own_at xs j)) (by rw [eT]; exact A.1) (State.isArrayOf_alike hZ.alike A.2.1) A.2.2 hin (H.at hin (own_getD xs _)) (g := g) hg hs hd _ hr
theorem own_arrlenB {target : State} (X : Stand p l e R s m args below meth c T locs cells slots) (hx : p.tables.exec = Jvm.exec) (hZ : Z.Warmed39 s.vm) (eT : T.heap = h) {xs : List Int32} (F : own_Bytes Z h a xs) {g : JFrame} (hg : g.method = m) {rest : List Value} (hs : g.stack = .ref a :: rest) (hd : decode c.code g.pc = .ok (.arraylength, 1))
    (hr : Steps p.tables e below (T.setTop { g with pc := g.pc + 1, stack := .int (own_len xs) :: rest }) target) : Steps p.tables e below (T.setTop g) target := by
  obtain ⟨k, n, ⟨cl, A, q1, S, q3, H, G⟩, q⟩ := F
  refine X.arraylength hx (by rw [eT]; exact A.1) (State.isArrayOf_alike hZ.alike A.2.1) (g := g) hg hs hd _ ?_
  have e1 : cl.slots.size = xs.length := by rw [S, q, List.length_map]
  rw [e1]
  exact hr
theorem own_bastore (X : Stand p l e R s m args below meth c T locs cells slots) (hx : p.tables.exec = Jvm.exec) (hZ : Z.Warmed39 s.vm) (eT : T.heap = h) {xs : List Int32} {j : Int32} {x : Int32} (F : own_Bytes Z h a xs) (hj : own_In j xs.length) {g : JFrame} (hg : g.method = m) {rest : List Value} (hs : g.stack = .int x :: .int j :: .ref a :: rest) (hd : decode c.code g.pc = .ok (.bastore, 1)) :
    ∃ T' h', Stand p l e R s m args below meth c T' (locs ++ [⟨a, j.toNatClampNeg⟩]) cells slots ∧ T'.heap = h' ∧ Wr h h' a j.toNatClampNeg (.int (x.toInt8.toInt32)) ∧ own_Bytes Z h' a (xs.set j.toNatClampNeg (x.toInt8.toInt32)) ∧ ∀ target, Steps p.tables e below (T'.setTop { g with pc := g.pc + 1, stack := rest }) target → Steps p.tables e below (T.setTop g) target := by
  obtain ⟨k, n, ⟨cl, A, q1, S, q3, H, G⟩, q⟩ := F
  have hin := own_inb S q (by rw [List.length_map]; exact hj)
  obtain ⟨T', h', X', e', W, st⟩ := stB X hx hZ eT A (j := j) (x := x) hin (g := g) hg hs hd
  refine ⟨T', h', X', e', W, ⟨k, n, ?_, by rw [q]; simp⟩, st⟩
  rw [List.map_set]
  exact Arv.set A q1 S q3 H G (fits_nar_byte x) W _ rfl (by rw [List.length_map]; exact own_ixlt hj)
theorem own_Chars.ext {xs : List Int32} (F : own_Chars Z h a xs) (E : Ext h h') : own_Chars Z h' a xs := own_Arr.ext F E
theorem own_Chars.other {xs : List Int32} (F : own_Chars Z h b xs) (W : Wr h h' a sl v) (q : b ≠ a) : own_Chars Z h' b xs := own_Arr.other F W q
theorem own_Chars.keep {xs : List Int32} (F : own_Chars Z h a xs) (K : Keep h h' ws) (q : a ∉ ws) : own_Chars Z h' a xs := own_Arr.keep F K q
theorem own_Chars.lt {xs : List Int32} (F : own_Chars Z h a xs) : a < h.size := own_Arr.lt F
theorem own_newC {k : ClassId} {n : Int32} (A : Arr Z h a (newA k .char n) .char) (q : ¬ n < 0) : own_Chars Z h a (List.replicate n.toNatClampNeg 0) := by
  refine ⟨k, n, ?_, by simp⟩
  have := own_pad (Arv.new A q)
  rw [List.map_replicate]
  exact this
theorem own_caload {target : State} (X : Stand p l e R s m args below meth c T locs cells slots) (hx : p.tables.exec = Jvm.exec) (hZ : Z.Warmed39 s.vm) (eT : T.heap = h) {xs : List Int32} {j : Int32} (F : own_Chars Z h a xs) (hj : own_In j xs.length) {g : JFrame} (hg : g.method = m) {rest : List Value} (hs : g.stack = .int j :: .ref a :: rest) (hd : decode c.code g.pc = .ok (.caload, 1))
    (hr : Steps p.tables e below (T.setTop { g with pc := g.pc + 1, stack := .int (own_at xs j) :: rest }) target) : Steps p.tables e below (T.setTop g) target := by
  obtain ⟨k, n, ⟨cl, A, q1, S, q3, H, G⟩, q⟩ := F
  have hin := own_inb S q (by rw [List.length_map]; exact hj)
  exact X.caload hx (j := j) (v := .int (own_at xs j)) (by rw [eT]; exact A.1) (State.isArrayOf_alike hZ.alike A.2.1) A.2.2 hin (H.at hin (own_getD xs _)) (g := g) hg hs hd _ hr
theorem own_arrlenC {target : State} (X : Stand p l e R s m args below meth c T locs cells slots) (hx : p.tables.exec = Jvm.exec) (hZ : Z.Warmed39 s.vm) (eT : T.heap = h) {xs : List Int32} (F : own_Chars Z h a xs) {g : JFrame} (hg : g.method = m) {rest : List Value} (hs : g.stack = .ref a :: rest) (hd : decode c.code g.pc = .ok (.arraylength, 1))
    (hr : Steps p.tables e below (T.setTop { g with pc := g.pc + 1, stack := .int (own_len xs) :: rest }) target) : Steps p.tables e below (T.setTop g) target := by
  obtain ⟨k, n, ⟨cl, A, q1, S, q3, H, G⟩, q⟩ := F
  refine X.arraylength hx (by rw [eT]; exact A.1) (State.isArrayOf_alike hZ.alike A.2.1) (g := g) hg hs hd _ ?_
  have e1 : cl.slots.size = xs.length := by rw [S, q, List.length_map]
  rw [e1]
  exact hr
theorem own_castore (X : Stand p l e R s m args below meth c T locs cells slots) (hx : p.tables.exec = Jvm.exec) (hZ : Z.Warmed39 s.vm) (eT : T.heap = h) {xs : List Int32} {j : Int32} {x : Int32} (F : own_Chars Z h a xs) (hj : own_In j xs.length) {g : JFrame} (hg : g.method = m) {rest : List Value} (hs : g.stack = .int x :: .int j :: .ref a :: rest) (hd : decode c.code g.pc = .ok (.castore, 1)) :
    ∃ T' h', Stand p l e R s m args below meth c T' (locs ++ [⟨a, j.toNatClampNeg⟩]) cells slots ∧ T'.heap = h' ∧ Wr h h' a j.toNatClampNeg (.int (x.toUInt32.toUInt16.toUInt32.toInt32)) ∧ own_Chars Z h' a (xs.set j.toNatClampNeg (x.toUInt32.toUInt16.toUInt32.toInt32)) ∧ ∀ target, Steps p.tables e below (T'.setTop { g with pc := g.pc + 1, stack := rest }) target → Steps p.tables e below (T.setTop g) target := by
  obtain ⟨k, n, ⟨cl, A, q1, S, q3, H, G⟩, q⟩ := F
  have hin := own_inb S q (by rw [List.length_map]; exact hj)
  obtain ⟨T', h', X', e', W, st⟩ := stC X hx hZ eT A (j := j) (x := x) hin (g := g) hg hs hd
  refine ⟨T', h', X', e', W, ⟨k, n, ?_, by rw [q]; simp⟩, st⟩
  rw [List.map_set]
  exact Arv.set A q1 S q3 H G (fits_nar_char x) W _ rfl (by rw [List.length_map]; exact own_ixlt hj)
end OwnArr
theorem own_lit {j : Int32} {n : Nat} (h : (decide (0 ≤ j.toInt) && decide (j.toInt < (n : Int))) = true) : own_In j n := by
  simp only [Bool.and_eq_true, decide_eq_true_eq] at h; exact h
theorem own_getF {p : Program} {l : Launch} {e : Env} {R : Room} {s : State} {m : MethodId} {args : Array Value} {below : List Frame} {meth : Method} {c : Code} {T : State} {locs : List Loc} {cells slots : Nat} {Z : State} {h : Heap} {Q : Option Value → Heap → List Loc → Prop} {ce sl : Nat} (X : Stand p l e R s m args below meth c T locs cells slots) (hx : p.tables.exec = Jvm.exec) (hZ : Z.Warmed39 s.vm) {a0 : Array Value} {own R0 O n d host : String} {index : Nat} (hown : s.vm.findClass own = some m.cls) (w : (Cond.fieldLink own index R0 n d).before a0 Z = true ∨ (Cond.fieldLinkNest own index R0 n d host).before a0 Z = true) (via : Via Z R0 O n d)
    (eT : T.heap = h) {a : Addr} {v : Value} (F : Fld Z h a O n d v) {g : JFrame} (hg : g.method = m) {rest : List Value} (hs : g.stack = .ref a :: rest) (hd : decode c.code g.pc = .ok (.getfield index, 3))
    (k : ∀ T', Stand p l e R s m args below meth c T' locs cells slots → T'.heap = h → own_Goes p e below s Q ce sl (T'.setTop { g with pc := g.pc + 3, stack := v :: rest })) : own_Goes p e below s Q ce sl (T.setTop g) := by
  obtain ⟨T', X', e', st⟩ := getF X hx hZ hown w via eT F hg hs hd
  exact own_pre st (k T' X' e')
section OwnGoes
variable {p : Program} {l : Launch} {e : Env} {R : Room} {s : State} {m : MethodId} {args : Array Value} {below : List Frame} {meth : Method} {c : Code} {T : State} {locs : List Loc} {cells slots : Nat} {Z : State} {h : Heap} {Q0 : Option Value → Heap → List Loc → Prop} {ce sl : Nat} {a0 : Array Value}
theorem own_callSG (X : Stand p l e R s m args below meth c T locs cells slots) (hx : p.tables.exec = Jvm.exec) (hZ : Z.Warmed39 s.vm) {own : String} {index : Nat} {y : MethodName} {bytes : ByteArray} {maxL : Nat} {ret : Option FieldType} (hown : s.vm.findClass own = some m.cls)
    (w1 : (Cond.methodLink own index y).before a0 Z = true) (w2 : (Cond.static y).before a0 Z = true) (w3 : (Cond.initialized y.cls).before a0 Z = true) (w4 : (Cond.code y bytes maxL ret).before a0 Z = true) (hy : y.cls ≠ "java/lang/invoke/MethodHandle" ∧ y.cls ≠ "java/lang/invoke/VarHandle")
    {rm : Room} {W : Nat} {as' : Array Value} {Q : Option Value → Heap → List Loc → Prop}
    (hM : MetFree l y (head1 [Cond.code y bytes maxL ret] rm) (fun a U => a = as' ∧ Z.Warmed39 U.vm ∧ U.heap = h) (fun _ _ _ _ _ => True) (fun _ U o U' => ∃ v L, o = .returned v ∧ Q v U'.heap L ∧ FrameEnd U o U' L rm.cells rm.slots)) (hf : rm.frames + 1 ≤ R.frames) (hl : W + (maxL + 11) + rm.locals ≤ R.locals)
    {g : JFrame} (hg : g.method = m) (hsize : g.locals.size = c.maxLocals) {argsL rest : List Value} (hlen : ∀ sig, parseMethodDescriptor y.desc = some sig → argsL.length = sig.parameters.length) (hs : g.stack = argsL.reverse ++ rest) (hW : 2 * g.monitorRoom + (rest.map fun v => v.category).sum ≤ W) (hd : decode c.code g.pc = .ok (.invokestatic index, 3))
    (ha : argsL.toArray = as') (eT : T.heap = h) (hc : cells + rm.cells ≤ R.cells) (hn : slots + rm.slots ≤ R.slots)
    (k : ∀ v T' Lc, Stand p l e R s m args below meth c T' (locs ++ Lc) (cells + rm.cells) (slots + rm.slots) → Q v T'.heap Lc → own_Goes p e below s Q0 ce sl (T'.setTop { g with pc := g.pc + 3, stack := v.toList ++ rest })) : own_Goes p e below s Q0 ce sl (T.setTop g) := by
  obtain ⟨v, _, ⟨T', L', k', n'⟩, -, X', ⟨Lc, hQ, l', y', z'⟩, st⟩ := Jvm.LawKit.callS X hx hown (mvT hZ w1) (mvT hZ w2) (mvT hZ w3) (mvT hZ w4) hy (backOf (W := W) hM hZ w4 w3 hf hl) (g := g) hg hsize (argsL := argsL) (rest := rest) hlen hs hW hd (fun _ _ => ⟨ha, eT, hc, hn⟩)
  dsimp only [Pt.U, Pt.locs, Pt.cells, Pt.slots] at X' l' y' z' st hQ
  subst l' y' z'
  exact own_pre st (k v T' Lc X' hQ)
theorem own_virtG (X : Stand p l e R s m args below meth c T locs cells slots) (hx : p.tables.exec = Jvm.exec) (hZ : Z.Warmed39 s.vm) {own C : String} {index : Nat} {y : MethodName} {bytes : ByteArray} {maxL : Nat} {ret : Option FieldType} (hown : s.vm.findClass own = some m.cls)
    (w1 : (Cond.methodLink own index y).before a0 Z = true) (w2 : (Cond.declares y).before a0 Z = true) (w3 : (Cond.selects C y y).before a0 Z = true) (w4 : (Cond.instanceMethod y).before a0 Z = true) (w5 : (Cond.code y bytes maxL ret).before a0 Z = true) (w6 : (Cond.initialized y.cls).before a0 Z = true) (hy : y.cls ≠ "java/lang/invoke/MethodHandle" ∧ y.cls ≠ "java/lang/invoke/VarHandle")
    {rm : Room} {W : Nat} {as' : Array Value} {Q : Option Value → Heap → List Loc → Prop}
    (hM : MetFree l y (head1 [Cond.code y bytes maxL ret] rm) (fun a U => a = as' ∧ Z.Warmed39 U.vm ∧ U.heap = h) (fun _ _ _ _ _ => True) (fun _ U o U' => ∃ v L, o = .returned v ∧ Q v U'.heap L ∧ FrameEnd U o U' L rm.cells rm.slots)) (hf : rm.frames + 1 ≤ R.frames) (hl : W + (maxL + 11) + rm.locals ≤ R.locals)
    (eT : T.heap = h) {b : Addr} (E : Exa Z h b C)
    {g : JFrame} (hg : g.method = m) (hsize : g.locals.size = c.maxLocals) {argsL rest : List Value} (hlen : ∀ sig, parseMethodDescriptor y.desc = some sig → argsL.length = sig.parameters.length) (hs : g.stack = argsL.reverse ++ .ref b :: rest) (hW : 2 * g.monitorRoom + (rest.map fun v => v.category).sum ≤ W) (hd : decode c.code g.pc = .ok (.invokevirtual index, 3))
    (ha : (.ref b :: argsL).toArray = as') (hc : cells + rm.cells ≤ R.cells) (hn : slots + rm.slots ≤ R.slots)
    (k : ∀ v T' Lc, Stand p l e R s m args below meth c T' (locs ++ Lc) (cells + rm.cells) (slots + rm.slots) → Q v T'.heap Lc → own_Goes p e below s Q0 ce sl (T'.setTop { g with pc := g.pc + 3, stack := v.toList ++ rest })) : own_Goes p e below s Q0 ce sl (T.setTop g) := by
  obtain ⟨cq, kq, qa, qb, qc⟩ := isOf hZ eT E
  obtain ⟨v, _, ⟨T', L', k', n'⟩, -, X', ⟨Lc, hQ, l', y', z'⟩, st⟩ := X.virtualBack hx (y := y) (z := y) hown (mvT hZ w1) (mvT hZ w2) (notFace_of_selects (args := #[]) (mvT hZ w3)) (mvT hZ w3) (mvT hZ w4) hy (backOf (W := W) hM hZ w5 w6 hf hl) qa qc (g := g) hg hsize (Steps.refl _) (argsL := argsL) (rest := rest) hlen hs hW hd (fun _ _ => ⟨ha, eT, hc, hn⟩)
  dsimp only [Pt.U, Pt.locs, Pt.cells, Pt.slots] at X' l' y' z' st hQ
  subst l' y' z'
  exact own_pre (fun _ q => st.trans q) (k v T' Lc X' hQ)
theorem own_iastG (X : Stand p l e R s m args below meth c T locs cells slots) (hx : p.tables.exec = Jvm.exec) (hZ : Z.Warmed39 s.vm) (eT : T.heap = h) {a : Addr} {xs : List Int32} {j x : Int32} (F : own_Ints Z h a xs) (hj : own_In j xs.length) {g : JFrame} (hg : g.method = m) {rest : List Value} (hs : g.stack = .int x :: .int j :: .ref a :: rest) (hd : decode c.code g.pc = .ok (.iastore, 1))
    (k : ∀ T' h', Stand p l e R s m args below meth c T' (locs ++ [⟨a, j.toNatClampNeg⟩]) cells slots → T'.heap = h' → Wr h h' a j.toNatClampNeg (.int x) → own_Ints Z h' a (xs.set j.toNatClampNeg x) → own_Goes p e below s Q0 ce sl (T'.setTop { g with pc := g.pc + 1, stack := rest })) : own_Goes p e below s Q0 ce sl (T.setTop g) := by
  obtain ⟨T', h', X', e', W, V, st⟩ := own_iastore X hx hZ eT F hj hg hs hd
  exact own_pre st (k T' h' X' e' W V)
theorem own_pA (T : State) (m : MethodId) (pc : Nat) (L : Array Slot) (S : List Value) {B : State} (hh : ∀ t, Steps p.tables e below (T.setTop (mkF m pc L S)) t → Steps p.tables e below B t) (G : own_Goes p e below s Q0 ce sl (T.setTop (mkF m pc L S))) : own_Goes p e below s Q0 ce sl B := own_pre hh G
end OwnGoes
theorem own_pn0 : plainName "com/example/spare_calculus/sparecalculus/bisim/LabelGroups" = true := by first | (simp [plainName, overriddenIn]; done) | decide +kernel
theorem d1_0 : decode prog_15_method_1_code 0 = .ok (.aload_n 0, 1) := by decide +kernel
theorem d1_1 : decode prog_15_method_1_code 1 = .ok (.invokespecial 1, 3) := by decide +kernel
theorem d1_4 : decode prog_15_method_1_code 4 = .ok (.aload_n 0, 1) := by decide +kernel
theorem d1_5 : decode prog_15_method_1_code 5 = .ok (.aload_n 1, 1) := by decide +kernel
theorem d1_6 : decode prog_15_method_1_code 6 = .ok (.putfield 7, 3) := by decide +kernel
theorem d1_9 : decode prog_15_method_1_code 9 = .ok (.aload_n 0, 1) := by decide +kernel
theorem d1_10 : decode prog_15_method_1_code 10 = .ok (.aload_n 1, 1) := by decide +kernel
theorem d1_11 : decode prog_15_method_1_code 11 = .ok (.arraylength, 1) := by decide +kernel
theorem d1_12 : decode prog_15_method_1_code 12 = .ok (.newarray .int, 2) := by decide +kernel
theorem d1_14 : decode prog_15_method_1_code 14 = .ok (.putfield 13, 3) := by decide +kernel
theorem d1_17 : decode prog_15_method_1_code 17 = .ok (.aload_n 0, 1) := by decide +kernel
theorem d1_18 : decode prog_15_method_1_code 18 = .ok (.aload_n 1, 1) := by decide +kernel
theorem d1_19 : decode prog_15_method_1_code 19 = .ok (.arraylength, 1) := by decide +kernel
theorem d1_20 : decode prog_15_method_1_code 20 = .ok (.newarray .int, 2) := by decide +kernel
theorem d1_22 : decode prog_15_method_1_code 22 = .ok (.putfield 16, 3) := by decide +kernel
theorem d1_25 : decode prog_15_method_1_code 25 = .ok (.aload_n 0, 1) := by decide +kernel
theorem d1_26 : decode prog_15_method_1_code 26 = .ok (.iload_n 2, 1) := by decide +kernel
theorem d1_27 : decode prog_15_method_1_code 27 = .ok (.newarray .int, 2) := by decide +kernel
theorem d1_29 : decode prog_15_method_1_code 29 = .ok (.putfield 19, 3) := by decide +kernel
theorem d1_32 : decode prog_15_method_1_code 32 = .ok (.aload_n 0, 1) := by decide +kernel
theorem d1_33 : decode prog_15_method_1_code 33 = .ok (.iload_n 2, 1) := by decide +kernel
theorem d1_34 : decode prog_15_method_1_code 34 = .ok (.newarray .int, 2) := by decide +kernel
theorem d1_36 : decode prog_15_method_1_code 36 = .ok (.putfield 22, 3) := by decide +kernel
theorem d1_39 : decode prog_15_method_1_code 39 = .ok (.return_, 1) := by decide +kernel
theorem ef1 (m : MethodId) (a0 : Addr) (a1 : Addr) : entryFrame m #[(.ref a0), (.ref a1), (.int (3:Int32))] 3 = mkF m 0 #[rv a0, rv a1, iv (3:Int32)] [] := by first | (simp [entryFrame, mkF, argsToLocals, Value.category]; done) | rfl
def Q1 (Z : State) (a0 : Addr) (a1 : Addr) (x0 : Int32) (x1 : Int32) (x2 : Int32) (h0 : Heap) (n0 : Nat) (v : Option Value) (h : Heap) (L : List Loc) : Prop := v = none ∧ Fr n0 L ∧ Keep h0 h [a0] ∧ ∃ mv : Addr, ∃ gr : Addr, ∃ gl : Addr, ∃ gs : Addr, h0.size ≤ mv ∧ h0.size ≤ gr ∧ h0.size ≤ gl ∧ h0.size ≤ gs ∧ mv ≠ gr ∧ mv ≠ gl ∧ mv ≠ gs ∧ gr ≠ gl ∧ gr ≠ gs ∧ gl ≠ gs ∧ Fld Z h a0 "com/example/spare_calculus/sparecalculus/bisim/LabelGroups" "moves" "[I" (.ref mv) ∧ Fld Z h a0 "com/example/spare_calculus/sparecalculus/bisim/LabelGroups" "grouped" "[I" (.ref gr) ∧ Fld Z h a0 "com/example/spare_calculus/sparecalculus/bisim/LabelGroups" "groupLabels" "[I" (.ref gl) ∧ Fld Z h a0 "com/example/spare_calculus/sparecalculus/bisim/LabelGroups" "groupStarts" "[I" (.ref gs) ∧ Fld Z h a0 "com/example/spare_calculus/sparecalculus/bisim/LabelGroups" "labels" "[I" (.ref a1) ∧ Fld Z h a0 "com/example/spare_calculus/sparecalculus/bisim/LabelGroups" "moveCount" "I" (.int (0:Int32)) ∧ Fld Z h a0 "com/example/spare_calculus/sparecalculus/bisim/LabelGroups" "groupCount" "I" (.int (0:Int32)) ∧ own_Ints Z h mv [(0:Int32), (0:Int32), (0:Int32)] ∧ own_Ints Z h gr [(0:Int32), (0:Int32), (0:Int32)] ∧ own_Ints Z h gl [(0:Int32), (0:Int32), (0:Int32)] ∧ own_Ints Z h gs [(0:Int32), (0:Int32), (0:Int32)]
set_option maxRecDepth 65536 in
set_option maxHeartbeats 40000000 in
theorem rm1 (l : Launch) (Z : State) (aZ : Array Value) (hw : ∀ d ∈ tables_1, d.before aZ Z = true) (ws : List Jvm.Cond) (a0 : Addr) (a1 : Addr) (x0 : Int32) (x1 : Int32) (x2 : Int32) (h0 : Heap) (n0 : Nat) (Z0 : n0 ≤ h0.size) (P0 : Exa Z h0 a0 "com/example/spare_calculus/sparecalculus/bisim/LabelGroups") (P1 : Fld Z h0 a0 "com/example/spare_calculus/sparecalculus/bisim/LabelGroups" "labels" "[I" .null) (P2 : Fld Z h0 a0 "com/example/spare_calculus/sparecalculus/bisim/LabelGroups" "moves" "[I" .null) (P3 : Fld Z h0 a0 "com/example/spare_calculus/sparecalculus/bisim/LabelGroups" "grouped" "[I" .null) (P4 : Fld Z h0 a0 "com/example/spare_calculus/sparecalculus/bisim/LabelGroups" "groupLabels" "[I" .null) (P5 : Fld Z h0 a0 "com/example/spare_calculus/sparecalculus/bisim/LabelGroups" "groupStarts" "[I" .null) (P6 : Fld Z h0 a0 "com/example/spare_calculus/sparecalculus/bisim/LabelGroups" "moveCount" "I" (.int (0:Int32))) (P7 : Fld Z h0 a0 "com/example/spare_calculus/sparecalculus/bisim/LabelGroups" "groupCount" "I" (.int (0:Int32))) (P8 : own_Ints Z h0 a1 [x0, x1, x2]) (nq_a0_a1 : a0 ≠ a1) (gq_a0 : n0 ≤ a0) :
    MetFree l (⟨"com/example/spare_calculus/sparecalculus/bisim/LabelGroups", "<init>", "([II)V"⟩ : MethodName) (head1 (Jvm.Cond.code (⟨"com/example/spare_calculus/sparecalculus/bisim/LabelGroups", "<init>", "([II)V"⟩ : MethodName) prog_15_method_1_code 3 none :: ws) ({ frames := 1, cells := 4, slots := 12, locals := 12 } : Room)) (fun a U => a = #[(.ref a0), (.ref a1), (.int (3:Int32))] ∧ Z.Warmed39 U.vm ∧ U.heap = h0) (fun _ _ _ _ _ => True) (fun _ U o U' => ∃ v L, o = .returned v ∧ Q1 Z a0 a1 x0 x1 x2 h0 n0 v U'.heap L ∧ FrameEnd U o U' L ({ frames := 1, cells := 4, slots := 12, locals := 12 } : Room).cells ({ frames := 1, cells := 4, slots := 12, locals := 12 } : Room).slots) := by
  refine MetFree.of_bodySF (plainFor_of_name own_pn0) hisR ?_
  intro p e s m args below meth c s₁ Bd hml0 hP hK
  obtain ⟨rfl, hZ, hh⟩ := hP
  have hx := Bd.exec
  have hby := Bd.bytes
  have hml : c.maxLocals = 3 := hml0
  have hown : s.vm.findClass "com/example/spare_calculus/sparecalculus/bisim/LabelGroups" = some m.cls := findClass_of_methodNamed Bd.named
  have hnm := (name_of_methodNamed Bd.named Bd.method).1
  have X0 : Stand p l e ({ frames := 1, cells := 4, slots := 12, locals := 12 } : Room) s m #[(.ref a0), (.ref a1), (.int (3:Int32))] below meth c s₁ [] 0 0 := Stand.of_body Bd
  have e0 : s₁.heap = h0 := by rw [← hh, Bd.state]; rfl
  have N0 := Fr.nil n0
  have Kp0 : Keep h0 h0 [a0] := Keep.refl _ _
  have D : ∀ {pc : Nat} {r : Except ClassFile.DecodeError (ClassFile.Instr × Nat)}, decode prog_15_method_1_code pc = r → decode c.code pc = r := fun h => hb hby h
  show own_Goes p e below s (Q1 Z a0 a1 x0 x1 x2 h0 n0) ({ frames := 1, cells := 4, slots := 12, locals := 12 } : Room).cells ({ frames := 1, cells := 4, slots := 12, locals := 12 } : Room).slots _
  refine own_pre (fun t k => castTop (ef1 m a0 a1) k) ?_
  refine own_pA s₁ m 1 #[rv a0, rv a1, iv (3:Int32)] [(.ref a0)] (fun t k => ?_) ?_
  ·exact XS.aloadN X0.here hx rfl (D d1_0) rfl rfl k
  obtain ⟨T1, X1, e1, st1⟩ := initO X0 hx hZ hown (own_h hw 8 rfl) (own_h hw 9 rfl) (own_h hw 10 rfl) e0 (g := (mkF m 1 #[rv a0, rv a1, iv (3:Int32)] [(.ref a0)])) rfl (by rw [hml]; rfl) rfl (D d1_1) (by decide) (W := 0) (by show 2 * 0 + _ ≤ _; exact Nat.le_of_eq rfl) (by decide)
  refine own_pre st1 ?_
  refine own_pA T1 m 6 #[rv a0, rv a1, iv (3:Int32)] [(.ref a1), (.ref a0)] (fun t k => ?_) ?_
  ·refine XS.aloadN X1.here hx rfl (D d1_4) rfl rfl ?_
   exact XS.aloadN X1.here hx rfl (D d1_5) rfl rfl k
  obtain ⟨T2, h2, X2, e2, W2, st2⟩ := putF X1 hx hZ hown (host := "") (Or.inl (own_h hw 11 rfl)) Via.refl e1 P1 P0 (Or.inr ⟨(own_h hw 12 rfl), rfl, hnm⟩) (own_h hw 3 rfl) (ty := (.array .int)) (by decide) rfl rfl (g := (mkF m 6 #[rv a0, rv a1, iv (3:Int32)] [(.ref a1), (.ref a0)])) rfl rfl (D d1_6)
  have Kp2 : Keep h0 h2 [a0] := Kp0.wr W2 (Or.inl (List.mem_of_getElem? (i := 0) rfl))
  have Z3 : n0 ≤ h2.size := Nat.le_trans Z0 (Nat.le_of_eq W2.size.symm)
  have N2 := Fr.snoc X2 N0 gq_a0
  have Fw2 := P1.same W2
  refine own_pre st2 ?_
  have F4 := (P8.other W2 (Ne.symm nq_a0_a1))
  refine own_pA T2 m 12 #[rv a0, rv a1, iv (3:Int32)] [(.int (3:Int32)), (.ref a0)] (fun t k => ?_) ?_
  ·refine XS.aloadN X2.here hx rfl (D d1_9) rfl rfl ?_
   refine XS.aloadN X2.here hx rfl (D d1_10) rfl rfl ?_
   exact own_arrlenI X2 hx hZ e2 F4 rfl rfl (D d1_11) k
  have F6 := (P0.wr W2)
  obtain ⟨T5, h5, k5, X5, e5, E5, A5, st5⟩ := newP X2 hx hZ (own_h hw 0 rfl) e2 (g := (mkF m 12 #[rv a0, rv a1, iv (3:Int32)] [(.int (3:Int32)), (.ref a0)])) rfl (D d1_12) rfl (by decide) (cap := 3) (by decide) (by decide) (by decide) (by decide)
  obtain ⟨b5, g5⟩ : ∃ z, z = h2.size := ⟨_, rfl⟩
  rw [← g5] at A5 st5
  have ge_b5 : n0 ≤ b5 := Nat.le_trans Z3 (Nat.le_of_eq g5.symm)
  have sz_b5 : h0.size ≤ b5 := Nat.le_trans Kp2.1 (Nat.le_of_eq g5.symm)
  have ne_a0_b5 : a0 ≠ b5 := Nat.ne_of_lt (Nat.lt_of_lt_of_le F6.lt (Nat.le_of_eq g5.symm))
  have ne_a1_b5 : a1 ≠ b5 := Nat.ne_of_lt (Nat.lt_of_lt_of_le F4.lt (Nat.le_of_eq g5.symm))
  have Kp5 : Keep h0 h5 [a0] := Kp2.ext E5
  have Z7 : n0 ≤ h5.size := Nat.le_trans Z3 E5.1
  have V5 : own_Ints Z h5 b5 [(0:Int32), (0:Int32), (0:Int32)] := own_newI A5 (by decide)
  refine own_pre st5 ?_
  have F9 := (F6.ext E5)
  have F10 := ((P2.other W2 (Or.inr (slot_ne (Or.inr (own_h hw 14 rfl)) (Or.inr (own_h hw 12 rfl)) (by decide) (t := (.array .int)) (t' := (.array .int)) (by decide) (by decide)))).ext E5)
  obtain ⟨T8, h8, X8, e8, W8, st8⟩ := putF X5 hx hZ hown (host := "") (Or.inl (own_h hw 13 rfl)) Via.refl e5 F10 F9 (Or.inr ⟨(own_h hw 14 rfl), rfl, hnm⟩) (own_h hw 3 rfl) (ty := (.array .int)) (by decide) rfl rfl (g := (mkF m 14 #[rv a0, rv a1, iv (3:Int32)] [(.ref b5), (.ref a0)])) rfl rfl (D d1_14)
  have Kp8 : Keep h0 h8 [a0] := Kp5.wr W8 (Or.inl (List.mem_of_getElem? (i := 0) rfl))
  have Z11 : n0 ≤ h8.size := Nat.le_trans Z7 (Nat.le_of_eq W8.size.symm)
  have N8 := Fr.snoc X8 N2 gq_a0
  have Fw8 := F10.same W8
  refine own_pre st8 ?_
  have F12 := ((F4.ext E5).other W8 (Ne.symm nq_a0_a1))
  refine own_pA T8 m 20 #[rv a0, rv a1, iv (3:Int32)] [(.int (3:Int32)), (.ref a0)] (fun t k => ?_) ?_
  ·refine XS.aloadN X8.here hx rfl (D d1_17) rfl rfl ?_
   refine XS.aloadN X8.here hx rfl (D d1_18) rfl rfl ?_
   exact own_arrlenI X8 hx hZ e8 F12 rfl rfl (D d1_19) k
  have F14 := (F9.wr W8)
  have F15 := (V5.other W8 (Ne.symm ne_a0_b5))
  obtain ⟨T13, h13, k13, X13, e13, E13, A13, st13⟩ := newP X8 hx hZ (own_h hw 0 rfl) e8 (g := (mkF m 20 #[rv a0, rv a1, iv (3:Int32)] [(.int (3:Int32)), (.ref a0)])) rfl (D d1_20) rfl (by decide) (cap := 3) (by decide) (by decide) (by decide) (by decide)
  obtain ⟨b13, g13⟩ : ∃ z, z = h8.size := ⟨_, rfl⟩
  rw [← g13] at A13 st13
  have ge_b13 : n0 ≤ b13 := Nat.le_trans Z11 (Nat.le_of_eq g13.symm)
  have sz_b13 : h0.size ≤ b13 := Nat.le_trans Kp8.1 (Nat.le_of_eq g13.symm)
  have ne_a0_b13 : a0 ≠ b13 := Nat.ne_of_lt (Nat.lt_of_lt_of_le F14.lt (Nat.le_of_eq g13.symm))
  have ne_a1_b13 : a1 ≠ b13 := Nat.ne_of_lt (Nat.lt_of_lt_of_le F12.lt (Nat.le_of_eq g13.symm))
  have ne_b5_b13 : b5 ≠ b13 := Nat.ne_of_lt (Nat.lt_of_lt_of_le F15.lt (Nat.le_of_eq g13.symm))
  have Kp13 : Keep h0 h13 [a0] := Kp8.ext E13
  have Z16 : n0 ≤ h13.size := Nat.le_trans Z11 E13.1
  have V13 : own_Ints Z h13 b13 [(0:Int32), (0:Int32), (0:Int32)] := own_newI A13 (by decide)
  refine own_pre st13 ?_
  have F18 := (F14.ext E13)
  have F19 := ((((P3.other W2 (Or.inr (slot_ne (Or.inr (own_h hw 16 rfl)) (Or.inr (own_h hw 12 rfl)) (by decide) (t := (.array .int)) (t' := (.array .int)) (by decide) (by decide)))).ext E5).other W8 (Or.inr (slot_ne (Or.inr (own_h hw 16 rfl)) (Or.inr (own_h hw 14 rfl)) (by decide) (t := (.array .int)) (t' := (.array .int)) (by decide) (by decide)))).ext E13)
  obtain ⟨T17, h17, X17, e17, W17, st17⟩ := putF X13 hx hZ hown (host := "") (Or.inl (own_h hw 15 rfl)) Via.refl e13 F19 F18 (Or.inr ⟨(own_h hw 16 rfl), rfl, hnm⟩) (own_h hw 3 rfl) (ty := (.array .int)) (by decide) rfl rfl (g := (mkF m 22 #[rv a0, rv a1, iv (3:Int32)] [(.ref b13), (.ref a0)])) rfl rfl (D d1_22)
  have Kp17 : Keep h0 h17 [a0] := Kp13.wr W17 (Or.inl (List.mem_of_getElem? (i := 0) rfl))
  have Z20 : n0 ≤ h17.size := Nat.le_trans Z16 (Nat.le_of_eq W17.size.symm)
  have N17 := Fr.snoc X17 N8 gq_a0
  have Fw17 := F19.same W17
  refine own_pre st17 ?_
  refine own_pA T17 m 27 #[rv a0, rv a1, iv (3:Int32)] [(.int (3:Int32)), (.ref a0)] (fun t k => ?_) ?_
  ·refine XS.aloadN X17.here hx rfl (D d1_25) rfl rfl ?_
   exact XS.iloadN X17.here hx rfl (D d1_26) rfl k
  have F22 := (F18.wr W17)
  have F23 := ((F12.ext E13).other W17 (Ne.symm nq_a0_a1))
  have F24 := (V13.other W17 (Ne.symm ne_a0_b13))
  have F25 := ((F15.ext E13).other W17 (Ne.symm ne_a0_b5))
  obtain ⟨T21, h21, k21, X21, e21, E21, A21, st21⟩ := newP X17 hx hZ (own_h hw 0 rfl) e17 (g := (mkF m 27 #[rv a0, rv a1, iv (3:Int32)] [(.int (3:Int32)), (.ref a0)])) rfl (D d1_27) rfl (by decide) (cap := 3) (by decide) (by decide) (by decide) (by decide)
  obtain ⟨b21, g21⟩ : ∃ z, z = h17.size := ⟨_, rfl⟩
  rw [← g21] at A21 st21
  have ge_b21 : n0 ≤ b21 := Nat.le_trans Z20 (Nat.le_of_eq g21.symm)
  have sz_b21 : h0.size ≤ b21 := Nat.le_trans Kp17.1 (Nat.le_of_eq g21.symm)
  have ne_a0_b21 : a0 ≠ b21 := Nat.ne_of_lt (Nat.lt_of_lt_of_le F22.lt (Nat.le_of_eq g21.symm))
  have ne_a1_b21 : a1 ≠ b21 := Nat.ne_of_lt (Nat.lt_of_lt_of_le F23.lt (Nat.le_of_eq g21.symm))
  have ne_b13_b21 : b13 ≠ b21 := Nat.ne_of_lt (Nat.lt_of_lt_of_le F24.lt (Nat.le_of_eq g21.symm))
  have ne_b5_b21 : b5 ≠ b21 := Nat.ne_of_lt (Nat.lt_of_lt_of_le F25.lt (Nat.le_of_eq g21.symm))
  have Kp21 : Keep h0 h21 [a0] := Kp17.ext E21
  have Z26 : n0 ≤ h21.size := Nat.le_trans Z20 E21.1
  have V21 : own_Ints Z h21 b21 [(0:Int32), (0:Int32), (0:Int32)] := own_newI A21 (by decide)
  refine own_pre st21 ?_
  have F28 := (F22.ext E21)
  have F29 := ((((((P4.other W2 (Or.inr (slot_ne (Or.inr (own_h hw 18 rfl)) (Or.inr (own_h hw 12 rfl)) (by decide) (t := (.array .int)) (t' := (.array .int)) (by decide) (by decide)))).ext E5).other W8 (Or.inr (slot_ne (Or.inr (own_h hw 18 rfl)) (Or.inr (own_h hw 14 rfl)) (by decide) (t := (.array .int)) (t' := (.array .int)) (by decide) (by decide)))).ext E13).other W17 (Or.inr (slot_ne (Or.inr (own_h hw 18 rfl)) (Or.inr (own_h hw 16 rfl)) (by decide) (t := (.array .int)) (t' := (.array .int)) (by decide) (by decide)))).ext E21)
  obtain ⟨T27, h27, X27, e27, W27, st27⟩ := putF X21 hx hZ hown (host := "") (Or.inl (own_h hw 17 rfl)) Via.refl e21 F29 F28 (Or.inr ⟨(own_h hw 18 rfl), rfl, hnm⟩) (own_h hw 3 rfl) (ty := (.array .int)) (by decide) rfl rfl (g := (mkF m 29 #[rv a0, rv a1, iv (3:Int32)] [(.ref b21), (.ref a0)])) rfl rfl (D d1_29)
  have Kp27 : Keep h0 h27 [a0] := Kp21.wr W27 (Or.inl (List.mem_of_getElem? (i := 0) rfl))
  have Z30 : n0 ≤ h27.size := Nat.le_trans Z26 (Nat.le_of_eq W27.size.symm)
  have N27 := Fr.snoc X27 N17 gq_a0
  have Fw27 := F29.same W27
  refine own_pre st27 ?_
  refine own_pA T27 m 34 #[rv a0, rv a1, iv (3:Int32)] [(.int (3:Int32)), (.ref a0)] (fun t k => ?_) ?_
  ·refine XS.aloadN X27.here hx rfl (D d1_32) rfl rfl ?_
   exact XS.iloadN X27.here hx rfl (D d1_33) rfl k
  have F32 := (F28.wr W27)
  have F33 := ((F23.ext E21).other W27 (Ne.symm nq_a0_a1))
  have F34 := ((F24.ext E21).other W27 (Ne.symm ne_a0_b13))
  have F35 := (V21.other W27 (Ne.symm ne_a0_b21))
  have F36 := ((F25.ext E21).other W27 (Ne.symm ne_a0_b5))
  obtain ⟨T31, h31, k31, X31, e31, E31, A31, st31⟩ := newP X27 hx hZ (own_h hw 0 rfl) e27 (g := (mkF m 34 #[rv a0, rv a1, iv (3:Int32)] [(.int (3:Int32)), (.ref a0)])) rfl (D d1_34) rfl (by decide) (cap := 3) (by decide) (by decide) (by decide) (by decide)
  obtain ⟨b31, g31⟩ : ∃ z, z = h27.size := ⟨_, rfl⟩
  rw [← g31] at A31 st31
  have ge_b31 : n0 ≤ b31 := Nat.le_trans Z30 (Nat.le_of_eq g31.symm)
  have sz_b31 : h0.size ≤ b31 := Nat.le_trans Kp27.1 (Nat.le_of_eq g31.symm)
  have ne_a0_b31 : a0 ≠ b31 := Nat.ne_of_lt (Nat.lt_of_lt_of_le F32.lt (Nat.le_of_eq g31.symm))
  have ne_a1_b31 : a1 ≠ b31 := Nat.ne_of_lt (Nat.lt_of_lt_of_le F33.lt (Nat.le_of_eq g31.symm))
  have ne_b13_b31 : b13 ≠ b31 := Nat.ne_of_lt (Nat.lt_of_lt_of_le F34.lt (Nat.le_of_eq g31.symm))
  have ne_b21_b31 : b21 ≠ b31 := Nat.ne_of_lt (Nat.lt_of_lt_of_le F35.lt (Nat.le_of_eq g31.symm))
  have ne_b5_b31 : b5 ≠ b31 := Nat.ne_of_lt (Nat.lt_of_lt_of_le F36.lt (Nat.le_of_eq g31.symm))
  have Kp31 : Keep h0 h31 [a0] := Kp27.ext E31
  have Z37 : n0 ≤ h31.size := Nat.le_trans Z30 E31.1
  have V31 : own_Ints Z h31 b31 [(0:Int32), (0:Int32), (0:Int32)] := own_newI A31 (by decide)
  refine own_pre st31 ?_
  have F39 := (F32.ext E31)
  have F40 := ((((((((P5.other W2 (Or.inr (slot_ne (Or.inr (own_h hw 20 rfl)) (Or.inr (own_h hw 12 rfl)) (by decide) (t := (.array .int)) (t' := (.array .int)) (by decide) (by decide)))).ext E5).other W8 (Or.inr (slot_ne (Or.inr (own_h hw 20 rfl)) (Or.inr (own_h hw 14 rfl)) (by decide) (t := (.array .int)) (t' := (.array .int)) (by decide) (by decide)))).ext E13).other W17 (Or.inr (slot_ne (Or.inr (own_h hw 20 rfl)) (Or.inr (own_h hw 16 rfl)) (by decide) (t := (.array .int)) (t' := (.array .int)) (by decide) (by decide)))).ext E21).other W27 (Or.inr (slot_ne (Or.inr (own_h hw 20 rfl)) (Or.inr (own_h hw 18 rfl)) (by decide) (t := (.array .int)) (t' := (.array .int)) (by decide) (by decide)))).ext E31)
  obtain ⟨T38, h38, X38, e38, W38, st38⟩ := putF X31 hx hZ hown (host := "") (Or.inl (own_h hw 19 rfl)) Via.refl e31 F40 F39 (Or.inr ⟨(own_h hw 20 rfl), rfl, hnm⟩) (own_h hw 3 rfl) (ty := (.array .int)) (by decide) rfl rfl (g := (mkF m 36 #[rv a0, rv a1, iv (3:Int32)] [(.ref b31), (.ref a0)])) rfl rfl (D d1_36)
  have Kp38 : Keep h0 h38 [a0] := Kp31.wr W38 (Or.inl (List.mem_of_getElem? (i := 0) rfl))
  have Z41 : n0 ≤ h38.size := Nat.le_trans Z37 (Nat.le_of_eq W38.size.symm)
  have N38 := Fr.snoc X38 N27 gq_a0
  have Fw38 := F40.same W38
  refine own_pre st38 ?_
  have F42 := ((((((Fw8.ext E13).other W17 (Or.inr (slot_ne (Or.inr (own_h hw 14 rfl)) (Or.inr (own_h hw 16 rfl)) (by decide) (t := (.array .int)) (t' := (.array .int)) (by decide) (by decide)))).ext E21).other W27 (Or.inr (slot_ne (Or.inr (own_h hw 14 rfl)) (Or.inr (own_h hw 18 rfl)) (by decide) (t := (.array .int)) (t' := (.array .int)) (by decide) (by decide)))).ext E31).other W38 (Or.inr (slot_ne (Or.inr (own_h hw 14 rfl)) (Or.inr (own_h hw 20 rfl)) (by decide) (t := (.array .int)) (t' := (.array .int)) (by decide) (by decide))))
  have F43 := ((((Fw17.ext E21).other W27 (Or.inr (slot_ne (Or.inr (own_h hw 16 rfl)) (Or.inr (own_h hw 18 rfl)) (by decide) (t := (.array .int)) (t' := (.array .int)) (by decide) (by decide)))).ext E31).other W38 (Or.inr (slot_ne (Or.inr (own_h hw 16 rfl)) (Or.inr (own_h hw 20 rfl)) (by decide) (t := (.array .int)) (t' := (.array .int)) (by decide) (by decide))))
  have F44 := ((Fw27.ext E31).other W38 (Or.inr (slot_ne (Or.inr (own_h hw 18 rfl)) (Or.inr (own_h hw 20 rfl)) (by decide) (t := (.array .int)) (t' := (.array .int)) (by decide) (by decide))))
  have F45 := ((((((((Fw2.ext E5).other W8 (Or.inr (slot_ne (Or.inr (own_h hw 12 rfl)) (Or.inr (own_h hw 14 rfl)) (by decide) (t := (.array .int)) (t' := (.array .int)) (by decide) (by decide)))).ext E13).other W17 (Or.inr (slot_ne (Or.inr (own_h hw 12 rfl)) (Or.inr (own_h hw 16 rfl)) (by decide) (t := (.array .int)) (t' := (.array .int)) (by decide) (by decide)))).ext E21).other W27 (Or.inr (slot_ne (Or.inr (own_h hw 12 rfl)) (Or.inr (own_h hw 18 rfl)) (by decide) (t := (.array .int)) (t' := (.array .int)) (by decide) (by decide)))).ext E31).other W38 (Or.inr (slot_ne (Or.inr (own_h hw 12 rfl)) (Or.inr (own_h hw 20 rfl)) (by decide) (t := (.array .int)) (t' := (.array .int)) (by decide) (by decide))))
  have F46 := (((((((((P6.other W2 (Or.inr (slot_ne (Or.inl (own_h hw 27 rfl)) (Or.inr (own_h hw 12 rfl)) (by decide) (t := .int) (t' := (.array .int)) (by decide) (by decide)))).ext E5).other W8 (Or.inr (slot_ne (Or.inl (own_h hw 27 rfl)) (Or.inr (own_h hw 14 rfl)) (by decide) (t := .int) (t' := (.array .int)) (by decide) (by decide)))).ext E13).other W17 (Or.inr (slot_ne (Or.inl (own_h hw 27 rfl)) (Or.inr (own_h hw 16 rfl)) (by decide) (t := .int) (t' := (.array .int)) (by decide) (by decide)))).ext E21).other W27 (Or.inr (slot_ne (Or.inl (own_h hw 27 rfl)) (Or.inr (own_h hw 18 rfl)) (by decide) (t := .int) (t' := (.array .int)) (by decide) (by decide)))).ext E31).other W38 (Or.inr (slot_ne (Or.inl (own_h hw 27 rfl)) (Or.inr (own_h hw 20 rfl)) (by decide) (t := .int) (t' := (.array .int)) (by decide) (by decide))))
  have F47 := (((((((((P7.other W2 (Or.inr (slot_ne (Or.inl (own_h hw 34 rfl)) (Or.inr (own_h hw 12 rfl)) (by decide) (t := .int) (t' := (.array .int)) (by decide) (by decide)))).ext E5).other W8 (Or.inr (slot_ne (Or.inl (own_h hw 34 rfl)) (Or.inr (own_h hw 14 rfl)) (by decide) (t := .int) (t' := (.array .int)) (by decide) (by decide)))).ext E13).other W17 (Or.inr (slot_ne (Or.inl (own_h hw 34 rfl)) (Or.inr (own_h hw 16 rfl)) (by decide) (t := .int) (t' := (.array .int)) (by decide) (by decide)))).ext E21).other W27 (Or.inr (slot_ne (Or.inl (own_h hw 34 rfl)) (Or.inr (own_h hw 18 rfl)) (by decide) (t := .int) (t' := (.array .int)) (by decide) (by decide)))).ext E31).other W38 (Or.inr (slot_ne (Or.inl (own_h hw 34 rfl)) (Or.inr (own_h hw 20 rfl)) (by decide) (t := .int) (t' := (.array .int)) (by decide) (by decide))))
  have F48 := ((F36.ext E31).other W38 (Ne.symm ne_a0_b5))
  have F49 := ((F34.ext E31).other W38 (Ne.symm ne_a0_b13))
  have F50 := ((F35.ext E31).other W38 (Ne.symm ne_a0_b21))
  have F51 := (V31.other W38 (Ne.symm ne_a0_b31))
  exact own_end X38 (BodyLoose.notSynchronized Bd) (fun _ => rfl) (v := none) (fun fs hr => X38.returnOut hx Bd.returns (D d1_39) hr) (by show Q1 Z a0 a1 x0 x1 x2 h0 n0 _ T38.heap _; rw [e38]; exact ⟨rfl, N38, Kp38, b5, b13, b21, b31, sz_b5, sz_b13, sz_b21, sz_b31, ne_b5_b13, ne_b5_b21, ne_b5_b31, ne_b13_b21, ne_b13_b31, ne_b21_b31, F42, F43, F44, Fw38, F45, F46, F47, F48, F49, F50, F51⟩) (by decide) (by decide)
theorem d3_0 : decode prog_15_method_2_code 0 = .ok (.aload_n 0, 1) := by decide +kernel
theorem d3_1 : decode prog_15_method_2_code 1 = .ok (.getfield 13, 3) := by decide +kernel
theorem d3_4 : decode prog_15_method_2_code 4 = .ok (.aload_n 0, 1) := by decide +kernel
theorem d3_5 : decode prog_15_method_2_code 5 = .ok (.getfield 25, 3) := by decide +kernel
theorem d3_8 : decode prog_15_method_2_code 8 = .ok (.iload_n 1, 1) := by decide +kernel
theorem d3_9 : decode prog_15_method_2_code 9 = .ok (.iastore, 1) := by decide +kernel
theorem d3_10 : decode prog_15_method_2_code 10 = .ok (.aload_n 0, 1) := by decide +kernel
theorem d3_11 : decode prog_15_method_2_code 11 = .ok (.dup, 1) := by decide +kernel
theorem d3_12 : decode prog_15_method_2_code 12 = .ok (.getfield 25, 3) := by decide +kernel
theorem d3_15 : decode prog_15_method_2_code 15 = .ok (.iconst 1, 1) := by decide +kernel
theorem d3_16 : decode prog_15_method_2_code 16 = .ok (.iadd, 1) := by decide +kernel
theorem d3_17 : decode prog_15_method_2_code 17 = .ok (.putfield 25, 3) := by decide +kernel
theorem d3_20 : decode prog_15_method_2_code 20 = .ok (.return_, 1) := by decide +kernel
theorem ef3 (m : MethodId) (a0 : Addr) (p1 : Int32) : entryFrame m #[(.ref a0), (.int p1)] 2 = mkF m 0 #[rv a0, iv p1] [] := by first | (simp [entryFrame, mkF, argsToLocals, Value.category]; done) | rfl
def Q3 (Z : State) (a0 : Addr) (p1 : Int32) (la : Addr) (mv : Addr) (gr : Addr) (gl : Addr) (gs : Addr) (ms : List Int32) (mc : Int32) (h0 : Heap) (n0 : Nat) (v : Option Value) (h : Heap) (L : List Loc) : Prop := v = none ∧ Fr n0 L ∧ Keep h0 h [a0, mv] ∧ Fld Z h a0 "com/example/spare_calculus/sparecalculus/bisim/LabelGroups" "labels" "[I" (.ref la) ∧ Fld Z h a0 "com/example/spare_calculus/sparecalculus/bisim/LabelGroups" "moves" "[I" (.ref mv) ∧ Fld Z h a0 "com/example/spare_calculus/sparecalculus/bisim/LabelGroups" "grouped" "[I" (.ref gr) ∧ Fld Z h a0 "com/example/spare_calculus/sparecalculus/bisim/LabelGroups" "groupLabels" "[I" (.ref gl) ∧ Fld Z h a0 "com/example/spare_calculus/sparecalculus/bisim/LabelGroups" "groupStarts" "[I" (.ref gs) ∧ Fld Z h a0 "com/example/spare_calculus/sparecalculus/bisim/LabelGroups" "moveCount" "I" (.int (mc + (1:Int32))) ∧ Fld Z h a0 "com/example/spare_calculus/sparecalculus/bisim/LabelGroups" "groupCount" "I" (.int (0:Int32)) ∧ own_Ints Z h mv (ms.set mc.toNatClampNeg p1)
set_option maxRecDepth 65536 in
set_option maxHeartbeats 40000000 in
theorem rm3 (l : Launch) (Z : State) (aZ : Array Value) (hw : ∀ d ∈ tables_1, d.before aZ Z = true) (ws : List Jvm.Cond) (a0 : Addr) (p1 : Int32) (la : Addr) (mv : Addr) (gr : Addr) (gl : Addr) (gs : Addr) (ms : List Int32) (mc : Int32) (h0 : Heap) (n0 : Nat) (Z0 : n0 ≤ h0.size) (P0 : Exa Z h0 a0 "com/example/spare_calculus/sparecalculus/bisim/LabelGroups") (P1 : Fld Z h0 a0 "com/example/spare_calculus/sparecalculus/bisim/LabelGroups" "labels" "[I" (.ref la)) (P2 : Fld Z h0 a0 "com/example/spare_calculus/sparecalculus/bisim/LabelGroups" "moves" "[I" (.ref mv)) (P3 : Fld Z h0 a0 "com/example/spare_calculus/sparecalculus/bisim/LabelGroups" "grouped" "[I" (.ref gr)) (P4 : Fld Z h0 a0 "com/example/spare_calculus/sparecalculus/bisim/LabelGroups" "groupLabels" "[I" (.ref gl)) (P5 : Fld Z h0 a0 "com/example/spare_calculus/sparecalculus/bisim/LabelGroups" "groupStarts" "[I" (.ref gs)) (P6 : Fld Z h0 a0 "com/example/spare_calculus/sparecalculus/bisim/LabelGroups" "moveCount" "I" (.int mc)) (P7 : Fld Z h0 a0 "com/example/spare_calculus/sparecalculus/bisim/LabelGroups" "groupCount" "I" (.int (0:Int32))) (P8 : own_Ints Z h0 mv ms) (nq_a0_mv : a0 ≠ mv) (gq_a0 : n0 ≤ a0) (gq_mv : n0 ≤ mv) (hin : own_In mc ms.length) :
    MetFree l (⟨"com/example/spare_calculus/sparecalculus/bisim/LabelGroups", "add", "(I)V"⟩ : MethodName) (head1 (Jvm.Cond.code (⟨"com/example/spare_calculus/sparecalculus/bisim/LabelGroups", "add", "(I)V"⟩ : MethodName) prog_15_method_2_code 2 none :: ws) ({ frames := 0, cells := 0, slots := 0, locals := 0 } : Room)) (fun a U => a = #[(.ref a0), (.int p1)] ∧ Z.Warmed39 U.vm ∧ U.heap = h0) (fun _ _ _ _ _ => True) (fun _ U o U' => ∃ v L, o = .returned v ∧ Q3 Z a0 p1 la mv gr gl gs ms mc h0 n0 v U'.heap L ∧ FrameEnd U o U' L ({ frames := 0, cells := 0, slots := 0, locals := 0 } : Room).cells ({ frames := 0, cells := 0, slots := 0, locals := 0 } : Room).slots) := by
  refine MetFree.of_bodySF (plainFor_of_name own_pn0) hisR ?_
  intro p e s m args below meth c s₁ Bd hml0 hP hK
  obtain ⟨rfl, hZ, hh⟩ := hP
  have hx := Bd.exec
  have hby := Bd.bytes
  have hml : c.maxLocals = 2 := hml0
  have hown : s.vm.findClass "com/example/spare_calculus/sparecalculus/bisim/LabelGroups" = some m.cls := findClass_of_methodNamed Bd.named
  have hnm := (name_of_methodNamed Bd.named Bd.method).1
  have X0 : Stand p l e ({ frames := 0, cells := 0, slots := 0, locals := 0 } : Room) s m #[(.ref a0), (.int p1)] below meth c s₁ [] 0 0 := Stand.of_body Bd
  have e0 : s₁.heap = h0 := by rw [← hh, Bd.state]; rfl
  have N0 := Fr.nil n0
  have Kp0 : Keep h0 h0 [a0, mv] := Keep.refl _ _
  have D : ∀ {pc : Nat} {r : Except ClassFile.DecodeError (ClassFile.Instr × Nat)}, decode prog_15_method_2_code pc = r → decode c.code pc = r := fun h => hb hby h
  show own_Goes p e below s (Q3 Z a0 p1 la mv gr gl gs ms mc h0 n0) ({ frames := 0, cells := 0, slots := 0, locals := 0 } : Room).cells ({ frames := 0, cells := 0, slots := 0, locals := 0 } : Room).slots _
  refine own_pre (fun t k => castTop (ef3 m a0 p1) k) ?_
  refine own_pA s₁ m 1 #[rv a0, iv p1] [(.ref a0)] (fun t k => ?_) ?_
  ·exact XS.aloadN X0.here hx rfl (D d3_0) rfl rfl k
  refine own_getF X0 hx hZ hown (host := "") (Or.inl (own_h hw 13 rfl)) Via.refl e0 P2 rfl rfl (D d3_1) (fun T52 X52 e52 => ?_)
  refine own_pA T52 m 5 #[rv a0, iv p1] [(.ref a0), (.ref mv)] (fun t k => ?_) ?_
  ·exact XS.aloadN X52.here hx rfl (D d3_4) rfl rfl k
  refine own_getF X52 hx hZ hown (host := "") (Or.inl (own_h hw 26 rfl)) Via.refl e52 P6 rfl rfl (D d3_5) (fun T53 X53 e53 => ?_)
  refine own_pA T53 m 9 #[rv a0, iv p1] [(.int p1), (.int mc), (.ref mv)] (fun t k => ?_) ?_
  ·exact XS.iloadN X53.here hx rfl (D d3_8) rfl k
  have hbn55 : own_In mc ms.length := hin
  refine own_iastG X53 hx hZ e53 P8 hbn55 rfl rfl (D d3_9) (fun T54 h54 X54 e54 W54 V54 => ?_)
  have Kp54 : Keep h0 h54 [a0, mv] := Kp0.wr W54 (Or.inl (List.mem_of_getElem? (i := 1) rfl))
  have Z56 : n0 ≤ h54.size := Nat.le_trans Z0 (Nat.le_of_eq W54.size.symm)
  have N54 := Fr.snoc X54 N0 gq_mv
  have Vw54 : own_Ints Z h54 mv (ms.set mc.toNatClampNeg p1) := V54
  refine own_pA T54 m 12 #[rv a0, iv p1] [(.ref a0), (.ref a0)] (fun t k => ?_) ?_
  ·refine XS.aloadN X54.here hx rfl (D d3_10) rfl rfl ?_
   exact XS.dup X54.here hx rfl (D d3_11) rfl rfl k
  have F58 := (P6.other W54 (Or.inl nq_a0_mv))
  refine own_getF X54 hx hZ hown (host := "") (Or.inl (own_h hw 26 rfl)) Via.refl e54 F58 rfl rfl (D d3_12) (fun T57 X57 e57 => ?_)
  refine own_pA T57 m 17 #[rv a0, iv p1] [(.int (mc + (1:Int32))), (.ref a0)] (fun t k => ?_) ?_
  ·refine XS.iconst X57.here hx rfl (D d3_15) ?_
   exact XS.iadd X57.here hx rfl (D d3_16) rfl k
  have F60 := (P0.wr W54)
  obtain ⟨T59, h59, X59, e59, W59, st59⟩ := putF X57 hx hZ hown (host := "") (Or.inl (own_h hw 26 rfl)) Via.refl e57 F58 F60 (Or.inl (own_h hw 27 rfl)) (own_h hw 3 rfl) (ty := .int) (by decide) rfl rfl (g := (mkF m 17 #[rv a0, iv p1] [(.int (mc + (1:Int32))), (.ref a0)])) rfl rfl (D d3_17)
  have Kp59 : Keep h0 h59 [a0, mv] := Kp54.wr W59 (Or.inl (List.mem_of_getElem? (i := 0) rfl))
  have Z61 : n0 ≤ h59.size := Nat.le_trans Z56 (Nat.le_of_eq W59.size.symm)
  have N59 := Fr.snoc X59 N54 gq_a0
  have Fw59 := F58.same W59
  refine own_pre st59 ?_
  have F62 := ((P1.other W54 (Or.inl nq_a0_mv)).other W59 (Or.inr (slot_ne (Or.inr (own_h hw 12 rfl)) (Or.inl (own_h hw 27 rfl)) (by decide) (t := (.array .int)) (t' := .int) (by decide) (by decide))))
  have F63 := ((P2.other W54 (Or.inl nq_a0_mv)).other W59 (Or.inr (slot_ne (Or.inr (own_h hw 14 rfl)) (Or.inl (own_h hw 27 rfl)) (by decide) (t := (.array .int)) (t' := .int) (by decide) (by decide))))
  have F64 := ((P3.other W54 (Or.inl nq_a0_mv)).other W59 (Or.inr (slot_ne (Or.inr (own_h hw 16 rfl)) (Or.inl (own_h hw 27 rfl)) (by decide) (t := (.array .int)) (t' := .int) (by decide) (by decide))))
  have F65 := ((P4.other W54 (Or.inl nq_a0_mv)).other W59 (Or.inr (slot_ne (Or.inr (own_h hw 18 rfl)) (Or.inl (own_h hw 27 rfl)) (by decide) (t := (.array .int)) (t' := .int) (by decide) (by decide))))
  have F66 := ((P5.other W54 (Or.inl nq_a0_mv)).other W59 (Or.inr (slot_ne (Or.inr (own_h hw 20 rfl)) (Or.inl (own_h hw 27 rfl)) (by decide) (t := (.array .int)) (t' := .int) (by decide) (by decide))))
  have F67 := ((P7.other W54 (Or.inl nq_a0_mv)).other W59 (Or.inr (slot_ne (Or.inl (own_h hw 34 rfl)) (Or.inl (own_h hw 27 rfl)) (by decide) (t := .int) (t' := .int) (by decide) (by decide))))
  have F68 := (Vw54.other W59 (Ne.symm nq_a0_mv))
  exact own_end X59 (BodyLoose.notSynchronized Bd) (fun _ => rfl) (v := none) (fun fs hr => X59.returnOut hx Bd.returns (D d3_20) hr) (by show Q3 Z a0 p1 la mv gr gl gs ms mc h0 n0 _ T59.heap _; rw [e59]; exact ⟨rfl, N59, Kp59, F62, F63, F64, F65, F66, Fw59, F67, F68⟩) (by decide) (by decide)
theorem own_z3 (j : Int32) : own_at [(0:Int32), (0:Int32), (0:Int32)] j = 0 := by
  simp only [own_at]
  match h : j.toNatClampNeg with
  | 0 => rfl
  | 1 => rfl
  | 2 => rfl
  | n + 3 => rfl
theorem d4_0 : decode prog_15_method_3_code 0 = .ok (.iconst 0, 1) := by decide +kernel
theorem d4_1 : decode prog_15_method_3_code 1 = .ok (.istore_n 1, 1) := by decide +kernel
theorem d4_2 : decode prog_15_method_3_code 2 = .ok (.iload_n 1, 1) := by decide +kernel
theorem d4_3 : decode prog_15_method_3_code 3 = .ok (.aload_n 0, 1) := by decide +kernel
theorem d4_4 : decode prog_15_method_3_code 4 = .ok (.getfield 25, 3) := by decide +kernel
theorem d4_7 : decode prog_15_method_3_code 7 = .ok (.if_icmp .ge 60, 3) := by decide +kernel
theorem d4_67 : decode prog_15_method_3_code 67 = .ok (.iconst 0, 1) := by decide +kernel
theorem d4_68 : decode prog_15_method_3_code 68 = .ok (.istore_n 1, 1) := by decide +kernel
theorem d4_69 : decode prog_15_method_3_code 69 = .ok (.iconst 0, 1) := by decide +kernel
theorem d4_70 : decode prog_15_method_3_code 70 = .ok (.istore_n 2, 1) := by decide +kernel
theorem d4_71 : decode prog_15_method_3_code 71 = .ok (.iload_n 2, 1) := by decide +kernel
theorem d4_72 : decode prog_15_method_3_code 72 = .ok (.aload_n 0, 1) := by decide +kernel
theorem d4_73 : decode prog_15_method_3_code 73 = .ok (.getfield 29, 3) := by decide +kernel
theorem d4_76 : decode prog_15_method_3_code 76 = .ok (.if_icmp .ge 32, 3) := by decide +kernel
theorem d4_108 : decode prog_15_method_3_code 108 = .ok (.aload_n 0, 1) := by decide +kernel
theorem d4_109 : decode prog_15_method_3_code 109 = .ok (.getfield 25, 3) := by decide +kernel
theorem d4_112 : decode prog_15_method_3_code 112 = .ok (.iconst 1, 1) := by decide +kernel
theorem d4_113 : decode prog_15_method_3_code 113 = .ok (.isub, 1) := by decide +kernel
theorem d4_114 : decode prog_15_method_3_code 114 = .ok (.istore_n 2, 1) := by decide +kernel
theorem d4_115 : decode prog_15_method_3_code 115 = .ok (.iload_n 2, 1) := by decide +kernel
theorem d4_116 : decode prog_15_method_3_code 116 = .ok (.ifCond .lt 48, 3) := by decide +kernel
theorem d4_164 : decode prog_15_method_3_code 164 = .ok (.aload_n 0, 1) := by decide +kernel
theorem d4_165 : decode prog_15_method_3_code 165 = .ok (.getfield 29, 3) := by decide +kernel
theorem d4_168 : decode prog_15_method_3_code 168 = .ok (.ireturn, 1) := by decide +kernel
theorem ef4m0 (m : MethodId) (a0 : Addr) : entryFrame m #[(.ref a0)] 5 = mkF m 0 #[rv a0, .unset, .unset, .unset, .unset] [] := by first | (simp [entryFrame, mkF, argsToLocals, Value.category]; done) | rfl
def g4m0_gc (x0 : Int32) (x1 : Int32) (x2 : Int32) (y0 : Int32) (y1 : Int32) (y2 : Int32) : Int32 := (0:Int32)
def g4m0_gr (x0 : Int32) (x1 : Int32) (x2 : Int32) (y0 : Int32) (y1 : Int32) (y2 : Int32) : List Int32 := [(0:Int32), (0:Int32), (0:Int32)]
def g4m0_gl (x0 : Int32) (x1 : Int32) (x2 : Int32) (y0 : Int32) (y1 : Int32) (y2 : Int32) : List Int32 := [(0:Int32), (0:Int32), (0:Int32)]
def g4m0_gs (x0 : Int32) (x1 : Int32) (x2 : Int32) (y0 : Int32) (y1 : Int32) (y2 : Int32) : List Int32 := [(0:Int32), (0:Int32), (0:Int32)]
def f4m0 (x0 : Int32) (x1 : Int32) (x2 : Int32) (y0 : Int32) (y1 : Int32) (y2 : Int32) : Int32 := (0:Int32)
def Q4m0 (Z : State) (a0 : Addr) (la : Addr) (mv : Addr) (gr : Addr) (gl : Addr) (gs : Addr) (x0 : Int32) (x1 : Int32) (x2 : Int32) (y0 : Int32) (y1 : Int32) (y2 : Int32) (h0 : Heap) (n0 : Nat) (v : Option Value) (h : Heap) (L : List Loc) : Prop := v = some (.int (f4m0 x0 x1 x2 y0 y1 y2)) ∧ Fr n0 L ∧ Keep h0 h [a0, gr, gl, gs] ∧ Fld Z h a0 "com/example/spare_calculus/sparecalculus/bisim/LabelGroups" "labels" "[I" (.ref la) ∧ Fld Z h a0 "com/example/spare_calculus/sparecalculus/bisim/LabelGroups" "moves" "[I" (.ref mv) ∧ Fld Z h a0 "com/example/spare_calculus/sparecalculus/bisim/LabelGroups" "grouped" "[I" (.ref gr) ∧ Fld Z h a0 "com/example/spare_calculus/sparecalculus/bisim/LabelGroups" "groupLabels" "[I" (.ref gl) ∧ Fld Z h a0 "com/example/spare_calculus/sparecalculus/bisim/LabelGroups" "groupStarts" "[I" (.ref gs) ∧ Fld Z h a0 "com/example/spare_calculus/sparecalculus/bisim/LabelGroups" "moveCount" "I" (.int (0:Int32)) ∧ Fld Z h a0 "com/example/spare_calculus/sparecalculus/bisim/LabelGroups" "groupCount" "I" (.int (g4m0_gc x0 x1 x2 y0 y1 y2)) ∧ own_Ints Z h gr (g4m0_gr x0 x1 x2 y0 y1 y2) ∧ own_Ints Z h gl (g4m0_gl x0 x1 x2 y0 y1 y2) ∧ own_Ints Z h gs (g4m0_gs x0 x1 x2 y0 y1 y2)
set_option maxRecDepth 65536 in
set_option maxHeartbeats 40000000 in
theorem rm4m0 (l : Launch) (Z : State) (aZ : Array Value) (hw : ∀ d ∈ tables_1, d.before aZ Z = true) (ws : List Jvm.Cond) (a0 : Addr) (la : Addr) (mv : Addr) (gr : Addr) (gl : Addr) (gs : Addr) (x0 : Int32) (x1 : Int32) (x2 : Int32) (y0 : Int32) (y1 : Int32) (y2 : Int32) (h0 : Heap) (n0 : Nat) (Z0 : n0 ≤ h0.size) (P0 : Exa Z h0 a0 "com/example/spare_calculus/sparecalculus/bisim/LabelGroups") (P1 : Fld Z h0 a0 "com/example/spare_calculus/sparecalculus/bisim/LabelGroups" "labels" "[I" (.ref la)) (P2 : Fld Z h0 a0 "com/example/spare_calculus/sparecalculus/bisim/LabelGroups" "moves" "[I" (.ref mv)) (P3 : Fld Z h0 a0 "com/example/spare_calculus/sparecalculus/bisim/LabelGroups" "grouped" "[I" (.ref gr)) (P4 : Fld Z h0 a0 "com/example/spare_calculus/sparecalculus/bisim/LabelGroups" "groupLabels" "[I" (.ref gl)) (P5 : Fld Z h0 a0 "com/example/spare_calculus/sparecalculus/bisim/LabelGroups" "groupStarts" "[I" (.ref gs)) (P6 : Fld Z h0 a0 "com/example/spare_calculus/sparecalculus/bisim/LabelGroups" "moveCount" "I" (.int (0:Int32))) (P7 : Fld Z h0 a0 "com/example/spare_calculus/sparecalculus/bisim/LabelGroups" "groupCount" "I" (.int (0:Int32))) (P8 : own_Ints Z h0 la [x0, x1, x2]) (P9 : own_Ints Z h0 mv [y0, y1, y2]) (P10 : own_Ints Z h0 gr [(0:Int32), (0:Int32), (0:Int32)]) (P11 : own_Ints Z h0 gl [(0:Int32), (0:Int32), (0:Int32)]) (P12 : own_Ints Z h0 gs [(0:Int32), (0:Int32), (0:Int32)]) (nq_a0_la : a0 ≠ la) (nq_a0_mv : a0 ≠ mv) (nq_a0_gr : a0 ≠ gr) (nq_a0_gl : a0 ≠ gl) (nq_a0_gs : a0 ≠ gs) (nq_la_mv : la ≠ mv) (nq_la_gr : la ≠ gr) (nq_la_gl : la ≠ gl) (nq_la_gs : la ≠ gs) (nq_mv_gr : mv ≠ gr) (nq_mv_gl : mv ≠ gl) (nq_mv_gs : mv ≠ gs) (nq_gr_gl : gr ≠ gl) (nq_gr_gs : gr ≠ gs) (nq_gl_gs : gl ≠ gs) (gq_a0 : n0 ≤ a0) (gq_gr : n0 ≤ gr) (gq_gl : n0 ≤ gl) (gq_gs : n0 ≤ gs) :
    MetFree l (⟨"com/example/spare_calculus/sparecalculus/bisim/LabelGroups", "group", "()I"⟩ : MethodName) (head1 (Jvm.Cond.code (⟨"com/example/spare_calculus/sparecalculus/bisim/LabelGroups", "group", "()I"⟩ : MethodName) prog_15_method_3_code 5 (some .int) :: ws) ({ frames := 0, cells := 0, slots := 0, locals := 0 } : Room)) (fun a U => a = #[(.ref a0)] ∧ Z.Warmed39 U.vm ∧ U.heap = h0) (fun _ _ _ _ _ => True) (fun _ U o U' => ∃ v L, o = .returned v ∧ Q4m0 Z a0 la mv gr gl gs x0 x1 x2 y0 y1 y2 h0 n0 v U'.heap L ∧ FrameEnd U o U' L ({ frames := 0, cells := 0, slots := 0, locals := 0 } : Room).cells ({ frames := 0, cells := 0, slots := 0, locals := 0 } : Room).slots) := by
  refine MetFree.of_bodySF (plainFor_of_name own_pn0) hisR ?_
  intro p e s m args below meth c s₁ Bd hml0 hP hK
  obtain ⟨rfl, hZ, hh⟩ := hP
  have hx := Bd.exec
  have hby := Bd.bytes
  have hml : c.maxLocals = 5 := hml0
  have hown : s.vm.findClass "com/example/spare_calculus/sparecalculus/bisim/LabelGroups" = some m.cls := findClass_of_methodNamed Bd.named
  have hnm := (name_of_methodNamed Bd.named Bd.method).1
  have X0 : Stand p l e ({ frames := 0, cells := 0, slots := 0, locals := 0 } : Room) s m #[(.ref a0)] below meth c s₁ [] 0 0 := Stand.of_body Bd
  have e0 : s₁.heap = h0 := by rw [← hh, Bd.state]; rfl
  have N0 := Fr.nil n0
  have Kp0 : Keep h0 h0 [a0, gr, gl, gs] := Keep.refl _ _
  have D : ∀ {pc : Nat} {r : Except ClassFile.DecodeError (ClassFile.Instr × Nat)}, decode prog_15_method_3_code pc = r → decode c.code pc = r := fun h => hb hby h
  show own_Goes p e below s (Q4m0 Z a0 la mv gr gl gs x0 x1 x2 y0 y1 y2 h0 n0) ({ frames := 0, cells := 0, slots := 0, locals := 0 } : Room).cells ({ frames := 0, cells := 0, slots := 0, locals := 0 } : Room).slots _
  refine own_pre (fun t k => castTop (ef4m0 m a0) k) ?_
  refine own_pA s₁ m 4 #[rv a0, iv (0:Int32), .unset, .unset, .unset] [(.ref a0), (.int (0:Int32))] (fun t k => ?_) ?_
  ·refine XS.iconst X0.here hx rfl (D d4_0) ?_
   refine XS.istoreN X0.here hx rfl (D d4_1) rfl (l' := #[rv a0, iv (0:Int32), .unset, .unset, .unset]) rfl ?_
   refine XS.iloadN X0.here hx rfl (D d4_2) rfl ?_
   exact XS.aloadN X0.here hx rfl (D d4_3) rfl rfl k
  refine own_getF X0 hx hZ hown (host := "") (Or.inl (own_h hw 26 rfl)) Via.refl e0 P6 rfl rfl (D d4_4) (fun T69 X69 e69 => ?_)
  refine own_pA T69 m 73 #[rv a0, iv (0:Int32), iv (0:Int32), .unset, .unset] [(.ref a0), (.int (0:Int32))] (fun t k => ?_) ?_
  ·refine XS.icmpYes X69.here hx rfl (pc0 := 7) (pc' := 67) rfl (D d4_7) rfl (XT.ii_ge_t (by decide)) (by decide) (by decide) ?_
   refine XS.iconst X69.here hx rfl (D d4_67) ?_
   refine XS.istoreN X69.here hx rfl (D d4_68) rfl (l' := #[rv a0, iv (0:Int32), .unset, .unset, .unset]) rfl ?_
   refine XS.iconst X69.here hx rfl (D d4_69) ?_
   refine XS.istoreN X69.here hx rfl (D d4_70) rfl (l' := #[rv a0, iv (0:Int32), iv (0:Int32), .unset, .unset]) rfl ?_
   refine XS.iloadN X69.here hx rfl (D d4_71) rfl ?_
   exact XS.aloadN X69.here hx rfl (D d4_72) rfl rfl k
  refine own_getF X69 hx hZ hown (host := "") (Or.inl (own_h hw 33 rfl)) Via.refl e69 P7 rfl rfl (D d4_73) (fun T70 X70 e70 => ?_)
  refine own_pA T70 m 109 #[rv a0, iv (0:Int32), iv (0:Int32), .unset, .unset] [(.ref a0)] (fun t k => ?_) ?_
  ·refine XS.icmpYes X70.here hx rfl (pc0 := 76) (pc' := 108) rfl (D d4_76) rfl (XT.ii_ge_t (by decide)) (by decide) (by decide) ?_
   exact XS.aloadN X70.here hx rfl (D d4_108) rfl rfl k
  refine own_getF X70 hx hZ hown (host := "") (Or.inl (own_h hw 26 rfl)) Via.refl e70 P6 rfl rfl (D d4_109) (fun T71 X71 e71 => ?_)
  refine own_pA T71 m 165 #[rv a0, iv (0:Int32), iv (-1:Int32), .unset, .unset] [(.ref a0)] (fun t k => ?_) ?_
  ·refine XS.iconst X71.here hx rfl (D d4_112) ?_
   refine XS.isub X71.here hx rfl (D d4_113) rfl ?_
   refine XS.istoreN X71.here hx rfl (D d4_114) rfl (l' := #[rv a0, iv (0:Int32), iv (-1:Int32), .unset, .unset]) rfl ?_
   refine XS.iloadN X71.here hx rfl (D d4_115) rfl ?_
   refine XS.ifYes X71.here hx rfl (pc0 := 116) (pc' := 164) rfl (D d4_116) rfl (XT.i0_lt_t (by decide)) (by decide) (by decide) ?_
   exact XS.aloadN X71.here hx rfl (D d4_164) rfl rfl k
  refine own_getF X71 hx hZ hown (host := "") (Or.inl (own_h hw 33 rfl)) Via.refl e71 P7 rfl rfl (D d4_165) (fun T72 X72 e72 => ?_)
  have hv73 : (0:Int32) = f4m0 x0 x1 x2 y0 y1 y2 := by rfl
  exact own_end X72 (BodyLoose.notSynchronized Bd) (fun h => by rw [Bd.returns] at h; cases h) (v := some (.int (0:Int32))) (fun fs hr => retOut X72 hx Bd.returns rfl (by simp [Value.isRef, FieldType.isReference]) (D d4_168) hr) (by show Q4m0 Z a0 la mv gr gl gs x0 x1 x2 y0 y1 y2 h0 n0 _ T72.heap _; rw [e72]; exact ⟨(congrArg (fun z => some (Value.int z)) hv73), N0, Kp0, P1, P2, P3, P4, P5, P6, (by exact P7), (by exact P10), (by exact P11), (by exact P12)⟩) (by decide) (by decide)
def own_v100 (x0 : Int32) (x1 : Int32) (x2 : Int32) (y0 : Int32) : List Int32 := ([(0:Int32), (0:Int32), (0:Int32)].set (own_at [x0, x1, x2] y0).toNatClampNeg ((own_at [(0:Int32), (0:Int32), (0:Int32)] (own_at [x0, x1, x2] y0)) + (1:Int32)))
def own_v117 (x0 : Int32) (x1 : Int32) (x2 : Int32) (y0 : Int32) : List Int32 := ((own_v100 x0 x1 x2 y0).set (own_at [x0, x1, x2] y0).toNatClampNeg ((0:Int32) + (own_at (own_v100 x0 x1 x2 y0) (own_at [x0, x1, x2] y0))))
def own_v137 (x0 : Int32) (x1 : Int32) (x2 : Int32) (y0 : Int32) : List Int32 := ((own_v117 x0 x1 x2 y0).set (own_at [x0, x1, x2] y0).toNatClampNeg ((own_at (own_v117 x0 x1 x2 y0) (own_at [x0, x1, x2] y0)) - (1:Int32)))
def own_v149 (x0 : Int32) (x1 : Int32) (x2 : Int32) (y0 : Int32) : List Int32 := ([(0:Int32), (0:Int32), (0:Int32)].set (own_at (own_v137 x0 x1 x2 y0) (own_at [x0, x1, x2] y0)).toNatClampNeg y0)
theorem d4_10 : decode prog_15_method_3_code 10 = .ok (.aload_n 0, 1) := by decide +kernel
theorem d4_11 : decode prog_15_method_3_code 11 = .ok (.getfield 7, 3) := by decide +kernel
theorem d4_14 : decode prog_15_method_3_code 14 = .ok (.aload_n 0, 1) := by decide +kernel
theorem d4_15 : decode prog_15_method_3_code 15 = .ok (.getfield 13, 3) := by decide +kernel
theorem d4_18 : decode prog_15_method_3_code 18 = .ok (.iload_n 1, 1) := by decide +kernel
theorem d4_19 : decode prog_15_method_3_code 19 = .ok (.iaload, 1) := by decide +kernel
theorem d4_20 : decode prog_15_method_3_code 20 = .ok (.iaload, 1) := by decide +kernel
theorem d4_21 : decode prog_15_method_3_code 21 = .ok (.istore_n 2, 1) := by decide +kernel
theorem d4_22 : decode prog_15_method_3_code 22 = .ok (.aload_n 0, 1) := by decide +kernel
theorem d4_23 : decode prog_15_method_3_code 23 = .ok (.getfield 22, 3) := by decide +kernel
theorem d4_26 : decode prog_15_method_3_code 26 = .ok (.iload_n 2, 1) := by decide +kernel
theorem d4_27 : decode prog_15_method_3_code 27 = .ok (.iaload, 1) := by decide +kernel
theorem d4_28 : decode prog_15_method_3_code 28 = .ok (.ifCond .ne 23, 3) := by decide +kernel
theorem d4_31 : decode prog_15_method_3_code 31 = .ok (.aload_n 0, 1) := by decide +kernel
theorem d4_32 : decode prog_15_method_3_code 32 = .ok (.getfield 19, 3) := by decide +kernel
theorem d4_35 : decode prog_15_method_3_code 35 = .ok (.aload_n 0, 1) := by decide +kernel
theorem d4_36 : decode prog_15_method_3_code 36 = .ok (.getfield 29, 3) := by decide +kernel
theorem d4_39 : decode prog_15_method_3_code 39 = .ok (.iload_n 2, 1) := by decide +kernel
theorem d4_40 : decode prog_15_method_3_code 40 = .ok (.iastore, 1) := by decide +kernel
theorem d4_41 : decode prog_15_method_3_code 41 = .ok (.aload_n 0, 1) := by decide +kernel
theorem d4_42 : decode prog_15_method_3_code 42 = .ok (.dup, 1) := by decide +kernel
theorem d4_43 : decode prog_15_method_3_code 43 = .ok (.getfield 29, 3) := by decide +kernel
theorem d4_46 : decode prog_15_method_3_code 46 = .ok (.iconst 1, 1) := by decide +kernel
theorem d4_47 : decode prog_15_method_3_code 47 = .ok (.iadd, 1) := by decide +kernel
theorem d4_48 : decode prog_15_method_3_code 48 = .ok (.putfield 29, 3) := by decide +kernel
theorem d4_51 : decode prog_15_method_3_code 51 = .ok (.aload_n 0, 1) := by decide +kernel
theorem d4_52 : decode prog_15_method_3_code 52 = .ok (.getfield 22, 3) := by decide +kernel
theorem d4_55 : decode prog_15_method_3_code 55 = .ok (.iload_n 2, 1) := by decide +kernel
theorem d4_56 : decode prog_15_method_3_code 56 = .ok (.dup2, 1) := by decide +kernel
theorem d4_57 : decode prog_15_method_3_code 57 = .ok (.iaload, 1) := by decide +kernel
theorem d4_58 : decode prog_15_method_3_code 58 = .ok (.iconst 1, 1) := by decide +kernel
theorem d4_59 : decode prog_15_method_3_code 59 = .ok (.iadd, 1) := by decide +kernel
theorem d4_60 : decode prog_15_method_3_code 60 = .ok (.iastore, 1) := by decide +kernel
theorem d4_61 : decode prog_15_method_3_code 61 = .ok (.iinc 1 1, 3) := by decide +kernel
theorem d4_64 : decode prog_15_method_3_code 64 = .ok (.goto (-62), 3) := by decide +kernel
theorem d4_79 : decode prog_15_method_3_code 79 = .ok (.aload_n 0, 1) := by decide +kernel
theorem d4_80 : decode prog_15_method_3_code 80 = .ok (.getfield 19, 3) := by decide +kernel
theorem d4_83 : decode prog_15_method_3_code 83 = .ok (.iload_n 2, 1) := by decide +kernel
theorem d4_84 : decode prog_15_method_3_code 84 = .ok (.iaload, 1) := by decide +kernel
theorem d4_85 : decode prog_15_method_3_code 85 = .ok (.istore_n 3, 1) := by decide +kernel
theorem d4_86 : decode prog_15_method_3_code 86 = .ok (.iload_n 1, 1) := by decide +kernel
theorem d4_87 : decode prog_15_method_3_code 87 = .ok (.aload_n 0, 1) := by decide +kernel
theorem d4_88 : decode prog_15_method_3_code 88 = .ok (.getfield 22, 3) := by decide +kernel
theorem d4_91 : decode prog_15_method_3_code 91 = .ok (.iload_n 3, 1) := by decide +kernel
theorem d4_92 : decode prog_15_method_3_code 92 = .ok (.iaload, 1) := by decide +kernel
theorem d4_93 : decode prog_15_method_3_code 93 = .ok (.iadd, 1) := by decide +kernel
theorem d4_94 : decode prog_15_method_3_code 94 = .ok (.istore_n 1, 1) := by decide +kernel
theorem d4_95 : decode prog_15_method_3_code 95 = .ok (.aload_n 0, 1) := by decide +kernel
theorem d4_96 : decode prog_15_method_3_code 96 = .ok (.getfield 22, 3) := by decide +kernel
theorem d4_99 : decode prog_15_method_3_code 99 = .ok (.iload_n 3, 1) := by decide +kernel
theorem d4_100 : decode prog_15_method_3_code 100 = .ok (.iload_n 1, 1) := by decide +kernel
theorem d4_101 : decode prog_15_method_3_code 101 = .ok (.iastore, 1) := by decide +kernel
theorem d4_102 : decode prog_15_method_3_code 102 = .ok (.iinc 2 1, 3) := by decide +kernel
theorem d4_105 : decode prog_15_method_3_code 105 = .ok (.goto (-34), 3) := by decide +kernel
theorem d4_119 : decode prog_15_method_3_code 119 = .ok (.aload_n 0, 1) := by decide +kernel
theorem d4_120 : decode prog_15_method_3_code 120 = .ok (.getfield 13, 3) := by decide +kernel
theorem d4_123 : decode prog_15_method_3_code 123 = .ok (.iload_n 2, 1) := by decide +kernel
theorem d4_124 : decode prog_15_method_3_code 124 = .ok (.iaload, 1) := by decide +kernel
theorem d4_125 : decode prog_15_method_3_code 125 = .ok (.istore_n 3, 1) := by decide +kernel
theorem d4_126 : decode prog_15_method_3_code 126 = .ok (.aload_n 0, 1) := by decide +kernel
theorem d4_127 : decode prog_15_method_3_code 127 = .ok (.getfield 7, 3) := by decide +kernel
theorem d4_130 : decode prog_15_method_3_code 130 = .ok (.iload_n 3, 1) := by decide +kernel
theorem d4_131 : decode prog_15_method_3_code 131 = .ok (.iaload, 1) := by decide +kernel
theorem d4_132 : decode prog_15_method_3_code 132 = .ok (.istore 4, 2) := by decide +kernel
theorem d4_134 : decode prog_15_method_3_code 134 = .ok (.aload_n 0, 1) := by decide +kernel
theorem d4_135 : decode prog_15_method_3_code 135 = .ok (.getfield 22, 3) := by decide +kernel
theorem d4_138 : decode prog_15_method_3_code 138 = .ok (.iload 4, 2) := by decide +kernel
theorem d4_140 : decode prog_15_method_3_code 140 = .ok (.dup2, 1) := by decide +kernel
theorem d4_141 : decode prog_15_method_3_code 141 = .ok (.iaload, 1) := by decide +kernel
theorem d4_142 : decode prog_15_method_3_code 142 = .ok (.iconst 1, 1) := by decide +kernel
theorem d4_143 : decode prog_15_method_3_code 143 = .ok (.isub, 1) := by decide +kernel
theorem d4_144 : decode prog_15_method_3_code 144 = .ok (.iastore, 1) := by decide +kernel
theorem d4_145 : decode prog_15_method_3_code 145 = .ok (.aload_n 0, 1) := by decide +kernel
theorem d4_146 : decode prog_15_method_3_code 146 = .ok (.getfield 16, 3) := by decide +kernel
theorem d4_149 : decode prog_15_method_3_code 149 = .ok (.aload_n 0, 1) := by decide +kernel
theorem d4_150 : decode prog_15_method_3_code 150 = .ok (.getfield 22, 3) := by decide +kernel
theorem d4_153 : decode prog_15_method_3_code 153 = .ok (.iload 4, 2) := by decide +kernel
theorem d4_155 : decode prog_15_method_3_code 155 = .ok (.iaload, 1) := by decide +kernel
theorem d4_156 : decode prog_15_method_3_code 156 = .ok (.iload_n 3, 1) := by decide +kernel
theorem d4_157 : decode prog_15_method_3_code 157 = .ok (.iastore, 1) := by decide +kernel
theorem d4_158 : decode prog_15_method_3_code 158 = .ok (.iinc 2 (-1), 3) := by decide +kernel
theorem d4_161 : decode prog_15_method_3_code 161 = .ok (.goto (-46), 3) := by decide +kernel
theorem ef4m1 (m : MethodId) (a0 : Addr) : entryFrame m #[(.ref a0)] 5 = mkF m 0 #[rv a0, .unset, .unset, .unset, .unset] [] := by first | (simp [entryFrame, mkF, argsToLocals, Value.category]; done) | rfl
def g4m1_gc (x0 : Int32) (x1 : Int32) (x2 : Int32) (y0 : Int32) (y1 : Int32) (y2 : Int32) : Int32 := (1:Int32)
def g4m1_gr (x0 : Int32) (x1 : Int32) (x2 : Int32) (y0 : Int32) (y1 : Int32) (y2 : Int32) : List Int32 := (own_v149 x0 x1 x2 y0)
def g4m1_gl (x0 : Int32) (x1 : Int32) (x2 : Int32) (y0 : Int32) (y1 : Int32) (y2 : Int32) : List Int32 := [(own_at [x0, x1, x2] y0), (0:Int32), (0:Int32)]
def g4m1_gs (x0 : Int32) (x1 : Int32) (x2 : Int32) (y0 : Int32) (y1 : Int32) (y2 : Int32) : List Int32 := (own_v137 x0 x1 x2 y0)
def f4m1 (x0 : Int32) (x1 : Int32) (x2 : Int32) (y0 : Int32) (y1 : Int32) (y2 : Int32) : Int32 := (1:Int32)
def Q4m1 (Z : State) (a0 : Addr) (la : Addr) (mv : Addr) (gr : Addr) (gl : Addr) (gs : Addr) (x0 : Int32) (x1 : Int32) (x2 : Int32) (y0 : Int32) (y1 : Int32) (y2 : Int32) (h0 : Heap) (n0 : Nat) (v : Option Value) (h : Heap) (L : List Loc) : Prop := v = some (.int (f4m1 x0 x1 x2 y0 y1 y2)) ∧ Fr n0 L ∧ Keep h0 h [a0, gr, gl, gs] ∧ Fld Z h a0 "com/example/spare_calculus/sparecalculus/bisim/LabelGroups" "labels" "[I" (.ref la) ∧ Fld Z h a0 "com/example/spare_calculus/sparecalculus/bisim/LabelGroups" "moves" "[I" (.ref mv) ∧ Fld Z h a0 "com/example/spare_calculus/sparecalculus/bisim/LabelGroups" "grouped" "[I" (.ref gr) ∧ Fld Z h a0 "com/example/spare_calculus/sparecalculus/bisim/LabelGroups" "groupLabels" "[I" (.ref gl) ∧ Fld Z h a0 "com/example/spare_calculus/sparecalculus/bisim/LabelGroups" "groupStarts" "[I" (.ref gs) ∧ Fld Z h a0 "com/example/spare_calculus/sparecalculus/bisim/LabelGroups" "moveCount" "I" (.int (1:Int32)) ∧ Fld Z h a0 "com/example/spare_calculus/sparecalculus/bisim/LabelGroups" "groupCount" "I" (.int (g4m1_gc x0 x1 x2 y0 y1 y2)) ∧ own_Ints Z h gr (g4m1_gr x0 x1 x2 y0 y1 y2) ∧ own_Ints Z h gl (g4m1_gl x0 x1 x2 y0 y1 y2) ∧ own_Ints Z h gs (g4m1_gs x0 x1 x2 y0 y1 y2)
set_option maxRecDepth 65536 in
set_option maxHeartbeats 40000000 in
theorem rm4m1 (l : Launch) (Z : State) (aZ : Array Value) (hw : ∀ d ∈ tables_1, d.before aZ Z = true) (ws : List Jvm.Cond) (a0 : Addr) (la : Addr) (mv : Addr) (gr : Addr) (gl : Addr) (gs : Addr) (x0 : Int32) (x1 : Int32) (x2 : Int32) (y0 : Int32) (y1 : Int32) (y2 : Int32) (h0 : Heap) (n0 : Nat) (Z0 : n0 ≤ h0.size) (P0 : Exa Z h0 a0 "com/example/spare_calculus/sparecalculus/bisim/LabelGroups") (P1 : Fld Z h0 a0 "com/example/spare_calculus/sparecalculus/bisim/LabelGroups" "labels" "[I" (.ref la)) (P2 : Fld Z h0 a0 "com/example/spare_calculus/sparecalculus/bisim/LabelGroups" "moves" "[I" (.ref mv)) (P3 : Fld Z h0 a0 "com/example/spare_calculus/sparecalculus/bisim/LabelGroups" "grouped" "[I" (.ref gr)) (P4 : Fld Z h0 a0 "com/example/spare_calculus/sparecalculus/bisim/LabelGroups" "groupLabels" "[I" (.ref gl)) (P5 : Fld Z h0 a0 "com/example/spare_calculus/sparecalculus/bisim/LabelGroups" "groupStarts" "[I" (.ref gs)) (P6 : Fld Z h0 a0 "com/example/spare_calculus/sparecalculus/bisim/LabelGroups" "moveCount" "I" (.int (1:Int32))) (P7 : Fld Z h0 a0 "com/example/spare_calculus/sparecalculus/bisim/LabelGroups" "groupCount" "I" (.int (0:Int32))) (P8 : own_Ints Z h0 la [x0, x1, x2]) (P9 : own_Ints Z h0 mv [y0, y1, y2]) (P10 : own_Ints Z h0 gr [(0:Int32), (0:Int32), (0:Int32)]) (P11 : own_Ints Z h0 gl [(0:Int32), (0:Int32), (0:Int32)]) (P12 : own_Ints Z h0 gs [(0:Int32), (0:Int32), (0:Int32)]) (nq_a0_la : a0 ≠ la) (nq_a0_mv : a0 ≠ mv) (nq_a0_gr : a0 ≠ gr) (nq_a0_gl : a0 ≠ gl) (nq_a0_gs : a0 ≠ gs) (nq_la_mv : la ≠ mv) (nq_la_gr : la ≠ gr) (nq_la_gl : la ≠ gl) (nq_la_gs : la ≠ gs) (nq_mv_gr : mv ≠ gr) (nq_mv_gl : mv ≠ gl) (nq_mv_gs : mv ≠ gs) (nq_gr_gl : gr ≠ gl) (nq_gr_gs : gr ≠ gs) (nq_gl_gs : gl ≠ gs) (gq_a0 : n0 ≤ a0) (gq_gr : n0 ≤ gr) (gq_gl : n0 ≤ gl) (gq_gs : n0 ≤ gs) (hl78 : own_In y0 [x0, x1, x2].length) (hl81 : own_In (own_at [x0, x1, x2] y0) [(0:Int32), (0:Int32), (0:Int32)].length) (hl111 : own_In (own_at [x0, x1, x2] y0) (own_v100 x0 x1 x2 y0).length) (hl132 : own_In (own_at [x0, x1, x2] y0) (own_v117 x0 x1 x2 y0).length) (hl142 : own_In (own_at [x0, x1, x2] y0) (own_v137 x0 x1 x2 y0).length) (hl146 : own_In (own_at (own_v137 x0 x1 x2 y0) (own_at [x0, x1, x2] y0)) [(0:Int32), (0:Int32), (0:Int32)].length) :
    MetFree l (⟨"com/example/spare_calculus/sparecalculus/bisim/LabelGroups", "group", "()I"⟩ : MethodName) (head1 (Jvm.Cond.code (⟨"com/example/spare_calculus/sparecalculus/bisim/LabelGroups", "group", "()I"⟩ : MethodName) prog_15_method_3_code 5 (some .int) :: ws) ({ frames := 0, cells := 0, slots := 0, locals := 0 } : Room)) (fun a U => a = #[(.ref a0)] ∧ Z.Warmed39 U.vm ∧ U.heap = h0) (fun _ _ _ _ _ => True) (fun _ U o U' => ∃ v L, o = .returned v ∧ Q4m1 Z a0 la mv gr gl gs x0 x1 x2 y0 y1 y2 h0 n0 v U'.heap L ∧ FrameEnd U o U' L ({ frames := 0, cells := 0, slots := 0, locals := 0 } : Room).cells ({ frames := 0, cells := 0, slots := 0, locals := 0 } : Room).slots) := by
  refine MetFree.of_bodySF (plainFor_of_name own_pn0) hisR ?_
  intro p e s m args below meth c s₁ Bd hml0 hP hK
  obtain ⟨rfl, hZ, hh⟩ := hP
  have hx := Bd.exec
  have hby := Bd.bytes
  have hml : c.maxLocals = 5 := hml0
  have hown : s.vm.findClass "com/example/spare_calculus/sparecalculus/bisim/LabelGroups" = some m.cls := findClass_of_methodNamed Bd.named
  have hnm := (name_of_methodNamed Bd.named Bd.method).1
  have X0 : Stand p l e ({ frames := 0, cells := 0, slots := 0, locals := 0 } : Room) s m #[(.ref a0)] below meth c s₁ [] 0 0 := Stand.of_body Bd
  have e0 : s₁.heap = h0 := by rw [← hh, Bd.state]; rfl
  have N0 := Fr.nil n0
  have Kp0 : Keep h0 h0 [a0, gr, gl, gs] := Keep.refl _ _
  have D : ∀ {pc : Nat} {r : Except ClassFile.DecodeError (ClassFile.Instr × Nat)}, decode prog_15_method_3_code pc = r → decode c.code pc = r := fun h => hb hby h
  show own_Goes p e below s (Q4m1 Z a0 la mv gr gl gs x0 x1 x2 y0 y1 y2 h0 n0) ({ frames := 0, cells := 0, slots := 0, locals := 0 } : Room).cells ({ frames := 0, cells := 0, slots := 0, locals := 0 } : Room).slots _
  refine own_pre (fun t k => castTop (ef4m1 m a0) k) ?_
  refine own_pA s₁ m 4 #[rv a0, iv (0:Int32), .unset, .unset, .unset] [(.ref a0), (.int (0:Int32))] (fun t k => ?_) ?_
  ·refine XS.iconst X0.here hx rfl (D d4_0) ?_
   refine XS.istoreN X0.here hx rfl (D d4_1) rfl (l' := #[rv a0, iv (0:Int32), .unset, .unset, .unset]) rfl ?_
   refine XS.iloadN X0.here hx rfl (D d4_2) rfl ?_
   exact XS.aloadN X0.here hx rfl (D d4_3) rfl rfl k
  refine own_getF X0 hx hZ hown (host := "") (Or.inl (own_h hw 26 rfl)) Via.refl e0 P6 rfl rfl (D d4_4) (fun T74 X74 e74 => ?_)
  refine own_pA T74 m 11 #[rv a0, iv (0:Int32), .unset, .unset, .unset] [(.ref a0)] (fun t k => ?_) ?_
  ·refine XS.icmpNo X74.here hx rfl (D d4_7) rfl (XT.ii_ge_f (by decide)) ?_
   exact XS.aloadN X74.here hx rfl (D d4_10) rfl rfl k
  refine own_getF X74 hx hZ hown (host := "") (Or.inl (own_h hw 11 rfl)) Via.refl e74 P1 rfl rfl (D d4_11) (fun T75 X75 e75 => ?_)
  refine own_pA T75 m 15 #[rv a0, iv (0:Int32), .unset, .unset, .unset] [(.ref a0), (.ref la)] (fun t k => ?_) ?_
  ·exact XS.aloadN X75.here hx rfl (D d4_14) rfl rfl k
  refine own_getF X75 hx hZ hown (host := "") (Or.inl (own_h hw 13 rfl)) Via.refl e75 P2 rfl rfl (D d4_15) (fun T76 X76 e76 => ?_)
  have hbn77 : own_In (0:Int32) [y0, y1, y2].length := own_lit rfl
  have hbn79 : own_In y0 [x0, x1, x2].length := hl78
  refine own_pA T76 m 23 #[.val (.ref a0), .val (.int (0:Int32)), .val (.int (own_at [x0, x1, x2] y0)), .unset, .unset] [(.ref a0)] (fun t k => ?_) ?_
  ·refine XS.iloadN X76.here hx rfl (D d4_18) rfl ?_
   refine own_iaload X76 hx hZ e76 P9 hbn77 rfl rfl (D d4_19) ?_
   refine own_iaload X76 hx hZ e76 P8 hbn79 rfl rfl (D d4_20) ?_
   refine XS.istoreN X76.here hx rfl (D d4_21) rfl (l' := #[.val (.ref a0), .val (.int (0:Int32)), .val (.int (own_at [x0, x1, x2] y0)), .unset, .unset]) rfl ?_
   exact XS.aloadN X76.here hx rfl (D d4_22) rfl rfl k
  refine own_getF X76 hx hZ hown (host := "") (Or.inl (own_h hw 19 rfl)) Via.refl e76 P5 rfl rfl (D d4_23) (fun T80 X80 e80 => ?_)
  have hbn82 : own_In (own_at [x0, x1, x2] y0) [(0:Int32), (0:Int32), (0:Int32)].length := hl81
  have hd28_1 : (own_at [(0:Int32), (0:Int32), (0:Int32)] (own_at [x0, x1, x2] y0)) = (0:Int32) := own_z3 _
  refine own_pA T80 m 32 #[.val (.ref a0), .val (.int (0:Int32)), .val (.int (own_at [x0, x1, x2] y0)), .unset, .unset] [(.ref a0)] (fun t k => ?_) ?_
  ·refine XS.iloadN X80.here hx rfl (D d4_26) rfl ?_
   refine own_iaload X80 hx hZ e80 P12 hbn82 rfl rfl (D d4_27) ?_
   refine XS.ifNo X80.here hx rfl (D d4_28) rfl (XT.i0_ne_f hd28_1) ?_
   exact XS.aloadN X80.here hx rfl (D d4_31) rfl rfl k
  refine own_getF X80 hx hZ hown (host := "") (Or.inl (own_h hw 17 rfl)) Via.refl e80 P4 rfl rfl (D d4_32) (fun T83 X83 e83 => ?_)
  refine own_pA T83 m 36 #[.val (.ref a0), .val (.int (0:Int32)), .val (.int (own_at [x0, x1, x2] y0)), .unset, .unset] [(.ref a0), (.ref gl)] (fun t k => ?_) ?_
  ·exact XS.aloadN X83.here hx rfl (D d4_35) rfl rfl k
  refine own_getF X83 hx hZ hown (host := "") (Or.inl (own_h hw 33 rfl)) Via.refl e83 P7 rfl rfl (D d4_36) (fun T84 X84 e84 => ?_)
  refine own_pA T84 m 40 #[.val (.ref a0), .val (.int (0:Int32)), .val (.int (own_at [x0, x1, x2] y0)), .unset, .unset] [(.int (own_at [x0, x1, x2] y0)), (.int (0:Int32)), (.ref gl)] (fun t k => ?_) ?_
  ·exact XS.iloadN X84.here hx rfl (D d4_39) rfl k
  have hbn86 : own_In (0:Int32) [(0:Int32), (0:Int32), (0:Int32)].length := own_lit rfl
  refine own_iastG X84 hx hZ e84 P11 hbn86 rfl rfl (D d4_40) (fun T85 h85 X85 e85 W85 V85 => ?_)
  have Kp85 : Keep h0 h85 [a0, gr, gl, gs] := Kp0.wr W85 (Or.inl (List.mem_of_getElem? (i := 2) rfl))
  have Z87 : n0 ≤ h85.size := Nat.le_trans Z0 (Nat.le_of_eq W85.size.symm)
  have N85 := Fr.snoc X85 N0 gq_gl
  have Vw85 : own_Ints Z h85 gl [(own_at [x0, x1, x2] y0), (0:Int32), (0:Int32)] := V85
  refine own_pA T85 m 43 #[.val (.ref a0), .val (.int (0:Int32)), .val (.int (own_at [x0, x1, x2] y0)), .unset, .unset] [(.ref a0), (.ref a0)] (fun t k => ?_) ?_
  ·refine XS.aloadN X85.here hx rfl (D d4_41) rfl rfl ?_
   exact XS.dup X85.here hx rfl (D d4_42) rfl rfl k
  have F89 := (P7.other W85 (Or.inl nq_a0_gl))
  refine own_getF X85 hx hZ hown (host := "") (Or.inl (own_h hw 33 rfl)) Via.refl e85 F89 rfl rfl (D d4_43) (fun T88 X88 e88 => ?_)
  refine own_pA T88 m 48 #[.val (.ref a0), .val (.int (0:Int32)), .val (.int (own_at [x0, x1, x2] y0)), .unset, .unset] [(.int (1:Int32)), (.ref a0)] (fun t k => ?_) ?_
  ·refine XS.iconst X88.here hx rfl (D d4_46) ?_
   exact XS.iadd X88.here hx rfl (D d4_47) rfl k
  have F91 := (P0.wr W85)
  obtain ⟨T90, h90, X90, e90, W90, st90⟩ := putF X88 hx hZ hown (host := "") (Or.inl (own_h hw 33 rfl)) Via.refl e88 F89 F91 (Or.inl (own_h hw 34 rfl)) (own_h hw 3 rfl) (ty := .int) (by decide) rfl rfl (g := (mkF m 48 #[.val (.ref a0), .val (.int (0:Int32)), .val (.int (own_at [x0, x1, x2] y0)), .unset, .unset] [(.int (1:Int32)), (.ref a0)])) rfl rfl (D d4_48)
  have Kp90 : Keep h0 h90 [a0, gr, gl, gs] := Kp85.wr W90 (Or.inl (List.mem_of_getElem? (i := 0) rfl))
  have Z92 : n0 ≤ h90.size := Nat.le_trans Z87 (Nat.le_of_eq W90.size.symm)
  have N90 := Fr.snoc X90 N85 gq_a0
  have Fw90 := F89.same W90
  refine own_pre st90 ?_
  refine own_pA T90 m 52 #[.val (.ref a0), .val (.int (0:Int32)), .val (.int (own_at [x0, x1, x2] y0)), .unset, .unset] [(.ref a0)] (fun t k => ?_) ?_
  ·exact XS.aloadN X90.here hx rfl (D d4_51) rfl rfl k
  have F94 := ((P5.other W85 (Or.inl nq_a0_gl)).other W90 (Or.inr (slot_ne (Or.inr (own_h hw 20 rfl)) (Or.inl (own_h hw 34 rfl)) (by decide) (t := (.array .int)) (t' := .int) (by decide) (by decide))))
  refine own_getF X90 hx hZ hown (host := "") (Or.inl (own_h hw 19 rfl)) Via.refl e90 F94 rfl rfl (D d4_52) (fun T93 X93 e93 => ?_)
  have F95 := ((P12.other W85 (Ne.symm nq_gl_gs)).other W90 (Ne.symm nq_a0_gs))
  have hbn96 : own_In (own_at [x0, x1, x2] y0) [(0:Int32), (0:Int32), (0:Int32)].length := hl81
  refine own_pA T93 m 60 #[.val (.ref a0), .val (.int (0:Int32)), .val (.int (own_at [x0, x1, x2] y0)), .unset, .unset] [(.int ((own_at [(0:Int32), (0:Int32), (0:Int32)] (own_at [x0, x1, x2] y0)) + (1:Int32))), (.int (own_at [x0, x1, x2] y0)), (.ref gs)] (fun t k => ?_) ?_
  ·refine XS.iloadN X93.here hx rfl (D d4_55) rfl ?_
   refine XT.dup2 X93.here hx rfl (D d4_56) rfl rfl rfl ?_
   refine own_iaload X93 hx hZ e93 F95 hbn96 rfl rfl (D d4_57) ?_
   refine XS.iconst X93.here hx rfl (D d4_58) ?_
   exact XS.iadd X93.here hx rfl (D d4_59) rfl k
  have hbn98 : own_In (own_at [x0, x1, x2] y0) [(0:Int32), (0:Int32), (0:Int32)].length := hl81
  refine own_iastG X93 hx hZ e93 F95 hbn98 rfl rfl (D d4_60) (fun T97 h97 X97 e97 W97 V97 => ?_)
  have Kp97 : Keep h0 h97 [a0, gr, gl, gs] := Kp90.wr W97 (Or.inl (List.mem_of_getElem? (i := 3) rfl))
  have Z99 : n0 ≤ h97.size := Nat.le_trans Z92 (Nat.le_of_eq W97.size.symm)
  have N97 := Fr.snoc X97 N90 gq_gs
  have Vw97 : own_Ints Z h97 gs (own_v100 x0 x1 x2 y0) := V97
  refine own_pA T97 m 4 #[.val (.ref a0), .val (.int (1:Int32)), .val (.int (own_at [x0, x1, x2] y0)), .unset, .unset] [(.ref a0), (.int (1:Int32))] (fun t k => ?_) ?_
  ·refine XS.iinc X97.here hx rfl (D d4_61) rfl (l' := #[.val (.ref a0), .val (.int (1:Int32)), .val (.int (own_at [x0, x1, x2] y0)), .unset, .unset]) rfl ?_
   refine XS.goto X97.here hx rfl (pc0 := 64) (pc' := 2) rfl (D d4_64) (by decide) (by decide) ?_
   refine XS.iloadN X97.here hx rfl (D d4_2) rfl ?_
   exact XS.aloadN X97.here hx rfl (D d4_3) rfl rfl k
  have F102 := (((P6.other W85 (Or.inl nq_a0_gl)).other W90 (Or.inr (slot_ne (Or.inl (own_h hw 27 rfl)) (Or.inl (own_h hw 34 rfl)) (by decide) (t := .int) (t' := .int) (by decide) (by decide)))).other W97 (Or.inl nq_a0_gs))
  refine own_getF X97 hx hZ hown (host := "") (Or.inl (own_h hw 26 rfl)) Via.refl e97 F102 rfl rfl (D d4_4) (fun T101 X101 e101 => ?_)
  refine own_pA T101 m 73 #[rv a0, iv (0:Int32), iv (0:Int32), .unset, .unset] [(.ref a0), (.int (0:Int32))] (fun t k => ?_) ?_
  ·refine XS.icmpYes X101.here hx rfl (pc0 := 7) (pc' := 67) rfl (D d4_7) rfl (XT.ii_ge_t (by decide)) (by decide) (by decide) ?_
   refine XS.iconst X101.here hx rfl (D d4_67) ?_
   refine XS.istoreN X101.here hx rfl (D d4_68) rfl (l' := #[.val (.ref a0), .val (.int (0:Int32)), .val (.int (own_at [x0, x1, x2] y0)), .unset, .unset]) rfl ?_
   refine XS.iconst X101.here hx rfl (D d4_69) ?_
   refine XS.istoreN X101.here hx rfl (D d4_70) rfl (l' := #[rv a0, iv (0:Int32), iv (0:Int32), .unset, .unset]) rfl ?_
   refine XS.iloadN X101.here hx rfl (D d4_71) rfl ?_
   exact XS.aloadN X101.here hx rfl (D d4_72) rfl rfl k
  have F104 := (Fw90.other W97 (Or.inl nq_a0_gs))
  refine own_getF X101 hx hZ hown (host := "") (Or.inl (own_h hw 33 rfl)) Via.refl e101 F104 rfl rfl (D d4_73) (fun T103 X103 e103 => ?_)
  refine own_pA T103 m 80 #[rv a0, iv (0:Int32), iv (0:Int32), .unset, .unset] [(.ref a0)] (fun t k => ?_) ?_
  ·refine XS.icmpNo X103.here hx rfl (D d4_76) rfl (XT.ii_ge_f (by decide)) ?_
   exact XS.aloadN X103.here hx rfl (D d4_79) rfl rfl k
  have F106 := (((P4.other W85 (Or.inl nq_a0_gl)).other W90 (Or.inr (slot_ne (Or.inr (own_h hw 18 rfl)) (Or.inl (own_h hw 34 rfl)) (by decide) (t := (.array .int)) (t' := .int) (by decide) (by decide)))).other W97 (Or.inl nq_a0_gs))
  refine own_getF X103 hx hZ hown (host := "") (Or.inl (own_h hw 17 rfl)) Via.refl e103 F106 rfl rfl (D d4_80) (fun T105 X105 e105 => ?_)
  have F107 := ((Vw85.other W90 (Ne.symm nq_a0_gl)).other W97 nq_gl_gs)
  have hbn108 : own_In (0:Int32) [(own_at [x0, x1, x2] y0), (0:Int32), (0:Int32)].length := own_lit rfl
  refine own_pA T105 m 88 #[.val (.ref a0), .val (.int (0:Int32)), .val (.int (0:Int32)), .val (.int (own_at [x0, x1, x2] y0)), .unset] [(.ref a0), (.int (0:Int32))] (fun t k => ?_) ?_
  ·refine XS.iloadN X105.here hx rfl (D d4_83) rfl ?_
   refine own_iaload X105 hx hZ e105 F107 hbn108 rfl rfl (D d4_84) ?_
   refine XS.istoreN X105.here hx rfl (D d4_85) rfl (l' := #[.val (.ref a0), .val (.int (0:Int32)), .val (.int (0:Int32)), .val (.int (own_at [x0, x1, x2] y0)), .unset]) rfl ?_
   refine XS.iloadN X105.here hx rfl (D d4_86) rfl ?_
   exact XS.aloadN X105.here hx rfl (D d4_87) rfl rfl k
  have F110 := (F94.other W97 (Or.inl nq_a0_gs))
  refine own_getF X105 hx hZ hown (host := "") (Or.inl (own_h hw 19 rfl)) Via.refl e105 F110 rfl rfl (D d4_88) (fun T109 X109 e109 => ?_)
  have hbn112 : own_In (own_at [x0, x1, x2] y0) (own_v100 x0 x1 x2 y0).length := hl111
  refine own_pA T109 m 96 #[.val (.ref a0), .val (.int ((0:Int32) + (own_at (own_v100 x0 x1 x2 y0) (own_at [x0, x1, x2] y0)))), .val (.int (0:Int32)), .val (.int (own_at [x0, x1, x2] y0)), .unset] [(.ref a0)] (fun t k => ?_) ?_
  ·refine XS.iloadN X109.here hx rfl (D d4_91) rfl ?_
   refine own_iaload X109 hx hZ e109 Vw97 hbn112 rfl rfl (D d4_92) ?_
   refine XS.iadd X109.here hx rfl (D d4_93) rfl ?_
   refine XS.istoreN X109.here hx rfl (D d4_94) rfl (l' := #[.val (.ref a0), .val (.int ((0:Int32) + (own_at (own_v100 x0 x1 x2 y0) (own_at [x0, x1, x2] y0)))), .val (.int (0:Int32)), .val (.int (own_at [x0, x1, x2] y0)), .unset]) rfl ?_
   exact XS.aloadN X109.here hx rfl (D d4_95) rfl rfl k
  refine own_getF X109 hx hZ hown (host := "") (Or.inl (own_h hw 19 rfl)) Via.refl e109 F110 rfl rfl (D d4_96) (fun T113 X113 e113 => ?_)
  refine own_pA T113 m 101 #[.val (.ref a0), .val (.int ((0:Int32) + (own_at (own_v100 x0 x1 x2 y0) (own_at [x0, x1, x2] y0)))), .val (.int (0:Int32)), .val (.int (own_at [x0, x1, x2] y0)), .unset] [(.int ((0:Int32) + (own_at (own_v100 x0 x1 x2 y0) (own_at [x0, x1, x2] y0)))), (.int (own_at [x0, x1, x2] y0)), (.ref gs)] (fun t k => ?_) ?_
  ·refine XS.iloadN X113.here hx rfl (D d4_99) rfl ?_
   exact XS.iloadN X113.here hx rfl (D d4_100) rfl k
  have hbn115 : own_In (own_at [x0, x1, x2] y0) (own_v100 x0 x1 x2 y0).length := hl111
  refine own_iastG X113 hx hZ e113 Vw97 hbn115 rfl rfl (D d4_101) (fun T114 h114 X114 e114 W114 V114 => ?_)
  have Kp114 : Keep h0 h114 [a0, gr, gl, gs] := Kp97.wr W114 (Or.inl (List.mem_of_getElem? (i := 3) rfl))
  have Z116 : n0 ≤ h114.size := Nat.le_trans Z99 (Nat.le_of_eq W114.size.symm)
  have N114 := Fr.snoc X114 N97 gq_gs
  have Vw114 : own_Ints Z h114 gs (own_v117 x0 x1 x2 y0) := V114
  refine own_pA T114 m 73 #[.val (.ref a0), .val (.int ((0:Int32) + (own_at (own_v100 x0 x1 x2 y0) (own_at [x0, x1, x2] y0)))), .val (.int (1:Int32)), .val (.int (own_at [x0, x1, x2] y0)), .unset] [(.ref a0), (.int (1:Int32))] (fun t k => ?_) ?_
  ·refine XS.iinc X114.here hx rfl (D d4_102) rfl (l' := #[.val (.ref a0), .val (.int ((0:Int32) + (own_at (own_v100 x0 x1 x2 y0) (own_at [x0, x1, x2] y0)))), .val (.int (1:Int32)), .val (.int (own_at [x0, x1, x2] y0)), .unset]) rfl ?_
   refine XS.goto X114.here hx rfl (pc0 := 105) (pc' := 71) rfl (D d4_105) (by decide) (by decide) ?_
   refine XS.iloadN X114.here hx rfl (D d4_71) rfl ?_
   exact XS.aloadN X114.here hx rfl (D d4_72) rfl rfl k
  have F119 := (F104.other W114 (Or.inl nq_a0_gs))
  refine own_getF X114 hx hZ hown (host := "") (Or.inl (own_h hw 33 rfl)) Via.refl e114 F119 rfl rfl (D d4_73) (fun T118 X118 e118 => ?_)
  refine own_pA T118 m 109 #[.val (.ref a0), .val (.int ((0:Int32) + (own_at (own_v100 x0 x1 x2 y0) (own_at [x0, x1, x2] y0)))), .val (.int (1:Int32)), .val (.int (own_at [x0, x1, x2] y0)), .unset] [(.ref a0)] (fun t k => ?_) ?_
  ·refine XS.icmpYes X118.here hx rfl (pc0 := 76) (pc' := 108) rfl (D d4_76) rfl (XT.ii_ge_t (by decide)) (by decide) (by decide) ?_
   exact XS.aloadN X118.here hx rfl (D d4_108) rfl rfl k
  have F121 := (F102.other W114 (Or.inl nq_a0_gs))
  refine own_getF X118 hx hZ hown (host := "") (Or.inl (own_h hw 26 rfl)) Via.refl e118 F121 rfl rfl (D d4_109) (fun T120 X120 e120 => ?_)
  refine own_pA T120 m 120 #[.val (.ref a0), .val (.int ((0:Int32) + (own_at (own_v100 x0 x1 x2 y0) (own_at [x0, x1, x2] y0)))), .val (.int (0:Int32)), .val (.int (own_at [x0, x1, x2] y0)), .unset] [(.ref a0)] (fun t k => ?_) ?_
  ·refine XS.iconst X120.here hx rfl (D d4_112) ?_
   refine XS.isub X120.here hx rfl (D d4_113) rfl ?_
   refine XS.istoreN X120.here hx rfl (D d4_114) rfl (l' := #[.val (.ref a0), .val (.int ((0:Int32) + (own_at (own_v100 x0 x1 x2 y0) (own_at [x0, x1, x2] y0)))), .val (.int (0:Int32)), .val (.int (own_at [x0, x1, x2] y0)), .unset]) rfl ?_
   refine XS.iloadN X120.here hx rfl (D d4_115) rfl ?_
   refine XS.ifNo X120.here hx rfl (D d4_116) rfl (XT.i0_lt_f (by decide)) ?_
   exact XS.aloadN X120.here hx rfl (D d4_119) rfl rfl k
  have F123 := ((((P2.other W85 (Or.inl nq_a0_gl)).other W90 (Or.inr (slot_ne (Or.inr (own_h hw 14 rfl)) (Or.inl (own_h hw 34 rfl)) (by decide) (t := (.array .int)) (t' := .int) (by decide) (by decide)))).other W97 (Or.inl nq_a0_gs)).other W114 (Or.inl nq_a0_gs))
  refine own_getF X120 hx hZ hown (host := "") (Or.inl (own_h hw 13 rfl)) Via.refl e120 F123 rfl rfl (D d4_120) (fun T122 X122 e122 => ?_)
  have F124 := ((((P9.other W85 nq_mv_gl).other W90 (Ne.symm nq_a0_mv)).other W97 nq_mv_gs).other W114 nq_mv_gs)
  have hbn125 : own_In (0:Int32) [y0, y1, y2].length := own_lit rfl
  refine own_pA T122 m 127 #[.val (.ref a0), .val (.int ((0:Int32) + (own_at (own_v100 x0 x1 x2 y0) (own_at [x0, x1, x2] y0)))), .val (.int (0:Int32)), .val (.int y0), .unset] [(.ref a0)] (fun t k => ?_) ?_
  ·refine XS.iloadN X122.here hx rfl (D d4_123) rfl ?_
   refine own_iaload X122 hx hZ e122 F124 hbn125 rfl rfl (D d4_124) ?_
   refine XS.istoreN X122.here hx rfl (D d4_125) rfl (l' := #[.val (.ref a0), .val (.int ((0:Int32) + (own_at (own_v100 x0 x1 x2 y0) (own_at [x0, x1, x2] y0)))), .val (.int (0:Int32)), .val (.int y0), .unset]) rfl ?_
   exact XS.aloadN X122.here hx rfl (D d4_126) rfl rfl k
  have F127 := ((((P1.other W85 (Or.inl nq_a0_gl)).other W90 (Or.inr (slot_ne (Or.inr (own_h hw 12 rfl)) (Or.inl (own_h hw 34 rfl)) (by decide) (t := (.array .int)) (t' := .int) (by decide) (by decide)))).other W97 (Or.inl nq_a0_gs)).other W114 (Or.inl nq_a0_gs))
  refine own_getF X122 hx hZ hown (host := "") (Or.inl (own_h hw 11 rfl)) Via.refl e122 F127 rfl rfl (D d4_127) (fun T126 X126 e126 => ?_)
  have F128 := ((((P8.other W85 nq_la_gl).other W90 (Ne.symm nq_a0_la)).other W97 nq_la_gs).other W114 nq_la_gs)
  have hbn129 : own_In y0 [x0, x1, x2].length := hl78
  refine own_pA T126 m 135 #[.val (.ref a0), .val (.int ((0:Int32) + (own_at (own_v100 x0 x1 x2 y0) (own_at [x0, x1, x2] y0)))), .val (.int (0:Int32)), .val (.int y0), .val (.int (own_at [x0, x1, x2] y0))] [(.ref a0)] (fun t k => ?_) ?_
  ·refine XS.iloadN X126.here hx rfl (D d4_130) rfl ?_
   refine own_iaload X126 hx hZ e126 F128 hbn129 rfl rfl (D d4_131) ?_
   refine XS.istore X126.here hx rfl (D d4_132) rfl (l' := #[.val (.ref a0), .val (.int ((0:Int32) + (own_at (own_v100 x0 x1 x2 y0) (own_at [x0, x1, x2] y0)))), .val (.int (0:Int32)), .val (.int y0), .val (.int (own_at [x0, x1, x2] y0))]) rfl ?_
   exact XS.aloadN X126.here hx rfl (D d4_134) rfl rfl k
  have F131 := (F110.other W114 (Or.inl nq_a0_gs))
  refine own_getF X126 hx hZ hown (host := "") (Or.inl (own_h hw 19 rfl)) Via.refl e126 F131 rfl rfl (D d4_135) (fun T130 X130 e130 => ?_)
  have hbn133 : own_In (own_at [x0, x1, x2] y0) (own_v117 x0 x1 x2 y0).length := hl132
  refine own_pA T130 m 144 #[.val (.ref a0), .val (.int ((0:Int32) + (own_at (own_v100 x0 x1 x2 y0) (own_at [x0, x1, x2] y0)))), .val (.int (0:Int32)), .val (.int y0), .val (.int (own_at [x0, x1, x2] y0))] [(.int ((own_at (own_v117 x0 x1 x2 y0) (own_at [x0, x1, x2] y0)) - (1:Int32))), (.int (own_at [x0, x1, x2] y0)), (.ref gs)] (fun t k => ?_) ?_
  ·refine XS.iload X130.here hx rfl (D d4_138) rfl ?_
   refine XT.dup2 X130.here hx rfl (D d4_140) rfl rfl rfl ?_
   refine own_iaload X130 hx hZ e130 Vw114 hbn133 rfl rfl (D d4_141) ?_
   refine XS.iconst X130.here hx rfl (D d4_142) ?_
   exact XS.isub X130.here hx rfl (D d4_143) rfl k
  have hbn135 : own_In (own_at [x0, x1, x2] y0) (own_v117 x0 x1 x2 y0).length := hl132
  refine own_iastG X130 hx hZ e130 Vw114 hbn135 rfl rfl (D d4_144) (fun T134 h134 X134 e134 W134 V134 => ?_)
  have Kp134 : Keep h0 h134 [a0, gr, gl, gs] := Kp114.wr W134 (Or.inl (List.mem_of_getElem? (i := 3) rfl))
  have Z136 : n0 ≤ h134.size := Nat.le_trans Z116 (Nat.le_of_eq W134.size.symm)
  have N134 := Fr.snoc X134 N114 gq_gs
  have Vw134 : own_Ints Z h134 gs (own_v137 x0 x1 x2 y0) := V134
  refine own_pA T134 m 146 #[.val (.ref a0), .val (.int ((0:Int32) + (own_at (own_v100 x0 x1 x2 y0) (own_at [x0, x1, x2] y0)))), .val (.int (0:Int32)), .val (.int y0), .val (.int (own_at [x0, x1, x2] y0))] [(.ref a0)] (fun t k => ?_) ?_
  ·exact XS.aloadN X134.here hx rfl (D d4_145) rfl rfl k
  have F139 := (((((P3.other W85 (Or.inl nq_a0_gl)).other W90 (Or.inr (slot_ne (Or.inr (own_h hw 16 rfl)) (Or.inl (own_h hw 34 rfl)) (by decide) (t := (.array .int)) (t' := .int) (by decide) (by decide)))).other W97 (Or.inl nq_a0_gs)).other W114 (Or.inl nq_a0_gs)).other W134 (Or.inl nq_a0_gs))
  refine own_getF X134 hx hZ hown (host := "") (Or.inl (own_h hw 15 rfl)) Via.refl e134 F139 rfl rfl (D d4_146) (fun T138 X138 e138 => ?_)
  refine own_pA T138 m 150 #[.val (.ref a0), .val (.int ((0:Int32) + (own_at (own_v100 x0 x1 x2 y0) (own_at [x0, x1, x2] y0)))), .val (.int (0:Int32)), .val (.int y0), .val (.int (own_at [x0, x1, x2] y0))] [(.ref a0), (.ref gr)] (fun t k => ?_) ?_
  ·exact XS.aloadN X138.here hx rfl (D d4_149) rfl rfl k
  have F141 := (F131.other W134 (Or.inl nq_a0_gs))
  refine own_getF X138 hx hZ hown (host := "") (Or.inl (own_h hw 19 rfl)) Via.refl e138 F141 rfl rfl (D d4_150) (fun T140 X140 e140 => ?_)
  have hbn143 : own_In (own_at [x0, x1, x2] y0) (own_v137 x0 x1 x2 y0).length := hl142
  refine own_pA T140 m 157 #[.val (.ref a0), .val (.int ((0:Int32) + (own_at (own_v100 x0 x1 x2 y0) (own_at [x0, x1, x2] y0)))), .val (.int (0:Int32)), .val (.int y0), .val (.int (own_at [x0, x1, x2] y0))] [(.int y0), (.int (own_at (own_v137 x0 x1 x2 y0) (own_at [x0, x1, x2] y0))), (.ref gr)] (fun t k => ?_) ?_
  ·refine XS.iload X140.here hx rfl (D d4_153) rfl ?_
   refine own_iaload X140 hx hZ e140 Vw134 hbn143 rfl rfl (D d4_155) ?_
   exact XS.iloadN X140.here hx rfl (D d4_156) rfl k
  have F145 := (((((P10.other W85 nq_gr_gl).other W90 (Ne.symm nq_a0_gr)).other W97 nq_gr_gs).other W114 nq_gr_gs).other W134 nq_gr_gs)
  have hbn147 : own_In (own_at (own_v137 x0 x1 x2 y0) (own_at [x0, x1, x2] y0)) [(0:Int32), (0:Int32), (0:Int32)].length := hl146
  refine own_iastG X140 hx hZ e140 F145 hbn147 rfl rfl (D d4_157) (fun T144 h144 X144 e144 W144 V144 => ?_)
  have Kp144 : Keep h0 h144 [a0, gr, gl, gs] := Kp134.wr W144 (Or.inl (List.mem_of_getElem? (i := 1) rfl))
  have Z148 : n0 ≤ h144.size := Nat.le_trans Z136 (Nat.le_of_eq W144.size.symm)
  have N144 := Fr.snoc X144 N134 gq_gr
  have Vw144 : own_Ints Z h144 gr (own_v149 x0 x1 x2 y0) := V144
  refine own_pA T144 m 165 #[.val (.ref a0), .val (.int ((0:Int32) + (own_at (own_v100 x0 x1 x2 y0) (own_at [x0, x1, x2] y0)))), .val (.int (-1:Int32)), .val (.int y0), .val (.int (own_at [x0, x1, x2] y0))] [(.ref a0)] (fun t k => ?_) ?_
  ·refine XS.iinc X144.here hx rfl (D d4_158) rfl (l' := #[.val (.ref a0), .val (.int ((0:Int32) + (own_at (own_v100 x0 x1 x2 y0) (own_at [x0, x1, x2] y0)))), .val (.int (-1:Int32)), .val (.int y0), .val (.int (own_at [x0, x1, x2] y0))]) rfl ?_
   refine XS.goto X144.here hx rfl (pc0 := 161) (pc' := 115) rfl (D d4_161) (by decide) (by decide) ?_
   refine XS.iloadN X144.here hx rfl (D d4_115) rfl ?_
   refine XS.ifYes X144.here hx rfl (pc0 := 116) (pc' := 164) rfl (D d4_116) rfl (XT.i0_lt_t (by decide)) (by decide) (by decide) ?_
   exact XS.aloadN X144.here hx rfl (D d4_164) rfl rfl k
  have F151 := ((F119.other W134 (Or.inl nq_a0_gs)).other W144 (Or.inl nq_a0_gr))
  refine own_getF X144 hx hZ hown (host := "") (Or.inl (own_h hw 33 rfl)) Via.refl e144 F151 rfl rfl (D d4_165) (fun T150 X150 e150 => ?_)
  have hv152 : (1:Int32) = f4m1 x0 x1 x2 y0 y1 y2 := by rfl
  have F153 := ((F127.other W134 (Or.inl nq_a0_gs)).other W144 (Or.inl nq_a0_gr))
  have F154 := ((F123.other W134 (Or.inl nq_a0_gs)).other W144 (Or.inl nq_a0_gr))
  have F155 := (F139.other W144 (Or.inl nq_a0_gr))
  have F156 := (((F106.other W114 (Or.inl nq_a0_gs)).other W134 (Or.inl nq_a0_gs)).other W144 (Or.inl nq_a0_gr))
  have F157 := (F141.other W144 (Or.inl nq_a0_gr))
  have F158 := ((F121.other W134 (Or.inl nq_a0_gs)).other W144 (Or.inl nq_a0_gr))
  have F159 := (((F107.other W114 nq_gl_gs).other W134 nq_gl_gs).other W144 (Ne.symm nq_gr_gl))
  have F160 := (Vw134.other W144 (Ne.symm nq_gr_gs))
  exact own_end X150 (BodyLoose.notSynchronized Bd) (fun h => by rw [Bd.returns] at h; cases h) (v := some (.int (1:Int32))) (fun fs hr => retOut X150 hx Bd.returns rfl (by simp [Value.isRef, FieldType.isReference]) (D d4_168) hr) (by show Q4m1 Z a0 la mv gr gl gs x0 x1 x2 y0 y1 y2 h0 n0 _ T150.heap _; rw [e150]; exact ⟨(congrArg (fun z => some (Value.int z)) hv152), N144, Kp144, F153, F154, F155, F156, F157, F158, (by exact F151), (by exact Vw144), (by exact F159), (by exact F160)⟩) (by decide) (by decide)
def own_v223 (x0 : Int32) (x1 : Int32) (x2 : Int32) (y0 : Int32) (y1 : Int32) : List Int32 := ((own_v100 x0 x1 x2 y0).set (own_at [x0, x1, x2] y1).toNatClampNeg ((own_at (own_v100 x0 x1 x2 y0) (own_at [x0, x1, x2] y1)) + (1:Int32)))
def own_v240 (x0 : Int32) (x1 : Int32) (x2 : Int32) (y0 : Int32) (y1 : Int32) : List Int32 := ((own_v223 x0 x1 x2 y0 y1).set (own_at [x0, x1, x2] y0).toNatClampNeg ((0:Int32) + (own_at (own_v223 x0 x1 x2 y0 y1) (own_at [x0, x1, x2] y0))))
def own_v255 (x0 : Int32) (x1 : Int32) (x2 : Int32) (y0 : Int32) (y1 : Int32) : List Int32 := ((own_v240 x0 x1 x2 y0 y1).set (own_at [x0, x1, x2] y1).toNatClampNeg (((0:Int32) + (own_at (own_v223 x0 x1 x2 y0 y1) (own_at [x0, x1, x2] y0))) + (own_at (own_v240 x0 x1 x2 y0 y1) (own_at [x0, x1, x2] y1))))
def own_v276 (x0 : Int32) (x1 : Int32) (x2 : Int32) (y0 : Int32) (y1 : Int32) : List Int32 := ((own_v255 x0 x1 x2 y0 y1).set (own_at [x0, x1, x2] y1).toNatClampNeg ((own_at (own_v255 x0 x1 x2 y0 y1) (own_at [x0, x1, x2] y1)) - (1:Int32)))
def own_v288 (x0 : Int32) (x1 : Int32) (x2 : Int32) (y0 : Int32) (y1 : Int32) : List Int32 := ([(0:Int32), (0:Int32), (0:Int32)].set (own_at (own_v276 x0 x1 x2 y0 y1) (own_at [x0, x1, x2] y1)).toNatClampNeg y1)
def own_v306 (x0 : Int32) (x1 : Int32) (x2 : Int32) (y0 : Int32) (y1 : Int32) : List Int32 := ((own_v276 x0 x1 x2 y0 y1).set (own_at [x0, x1, x2] y0).toNatClampNeg ((own_at (own_v276 x0 x1 x2 y0 y1) (own_at [x0, x1, x2] y0)) - (1:Int32)))
def own_v318 (x0 : Int32) (x1 : Int32) (x2 : Int32) (y0 : Int32) (y1 : Int32) : List Int32 := ((own_v288 x0 x1 x2 y0 y1).set (own_at (own_v306 x0 x1 x2 y0 y1) (own_at [x0, x1, x2] y0)).toNatClampNeg y0)
def own_v372 (x0 : Int32) (x1 : Int32) (x2 : Int32) (y0 : Int32) (y1 : Int32) : List Int32 := ((own_v240 x0 x1 x2 y0 y1).set (own_at [x0, x1, x2] y1).toNatClampNeg ((own_at (own_v240 x0 x1 x2 y0 y1) (own_at [x0, x1, x2] y1)) - (1:Int32)))
def own_v384 (x0 : Int32) (x1 : Int32) (x2 : Int32) (y0 : Int32) (y1 : Int32) : List Int32 := ([(0:Int32), (0:Int32), (0:Int32)].set (own_at (own_v372 x0 x1 x2 y0 y1) (own_at [x0, x1, x2] y1)).toNatClampNeg y1)
def own_v402 (x0 : Int32) (x1 : Int32) (x2 : Int32) (y0 : Int32) (y1 : Int32) : List Int32 := ((own_v372 x0 x1 x2 y0 y1).set (own_at [x0, x1, x2] y0).toNatClampNeg ((own_at (own_v372 x0 x1 x2 y0 y1) (own_at [x0, x1, x2] y0)) - (1:Int32)))
def own_v414 (x0 : Int32) (x1 : Int32) (x2 : Int32) (y0 : Int32) (y1 : Int32) : List Int32 := ((own_v384 x0 x1 x2 y0 y1).set (own_at (own_v402 x0 x1 x2 y0 y1) (own_at [x0, x1, x2] y0)).toNatClampNeg y0)
theorem ef4m2 (m : MethodId) (a0 : Addr) : entryFrame m #[(.ref a0)] 5 = mkF m 0 #[rv a0, .unset, .unset, .unset, .unset] [] := by first | (simp [entryFrame, mkF, argsToLocals, Value.category]; done) | rfl
def g4m2_gc (x0 : Int32) (x1 : Int32) (x2 : Int32) (y0 : Int32) (y1 : Int32) (y2 : Int32) : Int32 := (if (own_at (own_v100 x0 x1 x2 y0) (own_at [x0, x1, x2] y1)) = (0:Int32) then (2:Int32) else (1:Int32))
def g4m2_gr (x0 : Int32) (x1 : Int32) (x2 : Int32) (y0 : Int32) (y1 : Int32) (y2 : Int32) : List Int32 := (if (own_at (own_v100 x0 x1 x2 y0) (own_at [x0, x1, x2] y1)) = (0:Int32) then (own_v318 x0 x1 x2 y0 y1) else (own_v414 x0 x1 x2 y0 y1))
def g4m2_gl (x0 : Int32) (x1 : Int32) (x2 : Int32) (y0 : Int32) (y1 : Int32) (y2 : Int32) : List Int32 := (if (own_at (own_v100 x0 x1 x2 y0) (own_at [x0, x1, x2] y1)) = (0:Int32) then [(own_at [x0, x1, x2] y0), (own_at [x0, x1, x2] y1), (0:Int32)] else [(own_at [x0, x1, x2] y0), (0:Int32), (0:Int32)])
def g4m2_gs (x0 : Int32) (x1 : Int32) (x2 : Int32) (y0 : Int32) (y1 : Int32) (y2 : Int32) : List Int32 := (if (own_at (own_v100 x0 x1 x2 y0) (own_at [x0, x1, x2] y1)) = (0:Int32) then (own_v306 x0 x1 x2 y0 y1) else (own_v402 x0 x1 x2 y0 y1))
def f4m2 (x0 : Int32) (x1 : Int32) (x2 : Int32) (y0 : Int32) (y1 : Int32) (y2 : Int32) : Int32 := (if (own_at (own_v100 x0 x1 x2 y0) (own_at [x0, x1, x2] y1)) = (0:Int32) then (2:Int32) else (1:Int32))
def Q4m2 (Z : State) (a0 : Addr) (la : Addr) (mv : Addr) (gr : Addr) (gl : Addr) (gs : Addr) (x0 : Int32) (x1 : Int32) (x2 : Int32) (y0 : Int32) (y1 : Int32) (y2 : Int32) (h0 : Heap) (n0 : Nat) (v : Option Value) (h : Heap) (L : List Loc) : Prop := v = some (.int (f4m2 x0 x1 x2 y0 y1 y2)) ∧ Fr n0 L ∧ Keep h0 h [a0, gr, gl, gs] ∧ Fld Z h a0 "com/example/spare_calculus/sparecalculus/bisim/LabelGroups" "labels" "[I" (.ref la) ∧ Fld Z h a0 "com/example/spare_calculus/sparecalculus/bisim/LabelGroups" "moves" "[I" (.ref mv) ∧ Fld Z h a0 "com/example/spare_calculus/sparecalculus/bisim/LabelGroups" "grouped" "[I" (.ref gr) ∧ Fld Z h a0 "com/example/spare_calculus/sparecalculus/bisim/LabelGroups" "groupLabels" "[I" (.ref gl) ∧ Fld Z h a0 "com/example/spare_calculus/sparecalculus/bisim/LabelGroups" "groupStarts" "[I" (.ref gs) ∧ Fld Z h a0 "com/example/spare_calculus/sparecalculus/bisim/LabelGroups" "moveCount" "I" (.int (2:Int32)) ∧ Fld Z h a0 "com/example/spare_calculus/sparecalculus/bisim/LabelGroups" "groupCount" "I" (.int (g4m2_gc x0 x1 x2 y0 y1 y2)) ∧ own_Ints Z h gr (g4m2_gr x0 x1 x2 y0 y1 y2) ∧ own_Ints Z h gl (g4m2_gl x0 x1 x2 y0 y1 y2) ∧ own_Ints Z h gs (g4m2_gs x0 x1 x2 y0 y1 y2)
set_option maxRecDepth 65536 in
set_option maxHeartbeats 40000000 in
theorem rm4m2 (l : Launch) (Z : State) (aZ : Array Value) (hw : ∀ d ∈ tables_1, d.before aZ Z = true) (ws : List Jvm.Cond) (a0 : Addr) (la : Addr) (mv : Addr) (gr : Addr) (gl : Addr) (gs : Addr) (x0 : Int32) (x1 : Int32) (x2 : Int32) (y0 : Int32) (y1 : Int32) (y2 : Int32) (h0 : Heap) (n0 : Nat) (Z0 : n0 ≤ h0.size) (P0 : Exa Z h0 a0 "com/example/spare_calculus/sparecalculus/bisim/LabelGroups") (P1 : Fld Z h0 a0 "com/example/spare_calculus/sparecalculus/bisim/LabelGroups" "labels" "[I" (.ref la)) (P2 : Fld Z h0 a0 "com/example/spare_calculus/sparecalculus/bisim/LabelGroups" "moves" "[I" (.ref mv)) (P3 : Fld Z h0 a0 "com/example/spare_calculus/sparecalculus/bisim/LabelGroups" "grouped" "[I" (.ref gr)) (P4 : Fld Z h0 a0 "com/example/spare_calculus/sparecalculus/bisim/LabelGroups" "groupLabels" "[I" (.ref gl)) (P5 : Fld Z h0 a0 "com/example/spare_calculus/sparecalculus/bisim/LabelGroups" "groupStarts" "[I" (.ref gs)) (P6 : Fld Z h0 a0 "com/example/spare_calculus/sparecalculus/bisim/LabelGroups" "moveCount" "I" (.int (2:Int32))) (P7 : Fld Z h0 a0 "com/example/spare_calculus/sparecalculus/bisim/LabelGroups" "groupCount" "I" (.int (0:Int32))) (P8 : own_Ints Z h0 la [x0, x1, x2]) (P9 : own_Ints Z h0 mv [y0, y1, y2]) (P10 : own_Ints Z h0 gr [(0:Int32), (0:Int32), (0:Int32)]) (P11 : own_Ints Z h0 gl [(0:Int32), (0:Int32), (0:Int32)]) (P12 : own_Ints Z h0 gs [(0:Int32), (0:Int32), (0:Int32)]) (nq_a0_la : a0 ≠ la) (nq_a0_mv : a0 ≠ mv) (nq_a0_gr : a0 ≠ gr) (nq_a0_gl : a0 ≠ gl) (nq_a0_gs : a0 ≠ gs) (nq_la_mv : la ≠ mv) (nq_la_gr : la ≠ gr) (nq_la_gl : la ≠ gl) (nq_la_gs : la ≠ gs) (nq_mv_gr : mv ≠ gr) (nq_mv_gl : mv ≠ gl) (nq_mv_gs : mv ≠ gs) (nq_gr_gl : gr ≠ gl) (nq_gr_gs : gr ≠ gs) (nq_gl_gs : gl ≠ gs) (gq_a0 : n0 ≤ a0) (gq_gr : n0 ≤ gr) (gq_gl : n0 ≤ gl) (gq_gs : n0 ≤ gs) (hl165 : own_In y0 [x0, x1, x2].length) (hl168 : own_In (own_at [x0, x1, x2] y0) [(0:Int32), (0:Int32), (0:Int32)].length) (hl196 : own_In y1 [x0, x1, x2].length) (hl200 : own_In (own_at [x0, x1, x2] y1) (own_v100 x0 x1 x2 y0).length) (hl218 : ((own_at (own_v100 x0 x1 x2 y0) (own_at [x0, x1, x2] y1)) = (0:Int32)) → own_In (own_at [x0, x1, x2] y1) (own_v100 x0 x1 x2 y0).length) (hl234 : ((own_at (own_v100 x0 x1 x2 y0) (own_at [x0, x1, x2] y1)) = (0:Int32)) → own_In (own_at [x0, x1, x2] y0) (own_v223 x0 x1 x2 y0 y1).length) (hl249 : ((own_at (own_v100 x0 x1 x2 y0) (own_at [x0, x1, x2] y1)) = (0:Int32)) → own_In (own_at [x0, x1, x2] y1) (own_v240 x0 x1 x2 y0 y1).length) (hl267 : ((own_at (own_v100 x0 x1 x2 y0) (own_at [x0, x1, x2] y1)) = (0:Int32)) → own_In y1 [x0, x1, x2].length) (hl271 : ((own_at (own_v100 x0 x1 x2 y0) (own_at [x0, x1, x2] y1)) = (0:Int32)) → own_In (own_at [x0, x1, x2] y1) (own_v255 x0 x1 x2 y0 y1).length) (hl281 : ((own_at (own_v100 x0 x1 x2 y0) (own_at [x0, x1, x2] y1)) = (0:Int32)) → own_In (own_at [x0, x1, x2] y1) (own_v276 x0 x1 x2 y0 y1).length) (hl285 : ((own_at (own_v100 x0 x1 x2 y0) (own_at [x0, x1, x2] y1)) = (0:Int32)) → own_In (own_at (own_v276 x0 x1 x2 y0 y1) (own_at [x0, x1, x2] y1)) [(0:Int32), (0:Int32), (0:Int32)].length) (hl296 : ((own_at (own_v100 x0 x1 x2 y0) (own_at [x0, x1, x2] y1)) = (0:Int32)) → own_In y0 [x0, x1, x2].length) (hl301 : ((own_at (own_v100 x0 x1 x2 y0) (own_at [x0, x1, x2] y1)) = (0:Int32)) → own_In (own_at [x0, x1, x2] y0) (own_v276 x0 x1 x2 y0 y1).length) (hl311 : ((own_at (own_v100 x0 x1 x2 y0) (own_at [x0, x1, x2] y1)) = (0:Int32)) → own_In (own_at [x0, x1, x2] y0) (own_v306 x0 x1 x2 y0 y1).length) (hl315 : ((own_at (own_v100 x0 x1 x2 y0) (own_at [x0, x1, x2] y1)) = (0:Int32)) → own_In (own_at (own_v306 x0 x1 x2 y0 y1) (own_at [x0, x1, x2] y0)) (own_v288 x0 x1 x2 y0 y1).length) (hl331 : (¬ ((own_at (own_v100 x0 x1 x2 y0) (own_at [x0, x1, x2] y1)) = (0:Int32))) → own_In (own_at [x0, x1, x2] y1) (own_v100 x0 x1 x2 y0).length) (hl346 : (¬ ((own_at (own_v100 x0 x1 x2 y0) (own_at [x0, x1, x2] y1)) = (0:Int32))) → own_In (own_at [x0, x1, x2] y0) (own_v223 x0 x1 x2 y0 y1).length) (hl363 : (¬ ((own_at (own_v100 x0 x1 x2 y0) (own_at [x0, x1, x2] y1)) = (0:Int32))) → own_In y1 [x0, x1, x2].length) (hl367 : (¬ ((own_at (own_v100 x0 x1 x2 y0) (own_at [x0, x1, x2] y1)) = (0:Int32))) → own_In (own_at [x0, x1, x2] y1) (own_v240 x0 x1 x2 y0 y1).length) (hl377 : (¬ ((own_at (own_v100 x0 x1 x2 y0) (own_at [x0, x1, x2] y1)) = (0:Int32))) → own_In (own_at [x0, x1, x2] y1) (own_v372 x0 x1 x2 y0 y1).length) (hl381 : (¬ ((own_at (own_v100 x0 x1 x2 y0) (own_at [x0, x1, x2] y1)) = (0:Int32))) → own_In (own_at (own_v372 x0 x1 x2 y0 y1) (own_at [x0, x1, x2] y1)) [(0:Int32), (0:Int32), (0:Int32)].length) (hl392 : (¬ ((own_at (own_v100 x0 x1 x2 y0) (own_at [x0, x1, x2] y1)) = (0:Int32))) → own_In y0 [x0, x1, x2].length) (hl397 : (¬ ((own_at (own_v100 x0 x1 x2 y0) (own_at [x0, x1, x2] y1)) = (0:Int32))) → own_In (own_at [x0, x1, x2] y0) (own_v372 x0 x1 x2 y0 y1).length) (hl407 : (¬ ((own_at (own_v100 x0 x1 x2 y0) (own_at [x0, x1, x2] y1)) = (0:Int32))) → own_In (own_at [x0, x1, x2] y0) (own_v402 x0 x1 x2 y0 y1).length) (hl411 : (¬ ((own_at (own_v100 x0 x1 x2 y0) (own_at [x0, x1, x2] y1)) = (0:Int32))) → own_In (own_at (own_v402 x0 x1 x2 y0 y1) (own_at [x0, x1, x2] y0)) (own_v384 x0 x1 x2 y0 y1).length) :
    MetFree l (⟨"com/example/spare_calculus/sparecalculus/bisim/LabelGroups", "group", "()I"⟩ : MethodName) (head1 (Jvm.Cond.code (⟨"com/example/spare_calculus/sparecalculus/bisim/LabelGroups", "group", "()I"⟩ : MethodName) prog_15_method_3_code 5 (some .int) :: ws) ({ frames := 0, cells := 0, slots := 0, locals := 0 } : Room)) (fun a U => a = #[(.ref a0)] ∧ Z.Warmed39 U.vm ∧ U.heap = h0) (fun _ _ _ _ _ => True) (fun _ U o U' => ∃ v L, o = .returned v ∧ Q4m2 Z a0 la mv gr gl gs x0 x1 x2 y0 y1 y2 h0 n0 v U'.heap L ∧ FrameEnd U o U' L ({ frames := 0, cells := 0, slots := 0, locals := 0 } : Room).cells ({ frames := 0, cells := 0, slots := 0, locals := 0 } : Room).slots) := by
  refine MetFree.of_bodySF (plainFor_of_name own_pn0) hisR ?_
  intro p e s m args below meth c s₁ Bd hml0 hP hK
  obtain ⟨rfl, hZ, hh⟩ := hP
  have hx := Bd.exec
  have hby := Bd.bytes
  have hml : c.maxLocals = 5 := hml0
  have hown : s.vm.findClass "com/example/spare_calculus/sparecalculus/bisim/LabelGroups" = some m.cls := findClass_of_methodNamed Bd.named
  have hnm := (name_of_methodNamed Bd.named Bd.method).1
  have X0 : Stand p l e ({ frames := 0, cells := 0, slots := 0, locals := 0 } : Room) s m #[(.ref a0)] below meth c s₁ [] 0 0 := Stand.of_body Bd
  have e0 : s₁.heap = h0 := by rw [← hh, Bd.state]; rfl
  have N0 := Fr.nil n0
  have Kp0 : Keep h0 h0 [a0, gr, gl, gs] := Keep.refl _ _
  have D : ∀ {pc : Nat} {r : Except ClassFile.DecodeError (ClassFile.Instr × Nat)}, decode prog_15_method_3_code pc = r → decode c.code pc = r := fun h => hb hby h
  show own_Goes p e below s (Q4m2 Z a0 la mv gr gl gs x0 x1 x2 y0 y1 y2 h0 n0) ({ frames := 0, cells := 0, slots := 0, locals := 0 } : Room).cells ({ frames := 0, cells := 0, slots := 0, locals := 0 } : Room).slots _
  refine own_pre (fun t k => castTop (ef4m2 m a0) k) ?_
  refine own_pA s₁ m 4 #[rv a0, iv (0:Int32), .unset, .unset, .unset] [(.ref a0), (.int (0:Int32))] (fun t k => ?_) ?_
  ·refine XS.iconst X0.here hx rfl (D d4_0) ?_
   refine XS.istoreN X0.here hx rfl (D d4_1) rfl (l' := #[rv a0, iv (0:Int32), .unset, .unset, .unset]) rfl ?_
   refine XS.iloadN X0.here hx rfl (D d4_2) rfl ?_
   exact XS.aloadN X0.here hx rfl (D d4_3) rfl rfl k
  refine own_getF X0 hx hZ hown (host := "") (Or.inl (own_h hw 26 rfl)) Via.refl e0 P6 rfl rfl (D d4_4) (fun T161 X161 e161 => ?_)
  refine own_pA T161 m 11 #[rv a0, iv (0:Int32), .unset, .unset, .unset] [(.ref a0)] (fun t k => ?_) ?_
  ·refine XS.icmpNo X161.here hx rfl (D d4_7) rfl (XT.ii_ge_f (by decide)) ?_
   exact XS.aloadN X161.here hx rfl (D d4_10) rfl rfl k
  refine own_getF X161 hx hZ hown (host := "") (Or.inl (own_h hw 11 rfl)) Via.refl e161 P1 rfl rfl (D d4_11) (fun T162 X162 e162 => ?_)
  refine own_pA T162 m 15 #[rv a0, iv (0:Int32), .unset, .unset, .unset] [(.ref a0), (.ref la)] (fun t k => ?_) ?_
  ·exact XS.aloadN X162.here hx rfl (D d4_14) rfl rfl k
  refine own_getF X162 hx hZ hown (host := "") (Or.inl (own_h hw 13 rfl)) Via.refl e162 P2 rfl rfl (D d4_15) (fun T163 X163 e163 => ?_)
  have hbn164 : own_In (0:Int32) [y0, y1, y2].length := own_lit rfl
  have hbn166 : own_In y0 [x0, x1, x2].length := hl165
  refine own_pA T163 m 23 #[.val (.ref a0), .val (.int (0:Int32)), .val (.int (own_at [x0, x1, x2] y0)), .unset, .unset] [(.ref a0)] (fun t k => ?_) ?_
  ·refine XS.iloadN X163.here hx rfl (D d4_18) rfl ?_
   refine own_iaload X163 hx hZ e163 P9 hbn164 rfl rfl (D d4_19) ?_
   refine own_iaload X163 hx hZ e163 P8 hbn166 rfl rfl (D d4_20) ?_
   refine XS.istoreN X163.here hx rfl (D d4_21) rfl (l' := #[.val (.ref a0), .val (.int (0:Int32)), .val (.int (own_at [x0, x1, x2] y0)), .unset, .unset]) rfl ?_
   exact XS.aloadN X163.here hx rfl (D d4_22) rfl rfl k
  refine own_getF X163 hx hZ hown (host := "") (Or.inl (own_h hw 19 rfl)) Via.refl e163 P5 rfl rfl (D d4_23) (fun T167 X167 e167 => ?_)
  have hbn169 : own_In (own_at [x0, x1, x2] y0) [(0:Int32), (0:Int32), (0:Int32)].length := hl168
  have hd28_1 : (own_at [(0:Int32), (0:Int32), (0:Int32)] (own_at [x0, x1, x2] y0)) = (0:Int32) := own_z3 _
  refine own_pA T167 m 32 #[.val (.ref a0), .val (.int (0:Int32)), .val (.int (own_at [x0, x1, x2] y0)), .unset, .unset] [(.ref a0)] (fun t k => ?_) ?_
  ·refine XS.iloadN X167.here hx rfl (D d4_26) rfl ?_
   refine own_iaload X167 hx hZ e167 P12 hbn169 rfl rfl (D d4_27) ?_
   refine XS.ifNo X167.here hx rfl (D d4_28) rfl (XT.i0_ne_f hd28_1) ?_
   exact XS.aloadN X167.here hx rfl (D d4_31) rfl rfl k
  refine own_getF X167 hx hZ hown (host := "") (Or.inl (own_h hw 17 rfl)) Via.refl e167 P4 rfl rfl (D d4_32) (fun T170 X170 e170 => ?_)
  refine own_pA T170 m 36 #[.val (.ref a0), .val (.int (0:Int32)), .val (.int (own_at [x0, x1, x2] y0)), .unset, .unset] [(.ref a0), (.ref gl)] (fun t k => ?_) ?_
  ·exact XS.aloadN X170.here hx rfl (D d4_35) rfl rfl k
  refine own_getF X170 hx hZ hown (host := "") (Or.inl (own_h hw 33 rfl)) Via.refl e170 P7 rfl rfl (D d4_36) (fun T171 X171 e171 => ?_)
  refine own_pA T171 m 40 #[.val (.ref a0), .val (.int (0:Int32)), .val (.int (own_at [x0, x1, x2] y0)), .unset, .unset] [(.int (own_at [x0, x1, x2] y0)), (.int (0:Int32)), (.ref gl)] (fun t k => ?_) ?_
  ·exact XS.iloadN X171.here hx rfl (D d4_39) rfl k
  have hbn173 : own_In (0:Int32) [(0:Int32), (0:Int32), (0:Int32)].length := own_lit rfl
  refine own_iastG X171 hx hZ e171 P11 hbn173 rfl rfl (D d4_40) (fun T172 h172 X172 e172 W172 V172 => ?_)
  have Kp172 : Keep h0 h172 [a0, gr, gl, gs] := Kp0.wr W172 (Or.inl (List.mem_of_getElem? (i := 2) rfl))
  have Z174 : n0 ≤ h172.size := Nat.le_trans Z0 (Nat.le_of_eq W172.size.symm)
  have N172 := Fr.snoc X172 N0 gq_gl
  have Vw172 : own_Ints Z h172 gl [(own_at [x0, x1, x2] y0), (0:Int32), (0:Int32)] := V172
  refine own_pA T172 m 43 #[.val (.ref a0), .val (.int (0:Int32)), .val (.int (own_at [x0, x1, x2] y0)), .unset, .unset] [(.ref a0), (.ref a0)] (fun t k => ?_) ?_
  ·refine XS.aloadN X172.here hx rfl (D d4_41) rfl rfl ?_
   exact XS.dup X172.here hx rfl (D d4_42) rfl rfl k
  have F176 := (P7.other W172 (Or.inl nq_a0_gl))
  refine own_getF X172 hx hZ hown (host := "") (Or.inl (own_h hw 33 rfl)) Via.refl e172 F176 rfl rfl (D d4_43) (fun T175 X175 e175 => ?_)
  refine own_pA T175 m 48 #[.val (.ref a0), .val (.int (0:Int32)), .val (.int (own_at [x0, x1, x2] y0)), .unset, .unset] [(.int (1:Int32)), (.ref a0)] (fun t k => ?_) ?_
  ·refine XS.iconst X175.here hx rfl (D d4_46) ?_
   exact XS.iadd X175.here hx rfl (D d4_47) rfl k
  have F178 := (P0.wr W172)
  obtain ⟨T177, h177, X177, e177, W177, st177⟩ := putF X175 hx hZ hown (host := "") (Or.inl (own_h hw 33 rfl)) Via.refl e175 F176 F178 (Or.inl (own_h hw 34 rfl)) (own_h hw 3 rfl) (ty := .int) (by decide) rfl rfl (g := (mkF m 48 #[.val (.ref a0), .val (.int (0:Int32)), .val (.int (own_at [x0, x1, x2] y0)), .unset, .unset] [(.int (1:Int32)), (.ref a0)])) rfl rfl (D d4_48)
  have Kp177 : Keep h0 h177 [a0, gr, gl, gs] := Kp172.wr W177 (Or.inl (List.mem_of_getElem? (i := 0) rfl))
  have Z179 : n0 ≤ h177.size := Nat.le_trans Z174 (Nat.le_of_eq W177.size.symm)
  have N177 := Fr.snoc X177 N172 gq_a0
  have Fw177 := F176.same W177
  refine own_pre st177 ?_
  refine own_pA T177 m 52 #[.val (.ref a0), .val (.int (0:Int32)), .val (.int (own_at [x0, x1, x2] y0)), .unset, .unset] [(.ref a0)] (fun t k => ?_) ?_
  ·exact XS.aloadN X177.here hx rfl (D d4_51) rfl rfl k
  have F181 := ((P5.other W172 (Or.inl nq_a0_gl)).other W177 (Or.inr (slot_ne (Or.inr (own_h hw 20 rfl)) (Or.inl (own_h hw 34 rfl)) (by decide) (t := (.array .int)) (t' := .int) (by decide) (by decide))))
  refine own_getF X177 hx hZ hown (host := "") (Or.inl (own_h hw 19 rfl)) Via.refl e177 F181 rfl rfl (D d4_52) (fun T180 X180 e180 => ?_)
  have F182 := ((P12.other W172 (Ne.symm nq_gl_gs)).other W177 (Ne.symm nq_a0_gs))
  have hbn183 : own_In (own_at [x0, x1, x2] y0) [(0:Int32), (0:Int32), (0:Int32)].length := hl168
  refine own_pA T180 m 60 #[.val (.ref a0), .val (.int (0:Int32)), .val (.int (own_at [x0, x1, x2] y0)), .unset, .unset] [(.int ((own_at [(0:Int32), (0:Int32), (0:Int32)] (own_at [x0, x1, x2] y0)) + (1:Int32))), (.int (own_at [x0, x1, x2] y0)), (.ref gs)] (fun t k => ?_) ?_
  ·refine XS.iloadN X180.here hx rfl (D d4_55) rfl ?_
   refine XT.dup2 X180.here hx rfl (D d4_56) rfl rfl rfl ?_
   refine own_iaload X180 hx hZ e180 F182 hbn183 rfl rfl (D d4_57) ?_
   refine XS.iconst X180.here hx rfl (D d4_58) ?_
   exact XS.iadd X180.here hx rfl (D d4_59) rfl k
  have hbn185 : own_In (own_at [x0, x1, x2] y0) [(0:Int32), (0:Int32), (0:Int32)].length := hl168
  refine own_iastG X180 hx hZ e180 F182 hbn185 rfl rfl (D d4_60) (fun T184 h184 X184 e184 W184 V184 => ?_)
  have Kp184 : Keep h0 h184 [a0, gr, gl, gs] := Kp177.wr W184 (Or.inl (List.mem_of_getElem? (i := 3) rfl))
  have Z186 : n0 ≤ h184.size := Nat.le_trans Z179 (Nat.le_of_eq W184.size.symm)
  have N184 := Fr.snoc X184 N177 gq_gs
  have Vw184 : own_Ints Z h184 gs (own_v100 x0 x1 x2 y0) := V184
  refine own_pA T184 m 4 #[.val (.ref a0), .val (.int (1:Int32)), .val (.int (own_at [x0, x1, x2] y0)), .unset, .unset] [(.ref a0), (.int (1:Int32))] (fun t k => ?_) ?_
  ·refine XS.iinc X184.here hx rfl (D d4_61) rfl (l' := #[.val (.ref a0), .val (.int (1:Int32)), .val (.int (own_at [x0, x1, x2] y0)), .unset, .unset]) rfl ?_
   refine XS.goto X184.here hx rfl (pc0 := 64) (pc' := 2) rfl (D d4_64) (by decide) (by decide) ?_
   refine XS.iloadN X184.here hx rfl (D d4_2) rfl ?_
   exact XS.aloadN X184.here hx rfl (D d4_3) rfl rfl k
  have F188 := (((P6.other W172 (Or.inl nq_a0_gl)).other W177 (Or.inr (slot_ne (Or.inl (own_h hw 27 rfl)) (Or.inl (own_h hw 34 rfl)) (by decide) (t := .int) (t' := .int) (by decide) (by decide)))).other W184 (Or.inl nq_a0_gs))
  refine own_getF X184 hx hZ hown (host := "") (Or.inl (own_h hw 26 rfl)) Via.refl e184 F188 rfl rfl (D d4_4) (fun T187 X187 e187 => ?_)
  refine own_pA T187 m 11 #[.val (.ref a0), .val (.int (1:Int32)), .val (.int (own_at [x0, x1, x2] y0)), .unset, .unset] [(.ref a0)] (fun t k => ?_) ?_
  ·refine XS.icmpNo X187.here hx rfl (D d4_7) rfl (XT.ii_ge_f (by decide)) ?_
   exact XS.aloadN X187.here hx rfl (D d4_10) rfl rfl k
  have F190 := (((P1.other W172 (Or.inl nq_a0_gl)).other W177 (Or.inr (slot_ne (Or.inr (own_h hw 12 rfl)) (Or.inl (own_h hw 34 rfl)) (by decide) (t := (.array .int)) (t' := .int) (by decide) (by decide)))).other W184 (Or.inl nq_a0_gs))
  refine own_getF X187 hx hZ hown (host := "") (Or.inl (own_h hw 11 rfl)) Via.refl e187 F190 rfl rfl (D d4_11) (fun T189 X189 e189 => ?_)
  refine own_pA T189 m 15 #[.val (.ref a0), .val (.int (1:Int32)), .val (.int (own_at [x0, x1, x2] y0)), .unset, .unset] [(.ref a0), (.ref la)] (fun t k => ?_) ?_
  ·exact XS.aloadN X189.here hx rfl (D d4_14) rfl rfl k
  have F192 := (((P2.other W172 (Or.inl nq_a0_gl)).other W177 (Or.inr (slot_ne (Or.inr (own_h hw 14 rfl)) (Or.inl (own_h hw 34 rfl)) (by decide) (t := (.array .int)) (t' := .int) (by decide) (by decide)))).other W184 (Or.inl nq_a0_gs))
  refine own_getF X189 hx hZ hown (host := "") (Or.inl (own_h hw 13 rfl)) Via.refl e189 F192 rfl rfl (D d4_15) (fun T191 X191 e191 => ?_)
  have F193 := (((P9.other W172 nq_mv_gl).other W177 (Ne.symm nq_a0_mv)).other W184 nq_mv_gs)
  have hbn194 : own_In (1:Int32) [y0, y1, y2].length := own_lit rfl
  have F195 := (((P8.other W172 nq_la_gl).other W177 (Ne.symm nq_a0_la)).other W184 nq_la_gs)
  have hbn197 : own_In y1 [x0, x1, x2].length := hl196
  refine own_pA T191 m 23 #[.val (.ref a0), .val (.int (1:Int32)), .val (.int (own_at [x0, x1, x2] y1)), .unset, .unset] [(.ref a0)] (fun t k => ?_) ?_
  ·refine XS.iloadN X191.here hx rfl (D d4_18) rfl ?_
   refine own_iaload X191 hx hZ e191 F193 hbn194 rfl rfl (D d4_19) ?_
   refine own_iaload X191 hx hZ e191 F195 hbn197 rfl rfl (D d4_20) ?_
   refine XS.istoreN X191.here hx rfl (D d4_21) rfl (l' := #[.val (.ref a0), .val (.int (1:Int32)), .val (.int (own_at [x0, x1, x2] y1)), .unset, .unset]) rfl ?_
   exact XS.aloadN X191.here hx rfl (D d4_22) rfl rfl k
  have F199 := (F181.other W184 (Or.inl nq_a0_gs))
  refine own_getF X191 hx hZ hown (host := "") (Or.inl (own_h hw 19 rfl)) Via.refl e191 F199 rfl rfl (D d4_23) (fun T198 X198 e198 => ?_)
  have hbn201 : own_In (own_at [x0, x1, x2] y1) (own_v100 x0 x1 x2 y0).length := hl200
  refine own_pA T198 m 28 #[.val (.ref a0), .val (.int (1:Int32)), .val (.int (own_at [x0, x1, x2] y1)), .unset, .unset] [(.int (own_at (own_v100 x0 x1 x2 y0) (own_at [x0, x1, x2] y1)))] (fun t k => ?_) ?_
  ·refine XS.iloadN X198.here hx rfl (D d4_26) rfl ?_
   exact own_iaload X198 hx hZ e198 Vw184 hbn201 rfl rfl (D d4_27) k
  by_cases hs28_2 : (own_at (own_v100 x0 x1 x2 y0) (own_at [x0, x1, x2] y1)) = (0:Int32)
  ·refine own_pA T198 m 32 #[.val (.ref a0), .val (.int (1:Int32)), .val (.int (own_at [x0, x1, x2] y1)), .unset, .unset] [(.ref a0)] (fun t k => ?_) ?_
   ·refine XS.ifNo X198.here hx rfl (D d4_28) rfl (XT.i0_ne_f hs28_2) ?_
    exact XS.aloadN X198.here hx rfl (D d4_31) rfl rfl k
   have F203 := (((P4.other W172 (Or.inl nq_a0_gl)).other W177 (Or.inr (slot_ne (Or.inr (own_h hw 18 rfl)) (Or.inl (own_h hw 34 rfl)) (by decide) (t := (.array .int)) (t' := .int) (by decide) (by decide)))).other W184 (Or.inl nq_a0_gs))
   refine own_getF X198 hx hZ hown (host := "") (Or.inl (own_h hw 17 rfl)) Via.refl e198 F203 rfl rfl (D d4_32) (fun T202 X202 e202 => ?_)
   refine own_pA T202 m 36 #[.val (.ref a0), .val (.int (1:Int32)), .val (.int (own_at [x0, x1, x2] y1)), .unset, .unset] [(.ref a0), (.ref gl)] (fun t k => ?_) ?_
   ·exact XS.aloadN X202.here hx rfl (D d4_35) rfl rfl k
   have F205 := (Fw177.other W184 (Or.inl nq_a0_gs))
   refine own_getF X202 hx hZ hown (host := "") (Or.inl (own_h hw 33 rfl)) Via.refl e202 F205 rfl rfl (D d4_36) (fun T204 X204 e204 => ?_)
   refine own_pA T204 m 40 #[.val (.ref a0), .val (.int (1:Int32)), .val (.int (own_at [x0, x1, x2] y1)), .unset, .unset] [(.int (own_at [x0, x1, x2] y1)), (.int (1:Int32)), (.ref gl)] (fun t k => ?_) ?_
   ·exact XS.iloadN X204.here hx rfl (D d4_39) rfl k
   have F207 := ((Vw172.other W177 (Ne.symm nq_a0_gl)).other W184 nq_gl_gs)
   have hbn208 : own_In (1:Int32) [(own_at [x0, x1, x2] y0), (0:Int32), (0:Int32)].length := own_lit rfl
   refine own_iastG X204 hx hZ e204 F207 hbn208 rfl rfl (D d4_40) (fun T206 h206 X206 e206 W206 V206 => ?_)
   have Kp206 : Keep h0 h206 [a0, gr, gl, gs] := Kp184.wr W206 (Or.inl (List.mem_of_getElem? (i := 2) rfl))
   have Z209 : n0 ≤ h206.size := Nat.le_trans Z186 (Nat.le_of_eq W206.size.symm)
   have N206 := Fr.snoc X206 N184 gq_gl
   have Vw206 : own_Ints Z h206 gl [(own_at [x0, x1, x2] y0), (own_at [x0, x1, x2] y1), (0:Int32)] := V206
   refine own_pA T206 m 43 #[.val (.ref a0), .val (.int (1:Int32)), .val (.int (own_at [x0, x1, x2] y1)), .unset, .unset] [(.ref a0), (.ref a0)] (fun t k => ?_) ?_
   ·refine XS.aloadN X206.here hx rfl (D d4_41) rfl rfl ?_
    exact XS.dup X206.here hx rfl (D d4_42) rfl rfl k
   have F211 := (F205.other W206 (Or.inl nq_a0_gl))
   refine own_getF X206 hx hZ hown (host := "") (Or.inl (own_h hw 33 rfl)) Via.refl e206 F211 rfl rfl (D d4_43) (fun T210 X210 e210 => ?_)
   refine own_pA T210 m 48 #[.val (.ref a0), .val (.int (1:Int32)), .val (.int (own_at [x0, x1, x2] y1)), .unset, .unset] [(.int (2:Int32)), (.ref a0)] (fun t k => ?_) ?_
   ·refine XS.iconst X210.here hx rfl (D d4_46) ?_
    exact XS.iadd X210.here hx rfl (D d4_47) rfl k
   have F213 := (((F178.wr W177).wr W184).wr W206)
   obtain ⟨T212, h212, X212, e212, W212, st212⟩ := putF X210 hx hZ hown (host := "") (Or.inl (own_h hw 33 rfl)) Via.refl e210 F211 F213 (Or.inl (own_h hw 34 rfl)) (own_h hw 3 rfl) (ty := .int) (by decide) rfl rfl (g := (mkF m 48 #[.val (.ref a0), .val (.int (1:Int32)), .val (.int (own_at [x0, x1, x2] y1)), .unset, .unset] [(.int (2:Int32)), (.ref a0)])) rfl rfl (D d4_48)
   have Kp212 : Keep h0 h212 [a0, gr, gl, gs] := Kp206.wr W212 (Or.inl (List.mem_of_getElem? (i := 0) rfl))
   have Z214 : n0 ≤ h212.size := Nat.le_trans Z209 (Nat.le_of_eq W212.size.symm)
   have N212 := Fr.snoc X212 N206 gq_a0
   have Fw212 := F211.same W212
   refine own_pre st212 ?_
   refine own_pA T212 m 52 #[.val (.ref a0), .val (.int (1:Int32)), .val (.int (own_at [x0, x1, x2] y1)), .unset, .unset] [(.ref a0)] (fun t k => ?_) ?_
   ·exact XS.aloadN X212.here hx rfl (D d4_51) rfl rfl k
   have F216 := ((F199.other W206 (Or.inl nq_a0_gl)).other W212 (Or.inr (slot_ne (Or.inr (own_h hw 20 rfl)) (Or.inl (own_h hw 34 rfl)) (by decide) (t := (.array .int)) (t' := .int) (by decide) (by decide))))
   refine own_getF X212 hx hZ hown (host := "") (Or.inl (own_h hw 19 rfl)) Via.refl e212 F216 rfl rfl (D d4_52) (fun T215 X215 e215 => ?_)
   have F217 := ((Vw184.other W206 (Ne.symm nq_gl_gs)).other W212 (Ne.symm nq_a0_gs))
   have hbn219 : own_In (own_at [x0, x1, x2] y1) (own_v100 x0 x1 x2 y0).length := hl218 hs28_2
   refine own_pA T215 m 60 #[.val (.ref a0), .val (.int (1:Int32)), .val (.int (own_at [x0, x1, x2] y1)), .unset, .unset] [(.int ((own_at (own_v100 x0 x1 x2 y0) (own_at [x0, x1, x2] y1)) + (1:Int32))), (.int (own_at [x0, x1, x2] y1)), (.ref gs)] (fun t k => ?_) ?_
   ·refine XS.iloadN X215.here hx rfl (D d4_55) rfl ?_
    refine XT.dup2 X215.here hx rfl (D d4_56) rfl rfl rfl ?_
    refine own_iaload X215 hx hZ e215 F217 hbn219 rfl rfl (D d4_57) ?_
    refine XS.iconst X215.here hx rfl (D d4_58) ?_
    exact XS.iadd X215.here hx rfl (D d4_59) rfl k
   have hbn221 : own_In (own_at [x0, x1, x2] y1) (own_v100 x0 x1 x2 y0).length := hl218 hs28_2
   refine own_iastG X215 hx hZ e215 F217 hbn221 rfl rfl (D d4_60) (fun T220 h220 X220 e220 W220 V220 => ?_)
   have Kp220 : Keep h0 h220 [a0, gr, gl, gs] := Kp212.wr W220 (Or.inl (List.mem_of_getElem? (i := 3) rfl))
   have Z222 : n0 ≤ h220.size := Nat.le_trans Z214 (Nat.le_of_eq W220.size.symm)
   have N220 := Fr.snoc X220 N212 gq_gs
   have Vw220 : own_Ints Z h220 gs (own_v223 x0 x1 x2 y0 y1) := V220
   refine own_pA T220 m 4 #[.val (.ref a0), .val (.int (2:Int32)), .val (.int (own_at [x0, x1, x2] y1)), .unset, .unset] [(.ref a0), (.int (2:Int32))] (fun t k => ?_) ?_
   ·refine XS.iinc X220.here hx rfl (D d4_61) rfl (l' := #[.val (.ref a0), .val (.int (2:Int32)), .val (.int (own_at [x0, x1, x2] y1)), .unset, .unset]) rfl ?_
    refine XS.goto X220.here hx rfl (pc0 := 64) (pc' := 2) rfl (D d4_64) (by decide) (by decide) ?_
    refine XS.iloadN X220.here hx rfl (D d4_2) rfl ?_
    exact XS.aloadN X220.here hx rfl (D d4_3) rfl rfl k
   have F225 := (((F188.other W206 (Or.inl nq_a0_gl)).other W212 (Or.inr (slot_ne (Or.inl (own_h hw 27 rfl)) (Or.inl (own_h hw 34 rfl)) (by decide) (t := .int) (t' := .int) (by decide) (by decide)))).other W220 (Or.inl nq_a0_gs))
   refine own_getF X220 hx hZ hown (host := "") (Or.inl (own_h hw 26 rfl)) Via.refl e220 F225 rfl rfl (D d4_4) (fun T224 X224 e224 => ?_)
   refine own_pA T224 m 73 #[rv a0, iv (0:Int32), iv (0:Int32), .unset, .unset] [(.ref a0), (.int (0:Int32))] (fun t k => ?_) ?_
   ·refine XS.icmpYes X224.here hx rfl (pc0 := 7) (pc' := 67) rfl (D d4_7) rfl (XT.ii_ge_t (by decide)) (by decide) (by decide) ?_
    refine XS.iconst X224.here hx rfl (D d4_67) ?_
    refine XS.istoreN X224.here hx rfl (D d4_68) rfl (l' := #[.val (.ref a0), .val (.int (0:Int32)), .val (.int (own_at [x0, x1, x2] y1)), .unset, .unset]) rfl ?_
    refine XS.iconst X224.here hx rfl (D d4_69) ?_
    refine XS.istoreN X224.here hx rfl (D d4_70) rfl (l' := #[rv a0, iv (0:Int32), iv (0:Int32), .unset, .unset]) rfl ?_
    refine XS.iloadN X224.here hx rfl (D d4_71) rfl ?_
    exact XS.aloadN X224.here hx rfl (D d4_72) rfl rfl k
   have F227 := (Fw212.other W220 (Or.inl nq_a0_gs))
   refine own_getF X224 hx hZ hown (host := "") (Or.inl (own_h hw 33 rfl)) Via.refl e224 F227 rfl rfl (D d4_73) (fun T226 X226 e226 => ?_)
   refine own_pA T226 m 80 #[rv a0, iv (0:Int32), iv (0:Int32), .unset, .unset] [(.ref a0)] (fun t k => ?_) ?_
   ·refine XS.icmpNo X226.here hx rfl (D d4_76) rfl (XT.ii_ge_f (by decide)) ?_
    exact XS.aloadN X226.here hx rfl (D d4_79) rfl rfl k
   have F229 := (((F203.other W206 (Or.inl nq_a0_gl)).other W212 (Or.inr (slot_ne (Or.inr (own_h hw 18 rfl)) (Or.inl (own_h hw 34 rfl)) (by decide) (t := (.array .int)) (t' := .int) (by decide) (by decide)))).other W220 (Or.inl nq_a0_gs))
   refine own_getF X226 hx hZ hown (host := "") (Or.inl (own_h hw 17 rfl)) Via.refl e226 F229 rfl rfl (D d4_80) (fun T228 X228 e228 => ?_)
   have F230 := ((Vw206.other W212 (Ne.symm nq_a0_gl)).other W220 nq_gl_gs)
   have hbn231 : own_In (0:Int32) [(own_at [x0, x1, x2] y0), (own_at [x0, x1, x2] y1), (0:Int32)].length := own_lit rfl
   refine own_pA T228 m 88 #[.val (.ref a0), .val (.int (0:Int32)), .val (.int (0:Int32)), .val (.int (own_at [x0, x1, x2] y0)), .unset] [(.ref a0), (.int (0:Int32))] (fun t k => ?_) ?_
   ·refine XS.iloadN X228.here hx rfl (D d4_83) rfl ?_
    refine own_iaload X228 hx hZ e228 F230 hbn231 rfl rfl (D d4_84) ?_
    refine XS.istoreN X228.here hx rfl (D d4_85) rfl (l' := #[.val (.ref a0), .val (.int (0:Int32)), .val (.int (0:Int32)), .val (.int (own_at [x0, x1, x2] y0)), .unset]) rfl ?_
    refine XS.iloadN X228.here hx rfl (D d4_86) rfl ?_
    exact XS.aloadN X228.here hx rfl (D d4_87) rfl rfl k
   have F233 := (F216.other W220 (Or.inl nq_a0_gs))
   refine own_getF X228 hx hZ hown (host := "") (Or.inl (own_h hw 19 rfl)) Via.refl e228 F233 rfl rfl (D d4_88) (fun T232 X232 e232 => ?_)
   have hbn235 : own_In (own_at [x0, x1, x2] y0) (own_v223 x0 x1 x2 y0 y1).length := hl234 hs28_2
   refine own_pA T232 m 96 #[.val (.ref a0), .val (.int ((0:Int32) + (own_at (own_v223 x0 x1 x2 y0 y1) (own_at [x0, x1, x2] y0)))), .val (.int (0:Int32)), .val (.int (own_at [x0, x1, x2] y0)), .unset] [(.ref a0)] (fun t k => ?_) ?_
   ·refine XS.iloadN X232.here hx rfl (D d4_91) rfl ?_
    refine own_iaload X232 hx hZ e232 Vw220 hbn235 rfl rfl (D d4_92) ?_
    refine XS.iadd X232.here hx rfl (D d4_93) rfl ?_
    refine XS.istoreN X232.here hx rfl (D d4_94) rfl (l' := #[.val (.ref a0), .val (.int ((0:Int32) + (own_at (own_v223 x0 x1 x2 y0 y1) (own_at [x0, x1, x2] y0)))), .val (.int (0:Int32)), .val (.int (own_at [x0, x1, x2] y0)), .unset]) rfl ?_
    exact XS.aloadN X232.here hx rfl (D d4_95) rfl rfl k
   refine own_getF X232 hx hZ hown (host := "") (Or.inl (own_h hw 19 rfl)) Via.refl e232 F233 rfl rfl (D d4_96) (fun T236 X236 e236 => ?_)
   refine own_pA T236 m 101 #[.val (.ref a0), .val (.int ((0:Int32) + (own_at (own_v223 x0 x1 x2 y0 y1) (own_at [x0, x1, x2] y0)))), .val (.int (0:Int32)), .val (.int (own_at [x0, x1, x2] y0)), .unset] [(.int ((0:Int32) + (own_at (own_v223 x0 x1 x2 y0 y1) (own_at [x0, x1, x2] y0)))), (.int (own_at [x0, x1, x2] y0)), (.ref gs)] (fun t k => ?_) ?_
   ·refine XS.iloadN X236.here hx rfl (D d4_99) rfl ?_
    exact XS.iloadN X236.here hx rfl (D d4_100) rfl k
   have hbn238 : own_In (own_at [x0, x1, x2] y0) (own_v223 x0 x1 x2 y0 y1).length := hl234 hs28_2
   refine own_iastG X236 hx hZ e236 Vw220 hbn238 rfl rfl (D d4_101) (fun T237 h237 X237 e237 W237 V237 => ?_)
   have Kp237 : Keep h0 h237 [a0, gr, gl, gs] := Kp220.wr W237 (Or.inl (List.mem_of_getElem? (i := 3) rfl))
   have Z239 : n0 ≤ h237.size := Nat.le_trans Z222 (Nat.le_of_eq W237.size.symm)
   have N237 := Fr.snoc X237 N220 gq_gs
   have Vw237 : own_Ints Z h237 gs (own_v240 x0 x1 x2 y0 y1) := V237
   refine own_pA T237 m 73 #[.val (.ref a0), .val (.int ((0:Int32) + (own_at (own_v223 x0 x1 x2 y0 y1) (own_at [x0, x1, x2] y0)))), .val (.int (1:Int32)), .val (.int (own_at [x0, x1, x2] y0)), .unset] [(.ref a0), (.int (1:Int32))] (fun t k => ?_) ?_
   ·refine XS.iinc X237.here hx rfl (D d4_102) rfl (l' := #[.val (.ref a0), .val (.int ((0:Int32) + (own_at (own_v223 x0 x1 x2 y0 y1) (own_at [x0, x1, x2] y0)))), .val (.int (1:Int32)), .val (.int (own_at [x0, x1, x2] y0)), .unset]) rfl ?_
    refine XS.goto X237.here hx rfl (pc0 := 105) (pc' := 71) rfl (D d4_105) (by decide) (by decide) ?_
    refine XS.iloadN X237.here hx rfl (D d4_71) rfl ?_
    exact XS.aloadN X237.here hx rfl (D d4_72) rfl rfl k
   have F242 := (F227.other W237 (Or.inl nq_a0_gs))
   refine own_getF X237 hx hZ hown (host := "") (Or.inl (own_h hw 33 rfl)) Via.refl e237 F242 rfl rfl (D d4_73) (fun T241 X241 e241 => ?_)
   refine own_pA T241 m 80 #[.val (.ref a0), .val (.int ((0:Int32) + (own_at (own_v223 x0 x1 x2 y0 y1) (own_at [x0, x1, x2] y0)))), .val (.int (1:Int32)), .val (.int (own_at [x0, x1, x2] y0)), .unset] [(.ref a0)] (fun t k => ?_) ?_
   ·refine XS.icmpNo X241.here hx rfl (D d4_76) rfl (XT.ii_ge_f (by decide)) ?_
    exact XS.aloadN X241.here hx rfl (D d4_79) rfl rfl k
   have F244 := (F229.other W237 (Or.inl nq_a0_gs))
   refine own_getF X241 hx hZ hown (host := "") (Or.inl (own_h hw 17 rfl)) Via.refl e241 F244 rfl rfl (D d4_80) (fun T243 X243 e243 => ?_)
   have F245 := (F230.other W237 nq_gl_gs)
   have hbn246 : own_In (1:Int32) [(own_at [x0, x1, x2] y0), (own_at [x0, x1, x2] y1), (0:Int32)].length := own_lit rfl
   refine own_pA T243 m 88 #[.val (.ref a0), .val (.int ((0:Int32) + (own_at (own_v223 x0 x1 x2 y0 y1) (own_at [x0, x1, x2] y0)))), .val (.int (1:Int32)), .val (.int (own_at [x0, x1, x2] y1)), .unset] [(.ref a0), (.int ((0:Int32) + (own_at (own_v223 x0 x1 x2 y0 y1) (own_at [x0, x1, x2] y0))))] (fun t k => ?_) ?_
   ·refine XS.iloadN X243.here hx rfl (D d4_83) rfl ?_
    refine own_iaload X243 hx hZ e243 F245 hbn246 rfl rfl (D d4_84) ?_
    refine XS.istoreN X243.here hx rfl (D d4_85) rfl (l' := #[.val (.ref a0), .val (.int ((0:Int32) + (own_at (own_v223 x0 x1 x2 y0 y1) (own_at [x0, x1, x2] y0)))), .val (.int (1:Int32)), .val (.int (own_at [x0, x1, x2] y1)), .unset]) rfl ?_
    refine XS.iloadN X243.here hx rfl (D d4_86) rfl ?_
    exact XS.aloadN X243.here hx rfl (D d4_87) rfl rfl k
   have F248 := (F233.other W237 (Or.inl nq_a0_gs))
   refine own_getF X243 hx hZ hown (host := "") (Or.inl (own_h hw 19 rfl)) Via.refl e243 F248 rfl rfl (D d4_88) (fun T247 X247 e247 => ?_)
   have hbn250 : own_In (own_at [x0, x1, x2] y1) (own_v240 x0 x1 x2 y0 y1).length := hl249 hs28_2
   refine own_pA T247 m 96 #[.val (.ref a0), .val (.int (((0:Int32) + (own_at (own_v223 x0 x1 x2 y0 y1) (own_at [x0, x1, x2] y0))) + (own_at (own_v240 x0 x1 x2 y0 y1) (own_at [x0, x1, x2] y1)))), .val (.int (1:Int32)), .val (.int (own_at [x0, x1, x2] y1)), .unset] [(.ref a0)] (fun t k => ?_) ?_
   ·refine XS.iloadN X247.here hx rfl (D d4_91) rfl ?_
    refine own_iaload X247 hx hZ e247 Vw237 hbn250 rfl rfl (D d4_92) ?_
    refine XS.iadd X247.here hx rfl (D d4_93) rfl ?_
    refine XS.istoreN X247.here hx rfl (D d4_94) rfl (l' := #[.val (.ref a0), .val (.int (((0:Int32) + (own_at (own_v223 x0 x1 x2 y0 y1) (own_at [x0, x1, x2] y0))) + (own_at (own_v240 x0 x1 x2 y0 y1) (own_at [x0, x1, x2] y1)))), .val (.int (1:Int32)), .val (.int (own_at [x0, x1, x2] y1)), .unset]) rfl ?_
    exact XS.aloadN X247.here hx rfl (D d4_95) rfl rfl k
   refine own_getF X247 hx hZ hown (host := "") (Or.inl (own_h hw 19 rfl)) Via.refl e247 F248 rfl rfl (D d4_96) (fun T251 X251 e251 => ?_)
   refine own_pA T251 m 101 #[.val (.ref a0), .val (.int (((0:Int32) + (own_at (own_v223 x0 x1 x2 y0 y1) (own_at [x0, x1, x2] y0))) + (own_at (own_v240 x0 x1 x2 y0 y1) (own_at [x0, x1, x2] y1)))), .val (.int (1:Int32)), .val (.int (own_at [x0, x1, x2] y1)), .unset] [(.int (((0:Int32) + (own_at (own_v223 x0 x1 x2 y0 y1) (own_at [x0, x1, x2] y0))) + (own_at (own_v240 x0 x1 x2 y0 y1) (own_at [x0, x1, x2] y1)))), (.int (own_at [x0, x1, x2] y1)), (.ref gs)] (fun t k => ?_) ?_
   ·refine XS.iloadN X251.here hx rfl (D d4_99) rfl ?_
    exact XS.iloadN X251.here hx rfl (D d4_100) rfl k
   have hbn253 : own_In (own_at [x0, x1, x2] y1) (own_v240 x0 x1 x2 y0 y1).length := hl249 hs28_2
   refine own_iastG X251 hx hZ e251 Vw237 hbn253 rfl rfl (D d4_101) (fun T252 h252 X252 e252 W252 V252 => ?_)
   have Kp252 : Keep h0 h252 [a0, gr, gl, gs] := Kp237.wr W252 (Or.inl (List.mem_of_getElem? (i := 3) rfl))
   have Z254 : n0 ≤ h252.size := Nat.le_trans Z239 (Nat.le_of_eq W252.size.symm)
   have N252 := Fr.snoc X252 N237 gq_gs
   have Vw252 : own_Ints Z h252 gs (own_v255 x0 x1 x2 y0 y1) := V252
   refine own_pA T252 m 73 #[.val (.ref a0), .val (.int (((0:Int32) + (own_at (own_v223 x0 x1 x2 y0 y1) (own_at [x0, x1, x2] y0))) + (own_at (own_v240 x0 x1 x2 y0 y1) (own_at [x0, x1, x2] y1)))), .val (.int (2:Int32)), .val (.int (own_at [x0, x1, x2] y1)), .unset] [(.ref a0), (.int (2:Int32))] (fun t k => ?_) ?_
   ·refine XS.iinc X252.here hx rfl (D d4_102) rfl (l' := #[.val (.ref a0), .val (.int (((0:Int32) + (own_at (own_v223 x0 x1 x2 y0 y1) (own_at [x0, x1, x2] y0))) + (own_at (own_v240 x0 x1 x2 y0 y1) (own_at [x0, x1, x2] y1)))), .val (.int (2:Int32)), .val (.int (own_at [x0, x1, x2] y1)), .unset]) rfl ?_
    refine XS.goto X252.here hx rfl (pc0 := 105) (pc' := 71) rfl (D d4_105) (by decide) (by decide) ?_
    refine XS.iloadN X252.here hx rfl (D d4_71) rfl ?_
    exact XS.aloadN X252.here hx rfl (D d4_72) rfl rfl k
   have F257 := (F242.other W252 (Or.inl nq_a0_gs))
   refine own_getF X252 hx hZ hown (host := "") (Or.inl (own_h hw 33 rfl)) Via.refl e252 F257 rfl rfl (D d4_73) (fun T256 X256 e256 => ?_)
   refine own_pA T256 m 109 #[.val (.ref a0), .val (.int (((0:Int32) + (own_at (own_v223 x0 x1 x2 y0 y1) (own_at [x0, x1, x2] y0))) + (own_at (own_v240 x0 x1 x2 y0 y1) (own_at [x0, x1, x2] y1)))), .val (.int (2:Int32)), .val (.int (own_at [x0, x1, x2] y1)), .unset] [(.ref a0)] (fun t k => ?_) ?_
   ·refine XS.icmpYes X256.here hx rfl (pc0 := 76) (pc' := 108) rfl (D d4_76) rfl (XT.ii_ge_t (by decide)) (by decide) (by decide) ?_
    exact XS.aloadN X256.here hx rfl (D d4_108) rfl rfl k
   have F259 := ((F225.other W237 (Or.inl nq_a0_gs)).other W252 (Or.inl nq_a0_gs))
   refine own_getF X256 hx hZ hown (host := "") (Or.inl (own_h hw 26 rfl)) Via.refl e256 F259 rfl rfl (D d4_109) (fun T258 X258 e258 => ?_)
   refine own_pA T258 m 120 #[.val (.ref a0), .val (.int (((0:Int32) + (own_at (own_v223 x0 x1 x2 y0 y1) (own_at [x0, x1, x2] y0))) + (own_at (own_v240 x0 x1 x2 y0 y1) (own_at [x0, x1, x2] y1)))), .val (.int (1:Int32)), .val (.int (own_at [x0, x1, x2] y1)), .unset] [(.ref a0)] (fun t k => ?_) ?_
   ·refine XS.iconst X258.here hx rfl (D d4_112) ?_
    refine XS.isub X258.here hx rfl (D d4_113) rfl ?_
    refine XS.istoreN X258.here hx rfl (D d4_114) rfl (l' := #[.val (.ref a0), .val (.int (((0:Int32) + (own_at (own_v223 x0 x1 x2 y0 y1) (own_at [x0, x1, x2] y0))) + (own_at (own_v240 x0 x1 x2 y0 y1) (own_at [x0, x1, x2] y1)))), .val (.int (1:Int32)), .val (.int (own_at [x0, x1, x2] y1)), .unset]) rfl ?_
    refine XS.iloadN X258.here hx rfl (D d4_115) rfl ?_
    refine XS.ifNo X258.here hx rfl (D d4_116) rfl (XT.i0_lt_f (by decide)) ?_
    exact XS.aloadN X258.here hx rfl (D d4_119) rfl rfl k
   have F261 := (((((F192.other W206 (Or.inl nq_a0_gl)).other W212 (Or.inr (slot_ne (Or.inr (own_h hw 14 rfl)) (Or.inl (own_h hw 34 rfl)) (by decide) (t := (.array .int)) (t' := .int) (by decide) (by decide)))).other W220 (Or.inl nq_a0_gs)).other W237 (Or.inl nq_a0_gs)).other W252 (Or.inl nq_a0_gs))
   refine own_getF X258 hx hZ hown (host := "") (Or.inl (own_h hw 13 rfl)) Via.refl e258 F261 rfl rfl (D d4_120) (fun T260 X260 e260 => ?_)
   have F262 := (((((F193.other W206 nq_mv_gl).other W212 (Ne.symm nq_a0_mv)).other W220 nq_mv_gs).other W237 nq_mv_gs).other W252 nq_mv_gs)
   have hbn263 : own_In (1:Int32) [y0, y1, y2].length := own_lit rfl
   refine own_pA T260 m 127 #[.val (.ref a0), .val (.int (((0:Int32) + (own_at (own_v223 x0 x1 x2 y0 y1) (own_at [x0, x1, x2] y0))) + (own_at (own_v240 x0 x1 x2 y0 y1) (own_at [x0, x1, x2] y1)))), .val (.int (1:Int32)), .val (.int y1), .unset] [(.ref a0)] (fun t k => ?_) ?_
   ·refine XS.iloadN X260.here hx rfl (D d4_123) rfl ?_
    refine own_iaload X260 hx hZ e260 F262 hbn263 rfl rfl (D d4_124) ?_
    refine XS.istoreN X260.here hx rfl (D d4_125) rfl (l' := #[.val (.ref a0), .val (.int (((0:Int32) + (own_at (own_v223 x0 x1 x2 y0 y1) (own_at [x0, x1, x2] y0))) + (own_at (own_v240 x0 x1 x2 y0 y1) (own_at [x0, x1, x2] y1)))), .val (.int (1:Int32)), .val (.int y1), .unset]) rfl ?_
    exact XS.aloadN X260.here hx rfl (D d4_126) rfl rfl k
   have F265 := (((((F190.other W206 (Or.inl nq_a0_gl)).other W212 (Or.inr (slot_ne (Or.inr (own_h hw 12 rfl)) (Or.inl (own_h hw 34 rfl)) (by decide) (t := (.array .int)) (t' := .int) (by decide) (by decide)))).other W220 (Or.inl nq_a0_gs)).other W237 (Or.inl nq_a0_gs)).other W252 (Or.inl nq_a0_gs))
   refine own_getF X260 hx hZ hown (host := "") (Or.inl (own_h hw 11 rfl)) Via.refl e260 F265 rfl rfl (D d4_127) (fun T264 X264 e264 => ?_)
   have F266 := (((((F195.other W206 nq_la_gl).other W212 (Ne.symm nq_a0_la)).other W220 nq_la_gs).other W237 nq_la_gs).other W252 nq_la_gs)
   have hbn268 : own_In y1 [x0, x1, x2].length := hl267 hs28_2
   refine own_pA T264 m 135 #[.val (.ref a0), .val (.int (((0:Int32) + (own_at (own_v223 x0 x1 x2 y0 y1) (own_at [x0, x1, x2] y0))) + (own_at (own_v240 x0 x1 x2 y0 y1) (own_at [x0, x1, x2] y1)))), .val (.int (1:Int32)), .val (.int y1), .val (.int (own_at [x0, x1, x2] y1))] [(.ref a0)] (fun t k => ?_) ?_
   ·refine XS.iloadN X264.here hx rfl (D d4_130) rfl ?_
    refine own_iaload X264 hx hZ e264 F266 hbn268 rfl rfl (D d4_131) ?_
    refine XS.istore X264.here hx rfl (D d4_132) rfl (l' := #[.val (.ref a0), .val (.int (((0:Int32) + (own_at (own_v223 x0 x1 x2 y0 y1) (own_at [x0, x1, x2] y0))) + (own_at (own_v240 x0 x1 x2 y0 y1) (own_at [x0, x1, x2] y1)))), .val (.int (1:Int32)), .val (.int y1), .val (.int (own_at [x0, x1, x2] y1))]) rfl ?_
    exact XS.aloadN X264.here hx rfl (D d4_134) rfl rfl k
   have F270 := (F248.other W252 (Or.inl nq_a0_gs))
   refine own_getF X264 hx hZ hown (host := "") (Or.inl (own_h hw 19 rfl)) Via.refl e264 F270 rfl rfl (D d4_135) (fun T269 X269 e269 => ?_)
   have hbn272 : own_In (own_at [x0, x1, x2] y1) (own_v255 x0 x1 x2 y0 y1).length := hl271 hs28_2
   refine own_pA T269 m 144 #[.val (.ref a0), .val (.int (((0:Int32) + (own_at (own_v223 x0 x1 x2 y0 y1) (own_at [x0, x1, x2] y0))) + (own_at (own_v240 x0 x1 x2 y0 y1) (own_at [x0, x1, x2] y1)))), .val (.int (1:Int32)), .val (.int y1), .val (.int (own_at [x0, x1, x2] y1))] [(.int ((own_at (own_v255 x0 x1 x2 y0 y1) (own_at [x0, x1, x2] y1)) - (1:Int32))), (.int (own_at [x0, x1, x2] y1)), (.ref gs)] (fun t k => ?_) ?_
   ·refine XS.iload X269.here hx rfl (D d4_138) rfl ?_
    refine XT.dup2 X269.here hx rfl (D d4_140) rfl rfl rfl ?_
    refine own_iaload X269 hx hZ e269 Vw252 hbn272 rfl rfl (D d4_141) ?_
    refine XS.iconst X269.here hx rfl (D d4_142) ?_
    exact XS.isub X269.here hx rfl (D d4_143) rfl k
   have hbn274 : own_In (own_at [x0, x1, x2] y1) (own_v255 x0 x1 x2 y0 y1).length := hl271 hs28_2
   refine own_iastG X269 hx hZ e269 Vw252 hbn274 rfl rfl (D d4_144) (fun T273 h273 X273 e273 W273 V273 => ?_)
   have Kp273 : Keep h0 h273 [a0, gr, gl, gs] := Kp252.wr W273 (Or.inl (List.mem_of_getElem? (i := 3) rfl))
   have Z275 : n0 ≤ h273.size := Nat.le_trans Z254 (Nat.le_of_eq W273.size.symm)
   have N273 := Fr.snoc X273 N252 gq_gs
   have Vw273 : own_Ints Z h273 gs (own_v276 x0 x1 x2 y0 y1) := V273
   refine own_pA T273 m 146 #[.val (.ref a0), .val (.int (((0:Int32) + (own_at (own_v223 x0 x1 x2 y0 y1) (own_at [x0, x1, x2] y0))) + (own_at (own_v240 x0 x1 x2 y0 y1) (own_at [x0, x1, x2] y1)))), .val (.int (1:Int32)), .val (.int y1), .val (.int (own_at [x0, x1, x2] y1))] [(.ref a0)] (fun t k => ?_) ?_
   ·exact XS.aloadN X273.here hx rfl (D d4_145) rfl rfl k
   have F278 := (((((((((P3.other W172 (Or.inl nq_a0_gl)).other W177 (Or.inr (slot_ne (Or.inr (own_h hw 16 rfl)) (Or.inl (own_h hw 34 rfl)) (by decide) (t := (.array .int)) (t' := .int) (by decide) (by decide)))).other W184 (Or.inl nq_a0_gs)).other W206 (Or.inl nq_a0_gl)).other W212 (Or.inr (slot_ne (Or.inr (own_h hw 16 rfl)) (Or.inl (own_h hw 34 rfl)) (by decide) (t := (.array .int)) (t' := .int) (by decide) (by decide)))).other W220 (Or.inl nq_a0_gs)).other W237 (Or.inl nq_a0_gs)).other W252 (Or.inl nq_a0_gs)).other W273 (Or.inl nq_a0_gs))
   refine own_getF X273 hx hZ hown (host := "") (Or.inl (own_h hw 15 rfl)) Via.refl e273 F278 rfl rfl (D d4_146) (fun T277 X277 e277 => ?_)
   refine own_pA T277 m 150 #[.val (.ref a0), .val (.int (((0:Int32) + (own_at (own_v223 x0 x1 x2 y0 y1) (own_at [x0, x1, x2] y0))) + (own_at (own_v240 x0 x1 x2 y0 y1) (own_at [x0, x1, x2] y1)))), .val (.int (1:Int32)), .val (.int y1), .val (.int (own_at [x0, x1, x2] y1))] [(.ref a0), (.ref gr)] (fun t k => ?_) ?_
   ·exact XS.aloadN X277.here hx rfl (D d4_149) rfl rfl k
   have F280 := (F270.other W273 (Or.inl nq_a0_gs))
   refine own_getF X277 hx hZ hown (host := "") (Or.inl (own_h hw 19 rfl)) Via.refl e277 F280 rfl rfl (D d4_150) (fun T279 X279 e279 => ?_)
   have hbn282 : own_In (own_at [x0, x1, x2] y1) (own_v276 x0 x1 x2 y0 y1).length := hl281 hs28_2
   refine own_pA T279 m 157 #[.val (.ref a0), .val (.int (((0:Int32) + (own_at (own_v223 x0 x1 x2 y0 y1) (own_at [x0, x1, x2] y0))) + (own_at (own_v240 x0 x1 x2 y0 y1) (own_at [x0, x1, x2] y1)))), .val (.int (1:Int32)), .val (.int y1), .val (.int (own_at [x0, x1, x2] y1))] [(.int y1), (.int (own_at (own_v276 x0 x1 x2 y0 y1) (own_at [x0, x1, x2] y1))), (.ref gr)] (fun t k => ?_) ?_
   ·refine XS.iload X279.here hx rfl (D d4_153) rfl ?_
    refine own_iaload X279 hx hZ e279 Vw273 hbn282 rfl rfl (D d4_155) ?_
    exact XS.iloadN X279.here hx rfl (D d4_156) rfl k
   have F284 := (((((((((P10.other W172 nq_gr_gl).other W177 (Ne.symm nq_a0_gr)).other W184 nq_gr_gs).other W206 nq_gr_gl).other W212 (Ne.symm nq_a0_gr)).other W220 nq_gr_gs).other W237 nq_gr_gs).other W252 nq_gr_gs).other W273 nq_gr_gs)
   have hbn286 : own_In (own_at (own_v276 x0 x1 x2 y0 y1) (own_at [x0, x1, x2] y1)) [(0:Int32), (0:Int32), (0:Int32)].length := hl285 hs28_2
   refine own_iastG X279 hx hZ e279 F284 hbn286 rfl rfl (D d4_157) (fun T283 h283 X283 e283 W283 V283 => ?_)
   have Kp283 : Keep h0 h283 [a0, gr, gl, gs] := Kp273.wr W283 (Or.inl (List.mem_of_getElem? (i := 1) rfl))
   have Z287 : n0 ≤ h283.size := Nat.le_trans Z275 (Nat.le_of_eq W283.size.symm)
   have N283 := Fr.snoc X283 N273 gq_gr
   have Vw283 : own_Ints Z h283 gr (own_v288 x0 x1 x2 y0 y1) := V283
   refine own_pA T283 m 120 #[.val (.ref a0), .val (.int (((0:Int32) + (own_at (own_v223 x0 x1 x2 y0 y1) (own_at [x0, x1, x2] y0))) + (own_at (own_v240 x0 x1 x2 y0 y1) (own_at [x0, x1, x2] y1)))), .val (.int (0:Int32)), .val (.int y1), .val (.int (own_at [x0, x1, x2] y1))] [(.ref a0)] (fun t k => ?_) ?_
   ·refine XS.iinc X283.here hx rfl (D d4_158) rfl (l' := #[.val (.ref a0), .val (.int (((0:Int32) + (own_at (own_v223 x0 x1 x2 y0 y1) (own_at [x0, x1, x2] y0))) + (own_at (own_v240 x0 x1 x2 y0 y1) (own_at [x0, x1, x2] y1)))), .val (.int (0:Int32)), .val (.int y1), .val (.int (own_at [x0, x1, x2] y1))]) rfl ?_
    refine XS.goto X283.here hx rfl (pc0 := 161) (pc' := 115) rfl (D d4_161) (by decide) (by decide) ?_
    refine XS.iloadN X283.here hx rfl (D d4_115) rfl ?_
    refine XS.ifNo X283.here hx rfl (D d4_116) rfl (XT.i0_lt_f (by decide)) ?_
    exact XS.aloadN X283.here hx rfl (D d4_119) rfl rfl k
   have F290 := ((F261.other W273 (Or.inl nq_a0_gs)).other W283 (Or.inl nq_a0_gr))
   refine own_getF X283 hx hZ hown (host := "") (Or.inl (own_h hw 13 rfl)) Via.refl e283 F290 rfl rfl (D d4_120) (fun T289 X289 e289 => ?_)
   have F291 := ((F262.other W273 nq_mv_gs).other W283 nq_mv_gr)
   have hbn292 : own_In (0:Int32) [y0, y1, y2].length := own_lit rfl
   refine own_pA T289 m 127 #[.val (.ref a0), .val (.int (((0:Int32) + (own_at (own_v223 x0 x1 x2 y0 y1) (own_at [x0, x1, x2] y0))) + (own_at (own_v240 x0 x1 x2 y0 y1) (own_at [x0, x1, x2] y1)))), .val (.int (0:Int32)), .val (.int y0), .val (.int (own_at [x0, x1, x2] y1))] [(.ref a0)] (fun t k => ?_) ?_
   ·refine XS.iloadN X289.here hx rfl (D d4_123) rfl ?_
    refine own_iaload X289 hx hZ e289 F291 hbn292 rfl rfl (D d4_124) ?_
    refine XS.istoreN X289.here hx rfl (D d4_125) rfl (l' := #[.val (.ref a0), .val (.int (((0:Int32) + (own_at (own_v223 x0 x1 x2 y0 y1) (own_at [x0, x1, x2] y0))) + (own_at (own_v240 x0 x1 x2 y0 y1) (own_at [x0, x1, x2] y1)))), .val (.int (0:Int32)), .val (.int y0), .val (.int (own_at [x0, x1, x2] y1))]) rfl ?_
    exact XS.aloadN X289.here hx rfl (D d4_126) rfl rfl k
   have F294 := ((F265.other W273 (Or.inl nq_a0_gs)).other W283 (Or.inl nq_a0_gr))
   refine own_getF X289 hx hZ hown (host := "") (Or.inl (own_h hw 11 rfl)) Via.refl e289 F294 rfl rfl (D d4_127) (fun T293 X293 e293 => ?_)
   have F295 := ((F266.other W273 nq_la_gs).other W283 nq_la_gr)
   have hbn297 : own_In y0 [x0, x1, x2].length := hl296 hs28_2
   refine own_pA T293 m 135 #[.val (.ref a0), .val (.int (((0:Int32) + (own_at (own_v223 x0 x1 x2 y0 y1) (own_at [x0, x1, x2] y0))) + (own_at (own_v240 x0 x1 x2 y0 y1) (own_at [x0, x1, x2] y1)))), .val (.int (0:Int32)), .val (.int y0), .val (.int (own_at [x0, x1, x2] y0))] [(.ref a0)] (fun t k => ?_) ?_
   ·refine XS.iloadN X293.here hx rfl (D d4_130) rfl ?_
    refine own_iaload X293 hx hZ e293 F295 hbn297 rfl rfl (D d4_131) ?_
    refine XS.istore X293.here hx rfl (D d4_132) rfl (l' := #[.val (.ref a0), .val (.int (((0:Int32) + (own_at (own_v223 x0 x1 x2 y0 y1) (own_at [x0, x1, x2] y0))) + (own_at (own_v240 x0 x1 x2 y0 y1) (own_at [x0, x1, x2] y1)))), .val (.int (0:Int32)), .val (.int y0), .val (.int (own_at [x0, x1, x2] y0))]) rfl ?_
    exact XS.aloadN X293.here hx rfl (D d4_134) rfl rfl k
   have F299 := (F280.other W283 (Or.inl nq_a0_gr))
   refine own_getF X293 hx hZ hown (host := "") (Or.inl (own_h hw 19 rfl)) Via.refl e293 F299 rfl rfl (D d4_135) (fun T298 X298 e298 => ?_)
   have F300 := (Vw273.other W283 (Ne.symm nq_gr_gs))
   have hbn302 : own_In (own_at [x0, x1, x2] y0) (own_v276 x0 x1 x2 y0 y1).length := hl301 hs28_2
   refine own_pA T298 m 144 #[.val (.ref a0), .val (.int (((0:Int32) + (own_at (own_v223 x0 x1 x2 y0 y1) (own_at [x0, x1, x2] y0))) + (own_at (own_v240 x0 x1 x2 y0 y1) (own_at [x0, x1, x2] y1)))), .val (.int (0:Int32)), .val (.int y0), .val (.int (own_at [x0, x1, x2] y0))] [(.int ((own_at (own_v276 x0 x1 x2 y0 y1) (own_at [x0, x1, x2] y0)) - (1:Int32))), (.int (own_at [x0, x1, x2] y0)), (.ref gs)] (fun t k => ?_) ?_
   ·refine XS.iload X298.here hx rfl (D d4_138) rfl ?_
    refine XT.dup2 X298.here hx rfl (D d4_140) rfl rfl rfl ?_
    refine own_iaload X298 hx hZ e298 F300 hbn302 rfl rfl (D d4_141) ?_
    refine XS.iconst X298.here hx rfl (D d4_142) ?_
    exact XS.isub X298.here hx rfl (D d4_143) rfl k
   have hbn304 : own_In (own_at [x0, x1, x2] y0) (own_v276 x0 x1 x2 y0 y1).length := hl301 hs28_2
   refine own_iastG X298 hx hZ e298 F300 hbn304 rfl rfl (D d4_144) (fun T303 h303 X303 e303 W303 V303 => ?_)
   have Kp303 : Keep h0 h303 [a0, gr, gl, gs] := Kp283.wr W303 (Or.inl (List.mem_of_getElem? (i := 3) rfl))
   have Z305 : n0 ≤ h303.size := Nat.le_trans Z287 (Nat.le_of_eq W303.size.symm)
   have N303 := Fr.snoc X303 N283 gq_gs
   have Vw303 : own_Ints Z h303 gs (own_v306 x0 x1 x2 y0 y1) := V303
   refine own_pA T303 m 146 #[.val (.ref a0), .val (.int (((0:Int32) + (own_at (own_v223 x0 x1 x2 y0 y1) (own_at [x0, x1, x2] y0))) + (own_at (own_v240 x0 x1 x2 y0 y1) (own_at [x0, x1, x2] y1)))), .val (.int (0:Int32)), .val (.int y0), .val (.int (own_at [x0, x1, x2] y0))] [(.ref a0)] (fun t k => ?_) ?_
   ·exact XS.aloadN X303.here hx rfl (D d4_145) rfl rfl k
   have F308 := ((F278.other W283 (Or.inl nq_a0_gr)).other W303 (Or.inl nq_a0_gs))
   refine own_getF X303 hx hZ hown (host := "") (Or.inl (own_h hw 15 rfl)) Via.refl e303 F308 rfl rfl (D d4_146) (fun T307 X307 e307 => ?_)
   refine own_pA T307 m 150 #[.val (.ref a0), .val (.int (((0:Int32) + (own_at (own_v223 x0 x1 x2 y0 y1) (own_at [x0, x1, x2] y0))) + (own_at (own_v240 x0 x1 x2 y0 y1) (own_at [x0, x1, x2] y1)))), .val (.int (0:Int32)), .val (.int y0), .val (.int (own_at [x0, x1, x2] y0))] [(.ref a0), (.ref gr)] (fun t k => ?_) ?_
   ·exact XS.aloadN X307.here hx rfl (D d4_149) rfl rfl k
   have F310 := (F299.other W303 (Or.inl nq_a0_gs))
   refine own_getF X307 hx hZ hown (host := "") (Or.inl (own_h hw 19 rfl)) Via.refl e307 F310 rfl rfl (D d4_150) (fun T309 X309 e309 => ?_)
   have hbn312 : own_In (own_at [x0, x1, x2] y0) (own_v306 x0 x1 x2 y0 y1).length := hl311 hs28_2
   refine own_pA T309 m 157 #[.val (.ref a0), .val (.int (((0:Int32) + (own_at (own_v223 x0 x1 x2 y0 y1) (own_at [x0, x1, x2] y0))) + (own_at (own_v240 x0 x1 x2 y0 y1) (own_at [x0, x1, x2] y1)))), .val (.int (0:Int32)), .val (.int y0), .val (.int (own_at [x0, x1, x2] y0))] [(.int y0), (.int (own_at (own_v306 x0 x1 x2 y0 y1) (own_at [x0, x1, x2] y0))), (.ref gr)] (fun t k => ?_) ?_
   ·refine XS.iload X309.here hx rfl (D d4_153) rfl ?_
    refine own_iaload X309 hx hZ e309 Vw303 hbn312 rfl rfl (D d4_155) ?_
    exact XS.iloadN X309.here hx rfl (D d4_156) rfl k
   have F314 := (Vw283.other W303 nq_gr_gs)
   have hbn316 : own_In (own_at (own_v306 x0 x1 x2 y0 y1) (own_at [x0, x1, x2] y0)) (own_v288 x0 x1 x2 y0 y1).length := hl315 hs28_2
   refine own_iastG X309 hx hZ e309 F314 hbn316 rfl rfl (D d4_157) (fun T313 h313 X313 e313 W313 V313 => ?_)
   have Kp313 : Keep h0 h313 [a0, gr, gl, gs] := Kp303.wr W313 (Or.inl (List.mem_of_getElem? (i := 1) rfl))
   have Z317 : n0 ≤ h313.size := Nat.le_trans Z305 (Nat.le_of_eq W313.size.symm)
   have N313 := Fr.snoc X313 N303 gq_gr
   have Vw313 : own_Ints Z h313 gr (own_v318 x0 x1 x2 y0 y1) := V313
   refine own_pA T313 m 165 #[.val (.ref a0), .val (.int (((0:Int32) + (own_at (own_v223 x0 x1 x2 y0 y1) (own_at [x0, x1, x2] y0))) + (own_at (own_v240 x0 x1 x2 y0 y1) (own_at [x0, x1, x2] y1)))), .val (.int (-1:Int32)), .val (.int y0), .val (.int (own_at [x0, x1, x2] y0))] [(.ref a0)] (fun t k => ?_) ?_
   ·refine XS.iinc X313.here hx rfl (D d4_158) rfl (l' := #[.val (.ref a0), .val (.int (((0:Int32) + (own_at (own_v223 x0 x1 x2 y0 y1) (own_at [x0, x1, x2] y0))) + (own_at (own_v240 x0 x1 x2 y0 y1) (own_at [x0, x1, x2] y1)))), .val (.int (-1:Int32)), .val (.int y0), .val (.int (own_at [x0, x1, x2] y0))]) rfl ?_
    refine XS.goto X313.here hx rfl (pc0 := 161) (pc' := 115) rfl (D d4_161) (by decide) (by decide) ?_
    refine XS.iloadN X313.here hx rfl (D d4_115) rfl ?_
    refine XS.ifYes X313.here hx rfl (pc0 := 116) (pc' := 164) rfl (D d4_116) rfl (XT.i0_lt_t (by decide)) (by decide) (by decide) ?_
    exact XS.aloadN X313.here hx rfl (D d4_164) rfl rfl k
   have F320 := ((((F257.other W273 (Or.inl nq_a0_gs)).other W283 (Or.inl nq_a0_gr)).other W303 (Or.inl nq_a0_gs)).other W313 (Or.inl nq_a0_gr))
   refine own_getF X313 hx hZ hown (host := "") (Or.inl (own_h hw 33 rfl)) Via.refl e313 F320 rfl rfl (D d4_165) (fun T319 X319 e319 => ?_)
   have hv321 : (2:Int32) = f4m2 x0 x1 x2 y0 y1 y2 := by simp only [f4m2, if_pos hs28_2]
   have F322 := ((F294.other W303 (Or.inl nq_a0_gs)).other W313 (Or.inl nq_a0_gr))
   have F323 := ((F290.other W303 (Or.inl nq_a0_gs)).other W313 (Or.inl nq_a0_gr))
   have F324 := (F308.other W313 (Or.inl nq_a0_gr))
   have F325 := (((((F244.other W252 (Or.inl nq_a0_gs)).other W273 (Or.inl nq_a0_gs)).other W283 (Or.inl nq_a0_gr)).other W303 (Or.inl nq_a0_gs)).other W313 (Or.inl nq_a0_gr))
   have F326 := (F310.other W313 (Or.inl nq_a0_gr))
   have F327 := ((((F259.other W273 (Or.inl nq_a0_gs)).other W283 (Or.inl nq_a0_gr)).other W303 (Or.inl nq_a0_gs)).other W313 (Or.inl nq_a0_gr))
   have F328 := (((((F245.other W252 nq_gl_gs).other W273 nq_gl_gs).other W283 (Ne.symm nq_gr_gl)).other W303 nq_gl_gs).other W313 (Ne.symm nq_gr_gl))
   have F329 := (Vw303.other W313 (Ne.symm nq_gr_gs))
   exact own_end X319 (BodyLoose.notSynchronized Bd) (fun h => by rw [Bd.returns] at h; cases h) (v := some (.int (2:Int32))) (fun fs hr => retOut X319 hx Bd.returns rfl (by simp [Value.isRef, FieldType.isReference]) (D d4_168) hr) (by show Q4m2 Z a0 la mv gr gl gs x0 x1 x2 y0 y1 y2 h0 n0 _ T319.heap _; rw [e319]; exact ⟨(congrArg (fun z => some (Value.int z)) hv321), N313, Kp313, (by first | exact F322 | (simp only [if_pos hs28_2]; exact F322)), (by first | exact F323 | (simp only [if_pos hs28_2]; exact F323)), (by first | exact F324 | (simp only [if_pos hs28_2]; exact F324)), (by first | exact F325 | (simp only [if_pos hs28_2]; exact F325)), (by first | exact F326 | (simp only [if_pos hs28_2]; exact F326)), (by first | exact F327 | (simp only [if_pos hs28_2]; exact F327)), (by simp only [g4m2_gc, if_pos hs28_2]; exact F320), (by simp only [g4m2_gr, if_pos hs28_2]; exact Vw313), (by simp only [g4m2_gl, if_pos hs28_2]; exact F328), (by simp only [g4m2_gs, if_pos hs28_2]; exact F329)⟩) (by decide) (by decide)
  ·refine own_pA T198 m 52 #[.val (.ref a0), .val (.int (1:Int32)), .val (.int (own_at [x0, x1, x2] y1)), .unset, .unset] [(.ref a0)] (fun t k => ?_) ?_
   ·refine XS.ifYes X198.here hx rfl (pc0 := 28) (pc' := 51) rfl (D d4_28) rfl (XT.i0_ne_t hs28_2) (by decide) (by decide) ?_
    exact XS.aloadN X198.here hx rfl (D d4_51) rfl rfl k
   refine own_getF X198 hx hZ hown (host := "") (Or.inl (own_h hw 19 rfl)) Via.refl e198 F199 rfl rfl (D d4_52) (fun T330 X330 e330 => ?_)
   have hbn332 : own_In (own_at [x0, x1, x2] y1) (own_v100 x0 x1 x2 y0).length := hl331 hs28_2
   refine own_pA T330 m 60 #[.val (.ref a0), .val (.int (1:Int32)), .val (.int (own_at [x0, x1, x2] y1)), .unset, .unset] [(.int ((own_at (own_v100 x0 x1 x2 y0) (own_at [x0, x1, x2] y1)) + (1:Int32))), (.int (own_at [x0, x1, x2] y1)), (.ref gs)] (fun t k => ?_) ?_
   ·refine XS.iloadN X330.here hx rfl (D d4_55) rfl ?_
    refine XT.dup2 X330.here hx rfl (D d4_56) rfl rfl rfl ?_
    refine own_iaload X330 hx hZ e330 Vw184 hbn332 rfl rfl (D d4_57) ?_
    refine XS.iconst X330.here hx rfl (D d4_58) ?_
    exact XS.iadd X330.here hx rfl (D d4_59) rfl k
   have hbn334 : own_In (own_at [x0, x1, x2] y1) (own_v100 x0 x1 x2 y0).length := hl331 hs28_2
   refine own_iastG X330 hx hZ e330 Vw184 hbn334 rfl rfl (D d4_60) (fun T333 h333 X333 e333 W333 V333 => ?_)
   have Kp333 : Keep h0 h333 [a0, gr, gl, gs] := Kp184.wr W333 (Or.inl (List.mem_of_getElem? (i := 3) rfl))
   have Z335 : n0 ≤ h333.size := Nat.le_trans Z186 (Nat.le_of_eq W333.size.symm)
   have N333 := Fr.snoc X333 N184 gq_gs
   have Vw333 : own_Ints Z h333 gs (own_v223 x0 x1 x2 y0 y1) := V333
   refine own_pA T333 m 4 #[.val (.ref a0), .val (.int (2:Int32)), .val (.int (own_at [x0, x1, x2] y1)), .unset, .unset] [(.ref a0), (.int (2:Int32))] (fun t k => ?_) ?_
   ·refine XS.iinc X333.here hx rfl (D d4_61) rfl (l' := #[.val (.ref a0), .val (.int (2:Int32)), .val (.int (own_at [x0, x1, x2] y1)), .unset, .unset]) rfl ?_
    refine XS.goto X333.here hx rfl (pc0 := 64) (pc' := 2) rfl (D d4_64) (by decide) (by decide) ?_
    refine XS.iloadN X333.here hx rfl (D d4_2) rfl ?_
    exact XS.aloadN X333.here hx rfl (D d4_3) rfl rfl k
   have F337 := (F188.other W333 (Or.inl nq_a0_gs))
   refine own_getF X333 hx hZ hown (host := "") (Or.inl (own_h hw 26 rfl)) Via.refl e333 F337 rfl rfl (D d4_4) (fun T336 X336 e336 => ?_)
   refine own_pA T336 m 73 #[rv a0, iv (0:Int32), iv (0:Int32), .unset, .unset] [(.ref a0), (.int (0:Int32))] (fun t k => ?_) ?_
   ·refine XS.icmpYes X336.here hx rfl (pc0 := 7) (pc' := 67) rfl (D d4_7) rfl (XT.ii_ge_t (by decide)) (by decide) (by decide) ?_
    refine XS.iconst X336.here hx rfl (D d4_67) ?_
    refine XS.istoreN X336.here hx rfl (D d4_68) rfl (l' := #[.val (.ref a0), .val (.int (0:Int32)), .val (.int (own_at [x0, x1, x2] y1)), .unset, .unset]) rfl ?_
    refine XS.iconst X336.here hx rfl (D d4_69) ?_
    refine XS.istoreN X336.here hx rfl (D d4_70) rfl (l' := #[rv a0, iv (0:Int32), iv (0:Int32), .unset, .unset]) rfl ?_
    refine XS.iloadN X336.here hx rfl (D d4_71) rfl ?_
    exact XS.aloadN X336.here hx rfl (D d4_72) rfl rfl k
   have F339 := ((Fw177.other W184 (Or.inl nq_a0_gs)).other W333 (Or.inl nq_a0_gs))
   refine own_getF X336 hx hZ hown (host := "") (Or.inl (own_h hw 33 rfl)) Via.refl e336 F339 rfl rfl (D d4_73) (fun T338 X338 e338 => ?_)
   refine own_pA T338 m 80 #[rv a0, iv (0:Int32), iv (0:Int32), .unset, .unset] [(.ref a0)] (fun t k => ?_) ?_
   ·refine XS.icmpNo X338.here hx rfl (D d4_76) rfl (XT.ii_ge_f (by decide)) ?_
    exact XS.aloadN X338.here hx rfl (D d4_79) rfl rfl k
   have F341 := ((((P4.other W172 (Or.inl nq_a0_gl)).other W177 (Or.inr (slot_ne (Or.inr (own_h hw 18 rfl)) (Or.inl (own_h hw 34 rfl)) (by decide) (t := (.array .int)) (t' := .int) (by decide) (by decide)))).other W184 (Or.inl nq_a0_gs)).other W333 (Or.inl nq_a0_gs))
   refine own_getF X338 hx hZ hown (host := "") (Or.inl (own_h hw 17 rfl)) Via.refl e338 F341 rfl rfl (D d4_80) (fun T340 X340 e340 => ?_)
   have F342 := (((Vw172.other W177 (Ne.symm nq_a0_gl)).other W184 nq_gl_gs).other W333 nq_gl_gs)
   have hbn343 : own_In (0:Int32) [(own_at [x0, x1, x2] y0), (0:Int32), (0:Int32)].length := own_lit rfl
   refine own_pA T340 m 88 #[.val (.ref a0), .val (.int (0:Int32)), .val (.int (0:Int32)), .val (.int (own_at [x0, x1, x2] y0)), .unset] [(.ref a0), (.int (0:Int32))] (fun t k => ?_) ?_
   ·refine XS.iloadN X340.here hx rfl (D d4_83) rfl ?_
    refine own_iaload X340 hx hZ e340 F342 hbn343 rfl rfl (D d4_84) ?_
    refine XS.istoreN X340.here hx rfl (D d4_85) rfl (l' := #[.val (.ref a0), .val (.int (0:Int32)), .val (.int (0:Int32)), .val (.int (own_at [x0, x1, x2] y0)), .unset]) rfl ?_
    refine XS.iloadN X340.here hx rfl (D d4_86) rfl ?_
    exact XS.aloadN X340.here hx rfl (D d4_87) rfl rfl k
   have F345 := (F199.other W333 (Or.inl nq_a0_gs))
   refine own_getF X340 hx hZ hown (host := "") (Or.inl (own_h hw 19 rfl)) Via.refl e340 F345 rfl rfl (D d4_88) (fun T344 X344 e344 => ?_)
   have hbn347 : own_In (own_at [x0, x1, x2] y0) (own_v223 x0 x1 x2 y0 y1).length := hl346 hs28_2
   refine own_pA T344 m 96 #[.val (.ref a0), .val (.int ((0:Int32) + (own_at (own_v223 x0 x1 x2 y0 y1) (own_at [x0, x1, x2] y0)))), .val (.int (0:Int32)), .val (.int (own_at [x0, x1, x2] y0)), .unset] [(.ref a0)] (fun t k => ?_) ?_
   ·refine XS.iloadN X344.here hx rfl (D d4_91) rfl ?_
    refine own_iaload X344 hx hZ e344 Vw333 hbn347 rfl rfl (D d4_92) ?_
    refine XS.iadd X344.here hx rfl (D d4_93) rfl ?_
    refine XS.istoreN X344.here hx rfl (D d4_94) rfl (l' := #[.val (.ref a0), .val (.int ((0:Int32) + (own_at (own_v223 x0 x1 x2 y0 y1) (own_at [x0, x1, x2] y0)))), .val (.int (0:Int32)), .val (.int (own_at [x0, x1, x2] y0)), .unset]) rfl ?_
    exact XS.aloadN X344.here hx rfl (D d4_95) rfl rfl k
   refine own_getF X344 hx hZ hown (host := "") (Or.inl (own_h hw 19 rfl)) Via.refl e344 F345 rfl rfl (D d4_96) (fun T348 X348 e348 => ?_)
   refine own_pA T348 m 101 #[.val (.ref a0), .val (.int ((0:Int32) + (own_at (own_v223 x0 x1 x2 y0 y1) (own_at [x0, x1, x2] y0)))), .val (.int (0:Int32)), .val (.int (own_at [x0, x1, x2] y0)), .unset] [(.int ((0:Int32) + (own_at (own_v223 x0 x1 x2 y0 y1) (own_at [x0, x1, x2] y0)))), (.int (own_at [x0, x1, x2] y0)), (.ref gs)] (fun t k => ?_) ?_
   ·refine XS.iloadN X348.here hx rfl (D d4_99) rfl ?_
    exact XS.iloadN X348.here hx rfl (D d4_100) rfl k
   have hbn350 : own_In (own_at [x0, x1, x2] y0) (own_v223 x0 x1 x2 y0 y1).length := hl346 hs28_2
   refine own_iastG X348 hx hZ e348 Vw333 hbn350 rfl rfl (D d4_101) (fun T349 h349 X349 e349 W349 V349 => ?_)
   have Kp349 : Keep h0 h349 [a0, gr, gl, gs] := Kp333.wr W349 (Or.inl (List.mem_of_getElem? (i := 3) rfl))
   have Z351 : n0 ≤ h349.size := Nat.le_trans Z335 (Nat.le_of_eq W349.size.symm)
   have N349 := Fr.snoc X349 N333 gq_gs
   have Vw349 : own_Ints Z h349 gs (own_v240 x0 x1 x2 y0 y1) := V349
   refine own_pA T349 m 73 #[.val (.ref a0), .val (.int ((0:Int32) + (own_at (own_v223 x0 x1 x2 y0 y1) (own_at [x0, x1, x2] y0)))), .val (.int (1:Int32)), .val (.int (own_at [x0, x1, x2] y0)), .unset] [(.ref a0), (.int (1:Int32))] (fun t k => ?_) ?_
   ·refine XS.iinc X349.here hx rfl (D d4_102) rfl (l' := #[.val (.ref a0), .val (.int ((0:Int32) + (own_at (own_v223 x0 x1 x2 y0 y1) (own_at [x0, x1, x2] y0)))), .val (.int (1:Int32)), .val (.int (own_at [x0, x1, x2] y0)), .unset]) rfl ?_
    refine XS.goto X349.here hx rfl (pc0 := 105) (pc' := 71) rfl (D d4_105) (by decide) (by decide) ?_
    refine XS.iloadN X349.here hx rfl (D d4_71) rfl ?_
    exact XS.aloadN X349.here hx rfl (D d4_72) rfl rfl k
   have F353 := (F339.other W349 (Or.inl nq_a0_gs))
   refine own_getF X349 hx hZ hown (host := "") (Or.inl (own_h hw 33 rfl)) Via.refl e349 F353 rfl rfl (D d4_73) (fun T352 X352 e352 => ?_)
   refine own_pA T352 m 109 #[.val (.ref a0), .val (.int ((0:Int32) + (own_at (own_v223 x0 x1 x2 y0 y1) (own_at [x0, x1, x2] y0)))), .val (.int (1:Int32)), .val (.int (own_at [x0, x1, x2] y0)), .unset] [(.ref a0)] (fun t k => ?_) ?_
   ·refine XS.icmpYes X352.here hx rfl (pc0 := 76) (pc' := 108) rfl (D d4_76) rfl (XT.ii_ge_t (by decide)) (by decide) (by decide) ?_
    exact XS.aloadN X352.here hx rfl (D d4_108) rfl rfl k
   have F355 := (F337.other W349 (Or.inl nq_a0_gs))
   refine own_getF X352 hx hZ hown (host := "") (Or.inl (own_h hw 26 rfl)) Via.refl e352 F355 rfl rfl (D d4_109) (fun T354 X354 e354 => ?_)
   refine own_pA T354 m 120 #[.val (.ref a0), .val (.int ((0:Int32) + (own_at (own_v223 x0 x1 x2 y0 y1) (own_at [x0, x1, x2] y0)))), .val (.int (1:Int32)), .val (.int (own_at [x0, x1, x2] y0)), .unset] [(.ref a0)] (fun t k => ?_) ?_
   ·refine XS.iconst X354.here hx rfl (D d4_112) ?_
    refine XS.isub X354.here hx rfl (D d4_113) rfl ?_
    refine XS.istoreN X354.here hx rfl (D d4_114) rfl (l' := #[.val (.ref a0), .val (.int ((0:Int32) + (own_at (own_v223 x0 x1 x2 y0 y1) (own_at [x0, x1, x2] y0)))), .val (.int (1:Int32)), .val (.int (own_at [x0, x1, x2] y0)), .unset]) rfl ?_
    refine XS.iloadN X354.here hx rfl (D d4_115) rfl ?_
    refine XS.ifNo X354.here hx rfl (D d4_116) rfl (XT.i0_lt_f (by decide)) ?_
    exact XS.aloadN X354.here hx rfl (D d4_119) rfl rfl k
   have F357 := ((F192.other W333 (Or.inl nq_a0_gs)).other W349 (Or.inl nq_a0_gs))
   refine own_getF X354 hx hZ hown (host := "") (Or.inl (own_h hw 13 rfl)) Via.refl e354 F357 rfl rfl (D d4_120) (fun T356 X356 e356 => ?_)
   have F358 := ((F193.other W333 nq_mv_gs).other W349 nq_mv_gs)
   have hbn359 : own_In (1:Int32) [y0, y1, y2].length := own_lit rfl
   refine own_pA T356 m 127 #[.val (.ref a0), .val (.int ((0:Int32) + (own_at (own_v223 x0 x1 x2 y0 y1) (own_at [x0, x1, x2] y0)))), .val (.int (1:Int32)), .val (.int y1), .unset] [(.ref a0)] (fun t k => ?_) ?_
   ·refine XS.iloadN X356.here hx rfl (D d4_123) rfl ?_
    refine own_iaload X356 hx hZ e356 F358 hbn359 rfl rfl (D d4_124) ?_
    refine XS.istoreN X356.here hx rfl (D d4_125) rfl (l' := #[.val (.ref a0), .val (.int ((0:Int32) + (own_at (own_v223 x0 x1 x2 y0 y1) (own_at [x0, x1, x2] y0)))), .val (.int (1:Int32)), .val (.int y1), .unset]) rfl ?_
    exact XS.aloadN X356.here hx rfl (D d4_126) rfl rfl k
   have F361 := ((F190.other W333 (Or.inl nq_a0_gs)).other W349 (Or.inl nq_a0_gs))
   refine own_getF X356 hx hZ hown (host := "") (Or.inl (own_h hw 11 rfl)) Via.refl e356 F361 rfl rfl (D d4_127) (fun T360 X360 e360 => ?_)
   have F362 := ((F195.other W333 nq_la_gs).other W349 nq_la_gs)
   have hbn364 : own_In y1 [x0, x1, x2].length := hl363 hs28_2
   refine own_pA T360 m 135 #[.val (.ref a0), .val (.int ((0:Int32) + (own_at (own_v223 x0 x1 x2 y0 y1) (own_at [x0, x1, x2] y0)))), .val (.int (1:Int32)), .val (.int y1), .val (.int (own_at [x0, x1, x2] y1))] [(.ref a0)] (fun t k => ?_) ?_
   ·refine XS.iloadN X360.here hx rfl (D d4_130) rfl ?_
    refine own_iaload X360 hx hZ e360 F362 hbn364 rfl rfl (D d4_131) ?_
    refine XS.istore X360.here hx rfl (D d4_132) rfl (l' := #[.val (.ref a0), .val (.int ((0:Int32) + (own_at (own_v223 x0 x1 x2 y0 y1) (own_at [x0, x1, x2] y0)))), .val (.int (1:Int32)), .val (.int y1), .val (.int (own_at [x0, x1, x2] y1))]) rfl ?_
    exact XS.aloadN X360.here hx rfl (D d4_134) rfl rfl k
   have F366 := (F345.other W349 (Or.inl nq_a0_gs))
   refine own_getF X360 hx hZ hown (host := "") (Or.inl (own_h hw 19 rfl)) Via.refl e360 F366 rfl rfl (D d4_135) (fun T365 X365 e365 => ?_)
   have hbn368 : own_In (own_at [x0, x1, x2] y1) (own_v240 x0 x1 x2 y0 y1).length := hl367 hs28_2
   refine own_pA T365 m 144 #[.val (.ref a0), .val (.int ((0:Int32) + (own_at (own_v223 x0 x1 x2 y0 y1) (own_at [x0, x1, x2] y0)))), .val (.int (1:Int32)), .val (.int y1), .val (.int (own_at [x0, x1, x2] y1))] [(.int ((own_at (own_v240 x0 x1 x2 y0 y1) (own_at [x0, x1, x2] y1)) - (1:Int32))), (.int (own_at [x0, x1, x2] y1)), (.ref gs)] (fun t k => ?_) ?_
   ·refine XS.iload X365.here hx rfl (D d4_138) rfl ?_
    refine XT.dup2 X365.here hx rfl (D d4_140) rfl rfl rfl ?_
    refine own_iaload X365 hx hZ e365 Vw349 hbn368 rfl rfl (D d4_141) ?_
    refine XS.iconst X365.here hx rfl (D d4_142) ?_
    exact XS.isub X365.here hx rfl (D d4_143) rfl k
   have hbn370 : own_In (own_at [x0, x1, x2] y1) (own_v240 x0 x1 x2 y0 y1).length := hl367 hs28_2
   refine own_iastG X365 hx hZ e365 Vw349 hbn370 rfl rfl (D d4_144) (fun T369 h369 X369 e369 W369 V369 => ?_)
   have Kp369 : Keep h0 h369 [a0, gr, gl, gs] := Kp349.wr W369 (Or.inl (List.mem_of_getElem? (i := 3) rfl))
   have Z371 : n0 ≤ h369.size := Nat.le_trans Z351 (Nat.le_of_eq W369.size.symm)
   have N369 := Fr.snoc X369 N349 gq_gs
   have Vw369 : own_Ints Z h369 gs (own_v372 x0 x1 x2 y0 y1) := V369
   refine own_pA T369 m 146 #[.val (.ref a0), .val (.int ((0:Int32) + (own_at (own_v223 x0 x1 x2 y0 y1) (own_at [x0, x1, x2] y0)))), .val (.int (1:Int32)), .val (.int y1), .val (.int (own_at [x0, x1, x2] y1))] [(.ref a0)] (fun t k => ?_) ?_
   ·exact XS.aloadN X369.here hx rfl (D d4_145) rfl rfl k
   have F374 := ((((((P3.other W172 (Or.inl nq_a0_gl)).other W177 (Or.inr (slot_ne (Or.inr (own_h hw 16 rfl)) (Or.inl (own_h hw 34 rfl)) (by decide) (t := (.array .int)) (t' := .int) (by decide) (by decide)))).other W184 (Or.inl nq_a0_gs)).other W333 (Or.inl nq_a0_gs)).other W349 (Or.inl nq_a0_gs)).other W369 (Or.inl nq_a0_gs))
   refine own_getF X369 hx hZ hown (host := "") (Or.inl (own_h hw 15 rfl)) Via.refl e369 F374 rfl rfl (D d4_146) (fun T373 X373 e373 => ?_)
   refine own_pA T373 m 150 #[.val (.ref a0), .val (.int ((0:Int32) + (own_at (own_v223 x0 x1 x2 y0 y1) (own_at [x0, x1, x2] y0)))), .val (.int (1:Int32)), .val (.int y1), .val (.int (own_at [x0, x1, x2] y1))] [(.ref a0), (.ref gr)] (fun t k => ?_) ?_
   ·exact XS.aloadN X373.here hx rfl (D d4_149) rfl rfl k
   have F376 := (F366.other W369 (Or.inl nq_a0_gs))
   refine own_getF X373 hx hZ hown (host := "") (Or.inl (own_h hw 19 rfl)) Via.refl e373 F376 rfl rfl (D d4_150) (fun T375 X375 e375 => ?_)
   have hbn378 : own_In (own_at [x0, x1, x2] y1) (own_v372 x0 x1 x2 y0 y1).length := hl377 hs28_2
   refine own_pA T375 m 157 #[.val (.ref a0), .val (.int ((0:Int32) + (own_at (own_v223 x0 x1 x2 y0 y1) (own_at [x0, x1, x2] y0)))), .val (.int (1:Int32)), .val (.int y1), .val (.int (own_at [x0, x1, x2] y1))] [(.int y1), (.int (own_at (own_v372 x0 x1 x2 y0 y1) (own_at [x0, x1, x2] y1))), (.ref gr)] (fun t k => ?_) ?_
   ·refine XS.iload X375.here hx rfl (D d4_153) rfl ?_
    refine own_iaload X375 hx hZ e375 Vw369 hbn378 rfl rfl (D d4_155) ?_
    exact XS.iloadN X375.here hx rfl (D d4_156) rfl k
   have F380 := ((((((P10.other W172 nq_gr_gl).other W177 (Ne.symm nq_a0_gr)).other W184 nq_gr_gs).other W333 nq_gr_gs).other W349 nq_gr_gs).other W369 nq_gr_gs)
   have hbn382 : own_In (own_at (own_v372 x0 x1 x2 y0 y1) (own_at [x0, x1, x2] y1)) [(0:Int32), (0:Int32), (0:Int32)].length := hl381 hs28_2
   refine own_iastG X375 hx hZ e375 F380 hbn382 rfl rfl (D d4_157) (fun T379 h379 X379 e379 W379 V379 => ?_)
   have Kp379 : Keep h0 h379 [a0, gr, gl, gs] := Kp369.wr W379 (Or.inl (List.mem_of_getElem? (i := 1) rfl))
   have Z383 : n0 ≤ h379.size := Nat.le_trans Z371 (Nat.le_of_eq W379.size.symm)
   have N379 := Fr.snoc X379 N369 gq_gr
   have Vw379 : own_Ints Z h379 gr (own_v384 x0 x1 x2 y0 y1) := V379
   refine own_pA T379 m 120 #[.val (.ref a0), .val (.int ((0:Int32) + (own_at (own_v223 x0 x1 x2 y0 y1) (own_at [x0, x1, x2] y0)))), .val (.int (0:Int32)), .val (.int y1), .val (.int (own_at [x0, x1, x2] y1))] [(.ref a0)] (fun t k => ?_) ?_
   ·refine XS.iinc X379.here hx rfl (D d4_158) rfl (l' := #[.val (.ref a0), .val (.int ((0:Int32) + (own_at (own_v223 x0 x1 x2 y0 y1) (own_at [x0, x1, x2] y0)))), .val (.int (0:Int32)), .val (.int y1), .val (.int (own_at [x0, x1, x2] y1))]) rfl ?_
    refine XS.goto X379.here hx rfl (pc0 := 161) (pc' := 115) rfl (D d4_161) (by decide) (by decide) ?_
    refine XS.iloadN X379.here hx rfl (D d4_115) rfl ?_
    refine XS.ifNo X379.here hx rfl (D d4_116) rfl (XT.i0_lt_f (by decide)) ?_
    exact XS.aloadN X379.here hx rfl (D d4_119) rfl rfl k
   have F386 := ((F357.other W369 (Or.inl nq_a0_gs)).other W379 (Or.inl nq_a0_gr))
   refine own_getF X379 hx hZ hown (host := "") (Or.inl (own_h hw 13 rfl)) Via.refl e379 F386 rfl rfl (D d4_120) (fun T385 X385 e385 => ?_)
   have F387 := ((F358.other W369 nq_mv_gs).other W379 nq_mv_gr)
   have hbn388 : own_In (0:Int32) [y0, y1, y2].length := own_lit rfl
   refine own_pA T385 m 127 #[.val (.ref a0), .val (.int ((0:Int32) + (own_at (own_v223 x0 x1 x2 y0 y1) (own_at [x0, x1, x2] y0)))), .val (.int (0:Int32)), .val (.int y0), .val (.int (own_at [x0, x1, x2] y1))] [(.ref a0)] (fun t k => ?_) ?_
   ·refine XS.iloadN X385.here hx rfl (D d4_123) rfl ?_
    refine own_iaload X385 hx hZ e385 F387 hbn388 rfl rfl (D d4_124) ?_
    refine XS.istoreN X385.here hx rfl (D d4_125) rfl (l' := #[.val (.ref a0), .val (.int ((0:Int32) + (own_at (own_v223 x0 x1 x2 y0 y1) (own_at [x0, x1, x2] y0)))), .val (.int (0:Int32)), .val (.int y0), .val (.int (own_at [x0, x1, x2] y1))]) rfl ?_
    exact XS.aloadN X385.here hx rfl (D d4_126) rfl rfl k
   have F390 := ((F361.other W369 (Or.inl nq_a0_gs)).other W379 (Or.inl nq_a0_gr))
   refine own_getF X385 hx hZ hown (host := "") (Or.inl (own_h hw 11 rfl)) Via.refl e385 F390 rfl rfl (D d4_127) (fun T389 X389 e389 => ?_)
   have F391 := ((F362.other W369 nq_la_gs).other W379 nq_la_gr)
   have hbn393 : own_In y0 [x0, x1, x2].length := hl392 hs28_2
   refine own_pA T389 m 135 #[.val (.ref a0), .val (.int ((0:Int32) + (own_at (own_v223 x0 x1 x2 y0 y1) (own_at [x0, x1, x2] y0)))), .val (.int (0:Int32)), .val (.int y0), .val (.int (own_at [x0, x1, x2] y0))] [(.ref a0)] (fun t k => ?_) ?_
   ·refine XS.iloadN X389.here hx rfl (D d4_130) rfl ?_
    refine own_iaload X389 hx hZ e389 F391 hbn393 rfl rfl (D d4_131) ?_
    refine XS.istore X389.here hx rfl (D d4_132) rfl (l' := #[.val (.ref a0), .val (.int ((0:Int32) + (own_at (own_v223 x0 x1 x2 y0 y1) (own_at [x0, x1, x2] y0)))), .val (.int (0:Int32)), .val (.int y0), .val (.int (own_at [x0, x1, x2] y0))]) rfl ?_
    exact XS.aloadN X389.here hx rfl (D d4_134) rfl rfl k
   have F395 := (F376.other W379 (Or.inl nq_a0_gr))
   refine own_getF X389 hx hZ hown (host := "") (Or.inl (own_h hw 19 rfl)) Via.refl e389 F395 rfl rfl (D d4_135) (fun T394 X394 e394 => ?_)
   have F396 := (Vw369.other W379 (Ne.symm nq_gr_gs))
   have hbn398 : own_In (own_at [x0, x1, x2] y0) (own_v372 x0 x1 x2 y0 y1).length := hl397 hs28_2
   refine own_pA T394 m 144 #[.val (.ref a0), .val (.int ((0:Int32) + (own_at (own_v223 x0 x1 x2 y0 y1) (own_at [x0, x1, x2] y0)))), .val (.int (0:Int32)), .val (.int y0), .val (.int (own_at [x0, x1, x2] y0))] [(.int ((own_at (own_v372 x0 x1 x2 y0 y1) (own_at [x0, x1, x2] y0)) - (1:Int32))), (.int (own_at [x0, x1, x2] y0)), (.ref gs)] (fun t k => ?_) ?_
   ·refine XS.iload X394.here hx rfl (D d4_138) rfl ?_
    refine XT.dup2 X394.here hx rfl (D d4_140) rfl rfl rfl ?_
    refine own_iaload X394 hx hZ e394 F396 hbn398 rfl rfl (D d4_141) ?_
    refine XS.iconst X394.here hx rfl (D d4_142) ?_
    exact XS.isub X394.here hx rfl (D d4_143) rfl k
   have hbn400 : own_In (own_at [x0, x1, x2] y0) (own_v372 x0 x1 x2 y0 y1).length := hl397 hs28_2
   refine own_iastG X394 hx hZ e394 F396 hbn400 rfl rfl (D d4_144) (fun T399 h399 X399 e399 W399 V399 => ?_)
   have Kp399 : Keep h0 h399 [a0, gr, gl, gs] := Kp379.wr W399 (Or.inl (List.mem_of_getElem? (i := 3) rfl))
   have Z401 : n0 ≤ h399.size := Nat.le_trans Z383 (Nat.le_of_eq W399.size.symm)
   have N399 := Fr.snoc X399 N379 gq_gs
   have Vw399 : own_Ints Z h399 gs (own_v402 x0 x1 x2 y0 y1) := V399
   refine own_pA T399 m 146 #[.val (.ref a0), .val (.int ((0:Int32) + (own_at (own_v223 x0 x1 x2 y0 y1) (own_at [x0, x1, x2] y0)))), .val (.int (0:Int32)), .val (.int y0), .val (.int (own_at [x0, x1, x2] y0))] [(.ref a0)] (fun t k => ?_) ?_
   ·exact XS.aloadN X399.here hx rfl (D d4_145) rfl rfl k
   have F404 := ((F374.other W379 (Or.inl nq_a0_gr)).other W399 (Or.inl nq_a0_gs))
   refine own_getF X399 hx hZ hown (host := "") (Or.inl (own_h hw 15 rfl)) Via.refl e399 F404 rfl rfl (D d4_146) (fun T403 X403 e403 => ?_)
   refine own_pA T403 m 150 #[.val (.ref a0), .val (.int ((0:Int32) + (own_at (own_v223 x0 x1 x2 y0 y1) (own_at [x0, x1, x2] y0)))), .val (.int (0:Int32)), .val (.int y0), .val (.int (own_at [x0, x1, x2] y0))] [(.ref a0), (.ref gr)] (fun t k => ?_) ?_
   ·exact XS.aloadN X403.here hx rfl (D d4_149) rfl rfl k
   have F406 := (F395.other W399 (Or.inl nq_a0_gs))
   refine own_getF X403 hx hZ hown (host := "") (Or.inl (own_h hw 19 rfl)) Via.refl e403 F406 rfl rfl (D d4_150) (fun T405 X405 e405 => ?_)
   have hbn408 : own_In (own_at [x0, x1, x2] y0) (own_v402 x0 x1 x2 y0 y1).length := hl407 hs28_2
   refine own_pA T405 m 157 #[.val (.ref a0), .val (.int ((0:Int32) + (own_at (own_v223 x0 x1 x2 y0 y1) (own_at [x0, x1, x2] y0)))), .val (.int (0:Int32)), .val (.int y0), .val (.int (own_at [x0, x1, x2] y0))] [(.int y0), (.int (own_at (own_v402 x0 x1 x2 y0 y1) (own_at [x0, x1, x2] y0))), (.ref gr)] (fun t k => ?_) ?_
   ·refine XS.iload X405.here hx rfl (D d4_153) rfl ?_
    refine own_iaload X405 hx hZ e405 Vw399 hbn408 rfl rfl (D d4_155) ?_
    exact XS.iloadN X405.here hx rfl (D d4_156) rfl k
   have F410 := (Vw379.other W399 nq_gr_gs)
   have hbn412 : own_In (own_at (own_v402 x0 x1 x2 y0 y1) (own_at [x0, x1, x2] y0)) (own_v384 x0 x1 x2 y0 y1).length := hl411 hs28_2
   refine own_iastG X405 hx hZ e405 F410 hbn412 rfl rfl (D d4_157) (fun T409 h409 X409 e409 W409 V409 => ?_)
   have Kp409 : Keep h0 h409 [a0, gr, gl, gs] := Kp399.wr W409 (Or.inl (List.mem_of_getElem? (i := 1) rfl))
   have Z413 : n0 ≤ h409.size := Nat.le_trans Z401 (Nat.le_of_eq W409.size.symm)
   have N409 := Fr.snoc X409 N399 gq_gr
   have Vw409 : own_Ints Z h409 gr (own_v414 x0 x1 x2 y0 y1) := V409
   refine own_pA T409 m 165 #[.val (.ref a0), .val (.int ((0:Int32) + (own_at (own_v223 x0 x1 x2 y0 y1) (own_at [x0, x1, x2] y0)))), .val (.int (-1:Int32)), .val (.int y0), .val (.int (own_at [x0, x1, x2] y0))] [(.ref a0)] (fun t k => ?_) ?_
   ·refine XS.iinc X409.here hx rfl (D d4_158) rfl (l' := #[.val (.ref a0), .val (.int ((0:Int32) + (own_at (own_v223 x0 x1 x2 y0 y1) (own_at [x0, x1, x2] y0)))), .val (.int (-1:Int32)), .val (.int y0), .val (.int (own_at [x0, x1, x2] y0))]) rfl ?_
    refine XS.goto X409.here hx rfl (pc0 := 161) (pc' := 115) rfl (D d4_161) (by decide) (by decide) ?_
    refine XS.iloadN X409.here hx rfl (D d4_115) rfl ?_
    refine XS.ifYes X409.here hx rfl (pc0 := 116) (pc' := 164) rfl (D d4_116) rfl (XT.i0_lt_t (by decide)) (by decide) (by decide) ?_
    exact XS.aloadN X409.here hx rfl (D d4_164) rfl rfl k
   have F416 := ((((F353.other W369 (Or.inl nq_a0_gs)).other W379 (Or.inl nq_a0_gr)).other W399 (Or.inl nq_a0_gs)).other W409 (Or.inl nq_a0_gr))
   refine own_getF X409 hx hZ hown (host := "") (Or.inl (own_h hw 33 rfl)) Via.refl e409 F416 rfl rfl (D d4_165) (fun T415 X415 e415 => ?_)
   have hv417 : (1:Int32) = f4m2 x0 x1 x2 y0 y1 y2 := by simp only [f4m2, if_neg hs28_2]
   have F418 := ((F390.other W399 (Or.inl nq_a0_gs)).other W409 (Or.inl nq_a0_gr))
   have F419 := ((F386.other W399 (Or.inl nq_a0_gs)).other W409 (Or.inl nq_a0_gr))
   have F420 := (F404.other W409 (Or.inl nq_a0_gr))
   have F421 := (((((F341.other W349 (Or.inl nq_a0_gs)).other W369 (Or.inl nq_a0_gs)).other W379 (Or.inl nq_a0_gr)).other W399 (Or.inl nq_a0_gs)).other W409 (Or.inl nq_a0_gr))
   have F422 := (F406.other W409 (Or.inl nq_a0_gr))
   have F423 := ((((F355.other W369 (Or.inl nq_a0_gs)).other W379 (Or.inl nq_a0_gr)).other W399 (Or.inl nq_a0_gs)).other W409 (Or.inl nq_a0_gr))
   have F424 := (((((F342.other W349 nq_gl_gs).other W369 nq_gl_gs).other W379 (Ne.symm nq_gr_gl)).other W399 nq_gl_gs).other W409 (Ne.symm nq_gr_gl))
   have F425 := (Vw399.other W409 (Ne.symm nq_gr_gs))
   exact own_end X415 (BodyLoose.notSynchronized Bd) (fun h => by rw [Bd.returns] at h; cases h) (v := some (.int (1:Int32))) (fun fs hr => retOut X415 hx Bd.returns rfl (by simp [Value.isRef, FieldType.isReference]) (D d4_168) hr) (by show Q4m2 Z a0 la mv gr gl gs x0 x1 x2 y0 y1 y2 h0 n0 _ T415.heap _; rw [e415]; exact ⟨(congrArg (fun z => some (Value.int z)) hv417), N409, Kp409, (by first | exact F418 | (simp only [if_neg hs28_2]; exact F418)), (by first | exact F419 | (simp only [if_neg hs28_2]; exact F419)), (by first | exact F420 | (simp only [if_neg hs28_2]; exact F420)), (by first | exact F421 | (simp only [if_neg hs28_2]; exact F421)), (by first | exact F422 | (simp only [if_neg hs28_2]; exact F422)), (by first | exact F423 | (simp only [if_neg hs28_2]; exact F423)), (by simp only [g4m2_gc, if_neg hs28_2]; exact F416), (by simp only [g4m2_gr, if_neg hs28_2]; exact Vw409), (by simp only [g4m2_gl, if_neg hs28_2]; exact F424), (by simp only [g4m2_gs, if_neg hs28_2]; exact F425)⟩) (by decide) (by decide)
def own_v524 (x0 : Int32) (x1 : Int32) (x2 : Int32) (y0 : Int32) (y1 : Int32) (y2 : Int32) : List Int32 := ((own_v223 x0 x1 x2 y0 y1).set (own_at [x0, x1, x2] y2).toNatClampNeg ((own_at (own_v223 x0 x1 x2 y0 y1) (own_at [x0, x1, x2] y2)) + (1:Int32)))
def own_v541 (x0 : Int32) (x1 : Int32) (x2 : Int32) (y0 : Int32) (y1 : Int32) (y2 : Int32) : List Int32 := ((own_v524 x0 x1 x2 y0 y1 y2).set (own_at [x0, x1, x2] y0).toNatClampNeg ((0:Int32) + (own_at (own_v524 x0 x1 x2 y0 y1 y2) (own_at [x0, x1, x2] y0))))
def own_v556 (x0 : Int32) (x1 : Int32) (x2 : Int32) (y0 : Int32) (y1 : Int32) (y2 : Int32) : List Int32 := ((own_v541 x0 x1 x2 y0 y1 y2).set (own_at [x0, x1, x2] y1).toNatClampNeg (((0:Int32) + (own_at (own_v524 x0 x1 x2 y0 y1 y2) (own_at [x0, x1, x2] y0))) + (own_at (own_v541 x0 x1 x2 y0 y1 y2) (own_at [x0, x1, x2] y1))))
def own_v571 (x0 : Int32) (x1 : Int32) (x2 : Int32) (y0 : Int32) (y1 : Int32) (y2 : Int32) : List Int32 := ((own_v556 x0 x1 x2 y0 y1 y2).set (own_at [x0, x1, x2] y2).toNatClampNeg ((((0:Int32) + (own_at (own_v524 x0 x1 x2 y0 y1 y2) (own_at [x0, x1, x2] y0))) + (own_at (own_v541 x0 x1 x2 y0 y1 y2) (own_at [x0, x1, x2] y1))) + (own_at (own_v556 x0 x1 x2 y0 y1 y2) (own_at [x0, x1, x2] y2))))
def own_v592 (x0 : Int32) (x1 : Int32) (x2 : Int32) (y0 : Int32) (y1 : Int32) (y2 : Int32) : List Int32 := ((own_v571 x0 x1 x2 y0 y1 y2).set (own_at [x0, x1, x2] y2).toNatClampNeg ((own_at (own_v571 x0 x1 x2 y0 y1 y2) (own_at [x0, x1, x2] y2)) - (1:Int32)))
def own_v604 (x0 : Int32) (x1 : Int32) (x2 : Int32) (y0 : Int32) (y1 : Int32) (y2 : Int32) : List Int32 := ([(0:Int32), (0:Int32), (0:Int32)].set (own_at (own_v592 x0 x1 x2 y0 y1 y2) (own_at [x0, x1, x2] y2)).toNatClampNeg y2)
def own_v622 (x0 : Int32) (x1 : Int32) (x2 : Int32) (y0 : Int32) (y1 : Int32) (y2 : Int32) : List Int32 := ((own_v592 x0 x1 x2 y0 y1 y2).set (own_at [x0, x1, x2] y1).toNatClampNeg ((own_at (own_v592 x0 x1 x2 y0 y1 y2) (own_at [x0, x1, x2] y1)) - (1:Int32)))
def own_v634 (x0 : Int32) (x1 : Int32) (x2 : Int32) (y0 : Int32) (y1 : Int32) (y2 : Int32) : List Int32 := ((own_v604 x0 x1 x2 y0 y1 y2).set (own_at (own_v622 x0 x1 x2 y0 y1 y2) (own_at [x0, x1, x2] y1)).toNatClampNeg y1)
def own_v652 (x0 : Int32) (x1 : Int32) (x2 : Int32) (y0 : Int32) (y1 : Int32) (y2 : Int32) : List Int32 := ((own_v622 x0 x1 x2 y0 y1 y2).set (own_at [x0, x1, x2] y0).toNatClampNeg ((own_at (own_v622 x0 x1 x2 y0 y1 y2) (own_at [x0, x1, x2] y0)) - (1:Int32)))
def own_v664 (x0 : Int32) (x1 : Int32) (x2 : Int32) (y0 : Int32) (y1 : Int32) (y2 : Int32) : List Int32 := ((own_v634 x0 x1 x2 y0 y1 y2).set (own_at (own_v652 x0 x1 x2 y0 y1 y2) (own_at [x0, x1, x2] y0)).toNatClampNeg y0)
def own_v732 (x0 : Int32) (x1 : Int32) (x2 : Int32) (y0 : Int32) (y1 : Int32) (y2 : Int32) : List Int32 := ((own_v556 x0 x1 x2 y0 y1 y2).set (own_at [x0, x1, x2] y2).toNatClampNeg ((own_at (own_v556 x0 x1 x2 y0 y1 y2) (own_at [x0, x1, x2] y2)) - (1:Int32)))
def own_v744 (x0 : Int32) (x1 : Int32) (x2 : Int32) (y0 : Int32) (y1 : Int32) (y2 : Int32) : List Int32 := ([(0:Int32), (0:Int32), (0:Int32)].set (own_at (own_v732 x0 x1 x2 y0 y1 y2) (own_at [x0, x1, x2] y2)).toNatClampNeg y2)
def own_v762 (x0 : Int32) (x1 : Int32) (x2 : Int32) (y0 : Int32) (y1 : Int32) (y2 : Int32) : List Int32 := ((own_v732 x0 x1 x2 y0 y1 y2).set (own_at [x0, x1, x2] y1).toNatClampNeg ((own_at (own_v732 x0 x1 x2 y0 y1 y2) (own_at [x0, x1, x2] y1)) - (1:Int32)))
def own_v774 (x0 : Int32) (x1 : Int32) (x2 : Int32) (y0 : Int32) (y1 : Int32) (y2 : Int32) : List Int32 := ((own_v744 x0 x1 x2 y0 y1 y2).set (own_at (own_v762 x0 x1 x2 y0 y1 y2) (own_at [x0, x1, x2] y1)).toNatClampNeg y1)
def own_v792 (x0 : Int32) (x1 : Int32) (x2 : Int32) (y0 : Int32) (y1 : Int32) (y2 : Int32) : List Int32 := ((own_v762 x0 x1 x2 y0 y1 y2).set (own_at [x0, x1, x2] y0).toNatClampNeg ((own_at (own_v762 x0 x1 x2 y0 y1 y2) (own_at [x0, x1, x2] y0)) - (1:Int32)))
def own_v804 (x0 : Int32) (x1 : Int32) (x2 : Int32) (y0 : Int32) (y1 : Int32) (y2 : Int32) : List Int32 := ((own_v774 x0 x1 x2 y0 y1 y2).set (own_at (own_v792 x0 x1 x2 y0 y1 y2) (own_at [x0, x1, x2] y0)).toNatClampNeg y0)
def own_v888 (x0 : Int32) (x1 : Int32) (x2 : Int32) (y0 : Int32) (y1 : Int32) (y2 : Int32) : List Int32 := ((own_v541 x0 x1 x2 y0 y1 y2).set (own_at [x0, x1, x2] y2).toNatClampNeg (((0:Int32) + (own_at (own_v524 x0 x1 x2 y0 y1 y2) (own_at [x0, x1, x2] y0))) + (own_at (own_v541 x0 x1 x2 y0 y1 y2) (own_at [x0, x1, x2] y2))))
def own_v909 (x0 : Int32) (x1 : Int32) (x2 : Int32) (y0 : Int32) (y1 : Int32) (y2 : Int32) : List Int32 := ((own_v888 x0 x1 x2 y0 y1 y2).set (own_at [x0, x1, x2] y2).toNatClampNeg ((own_at (own_v888 x0 x1 x2 y0 y1 y2) (own_at [x0, x1, x2] y2)) - (1:Int32)))
def own_v921 (x0 : Int32) (x1 : Int32) (x2 : Int32) (y0 : Int32) (y1 : Int32) (y2 : Int32) : List Int32 := ([(0:Int32), (0:Int32), (0:Int32)].set (own_at (own_v909 x0 x1 x2 y0 y1 y2) (own_at [x0, x1, x2] y2)).toNatClampNeg y2)
def own_v939 (x0 : Int32) (x1 : Int32) (x2 : Int32) (y0 : Int32) (y1 : Int32) (y2 : Int32) : List Int32 := ((own_v909 x0 x1 x2 y0 y1 y2).set (own_at [x0, x1, x2] y1).toNatClampNeg ((own_at (own_v909 x0 x1 x2 y0 y1 y2) (own_at [x0, x1, x2] y1)) - (1:Int32)))
def own_v951 (x0 : Int32) (x1 : Int32) (x2 : Int32) (y0 : Int32) (y1 : Int32) (y2 : Int32) : List Int32 := ((own_v921 x0 x1 x2 y0 y1 y2).set (own_at (own_v939 x0 x1 x2 y0 y1 y2) (own_at [x0, x1, x2] y1)).toNatClampNeg y1)
def own_v969 (x0 : Int32) (x1 : Int32) (x2 : Int32) (y0 : Int32) (y1 : Int32) (y2 : Int32) : List Int32 := ((own_v939 x0 x1 x2 y0 y1 y2).set (own_at [x0, x1, x2] y0).toNatClampNeg ((own_at (own_v939 x0 x1 x2 y0 y1 y2) (own_at [x0, x1, x2] y0)) - (1:Int32)))
def own_v981 (x0 : Int32) (x1 : Int32) (x2 : Int32) (y0 : Int32) (y1 : Int32) (y2 : Int32) : List Int32 := ((own_v951 x0 x1 x2 y0 y1 y2).set (own_at (own_v969 x0 x1 x2 y0 y1 y2) (own_at [x0, x1, x2] y0)).toNatClampNeg y0)
def own_v1035 (x0 : Int32) (x1 : Int32) (x2 : Int32) (y0 : Int32) (y1 : Int32) (y2 : Int32) : List Int32 := ((own_v541 x0 x1 x2 y0 y1 y2).set (own_at [x0, x1, x2] y2).toNatClampNeg ((own_at (own_v541 x0 x1 x2 y0 y1 y2) (own_at [x0, x1, x2] y2)) - (1:Int32)))
def own_v1047 (x0 : Int32) (x1 : Int32) (x2 : Int32) (y0 : Int32) (y1 : Int32) (y2 : Int32) : List Int32 := ([(0:Int32), (0:Int32), (0:Int32)].set (own_at (own_v1035 x0 x1 x2 y0 y1 y2) (own_at [x0, x1, x2] y2)).toNatClampNeg y2)
def own_v1065 (x0 : Int32) (x1 : Int32) (x2 : Int32) (y0 : Int32) (y1 : Int32) (y2 : Int32) : List Int32 := ((own_v1035 x0 x1 x2 y0 y1 y2).set (own_at [x0, x1, x2] y1).toNatClampNeg ((own_at (own_v1035 x0 x1 x2 y0 y1 y2) (own_at [x0, x1, x2] y1)) - (1:Int32)))
def own_v1077 (x0 : Int32) (x1 : Int32) (x2 : Int32) (y0 : Int32) (y1 : Int32) (y2 : Int32) : List Int32 := ((own_v1047 x0 x1 x2 y0 y1 y2).set (own_at (own_v1065 x0 x1 x2 y0 y1 y2) (own_at [x0, x1, x2] y1)).toNatClampNeg y1)
def own_v1095 (x0 : Int32) (x1 : Int32) (x2 : Int32) (y0 : Int32) (y1 : Int32) (y2 : Int32) : List Int32 := ((own_v1065 x0 x1 x2 y0 y1 y2).set (own_at [x0, x1, x2] y0).toNatClampNeg ((own_at (own_v1065 x0 x1 x2 y0 y1 y2) (own_at [x0, x1, x2] y0)) - (1:Int32)))
def own_v1107 (x0 : Int32) (x1 : Int32) (x2 : Int32) (y0 : Int32) (y1 : Int32) (y2 : Int32) : List Int32 := ((own_v1077 x0 x1 x2 y0 y1 y2).set (own_at (own_v1095 x0 x1 x2 y0 y1 y2) (own_at [x0, x1, x2] y0)).toNatClampNeg y0)
theorem ef4m3 (m : MethodId) (a0 : Addr) : entryFrame m #[(.ref a0)] 5 = mkF m 0 #[rv a0, .unset, .unset, .unset, .unset] [] := by first | (simp [entryFrame, mkF, argsToLocals, Value.category]; done) | rfl
def g4m3_gc (x0 : Int32) (x1 : Int32) (x2 : Int32) (y0 : Int32) (y1 : Int32) (y2 : Int32) : Int32 := (if (own_at (own_v100 x0 x1 x2 y0) (own_at [x0, x1, x2] y1)) = (0:Int32) then (if (own_at (own_v223 x0 x1 x2 y0 y1) (own_at [x0, x1, x2] y2)) = (0:Int32) then (3:Int32) else (2:Int32)) else (if (own_at (own_v223 x0 x1 x2 y0 y1) (own_at [x0, x1, x2] y2)) = (0:Int32) then (2:Int32) else (1:Int32)))
def g4m3_gr (x0 : Int32) (x1 : Int32) (x2 : Int32) (y0 : Int32) (y1 : Int32) (y2 : Int32) : List Int32 := (if (own_at (own_v100 x0 x1 x2 y0) (own_at [x0, x1, x2] y1)) = (0:Int32) then (if (own_at (own_v223 x0 x1 x2 y0 y1) (own_at [x0, x1, x2] y2)) = (0:Int32) then (own_v664 x0 x1 x2 y0 y1 y2) else (own_v804 x0 x1 x2 y0 y1 y2)) else (if (own_at (own_v223 x0 x1 x2 y0 y1) (own_at [x0, x1, x2] y2)) = (0:Int32) then (own_v981 x0 x1 x2 y0 y1 y2) else (own_v1107 x0 x1 x2 y0 y1 y2)))
def g4m3_gl (x0 : Int32) (x1 : Int32) (x2 : Int32) (y0 : Int32) (y1 : Int32) (y2 : Int32) : List Int32 := (if (own_at (own_v100 x0 x1 x2 y0) (own_at [x0, x1, x2] y1)) = (0:Int32) then (if (own_at (own_v223 x0 x1 x2 y0 y1) (own_at [x0, x1, x2] y2)) = (0:Int32) then [(own_at [x0, x1, x2] y0), (own_at [x0, x1, x2] y1), (own_at [x0, x1, x2] y2)] else [(own_at [x0, x1, x2] y0), (own_at [x0, x1, x2] y1), (0:Int32)]) else (if (own_at (own_v223 x0 x1 x2 y0 y1) (own_at [x0, x1, x2] y2)) = (0:Int32) then [(own_at [x0, x1, x2] y0), (own_at [x0, x1, x2] y2), (0:Int32)] else [(own_at [x0, x1, x2] y0), (0:Int32), (0:Int32)]))
def g4m3_gs (x0 : Int32) (x1 : Int32) (x2 : Int32) (y0 : Int32) (y1 : Int32) (y2 : Int32) : List Int32 := (if (own_at (own_v100 x0 x1 x2 y0) (own_at [x0, x1, x2] y1)) = (0:Int32) then (if (own_at (own_v223 x0 x1 x2 y0 y1) (own_at [x0, x1, x2] y2)) = (0:Int32) then (own_v652 x0 x1 x2 y0 y1 y2) else (own_v792 x0 x1 x2 y0 y1 y2)) else (if (own_at (own_v223 x0 x1 x2 y0 y1) (own_at [x0, x1, x2] y2)) = (0:Int32) then (own_v969 x0 x1 x2 y0 y1 y2) else (own_v1095 x0 x1 x2 y0 y1 y2)))
def f4m3 (x0 : Int32) (x1 : Int32) (x2 : Int32) (y0 : Int32) (y1 : Int32) (y2 : Int32) : Int32 := (if (own_at (own_v100 x0 x1 x2 y0) (own_at [x0, x1, x2] y1)) = (0:Int32) then (if (own_at (own_v223 x0 x1 x2 y0 y1) (own_at [x0, x1, x2] y2)) = (0:Int32) then (3:Int32) else (2:Int32)) else (if (own_at (own_v223 x0 x1 x2 y0 y1) (own_at [x0, x1, x2] y2)) = (0:Int32) then (2:Int32) else (1:Int32)))
def Q4m3 (Z : State) (a0 : Addr) (la : Addr) (mv : Addr) (gr : Addr) (gl : Addr) (gs : Addr) (x0 : Int32) (x1 : Int32) (x2 : Int32) (y0 : Int32) (y1 : Int32) (y2 : Int32) (h0 : Heap) (n0 : Nat) (v : Option Value) (h : Heap) (L : List Loc) : Prop := v = some (.int (f4m3 x0 x1 x2 y0 y1 y2)) ∧ Fr n0 L ∧ Keep h0 h [a0, gr, gl, gs] ∧ Fld Z h a0 "com/example/spare_calculus/sparecalculus/bisim/LabelGroups" "labels" "[I" (.ref la) ∧ Fld Z h a0 "com/example/spare_calculus/sparecalculus/bisim/LabelGroups" "moves" "[I" (.ref mv) ∧ Fld Z h a0 "com/example/spare_calculus/sparecalculus/bisim/LabelGroups" "grouped" "[I" (.ref gr) ∧ Fld Z h a0 "com/example/spare_calculus/sparecalculus/bisim/LabelGroups" "groupLabels" "[I" (.ref gl) ∧ Fld Z h a0 "com/example/spare_calculus/sparecalculus/bisim/LabelGroups" "groupStarts" "[I" (.ref gs) ∧ Fld Z h a0 "com/example/spare_calculus/sparecalculus/bisim/LabelGroups" "moveCount" "I" (.int (3:Int32)) ∧ Fld Z h a0 "com/example/spare_calculus/sparecalculus/bisim/LabelGroups" "groupCount" "I" (.int (g4m3_gc x0 x1 x2 y0 y1 y2)) ∧ own_Ints Z h gr (g4m3_gr x0 x1 x2 y0 y1 y2) ∧ own_Ints Z h gl (g4m3_gl x0 x1 x2 y0 y1 y2) ∧ own_Ints Z h gs (g4m3_gs x0 x1 x2 y0 y1 y2)
set_option maxRecDepth 65536 in
set_option maxHeartbeats 40000000 in
theorem rm4m3 (l : Launch) (Z : State) (aZ : Array Value) (hw : ∀ d ∈ tables_1, d.before aZ Z = true) (ws : List Jvm.Cond) (a0 : Addr) (la : Addr) (mv : Addr) (gr : Addr) (gl : Addr) (gs : Addr) (x0 : Int32) (x1 : Int32) (x2 : Int32) (y0 : Int32) (y1 : Int32) (y2 : Int32) (h0 : Heap) (n0 : Nat) (Z0 : n0 ≤ h0.size) (P0 : Exa Z h0 a0 "com/example/spare_calculus/sparecalculus/bisim/LabelGroups") (P1 : Fld Z h0 a0 "com/example/spare_calculus/sparecalculus/bisim/LabelGroups" "labels" "[I" (.ref la)) (P2 : Fld Z h0 a0 "com/example/spare_calculus/sparecalculus/bisim/LabelGroups" "moves" "[I" (.ref mv)) (P3 : Fld Z h0 a0 "com/example/spare_calculus/sparecalculus/bisim/LabelGroups" "grouped" "[I" (.ref gr)) (P4 : Fld Z h0 a0 "com/example/spare_calculus/sparecalculus/bisim/LabelGroups" "groupLabels" "[I" (.ref gl)) (P5 : Fld Z h0 a0 "com/example/spare_calculus/sparecalculus/bisim/LabelGroups" "groupStarts" "[I" (.ref gs)) (P6 : Fld Z h0 a0 "com/example/spare_calculus/sparecalculus/bisim/LabelGroups" "moveCount" "I" (.int (3:Int32))) (P7 : Fld Z h0 a0 "com/example/spare_calculus/sparecalculus/bisim/LabelGroups" "groupCount" "I" (.int (0:Int32))) (P8 : own_Ints Z h0 la [x0, x1, x2]) (P9 : own_Ints Z h0 mv [y0, y1, y2]) (P10 : own_Ints Z h0 gr [(0:Int32), (0:Int32), (0:Int32)]) (P11 : own_Ints Z h0 gl [(0:Int32), (0:Int32), (0:Int32)]) (P12 : own_Ints Z h0 gs [(0:Int32), (0:Int32), (0:Int32)]) (nq_a0_la : a0 ≠ la) (nq_a0_mv : a0 ≠ mv) (nq_a0_gr : a0 ≠ gr) (nq_a0_gl : a0 ≠ gl) (nq_a0_gs : a0 ≠ gs) (nq_la_mv : la ≠ mv) (nq_la_gr : la ≠ gr) (nq_la_gl : la ≠ gl) (nq_la_gs : la ≠ gs) (nq_mv_gr : mv ≠ gr) (nq_mv_gl : mv ≠ gl) (nq_mv_gs : mv ≠ gs) (nq_gr_gl : gr ≠ gl) (nq_gr_gs : gr ≠ gs) (nq_gl_gs : gl ≠ gs) (gq_a0 : n0 ≤ a0) (gq_gr : n0 ≤ gr) (gq_gl : n0 ≤ gl) (gq_gs : n0 ≤ gs) (hl430 : own_In y0 [x0, x1, x2].length) (hl433 : own_In (own_at [x0, x1, x2] y0) [(0:Int32), (0:Int32), (0:Int32)].length) (hl461 : own_In y1 [x0, x1, x2].length) (hl465 : own_In (own_at [x0, x1, x2] y1) (own_v100 x0 x1 x2 y0).length) (hl483 : ((own_at (own_v100 x0 x1 x2 y0) (own_at [x0, x1, x2] y1)) = (0:Int32)) → own_In (own_at [x0, x1, x2] y1) (own_v100 x0 x1 x2 y0).length) (hl497 : ((own_at (own_v100 x0 x1 x2 y0) (own_at [x0, x1, x2] y1)) = (0:Int32)) → own_In y2 [x0, x1, x2].length) (hl501 : ((own_at (own_v100 x0 x1 x2 y0) (own_at [x0, x1, x2] y1)) = (0:Int32)) → own_In (own_at [x0, x1, x2] y2) (own_v223 x0 x1 x2 y0 y1).length) (hl519 : ((own_at (own_v100 x0 x1 x2 y0) (own_at [x0, x1, x2] y1)) = (0:Int32)) → ((own_at (own_v223 x0 x1 x2 y0 y1) (own_at [x0, x1, x2] y2)) = (0:Int32)) → own_In (own_at [x0, x1, x2] y2) (own_v223 x0 x1 x2 y0 y1).length) (hl535 : ((own_at (own_v100 x0 x1 x2 y0) (own_at [x0, x1, x2] y1)) = (0:Int32)) → ((own_at (own_v223 x0 x1 x2 y0 y1) (own_at [x0, x1, x2] y2)) = (0:Int32)) → own_In (own_at [x0, x1, x2] y0) (own_v524 x0 x1 x2 y0 y1 y2).length) (hl550 : ((own_at (own_v100 x0 x1 x2 y0) (own_at [x0, x1, x2] y1)) = (0:Int32)) → ((own_at (own_v223 x0 x1 x2 y0 y1) (own_at [x0, x1, x2] y2)) = (0:Int32)) → own_In (own_at [x0, x1, x2] y1) (own_v541 x0 x1 x2 y0 y1 y2).length) (hl565 : ((own_at (own_v100 x0 x1 x2 y0) (own_at [x0, x1, x2] y1)) = (0:Int32)) → ((own_at (own_v223 x0 x1 x2 y0 y1) (own_at [x0, x1, x2] y2)) = (0:Int32)) → own_In (own_at [x0, x1, x2] y2) (own_v556 x0 x1 x2 y0 y1 y2).length) (hl583 : ((own_at (own_v100 x0 x1 x2 y0) (own_at [x0, x1, x2] y1)) = (0:Int32)) → ((own_at (own_v223 x0 x1 x2 y0 y1) (own_at [x0, x1, x2] y2)) = (0:Int32)) → own_In y2 [x0, x1, x2].length) (hl587 : ((own_at (own_v100 x0 x1 x2 y0) (own_at [x0, x1, x2] y1)) = (0:Int32)) → ((own_at (own_v223 x0 x1 x2 y0 y1) (own_at [x0, x1, x2] y2)) = (0:Int32)) → own_In (own_at [x0, x1, x2] y2) (own_v571 x0 x1 x2 y0 y1 y2).length) (hl597 : ((own_at (own_v100 x0 x1 x2 y0) (own_at [x0, x1, x2] y1)) = (0:Int32)) → ((own_at (own_v223 x0 x1 x2 y0 y1) (own_at [x0, x1, x2] y2)) = (0:Int32)) → own_In (own_at [x0, x1, x2] y2) (own_v592 x0 x1 x2 y0 y1 y2).length) (hl601 : ((own_at (own_v100 x0 x1 x2 y0) (own_at [x0, x1, x2] y1)) = (0:Int32)) → ((own_at (own_v223 x0 x1 x2 y0 y1) (own_at [x0, x1, x2] y2)) = (0:Int32)) → own_In (own_at (own_v592 x0 x1 x2 y0 y1 y2) (own_at [x0, x1, x2] y2)) [(0:Int32), (0:Int32), (0:Int32)].length) (hl612 : ((own_at (own_v100 x0 x1 x2 y0) (own_at [x0, x1, x2] y1)) = (0:Int32)) → ((own_at (own_v223 x0 x1 x2 y0 y1) (own_at [x0, x1, x2] y2)) = (0:Int32)) → own_In y1 [x0, x1, x2].length) (hl617 : ((own_at (own_v100 x0 x1 x2 y0) (own_at [x0, x1, x2] y1)) = (0:Int32)) → ((own_at (own_v223 x0 x1 x2 y0 y1) (own_at [x0, x1, x2] y2)) = (0:Int32)) → own_In (own_at [x0, x1, x2] y1) (own_v592 x0 x1 x2 y0 y1 y2).length) (hl627 : ((own_at (own_v100 x0 x1 x2 y0) (own_at [x0, x1, x2] y1)) = (0:Int32)) → ((own_at (own_v223 x0 x1 x2 y0 y1) (own_at [x0, x1, x2] y2)) = (0:Int32)) → own_In (own_at [x0, x1, x2] y1) (own_v622 x0 x1 x2 y0 y1 y2).length) (hl631 : ((own_at (own_v100 x0 x1 x2 y0) (own_at [x0, x1, x2] y1)) = (0:Int32)) → ((own_at (own_v223 x0 x1 x2 y0 y1) (own_at [x0, x1, x2] y2)) = (0:Int32)) → own_In (own_at (own_v622 x0 x1 x2 y0 y1 y2) (own_at [x0, x1, x2] y1)) (own_v604 x0 x1 x2 y0 y1 y2).length) (hl642 : ((own_at (own_v100 x0 x1 x2 y0) (own_at [x0, x1, x2] y1)) = (0:Int32)) → ((own_at (own_v223 x0 x1 x2 y0 y1) (own_at [x0, x1, x2] y2)) = (0:Int32)) → own_In y0 [x0, x1, x2].length) (hl647 : ((own_at (own_v100 x0 x1 x2 y0) (own_at [x0, x1, x2] y1)) = (0:Int32)) → ((own_at (own_v223 x0 x1 x2 y0 y1) (own_at [x0, x1, x2] y2)) = (0:Int32)) → own_In (own_at [x0, x1, x2] y0) (own_v622 x0 x1 x2 y0 y1 y2).length) (hl657 : ((own_at (own_v100 x0 x1 x2 y0) (own_at [x0, x1, x2] y1)) = (0:Int32)) → ((own_at (own_v223 x0 x1 x2 y0 y1) (own_at [x0, x1, x2] y2)) = (0:Int32)) → own_In (own_at [x0, x1, x2] y0) (own_v652 x0 x1 x2 y0 y1 y2).length) (hl661 : ((own_at (own_v100 x0 x1 x2 y0) (own_at [x0, x1, x2] y1)) = (0:Int32)) → ((own_at (own_v223 x0 x1 x2 y0 y1) (own_at [x0, x1, x2] y2)) = (0:Int32)) → own_In (own_at (own_v652 x0 x1 x2 y0 y1 y2) (own_at [x0, x1, x2] y0)) (own_v634 x0 x1 x2 y0 y1 y2).length) (hl677 : ((own_at (own_v100 x0 x1 x2 y0) (own_at [x0, x1, x2] y1)) = (0:Int32)) → (¬ ((own_at (own_v223 x0 x1 x2 y0 y1) (own_at [x0, x1, x2] y2)) = (0:Int32))) → own_In (own_at [x0, x1, x2] y2) (own_v223 x0 x1 x2 y0 y1).length) (hl692 : ((own_at (own_v100 x0 x1 x2 y0) (own_at [x0, x1, x2] y1)) = (0:Int32)) → (¬ ((own_at (own_v223 x0 x1 x2 y0 y1) (own_at [x0, x1, x2] y2)) = (0:Int32))) → own_In (own_at [x0, x1, x2] y0) (own_v524 x0 x1 x2 y0 y1 y2).length) (hl706 : ((own_at (own_v100 x0 x1 x2 y0) (own_at [x0, x1, x2] y1)) = (0:Int32)) → (¬ ((own_at (own_v223 x0 x1 x2 y0 y1) (own_at [x0, x1, x2] y2)) = (0:Int32))) → own_In (own_at [x0, x1, x2] y1) (own_v541 x0 x1 x2 y0 y1 y2).length) (hl723 : ((own_at (own_v100 x0 x1 x2 y0) (own_at [x0, x1, x2] y1)) = (0:Int32)) → (¬ ((own_at (own_v223 x0 x1 x2 y0 y1) (own_at [x0, x1, x2] y2)) = (0:Int32))) → own_In y2 [x0, x1, x2].length) (hl727 : ((own_at (own_v100 x0 x1 x2 y0) (own_at [x0, x1, x2] y1)) = (0:Int32)) → (¬ ((own_at (own_v223 x0 x1 x2 y0 y1) (own_at [x0, x1, x2] y2)) = (0:Int32))) → own_In (own_at [x0, x1, x2] y2) (own_v556 x0 x1 x2 y0 y1 y2).length) (hl737 : ((own_at (own_v100 x0 x1 x2 y0) (own_at [x0, x1, x2] y1)) = (0:Int32)) → (¬ ((own_at (own_v223 x0 x1 x2 y0 y1) (own_at [x0, x1, x2] y2)) = (0:Int32))) → own_In (own_at [x0, x1, x2] y2) (own_v732 x0 x1 x2 y0 y1 y2).length) (hl741 : ((own_at (own_v100 x0 x1 x2 y0) (own_at [x0, x1, x2] y1)) = (0:Int32)) → (¬ ((own_at (own_v223 x0 x1 x2 y0 y1) (own_at [x0, x1, x2] y2)) = (0:Int32))) → own_In (own_at (own_v732 x0 x1 x2 y0 y1 y2) (own_at [x0, x1, x2] y2)) [(0:Int32), (0:Int32), (0:Int32)].length) (hl752 : ((own_at (own_v100 x0 x1 x2 y0) (own_at [x0, x1, x2] y1)) = (0:Int32)) → (¬ ((own_at (own_v223 x0 x1 x2 y0 y1) (own_at [x0, x1, x2] y2)) = (0:Int32))) → own_In y1 [x0, x1, x2].length) (hl757 : ((own_at (own_v100 x0 x1 x2 y0) (own_at [x0, x1, x2] y1)) = (0:Int32)) → (¬ ((own_at (own_v223 x0 x1 x2 y0 y1) (own_at [x0, x1, x2] y2)) = (0:Int32))) → own_In (own_at [x0, x1, x2] y1) (own_v732 x0 x1 x2 y0 y1 y2).length) (hl767 : ((own_at (own_v100 x0 x1 x2 y0) (own_at [x0, x1, x2] y1)) = (0:Int32)) → (¬ ((own_at (own_v223 x0 x1 x2 y0 y1) (own_at [x0, x1, x2] y2)) = (0:Int32))) → own_In (own_at [x0, x1, x2] y1) (own_v762 x0 x1 x2 y0 y1 y2).length) (hl771 : ((own_at (own_v100 x0 x1 x2 y0) (own_at [x0, x1, x2] y1)) = (0:Int32)) → (¬ ((own_at (own_v223 x0 x1 x2 y0 y1) (own_at [x0, x1, x2] y2)) = (0:Int32))) → own_In (own_at (own_v762 x0 x1 x2 y0 y1 y2) (own_at [x0, x1, x2] y1)) (own_v744 x0 x1 x2 y0 y1 y2).length) (hl782 : ((own_at (own_v100 x0 x1 x2 y0) (own_at [x0, x1, x2] y1)) = (0:Int32)) → (¬ ((own_at (own_v223 x0 x1 x2 y0 y1) (own_at [x0, x1, x2] y2)) = (0:Int32))) → own_In y0 [x0, x1, x2].length) (hl787 : ((own_at (own_v100 x0 x1 x2 y0) (own_at [x0, x1, x2] y1)) = (0:Int32)) → (¬ ((own_at (own_v223 x0 x1 x2 y0 y1) (own_at [x0, x1, x2] y2)) = (0:Int32))) → own_In (own_at [x0, x1, x2] y0) (own_v762 x0 x1 x2 y0 y1 y2).length) (hl797 : ((own_at (own_v100 x0 x1 x2 y0) (own_at [x0, x1, x2] y1)) = (0:Int32)) → (¬ ((own_at (own_v223 x0 x1 x2 y0 y1) (own_at [x0, x1, x2] y2)) = (0:Int32))) → own_In (own_at [x0, x1, x2] y0) (own_v792 x0 x1 x2 y0 y1 y2).length) (hl801 : ((own_at (own_v100 x0 x1 x2 y0) (own_at [x0, x1, x2] y1)) = (0:Int32)) → (¬ ((own_at (own_v223 x0 x1 x2 y0 y1) (own_at [x0, x1, x2] y2)) = (0:Int32))) → own_In (own_at (own_v792 x0 x1 x2 y0 y1 y2) (own_at [x0, x1, x2] y0)) (own_v774 x0 x1 x2 y0 y1 y2).length) (hl817 : (¬ ((own_at (own_v100 x0 x1 x2 y0) (own_at [x0, x1, x2] y1)) = (0:Int32))) → own_In (own_at [x0, x1, x2] y1) (own_v100 x0 x1 x2 y0).length) (hl831 : (¬ ((own_at (own_v100 x0 x1 x2 y0) (own_at [x0, x1, x2] y1)) = (0:Int32))) → own_In y2 [x0, x1, x2].length) (hl835 : (¬ ((own_at (own_v100 x0 x1 x2 y0) (own_at [x0, x1, x2] y1)) = (0:Int32))) → own_In (own_at [x0, x1, x2] y2) (own_v223 x0 x1 x2 y0 y1).length) (hl853 : (¬ ((own_at (own_v100 x0 x1 x2 y0) (own_at [x0, x1, x2] y1)) = (0:Int32))) → ((own_at (own_v223 x0 x1 x2 y0 y1) (own_at [x0, x1, x2] y2)) = (0:Int32)) → own_In (own_at [x0, x1, x2] y2) (own_v223 x0 x1 x2 y0 y1).length) (hl868 : (¬ ((own_at (own_v100 x0 x1 x2 y0) (own_at [x0, x1, x2] y1)) = (0:Int32))) → ((own_at (own_v223 x0 x1 x2 y0 y1) (own_at [x0, x1, x2] y2)) = (0:Int32)) → own_In (own_at [x0, x1, x2] y0) (own_v524 x0 x1 x2 y0 y1 y2).length) (hl882 : (¬ ((own_at (own_v100 x0 x1 x2 y0) (own_at [x0, x1, x2] y1)) = (0:Int32))) → ((own_at (own_v223 x0 x1 x2 y0 y1) (own_at [x0, x1, x2] y2)) = (0:Int32)) → own_In (own_at [x0, x1, x2] y2) (own_v541 x0 x1 x2 y0 y1 y2).length) (hl900 : (¬ ((own_at (own_v100 x0 x1 x2 y0) (own_at [x0, x1, x2] y1)) = (0:Int32))) → ((own_at (own_v223 x0 x1 x2 y0 y1) (own_at [x0, x1, x2] y2)) = (0:Int32)) → own_In y2 [x0, x1, x2].length) (hl904 : (¬ ((own_at (own_v100 x0 x1 x2 y0) (own_at [x0, x1, x2] y1)) = (0:Int32))) → ((own_at (own_v223 x0 x1 x2 y0 y1) (own_at [x0, x1, x2] y2)) = (0:Int32)) → own_In (own_at [x0, x1, x2] y2) (own_v888 x0 x1 x2 y0 y1 y2).length) (hl914 : (¬ ((own_at (own_v100 x0 x1 x2 y0) (own_at [x0, x1, x2] y1)) = (0:Int32))) → ((own_at (own_v223 x0 x1 x2 y0 y1) (own_at [x0, x1, x2] y2)) = (0:Int32)) → own_In (own_at [x0, x1, x2] y2) (own_v909 x0 x1 x2 y0 y1 y2).length) (hl918 : (¬ ((own_at (own_v100 x0 x1 x2 y0) (own_at [x0, x1, x2] y1)) = (0:Int32))) → ((own_at (own_v223 x0 x1 x2 y0 y1) (own_at [x0, x1, x2] y2)) = (0:Int32)) → own_In (own_at (own_v909 x0 x1 x2 y0 y1 y2) (own_at [x0, x1, x2] y2)) [(0:Int32), (0:Int32), (0:Int32)].length) (hl929 : (¬ ((own_at (own_v100 x0 x1 x2 y0) (own_at [x0, x1, x2] y1)) = (0:Int32))) → ((own_at (own_v223 x0 x1 x2 y0 y1) (own_at [x0, x1, x2] y2)) = (0:Int32)) → own_In y1 [x0, x1, x2].length) (hl934 : (¬ ((own_at (own_v100 x0 x1 x2 y0) (own_at [x0, x1, x2] y1)) = (0:Int32))) → ((own_at (own_v223 x0 x1 x2 y0 y1) (own_at [x0, x1, x2] y2)) = (0:Int32)) → own_In (own_at [x0, x1, x2] y1) (own_v909 x0 x1 x2 y0 y1 y2).length) (hl944 : (¬ ((own_at (own_v100 x0 x1 x2 y0) (own_at [x0, x1, x2] y1)) = (0:Int32))) → ((own_at (own_v223 x0 x1 x2 y0 y1) (own_at [x0, x1, x2] y2)) = (0:Int32)) → own_In (own_at [x0, x1, x2] y1) (own_v939 x0 x1 x2 y0 y1 y2).length) (hl948 : (¬ ((own_at (own_v100 x0 x1 x2 y0) (own_at [x0, x1, x2] y1)) = (0:Int32))) → ((own_at (own_v223 x0 x1 x2 y0 y1) (own_at [x0, x1, x2] y2)) = (0:Int32)) → own_In (own_at (own_v939 x0 x1 x2 y0 y1 y2) (own_at [x0, x1, x2] y1)) (own_v921 x0 x1 x2 y0 y1 y2).length) (hl959 : (¬ ((own_at (own_v100 x0 x1 x2 y0) (own_at [x0, x1, x2] y1)) = (0:Int32))) → ((own_at (own_v223 x0 x1 x2 y0 y1) (own_at [x0, x1, x2] y2)) = (0:Int32)) → own_In y0 [x0, x1, x2].length) (hl964 : (¬ ((own_at (own_v100 x0 x1 x2 y0) (own_at [x0, x1, x2] y1)) = (0:Int32))) → ((own_at (own_v223 x0 x1 x2 y0 y1) (own_at [x0, x1, x2] y2)) = (0:Int32)) → own_In (own_at [x0, x1, x2] y0) (own_v939 x0 x1 x2 y0 y1 y2).length) (hl974 : (¬ ((own_at (own_v100 x0 x1 x2 y0) (own_at [x0, x1, x2] y1)) = (0:Int32))) → ((own_at (own_v223 x0 x1 x2 y0 y1) (own_at [x0, x1, x2] y2)) = (0:Int32)) → own_In (own_at [x0, x1, x2] y0) (own_v969 x0 x1 x2 y0 y1 y2).length) (hl978 : (¬ ((own_at (own_v100 x0 x1 x2 y0) (own_at [x0, x1, x2] y1)) = (0:Int32))) → ((own_at (own_v223 x0 x1 x2 y0 y1) (own_at [x0, x1, x2] y2)) = (0:Int32)) → own_In (own_at (own_v969 x0 x1 x2 y0 y1 y2) (own_at [x0, x1, x2] y0)) (own_v951 x0 x1 x2 y0 y1 y2).length) (hl994 : (¬ ((own_at (own_v100 x0 x1 x2 y0) (own_at [x0, x1, x2] y1)) = (0:Int32))) → (¬ ((own_at (own_v223 x0 x1 x2 y0 y1) (own_at [x0, x1, x2] y2)) = (0:Int32))) → own_In (own_at [x0, x1, x2] y2) (own_v223 x0 x1 x2 y0 y1).length) (hl1009 : (¬ ((own_at (own_v100 x0 x1 x2 y0) (own_at [x0, x1, x2] y1)) = (0:Int32))) → (¬ ((own_at (own_v223 x0 x1 x2 y0 y1) (own_at [x0, x1, x2] y2)) = (0:Int32))) → own_In (own_at [x0, x1, x2] y0) (own_v524 x0 x1 x2 y0 y1 y2).length) (hl1026 : (¬ ((own_at (own_v100 x0 x1 x2 y0) (own_at [x0, x1, x2] y1)) = (0:Int32))) → (¬ ((own_at (own_v223 x0 x1 x2 y0 y1) (own_at [x0, x1, x2] y2)) = (0:Int32))) → own_In y2 [x0, x1, x2].length) (hl1030 : (¬ ((own_at (own_v100 x0 x1 x2 y0) (own_at [x0, x1, x2] y1)) = (0:Int32))) → (¬ ((own_at (own_v223 x0 x1 x2 y0 y1) (own_at [x0, x1, x2] y2)) = (0:Int32))) → own_In (own_at [x0, x1, x2] y2) (own_v541 x0 x1 x2 y0 y1 y2).length) (hl1040 : (¬ ((own_at (own_v100 x0 x1 x2 y0) (own_at [x0, x1, x2] y1)) = (0:Int32))) → (¬ ((own_at (own_v223 x0 x1 x2 y0 y1) (own_at [x0, x1, x2] y2)) = (0:Int32))) → own_In (own_at [x0, x1, x2] y2) (own_v1035 x0 x1 x2 y0 y1 y2).length) (hl1044 : (¬ ((own_at (own_v100 x0 x1 x2 y0) (own_at [x0, x1, x2] y1)) = (0:Int32))) → (¬ ((own_at (own_v223 x0 x1 x2 y0 y1) (own_at [x0, x1, x2] y2)) = (0:Int32))) → own_In (own_at (own_v1035 x0 x1 x2 y0 y1 y2) (own_at [x0, x1, x2] y2)) [(0:Int32), (0:Int32), (0:Int32)].length) (hl1055 : (¬ ((own_at (own_v100 x0 x1 x2 y0) (own_at [x0, x1, x2] y1)) = (0:Int32))) → (¬ ((own_at (own_v223 x0 x1 x2 y0 y1) (own_at [x0, x1, x2] y2)) = (0:Int32))) → own_In y1 [x0, x1, x2].length) (hl1060 : (¬ ((own_at (own_v100 x0 x1 x2 y0) (own_at [x0, x1, x2] y1)) = (0:Int32))) → (¬ ((own_at (own_v223 x0 x1 x2 y0 y1) (own_at [x0, x1, x2] y2)) = (0:Int32))) → own_In (own_at [x0, x1, x2] y1) (own_v1035 x0 x1 x2 y0 y1 y2).length) (hl1070 : (¬ ((own_at (own_v100 x0 x1 x2 y0) (own_at [x0, x1, x2] y1)) = (0:Int32))) → (¬ ((own_at (own_v223 x0 x1 x2 y0 y1) (own_at [x0, x1, x2] y2)) = (0:Int32))) → own_In (own_at [x0, x1, x2] y1) (own_v1065 x0 x1 x2 y0 y1 y2).length) (hl1074 : (¬ ((own_at (own_v100 x0 x1 x2 y0) (own_at [x0, x1, x2] y1)) = (0:Int32))) → (¬ ((own_at (own_v223 x0 x1 x2 y0 y1) (own_at [x0, x1, x2] y2)) = (0:Int32))) → own_In (own_at (own_v1065 x0 x1 x2 y0 y1 y2) (own_at [x0, x1, x2] y1)) (own_v1047 x0 x1 x2 y0 y1 y2).length) (hl1085 : (¬ ((own_at (own_v100 x0 x1 x2 y0) (own_at [x0, x1, x2] y1)) = (0:Int32))) → (¬ ((own_at (own_v223 x0 x1 x2 y0 y1) (own_at [x0, x1, x2] y2)) = (0:Int32))) → own_In y0 [x0, x1, x2].length) (hl1090 : (¬ ((own_at (own_v100 x0 x1 x2 y0) (own_at [x0, x1, x2] y1)) = (0:Int32))) → (¬ ((own_at (own_v223 x0 x1 x2 y0 y1) (own_at [x0, x1, x2] y2)) = (0:Int32))) → own_In (own_at [x0, x1, x2] y0) (own_v1065 x0 x1 x2 y0 y1 y2).length) (hl1100 : (¬ ((own_at (own_v100 x0 x1 x2 y0) (own_at [x0, x1, x2] y1)) = (0:Int32))) → (¬ ((own_at (own_v223 x0 x1 x2 y0 y1) (own_at [x0, x1, x2] y2)) = (0:Int32))) → own_In (own_at [x0, x1, x2] y0) (own_v1095 x0 x1 x2 y0 y1 y2).length) (hl1104 : (¬ ((own_at (own_v100 x0 x1 x2 y0) (own_at [x0, x1, x2] y1)) = (0:Int32))) → (¬ ((own_at (own_v223 x0 x1 x2 y0 y1) (own_at [x0, x1, x2] y2)) = (0:Int32))) → own_In (own_at (own_v1095 x0 x1 x2 y0 y1 y2) (own_at [x0, x1, x2] y0)) (own_v1077 x0 x1 x2 y0 y1 y2).length) :
    MetFree l (⟨"com/example/spare_calculus/sparecalculus/bisim/LabelGroups", "group", "()I"⟩ : MethodName) (head1 (Jvm.Cond.code (⟨"com/example/spare_calculus/sparecalculus/bisim/LabelGroups", "group", "()I"⟩ : MethodName) prog_15_method_3_code 5 (some .int) :: ws) ({ frames := 0, cells := 0, slots := 0, locals := 0 } : Room)) (fun a U => a = #[(.ref a0)] ∧ Z.Warmed39 U.vm ∧ U.heap = h0) (fun _ _ _ _ _ => True) (fun _ U o U' => ∃ v L, o = .returned v ∧ Q4m3 Z a0 la mv gr gl gs x0 x1 x2 y0 y1 y2 h0 n0 v U'.heap L ∧ FrameEnd U o U' L ({ frames := 0, cells := 0, slots := 0, locals := 0 } : Room).cells ({ frames := 0, cells := 0, slots := 0, locals := 0 } : Room).slots) := by
  refine MetFree.of_bodySF (plainFor_of_name own_pn0) hisR ?_
  intro p e s m args below meth c s₁ Bd hml0 hP hK
  obtain ⟨rfl, hZ, hh⟩ := hP
  have hx := Bd.exec
  have hby := Bd.bytes
  have hml : c.maxLocals = 5 := hml0
  have hown : s.vm.findClass "com/example/spare_calculus/sparecalculus/bisim/LabelGroups" = some m.cls := findClass_of_methodNamed Bd.named
  have hnm := (name_of_methodNamed Bd.named Bd.method).1
  have X0 : Stand p l e ({ frames := 0, cells := 0, slots := 0, locals := 0 } : Room) s m #[(.ref a0)] below meth c s₁ [] 0 0 := Stand.of_body Bd
  have e0 : s₁.heap = h0 := by rw [← hh, Bd.state]; rfl
  have N0 := Fr.nil n0
  have Kp0 : Keep h0 h0 [a0, gr, gl, gs] := Keep.refl _ _
  have D : ∀ {pc : Nat} {r : Except ClassFile.DecodeError (ClassFile.Instr × Nat)}, decode prog_15_method_3_code pc = r → decode c.code pc = r := fun h => hb hby h
  show own_Goes p e below s (Q4m3 Z a0 la mv gr gl gs x0 x1 x2 y0 y1 y2 h0 n0) ({ frames := 0, cells := 0, slots := 0, locals := 0 } : Room).cells ({ frames := 0, cells := 0, slots := 0, locals := 0 } : Room).slots _
  refine own_pre (fun t k => castTop (ef4m3 m a0) k) ?_
  refine own_pA s₁ m 4 #[rv a0, iv (0:Int32), .unset, .unset, .unset] [(.ref a0), (.int (0:Int32))] (fun t k => ?_) ?_
  ·refine XS.iconst X0.here hx rfl (D d4_0) ?_
   refine XS.istoreN X0.here hx rfl (D d4_1) rfl (l' := #[rv a0, iv (0:Int32), .unset, .unset, .unset]) rfl ?_
   refine XS.iloadN X0.here hx rfl (D d4_2) rfl ?_
   exact XS.aloadN X0.here hx rfl (D d4_3) rfl rfl k
  refine own_getF X0 hx hZ hown (host := "") (Or.inl (own_h hw 26 rfl)) Via.refl e0 P6 rfl rfl (D d4_4) (fun T426 X426 e426 => ?_)
  refine own_pA T426 m 11 #[rv a0, iv (0:Int32), .unset, .unset, .unset] [(.ref a0)] (fun t k => ?_) ?_
  ·refine XS.icmpNo X426.here hx rfl (D d4_7) rfl (XT.ii_ge_f (by decide)) ?_
   exact XS.aloadN X426.here hx rfl (D d4_10) rfl rfl k
  refine own_getF X426 hx hZ hown (host := "") (Or.inl (own_h hw 11 rfl)) Via.refl e426 P1 rfl rfl (D d4_11) (fun T427 X427 e427 => ?_)
  refine own_pA T427 m 15 #[rv a0, iv (0:Int32), .unset, .unset, .unset] [(.ref a0), (.ref la)] (fun t k => ?_) ?_
  ·exact XS.aloadN X427.here hx rfl (D d4_14) rfl rfl k
  refine own_getF X427 hx hZ hown (host := "") (Or.inl (own_h hw 13 rfl)) Via.refl e427 P2 rfl rfl (D d4_15) (fun T428 X428 e428 => ?_)
  have hbn429 : own_In (0:Int32) [y0, y1, y2].length := own_lit rfl
  have hbn431 : own_In y0 [x0, x1, x2].length := hl430
  refine own_pA T428 m 23 #[.val (.ref a0), .val (.int (0:Int32)), .val (.int (own_at [x0, x1, x2] y0)), .unset, .unset] [(.ref a0)] (fun t k => ?_) ?_
  ·refine XS.iloadN X428.here hx rfl (D d4_18) rfl ?_
   refine own_iaload X428 hx hZ e428 P9 hbn429 rfl rfl (D d4_19) ?_
   refine own_iaload X428 hx hZ e428 P8 hbn431 rfl rfl (D d4_20) ?_
   refine XS.istoreN X428.here hx rfl (D d4_21) rfl (l' := #[.val (.ref a0), .val (.int (0:Int32)), .val (.int (own_at [x0, x1, x2] y0)), .unset, .unset]) rfl ?_
   exact XS.aloadN X428.here hx rfl (D d4_22) rfl rfl k
  refine own_getF X428 hx hZ hown (host := "") (Or.inl (own_h hw 19 rfl)) Via.refl e428 P5 rfl rfl (D d4_23) (fun T432 X432 e432 => ?_)
  have hbn434 : own_In (own_at [x0, x1, x2] y0) [(0:Int32), (0:Int32), (0:Int32)].length := hl433
  have hd28_1 : (own_at [(0:Int32), (0:Int32), (0:Int32)] (own_at [x0, x1, x2] y0)) = (0:Int32) := own_z3 _
  refine own_pA T432 m 32 #[.val (.ref a0), .val (.int (0:Int32)), .val (.int (own_at [x0, x1, x2] y0)), .unset, .unset] [(.ref a0)] (fun t k => ?_) ?_
  ·refine XS.iloadN X432.here hx rfl (D d4_26) rfl ?_
   refine own_iaload X432 hx hZ e432 P12 hbn434 rfl rfl (D d4_27) ?_
   refine XS.ifNo X432.here hx rfl (D d4_28) rfl (XT.i0_ne_f hd28_1) ?_
   exact XS.aloadN X432.here hx rfl (D d4_31) rfl rfl k
  refine own_getF X432 hx hZ hown (host := "") (Or.inl (own_h hw 17 rfl)) Via.refl e432 P4 rfl rfl (D d4_32) (fun T435 X435 e435 => ?_)
  refine own_pA T435 m 36 #[.val (.ref a0), .val (.int (0:Int32)), .val (.int (own_at [x0, x1, x2] y0)), .unset, .unset] [(.ref a0), (.ref gl)] (fun t k => ?_) ?_
  ·exact XS.aloadN X435.here hx rfl (D d4_35) rfl rfl k
  refine own_getF X435 hx hZ hown (host := "") (Or.inl (own_h hw 33 rfl)) Via.refl e435 P7 rfl rfl (D d4_36) (fun T436 X436 e436 => ?_)
  refine own_pA T436 m 40 #[.val (.ref a0), .val (.int (0:Int32)), .val (.int (own_at [x0, x1, x2] y0)), .unset, .unset] [(.int (own_at [x0, x1, x2] y0)), (.int (0:Int32)), (.ref gl)] (fun t k => ?_) ?_
  ·exact XS.iloadN X436.here hx rfl (D d4_39) rfl k
  have hbn438 : own_In (0:Int32) [(0:Int32), (0:Int32), (0:Int32)].length := own_lit rfl
  refine own_iastG X436 hx hZ e436 P11 hbn438 rfl rfl (D d4_40) (fun T437 h437 X437 e437 W437 V437 => ?_)
  have Kp437 : Keep h0 h437 [a0, gr, gl, gs] := Kp0.wr W437 (Or.inl (List.mem_of_getElem? (i := 2) rfl))
  have Z439 : n0 ≤ h437.size := Nat.le_trans Z0 (Nat.le_of_eq W437.size.symm)
  have N437 := Fr.snoc X437 N0 gq_gl
  have Vw437 : own_Ints Z h437 gl [(own_at [x0, x1, x2] y0), (0:Int32), (0:Int32)] := V437
  refine own_pA T437 m 43 #[.val (.ref a0), .val (.int (0:Int32)), .val (.int (own_at [x0, x1, x2] y0)), .unset, .unset] [(.ref a0), (.ref a0)] (fun t k => ?_) ?_
  ·refine XS.aloadN X437.here hx rfl (D d4_41) rfl rfl ?_
   exact XS.dup X437.here hx rfl (D d4_42) rfl rfl k
  have F441 := (P7.other W437 (Or.inl nq_a0_gl))
  refine own_getF X437 hx hZ hown (host := "") (Or.inl (own_h hw 33 rfl)) Via.refl e437 F441 rfl rfl (D d4_43) (fun T440 X440 e440 => ?_)
  refine own_pA T440 m 48 #[.val (.ref a0), .val (.int (0:Int32)), .val (.int (own_at [x0, x1, x2] y0)), .unset, .unset] [(.int (1:Int32)), (.ref a0)] (fun t k => ?_) ?_
  ·refine XS.iconst X440.here hx rfl (D d4_46) ?_
   exact XS.iadd X440.here hx rfl (D d4_47) rfl k
  have F443 := (P0.wr W437)
  obtain ⟨T442, h442, X442, e442, W442, st442⟩ := putF X440 hx hZ hown (host := "") (Or.inl (own_h hw 33 rfl)) Via.refl e440 F441 F443 (Or.inl (own_h hw 34 rfl)) (own_h hw 3 rfl) (ty := .int) (by decide) rfl rfl (g := (mkF m 48 #[.val (.ref a0), .val (.int (0:Int32)), .val (.int (own_at [x0, x1, x2] y0)), .unset, .unset] [(.int (1:Int32)), (.ref a0)])) rfl rfl (D d4_48)
  have Kp442 : Keep h0 h442 [a0, gr, gl, gs] := Kp437.wr W442 (Or.inl (List.mem_of_getElem? (i := 0) rfl))
  have Z444 : n0 ≤ h442.size := Nat.le_trans Z439 (Nat.le_of_eq W442.size.symm)
  have N442 := Fr.snoc X442 N437 gq_a0
  have Fw442 := F441.same W442
  refine own_pre st442 ?_
  refine own_pA T442 m 52 #[.val (.ref a0), .val (.int (0:Int32)), .val (.int (own_at [x0, x1, x2] y0)), .unset, .unset] [(.ref a0)] (fun t k => ?_) ?_
  ·exact XS.aloadN X442.here hx rfl (D d4_51) rfl rfl k
  have F446 := ((P5.other W437 (Or.inl nq_a0_gl)).other W442 (Or.inr (slot_ne (Or.inr (own_h hw 20 rfl)) (Or.inl (own_h hw 34 rfl)) (by decide) (t := (.array .int)) (t' := .int) (by decide) (by decide))))
  refine own_getF X442 hx hZ hown (host := "") (Or.inl (own_h hw 19 rfl)) Via.refl e442 F446 rfl rfl (D d4_52) (fun T445 X445 e445 => ?_)
  have F447 := ((P12.other W437 (Ne.symm nq_gl_gs)).other W442 (Ne.symm nq_a0_gs))
  have hbn448 : own_In (own_at [x0, x1, x2] y0) [(0:Int32), (0:Int32), (0:Int32)].length := hl433
  refine own_pA T445 m 60 #[.val (.ref a0), .val (.int (0:Int32)), .val (.int (own_at [x0, x1, x2] y0)), .unset, .unset] [(.int ((own_at [(0:Int32), (0:Int32), (0:Int32)] (own_at [x0, x1, x2] y0)) + (1:Int32))), (.int (own_at [x0, x1, x2] y0)), (.ref gs)] (fun t k => ?_) ?_
  ·refine XS.iloadN X445.here hx rfl (D d4_55) rfl ?_
   refine XT.dup2 X445.here hx rfl (D d4_56) rfl rfl rfl ?_
   refine own_iaload X445 hx hZ e445 F447 hbn448 rfl rfl (D d4_57) ?_
   refine XS.iconst X445.here hx rfl (D d4_58) ?_
   exact XS.iadd X445.here hx rfl (D d4_59) rfl k
  have hbn450 : own_In (own_at [x0, x1, x2] y0) [(0:Int32), (0:Int32), (0:Int32)].length := hl433
  refine own_iastG X445 hx hZ e445 F447 hbn450 rfl rfl (D d4_60) (fun T449 h449 X449 e449 W449 V449 => ?_)
  have Kp449 : Keep h0 h449 [a0, gr, gl, gs] := Kp442.wr W449 (Or.inl (List.mem_of_getElem? (i := 3) rfl))
  have Z451 : n0 ≤ h449.size := Nat.le_trans Z444 (Nat.le_of_eq W449.size.symm)
  have N449 := Fr.snoc X449 N442 gq_gs
  have Vw449 : own_Ints Z h449 gs (own_v100 x0 x1 x2 y0) := V449
  refine own_pA T449 m 4 #[.val (.ref a0), .val (.int (1:Int32)), .val (.int (own_at [x0, x1, x2] y0)), .unset, .unset] [(.ref a0), (.int (1:Int32))] (fun t k => ?_) ?_
  ·refine XS.iinc X449.here hx rfl (D d4_61) rfl (l' := #[.val (.ref a0), .val (.int (1:Int32)), .val (.int (own_at [x0, x1, x2] y0)), .unset, .unset]) rfl ?_
   refine XS.goto X449.here hx rfl (pc0 := 64) (pc' := 2) rfl (D d4_64) (by decide) (by decide) ?_
   refine XS.iloadN X449.here hx rfl (D d4_2) rfl ?_
   exact XS.aloadN X449.here hx rfl (D d4_3) rfl rfl k
  have F453 := (((P6.other W437 (Or.inl nq_a0_gl)).other W442 (Or.inr (slot_ne (Or.inl (own_h hw 27 rfl)) (Or.inl (own_h hw 34 rfl)) (by decide) (t := .int) (t' := .int) (by decide) (by decide)))).other W449 (Or.inl nq_a0_gs))
  refine own_getF X449 hx hZ hown (host := "") (Or.inl (own_h hw 26 rfl)) Via.refl e449 F453 rfl rfl (D d4_4) (fun T452 X452 e452 => ?_)
  refine own_pA T452 m 11 #[.val (.ref a0), .val (.int (1:Int32)), .val (.int (own_at [x0, x1, x2] y0)), .unset, .unset] [(.ref a0)] (fun t k => ?_) ?_
  ·refine XS.icmpNo X452.here hx rfl (D d4_7) rfl (XT.ii_ge_f (by decide)) ?_
   exact XS.aloadN X452.here hx rfl (D d4_10) rfl rfl k
  have F455 := (((P1.other W437 (Or.inl nq_a0_gl)).other W442 (Or.inr (slot_ne (Or.inr (own_h hw 12 rfl)) (Or.inl (own_h hw 34 rfl)) (by decide) (t := (.array .int)) (t' := .int) (by decide) (by decide)))).other W449 (Or.inl nq_a0_gs))
  refine own_getF X452 hx hZ hown (host := "") (Or.inl (own_h hw 11 rfl)) Via.refl e452 F455 rfl rfl (D d4_11) (fun T454 X454 e454 => ?_)
  refine own_pA T454 m 15 #[.val (.ref a0), .val (.int (1:Int32)), .val (.int (own_at [x0, x1, x2] y0)), .unset, .unset] [(.ref a0), (.ref la)] (fun t k => ?_) ?_
  ·exact XS.aloadN X454.here hx rfl (D d4_14) rfl rfl k
  have F457 := (((P2.other W437 (Or.inl nq_a0_gl)).other W442 (Or.inr (slot_ne (Or.inr (own_h hw 14 rfl)) (Or.inl (own_h hw 34 rfl)) (by decide) (t := (.array .int)) (t' := .int) (by decide) (by decide)))).other W449 (Or.inl nq_a0_gs))
  refine own_getF X454 hx hZ hown (host := "") (Or.inl (own_h hw 13 rfl)) Via.refl e454 F457 rfl rfl (D d4_15) (fun T456 X456 e456 => ?_)
  have F458 := (((P9.other W437 nq_mv_gl).other W442 (Ne.symm nq_a0_mv)).other W449 nq_mv_gs)
  have hbn459 : own_In (1:Int32) [y0, y1, y2].length := own_lit rfl
  have F460 := (((P8.other W437 nq_la_gl).other W442 (Ne.symm nq_a0_la)).other W449 nq_la_gs)
  have hbn462 : own_In y1 [x0, x1, x2].length := hl461
  refine own_pA T456 m 23 #[.val (.ref a0), .val (.int (1:Int32)), .val (.int (own_at [x0, x1, x2] y1)), .unset, .unset] [(.ref a0)] (fun t k => ?_) ?_
  ·refine XS.iloadN X456.here hx rfl (D d4_18) rfl ?_
   refine own_iaload X456 hx hZ e456 F458 hbn459 rfl rfl (D d4_19) ?_
   refine own_iaload X456 hx hZ e456 F460 hbn462 rfl rfl (D d4_20) ?_
   refine XS.istoreN X456.here hx rfl (D d4_21) rfl (l' := #[.val (.ref a0), .val (.int (1:Int32)), .val (.int (own_at [x0, x1, x2] y1)), .unset, .unset]) rfl ?_
   exact XS.aloadN X456.here hx rfl (D d4_22) rfl rfl k
  have F464 := (F446.other W449 (Or.inl nq_a0_gs))
  refine own_getF X456 hx hZ hown (host := "") (Or.inl (own_h hw 19 rfl)) Via.refl e456 F464 rfl rfl (D d4_23) (fun T463 X463 e463 => ?_)
  have hbn466 : own_In (own_at [x0, x1, x2] y1) (own_v100 x0 x1 x2 y0).length := hl465
  refine own_pA T463 m 28 #[.val (.ref a0), .val (.int (1:Int32)), .val (.int (own_at [x0, x1, x2] y1)), .unset, .unset] [(.int (own_at (own_v100 x0 x1 x2 y0) (own_at [x0, x1, x2] y1)))] (fun t k => ?_) ?_
  ·refine XS.iloadN X463.here hx rfl (D d4_26) rfl ?_
   exact own_iaload X463 hx hZ e463 Vw449 hbn466 rfl rfl (D d4_27) k
  by_cases hs28_2 : (own_at (own_v100 x0 x1 x2 y0) (own_at [x0, x1, x2] y1)) = (0:Int32)
  ·refine own_pA T463 m 32 #[.val (.ref a0), .val (.int (1:Int32)), .val (.int (own_at [x0, x1, x2] y1)), .unset, .unset] [(.ref a0)] (fun t k => ?_) ?_
   ·refine XS.ifNo X463.here hx rfl (D d4_28) rfl (XT.i0_ne_f hs28_2) ?_
    exact XS.aloadN X463.here hx rfl (D d4_31) rfl rfl k
   have F468 := (((P4.other W437 (Or.inl nq_a0_gl)).other W442 (Or.inr (slot_ne (Or.inr (own_h hw 18 rfl)) (Or.inl (own_h hw 34 rfl)) (by decide) (t := (.array .int)) (t' := .int) (by decide) (by decide)))).other W449 (Or.inl nq_a0_gs))
   refine own_getF X463 hx hZ hown (host := "") (Or.inl (own_h hw 17 rfl)) Via.refl e463 F468 rfl rfl (D d4_32) (fun T467 X467 e467 => ?_)
   refine own_pA T467 m 36 #[.val (.ref a0), .val (.int (1:Int32)), .val (.int (own_at [x0, x1, x2] y1)), .unset, .unset] [(.ref a0), (.ref gl)] (fun t k => ?_) ?_
   ·exact XS.aloadN X467.here hx rfl (D d4_35) rfl rfl k
   have F470 := (Fw442.other W449 (Or.inl nq_a0_gs))
   refine own_getF X467 hx hZ hown (host := "") (Or.inl (own_h hw 33 rfl)) Via.refl e467 F470 rfl rfl (D d4_36) (fun T469 X469 e469 => ?_)
   refine own_pA T469 m 40 #[.val (.ref a0), .val (.int (1:Int32)), .val (.int (own_at [x0, x1, x2] y1)), .unset, .unset] [(.int (own_at [x0, x1, x2] y1)), (.int (1:Int32)), (.ref gl)] (fun t k => ?_) ?_
   ·exact XS.iloadN X469.here hx rfl (D d4_39) rfl k
   have F472 := ((Vw437.other W442 (Ne.symm nq_a0_gl)).other W449 nq_gl_gs)
   have hbn473 : own_In (1:Int32) [(own_at [x0, x1, x2] y0), (0:Int32), (0:Int32)].length := own_lit rfl
   refine own_iastG X469 hx hZ e469 F472 hbn473 rfl rfl (D d4_40) (fun T471 h471 X471 e471 W471 V471 => ?_)
   have Kp471 : Keep h0 h471 [a0, gr, gl, gs] := Kp449.wr W471 (Or.inl (List.mem_of_getElem? (i := 2) rfl))
   have Z474 : n0 ≤ h471.size := Nat.le_trans Z451 (Nat.le_of_eq W471.size.symm)
   have N471 := Fr.snoc X471 N449 gq_gl
   have Vw471 : own_Ints Z h471 gl [(own_at [x0, x1, x2] y0), (own_at [x0, x1, x2] y1), (0:Int32)] := V471
   refine own_pA T471 m 43 #[.val (.ref a0), .val (.int (1:Int32)), .val (.int (own_at [x0, x1, x2] y1)), .unset, .unset] [(.ref a0), (.ref a0)] (fun t k => ?_) ?_
   ·refine XS.aloadN X471.here hx rfl (D d4_41) rfl rfl ?_
    exact XS.dup X471.here hx rfl (D d4_42) rfl rfl k
   have F476 := (F470.other W471 (Or.inl nq_a0_gl))
   refine own_getF X471 hx hZ hown (host := "") (Or.inl (own_h hw 33 rfl)) Via.refl e471 F476 rfl rfl (D d4_43) (fun T475 X475 e475 => ?_)
   refine own_pA T475 m 48 #[.val (.ref a0), .val (.int (1:Int32)), .val (.int (own_at [x0, x1, x2] y1)), .unset, .unset] [(.int (2:Int32)), (.ref a0)] (fun t k => ?_) ?_
   ·refine XS.iconst X475.here hx rfl (D d4_46) ?_
    exact XS.iadd X475.here hx rfl (D d4_47) rfl k
   have F478 := (((F443.wr W442).wr W449).wr W471)
   obtain ⟨T477, h477, X477, e477, W477, st477⟩ := putF X475 hx hZ hown (host := "") (Or.inl (own_h hw 33 rfl)) Via.refl e475 F476 F478 (Or.inl (own_h hw 34 rfl)) (own_h hw 3 rfl) (ty := .int) (by decide) rfl rfl (g := (mkF m 48 #[.val (.ref a0), .val (.int (1:Int32)), .val (.int (own_at [x0, x1, x2] y1)), .unset, .unset] [(.int (2:Int32)), (.ref a0)])) rfl rfl (D d4_48)
   have Kp477 : Keep h0 h477 [a0, gr, gl, gs] := Kp471.wr W477 (Or.inl (List.mem_of_getElem? (i := 0) rfl))
   have Z479 : n0 ≤ h477.size := Nat.le_trans Z474 (Nat.le_of_eq W477.size.symm)
   have N477 := Fr.snoc X477 N471 gq_a0
   have Fw477 := F476.same W477
   refine own_pre st477 ?_
   refine own_pA T477 m 52 #[.val (.ref a0), .val (.int (1:Int32)), .val (.int (own_at [x0, x1, x2] y1)), .unset, .unset] [(.ref a0)] (fun t k => ?_) ?_
   ·exact XS.aloadN X477.here hx rfl (D d4_51) rfl rfl k
   have F481 := ((F464.other W471 (Or.inl nq_a0_gl)).other W477 (Or.inr (slot_ne (Or.inr (own_h hw 20 rfl)) (Or.inl (own_h hw 34 rfl)) (by decide) (t := (.array .int)) (t' := .int) (by decide) (by decide))))
   refine own_getF X477 hx hZ hown (host := "") (Or.inl (own_h hw 19 rfl)) Via.refl e477 F481 rfl rfl (D d4_52) (fun T480 X480 e480 => ?_)
   have F482 := ((Vw449.other W471 (Ne.symm nq_gl_gs)).other W477 (Ne.symm nq_a0_gs))
   have hbn484 : own_In (own_at [x0, x1, x2] y1) (own_v100 x0 x1 x2 y0).length := hl483 hs28_2
   refine own_pA T480 m 60 #[.val (.ref a0), .val (.int (1:Int32)), .val (.int (own_at [x0, x1, x2] y1)), .unset, .unset] [(.int ((own_at (own_v100 x0 x1 x2 y0) (own_at [x0, x1, x2] y1)) + (1:Int32))), (.int (own_at [x0, x1, x2] y1)), (.ref gs)] (fun t k => ?_) ?_
   ·refine XS.iloadN X480.here hx rfl (D d4_55) rfl ?_
    refine XT.dup2 X480.here hx rfl (D d4_56) rfl rfl rfl ?_
    refine own_iaload X480 hx hZ e480 F482 hbn484 rfl rfl (D d4_57) ?_
    refine XS.iconst X480.here hx rfl (D d4_58) ?_
    exact XS.iadd X480.here hx rfl (D d4_59) rfl k
   have hbn486 : own_In (own_at [x0, x1, x2] y1) (own_v100 x0 x1 x2 y0).length := hl483 hs28_2
   refine own_iastG X480 hx hZ e480 F482 hbn486 rfl rfl (D d4_60) (fun T485 h485 X485 e485 W485 V485 => ?_)
   have Kp485 : Keep h0 h485 [a0, gr, gl, gs] := Kp477.wr W485 (Or.inl (List.mem_of_getElem? (i := 3) rfl))
   have Z487 : n0 ≤ h485.size := Nat.le_trans Z479 (Nat.le_of_eq W485.size.symm)
   have N485 := Fr.snoc X485 N477 gq_gs
   have Vw485 : own_Ints Z h485 gs (own_v223 x0 x1 x2 y0 y1) := V485
   refine own_pA T485 m 4 #[.val (.ref a0), .val (.int (2:Int32)), .val (.int (own_at [x0, x1, x2] y1)), .unset, .unset] [(.ref a0), (.int (2:Int32))] (fun t k => ?_) ?_
   ·refine XS.iinc X485.here hx rfl (D d4_61) rfl (l' := #[.val (.ref a0), .val (.int (2:Int32)), .val (.int (own_at [x0, x1, x2] y1)), .unset, .unset]) rfl ?_
    refine XS.goto X485.here hx rfl (pc0 := 64) (pc' := 2) rfl (D d4_64) (by decide) (by decide) ?_
    refine XS.iloadN X485.here hx rfl (D d4_2) rfl ?_
    exact XS.aloadN X485.here hx rfl (D d4_3) rfl rfl k
   have F489 := (((F453.other W471 (Or.inl nq_a0_gl)).other W477 (Or.inr (slot_ne (Or.inl (own_h hw 27 rfl)) (Or.inl (own_h hw 34 rfl)) (by decide) (t := .int) (t' := .int) (by decide) (by decide)))).other W485 (Or.inl nq_a0_gs))
   refine own_getF X485 hx hZ hown (host := "") (Or.inl (own_h hw 26 rfl)) Via.refl e485 F489 rfl rfl (D d4_4) (fun T488 X488 e488 => ?_)
   refine own_pA T488 m 11 #[.val (.ref a0), .val (.int (2:Int32)), .val (.int (own_at [x0, x1, x2] y1)), .unset, .unset] [(.ref a0)] (fun t k => ?_) ?_
   ·refine XS.icmpNo X488.here hx rfl (D d4_7) rfl (XT.ii_ge_f (by decide)) ?_
    exact XS.aloadN X488.here hx rfl (D d4_10) rfl rfl k
   have F491 := (((F455.other W471 (Or.inl nq_a0_gl)).other W477 (Or.inr (slot_ne (Or.inr (own_h hw 12 rfl)) (Or.inl (own_h hw 34 rfl)) (by decide) (t := (.array .int)) (t' := .int) (by decide) (by decide)))).other W485 (Or.inl nq_a0_gs))
   refine own_getF X488 hx hZ hown (host := "") (Or.inl (own_h hw 11 rfl)) Via.refl e488 F491 rfl rfl (D d4_11) (fun T490 X490 e490 => ?_)
   refine own_pA T490 m 15 #[.val (.ref a0), .val (.int (2:Int32)), .val (.int (own_at [x0, x1, x2] y1)), .unset, .unset] [(.ref a0), (.ref la)] (fun t k => ?_) ?_
   ·exact XS.aloadN X490.here hx rfl (D d4_14) rfl rfl k
   have F493 := (((F457.other W471 (Or.inl nq_a0_gl)).other W477 (Or.inr (slot_ne (Or.inr (own_h hw 14 rfl)) (Or.inl (own_h hw 34 rfl)) (by decide) (t := (.array .int)) (t' := .int) (by decide) (by decide)))).other W485 (Or.inl nq_a0_gs))
   refine own_getF X490 hx hZ hown (host := "") (Or.inl (own_h hw 13 rfl)) Via.refl e490 F493 rfl rfl (D d4_15) (fun T492 X492 e492 => ?_)
   have F494 := (((F458.other W471 nq_mv_gl).other W477 (Ne.symm nq_a0_mv)).other W485 nq_mv_gs)
   have hbn495 : own_In (2:Int32) [y0, y1, y2].length := own_lit rfl
   have F496 := (((F460.other W471 nq_la_gl).other W477 (Ne.symm nq_a0_la)).other W485 nq_la_gs)
   have hbn498 : own_In y2 [x0, x1, x2].length := hl497 hs28_2
   refine own_pA T492 m 23 #[.val (.ref a0), .val (.int (2:Int32)), .val (.int (own_at [x0, x1, x2] y2)), .unset, .unset] [(.ref a0)] (fun t k => ?_) ?_
   ·refine XS.iloadN X492.here hx rfl (D d4_18) rfl ?_
    refine own_iaload X492 hx hZ e492 F494 hbn495 rfl rfl (D d4_19) ?_
    refine own_iaload X492 hx hZ e492 F496 hbn498 rfl rfl (D d4_20) ?_
    refine XS.istoreN X492.here hx rfl (D d4_21) rfl (l' := #[.val (.ref a0), .val (.int (2:Int32)), .val (.int (own_at [x0, x1, x2] y2)), .unset, .unset]) rfl ?_
    exact XS.aloadN X492.here hx rfl (D d4_22) rfl rfl k
   have F500 := (F481.other W485 (Or.inl nq_a0_gs))
   refine own_getF X492 hx hZ hown (host := "") (Or.inl (own_h hw 19 rfl)) Via.refl e492 F500 rfl rfl (D d4_23) (fun T499 X499 e499 => ?_)
   have hbn502 : own_In (own_at [x0, x1, x2] y2) (own_v223 x0 x1 x2 y0 y1).length := hl501 hs28_2
   refine own_pA T499 m 28 #[.val (.ref a0), .val (.int (2:Int32)), .val (.int (own_at [x0, x1, x2] y2)), .unset, .unset] [(.int (own_at (own_v223 x0 x1 x2 y0 y1) (own_at [x0, x1, x2] y2)))] (fun t k => ?_) ?_
   ·refine XS.iloadN X499.here hx rfl (D d4_26) rfl ?_
    exact own_iaload X499 hx hZ e499 Vw485 hbn502 rfl rfl (D d4_27) k
   by_cases hs28_3 : (own_at (own_v223 x0 x1 x2 y0 y1) (own_at [x0, x1, x2] y2)) = (0:Int32)
   ·refine own_pA T499 m 32 #[.val (.ref a0), .val (.int (2:Int32)), .val (.int (own_at [x0, x1, x2] y2)), .unset, .unset] [(.ref a0)] (fun t k => ?_) ?_
    ·refine XS.ifNo X499.here hx rfl (D d4_28) rfl (XT.i0_ne_f hs28_3) ?_
     exact XS.aloadN X499.here hx rfl (D d4_31) rfl rfl k
    have F504 := (((F468.other W471 (Or.inl nq_a0_gl)).other W477 (Or.inr (slot_ne (Or.inr (own_h hw 18 rfl)) (Or.inl (own_h hw 34 rfl)) (by decide) (t := (.array .int)) (t' := .int) (by decide) (by decide)))).other W485 (Or.inl nq_a0_gs))
    refine own_getF X499 hx hZ hown (host := "") (Or.inl (own_h hw 17 rfl)) Via.refl e499 F504 rfl rfl (D d4_32) (fun T503 X503 e503 => ?_)
    refine own_pA T503 m 36 #[.val (.ref a0), .val (.int (2:Int32)), .val (.int (own_at [x0, x1, x2] y2)), .unset, .unset] [(.ref a0), (.ref gl)] (fun t k => ?_) ?_
    ·exact XS.aloadN X503.here hx rfl (D d4_35) rfl rfl k
    have F506 := (Fw477.other W485 (Or.inl nq_a0_gs))
    refine own_getF X503 hx hZ hown (host := "") (Or.inl (own_h hw 33 rfl)) Via.refl e503 F506 rfl rfl (D d4_36) (fun T505 X505 e505 => ?_)
    refine own_pA T505 m 40 #[.val (.ref a0), .val (.int (2:Int32)), .val (.int (own_at [x0, x1, x2] y2)), .unset, .unset] [(.int (own_at [x0, x1, x2] y2)), (.int (2:Int32)), (.ref gl)] (fun t k => ?_) ?_
    ·exact XS.iloadN X505.here hx rfl (D d4_39) rfl k
    have F508 := ((Vw471.other W477 (Ne.symm nq_a0_gl)).other W485 nq_gl_gs)
    have hbn509 : own_In (2:Int32) [(own_at [x0, x1, x2] y0), (own_at [x0, x1, x2] y1), (0:Int32)].length := own_lit rfl
    refine own_iastG X505 hx hZ e505 F508 hbn509 rfl rfl (D d4_40) (fun T507 h507 X507 e507 W507 V507 => ?_)
    have Kp507 : Keep h0 h507 [a0, gr, gl, gs] := Kp485.wr W507 (Or.inl (List.mem_of_getElem? (i := 2) rfl))
    have Z510 : n0 ≤ h507.size := Nat.le_trans Z487 (Nat.le_of_eq W507.size.symm)
    have N507 := Fr.snoc X507 N485 gq_gl
    have Vw507 : own_Ints Z h507 gl [(own_at [x0, x1, x2] y0), (own_at [x0, x1, x2] y1), (own_at [x0, x1, x2] y2)] := V507
    refine own_pA T507 m 43 #[.val (.ref a0), .val (.int (2:Int32)), .val (.int (own_at [x0, x1, x2] y2)), .unset, .unset] [(.ref a0), (.ref a0)] (fun t k => ?_) ?_
    ·refine XS.aloadN X507.here hx rfl (D d4_41) rfl rfl ?_
     exact XS.dup X507.here hx rfl (D d4_42) rfl rfl k
    have F512 := (F506.other W507 (Or.inl nq_a0_gl))
    refine own_getF X507 hx hZ hown (host := "") (Or.inl (own_h hw 33 rfl)) Via.refl e507 F512 rfl rfl (D d4_43) (fun T511 X511 e511 => ?_)
    refine own_pA T511 m 48 #[.val (.ref a0), .val (.int (2:Int32)), .val (.int (own_at [x0, x1, x2] y2)), .unset, .unset] [(.int (3:Int32)), (.ref a0)] (fun t k => ?_) ?_
    ·refine XS.iconst X511.here hx rfl (D d4_46) ?_
     exact XS.iadd X511.here hx rfl (D d4_47) rfl k
    have F514 := (((F478.wr W477).wr W485).wr W507)
    obtain ⟨T513, h513, X513, e513, W513, st513⟩ := putF X511 hx hZ hown (host := "") (Or.inl (own_h hw 33 rfl)) Via.refl e511 F512 F514 (Or.inl (own_h hw 34 rfl)) (own_h hw 3 rfl) (ty := .int) (by decide) rfl rfl (g := (mkF m 48 #[.val (.ref a0), .val (.int (2:Int32)), .val (.int (own_at [x0, x1, x2] y2)), .unset, .unset] [(.int (3:Int32)), (.ref a0)])) rfl rfl (D d4_48)
    have Kp513 : Keep h0 h513 [a0, gr, gl, gs] := Kp507.wr W513 (Or.inl (List.mem_of_getElem? (i := 0) rfl))
    have Z515 : n0 ≤ h513.size := Nat.le_trans Z510 (Nat.le_of_eq W513.size.symm)
    have N513 := Fr.snoc X513 N507 gq_a0
    have Fw513 := F512.same W513
    refine own_pre st513 ?_
    refine own_pA T513 m 52 #[.val (.ref a0), .val (.int (2:Int32)), .val (.int (own_at [x0, x1, x2] y2)), .unset, .unset] [(.ref a0)] (fun t k => ?_) ?_
    ·exact XS.aloadN X513.here hx rfl (D d4_51) rfl rfl k
    have F517 := ((F500.other W507 (Or.inl nq_a0_gl)).other W513 (Or.inr (slot_ne (Or.inr (own_h hw 20 rfl)) (Or.inl (own_h hw 34 rfl)) (by decide) (t := (.array .int)) (t' := .int) (by decide) (by decide))))
    refine own_getF X513 hx hZ hown (host := "") (Or.inl (own_h hw 19 rfl)) Via.refl e513 F517 rfl rfl (D d4_52) (fun T516 X516 e516 => ?_)
    have F518 := ((Vw485.other W507 (Ne.symm nq_gl_gs)).other W513 (Ne.symm nq_a0_gs))
    have hbn520 : own_In (own_at [x0, x1, x2] y2) (own_v223 x0 x1 x2 y0 y1).length := hl519 hs28_2 hs28_3
    refine own_pA T516 m 60 #[.val (.ref a0), .val (.int (2:Int32)), .val (.int (own_at [x0, x1, x2] y2)), .unset, .unset] [(.int ((own_at (own_v223 x0 x1 x2 y0 y1) (own_at [x0, x1, x2] y2)) + (1:Int32))), (.int (own_at [x0, x1, x2] y2)), (.ref gs)] (fun t k => ?_) ?_
    ·refine XS.iloadN X516.here hx rfl (D d4_55) rfl ?_
     refine XT.dup2 X516.here hx rfl (D d4_56) rfl rfl rfl ?_
     refine own_iaload X516 hx hZ e516 F518 hbn520 rfl rfl (D d4_57) ?_
     refine XS.iconst X516.here hx rfl (D d4_58) ?_
     exact XS.iadd X516.here hx rfl (D d4_59) rfl k
    have hbn522 : own_In (own_at [x0, x1, x2] y2) (own_v223 x0 x1 x2 y0 y1).length := hl519 hs28_2 hs28_3
    refine own_iastG X516 hx hZ e516 F518 hbn522 rfl rfl (D d4_60) (fun T521 h521 X521 e521 W521 V521 => ?_)
    have Kp521 : Keep h0 h521 [a0, gr, gl, gs] := Kp513.wr W521 (Or.inl (List.mem_of_getElem? (i := 3) rfl))
    have Z523 : n0 ≤ h521.size := Nat.le_trans Z515 (Nat.le_of_eq W521.size.symm)
    have N521 := Fr.snoc X521 N513 gq_gs
    have Vw521 : own_Ints Z h521 gs (own_v524 x0 x1 x2 y0 y1 y2) := V521
    refine own_pA T521 m 4 #[.val (.ref a0), .val (.int (3:Int32)), .val (.int (own_at [x0, x1, x2] y2)), .unset, .unset] [(.ref a0), (.int (3:Int32))] (fun t k => ?_) ?_
    ·refine XS.iinc X521.here hx rfl (D d4_61) rfl (l' := #[.val (.ref a0), .val (.int (3:Int32)), .val (.int (own_at [x0, x1, x2] y2)), .unset, .unset]) rfl ?_
     refine XS.goto X521.here hx rfl (pc0 := 64) (pc' := 2) rfl (D d4_64) (by decide) (by decide) ?_
     refine XS.iloadN X521.here hx rfl (D d4_2) rfl ?_
     exact XS.aloadN X521.here hx rfl (D d4_3) rfl rfl k
    have F526 := (((F489.other W507 (Or.inl nq_a0_gl)).other W513 (Or.inr (slot_ne (Or.inl (own_h hw 27 rfl)) (Or.inl (own_h hw 34 rfl)) (by decide) (t := .int) (t' := .int) (by decide) (by decide)))).other W521 (Or.inl nq_a0_gs))
    refine own_getF X521 hx hZ hown (host := "") (Or.inl (own_h hw 26 rfl)) Via.refl e521 F526 rfl rfl (D d4_4) (fun T525 X525 e525 => ?_)
    refine own_pA T525 m 73 #[rv a0, iv (0:Int32), iv (0:Int32), .unset, .unset] [(.ref a0), (.int (0:Int32))] (fun t k => ?_) ?_
    ·refine XS.icmpYes X525.here hx rfl (pc0 := 7) (pc' := 67) rfl (D d4_7) rfl (XT.ii_ge_t (by decide)) (by decide) (by decide) ?_
     refine XS.iconst X525.here hx rfl (D d4_67) ?_
     refine XS.istoreN X525.here hx rfl (D d4_68) rfl (l' := #[.val (.ref a0), .val (.int (0:Int32)), .val (.int (own_at [x0, x1, x2] y2)), .unset, .unset]) rfl ?_
     refine XS.iconst X525.here hx rfl (D d4_69) ?_
     refine XS.istoreN X525.here hx rfl (D d4_70) rfl (l' := #[rv a0, iv (0:Int32), iv (0:Int32), .unset, .unset]) rfl ?_
     refine XS.iloadN X525.here hx rfl (D d4_71) rfl ?_
     exact XS.aloadN X525.here hx rfl (D d4_72) rfl rfl k
    have F528 := (Fw513.other W521 (Or.inl nq_a0_gs))
    refine own_getF X525 hx hZ hown (host := "") (Or.inl (own_h hw 33 rfl)) Via.refl e525 F528 rfl rfl (D d4_73) (fun T527 X527 e527 => ?_)
    refine own_pA T527 m 80 #[rv a0, iv (0:Int32), iv (0:Int32), .unset, .unset] [(.ref a0)] (fun t k => ?_) ?_
    ·refine XS.icmpNo X527.here hx rfl (D d4_76) rfl (XT.ii_ge_f (by decide)) ?_
     exact XS.aloadN X527.here hx rfl (D d4_79) rfl rfl k
    have F530 := (((F504.other W507 (Or.inl nq_a0_gl)).other W513 (Or.inr (slot_ne (Or.inr (own_h hw 18 rfl)) (Or.inl (own_h hw 34 rfl)) (by decide) (t := (.array .int)) (t' := .int) (by decide) (by decide)))).other W521 (Or.inl nq_a0_gs))
    refine own_getF X527 hx hZ hown (host := "") (Or.inl (own_h hw 17 rfl)) Via.refl e527 F530 rfl rfl (D d4_80) (fun T529 X529 e529 => ?_)
    have F531 := ((Vw507.other W513 (Ne.symm nq_a0_gl)).other W521 nq_gl_gs)
    have hbn532 : own_In (0:Int32) [(own_at [x0, x1, x2] y0), (own_at [x0, x1, x2] y1), (own_at [x0, x1, x2] y2)].length := own_lit rfl
    refine own_pA T529 m 88 #[.val (.ref a0), .val (.int (0:Int32)), .val (.int (0:Int32)), .val (.int (own_at [x0, x1, x2] y0)), .unset] [(.ref a0), (.int (0:Int32))] (fun t k => ?_) ?_
    ·refine XS.iloadN X529.here hx rfl (D d4_83) rfl ?_
     refine own_iaload X529 hx hZ e529 F531 hbn532 rfl rfl (D d4_84) ?_
     refine XS.istoreN X529.here hx rfl (D d4_85) rfl (l' := #[.val (.ref a0), .val (.int (0:Int32)), .val (.int (0:Int32)), .val (.int (own_at [x0, x1, x2] y0)), .unset]) rfl ?_
     refine XS.iloadN X529.here hx rfl (D d4_86) rfl ?_
     exact XS.aloadN X529.here hx rfl (D d4_87) rfl rfl k
    have F534 := (F517.other W521 (Or.inl nq_a0_gs))
    refine own_getF X529 hx hZ hown (host := "") (Or.inl (own_h hw 19 rfl)) Via.refl e529 F534 rfl rfl (D d4_88) (fun T533 X533 e533 => ?_)
    have hbn536 : own_In (own_at [x0, x1, x2] y0) (own_v524 x0 x1 x2 y0 y1 y2).length := hl535 hs28_2 hs28_3
    refine own_pA T533 m 96 #[.val (.ref a0), .val (.int ((0:Int32) + (own_at (own_v524 x0 x1 x2 y0 y1 y2) (own_at [x0, x1, x2] y0)))), .val (.int (0:Int32)), .val (.int (own_at [x0, x1, x2] y0)), .unset] [(.ref a0)] (fun t k => ?_) ?_
    ·refine XS.iloadN X533.here hx rfl (D d4_91) rfl ?_
     refine own_iaload X533 hx hZ e533 Vw521 hbn536 rfl rfl (D d4_92) ?_
     refine XS.iadd X533.here hx rfl (D d4_93) rfl ?_
     refine XS.istoreN X533.here hx rfl (D d4_94) rfl (l' := #[.val (.ref a0), .val (.int ((0:Int32) + (own_at (own_v524 x0 x1 x2 y0 y1 y2) (own_at [x0, x1, x2] y0)))), .val (.int (0:Int32)), .val (.int (own_at [x0, x1, x2] y0)), .unset]) rfl ?_
     exact XS.aloadN X533.here hx rfl (D d4_95) rfl rfl k
    refine own_getF X533 hx hZ hown (host := "") (Or.inl (own_h hw 19 rfl)) Via.refl e533 F534 rfl rfl (D d4_96) (fun T537 X537 e537 => ?_)
    refine own_pA T537 m 101 #[.val (.ref a0), .val (.int ((0:Int32) + (own_at (own_v524 x0 x1 x2 y0 y1 y2) (own_at [x0, x1, x2] y0)))), .val (.int (0:Int32)), .val (.int (own_at [x0, x1, x2] y0)), .unset] [(.int ((0:Int32) + (own_at (own_v524 x0 x1 x2 y0 y1 y2) (own_at [x0, x1, x2] y0)))), (.int (own_at [x0, x1, x2] y0)), (.ref gs)] (fun t k => ?_) ?_
    ·refine XS.iloadN X537.here hx rfl (D d4_99) rfl ?_
     exact XS.iloadN X537.here hx rfl (D d4_100) rfl k
    have hbn539 : own_In (own_at [x0, x1, x2] y0) (own_v524 x0 x1 x2 y0 y1 y2).length := hl535 hs28_2 hs28_3
    refine own_iastG X537 hx hZ e537 Vw521 hbn539 rfl rfl (D d4_101) (fun T538 h538 X538 e538 W538 V538 => ?_)
    have Kp538 : Keep h0 h538 [a0, gr, gl, gs] := Kp521.wr W538 (Or.inl (List.mem_of_getElem? (i := 3) rfl))
    have Z540 : n0 ≤ h538.size := Nat.le_trans Z523 (Nat.le_of_eq W538.size.symm)
    have N538 := Fr.snoc X538 N521 gq_gs
    have Vw538 : own_Ints Z h538 gs (own_v541 x0 x1 x2 y0 y1 y2) := V538
    refine own_pA T538 m 73 #[.val (.ref a0), .val (.int ((0:Int32) + (own_at (own_v524 x0 x1 x2 y0 y1 y2) (own_at [x0, x1, x2] y0)))), .val (.int (1:Int32)), .val (.int (own_at [x0, x1, x2] y0)), .unset] [(.ref a0), (.int (1:Int32))] (fun t k => ?_) ?_
    ·refine XS.iinc X538.here hx rfl (D d4_102) rfl (l' := #[.val (.ref a0), .val (.int ((0:Int32) + (own_at (own_v524 x0 x1 x2 y0 y1 y2) (own_at [x0, x1, x2] y0)))), .val (.int (1:Int32)), .val (.int (own_at [x0, x1, x2] y0)), .unset]) rfl ?_
     refine XS.goto X538.here hx rfl (pc0 := 105) (pc' := 71) rfl (D d4_105) (by decide) (by decide) ?_
     refine XS.iloadN X538.here hx rfl (D d4_71) rfl ?_
     exact XS.aloadN X538.here hx rfl (D d4_72) rfl rfl k
    have F543 := (F528.other W538 (Or.inl nq_a0_gs))
    refine own_getF X538 hx hZ hown (host := "") (Or.inl (own_h hw 33 rfl)) Via.refl e538 F543 rfl rfl (D d4_73) (fun T542 X542 e542 => ?_)
    refine own_pA T542 m 80 #[.val (.ref a0), .val (.int ((0:Int32) + (own_at (own_v524 x0 x1 x2 y0 y1 y2) (own_at [x0, x1, x2] y0)))), .val (.int (1:Int32)), .val (.int (own_at [x0, x1, x2] y0)), .unset] [(.ref a0)] (fun t k => ?_) ?_
    ·refine XS.icmpNo X542.here hx rfl (D d4_76) rfl (XT.ii_ge_f (by decide)) ?_
     exact XS.aloadN X542.here hx rfl (D d4_79) rfl rfl k
    have F545 := (F530.other W538 (Or.inl nq_a0_gs))
    refine own_getF X542 hx hZ hown (host := "") (Or.inl (own_h hw 17 rfl)) Via.refl e542 F545 rfl rfl (D d4_80) (fun T544 X544 e544 => ?_)
    have F546 := (F531.other W538 nq_gl_gs)
    have hbn547 : own_In (1:Int32) [(own_at [x0, x1, x2] y0), (own_at [x0, x1, x2] y1), (own_at [x0, x1, x2] y2)].length := own_lit rfl
    refine own_pA T544 m 88 #[.val (.ref a0), .val (.int ((0:Int32) + (own_at (own_v524 x0 x1 x2 y0 y1 y2) (own_at [x0, x1, x2] y0)))), .val (.int (1:Int32)), .val (.int (own_at [x0, x1, x2] y1)), .unset] [(.ref a0), (.int ((0:Int32) + (own_at (own_v524 x0 x1 x2 y0 y1 y2) (own_at [x0, x1, x2] y0))))] (fun t k => ?_) ?_
    ·refine XS.iloadN X544.here hx rfl (D d4_83) rfl ?_
     refine own_iaload X544 hx hZ e544 F546 hbn547 rfl rfl (D d4_84) ?_
     refine XS.istoreN X544.here hx rfl (D d4_85) rfl (l' := #[.val (.ref a0), .val (.int ((0:Int32) + (own_at (own_v524 x0 x1 x2 y0 y1 y2) (own_at [x0, x1, x2] y0)))), .val (.int (1:Int32)), .val (.int (own_at [x0, x1, x2] y1)), .unset]) rfl ?_
     refine XS.iloadN X544.here hx rfl (D d4_86) rfl ?_
     exact XS.aloadN X544.here hx rfl (D d4_87) rfl rfl k
    have F549 := (F534.other W538 (Or.inl nq_a0_gs))
    refine own_getF X544 hx hZ hown (host := "") (Or.inl (own_h hw 19 rfl)) Via.refl e544 F549 rfl rfl (D d4_88) (fun T548 X548 e548 => ?_)
    have hbn551 : own_In (own_at [x0, x1, x2] y1) (own_v541 x0 x1 x2 y0 y1 y2).length := hl550 hs28_2 hs28_3
    refine own_pA T548 m 96 #[.val (.ref a0), .val (.int (((0:Int32) + (own_at (own_v524 x0 x1 x2 y0 y1 y2) (own_at [x0, x1, x2] y0))) + (own_at (own_v541 x0 x1 x2 y0 y1 y2) (own_at [x0, x1, x2] y1)))), .val (.int (1:Int32)), .val (.int (own_at [x0, x1, x2] y1)), .unset] [(.ref a0)] (fun t k => ?_) ?_
    ·refine XS.iloadN X548.here hx rfl (D d4_91) rfl ?_
     refine own_iaload X548 hx hZ e548 Vw538 hbn551 rfl rfl (D d4_92) ?_
     refine XS.iadd X548.here hx rfl (D d4_93) rfl ?_
     refine XS.istoreN X548.here hx rfl (D d4_94) rfl (l' := #[.val (.ref a0), .val (.int (((0:Int32) + (own_at (own_v524 x0 x1 x2 y0 y1 y2) (own_at [x0, x1, x2] y0))) + (own_at (own_v541 x0 x1 x2 y0 y1 y2) (own_at [x0, x1, x2] y1)))), .val (.int (1:Int32)), .val (.int (own_at [x0, x1, x2] y1)), .unset]) rfl ?_
     exact XS.aloadN X548.here hx rfl (D d4_95) rfl rfl k
    refine own_getF X548 hx hZ hown (host := "") (Or.inl (own_h hw 19 rfl)) Via.refl e548 F549 rfl rfl (D d4_96) (fun T552 X552 e552 => ?_)
    refine own_pA T552 m 101 #[.val (.ref a0), .val (.int (((0:Int32) + (own_at (own_v524 x0 x1 x2 y0 y1 y2) (own_at [x0, x1, x2] y0))) + (own_at (own_v541 x0 x1 x2 y0 y1 y2) (own_at [x0, x1, x2] y1)))), .val (.int (1:Int32)), .val (.int (own_at [x0, x1, x2] y1)), .unset] [(.int (((0:Int32) + (own_at (own_v524 x0 x1 x2 y0 y1 y2) (own_at [x0, x1, x2] y0))) + (own_at (own_v541 x0 x1 x2 y0 y1 y2) (own_at [x0, x1, x2] y1)))), (.int (own_at [x0, x1, x2] y1)), (.ref gs)] (fun t k => ?_) ?_
    ·refine XS.iloadN X552.here hx rfl (D d4_99) rfl ?_
     exact XS.iloadN X552.here hx rfl (D d4_100) rfl k
    have hbn554 : own_In (own_at [x0, x1, x2] y1) (own_v541 x0 x1 x2 y0 y1 y2).length := hl550 hs28_2 hs28_3
    refine own_iastG X552 hx hZ e552 Vw538 hbn554 rfl rfl (D d4_101) (fun T553 h553 X553 e553 W553 V553 => ?_)
    have Kp553 : Keep h0 h553 [a0, gr, gl, gs] := Kp538.wr W553 (Or.inl (List.mem_of_getElem? (i := 3) rfl))
    have Z555 : n0 ≤ h553.size := Nat.le_trans Z540 (Nat.le_of_eq W553.size.symm)
    have N553 := Fr.snoc X553 N538 gq_gs
    have Vw553 : own_Ints Z h553 gs (own_v556 x0 x1 x2 y0 y1 y2) := V553
    refine own_pA T553 m 73 #[.val (.ref a0), .val (.int (((0:Int32) + (own_at (own_v524 x0 x1 x2 y0 y1 y2) (own_at [x0, x1, x2] y0))) + (own_at (own_v541 x0 x1 x2 y0 y1 y2) (own_at [x0, x1, x2] y1)))), .val (.int (2:Int32)), .val (.int (own_at [x0, x1, x2] y1)), .unset] [(.ref a0), (.int (2:Int32))] (fun t k => ?_) ?_
    ·refine XS.iinc X553.here hx rfl (D d4_102) rfl (l' := #[.val (.ref a0), .val (.int (((0:Int32) + (own_at (own_v524 x0 x1 x2 y0 y1 y2) (own_at [x0, x1, x2] y0))) + (own_at (own_v541 x0 x1 x2 y0 y1 y2) (own_at [x0, x1, x2] y1)))), .val (.int (2:Int32)), .val (.int (own_at [x0, x1, x2] y1)), .unset]) rfl ?_
     refine XS.goto X553.here hx rfl (pc0 := 105) (pc' := 71) rfl (D d4_105) (by decide) (by decide) ?_
     refine XS.iloadN X553.here hx rfl (D d4_71) rfl ?_
     exact XS.aloadN X553.here hx rfl (D d4_72) rfl rfl k
    have F558 := (F543.other W553 (Or.inl nq_a0_gs))
    refine own_getF X553 hx hZ hown (host := "") (Or.inl (own_h hw 33 rfl)) Via.refl e553 F558 rfl rfl (D d4_73) (fun T557 X557 e557 => ?_)
    refine own_pA T557 m 80 #[.val (.ref a0), .val (.int (((0:Int32) + (own_at (own_v524 x0 x1 x2 y0 y1 y2) (own_at [x0, x1, x2] y0))) + (own_at (own_v541 x0 x1 x2 y0 y1 y2) (own_at [x0, x1, x2] y1)))), .val (.int (2:Int32)), .val (.int (own_at [x0, x1, x2] y1)), .unset] [(.ref a0)] (fun t k => ?_) ?_
    ·refine XS.icmpNo X557.here hx rfl (D d4_76) rfl (XT.ii_ge_f (by decide)) ?_
     exact XS.aloadN X557.here hx rfl (D d4_79) rfl rfl k
    have F560 := (F545.other W553 (Or.inl nq_a0_gs))
    refine own_getF X557 hx hZ hown (host := "") (Or.inl (own_h hw 17 rfl)) Via.refl e557 F560 rfl rfl (D d4_80) (fun T559 X559 e559 => ?_)
    have F561 := (F546.other W553 nq_gl_gs)
    have hbn562 : own_In (2:Int32) [(own_at [x0, x1, x2] y0), (own_at [x0, x1, x2] y1), (own_at [x0, x1, x2] y2)].length := own_lit rfl
    refine own_pA T559 m 88 #[.val (.ref a0), .val (.int (((0:Int32) + (own_at (own_v524 x0 x1 x2 y0 y1 y2) (own_at [x0, x1, x2] y0))) + (own_at (own_v541 x0 x1 x2 y0 y1 y2) (own_at [x0, x1, x2] y1)))), .val (.int (2:Int32)), .val (.int (own_at [x0, x1, x2] y2)), .unset] [(.ref a0), (.int (((0:Int32) + (own_at (own_v524 x0 x1 x2 y0 y1 y2) (own_at [x0, x1, x2] y0))) + (own_at (own_v541 x0 x1 x2 y0 y1 y2) (own_at [x0, x1, x2] y1))))] (fun t k => ?_) ?_
    ·refine XS.iloadN X559.here hx rfl (D d4_83) rfl ?_
     refine own_iaload X559 hx hZ e559 F561 hbn562 rfl rfl (D d4_84) ?_
     refine XS.istoreN X559.here hx rfl (D d4_85) rfl (l' := #[.val (.ref a0), .val (.int (((0:Int32) + (own_at (own_v524 x0 x1 x2 y0 y1 y2) (own_at [x0, x1, x2] y0))) + (own_at (own_v541 x0 x1 x2 y0 y1 y2) (own_at [x0, x1, x2] y1)))), .val (.int (2:Int32)), .val (.int (own_at [x0, x1, x2] y2)), .unset]) rfl ?_
     refine XS.iloadN X559.here hx rfl (D d4_86) rfl ?_
     exact XS.aloadN X559.here hx rfl (D d4_87) rfl rfl k
    have F564 := (F549.other W553 (Or.inl nq_a0_gs))
    refine own_getF X559 hx hZ hown (host := "") (Or.inl (own_h hw 19 rfl)) Via.refl e559 F564 rfl rfl (D d4_88) (fun T563 X563 e563 => ?_)
    have hbn566 : own_In (own_at [x0, x1, x2] y2) (own_v556 x0 x1 x2 y0 y1 y2).length := hl565 hs28_2 hs28_3
    refine own_pA T563 m 96 #[.val (.ref a0), .val (.int ((((0:Int32) + (own_at (own_v524 x0 x1 x2 y0 y1 y2) (own_at [x0, x1, x2] y0))) + (own_at (own_v541 x0 x1 x2 y0 y1 y2) (own_at [x0, x1, x2] y1))) + (own_at (own_v556 x0 x1 x2 y0 y1 y2) (own_at [x0, x1, x2] y2)))), .val (.int (2:Int32)), .val (.int (own_at [x0, x1, x2] y2)), .unset] [(.ref a0)] (fun t k => ?_) ?_
    ·refine XS.iloadN X563.here hx rfl (D d4_91) rfl ?_
     refine own_iaload X563 hx hZ e563 Vw553 hbn566 rfl rfl (D d4_92) ?_
     refine XS.iadd X563.here hx rfl (D d4_93) rfl ?_
     refine XS.istoreN X563.here hx rfl (D d4_94) rfl (l' := #[.val (.ref a0), .val (.int ((((0:Int32) + (own_at (own_v524 x0 x1 x2 y0 y1 y2) (own_at [x0, x1, x2] y0))) + (own_at (own_v541 x0 x1 x2 y0 y1 y2) (own_at [x0, x1, x2] y1))) + (own_at (own_v556 x0 x1 x2 y0 y1 y2) (own_at [x0, x1, x2] y2)))), .val (.int (2:Int32)), .val (.int (own_at [x0, x1, x2] y2)), .unset]) rfl ?_
     exact XS.aloadN X563.here hx rfl (D d4_95) rfl rfl k
    refine own_getF X563 hx hZ hown (host := "") (Or.inl (own_h hw 19 rfl)) Via.refl e563 F564 rfl rfl (D d4_96) (fun T567 X567 e567 => ?_)
    refine own_pA T567 m 101 #[.val (.ref a0), .val (.int ((((0:Int32) + (own_at (own_v524 x0 x1 x2 y0 y1 y2) (own_at [x0, x1, x2] y0))) + (own_at (own_v541 x0 x1 x2 y0 y1 y2) (own_at [x0, x1, x2] y1))) + (own_at (own_v556 x0 x1 x2 y0 y1 y2) (own_at [x0, x1, x2] y2)))), .val (.int (2:Int32)), .val (.int (own_at [x0, x1, x2] y2)), .unset] [(.int ((((0:Int32) + (own_at (own_v524 x0 x1 x2 y0 y1 y2) (own_at [x0, x1, x2] y0))) + (own_at (own_v541 x0 x1 x2 y0 y1 y2) (own_at [x0, x1, x2] y1))) + (own_at (own_v556 x0 x1 x2 y0 y1 y2) (own_at [x0, x1, x2] y2)))), (.int (own_at [x0, x1, x2] y2)), (.ref gs)] (fun t k => ?_) ?_
    ·refine XS.iloadN X567.here hx rfl (D d4_99) rfl ?_
     exact XS.iloadN X567.here hx rfl (D d4_100) rfl k
    have hbn569 : own_In (own_at [x0, x1, x2] y2) (own_v556 x0 x1 x2 y0 y1 y2).length := hl565 hs28_2 hs28_3
    refine own_iastG X567 hx hZ e567 Vw553 hbn569 rfl rfl (D d4_101) (fun T568 h568 X568 e568 W568 V568 => ?_)
    have Kp568 : Keep h0 h568 [a0, gr, gl, gs] := Kp553.wr W568 (Or.inl (List.mem_of_getElem? (i := 3) rfl))
    have Z570 : n0 ≤ h568.size := Nat.le_trans Z555 (Nat.le_of_eq W568.size.symm)
    have N568 := Fr.snoc X568 N553 gq_gs
    have Vw568 : own_Ints Z h568 gs (own_v571 x0 x1 x2 y0 y1 y2) := V568
    refine own_pA T568 m 73 #[.val (.ref a0), .val (.int ((((0:Int32) + (own_at (own_v524 x0 x1 x2 y0 y1 y2) (own_at [x0, x1, x2] y0))) + (own_at (own_v541 x0 x1 x2 y0 y1 y2) (own_at [x0, x1, x2] y1))) + (own_at (own_v556 x0 x1 x2 y0 y1 y2) (own_at [x0, x1, x2] y2)))), .val (.int (3:Int32)), .val (.int (own_at [x0, x1, x2] y2)), .unset] [(.ref a0), (.int (3:Int32))] (fun t k => ?_) ?_
    ·refine XS.iinc X568.here hx rfl (D d4_102) rfl (l' := #[.val (.ref a0), .val (.int ((((0:Int32) + (own_at (own_v524 x0 x1 x2 y0 y1 y2) (own_at [x0, x1, x2] y0))) + (own_at (own_v541 x0 x1 x2 y0 y1 y2) (own_at [x0, x1, x2] y1))) + (own_at (own_v556 x0 x1 x2 y0 y1 y2) (own_at [x0, x1, x2] y2)))), .val (.int (3:Int32)), .val (.int (own_at [x0, x1, x2] y2)), .unset]) rfl ?_
     refine XS.goto X568.here hx rfl (pc0 := 105) (pc' := 71) rfl (D d4_105) (by decide) (by decide) ?_
     refine XS.iloadN X568.here hx rfl (D d4_71) rfl ?_
     exact XS.aloadN X568.here hx rfl (D d4_72) rfl rfl k
    have F573 := (F558.other W568 (Or.inl nq_a0_gs))
    refine own_getF X568 hx hZ hown (host := "") (Or.inl (own_h hw 33 rfl)) Via.refl e568 F573 rfl rfl (D d4_73) (fun T572 X572 e572 => ?_)
    refine own_pA T572 m 109 #[.val (.ref a0), .val (.int ((((0:Int32) + (own_at (own_v524 x0 x1 x2 y0 y1 y2) (own_at [x0, x1, x2] y0))) + (own_at (own_v541 x0 x1 x2 y0 y1 y2) (own_at [x0, x1, x2] y1))) + (own_at (own_v556 x0 x1 x2 y0 y1 y2) (own_at [x0, x1, x2] y2)))), .val (.int (3:Int32)), .val (.int (own_at [x0, x1, x2] y2)), .unset] [(.ref a0)] (fun t k => ?_) ?_
    ·refine XS.icmpYes X572.here hx rfl (pc0 := 76) (pc' := 108) rfl (D d4_76) rfl (XT.ii_ge_t (by decide)) (by decide) (by decide) ?_
     exact XS.aloadN X572.here hx rfl (D d4_108) rfl rfl k
    have F575 := (((F526.other W538 (Or.inl nq_a0_gs)).other W553 (Or.inl nq_a0_gs)).other W568 (Or.inl nq_a0_gs))
    refine own_getF X572 hx hZ hown (host := "") (Or.inl (own_h hw 26 rfl)) Via.refl e572 F575 rfl rfl (D d4_109) (fun T574 X574 e574 => ?_)
    refine own_pA T574 m 120 #[.val (.ref a0), .val (.int ((((0:Int32) + (own_at (own_v524 x0 x1 x2 y0 y1 y2) (own_at [x0, x1, x2] y0))) + (own_at (own_v541 x0 x1 x2 y0 y1 y2) (own_at [x0, x1, x2] y1))) + (own_at (own_v556 x0 x1 x2 y0 y1 y2) (own_at [x0, x1, x2] y2)))), .val (.int (2:Int32)), .val (.int (own_at [x0, x1, x2] y2)), .unset] [(.ref a0)] (fun t k => ?_) ?_
    ·refine XS.iconst X574.here hx rfl (D d4_112) ?_
     refine XS.isub X574.here hx rfl (D d4_113) rfl ?_
     refine XS.istoreN X574.here hx rfl (D d4_114) rfl (l' := #[.val (.ref a0), .val (.int ((((0:Int32) + (own_at (own_v524 x0 x1 x2 y0 y1 y2) (own_at [x0, x1, x2] y0))) + (own_at (own_v541 x0 x1 x2 y0 y1 y2) (own_at [x0, x1, x2] y1))) + (own_at (own_v556 x0 x1 x2 y0 y1 y2) (own_at [x0, x1, x2] y2)))), .val (.int (2:Int32)), .val (.int (own_at [x0, x1, x2] y2)), .unset]) rfl ?_
     refine XS.iloadN X574.here hx rfl (D d4_115) rfl ?_
     refine XS.ifNo X574.here hx rfl (D d4_116) rfl (XT.i0_lt_f (by decide)) ?_
     exact XS.aloadN X574.here hx rfl (D d4_119) rfl rfl k
    have F577 := ((((((F493.other W507 (Or.inl nq_a0_gl)).other W513 (Or.inr (slot_ne (Or.inr (own_h hw 14 rfl)) (Or.inl (own_h hw 34 rfl)) (by decide) (t := (.array .int)) (t' := .int) (by decide) (by decide)))).other W521 (Or.inl nq_a0_gs)).other W538 (Or.inl nq_a0_gs)).other W553 (Or.inl nq_a0_gs)).other W568 (Or.inl nq_a0_gs))
    refine own_getF X574 hx hZ hown (host := "") (Or.inl (own_h hw 13 rfl)) Via.refl e574 F577 rfl rfl (D d4_120) (fun T576 X576 e576 => ?_)
    have F578 := ((((((F494.other W507 nq_mv_gl).other W513 (Ne.symm nq_a0_mv)).other W521 nq_mv_gs).other W538 nq_mv_gs).other W553 nq_mv_gs).other W568 nq_mv_gs)
    have hbn579 : own_In (2:Int32) [y0, y1, y2].length := own_lit rfl
    refine own_pA T576 m 127 #[.val (.ref a0), .val (.int ((((0:Int32) + (own_at (own_v524 x0 x1 x2 y0 y1 y2) (own_at [x0, x1, x2] y0))) + (own_at (own_v541 x0 x1 x2 y0 y1 y2) (own_at [x0, x1, x2] y1))) + (own_at (own_v556 x0 x1 x2 y0 y1 y2) (own_at [x0, x1, x2] y2)))), .val (.int (2:Int32)), .val (.int y2), .unset] [(.ref a0)] (fun t k => ?_) ?_
    ·refine XS.iloadN X576.here hx rfl (D d4_123) rfl ?_
     refine own_iaload X576 hx hZ e576 F578 hbn579 rfl rfl (D d4_124) ?_
     refine XS.istoreN X576.here hx rfl (D d4_125) rfl (l' := #[.val (.ref a0), .val (.int ((((0:Int32) + (own_at (own_v524 x0 x1 x2 y0 y1 y2) (own_at [x0, x1, x2] y0))) + (own_at (own_v541 x0 x1 x2 y0 y1 y2) (own_at [x0, x1, x2] y1))) + (own_at (own_v556 x0 x1 x2 y0 y1 y2) (own_at [x0, x1, x2] y2)))), .val (.int (2:Int32)), .val (.int y2), .unset]) rfl ?_
     exact XS.aloadN X576.here hx rfl (D d4_126) rfl rfl k
    have F581 := ((((((F491.other W507 (Or.inl nq_a0_gl)).other W513 (Or.inr (slot_ne (Or.inr (own_h hw 12 rfl)) (Or.inl (own_h hw 34 rfl)) (by decide) (t := (.array .int)) (t' := .int) (by decide) (by decide)))).other W521 (Or.inl nq_a0_gs)).other W538 (Or.inl nq_a0_gs)).other W553 (Or.inl nq_a0_gs)).other W568 (Or.inl nq_a0_gs))
    refine own_getF X576 hx hZ hown (host := "") (Or.inl (own_h hw 11 rfl)) Via.refl e576 F581 rfl rfl (D d4_127) (fun T580 X580 e580 => ?_)
    have F582 := ((((((F496.other W507 nq_la_gl).other W513 (Ne.symm nq_a0_la)).other W521 nq_la_gs).other W538 nq_la_gs).other W553 nq_la_gs).other W568 nq_la_gs)
    have hbn584 : own_In y2 [x0, x1, x2].length := hl583 hs28_2 hs28_3
    refine own_pA T580 m 135 #[.val (.ref a0), .val (.int ((((0:Int32) + (own_at (own_v524 x0 x1 x2 y0 y1 y2) (own_at [x0, x1, x2] y0))) + (own_at (own_v541 x0 x1 x2 y0 y1 y2) (own_at [x0, x1, x2] y1))) + (own_at (own_v556 x0 x1 x2 y0 y1 y2) (own_at [x0, x1, x2] y2)))), .val (.int (2:Int32)), .val (.int y2), .val (.int (own_at [x0, x1, x2] y2))] [(.ref a0)] (fun t k => ?_) ?_
    ·refine XS.iloadN X580.here hx rfl (D d4_130) rfl ?_
     refine own_iaload X580 hx hZ e580 F582 hbn584 rfl rfl (D d4_131) ?_
     refine XS.istore X580.here hx rfl (D d4_132) rfl (l' := #[.val (.ref a0), .val (.int ((((0:Int32) + (own_at (own_v524 x0 x1 x2 y0 y1 y2) (own_at [x0, x1, x2] y0))) + (own_at (own_v541 x0 x1 x2 y0 y1 y2) (own_at [x0, x1, x2] y1))) + (own_at (own_v556 x0 x1 x2 y0 y1 y2) (own_at [x0, x1, x2] y2)))), .val (.int (2:Int32)), .val (.int y2), .val (.int (own_at [x0, x1, x2] y2))]) rfl ?_
     exact XS.aloadN X580.here hx rfl (D d4_134) rfl rfl k
    have F586 := (F564.other W568 (Or.inl nq_a0_gs))
    refine own_getF X580 hx hZ hown (host := "") (Or.inl (own_h hw 19 rfl)) Via.refl e580 F586 rfl rfl (D d4_135) (fun T585 X585 e585 => ?_)
    have hbn588 : own_In (own_at [x0, x1, x2] y2) (own_v571 x0 x1 x2 y0 y1 y2).length := hl587 hs28_2 hs28_3
    refine own_pA T585 m 144 #[.val (.ref a0), .val (.int ((((0:Int32) + (own_at (own_v524 x0 x1 x2 y0 y1 y2) (own_at [x0, x1, x2] y0))) + (own_at (own_v541 x0 x1 x2 y0 y1 y2) (own_at [x0, x1, x2] y1))) + (own_at (own_v556 x0 x1 x2 y0 y1 y2) (own_at [x0, x1, x2] y2)))), .val (.int (2:Int32)), .val (.int y2), .val (.int (own_at [x0, x1, x2] y2))] [(.int ((own_at (own_v571 x0 x1 x2 y0 y1 y2) (own_at [x0, x1, x2] y2)) - (1:Int32))), (.int (own_at [x0, x1, x2] y2)), (.ref gs)] (fun t k => ?_) ?_
    ·refine XS.iload X585.here hx rfl (D d4_138) rfl ?_
     refine XT.dup2 X585.here hx rfl (D d4_140) rfl rfl rfl ?_
     refine own_iaload X585 hx hZ e585 Vw568 hbn588 rfl rfl (D d4_141) ?_
     refine XS.iconst X585.here hx rfl (D d4_142) ?_
     exact XS.isub X585.here hx rfl (D d4_143) rfl k
    have hbn590 : own_In (own_at [x0, x1, x2] y2) (own_v571 x0 x1 x2 y0 y1 y2).length := hl587 hs28_2 hs28_3
    refine own_iastG X585 hx hZ e585 Vw568 hbn590 rfl rfl (D d4_144) (fun T589 h589 X589 e589 W589 V589 => ?_)
    have Kp589 : Keep h0 h589 [a0, gr, gl, gs] := Kp568.wr W589 (Or.inl (List.mem_of_getElem? (i := 3) rfl))
    have Z591 : n0 ≤ h589.size := Nat.le_trans Z570 (Nat.le_of_eq W589.size.symm)
    have N589 := Fr.snoc X589 N568 gq_gs
    have Vw589 : own_Ints Z h589 gs (own_v592 x0 x1 x2 y0 y1 y2) := V589
    refine own_pA T589 m 146 #[.val (.ref a0), .val (.int ((((0:Int32) + (own_at (own_v524 x0 x1 x2 y0 y1 y2) (own_at [x0, x1, x2] y0))) + (own_at (own_v541 x0 x1 x2 y0 y1 y2) (own_at [x0, x1, x2] y1))) + (own_at (own_v556 x0 x1 x2 y0 y1 y2) (own_at [x0, x1, x2] y2)))), .val (.int (2:Int32)), .val (.int y2), .val (.int (own_at [x0, x1, x2] y2))] [(.ref a0)] (fun t k => ?_) ?_
    ·exact XS.aloadN X589.here hx rfl (D d4_145) rfl rfl k
    have F594 := (((((((((((((P3.other W437 (Or.inl nq_a0_gl)).other W442 (Or.inr (slot_ne (Or.inr (own_h hw 16 rfl)) (Or.inl (own_h hw 34 rfl)) (by decide) (t := (.array .int)) (t' := .int) (by decide) (by decide)))).other W449 (Or.inl nq_a0_gs)).other W471 (Or.inl nq_a0_gl)).other W477 (Or.inr (slot_ne (Or.inr (own_h hw 16 rfl)) (Or.inl (own_h hw 34 rfl)) (by decide) (t := (.array .int)) (t' := .int) (by decide) (by decide)))).other W485 (Or.inl nq_a0_gs)).other W507 (Or.inl nq_a0_gl)).other W513 (Or.inr (slot_ne (Or.inr (own_h hw 16 rfl)) (Or.inl (own_h hw 34 rfl)) (by decide) (t := (.array .int)) (t' := .int) (by decide) (by decide)))).other W521 (Or.inl nq_a0_gs)).other W538 (Or.inl nq_a0_gs)).other W553 (Or.inl nq_a0_gs)).other W568 (Or.inl nq_a0_gs)).other W589 (Or.inl nq_a0_gs))
    refine own_getF X589 hx hZ hown (host := "") (Or.inl (own_h hw 15 rfl)) Via.refl e589 F594 rfl rfl (D d4_146) (fun T593 X593 e593 => ?_)
    refine own_pA T593 m 150 #[.val (.ref a0), .val (.int ((((0:Int32) + (own_at (own_v524 x0 x1 x2 y0 y1 y2) (own_at [x0, x1, x2] y0))) + (own_at (own_v541 x0 x1 x2 y0 y1 y2) (own_at [x0, x1, x2] y1))) + (own_at (own_v556 x0 x1 x2 y0 y1 y2) (own_at [x0, x1, x2] y2)))), .val (.int (2:Int32)), .val (.int y2), .val (.int (own_at [x0, x1, x2] y2))] [(.ref a0), (.ref gr)] (fun t k => ?_) ?_
    ·exact XS.aloadN X593.here hx rfl (D d4_149) rfl rfl k
    have F596 := (F586.other W589 (Or.inl nq_a0_gs))
    refine own_getF X593 hx hZ hown (host := "") (Or.inl (own_h hw 19 rfl)) Via.refl e593 F596 rfl rfl (D d4_150) (fun T595 X595 e595 => ?_)
    have hbn598 : own_In (own_at [x0, x1, x2] y2) (own_v592 x0 x1 x2 y0 y1 y2).length := hl597 hs28_2 hs28_3
    refine own_pA T595 m 157 #[.val (.ref a0), .val (.int ((((0:Int32) + (own_at (own_v524 x0 x1 x2 y0 y1 y2) (own_at [x0, x1, x2] y0))) + (own_at (own_v541 x0 x1 x2 y0 y1 y2) (own_at [x0, x1, x2] y1))) + (own_at (own_v556 x0 x1 x2 y0 y1 y2) (own_at [x0, x1, x2] y2)))), .val (.int (2:Int32)), .val (.int y2), .val (.int (own_at [x0, x1, x2] y2))] [(.int y2), (.int (own_at (own_v592 x0 x1 x2 y0 y1 y2) (own_at [x0, x1, x2] y2))), (.ref gr)] (fun t k => ?_) ?_
    ·refine XS.iload X595.here hx rfl (D d4_153) rfl ?_
     refine own_iaload X595 hx hZ e595 Vw589 hbn598 rfl rfl (D d4_155) ?_
     exact XS.iloadN X595.here hx rfl (D d4_156) rfl k
    have F600 := (((((((((((((P10.other W437 nq_gr_gl).other W442 (Ne.symm nq_a0_gr)).other W449 nq_gr_gs).other W471 nq_gr_gl).other W477 (Ne.symm nq_a0_gr)).other W485 nq_gr_gs).other W507 nq_gr_gl).other W513 (Ne.symm nq_a0_gr)).other W521 nq_gr_gs).other W538 nq_gr_gs).other W553 nq_gr_gs).other W568 nq_gr_gs).other W589 nq_gr_gs)
    have hbn602 : own_In (own_at (own_v592 x0 x1 x2 y0 y1 y2) (own_at [x0, x1, x2] y2)) [(0:Int32), (0:Int32), (0:Int32)].length := hl601 hs28_2 hs28_3
    refine own_iastG X595 hx hZ e595 F600 hbn602 rfl rfl (D d4_157) (fun T599 h599 X599 e599 W599 V599 => ?_)
    have Kp599 : Keep h0 h599 [a0, gr, gl, gs] := Kp589.wr W599 (Or.inl (List.mem_of_getElem? (i := 1) rfl))
    have Z603 : n0 ≤ h599.size := Nat.le_trans Z591 (Nat.le_of_eq W599.size.symm)
    have N599 := Fr.snoc X599 N589 gq_gr
    have Vw599 : own_Ints Z h599 gr (own_v604 x0 x1 x2 y0 y1 y2) := V599
    refine own_pA T599 m 120 #[.val (.ref a0), .val (.int ((((0:Int32) + (own_at (own_v524 x0 x1 x2 y0 y1 y2) (own_at [x0, x1, x2] y0))) + (own_at (own_v541 x0 x1 x2 y0 y1 y2) (own_at [x0, x1, x2] y1))) + (own_at (own_v556 x0 x1 x2 y0 y1 y2) (own_at [x0, x1, x2] y2)))), .val (.int (1:Int32)), .val (.int y2), .val (.int (own_at [x0, x1, x2] y2))] [(.ref a0)] (fun t k => ?_) ?_
    ·refine XS.iinc X599.here hx rfl (D d4_158) rfl (l' := #[.val (.ref a0), .val (.int ((((0:Int32) + (own_at (own_v524 x0 x1 x2 y0 y1 y2) (own_at [x0, x1, x2] y0))) + (own_at (own_v541 x0 x1 x2 y0 y1 y2) (own_at [x0, x1, x2] y1))) + (own_at (own_v556 x0 x1 x2 y0 y1 y2) (own_at [x0, x1, x2] y2)))), .val (.int (1:Int32)), .val (.int y2), .val (.int (own_at [x0, x1, x2] y2))]) rfl ?_
     refine XS.goto X599.here hx rfl (pc0 := 161) (pc' := 115) rfl (D d4_161) (by decide) (by decide) ?_
     refine XS.iloadN X599.here hx rfl (D d4_115) rfl ?_
     refine XS.ifNo X599.here hx rfl (D d4_116) rfl (XT.i0_lt_f (by decide)) ?_
     exact XS.aloadN X599.here hx rfl (D d4_119) rfl rfl k
    have F606 := ((F577.other W589 (Or.inl nq_a0_gs)).other W599 (Or.inl nq_a0_gr))
    refine own_getF X599 hx hZ hown (host := "") (Or.inl (own_h hw 13 rfl)) Via.refl e599 F606 rfl rfl (D d4_120) (fun T605 X605 e605 => ?_)
    have F607 := ((F578.other W589 nq_mv_gs).other W599 nq_mv_gr)
    have hbn608 : own_In (1:Int32) [y0, y1, y2].length := own_lit rfl
    refine own_pA T605 m 127 #[.val (.ref a0), .val (.int ((((0:Int32) + (own_at (own_v524 x0 x1 x2 y0 y1 y2) (own_at [x0, x1, x2] y0))) + (own_at (own_v541 x0 x1 x2 y0 y1 y2) (own_at [x0, x1, x2] y1))) + (own_at (own_v556 x0 x1 x2 y0 y1 y2) (own_at [x0, x1, x2] y2)))), .val (.int (1:Int32)), .val (.int y1), .val (.int (own_at [x0, x1, x2] y2))] [(.ref a0)] (fun t k => ?_) ?_
    ·refine XS.iloadN X605.here hx rfl (D d4_123) rfl ?_
     refine own_iaload X605 hx hZ e605 F607 hbn608 rfl rfl (D d4_124) ?_
     refine XS.istoreN X605.here hx rfl (D d4_125) rfl (l' := #[.val (.ref a0), .val (.int ((((0:Int32) + (own_at (own_v524 x0 x1 x2 y0 y1 y2) (own_at [x0, x1, x2] y0))) + (own_at (own_v541 x0 x1 x2 y0 y1 y2) (own_at [x0, x1, x2] y1))) + (own_at (own_v556 x0 x1 x2 y0 y1 y2) (own_at [x0, x1, x2] y2)))), .val (.int (1:Int32)), .val (.int y1), .val (.int (own_at [x0, x1, x2] y2))]) rfl ?_
     exact XS.aloadN X605.here hx rfl (D d4_126) rfl rfl k
    have F610 := ((F581.other W589 (Or.inl nq_a0_gs)).other W599 (Or.inl nq_a0_gr))
    refine own_getF X605 hx hZ hown (host := "") (Or.inl (own_h hw 11 rfl)) Via.refl e605 F610 rfl rfl (D d4_127) (fun T609 X609 e609 => ?_)
    have F611 := ((F582.other W589 nq_la_gs).other W599 nq_la_gr)
    have hbn613 : own_In y1 [x0, x1, x2].length := hl612 hs28_2 hs28_3
    refine own_pA T609 m 135 #[.val (.ref a0), .val (.int ((((0:Int32) + (own_at (own_v524 x0 x1 x2 y0 y1 y2) (own_at [x0, x1, x2] y0))) + (own_at (own_v541 x0 x1 x2 y0 y1 y2) (own_at [x0, x1, x2] y1))) + (own_at (own_v556 x0 x1 x2 y0 y1 y2) (own_at [x0, x1, x2] y2)))), .val (.int (1:Int32)), .val (.int y1), .val (.int (own_at [x0, x1, x2] y1))] [(.ref a0)] (fun t k => ?_) ?_
    ·refine XS.iloadN X609.here hx rfl (D d4_130) rfl ?_
     refine own_iaload X609 hx hZ e609 F611 hbn613 rfl rfl (D d4_131) ?_
     refine XS.istore X609.here hx rfl (D d4_132) rfl (l' := #[.val (.ref a0), .val (.int ((((0:Int32) + (own_at (own_v524 x0 x1 x2 y0 y1 y2) (own_at [x0, x1, x2] y0))) + (own_at (own_v541 x0 x1 x2 y0 y1 y2) (own_at [x0, x1, x2] y1))) + (own_at (own_v556 x0 x1 x2 y0 y1 y2) (own_at [x0, x1, x2] y2)))), .val (.int (1:Int32)), .val (.int y1), .val (.int (own_at [x0, x1, x2] y1))]) rfl ?_
     exact XS.aloadN X609.here hx rfl (D d4_134) rfl rfl k
    have F615 := (F596.other W599 (Or.inl nq_a0_gr))
    refine own_getF X609 hx hZ hown (host := "") (Or.inl (own_h hw 19 rfl)) Via.refl e609 F615 rfl rfl (D d4_135) (fun T614 X614 e614 => ?_)
    have F616 := (Vw589.other W599 (Ne.symm nq_gr_gs))
    have hbn618 : own_In (own_at [x0, x1, x2] y1) (own_v592 x0 x1 x2 y0 y1 y2).length := hl617 hs28_2 hs28_3
    refine own_pA T614 m 144 #[.val (.ref a0), .val (.int ((((0:Int32) + (own_at (own_v524 x0 x1 x2 y0 y1 y2) (own_at [x0, x1, x2] y0))) + (own_at (own_v541 x0 x1 x2 y0 y1 y2) (own_at [x0, x1, x2] y1))) + (own_at (own_v556 x0 x1 x2 y0 y1 y2) (own_at [x0, x1, x2] y2)))), .val (.int (1:Int32)), .val (.int y1), .val (.int (own_at [x0, x1, x2] y1))] [(.int ((own_at (own_v592 x0 x1 x2 y0 y1 y2) (own_at [x0, x1, x2] y1)) - (1:Int32))), (.int (own_at [x0, x1, x2] y1)), (.ref gs)] (fun t k => ?_) ?_
    ·refine XS.iload X614.here hx rfl (D d4_138) rfl ?_
     refine XT.dup2 X614.here hx rfl (D d4_140) rfl rfl rfl ?_
     refine own_iaload X614 hx hZ e614 F616 hbn618 rfl rfl (D d4_141) ?_
     refine XS.iconst X614.here hx rfl (D d4_142) ?_
     exact XS.isub X614.here hx rfl (D d4_143) rfl k
    have hbn620 : own_In (own_at [x0, x1, x2] y1) (own_v592 x0 x1 x2 y0 y1 y2).length := hl617 hs28_2 hs28_3
    refine own_iastG X614 hx hZ e614 F616 hbn620 rfl rfl (D d4_144) (fun T619 h619 X619 e619 W619 V619 => ?_)
    have Kp619 : Keep h0 h619 [a0, gr, gl, gs] := Kp599.wr W619 (Or.inl (List.mem_of_getElem? (i := 3) rfl))
    have Z621 : n0 ≤ h619.size := Nat.le_trans Z603 (Nat.le_of_eq W619.size.symm)
    have N619 := Fr.snoc X619 N599 gq_gs
    have Vw619 : own_Ints Z h619 gs (own_v622 x0 x1 x2 y0 y1 y2) := V619
    refine own_pA T619 m 146 #[.val (.ref a0), .val (.int ((((0:Int32) + (own_at (own_v524 x0 x1 x2 y0 y1 y2) (own_at [x0, x1, x2] y0))) + (own_at (own_v541 x0 x1 x2 y0 y1 y2) (own_at [x0, x1, x2] y1))) + (own_at (own_v556 x0 x1 x2 y0 y1 y2) (own_at [x0, x1, x2] y2)))), .val (.int (1:Int32)), .val (.int y1), .val (.int (own_at [x0, x1, x2] y1))] [(.ref a0)] (fun t k => ?_) ?_
    ·exact XS.aloadN X619.here hx rfl (D d4_145) rfl rfl k
    have F624 := ((F594.other W599 (Or.inl nq_a0_gr)).other W619 (Or.inl nq_a0_gs))
    refine own_getF X619 hx hZ hown (host := "") (Or.inl (own_h hw 15 rfl)) Via.refl e619 F624 rfl rfl (D d4_146) (fun T623 X623 e623 => ?_)
    refine own_pA T623 m 150 #[.val (.ref a0), .val (.int ((((0:Int32) + (own_at (own_v524 x0 x1 x2 y0 y1 y2) (own_at [x0, x1, x2] y0))) + (own_at (own_v541 x0 x1 x2 y0 y1 y2) (own_at [x0, x1, x2] y1))) + (own_at (own_v556 x0 x1 x2 y0 y1 y2) (own_at [x0, x1, x2] y2)))), .val (.int (1:Int32)), .val (.int y1), .val (.int (own_at [x0, x1, x2] y1))] [(.ref a0), (.ref gr)] (fun t k => ?_) ?_
    ·exact XS.aloadN X623.here hx rfl (D d4_149) rfl rfl k
    have F626 := (F615.other W619 (Or.inl nq_a0_gs))
    refine own_getF X623 hx hZ hown (host := "") (Or.inl (own_h hw 19 rfl)) Via.refl e623 F626 rfl rfl (D d4_150) (fun T625 X625 e625 => ?_)
    have hbn628 : own_In (own_at [x0, x1, x2] y1) (own_v622 x0 x1 x2 y0 y1 y2).length := hl627 hs28_2 hs28_3
    refine own_pA T625 m 157 #[.val (.ref a0), .val (.int ((((0:Int32) + (own_at (own_v524 x0 x1 x2 y0 y1 y2) (own_at [x0, x1, x2] y0))) + (own_at (own_v541 x0 x1 x2 y0 y1 y2) (own_at [x0, x1, x2] y1))) + (own_at (own_v556 x0 x1 x2 y0 y1 y2) (own_at [x0, x1, x2] y2)))), .val (.int (1:Int32)), .val (.int y1), .val (.int (own_at [x0, x1, x2] y1))] [(.int y1), (.int (own_at (own_v622 x0 x1 x2 y0 y1 y2) (own_at [x0, x1, x2] y1))), (.ref gr)] (fun t k => ?_) ?_
    ·refine XS.iload X625.here hx rfl (D d4_153) rfl ?_
     refine own_iaload X625 hx hZ e625 Vw619 hbn628 rfl rfl (D d4_155) ?_
     exact XS.iloadN X625.here hx rfl (D d4_156) rfl k
    have F630 := (Vw599.other W619 nq_gr_gs)
    have hbn632 : own_In (own_at (own_v622 x0 x1 x2 y0 y1 y2) (own_at [x0, x1, x2] y1)) (own_v604 x0 x1 x2 y0 y1 y2).length := hl631 hs28_2 hs28_3
    refine own_iastG X625 hx hZ e625 F630 hbn632 rfl rfl (D d4_157) (fun T629 h629 X629 e629 W629 V629 => ?_)
    have Kp629 : Keep h0 h629 [a0, gr, gl, gs] := Kp619.wr W629 (Or.inl (List.mem_of_getElem? (i := 1) rfl))
    have Z633 : n0 ≤ h629.size := Nat.le_trans Z621 (Nat.le_of_eq W629.size.symm)
    have N629 := Fr.snoc X629 N619 gq_gr
    have Vw629 : own_Ints Z h629 gr (own_v634 x0 x1 x2 y0 y1 y2) := V629
    refine own_pA T629 m 120 #[.val (.ref a0), .val (.int ((((0:Int32) + (own_at (own_v524 x0 x1 x2 y0 y1 y2) (own_at [x0, x1, x2] y0))) + (own_at (own_v541 x0 x1 x2 y0 y1 y2) (own_at [x0, x1, x2] y1))) + (own_at (own_v556 x0 x1 x2 y0 y1 y2) (own_at [x0, x1, x2] y2)))), .val (.int (0:Int32)), .val (.int y1), .val (.int (own_at [x0, x1, x2] y1))] [(.ref a0)] (fun t k => ?_) ?_
    ·refine XS.iinc X629.here hx rfl (D d4_158) rfl (l' := #[.val (.ref a0), .val (.int ((((0:Int32) + (own_at (own_v524 x0 x1 x2 y0 y1 y2) (own_at [x0, x1, x2] y0))) + (own_at (own_v541 x0 x1 x2 y0 y1 y2) (own_at [x0, x1, x2] y1))) + (own_at (own_v556 x0 x1 x2 y0 y1 y2) (own_at [x0, x1, x2] y2)))), .val (.int (0:Int32)), .val (.int y1), .val (.int (own_at [x0, x1, x2] y1))]) rfl ?_
     refine XS.goto X629.here hx rfl (pc0 := 161) (pc' := 115) rfl (D d4_161) (by decide) (by decide) ?_
     refine XS.iloadN X629.here hx rfl (D d4_115) rfl ?_
     refine XS.ifNo X629.here hx rfl (D d4_116) rfl (XT.i0_lt_f (by decide)) ?_
     exact XS.aloadN X629.here hx rfl (D d4_119) rfl rfl k
    have F636 := ((F606.other W619 (Or.inl nq_a0_gs)).other W629 (Or.inl nq_a0_gr))
    refine own_getF X629 hx hZ hown (host := "") (Or.inl (own_h hw 13 rfl)) Via.refl e629 F636 rfl rfl (D d4_120) (fun T635 X635 e635 => ?_)
    have F637 := ((F607.other W619 nq_mv_gs).other W629 nq_mv_gr)
    have hbn638 : own_In (0:Int32) [y0, y1, y2].length := own_lit rfl
    refine own_pA T635 m 127 #[.val (.ref a0), .val (.int ((((0:Int32) + (own_at (own_v524 x0 x1 x2 y0 y1 y2) (own_at [x0, x1, x2] y0))) + (own_at (own_v541 x0 x1 x2 y0 y1 y2) (own_at [x0, x1, x2] y1))) + (own_at (own_v556 x0 x1 x2 y0 y1 y2) (own_at [x0, x1, x2] y2)))), .val (.int (0:Int32)), .val (.int y0), .val (.int (own_at [x0, x1, x2] y1))] [(.ref a0)] (fun t k => ?_) ?_
    ·refine XS.iloadN X635.here hx rfl (D d4_123) rfl ?_
     refine own_iaload X635 hx hZ e635 F637 hbn638 rfl rfl (D d4_124) ?_
     refine XS.istoreN X635.here hx rfl (D d4_125) rfl (l' := #[.val (.ref a0), .val (.int ((((0:Int32) + (own_at (own_v524 x0 x1 x2 y0 y1 y2) (own_at [x0, x1, x2] y0))) + (own_at (own_v541 x0 x1 x2 y0 y1 y2) (own_at [x0, x1, x2] y1))) + (own_at (own_v556 x0 x1 x2 y0 y1 y2) (own_at [x0, x1, x2] y2)))), .val (.int (0:Int32)), .val (.int y0), .val (.int (own_at [x0, x1, x2] y1))]) rfl ?_
     exact XS.aloadN X635.here hx rfl (D d4_126) rfl rfl k
    have F640 := ((F610.other W619 (Or.inl nq_a0_gs)).other W629 (Or.inl nq_a0_gr))
    refine own_getF X635 hx hZ hown (host := "") (Or.inl (own_h hw 11 rfl)) Via.refl e635 F640 rfl rfl (D d4_127) (fun T639 X639 e639 => ?_)
    have F641 := ((F611.other W619 nq_la_gs).other W629 nq_la_gr)
    have hbn643 : own_In y0 [x0, x1, x2].length := hl642 hs28_2 hs28_3
    refine own_pA T639 m 135 #[.val (.ref a0), .val (.int ((((0:Int32) + (own_at (own_v524 x0 x1 x2 y0 y1 y2) (own_at [x0, x1, x2] y0))) + (own_at (own_v541 x0 x1 x2 y0 y1 y2) (own_at [x0, x1, x2] y1))) + (own_at (own_v556 x0 x1 x2 y0 y1 y2) (own_at [x0, x1, x2] y2)))), .val (.int (0:Int32)), .val (.int y0), .val (.int (own_at [x0, x1, x2] y0))] [(.ref a0)] (fun t k => ?_) ?_
    ·refine XS.iloadN X639.here hx rfl (D d4_130) rfl ?_
     refine own_iaload X639 hx hZ e639 F641 hbn643 rfl rfl (D d4_131) ?_
     refine XS.istore X639.here hx rfl (D d4_132) rfl (l' := #[.val (.ref a0), .val (.int ((((0:Int32) + (own_at (own_v524 x0 x1 x2 y0 y1 y2) (own_at [x0, x1, x2] y0))) + (own_at (own_v541 x0 x1 x2 y0 y1 y2) (own_at [x0, x1, x2] y1))) + (own_at (own_v556 x0 x1 x2 y0 y1 y2) (own_at [x0, x1, x2] y2)))), .val (.int (0:Int32)), .val (.int y0), .val (.int (own_at [x0, x1, x2] y0))]) rfl ?_
     exact XS.aloadN X639.here hx rfl (D d4_134) rfl rfl k
    have F645 := (F626.other W629 (Or.inl nq_a0_gr))
    refine own_getF X639 hx hZ hown (host := "") (Or.inl (own_h hw 19 rfl)) Via.refl e639 F645 rfl rfl (D d4_135) (fun T644 X644 e644 => ?_)
    have F646 := (Vw619.other W629 (Ne.symm nq_gr_gs))
    have hbn648 : own_In (own_at [x0, x1, x2] y0) (own_v622 x0 x1 x2 y0 y1 y2).length := hl647 hs28_2 hs28_3
    refine own_pA T644 m 144 #[.val (.ref a0), .val (.int ((((0:Int32) + (own_at (own_v524 x0 x1 x2 y0 y1 y2) (own_at [x0, x1, x2] y0))) + (own_at (own_v541 x0 x1 x2 y0 y1 y2) (own_at [x0, x1, x2] y1))) + (own_at (own_v556 x0 x1 x2 y0 y1 y2) (own_at [x0, x1, x2] y2)))), .val (.int (0:Int32)), .val (.int y0), .val (.int (own_at [x0, x1, x2] y0))] [(.int ((own_at (own_v622 x0 x1 x2 y0 y1 y2) (own_at [x0, x1, x2] y0)) - (1:Int32))), (.int (own_at [x0, x1, x2] y0)), (.ref gs)] (fun t k => ?_) ?_
    ·refine XS.iload X644.here hx rfl (D d4_138) rfl ?_
     refine XT.dup2 X644.here hx rfl (D d4_140) rfl rfl rfl ?_
     refine own_iaload X644 hx hZ e644 F646 hbn648 rfl rfl (D d4_141) ?_
     refine XS.iconst X644.here hx rfl (D d4_142) ?_
     exact XS.isub X644.here hx rfl (D d4_143) rfl k
    have hbn650 : own_In (own_at [x0, x1, x2] y0) (own_v622 x0 x1 x2 y0 y1 y2).length := hl647 hs28_2 hs28_3
    refine own_iastG X644 hx hZ e644 F646 hbn650 rfl rfl (D d4_144) (fun T649 h649 X649 e649 W649 V649 => ?_)
    have Kp649 : Keep h0 h649 [a0, gr, gl, gs] := Kp629.wr W649 (Or.inl (List.mem_of_getElem? (i := 3) rfl))
    have Z651 : n0 ≤ h649.size := Nat.le_trans Z633 (Nat.le_of_eq W649.size.symm)
    have N649 := Fr.snoc X649 N629 gq_gs
    have Vw649 : own_Ints Z h649 gs (own_v652 x0 x1 x2 y0 y1 y2) := V649
    refine own_pA T649 m 146 #[.val (.ref a0), .val (.int ((((0:Int32) + (own_at (own_v524 x0 x1 x2 y0 y1 y2) (own_at [x0, x1, x2] y0))) + (own_at (own_v541 x0 x1 x2 y0 y1 y2) (own_at [x0, x1, x2] y1))) + (own_at (own_v556 x0 x1 x2 y0 y1 y2) (own_at [x0, x1, x2] y2)))), .val (.int (0:Int32)), .val (.int y0), .val (.int (own_at [x0, x1, x2] y0))] [(.ref a0)] (fun t k => ?_) ?_
    ·exact XS.aloadN X649.here hx rfl (D d4_145) rfl rfl k
    have F654 := ((F624.other W629 (Or.inl nq_a0_gr)).other W649 (Or.inl nq_a0_gs))
    refine own_getF X649 hx hZ hown (host := "") (Or.inl (own_h hw 15 rfl)) Via.refl e649 F654 rfl rfl (D d4_146) (fun T653 X653 e653 => ?_)
    refine own_pA T653 m 150 #[.val (.ref a0), .val (.int ((((0:Int32) + (own_at (own_v524 x0 x1 x2 y0 y1 y2) (own_at [x0, x1, x2] y0))) + (own_at (own_v541 x0 x1 x2 y0 y1 y2) (own_at [x0, x1, x2] y1))) + (own_at (own_v556 x0 x1 x2 y0 y1 y2) (own_at [x0, x1, x2] y2)))), .val (.int (0:Int32)), .val (.int y0), .val (.int (own_at [x0, x1, x2] y0))] [(.ref a0), (.ref gr)] (fun t k => ?_) ?_
    ·exact XS.aloadN X653.here hx rfl (D d4_149) rfl rfl k
    have F656 := (F645.other W649 (Or.inl nq_a0_gs))
    refine own_getF X653 hx hZ hown (host := "") (Or.inl (own_h hw 19 rfl)) Via.refl e653 F656 rfl rfl (D d4_150) (fun T655 X655 e655 => ?_)
    have hbn658 : own_In (own_at [x0, x1, x2] y0) (own_v652 x0 x1 x2 y0 y1 y2).length := hl657 hs28_2 hs28_3
    refine own_pA T655 m 157 #[.val (.ref a0), .val (.int ((((0:Int32) + (own_at (own_v524 x0 x1 x2 y0 y1 y2) (own_at [x0, x1, x2] y0))) + (own_at (own_v541 x0 x1 x2 y0 y1 y2) (own_at [x0, x1, x2] y1))) + (own_at (own_v556 x0 x1 x2 y0 y1 y2) (own_at [x0, x1, x2] y2)))), .val (.int (0:Int32)), .val (.int y0), .val (.int (own_at [x0, x1, x2] y0))] [(.int y0), (.int (own_at (own_v652 x0 x1 x2 y0 y1 y2) (own_at [x0, x1, x2] y0))), (.ref gr)] (fun t k => ?_) ?_
    ·refine XS.iload X655.here hx rfl (D d4_153) rfl ?_
     refine own_iaload X655 hx hZ e655 Vw649 hbn658 rfl rfl (D d4_155) ?_
     exact XS.iloadN X655.here hx rfl (D d4_156) rfl k
    have F660 := (Vw629.other W649 nq_gr_gs)
    have hbn662 : own_In (own_at (own_v652 x0 x1 x2 y0 y1 y2) (own_at [x0, x1, x2] y0)) (own_v634 x0 x1 x2 y0 y1 y2).length := hl661 hs28_2 hs28_3
    refine own_iastG X655 hx hZ e655 F660 hbn662 rfl rfl (D d4_157) (fun T659 h659 X659 e659 W659 V659 => ?_)
    have Kp659 : Keep h0 h659 [a0, gr, gl, gs] := Kp649.wr W659 (Or.inl (List.mem_of_getElem? (i := 1) rfl))
    have Z663 : n0 ≤ h659.size := Nat.le_trans Z651 (Nat.le_of_eq W659.size.symm)
    have N659 := Fr.snoc X659 N649 gq_gr
    have Vw659 : own_Ints Z h659 gr (own_v664 x0 x1 x2 y0 y1 y2) := V659
    refine own_pA T659 m 165 #[.val (.ref a0), .val (.int ((((0:Int32) + (own_at (own_v524 x0 x1 x2 y0 y1 y2) (own_at [x0, x1, x2] y0))) + (own_at (own_v541 x0 x1 x2 y0 y1 y2) (own_at [x0, x1, x2] y1))) + (own_at (own_v556 x0 x1 x2 y0 y1 y2) (own_at [x0, x1, x2] y2)))), .val (.int (-1:Int32)), .val (.int y0), .val (.int (own_at [x0, x1, x2] y0))] [(.ref a0)] (fun t k => ?_) ?_
    ·refine XS.iinc X659.here hx rfl (D d4_158) rfl (l' := #[.val (.ref a0), .val (.int ((((0:Int32) + (own_at (own_v524 x0 x1 x2 y0 y1 y2) (own_at [x0, x1, x2] y0))) + (own_at (own_v541 x0 x1 x2 y0 y1 y2) (own_at [x0, x1, x2] y1))) + (own_at (own_v556 x0 x1 x2 y0 y1 y2) (own_at [x0, x1, x2] y2)))), .val (.int (-1:Int32)), .val (.int y0), .val (.int (own_at [x0, x1, x2] y0))]) rfl ?_
     refine XS.goto X659.here hx rfl (pc0 := 161) (pc' := 115) rfl (D d4_161) (by decide) (by decide) ?_
     refine XS.iloadN X659.here hx rfl (D d4_115) rfl ?_
     refine XS.ifYes X659.here hx rfl (pc0 := 116) (pc' := 164) rfl (D d4_116) rfl (XT.i0_lt_t (by decide)) (by decide) (by decide) ?_
     exact XS.aloadN X659.here hx rfl (D d4_164) rfl rfl k
    have F666 := ((((((F573.other W589 (Or.inl nq_a0_gs)).other W599 (Or.inl nq_a0_gr)).other W619 (Or.inl nq_a0_gs)).other W629 (Or.inl nq_a0_gr)).other W649 (Or.inl nq_a0_gs)).other W659 (Or.inl nq_a0_gr))
    refine own_getF X659 hx hZ hown (host := "") (Or.inl (own_h hw 33 rfl)) Via.refl e659 F666 rfl rfl (D d4_165) (fun T665 X665 e665 => ?_)
    have hv667 : (3:Int32) = f4m3 x0 x1 x2 y0 y1 y2 := by simp only [f4m3, if_pos hs28_2, if_pos hs28_3]
    have F668 := ((F640.other W649 (Or.inl nq_a0_gs)).other W659 (Or.inl nq_a0_gr))
    have F669 := ((F636.other W649 (Or.inl nq_a0_gs)).other W659 (Or.inl nq_a0_gr))
    have F670 := (F654.other W659 (Or.inl nq_a0_gr))
    have F671 := (((((((F560.other W568 (Or.inl nq_a0_gs)).other W589 (Or.inl nq_a0_gs)).other W599 (Or.inl nq_a0_gr)).other W619 (Or.inl nq_a0_gs)).other W629 (Or.inl nq_a0_gr)).other W649 (Or.inl nq_a0_gs)).other W659 (Or.inl nq_a0_gr))
    have F672 := (F656.other W659 (Or.inl nq_a0_gr))
    have F673 := ((((((F575.other W589 (Or.inl nq_a0_gs)).other W599 (Or.inl nq_a0_gr)).other W619 (Or.inl nq_a0_gs)).other W629 (Or.inl nq_a0_gr)).other W649 (Or.inl nq_a0_gs)).other W659 (Or.inl nq_a0_gr))
    have F674 := (((((((F561.other W568 nq_gl_gs).other W589 nq_gl_gs).other W599 (Ne.symm nq_gr_gl)).other W619 nq_gl_gs).other W629 (Ne.symm nq_gr_gl)).other W649 nq_gl_gs).other W659 (Ne.symm nq_gr_gl))
    have F675 := (Vw649.other W659 (Ne.symm nq_gr_gs))
    exact own_end X665 (BodyLoose.notSynchronized Bd) (fun h => by rw [Bd.returns] at h; cases h) (v := some (.int (3:Int32))) (fun fs hr => retOut X665 hx Bd.returns rfl (by simp [Value.isRef, FieldType.isReference]) (D d4_168) hr) (by show Q4m3 Z a0 la mv gr gl gs x0 x1 x2 y0 y1 y2 h0 n0 _ T665.heap _; rw [e665]; exact ⟨(congrArg (fun z => some (Value.int z)) hv667), N659, Kp659, (by first | exact F668 | (simp only [if_pos hs28_2, if_pos hs28_3]; exact F668)), (by first | exact F669 | (simp only [if_pos hs28_2, if_pos hs28_3]; exact F669)), (by first | exact F670 | (simp only [if_pos hs28_2, if_pos hs28_3]; exact F670)), (by first | exact F671 | (simp only [if_pos hs28_2, if_pos hs28_3]; exact F671)), (by first | exact F672 | (simp only [if_pos hs28_2, if_pos hs28_3]; exact F672)), (by first | exact F673 | (simp only [if_pos hs28_2, if_pos hs28_3]; exact F673)), (by simp only [g4m3_gc, if_pos hs28_2, if_pos hs28_3]; exact F666), (by simp only [g4m3_gr, if_pos hs28_2, if_pos hs28_3]; exact Vw659), (by simp only [g4m3_gl, if_pos hs28_2, if_pos hs28_3]; exact F674), (by simp only [g4m3_gs, if_pos hs28_2, if_pos hs28_3]; exact F675)⟩) (by decide) (by decide)
   ·refine own_pA T499 m 52 #[.val (.ref a0), .val (.int (2:Int32)), .val (.int (own_at [x0, x1, x2] y2)), .unset, .unset] [(.ref a0)] (fun t k => ?_) ?_
    ·refine XS.ifYes X499.here hx rfl (pc0 := 28) (pc' := 51) rfl (D d4_28) rfl (XT.i0_ne_t hs28_3) (by decide) (by decide) ?_
     exact XS.aloadN X499.here hx rfl (D d4_51) rfl rfl k
    refine own_getF X499 hx hZ hown (host := "") (Or.inl (own_h hw 19 rfl)) Via.refl e499 F500 rfl rfl (D d4_52) (fun T676 X676 e676 => ?_)
    have hbn678 : own_In (own_at [x0, x1, x2] y2) (own_v223 x0 x1 x2 y0 y1).length := hl677 hs28_2 hs28_3
    refine own_pA T676 m 60 #[.val (.ref a0), .val (.int (2:Int32)), .val (.int (own_at [x0, x1, x2] y2)), .unset, .unset] [(.int ((own_at (own_v223 x0 x1 x2 y0 y1) (own_at [x0, x1, x2] y2)) + (1:Int32))), (.int (own_at [x0, x1, x2] y2)), (.ref gs)] (fun t k => ?_) ?_
    ·refine XS.iloadN X676.here hx rfl (D d4_55) rfl ?_
     refine XT.dup2 X676.here hx rfl (D d4_56) rfl rfl rfl ?_
     refine own_iaload X676 hx hZ e676 Vw485 hbn678 rfl rfl (D d4_57) ?_
     refine XS.iconst X676.here hx rfl (D d4_58) ?_
     exact XS.iadd X676.here hx rfl (D d4_59) rfl k
    have hbn680 : own_In (own_at [x0, x1, x2] y2) (own_v223 x0 x1 x2 y0 y1).length := hl677 hs28_2 hs28_3
    refine own_iastG X676 hx hZ e676 Vw485 hbn680 rfl rfl (D d4_60) (fun T679 h679 X679 e679 W679 V679 => ?_)
    have Kp679 : Keep h0 h679 [a0, gr, gl, gs] := Kp485.wr W679 (Or.inl (List.mem_of_getElem? (i := 3) rfl))
    have Z681 : n0 ≤ h679.size := Nat.le_trans Z487 (Nat.le_of_eq W679.size.symm)
    have N679 := Fr.snoc X679 N485 gq_gs
    have Vw679 : own_Ints Z h679 gs (own_v524 x0 x1 x2 y0 y1 y2) := V679
    refine own_pA T679 m 4 #[.val (.ref a0), .val (.int (3:Int32)), .val (.int (own_at [x0, x1, x2] y2)), .unset, .unset] [(.ref a0), (.int (3:Int32))] (fun t k => ?_) ?_
    ·refine XS.iinc X679.here hx rfl (D d4_61) rfl (l' := #[.val (.ref a0), .val (.int (3:Int32)), .val (.int (own_at [x0, x1, x2] y2)), .unset, .unset]) rfl ?_
     refine XS.goto X679.here hx rfl (pc0 := 64) (pc' := 2) rfl (D d4_64) (by decide) (by decide) ?_
     refine XS.iloadN X679.here hx rfl (D d4_2) rfl ?_
     exact XS.aloadN X679.here hx rfl (D d4_3) rfl rfl k
    have F683 := (F489.other W679 (Or.inl nq_a0_gs))
    refine own_getF X679 hx hZ hown (host := "") (Or.inl (own_h hw 26 rfl)) Via.refl e679 F683 rfl rfl (D d4_4) (fun T682 X682 e682 => ?_)
    refine own_pA T682 m 73 #[rv a0, iv (0:Int32), iv (0:Int32), .unset, .unset] [(.ref a0), (.int (0:Int32))] (fun t k => ?_) ?_
    ·refine XS.icmpYes X682.here hx rfl (pc0 := 7) (pc' := 67) rfl (D d4_7) rfl (XT.ii_ge_t (by decide)) (by decide) (by decide) ?_
     refine XS.iconst X682.here hx rfl (D d4_67) ?_
     refine XS.istoreN X682.here hx rfl (D d4_68) rfl (l' := #[.val (.ref a0), .val (.int (0:Int32)), .val (.int (own_at [x0, x1, x2] y2)), .unset, .unset]) rfl ?_
     refine XS.iconst X682.here hx rfl (D d4_69) ?_
     refine XS.istoreN X682.here hx rfl (D d4_70) rfl (l' := #[rv a0, iv (0:Int32), iv (0:Int32), .unset, .unset]) rfl ?_
     refine XS.iloadN X682.here hx rfl (D d4_71) rfl ?_
     exact XS.aloadN X682.here hx rfl (D d4_72) rfl rfl k
    have F685 := ((Fw477.other W485 (Or.inl nq_a0_gs)).other W679 (Or.inl nq_a0_gs))
    refine own_getF X682 hx hZ hown (host := "") (Or.inl (own_h hw 33 rfl)) Via.refl e682 F685 rfl rfl (D d4_73) (fun T684 X684 e684 => ?_)
    refine own_pA T684 m 80 #[rv a0, iv (0:Int32), iv (0:Int32), .unset, .unset] [(.ref a0)] (fun t k => ?_) ?_
    ·refine XS.icmpNo X684.here hx rfl (D d4_76) rfl (XT.ii_ge_f (by decide)) ?_
     exact XS.aloadN X684.here hx rfl (D d4_79) rfl rfl k
    have F687 := ((((F468.other W471 (Or.inl nq_a0_gl)).other W477 (Or.inr (slot_ne (Or.inr (own_h hw 18 rfl)) (Or.inl (own_h hw 34 rfl)) (by decide) (t := (.array .int)) (t' := .int) (by decide) (by decide)))).other W485 (Or.inl nq_a0_gs)).other W679 (Or.inl nq_a0_gs))
    refine own_getF X684 hx hZ hown (host := "") (Or.inl (own_h hw 17 rfl)) Via.refl e684 F687 rfl rfl (D d4_80) (fun T686 X686 e686 => ?_)
    have F688 := (((Vw471.other W477 (Ne.symm nq_a0_gl)).other W485 nq_gl_gs).other W679 nq_gl_gs)
    have hbn689 : own_In (0:Int32) [(own_at [x0, x1, x2] y0), (own_at [x0, x1, x2] y1), (0:Int32)].length := own_lit rfl
    refine own_pA T686 m 88 #[.val (.ref a0), .val (.int (0:Int32)), .val (.int (0:Int32)), .val (.int (own_at [x0, x1, x2] y0)), .unset] [(.ref a0), (.int (0:Int32))] (fun t k => ?_) ?_
    ·refine XS.iloadN X686.here hx rfl (D d4_83) rfl ?_
     refine own_iaload X686 hx hZ e686 F688 hbn689 rfl rfl (D d4_84) ?_
     refine XS.istoreN X686.here hx rfl (D d4_85) rfl (l' := #[.val (.ref a0), .val (.int (0:Int32)), .val (.int (0:Int32)), .val (.int (own_at [x0, x1, x2] y0)), .unset]) rfl ?_
     refine XS.iloadN X686.here hx rfl (D d4_86) rfl ?_
     exact XS.aloadN X686.here hx rfl (D d4_87) rfl rfl k
    have F691 := (F500.other W679 (Or.inl nq_a0_gs))
    refine own_getF X686 hx hZ hown (host := "") (Or.inl (own_h hw 19 rfl)) Via.refl e686 F691 rfl rfl (D d4_88) (fun T690 X690 e690 => ?_)
    have hbn693 : own_In (own_at [x0, x1, x2] y0) (own_v524 x0 x1 x2 y0 y1 y2).length := hl692 hs28_2 hs28_3
    refine own_pA T690 m 96 #[.val (.ref a0), .val (.int ((0:Int32) + (own_at (own_v524 x0 x1 x2 y0 y1 y2) (own_at [x0, x1, x2] y0)))), .val (.int (0:Int32)), .val (.int (own_at [x0, x1, x2] y0)), .unset] [(.ref a0)] (fun t k => ?_) ?_
    ·refine XS.iloadN X690.here hx rfl (D d4_91) rfl ?_
     refine own_iaload X690 hx hZ e690 Vw679 hbn693 rfl rfl (D d4_92) ?_
     refine XS.iadd X690.here hx rfl (D d4_93) rfl ?_
     refine XS.istoreN X690.here hx rfl (D d4_94) rfl (l' := #[.val (.ref a0), .val (.int ((0:Int32) + (own_at (own_v524 x0 x1 x2 y0 y1 y2) (own_at [x0, x1, x2] y0)))), .val (.int (0:Int32)), .val (.int (own_at [x0, x1, x2] y0)), .unset]) rfl ?_
     exact XS.aloadN X690.here hx rfl (D d4_95) rfl rfl k
    refine own_getF X690 hx hZ hown (host := "") (Or.inl (own_h hw 19 rfl)) Via.refl e690 F691 rfl rfl (D d4_96) (fun T694 X694 e694 => ?_)
    refine own_pA T694 m 101 #[.val (.ref a0), .val (.int ((0:Int32) + (own_at (own_v524 x0 x1 x2 y0 y1 y2) (own_at [x0, x1, x2] y0)))), .val (.int (0:Int32)), .val (.int (own_at [x0, x1, x2] y0)), .unset] [(.int ((0:Int32) + (own_at (own_v524 x0 x1 x2 y0 y1 y2) (own_at [x0, x1, x2] y0)))), (.int (own_at [x0, x1, x2] y0)), (.ref gs)] (fun t k => ?_) ?_
    ·refine XS.iloadN X694.here hx rfl (D d4_99) rfl ?_
     exact XS.iloadN X694.here hx rfl (D d4_100) rfl k
    have hbn696 : own_In (own_at [x0, x1, x2] y0) (own_v524 x0 x1 x2 y0 y1 y2).length := hl692 hs28_2 hs28_3
    refine own_iastG X694 hx hZ e694 Vw679 hbn696 rfl rfl (D d4_101) (fun T695 h695 X695 e695 W695 V695 => ?_)
    have Kp695 : Keep h0 h695 [a0, gr, gl, gs] := Kp679.wr W695 (Or.inl (List.mem_of_getElem? (i := 3) rfl))
    have Z697 : n0 ≤ h695.size := Nat.le_trans Z681 (Nat.le_of_eq W695.size.symm)
    have N695 := Fr.snoc X695 N679 gq_gs
    have Vw695 : own_Ints Z h695 gs (own_v541 x0 x1 x2 y0 y1 y2) := V695
    refine own_pA T695 m 73 #[.val (.ref a0), .val (.int ((0:Int32) + (own_at (own_v524 x0 x1 x2 y0 y1 y2) (own_at [x0, x1, x2] y0)))), .val (.int (1:Int32)), .val (.int (own_at [x0, x1, x2] y0)), .unset] [(.ref a0), (.int (1:Int32))] (fun t k => ?_) ?_
    ·refine XS.iinc X695.here hx rfl (D d4_102) rfl (l' := #[.val (.ref a0), .val (.int ((0:Int32) + (own_at (own_v524 x0 x1 x2 y0 y1 y2) (own_at [x0, x1, x2] y0)))), .val (.int (1:Int32)), .val (.int (own_at [x0, x1, x2] y0)), .unset]) rfl ?_
     refine XS.goto X695.here hx rfl (pc0 := 105) (pc' := 71) rfl (D d4_105) (by decide) (by decide) ?_
     refine XS.iloadN X695.here hx rfl (D d4_71) rfl ?_
     exact XS.aloadN X695.here hx rfl (D d4_72) rfl rfl k
    have F699 := (F685.other W695 (Or.inl nq_a0_gs))
    refine own_getF X695 hx hZ hown (host := "") (Or.inl (own_h hw 33 rfl)) Via.refl e695 F699 rfl rfl (D d4_73) (fun T698 X698 e698 => ?_)
    refine own_pA T698 m 80 #[.val (.ref a0), .val (.int ((0:Int32) + (own_at (own_v524 x0 x1 x2 y0 y1 y2) (own_at [x0, x1, x2] y0)))), .val (.int (1:Int32)), .val (.int (own_at [x0, x1, x2] y0)), .unset] [(.ref a0)] (fun t k => ?_) ?_
    ·refine XS.icmpNo X698.here hx rfl (D d4_76) rfl (XT.ii_ge_f (by decide)) ?_
     exact XS.aloadN X698.here hx rfl (D d4_79) rfl rfl k
    have F701 := (F687.other W695 (Or.inl nq_a0_gs))
    refine own_getF X698 hx hZ hown (host := "") (Or.inl (own_h hw 17 rfl)) Via.refl e698 F701 rfl rfl (D d4_80) (fun T700 X700 e700 => ?_)
    have F702 := (F688.other W695 nq_gl_gs)
    have hbn703 : own_In (1:Int32) [(own_at [x0, x1, x2] y0), (own_at [x0, x1, x2] y1), (0:Int32)].length := own_lit rfl
    refine own_pA T700 m 88 #[.val (.ref a0), .val (.int ((0:Int32) + (own_at (own_v524 x0 x1 x2 y0 y1 y2) (own_at [x0, x1, x2] y0)))), .val (.int (1:Int32)), .val (.int (own_at [x0, x1, x2] y1)), .unset] [(.ref a0), (.int ((0:Int32) + (own_at (own_v524 x0 x1 x2 y0 y1 y2) (own_at [x0, x1, x2] y0))))] (fun t k => ?_) ?_
    ·refine XS.iloadN X700.here hx rfl (D d4_83) rfl ?_
     refine own_iaload X700 hx hZ e700 F702 hbn703 rfl rfl (D d4_84) ?_
     refine XS.istoreN X700.here hx rfl (D d4_85) rfl (l' := #[.val (.ref a0), .val (.int ((0:Int32) + (own_at (own_v524 x0 x1 x2 y0 y1 y2) (own_at [x0, x1, x2] y0)))), .val (.int (1:Int32)), .val (.int (own_at [x0, x1, x2] y1)), .unset]) rfl ?_
     refine XS.iloadN X700.here hx rfl (D d4_86) rfl ?_
     exact XS.aloadN X700.here hx rfl (D d4_87) rfl rfl k
    have F705 := (F691.other W695 (Or.inl nq_a0_gs))
    refine own_getF X700 hx hZ hown (host := "") (Or.inl (own_h hw 19 rfl)) Via.refl e700 F705 rfl rfl (D d4_88) (fun T704 X704 e704 => ?_)
    have hbn707 : own_In (own_at [x0, x1, x2] y1) (own_v541 x0 x1 x2 y0 y1 y2).length := hl706 hs28_2 hs28_3
    refine own_pA T704 m 96 #[.val (.ref a0), .val (.int (((0:Int32) + (own_at (own_v524 x0 x1 x2 y0 y1 y2) (own_at [x0, x1, x2] y0))) + (own_at (own_v541 x0 x1 x2 y0 y1 y2) (own_at [x0, x1, x2] y1)))), .val (.int (1:Int32)), .val (.int (own_at [x0, x1, x2] y1)), .unset] [(.ref a0)] (fun t k => ?_) ?_
    ·refine XS.iloadN X704.here hx rfl (D d4_91) rfl ?_
     refine own_iaload X704 hx hZ e704 Vw695 hbn707 rfl rfl (D d4_92) ?_
     refine XS.iadd X704.here hx rfl (D d4_93) rfl ?_
     refine XS.istoreN X704.here hx rfl (D d4_94) rfl (l' := #[.val (.ref a0), .val (.int (((0:Int32) + (own_at (own_v524 x0 x1 x2 y0 y1 y2) (own_at [x0, x1, x2] y0))) + (own_at (own_v541 x0 x1 x2 y0 y1 y2) (own_at [x0, x1, x2] y1)))), .val (.int (1:Int32)), .val (.int (own_at [x0, x1, x2] y1)), .unset]) rfl ?_
     exact XS.aloadN X704.here hx rfl (D d4_95) rfl rfl k
    refine own_getF X704 hx hZ hown (host := "") (Or.inl (own_h hw 19 rfl)) Via.refl e704 F705 rfl rfl (D d4_96) (fun T708 X708 e708 => ?_)
    refine own_pA T708 m 101 #[.val (.ref a0), .val (.int (((0:Int32) + (own_at (own_v524 x0 x1 x2 y0 y1 y2) (own_at [x0, x1, x2] y0))) + (own_at (own_v541 x0 x1 x2 y0 y1 y2) (own_at [x0, x1, x2] y1)))), .val (.int (1:Int32)), .val (.int (own_at [x0, x1, x2] y1)), .unset] [(.int (((0:Int32) + (own_at (own_v524 x0 x1 x2 y0 y1 y2) (own_at [x0, x1, x2] y0))) + (own_at (own_v541 x0 x1 x2 y0 y1 y2) (own_at [x0, x1, x2] y1)))), (.int (own_at [x0, x1, x2] y1)), (.ref gs)] (fun t k => ?_) ?_
    ·refine XS.iloadN X708.here hx rfl (D d4_99) rfl ?_
     exact XS.iloadN X708.here hx rfl (D d4_100) rfl k
    have hbn710 : own_In (own_at [x0, x1, x2] y1) (own_v541 x0 x1 x2 y0 y1 y2).length := hl706 hs28_2 hs28_3
    refine own_iastG X708 hx hZ e708 Vw695 hbn710 rfl rfl (D d4_101) (fun T709 h709 X709 e709 W709 V709 => ?_)
    have Kp709 : Keep h0 h709 [a0, gr, gl, gs] := Kp695.wr W709 (Or.inl (List.mem_of_getElem? (i := 3) rfl))
    have Z711 : n0 ≤ h709.size := Nat.le_trans Z697 (Nat.le_of_eq W709.size.symm)
    have N709 := Fr.snoc X709 N695 gq_gs
    have Vw709 : own_Ints Z h709 gs (own_v556 x0 x1 x2 y0 y1 y2) := V709
    refine own_pA T709 m 73 #[.val (.ref a0), .val (.int (((0:Int32) + (own_at (own_v524 x0 x1 x2 y0 y1 y2) (own_at [x0, x1, x2] y0))) + (own_at (own_v541 x0 x1 x2 y0 y1 y2) (own_at [x0, x1, x2] y1)))), .val (.int (2:Int32)), .val (.int (own_at [x0, x1, x2] y1)), .unset] [(.ref a0), (.int (2:Int32))] (fun t k => ?_) ?_
    ·refine XS.iinc X709.here hx rfl (D d4_102) rfl (l' := #[.val (.ref a0), .val (.int (((0:Int32) + (own_at (own_v524 x0 x1 x2 y0 y1 y2) (own_at [x0, x1, x2] y0))) + (own_at (own_v541 x0 x1 x2 y0 y1 y2) (own_at [x0, x1, x2] y1)))), .val (.int (2:Int32)), .val (.int (own_at [x0, x1, x2] y1)), .unset]) rfl ?_
     refine XS.goto X709.here hx rfl (pc0 := 105) (pc' := 71) rfl (D d4_105) (by decide) (by decide) ?_
     refine XS.iloadN X709.here hx rfl (D d4_71) rfl ?_
     exact XS.aloadN X709.here hx rfl (D d4_72) rfl rfl k
    have F713 := (F699.other W709 (Or.inl nq_a0_gs))
    refine own_getF X709 hx hZ hown (host := "") (Or.inl (own_h hw 33 rfl)) Via.refl e709 F713 rfl rfl (D d4_73) (fun T712 X712 e712 => ?_)
    refine own_pA T712 m 109 #[.val (.ref a0), .val (.int (((0:Int32) + (own_at (own_v524 x0 x1 x2 y0 y1 y2) (own_at [x0, x1, x2] y0))) + (own_at (own_v541 x0 x1 x2 y0 y1 y2) (own_at [x0, x1, x2] y1)))), .val (.int (2:Int32)), .val (.int (own_at [x0, x1, x2] y1)), .unset] [(.ref a0)] (fun t k => ?_) ?_
    ·refine XS.icmpYes X712.here hx rfl (pc0 := 76) (pc' := 108) rfl (D d4_76) rfl (XT.ii_ge_t (by decide)) (by decide) (by decide) ?_
     exact XS.aloadN X712.here hx rfl (D d4_108) rfl rfl k
    have F715 := ((F683.other W695 (Or.inl nq_a0_gs)).other W709 (Or.inl nq_a0_gs))
    refine own_getF X712 hx hZ hown (host := "") (Or.inl (own_h hw 26 rfl)) Via.refl e712 F715 rfl rfl (D d4_109) (fun T714 X714 e714 => ?_)
    refine own_pA T714 m 120 #[.val (.ref a0), .val (.int (((0:Int32) + (own_at (own_v524 x0 x1 x2 y0 y1 y2) (own_at [x0, x1, x2] y0))) + (own_at (own_v541 x0 x1 x2 y0 y1 y2) (own_at [x0, x1, x2] y1)))), .val (.int (2:Int32)), .val (.int (own_at [x0, x1, x2] y1)), .unset] [(.ref a0)] (fun t k => ?_) ?_
    ·refine XS.iconst X714.here hx rfl (D d4_112) ?_
     refine XS.isub X714.here hx rfl (D d4_113) rfl ?_
     refine XS.istoreN X714.here hx rfl (D d4_114) rfl (l' := #[.val (.ref a0), .val (.int (((0:Int32) + (own_at (own_v524 x0 x1 x2 y0 y1 y2) (own_at [x0, x1, x2] y0))) + (own_at (own_v541 x0 x1 x2 y0 y1 y2) (own_at [x0, x1, x2] y1)))), .val (.int (2:Int32)), .val (.int (own_at [x0, x1, x2] y1)), .unset]) rfl ?_
     refine XS.iloadN X714.here hx rfl (D d4_115) rfl ?_
     refine XS.ifNo X714.here hx rfl (D d4_116) rfl (XT.i0_lt_f (by decide)) ?_
     exact XS.aloadN X714.here hx rfl (D d4_119) rfl rfl k
    have F717 := (((F493.other W679 (Or.inl nq_a0_gs)).other W695 (Or.inl nq_a0_gs)).other W709 (Or.inl nq_a0_gs))
    refine own_getF X714 hx hZ hown (host := "") (Or.inl (own_h hw 13 rfl)) Via.refl e714 F717 rfl rfl (D d4_120) (fun T716 X716 e716 => ?_)
    have F718 := (((F494.other W679 nq_mv_gs).other W695 nq_mv_gs).other W709 nq_mv_gs)
    have hbn719 : own_In (2:Int32) [y0, y1, y2].length := own_lit rfl
    refine own_pA T716 m 127 #[.val (.ref a0), .val (.int (((0:Int32) + (own_at (own_v524 x0 x1 x2 y0 y1 y2) (own_at [x0, x1, x2] y0))) + (own_at (own_v541 x0 x1 x2 y0 y1 y2) (own_at [x0, x1, x2] y1)))), .val (.int (2:Int32)), .val (.int y2), .unset] [(.ref a0)] (fun t k => ?_) ?_
    ·refine XS.iloadN X716.here hx rfl (D d4_123) rfl ?_
     refine own_iaload X716 hx hZ e716 F718 hbn719 rfl rfl (D d4_124) ?_
     refine XS.istoreN X716.here hx rfl (D d4_125) rfl (l' := #[.val (.ref a0), .val (.int (((0:Int32) + (own_at (own_v524 x0 x1 x2 y0 y1 y2) (own_at [x0, x1, x2] y0))) + (own_at (own_v541 x0 x1 x2 y0 y1 y2) (own_at [x0, x1, x2] y1)))), .val (.int (2:Int32)), .val (.int y2), .unset]) rfl ?_
     exact XS.aloadN X716.here hx rfl (D d4_126) rfl rfl k
    have F721 := (((F491.other W679 (Or.inl nq_a0_gs)).other W695 (Or.inl nq_a0_gs)).other W709 (Or.inl nq_a0_gs))
    refine own_getF X716 hx hZ hown (host := "") (Or.inl (own_h hw 11 rfl)) Via.refl e716 F721 rfl rfl (D d4_127) (fun T720 X720 e720 => ?_)
    have F722 := (((F496.other W679 nq_la_gs).other W695 nq_la_gs).other W709 nq_la_gs)
    have hbn724 : own_In y2 [x0, x1, x2].length := hl723 hs28_2 hs28_3
    refine own_pA T720 m 135 #[.val (.ref a0), .val (.int (((0:Int32) + (own_at (own_v524 x0 x1 x2 y0 y1 y2) (own_at [x0, x1, x2] y0))) + (own_at (own_v541 x0 x1 x2 y0 y1 y2) (own_at [x0, x1, x2] y1)))), .val (.int (2:Int32)), .val (.int y2), .val (.int (own_at [x0, x1, x2] y2))] [(.ref a0)] (fun t k => ?_) ?_
    ·refine XS.iloadN X720.here hx rfl (D d4_130) rfl ?_
     refine own_iaload X720 hx hZ e720 F722 hbn724 rfl rfl (D d4_131) ?_
     refine XS.istore X720.here hx rfl (D d4_132) rfl (l' := #[.val (.ref a0), .val (.int (((0:Int32) + (own_at (own_v524 x0 x1 x2 y0 y1 y2) (own_at [x0, x1, x2] y0))) + (own_at (own_v541 x0 x1 x2 y0 y1 y2) (own_at [x0, x1, x2] y1)))), .val (.int (2:Int32)), .val (.int y2), .val (.int (own_at [x0, x1, x2] y2))]) rfl ?_
     exact XS.aloadN X720.here hx rfl (D d4_134) rfl rfl k
    have F726 := (F705.other W709 (Or.inl nq_a0_gs))
    refine own_getF X720 hx hZ hown (host := "") (Or.inl (own_h hw 19 rfl)) Via.refl e720 F726 rfl rfl (D d4_135) (fun T725 X725 e725 => ?_)
    have hbn728 : own_In (own_at [x0, x1, x2] y2) (own_v556 x0 x1 x2 y0 y1 y2).length := hl727 hs28_2 hs28_3
    refine own_pA T725 m 144 #[.val (.ref a0), .val (.int (((0:Int32) + (own_at (own_v524 x0 x1 x2 y0 y1 y2) (own_at [x0, x1, x2] y0))) + (own_at (own_v541 x0 x1 x2 y0 y1 y2) (own_at [x0, x1, x2] y1)))), .val (.int (2:Int32)), .val (.int y2), .val (.int (own_at [x0, x1, x2] y2))] [(.int ((own_at (own_v556 x0 x1 x2 y0 y1 y2) (own_at [x0, x1, x2] y2)) - (1:Int32))), (.int (own_at [x0, x1, x2] y2)), (.ref gs)] (fun t k => ?_) ?_
    ·refine XS.iload X725.here hx rfl (D d4_138) rfl ?_
     refine XT.dup2 X725.here hx rfl (D d4_140) rfl rfl rfl ?_
     refine own_iaload X725 hx hZ e725 Vw709 hbn728 rfl rfl (D d4_141) ?_
     refine XS.iconst X725.here hx rfl (D d4_142) ?_
     exact XS.isub X725.here hx rfl (D d4_143) rfl k
    have hbn730 : own_In (own_at [x0, x1, x2] y2) (own_v556 x0 x1 x2 y0 y1 y2).length := hl727 hs28_2 hs28_3
    refine own_iastG X725 hx hZ e725 Vw709 hbn730 rfl rfl (D d4_144) (fun T729 h729 X729 e729 W729 V729 => ?_)
    have Kp729 : Keep h0 h729 [a0, gr, gl, gs] := Kp709.wr W729 (Or.inl (List.mem_of_getElem? (i := 3) rfl))
    have Z731 : n0 ≤ h729.size := Nat.le_trans Z711 (Nat.le_of_eq W729.size.symm)
    have N729 := Fr.snoc X729 N709 gq_gs
    have Vw729 : own_Ints Z h729 gs (own_v732 x0 x1 x2 y0 y1 y2) := V729
    refine own_pA T729 m 146 #[.val (.ref a0), .val (.int (((0:Int32) + (own_at (own_v524 x0 x1 x2 y0 y1 y2) (own_at [x0, x1, x2] y0))) + (own_at (own_v541 x0 x1 x2 y0 y1 y2) (own_at [x0, x1, x2] y1)))), .val (.int (2:Int32)), .val (.int y2), .val (.int (own_at [x0, x1, x2] y2))] [(.ref a0)] (fun t k => ?_) ?_
    ·exact XS.aloadN X729.here hx rfl (D d4_145) rfl rfl k
    have F734 := ((((((((((P3.other W437 (Or.inl nq_a0_gl)).other W442 (Or.inr (slot_ne (Or.inr (own_h hw 16 rfl)) (Or.inl (own_h hw 34 rfl)) (by decide) (t := (.array .int)) (t' := .int) (by decide) (by decide)))).other W449 (Or.inl nq_a0_gs)).other W471 (Or.inl nq_a0_gl)).other W477 (Or.inr (slot_ne (Or.inr (own_h hw 16 rfl)) (Or.inl (own_h hw 34 rfl)) (by decide) (t := (.array .int)) (t' := .int) (by decide) (by decide)))).other W485 (Or.inl nq_a0_gs)).other W679 (Or.inl nq_a0_gs)).other W695 (Or.inl nq_a0_gs)).other W709 (Or.inl nq_a0_gs)).other W729 (Or.inl nq_a0_gs))
    refine own_getF X729 hx hZ hown (host := "") (Or.inl (own_h hw 15 rfl)) Via.refl e729 F734 rfl rfl (D d4_146) (fun T733 X733 e733 => ?_)
    refine own_pA T733 m 150 #[.val (.ref a0), .val (.int (((0:Int32) + (own_at (own_v524 x0 x1 x2 y0 y1 y2) (own_at [x0, x1, x2] y0))) + (own_at (own_v541 x0 x1 x2 y0 y1 y2) (own_at [x0, x1, x2] y1)))), .val (.int (2:Int32)), .val (.int y2), .val (.int (own_at [x0, x1, x2] y2))] [(.ref a0), (.ref gr)] (fun t k => ?_) ?_
    ·exact XS.aloadN X733.here hx rfl (D d4_149) rfl rfl k
    have F736 := (F726.other W729 (Or.inl nq_a0_gs))
    refine own_getF X733 hx hZ hown (host := "") (Or.inl (own_h hw 19 rfl)) Via.refl e733 F736 rfl rfl (D d4_150) (fun T735 X735 e735 => ?_)
    have hbn738 : own_In (own_at [x0, x1, x2] y2) (own_v732 x0 x1 x2 y0 y1 y2).length := hl737 hs28_2 hs28_3
    refine own_pA T735 m 157 #[.val (.ref a0), .val (.int (((0:Int32) + (own_at (own_v524 x0 x1 x2 y0 y1 y2) (own_at [x0, x1, x2] y0))) + (own_at (own_v541 x0 x1 x2 y0 y1 y2) (own_at [x0, x1, x2] y1)))), .val (.int (2:Int32)), .val (.int y2), .val (.int (own_at [x0, x1, x2] y2))] [(.int y2), (.int (own_at (own_v732 x0 x1 x2 y0 y1 y2) (own_at [x0, x1, x2] y2))), (.ref gr)] (fun t k => ?_) ?_
    ·refine XS.iload X735.here hx rfl (D d4_153) rfl ?_
     refine own_iaload X735 hx hZ e735 Vw729 hbn738 rfl rfl (D d4_155) ?_
     exact XS.iloadN X735.here hx rfl (D d4_156) rfl k
    have F740 := ((((((((((P10.other W437 nq_gr_gl).other W442 (Ne.symm nq_a0_gr)).other W449 nq_gr_gs).other W471 nq_gr_gl).other W477 (Ne.symm nq_a0_gr)).other W485 nq_gr_gs).other W679 nq_gr_gs).other W695 nq_gr_gs).other W709 nq_gr_gs).other W729 nq_gr_gs)
    have hbn742 : own_In (own_at (own_v732 x0 x1 x2 y0 y1 y2) (own_at [x0, x1, x2] y2)) [(0:Int32), (0:Int32), (0:Int32)].length := hl741 hs28_2 hs28_3
    refine own_iastG X735 hx hZ e735 F740 hbn742 rfl rfl (D d4_157) (fun T739 h739 X739 e739 W739 V739 => ?_)
    have Kp739 : Keep h0 h739 [a0, gr, gl, gs] := Kp729.wr W739 (Or.inl (List.mem_of_getElem? (i := 1) rfl))
    have Z743 : n0 ≤ h739.size := Nat.le_trans Z731 (Nat.le_of_eq W739.size.symm)
    have N739 := Fr.snoc X739 N729 gq_gr
    have Vw739 : own_Ints Z h739 gr (own_v744 x0 x1 x2 y0 y1 y2) := V739
    refine own_pA T739 m 120 #[.val (.ref a0), .val (.int (((0:Int32) + (own_at (own_v524 x0 x1 x2 y0 y1 y2) (own_at [x0, x1, x2] y0))) + (own_at (own_v541 x0 x1 x2 y0 y1 y2) (own_at [x0, x1, x2] y1)))), .val (.int (1:Int32)), .val (.int y2), .val (.int (own_at [x0, x1, x2] y2))] [(.ref a0)] (fun t k => ?_) ?_
    ·refine XS.iinc X739.here hx rfl (D d4_158) rfl (l' := #[.val (.ref a0), .val (.int (((0:Int32) + (own_at (own_v524 x0 x1 x2 y0 y1 y2) (own_at [x0, x1, x2] y0))) + (own_at (own_v541 x0 x1 x2 y0 y1 y2) (own_at [x0, x1, x2] y1)))), .val (.int (1:Int32)), .val (.int y2), .val (.int (own_at [x0, x1, x2] y2))]) rfl ?_
     refine XS.goto X739.here hx rfl (pc0 := 161) (pc' := 115) rfl (D d4_161) (by decide) (by decide) ?_
     refine XS.iloadN X739.here hx rfl (D d4_115) rfl ?_
     refine XS.ifNo X739.here hx rfl (D d4_116) rfl (XT.i0_lt_f (by decide)) ?_
     exact XS.aloadN X739.here hx rfl (D d4_119) rfl rfl k
    have F746 := ((F717.other W729 (Or.inl nq_a0_gs)).other W739 (Or.inl nq_a0_gr))
    refine own_getF X739 hx hZ hown (host := "") (Or.inl (own_h hw 13 rfl)) Via.refl e739 F746 rfl rfl (D d4_120) (fun T745 X745 e745 => ?_)
    have F747 := ((F718.other W729 nq_mv_gs).other W739 nq_mv_gr)
    have hbn748 : own_In (1:Int32) [y0, y1, y2].length := own_lit rfl
    refine own_pA T745 m 127 #[.val (.ref a0), .val (.int (((0:Int32) + (own_at (own_v524 x0 x1 x2 y0 y1 y2) (own_at [x0, x1, x2] y0))) + (own_at (own_v541 x0 x1 x2 y0 y1 y2) (own_at [x0, x1, x2] y1)))), .val (.int (1:Int32)), .val (.int y1), .val (.int (own_at [x0, x1, x2] y2))] [(.ref a0)] (fun t k => ?_) ?_
    ·refine XS.iloadN X745.here hx rfl (D d4_123) rfl ?_
     refine own_iaload X745 hx hZ e745 F747 hbn748 rfl rfl (D d4_124) ?_
     refine XS.istoreN X745.here hx rfl (D d4_125) rfl (l' := #[.val (.ref a0), .val (.int (((0:Int32) + (own_at (own_v524 x0 x1 x2 y0 y1 y2) (own_at [x0, x1, x2] y0))) + (own_at (own_v541 x0 x1 x2 y0 y1 y2) (own_at [x0, x1, x2] y1)))), .val (.int (1:Int32)), .val (.int y1), .val (.int (own_at [x0, x1, x2] y2))]) rfl ?_
     exact XS.aloadN X745.here hx rfl (D d4_126) rfl rfl k
    have F750 := ((F721.other W729 (Or.inl nq_a0_gs)).other W739 (Or.inl nq_a0_gr))
    refine own_getF X745 hx hZ hown (host := "") (Or.inl (own_h hw 11 rfl)) Via.refl e745 F750 rfl rfl (D d4_127) (fun T749 X749 e749 => ?_)
    have F751 := ((F722.other W729 nq_la_gs).other W739 nq_la_gr)
    have hbn753 : own_In y1 [x0, x1, x2].length := hl752 hs28_2 hs28_3
    refine own_pA T749 m 135 #[.val (.ref a0), .val (.int (((0:Int32) + (own_at (own_v524 x0 x1 x2 y0 y1 y2) (own_at [x0, x1, x2] y0))) + (own_at (own_v541 x0 x1 x2 y0 y1 y2) (own_at [x0, x1, x2] y1)))), .val (.int (1:Int32)), .val (.int y1), .val (.int (own_at [x0, x1, x2] y1))] [(.ref a0)] (fun t k => ?_) ?_
    ·refine XS.iloadN X749.here hx rfl (D d4_130) rfl ?_
     refine own_iaload X749 hx hZ e749 F751 hbn753 rfl rfl (D d4_131) ?_
     refine XS.istore X749.here hx rfl (D d4_132) rfl (l' := #[.val (.ref a0), .val (.int (((0:Int32) + (own_at (own_v524 x0 x1 x2 y0 y1 y2) (own_at [x0, x1, x2] y0))) + (own_at (own_v541 x0 x1 x2 y0 y1 y2) (own_at [x0, x1, x2] y1)))), .val (.int (1:Int32)), .val (.int y1), .val (.int (own_at [x0, x1, x2] y1))]) rfl ?_
     exact XS.aloadN X749.here hx rfl (D d4_134) rfl rfl k
    have F755 := (F736.other W739 (Or.inl nq_a0_gr))
    refine own_getF X749 hx hZ hown (host := "") (Or.inl (own_h hw 19 rfl)) Via.refl e749 F755 rfl rfl (D d4_135) (fun T754 X754 e754 => ?_)
    have F756 := (Vw729.other W739 (Ne.symm nq_gr_gs))
    have hbn758 : own_In (own_at [x0, x1, x2] y1) (own_v732 x0 x1 x2 y0 y1 y2).length := hl757 hs28_2 hs28_3
    refine own_pA T754 m 144 #[.val (.ref a0), .val (.int (((0:Int32) + (own_at (own_v524 x0 x1 x2 y0 y1 y2) (own_at [x0, x1, x2] y0))) + (own_at (own_v541 x0 x1 x2 y0 y1 y2) (own_at [x0, x1, x2] y1)))), .val (.int (1:Int32)), .val (.int y1), .val (.int (own_at [x0, x1, x2] y1))] [(.int ((own_at (own_v732 x0 x1 x2 y0 y1 y2) (own_at [x0, x1, x2] y1)) - (1:Int32))), (.int (own_at [x0, x1, x2] y1)), (.ref gs)] (fun t k => ?_) ?_
    ·refine XS.iload X754.here hx rfl (D d4_138) rfl ?_
     refine XT.dup2 X754.here hx rfl (D d4_140) rfl rfl rfl ?_
     refine own_iaload X754 hx hZ e754 F756 hbn758 rfl rfl (D d4_141) ?_
     refine XS.iconst X754.here hx rfl (D d4_142) ?_
     exact XS.isub X754.here hx rfl (D d4_143) rfl k
    have hbn760 : own_In (own_at [x0, x1, x2] y1) (own_v732 x0 x1 x2 y0 y1 y2).length := hl757 hs28_2 hs28_3
    refine own_iastG X754 hx hZ e754 F756 hbn760 rfl rfl (D d4_144) (fun T759 h759 X759 e759 W759 V759 => ?_)
    have Kp759 : Keep h0 h759 [a0, gr, gl, gs] := Kp739.wr W759 (Or.inl (List.mem_of_getElem? (i := 3) rfl))
    have Z761 : n0 ≤ h759.size := Nat.le_trans Z743 (Nat.le_of_eq W759.size.symm)
    have N759 := Fr.snoc X759 N739 gq_gs
    have Vw759 : own_Ints Z h759 gs (own_v762 x0 x1 x2 y0 y1 y2) := V759
    refine own_pA T759 m 146 #[.val (.ref a0), .val (.int (((0:Int32) + (own_at (own_v524 x0 x1 x2 y0 y1 y2) (own_at [x0, x1, x2] y0))) + (own_at (own_v541 x0 x1 x2 y0 y1 y2) (own_at [x0, x1, x2] y1)))), .val (.int (1:Int32)), .val (.int y1), .val (.int (own_at [x0, x1, x2] y1))] [(.ref a0)] (fun t k => ?_) ?_
    ·exact XS.aloadN X759.here hx rfl (D d4_145) rfl rfl k
    have F764 := ((F734.other W739 (Or.inl nq_a0_gr)).other W759 (Or.inl nq_a0_gs))
    refine own_getF X759 hx hZ hown (host := "") (Or.inl (own_h hw 15 rfl)) Via.refl e759 F764 rfl rfl (D d4_146) (fun T763 X763 e763 => ?_)
    refine own_pA T763 m 150 #[.val (.ref a0), .val (.int (((0:Int32) + (own_at (own_v524 x0 x1 x2 y0 y1 y2) (own_at [x0, x1, x2] y0))) + (own_at (own_v541 x0 x1 x2 y0 y1 y2) (own_at [x0, x1, x2] y1)))), .val (.int (1:Int32)), .val (.int y1), .val (.int (own_at [x0, x1, x2] y1))] [(.ref a0), (.ref gr)] (fun t k => ?_) ?_
    ·exact XS.aloadN X763.here hx rfl (D d4_149) rfl rfl k
    have F766 := (F755.other W759 (Or.inl nq_a0_gs))
    refine own_getF X763 hx hZ hown (host := "") (Or.inl (own_h hw 19 rfl)) Via.refl e763 F766 rfl rfl (D d4_150) (fun T765 X765 e765 => ?_)
    have hbn768 : own_In (own_at [x0, x1, x2] y1) (own_v762 x0 x1 x2 y0 y1 y2).length := hl767 hs28_2 hs28_3
    refine own_pA T765 m 157 #[.val (.ref a0), .val (.int (((0:Int32) + (own_at (own_v524 x0 x1 x2 y0 y1 y2) (own_at [x0, x1, x2] y0))) + (own_at (own_v541 x0 x1 x2 y0 y1 y2) (own_at [x0, x1, x2] y1)))), .val (.int (1:Int32)), .val (.int y1), .val (.int (own_at [x0, x1, x2] y1))] [(.int y1), (.int (own_at (own_v762 x0 x1 x2 y0 y1 y2) (own_at [x0, x1, x2] y1))), (.ref gr)] (fun t k => ?_) ?_
    ·refine XS.iload X765.here hx rfl (D d4_153) rfl ?_
     refine own_iaload X765 hx hZ e765 Vw759 hbn768 rfl rfl (D d4_155) ?_
     exact XS.iloadN X765.here hx rfl (D d4_156) rfl k
    have F770 := (Vw739.other W759 nq_gr_gs)
    have hbn772 : own_In (own_at (own_v762 x0 x1 x2 y0 y1 y2) (own_at [x0, x1, x2] y1)) (own_v744 x0 x1 x2 y0 y1 y2).length := hl771 hs28_2 hs28_3
    refine own_iastG X765 hx hZ e765 F770 hbn772 rfl rfl (D d4_157) (fun T769 h769 X769 e769 W769 V769 => ?_)
    have Kp769 : Keep h0 h769 [a0, gr, gl, gs] := Kp759.wr W769 (Or.inl (List.mem_of_getElem? (i := 1) rfl))
    have Z773 : n0 ≤ h769.size := Nat.le_trans Z761 (Nat.le_of_eq W769.size.symm)
    have N769 := Fr.snoc X769 N759 gq_gr
    have Vw769 : own_Ints Z h769 gr (own_v774 x0 x1 x2 y0 y1 y2) := V769
    refine own_pA T769 m 120 #[.val (.ref a0), .val (.int (((0:Int32) + (own_at (own_v524 x0 x1 x2 y0 y1 y2) (own_at [x0, x1, x2] y0))) + (own_at (own_v541 x0 x1 x2 y0 y1 y2) (own_at [x0, x1, x2] y1)))), .val (.int (0:Int32)), .val (.int y1), .val (.int (own_at [x0, x1, x2] y1))] [(.ref a0)] (fun t k => ?_) ?_
    ·refine XS.iinc X769.here hx rfl (D d4_158) rfl (l' := #[.val (.ref a0), .val (.int (((0:Int32) + (own_at (own_v524 x0 x1 x2 y0 y1 y2) (own_at [x0, x1, x2] y0))) + (own_at (own_v541 x0 x1 x2 y0 y1 y2) (own_at [x0, x1, x2] y1)))), .val (.int (0:Int32)), .val (.int y1), .val (.int (own_at [x0, x1, x2] y1))]) rfl ?_
     refine XS.goto X769.here hx rfl (pc0 := 161) (pc' := 115) rfl (D d4_161) (by decide) (by decide) ?_
     refine XS.iloadN X769.here hx rfl (D d4_115) rfl ?_
     refine XS.ifNo X769.here hx rfl (D d4_116) rfl (XT.i0_lt_f (by decide)) ?_
     exact XS.aloadN X769.here hx rfl (D d4_119) rfl rfl k
    have F776 := ((F746.other W759 (Or.inl nq_a0_gs)).other W769 (Or.inl nq_a0_gr))
    refine own_getF X769 hx hZ hown (host := "") (Or.inl (own_h hw 13 rfl)) Via.refl e769 F776 rfl rfl (D d4_120) (fun T775 X775 e775 => ?_)
    have F777 := ((F747.other W759 nq_mv_gs).other W769 nq_mv_gr)
    have hbn778 : own_In (0:Int32) [y0, y1, y2].length := own_lit rfl
    refine own_pA T775 m 127 #[.val (.ref a0), .val (.int (((0:Int32) + (own_at (own_v524 x0 x1 x2 y0 y1 y2) (own_at [x0, x1, x2] y0))) + (own_at (own_v541 x0 x1 x2 y0 y1 y2) (own_at [x0, x1, x2] y1)))), .val (.int (0:Int32)), .val (.int y0), .val (.int (own_at [x0, x1, x2] y1))] [(.ref a0)] (fun t k => ?_) ?_
    ·refine XS.iloadN X775.here hx rfl (D d4_123) rfl ?_
     refine own_iaload X775 hx hZ e775 F777 hbn778 rfl rfl (D d4_124) ?_
     refine XS.istoreN X775.here hx rfl (D d4_125) rfl (l' := #[.val (.ref a0), .val (.int (((0:Int32) + (own_at (own_v524 x0 x1 x2 y0 y1 y2) (own_at [x0, x1, x2] y0))) + (own_at (own_v541 x0 x1 x2 y0 y1 y2) (own_at [x0, x1, x2] y1)))), .val (.int (0:Int32)), .val (.int y0), .val (.int (own_at [x0, x1, x2] y1))]) rfl ?_
     exact XS.aloadN X775.here hx rfl (D d4_126) rfl rfl k
    have F780 := ((F750.other W759 (Or.inl nq_a0_gs)).other W769 (Or.inl nq_a0_gr))
    refine own_getF X775 hx hZ hown (host := "") (Or.inl (own_h hw 11 rfl)) Via.refl e775 F780 rfl rfl (D d4_127) (fun T779 X779 e779 => ?_)
    have F781 := ((F751.other W759 nq_la_gs).other W769 nq_la_gr)
    have hbn783 : own_In y0 [x0, x1, x2].length := hl782 hs28_2 hs28_3
    refine own_pA T779 m 135 #[.val (.ref a0), .val (.int (((0:Int32) + (own_at (own_v524 x0 x1 x2 y0 y1 y2) (own_at [x0, x1, x2] y0))) + (own_at (own_v541 x0 x1 x2 y0 y1 y2) (own_at [x0, x1, x2] y1)))), .val (.int (0:Int32)), .val (.int y0), .val (.int (own_at [x0, x1, x2] y0))] [(.ref a0)] (fun t k => ?_) ?_
    ·refine XS.iloadN X779.here hx rfl (D d4_130) rfl ?_
     refine own_iaload X779 hx hZ e779 F781 hbn783 rfl rfl (D d4_131) ?_
     refine XS.istore X779.here hx rfl (D d4_132) rfl (l' := #[.val (.ref a0), .val (.int (((0:Int32) + (own_at (own_v524 x0 x1 x2 y0 y1 y2) (own_at [x0, x1, x2] y0))) + (own_at (own_v541 x0 x1 x2 y0 y1 y2) (own_at [x0, x1, x2] y1)))), .val (.int (0:Int32)), .val (.int y0), .val (.int (own_at [x0, x1, x2] y0))]) rfl ?_
     exact XS.aloadN X779.here hx rfl (D d4_134) rfl rfl k
    have F785 := (F766.other W769 (Or.inl nq_a0_gr))
    refine own_getF X779 hx hZ hown (host := "") (Or.inl (own_h hw 19 rfl)) Via.refl e779 F785 rfl rfl (D d4_135) (fun T784 X784 e784 => ?_)
    have F786 := (Vw759.other W769 (Ne.symm nq_gr_gs))
    have hbn788 : own_In (own_at [x0, x1, x2] y0) (own_v762 x0 x1 x2 y0 y1 y2).length := hl787 hs28_2 hs28_3
    refine own_pA T784 m 144 #[.val (.ref a0), .val (.int (((0:Int32) + (own_at (own_v524 x0 x1 x2 y0 y1 y2) (own_at [x0, x1, x2] y0))) + (own_at (own_v541 x0 x1 x2 y0 y1 y2) (own_at [x0, x1, x2] y1)))), .val (.int (0:Int32)), .val (.int y0), .val (.int (own_at [x0, x1, x2] y0))] [(.int ((own_at (own_v762 x0 x1 x2 y0 y1 y2) (own_at [x0, x1, x2] y0)) - (1:Int32))), (.int (own_at [x0, x1, x2] y0)), (.ref gs)] (fun t k => ?_) ?_
    ·refine XS.iload X784.here hx rfl (D d4_138) rfl ?_
     refine XT.dup2 X784.here hx rfl (D d4_140) rfl rfl rfl ?_
     refine own_iaload X784 hx hZ e784 F786 hbn788 rfl rfl (D d4_141) ?_
     refine XS.iconst X784.here hx rfl (D d4_142) ?_
     exact XS.isub X784.here hx rfl (D d4_143) rfl k
    have hbn790 : own_In (own_at [x0, x1, x2] y0) (own_v762 x0 x1 x2 y0 y1 y2).length := hl787 hs28_2 hs28_3
    refine own_iastG X784 hx hZ e784 F786 hbn790 rfl rfl (D d4_144) (fun T789 h789 X789 e789 W789 V789 => ?_)
    have Kp789 : Keep h0 h789 [a0, gr, gl, gs] := Kp769.wr W789 (Or.inl (List.mem_of_getElem? (i := 3) rfl))
    have Z791 : n0 ≤ h789.size := Nat.le_trans Z773 (Nat.le_of_eq W789.size.symm)
    have N789 := Fr.snoc X789 N769 gq_gs
    have Vw789 : own_Ints Z h789 gs (own_v792 x0 x1 x2 y0 y1 y2) := V789
    refine own_pA T789 m 146 #[.val (.ref a0), .val (.int (((0:Int32) + (own_at (own_v524 x0 x1 x2 y0 y1 y2) (own_at [x0, x1, x2] y0))) + (own_at (own_v541 x0 x1 x2 y0 y1 y2) (own_at [x0, x1, x2] y1)))), .val (.int (0:Int32)), .val (.int y0), .val (.int (own_at [x0, x1, x2] y0))] [(.ref a0)] (fun t k => ?_) ?_
    ·exact XS.aloadN X789.here hx rfl (D d4_145) rfl rfl k
    have F794 := ((F764.other W769 (Or.inl nq_a0_gr)).other W789 (Or.inl nq_a0_gs))
    refine own_getF X789 hx hZ hown (host := "") (Or.inl (own_h hw 15 rfl)) Via.refl e789 F794 rfl rfl (D d4_146) (fun T793 X793 e793 => ?_)
    refine own_pA T793 m 150 #[.val (.ref a0), .val (.int (((0:Int32) + (own_at (own_v524 x0 x1 x2 y0 y1 y2) (own_at [x0, x1, x2] y0))) + (own_at (own_v541 x0 x1 x2 y0 y1 y2) (own_at [x0, x1, x2] y1)))), .val (.int (0:Int32)), .val (.int y0), .val (.int (own_at [x0, x1, x2] y0))] [(.ref a0), (.ref gr)] (fun t k => ?_) ?_
    ·exact XS.aloadN X793.here hx rfl (D d4_149) rfl rfl k
    have F796 := (F785.other W789 (Or.inl nq_a0_gs))
    refine own_getF X793 hx hZ hown (host := "") (Or.inl (own_h hw 19 rfl)) Via.refl e793 F796 rfl rfl (D d4_150) (fun T795 X795 e795 => ?_)
    have hbn798 : own_In (own_at [x0, x1, x2] y0) (own_v792 x0 x1 x2 y0 y1 y2).length := hl797 hs28_2 hs28_3
    refine own_pA T795 m 157 #[.val (.ref a0), .val (.int (((0:Int32) + (own_at (own_v524 x0 x1 x2 y0 y1 y2) (own_at [x0, x1, x2] y0))) + (own_at (own_v541 x0 x1 x2 y0 y1 y2) (own_at [x0, x1, x2] y1)))), .val (.int (0:Int32)), .val (.int y0), .val (.int (own_at [x0, x1, x2] y0))] [(.int y0), (.int (own_at (own_v792 x0 x1 x2 y0 y1 y2) (own_at [x0, x1, x2] y0))), (.ref gr)] (fun t k => ?_) ?_
    ·refine XS.iload X795.here hx rfl (D d4_153) rfl ?_
     refine own_iaload X795 hx hZ e795 Vw789 hbn798 rfl rfl (D d4_155) ?_
     exact XS.iloadN X795.here hx rfl (D d4_156) rfl k
    have F800 := (Vw769.other W789 nq_gr_gs)
    have hbn802 : own_In (own_at (own_v792 x0 x1 x2 y0 y1 y2) (own_at [x0, x1, x2] y0)) (own_v774 x0 x1 x2 y0 y1 y2).length := hl801 hs28_2 hs28_3
    refine own_iastG X795 hx hZ e795 F800 hbn802 rfl rfl (D d4_157) (fun T799 h799 X799 e799 W799 V799 => ?_)
    have Kp799 : Keep h0 h799 [a0, gr, gl, gs] := Kp789.wr W799 (Or.inl (List.mem_of_getElem? (i := 1) rfl))
    have Z803 : n0 ≤ h799.size := Nat.le_trans Z791 (Nat.le_of_eq W799.size.symm)
    have N799 := Fr.snoc X799 N789 gq_gr
    have Vw799 : own_Ints Z h799 gr (own_v804 x0 x1 x2 y0 y1 y2) := V799
    refine own_pA T799 m 165 #[.val (.ref a0), .val (.int (((0:Int32) + (own_at (own_v524 x0 x1 x2 y0 y1 y2) (own_at [x0, x1, x2] y0))) + (own_at (own_v541 x0 x1 x2 y0 y1 y2) (own_at [x0, x1, x2] y1)))), .val (.int (-1:Int32)), .val (.int y0), .val (.int (own_at [x0, x1, x2] y0))] [(.ref a0)] (fun t k => ?_) ?_
    ·refine XS.iinc X799.here hx rfl (D d4_158) rfl (l' := #[.val (.ref a0), .val (.int (((0:Int32) + (own_at (own_v524 x0 x1 x2 y0 y1 y2) (own_at [x0, x1, x2] y0))) + (own_at (own_v541 x0 x1 x2 y0 y1 y2) (own_at [x0, x1, x2] y1)))), .val (.int (-1:Int32)), .val (.int y0), .val (.int (own_at [x0, x1, x2] y0))]) rfl ?_
     refine XS.goto X799.here hx rfl (pc0 := 161) (pc' := 115) rfl (D d4_161) (by decide) (by decide) ?_
     refine XS.iloadN X799.here hx rfl (D d4_115) rfl ?_
     refine XS.ifYes X799.here hx rfl (pc0 := 116) (pc' := 164) rfl (D d4_116) rfl (XT.i0_lt_t (by decide)) (by decide) (by decide) ?_
     exact XS.aloadN X799.here hx rfl (D d4_164) rfl rfl k
    have F806 := ((((((F713.other W729 (Or.inl nq_a0_gs)).other W739 (Or.inl nq_a0_gr)).other W759 (Or.inl nq_a0_gs)).other W769 (Or.inl nq_a0_gr)).other W789 (Or.inl nq_a0_gs)).other W799 (Or.inl nq_a0_gr))
    refine own_getF X799 hx hZ hown (host := "") (Or.inl (own_h hw 33 rfl)) Via.refl e799 F806 rfl rfl (D d4_165) (fun T805 X805 e805 => ?_)
    have hv807 : (2:Int32) = f4m3 x0 x1 x2 y0 y1 y2 := by simp only [f4m3, if_pos hs28_2, if_neg hs28_3]
    have F808 := ((F780.other W789 (Or.inl nq_a0_gs)).other W799 (Or.inl nq_a0_gr))
    have F809 := ((F776.other W789 (Or.inl nq_a0_gs)).other W799 (Or.inl nq_a0_gr))
    have F810 := (F794.other W799 (Or.inl nq_a0_gr))
    have F811 := (((((((F701.other W709 (Or.inl nq_a0_gs)).other W729 (Or.inl nq_a0_gs)).other W739 (Or.inl nq_a0_gr)).other W759 (Or.inl nq_a0_gs)).other W769 (Or.inl nq_a0_gr)).other W789 (Or.inl nq_a0_gs)).other W799 (Or.inl nq_a0_gr))
    have F812 := (F796.other W799 (Or.inl nq_a0_gr))
    have F813 := ((((((F715.other W729 (Or.inl nq_a0_gs)).other W739 (Or.inl nq_a0_gr)).other W759 (Or.inl nq_a0_gs)).other W769 (Or.inl nq_a0_gr)).other W789 (Or.inl nq_a0_gs)).other W799 (Or.inl nq_a0_gr))
    have F814 := (((((((F702.other W709 nq_gl_gs).other W729 nq_gl_gs).other W739 (Ne.symm nq_gr_gl)).other W759 nq_gl_gs).other W769 (Ne.symm nq_gr_gl)).other W789 nq_gl_gs).other W799 (Ne.symm nq_gr_gl))
    have F815 := (Vw789.other W799 (Ne.symm nq_gr_gs))
    exact own_end X805 (BodyLoose.notSynchronized Bd) (fun h => by rw [Bd.returns] at h; cases h) (v := some (.int (2:Int32))) (fun fs hr => retOut X805 hx Bd.returns rfl (by simp [Value.isRef, FieldType.isReference]) (D d4_168) hr) (by show Q4m3 Z a0 la mv gr gl gs x0 x1 x2 y0 y1 y2 h0 n0 _ T805.heap _; rw [e805]; exact ⟨(congrArg (fun z => some (Value.int z)) hv807), N799, Kp799, (by first | exact F808 | (simp only [if_pos hs28_2, if_neg hs28_3]; exact F808)), (by first | exact F809 | (simp only [if_pos hs28_2, if_neg hs28_3]; exact F809)), (by first | exact F810 | (simp only [if_pos hs28_2, if_neg hs28_3]; exact F810)), (by first | exact F811 | (simp only [if_pos hs28_2, if_neg hs28_3]; exact F811)), (by first | exact F812 | (simp only [if_pos hs28_2, if_neg hs28_3]; exact F812)), (by first | exact F813 | (simp only [if_pos hs28_2, if_neg hs28_3]; exact F813)), (by simp only [g4m3_gc, if_pos hs28_2, if_neg hs28_3]; exact F806), (by simp only [g4m3_gr, if_pos hs28_2, if_neg hs28_3]; exact Vw799), (by simp only [g4m3_gl, if_pos hs28_2, if_neg hs28_3]; exact F814), (by simp only [g4m3_gs, if_pos hs28_2, if_neg hs28_3]; exact F815)⟩) (by decide) (by decide)
  ·refine own_pA T463 m 52 #[.val (.ref a0), .val (.int (1:Int32)), .val (.int (own_at [x0, x1, x2] y1)), .unset, .unset] [(.ref a0)] (fun t k => ?_) ?_
   ·refine XS.ifYes X463.here hx rfl (pc0 := 28) (pc' := 51) rfl (D d4_28) rfl (XT.i0_ne_t hs28_2) (by decide) (by decide) ?_
    exact XS.aloadN X463.here hx rfl (D d4_51) rfl rfl k
   refine own_getF X463 hx hZ hown (host := "") (Or.inl (own_h hw 19 rfl)) Via.refl e463 F464 rfl rfl (D d4_52) (fun T816 X816 e816 => ?_)
   have hbn818 : own_In (own_at [x0, x1, x2] y1) (own_v100 x0 x1 x2 y0).length := hl817 hs28_2
   refine own_pA T816 m 60 #[.val (.ref a0), .val (.int (1:Int32)), .val (.int (own_at [x0, x1, x2] y1)), .unset, .unset] [(.int ((own_at (own_v100 x0 x1 x2 y0) (own_at [x0, x1, x2] y1)) + (1:Int32))), (.int (own_at [x0, x1, x2] y1)), (.ref gs)] (fun t k => ?_) ?_
   ·refine XS.iloadN X816.here hx rfl (D d4_55) rfl ?_
    refine XT.dup2 X816.here hx rfl (D d4_56) rfl rfl rfl ?_
    refine own_iaload X816 hx hZ e816 Vw449 hbn818 rfl rfl (D d4_57) ?_
    refine XS.iconst X816.here hx rfl (D d4_58) ?_
    exact XS.iadd X816.here hx rfl (D d4_59) rfl k
   have hbn820 : own_In (own_at [x0, x1, x2] y1) (own_v100 x0 x1 x2 y0).length := hl817 hs28_2
   refine own_iastG X816 hx hZ e816 Vw449 hbn820 rfl rfl (D d4_60) (fun T819 h819 X819 e819 W819 V819 => ?_)
   have Kp819 : Keep h0 h819 [a0, gr, gl, gs] := Kp449.wr W819 (Or.inl (List.mem_of_getElem? (i := 3) rfl))
   have Z821 : n0 ≤ h819.size := Nat.le_trans Z451 (Nat.le_of_eq W819.size.symm)
   have N819 := Fr.snoc X819 N449 gq_gs
   have Vw819 : own_Ints Z h819 gs (own_v223 x0 x1 x2 y0 y1) := V819
   refine own_pA T819 m 4 #[.val (.ref a0), .val (.int (2:Int32)), .val (.int (own_at [x0, x1, x2] y1)), .unset, .unset] [(.ref a0), (.int (2:Int32))] (fun t k => ?_) ?_
   ·refine XS.iinc X819.here hx rfl (D d4_61) rfl (l' := #[.val (.ref a0), .val (.int (2:Int32)), .val (.int (own_at [x0, x1, x2] y1)), .unset, .unset]) rfl ?_
    refine XS.goto X819.here hx rfl (pc0 := 64) (pc' := 2) rfl (D d4_64) (by decide) (by decide) ?_
    refine XS.iloadN X819.here hx rfl (D d4_2) rfl ?_
    exact XS.aloadN X819.here hx rfl (D d4_3) rfl rfl k
   have F823 := (F453.other W819 (Or.inl nq_a0_gs))
   refine own_getF X819 hx hZ hown (host := "") (Or.inl (own_h hw 26 rfl)) Via.refl e819 F823 rfl rfl (D d4_4) (fun T822 X822 e822 => ?_)
   refine own_pA T822 m 11 #[.val (.ref a0), .val (.int (2:Int32)), .val (.int (own_at [x0, x1, x2] y1)), .unset, .unset] [(.ref a0)] (fun t k => ?_) ?_
   ·refine XS.icmpNo X822.here hx rfl (D d4_7) rfl (XT.ii_ge_f (by decide)) ?_
    exact XS.aloadN X822.here hx rfl (D d4_10) rfl rfl k
   have F825 := (F455.other W819 (Or.inl nq_a0_gs))
   refine own_getF X822 hx hZ hown (host := "") (Or.inl (own_h hw 11 rfl)) Via.refl e822 F825 rfl rfl (D d4_11) (fun T824 X824 e824 => ?_)
   refine own_pA T824 m 15 #[.val (.ref a0), .val (.int (2:Int32)), .val (.int (own_at [x0, x1, x2] y1)), .unset, .unset] [(.ref a0), (.ref la)] (fun t k => ?_) ?_
   ·exact XS.aloadN X824.here hx rfl (D d4_14) rfl rfl k
   have F827 := (F457.other W819 (Or.inl nq_a0_gs))
   refine own_getF X824 hx hZ hown (host := "") (Or.inl (own_h hw 13 rfl)) Via.refl e824 F827 rfl rfl (D d4_15) (fun T826 X826 e826 => ?_)
   have F828 := (F458.other W819 nq_mv_gs)
   have hbn829 : own_In (2:Int32) [y0, y1, y2].length := own_lit rfl
   have F830 := (F460.other W819 nq_la_gs)
   have hbn832 : own_In y2 [x0, x1, x2].length := hl831 hs28_2
   refine own_pA T826 m 23 #[.val (.ref a0), .val (.int (2:Int32)), .val (.int (own_at [x0, x1, x2] y2)), .unset, .unset] [(.ref a0)] (fun t k => ?_) ?_
   ·refine XS.iloadN X826.here hx rfl (D d4_18) rfl ?_
    refine own_iaload X826 hx hZ e826 F828 hbn829 rfl rfl (D d4_19) ?_
    refine own_iaload X826 hx hZ e826 F830 hbn832 rfl rfl (D d4_20) ?_
    refine XS.istoreN X826.here hx rfl (D d4_21) rfl (l' := #[.val (.ref a0), .val (.int (2:Int32)), .val (.int (own_at [x0, x1, x2] y2)), .unset, .unset]) rfl ?_
    exact XS.aloadN X826.here hx rfl (D d4_22) rfl rfl k
   have F834 := (F464.other W819 (Or.inl nq_a0_gs))
   refine own_getF X826 hx hZ hown (host := "") (Or.inl (own_h hw 19 rfl)) Via.refl e826 F834 rfl rfl (D d4_23) (fun T833 X833 e833 => ?_)
   have hbn836 : own_In (own_at [x0, x1, x2] y2) (own_v223 x0 x1 x2 y0 y1).length := hl835 hs28_2
   refine own_pA T833 m 28 #[.val (.ref a0), .val (.int (2:Int32)), .val (.int (own_at [x0, x1, x2] y2)), .unset, .unset] [(.int (own_at (own_v223 x0 x1 x2 y0 y1) (own_at [x0, x1, x2] y2)))] (fun t k => ?_) ?_
   ·refine XS.iloadN X833.here hx rfl (D d4_26) rfl ?_
    exact own_iaload X833 hx hZ e833 Vw819 hbn836 rfl rfl (D d4_27) k
   by_cases hs28_4 : (own_at (own_v223 x0 x1 x2 y0 y1) (own_at [x0, x1, x2] y2)) = (0:Int32)
   ·refine own_pA T833 m 32 #[.val (.ref a0), .val (.int (2:Int32)), .val (.int (own_at [x0, x1, x2] y2)), .unset, .unset] [(.ref a0)] (fun t k => ?_) ?_
    ·refine XS.ifNo X833.here hx rfl (D d4_28) rfl (XT.i0_ne_f hs28_4) ?_
     exact XS.aloadN X833.here hx rfl (D d4_31) rfl rfl k
    have F838 := ((((P4.other W437 (Or.inl nq_a0_gl)).other W442 (Or.inr (slot_ne (Or.inr (own_h hw 18 rfl)) (Or.inl (own_h hw 34 rfl)) (by decide) (t := (.array .int)) (t' := .int) (by decide) (by decide)))).other W449 (Or.inl nq_a0_gs)).other W819 (Or.inl nq_a0_gs))
    refine own_getF X833 hx hZ hown (host := "") (Or.inl (own_h hw 17 rfl)) Via.refl e833 F838 rfl rfl (D d4_32) (fun T837 X837 e837 => ?_)
    refine own_pA T837 m 36 #[.val (.ref a0), .val (.int (2:Int32)), .val (.int (own_at [x0, x1, x2] y2)), .unset, .unset] [(.ref a0), (.ref gl)] (fun t k => ?_) ?_
    ·exact XS.aloadN X837.here hx rfl (D d4_35) rfl rfl k
    have F840 := ((Fw442.other W449 (Or.inl nq_a0_gs)).other W819 (Or.inl nq_a0_gs))
    refine own_getF X837 hx hZ hown (host := "") (Or.inl (own_h hw 33 rfl)) Via.refl e837 F840 rfl rfl (D d4_36) (fun T839 X839 e839 => ?_)
    refine own_pA T839 m 40 #[.val (.ref a0), .val (.int (2:Int32)), .val (.int (own_at [x0, x1, x2] y2)), .unset, .unset] [(.int (own_at [x0, x1, x2] y2)), (.int (1:Int32)), (.ref gl)] (fun t k => ?_) ?_
    ·exact XS.iloadN X839.here hx rfl (D d4_39) rfl k
    have F842 := (((Vw437.other W442 (Ne.symm nq_a0_gl)).other W449 nq_gl_gs).other W819 nq_gl_gs)
    have hbn843 : own_In (1:Int32) [(own_at [x0, x1, x2] y0), (0:Int32), (0:Int32)].length := own_lit rfl
    refine own_iastG X839 hx hZ e839 F842 hbn843 rfl rfl (D d4_40) (fun T841 h841 X841 e841 W841 V841 => ?_)
    have Kp841 : Keep h0 h841 [a0, gr, gl, gs] := Kp819.wr W841 (Or.inl (List.mem_of_getElem? (i := 2) rfl))
    have Z844 : n0 ≤ h841.size := Nat.le_trans Z821 (Nat.le_of_eq W841.size.symm)
    have N841 := Fr.snoc X841 N819 gq_gl
    have Vw841 : own_Ints Z h841 gl [(own_at [x0, x1, x2] y0), (own_at [x0, x1, x2] y2), (0:Int32)] := V841
    refine own_pA T841 m 43 #[.val (.ref a0), .val (.int (2:Int32)), .val (.int (own_at [x0, x1, x2] y2)), .unset, .unset] [(.ref a0), (.ref a0)] (fun t k => ?_) ?_
    ·refine XS.aloadN X841.here hx rfl (D d4_41) rfl rfl ?_
     exact XS.dup X841.here hx rfl (D d4_42) rfl rfl k
    have F846 := (F840.other W841 (Or.inl nq_a0_gl))
    refine own_getF X841 hx hZ hown (host := "") (Or.inl (own_h hw 33 rfl)) Via.refl e841 F846 rfl rfl (D d4_43) (fun T845 X845 e845 => ?_)
    refine own_pA T845 m 48 #[.val (.ref a0), .val (.int (2:Int32)), .val (.int (own_at [x0, x1, x2] y2)), .unset, .unset] [(.int (2:Int32)), (.ref a0)] (fun t k => ?_) ?_
    ·refine XS.iconst X845.here hx rfl (D d4_46) ?_
     exact XS.iadd X845.here hx rfl (D d4_47) rfl k
    have F848 := ((((F443.wr W442).wr W449).wr W819).wr W841)
    obtain ⟨T847, h847, X847, e847, W847, st847⟩ := putF X845 hx hZ hown (host := "") (Or.inl (own_h hw 33 rfl)) Via.refl e845 F846 F848 (Or.inl (own_h hw 34 rfl)) (own_h hw 3 rfl) (ty := .int) (by decide) rfl rfl (g := (mkF m 48 #[.val (.ref a0), .val (.int (2:Int32)), .val (.int (own_at [x0, x1, x2] y2)), .unset, .unset] [(.int (2:Int32)), (.ref a0)])) rfl rfl (D d4_48)
    have Kp847 : Keep h0 h847 [a0, gr, gl, gs] := Kp841.wr W847 (Or.inl (List.mem_of_getElem? (i := 0) rfl))
    have Z849 : n0 ≤ h847.size := Nat.le_trans Z844 (Nat.le_of_eq W847.size.symm)
    have N847 := Fr.snoc X847 N841 gq_a0
    have Fw847 := F846.same W847
    refine own_pre st847 ?_
    refine own_pA T847 m 52 #[.val (.ref a0), .val (.int (2:Int32)), .val (.int (own_at [x0, x1, x2] y2)), .unset, .unset] [(.ref a0)] (fun t k => ?_) ?_
    ·exact XS.aloadN X847.here hx rfl (D d4_51) rfl rfl k
    have F851 := ((F834.other W841 (Or.inl nq_a0_gl)).other W847 (Or.inr (slot_ne (Or.inr (own_h hw 20 rfl)) (Or.inl (own_h hw 34 rfl)) (by decide) (t := (.array .int)) (t' := .int) (by decide) (by decide))))
    refine own_getF X847 hx hZ hown (host := "") (Or.inl (own_h hw 19 rfl)) Via.refl e847 F851 rfl rfl (D d4_52) (fun T850 X850 e850 => ?_)
    have F852 := ((Vw819.other W841 (Ne.symm nq_gl_gs)).other W847 (Ne.symm nq_a0_gs))
    have hbn854 : own_In (own_at [x0, x1, x2] y2) (own_v223 x0 x1 x2 y0 y1).length := hl853 hs28_2 hs28_4
    refine own_pA T850 m 60 #[.val (.ref a0), .val (.int (2:Int32)), .val (.int (own_at [x0, x1, x2] y2)), .unset, .unset] [(.int ((own_at (own_v223 x0 x1 x2 y0 y1) (own_at [x0, x1, x2] y2)) + (1:Int32))), (.int (own_at [x0, x1, x2] y2)), (.ref gs)] (fun t k => ?_) ?_
    ·refine XS.iloadN X850.here hx rfl (D d4_55) rfl ?_
     refine XT.dup2 X850.here hx rfl (D d4_56) rfl rfl rfl ?_
     refine own_iaload X850 hx hZ e850 F852 hbn854 rfl rfl (D d4_57) ?_
     refine XS.iconst X850.here hx rfl (D d4_58) ?_
     exact XS.iadd X850.here hx rfl (D d4_59) rfl k
    have hbn856 : own_In (own_at [x0, x1, x2] y2) (own_v223 x0 x1 x2 y0 y1).length := hl853 hs28_2 hs28_4
    refine own_iastG X850 hx hZ e850 F852 hbn856 rfl rfl (D d4_60) (fun T855 h855 X855 e855 W855 V855 => ?_)
    have Kp855 : Keep h0 h855 [a0, gr, gl, gs] := Kp847.wr W855 (Or.inl (List.mem_of_getElem? (i := 3) rfl))
    have Z857 : n0 ≤ h855.size := Nat.le_trans Z849 (Nat.le_of_eq W855.size.symm)
    have N855 := Fr.snoc X855 N847 gq_gs
    have Vw855 : own_Ints Z h855 gs (own_v524 x0 x1 x2 y0 y1 y2) := V855
    refine own_pA T855 m 4 #[.val (.ref a0), .val (.int (3:Int32)), .val (.int (own_at [x0, x1, x2] y2)), .unset, .unset] [(.ref a0), (.int (3:Int32))] (fun t k => ?_) ?_
    ·refine XS.iinc X855.here hx rfl (D d4_61) rfl (l' := #[.val (.ref a0), .val (.int (3:Int32)), .val (.int (own_at [x0, x1, x2] y2)), .unset, .unset]) rfl ?_
     refine XS.goto X855.here hx rfl (pc0 := 64) (pc' := 2) rfl (D d4_64) (by decide) (by decide) ?_
     refine XS.iloadN X855.here hx rfl (D d4_2) rfl ?_
     exact XS.aloadN X855.here hx rfl (D d4_3) rfl rfl k
    have F859 := (((F823.other W841 (Or.inl nq_a0_gl)).other W847 (Or.inr (slot_ne (Or.inl (own_h hw 27 rfl)) (Or.inl (own_h hw 34 rfl)) (by decide) (t := .int) (t' := .int) (by decide) (by decide)))).other W855 (Or.inl nq_a0_gs))
    refine own_getF X855 hx hZ hown (host := "") (Or.inl (own_h hw 26 rfl)) Via.refl e855 F859 rfl rfl (D d4_4) (fun T858 X858 e858 => ?_)
    refine own_pA T858 m 73 #[rv a0, iv (0:Int32), iv (0:Int32), .unset, .unset] [(.ref a0), (.int (0:Int32))] (fun t k => ?_) ?_
    ·refine XS.icmpYes X858.here hx rfl (pc0 := 7) (pc' := 67) rfl (D d4_7) rfl (XT.ii_ge_t (by decide)) (by decide) (by decide) ?_
     refine XS.iconst X858.here hx rfl (D d4_67) ?_
     refine XS.istoreN X858.here hx rfl (D d4_68) rfl (l' := #[.val (.ref a0), .val (.int (0:Int32)), .val (.int (own_at [x0, x1, x2] y2)), .unset, .unset]) rfl ?_
     refine XS.iconst X858.here hx rfl (D d4_69) ?_
     refine XS.istoreN X858.here hx rfl (D d4_70) rfl (l' := #[rv a0, iv (0:Int32), iv (0:Int32), .unset, .unset]) rfl ?_
     refine XS.iloadN X858.here hx rfl (D d4_71) rfl ?_
     exact XS.aloadN X858.here hx rfl (D d4_72) rfl rfl k
    have F861 := (Fw847.other W855 (Or.inl nq_a0_gs))
    refine own_getF X858 hx hZ hown (host := "") (Or.inl (own_h hw 33 rfl)) Via.refl e858 F861 rfl rfl (D d4_73) (fun T860 X860 e860 => ?_)
    refine own_pA T860 m 80 #[rv a0, iv (0:Int32), iv (0:Int32), .unset, .unset] [(.ref a0)] (fun t k => ?_) ?_
    ·refine XS.icmpNo X860.here hx rfl (D d4_76) rfl (XT.ii_ge_f (by decide)) ?_
     exact XS.aloadN X860.here hx rfl (D d4_79) rfl rfl k
    have F863 := (((F838.other W841 (Or.inl nq_a0_gl)).other W847 (Or.inr (slot_ne (Or.inr (own_h hw 18 rfl)) (Or.inl (own_h hw 34 rfl)) (by decide) (t := (.array .int)) (t' := .int) (by decide) (by decide)))).other W855 (Or.inl nq_a0_gs))
    refine own_getF X860 hx hZ hown (host := "") (Or.inl (own_h hw 17 rfl)) Via.refl e860 F863 rfl rfl (D d4_80) (fun T862 X862 e862 => ?_)
    have F864 := ((Vw841.other W847 (Ne.symm nq_a0_gl)).other W855 nq_gl_gs)
    have hbn865 : own_In (0:Int32) [(own_at [x0, x1, x2] y0), (own_at [x0, x1, x2] y2), (0:Int32)].length := own_lit rfl
    refine own_pA T862 m 88 #[.val (.ref a0), .val (.int (0:Int32)), .val (.int (0:Int32)), .val (.int (own_at [x0, x1, x2] y0)), .unset] [(.ref a0), (.int (0:Int32))] (fun t k => ?_) ?_
    ·refine XS.iloadN X862.here hx rfl (D d4_83) rfl ?_
     refine own_iaload X862 hx hZ e862 F864 hbn865 rfl rfl (D d4_84) ?_
     refine XS.istoreN X862.here hx rfl (D d4_85) rfl (l' := #[.val (.ref a0), .val (.int (0:Int32)), .val (.int (0:Int32)), .val (.int (own_at [x0, x1, x2] y0)), .unset]) rfl ?_
     refine XS.iloadN X862.here hx rfl (D d4_86) rfl ?_
     exact XS.aloadN X862.here hx rfl (D d4_87) rfl rfl k
    have F867 := (F851.other W855 (Or.inl nq_a0_gs))
    refine own_getF X862 hx hZ hown (host := "") (Or.inl (own_h hw 19 rfl)) Via.refl e862 F867 rfl rfl (D d4_88) (fun T866 X866 e866 => ?_)
    have hbn869 : own_In (own_at [x0, x1, x2] y0) (own_v524 x0 x1 x2 y0 y1 y2).length := hl868 hs28_2 hs28_4
    refine own_pA T866 m 96 #[.val (.ref a0), .val (.int ((0:Int32) + (own_at (own_v524 x0 x1 x2 y0 y1 y2) (own_at [x0, x1, x2] y0)))), .val (.int (0:Int32)), .val (.int (own_at [x0, x1, x2] y0)), .unset] [(.ref a0)] (fun t k => ?_) ?_
    ·refine XS.iloadN X866.here hx rfl (D d4_91) rfl ?_
     refine own_iaload X866 hx hZ e866 Vw855 hbn869 rfl rfl (D d4_92) ?_
     refine XS.iadd X866.here hx rfl (D d4_93) rfl ?_
     refine XS.istoreN X866.here hx rfl (D d4_94) rfl (l' := #[.val (.ref a0), .val (.int ((0:Int32) + (own_at (own_v524 x0 x1 x2 y0 y1 y2) (own_at [x0, x1, x2] y0)))), .val (.int (0:Int32)), .val (.int (own_at [x0, x1, x2] y0)), .unset]) rfl ?_
     exact XS.aloadN X866.here hx rfl (D d4_95) rfl rfl k
    refine own_getF X866 hx hZ hown (host := "") (Or.inl (own_h hw 19 rfl)) Via.refl e866 F867 rfl rfl (D d4_96) (fun T870 X870 e870 => ?_)
    refine own_pA T870 m 101 #[.val (.ref a0), .val (.int ((0:Int32) + (own_at (own_v524 x0 x1 x2 y0 y1 y2) (own_at [x0, x1, x2] y0)))), .val (.int (0:Int32)), .val (.int (own_at [x0, x1, x2] y0)), .unset] [(.int ((0:Int32) + (own_at (own_v524 x0 x1 x2 y0 y1 y2) (own_at [x0, x1, x2] y0)))), (.int (own_at [x0, x1, x2] y0)), (.ref gs)] (fun t k => ?_) ?_
    ·refine XS.iloadN X870.here hx rfl (D d4_99) rfl ?_
     exact XS.iloadN X870.here hx rfl (D d4_100) rfl k
    have hbn872 : own_In (own_at [x0, x1, x2] y0) (own_v524 x0 x1 x2 y0 y1 y2).length := hl868 hs28_2 hs28_4
    refine own_iastG X870 hx hZ e870 Vw855 hbn872 rfl rfl (D d4_101) (fun T871 h871 X871 e871 W871 V871 => ?_)
    have Kp871 : Keep h0 h871 [a0, gr, gl, gs] := Kp855.wr W871 (Or.inl (List.mem_of_getElem? (i := 3) rfl))
    have Z873 : n0 ≤ h871.size := Nat.le_trans Z857 (Nat.le_of_eq W871.size.symm)
    have N871 := Fr.snoc X871 N855 gq_gs
    have Vw871 : own_Ints Z h871 gs (own_v541 x0 x1 x2 y0 y1 y2) := V871
    refine own_pA T871 m 73 #[.val (.ref a0), .val (.int ((0:Int32) + (own_at (own_v524 x0 x1 x2 y0 y1 y2) (own_at [x0, x1, x2] y0)))), .val (.int (1:Int32)), .val (.int (own_at [x0, x1, x2] y0)), .unset] [(.ref a0), (.int (1:Int32))] (fun t k => ?_) ?_
    ·refine XS.iinc X871.here hx rfl (D d4_102) rfl (l' := #[.val (.ref a0), .val (.int ((0:Int32) + (own_at (own_v524 x0 x1 x2 y0 y1 y2) (own_at [x0, x1, x2] y0)))), .val (.int (1:Int32)), .val (.int (own_at [x0, x1, x2] y0)), .unset]) rfl ?_
     refine XS.goto X871.here hx rfl (pc0 := 105) (pc' := 71) rfl (D d4_105) (by decide) (by decide) ?_
     refine XS.iloadN X871.here hx rfl (D d4_71) rfl ?_
     exact XS.aloadN X871.here hx rfl (D d4_72) rfl rfl k
    have F875 := (F861.other W871 (Or.inl nq_a0_gs))
    refine own_getF X871 hx hZ hown (host := "") (Or.inl (own_h hw 33 rfl)) Via.refl e871 F875 rfl rfl (D d4_73) (fun T874 X874 e874 => ?_)
    refine own_pA T874 m 80 #[.val (.ref a0), .val (.int ((0:Int32) + (own_at (own_v524 x0 x1 x2 y0 y1 y2) (own_at [x0, x1, x2] y0)))), .val (.int (1:Int32)), .val (.int (own_at [x0, x1, x2] y0)), .unset] [(.ref a0)] (fun t k => ?_) ?_
    ·refine XS.icmpNo X874.here hx rfl (D d4_76) rfl (XT.ii_ge_f (by decide)) ?_
     exact XS.aloadN X874.here hx rfl (D d4_79) rfl rfl k
    have F877 := (F863.other W871 (Or.inl nq_a0_gs))
    refine own_getF X874 hx hZ hown (host := "") (Or.inl (own_h hw 17 rfl)) Via.refl e874 F877 rfl rfl (D d4_80) (fun T876 X876 e876 => ?_)
    have F878 := (F864.other W871 nq_gl_gs)
    have hbn879 : own_In (1:Int32) [(own_at [x0, x1, x2] y0), (own_at [x0, x1, x2] y2), (0:Int32)].length := own_lit rfl
    refine own_pA T876 m 88 #[.val (.ref a0), .val (.int ((0:Int32) + (own_at (own_v524 x0 x1 x2 y0 y1 y2) (own_at [x0, x1, x2] y0)))), .val (.int (1:Int32)), .val (.int (own_at [x0, x1, x2] y2)), .unset] [(.ref a0), (.int ((0:Int32) + (own_at (own_v524 x0 x1 x2 y0 y1 y2) (own_at [x0, x1, x2] y0))))] (fun t k => ?_) ?_
    ·refine XS.iloadN X876.here hx rfl (D d4_83) rfl ?_
     refine own_iaload X876 hx hZ e876 F878 hbn879 rfl rfl (D d4_84) ?_
     refine XS.istoreN X876.here hx rfl (D d4_85) rfl (l' := #[.val (.ref a0), .val (.int ((0:Int32) + (own_at (own_v524 x0 x1 x2 y0 y1 y2) (own_at [x0, x1, x2] y0)))), .val (.int (1:Int32)), .val (.int (own_at [x0, x1, x2] y2)), .unset]) rfl ?_
     refine XS.iloadN X876.here hx rfl (D d4_86) rfl ?_
     exact XS.aloadN X876.here hx rfl (D d4_87) rfl rfl k
    have F881 := (F867.other W871 (Or.inl nq_a0_gs))
    refine own_getF X876 hx hZ hown (host := "") (Or.inl (own_h hw 19 rfl)) Via.refl e876 F881 rfl rfl (D d4_88) (fun T880 X880 e880 => ?_)
    have hbn883 : own_In (own_at [x0, x1, x2] y2) (own_v541 x0 x1 x2 y0 y1 y2).length := hl882 hs28_2 hs28_4
    refine own_pA T880 m 96 #[.val (.ref a0), .val (.int (((0:Int32) + (own_at (own_v524 x0 x1 x2 y0 y1 y2) (own_at [x0, x1, x2] y0))) + (own_at (own_v541 x0 x1 x2 y0 y1 y2) (own_at [x0, x1, x2] y2)))), .val (.int (1:Int32)), .val (.int (own_at [x0, x1, x2] y2)), .unset] [(.ref a0)] (fun t k => ?_) ?_
    ·refine XS.iloadN X880.here hx rfl (D d4_91) rfl ?_
     refine own_iaload X880 hx hZ e880 Vw871 hbn883 rfl rfl (D d4_92) ?_
     refine XS.iadd X880.here hx rfl (D d4_93) rfl ?_
     refine XS.istoreN X880.here hx rfl (D d4_94) rfl (l' := #[.val (.ref a0), .val (.int (((0:Int32) + (own_at (own_v524 x0 x1 x2 y0 y1 y2) (own_at [x0, x1, x2] y0))) + (own_at (own_v541 x0 x1 x2 y0 y1 y2) (own_at [x0, x1, x2] y2)))), .val (.int (1:Int32)), .val (.int (own_at [x0, x1, x2] y2)), .unset]) rfl ?_
     exact XS.aloadN X880.here hx rfl (D d4_95) rfl rfl k
    refine own_getF X880 hx hZ hown (host := "") (Or.inl (own_h hw 19 rfl)) Via.refl e880 F881 rfl rfl (D d4_96) (fun T884 X884 e884 => ?_)
    refine own_pA T884 m 101 #[.val (.ref a0), .val (.int (((0:Int32) + (own_at (own_v524 x0 x1 x2 y0 y1 y2) (own_at [x0, x1, x2] y0))) + (own_at (own_v541 x0 x1 x2 y0 y1 y2) (own_at [x0, x1, x2] y2)))), .val (.int (1:Int32)), .val (.int (own_at [x0, x1, x2] y2)), .unset] [(.int (((0:Int32) + (own_at (own_v524 x0 x1 x2 y0 y1 y2) (own_at [x0, x1, x2] y0))) + (own_at (own_v541 x0 x1 x2 y0 y1 y2) (own_at [x0, x1, x2] y2)))), (.int (own_at [x0, x1, x2] y2)), (.ref gs)] (fun t k => ?_) ?_
    ·refine XS.iloadN X884.here hx rfl (D d4_99) rfl ?_
     exact XS.iloadN X884.here hx rfl (D d4_100) rfl k
    have hbn886 : own_In (own_at [x0, x1, x2] y2) (own_v541 x0 x1 x2 y0 y1 y2).length := hl882 hs28_2 hs28_4
    refine own_iastG X884 hx hZ e884 Vw871 hbn886 rfl rfl (D d4_101) (fun T885 h885 X885 e885 W885 V885 => ?_)
    have Kp885 : Keep h0 h885 [a0, gr, gl, gs] := Kp871.wr W885 (Or.inl (List.mem_of_getElem? (i := 3) rfl))
    have Z887 : n0 ≤ h885.size := Nat.le_trans Z873 (Nat.le_of_eq W885.size.symm)
    have N885 := Fr.snoc X885 N871 gq_gs
    have Vw885 : own_Ints Z h885 gs (own_v888 x0 x1 x2 y0 y1 y2) := V885
    refine own_pA T885 m 73 #[.val (.ref a0), .val (.int (((0:Int32) + (own_at (own_v524 x0 x1 x2 y0 y1 y2) (own_at [x0, x1, x2] y0))) + (own_at (own_v541 x0 x1 x2 y0 y1 y2) (own_at [x0, x1, x2] y2)))), .val (.int (2:Int32)), .val (.int (own_at [x0, x1, x2] y2)), .unset] [(.ref a0), (.int (2:Int32))] (fun t k => ?_) ?_
    ·refine XS.iinc X885.here hx rfl (D d4_102) rfl (l' := #[.val (.ref a0), .val (.int (((0:Int32) + (own_at (own_v524 x0 x1 x2 y0 y1 y2) (own_at [x0, x1, x2] y0))) + (own_at (own_v541 x0 x1 x2 y0 y1 y2) (own_at [x0, x1, x2] y2)))), .val (.int (2:Int32)), .val (.int (own_at [x0, x1, x2] y2)), .unset]) rfl ?_
     refine XS.goto X885.here hx rfl (pc0 := 105) (pc' := 71) rfl (D d4_105) (by decide) (by decide) ?_
     refine XS.iloadN X885.here hx rfl (D d4_71) rfl ?_
     exact XS.aloadN X885.here hx rfl (D d4_72) rfl rfl k
    have F890 := (F875.other W885 (Or.inl nq_a0_gs))
    refine own_getF X885 hx hZ hown (host := "") (Or.inl (own_h hw 33 rfl)) Via.refl e885 F890 rfl rfl (D d4_73) (fun T889 X889 e889 => ?_)
    refine own_pA T889 m 109 #[.val (.ref a0), .val (.int (((0:Int32) + (own_at (own_v524 x0 x1 x2 y0 y1 y2) (own_at [x0, x1, x2] y0))) + (own_at (own_v541 x0 x1 x2 y0 y1 y2) (own_at [x0, x1, x2] y2)))), .val (.int (2:Int32)), .val (.int (own_at [x0, x1, x2] y2)), .unset] [(.ref a0)] (fun t k => ?_) ?_
    ·refine XS.icmpYes X889.here hx rfl (pc0 := 76) (pc' := 108) rfl (D d4_76) rfl (XT.ii_ge_t (by decide)) (by decide) (by decide) ?_
     exact XS.aloadN X889.here hx rfl (D d4_108) rfl rfl k
    have F892 := ((F859.other W871 (Or.inl nq_a0_gs)).other W885 (Or.inl nq_a0_gs))
    refine own_getF X889 hx hZ hown (host := "") (Or.inl (own_h hw 26 rfl)) Via.refl e889 F892 rfl rfl (D d4_109) (fun T891 X891 e891 => ?_)
    refine own_pA T891 m 120 #[.val (.ref a0), .val (.int (((0:Int32) + (own_at (own_v524 x0 x1 x2 y0 y1 y2) (own_at [x0, x1, x2] y0))) + (own_at (own_v541 x0 x1 x2 y0 y1 y2) (own_at [x0, x1, x2] y2)))), .val (.int (2:Int32)), .val (.int (own_at [x0, x1, x2] y2)), .unset] [(.ref a0)] (fun t k => ?_) ?_
    ·refine XS.iconst X891.here hx rfl (D d4_112) ?_
     refine XS.isub X891.here hx rfl (D d4_113) rfl ?_
     refine XS.istoreN X891.here hx rfl (D d4_114) rfl (l' := #[.val (.ref a0), .val (.int (((0:Int32) + (own_at (own_v524 x0 x1 x2 y0 y1 y2) (own_at [x0, x1, x2] y0))) + (own_at (own_v541 x0 x1 x2 y0 y1 y2) (own_at [x0, x1, x2] y2)))), .val (.int (2:Int32)), .val (.int (own_at [x0, x1, x2] y2)), .unset]) rfl ?_
     refine XS.iloadN X891.here hx rfl (D d4_115) rfl ?_
     refine XS.ifNo X891.here hx rfl (D d4_116) rfl (XT.i0_lt_f (by decide)) ?_
     exact XS.aloadN X891.here hx rfl (D d4_119) rfl rfl k
    have F894 := (((((F827.other W841 (Or.inl nq_a0_gl)).other W847 (Or.inr (slot_ne (Or.inr (own_h hw 14 rfl)) (Or.inl (own_h hw 34 rfl)) (by decide) (t := (.array .int)) (t' := .int) (by decide) (by decide)))).other W855 (Or.inl nq_a0_gs)).other W871 (Or.inl nq_a0_gs)).other W885 (Or.inl nq_a0_gs))
    refine own_getF X891 hx hZ hown (host := "") (Or.inl (own_h hw 13 rfl)) Via.refl e891 F894 rfl rfl (D d4_120) (fun T893 X893 e893 => ?_)
    have F895 := (((((F828.other W841 nq_mv_gl).other W847 (Ne.symm nq_a0_mv)).other W855 nq_mv_gs).other W871 nq_mv_gs).other W885 nq_mv_gs)
    have hbn896 : own_In (2:Int32) [y0, y1, y2].length := own_lit rfl
    refine own_pA T893 m 127 #[.val (.ref a0), .val (.int (((0:Int32) + (own_at (own_v524 x0 x1 x2 y0 y1 y2) (own_at [x0, x1, x2] y0))) + (own_at (own_v541 x0 x1 x2 y0 y1 y2) (own_at [x0, x1, x2] y2)))), .val (.int (2:Int32)), .val (.int y2), .unset] [(.ref a0)] (fun t k => ?_) ?_
    ·refine XS.iloadN X893.here hx rfl (D d4_123) rfl ?_
     refine own_iaload X893 hx hZ e893 F895 hbn896 rfl rfl (D d4_124) ?_
     refine XS.istoreN X893.here hx rfl (D d4_125) rfl (l' := #[.val (.ref a0), .val (.int (((0:Int32) + (own_at (own_v524 x0 x1 x2 y0 y1 y2) (own_at [x0, x1, x2] y0))) + (own_at (own_v541 x0 x1 x2 y0 y1 y2) (own_at [x0, x1, x2] y2)))), .val (.int (2:Int32)), .val (.int y2), .unset]) rfl ?_
     exact XS.aloadN X893.here hx rfl (D d4_126) rfl rfl k
    have F898 := (((((F825.other W841 (Or.inl nq_a0_gl)).other W847 (Or.inr (slot_ne (Or.inr (own_h hw 12 rfl)) (Or.inl (own_h hw 34 rfl)) (by decide) (t := (.array .int)) (t' := .int) (by decide) (by decide)))).other W855 (Or.inl nq_a0_gs)).other W871 (Or.inl nq_a0_gs)).other W885 (Or.inl nq_a0_gs))
    refine own_getF X893 hx hZ hown (host := "") (Or.inl (own_h hw 11 rfl)) Via.refl e893 F898 rfl rfl (D d4_127) (fun T897 X897 e897 => ?_)
    have F899 := (((((F830.other W841 nq_la_gl).other W847 (Ne.symm nq_a0_la)).other W855 nq_la_gs).other W871 nq_la_gs).other W885 nq_la_gs)
    have hbn901 : own_In y2 [x0, x1, x2].length := hl900 hs28_2 hs28_4
    refine own_pA T897 m 135 #[.val (.ref a0), .val (.int (((0:Int32) + (own_at (own_v524 x0 x1 x2 y0 y1 y2) (own_at [x0, x1, x2] y0))) + (own_at (own_v541 x0 x1 x2 y0 y1 y2) (own_at [x0, x1, x2] y2)))), .val (.int (2:Int32)), .val (.int y2), .val (.int (own_at [x0, x1, x2] y2))] [(.ref a0)] (fun t k => ?_) ?_
    ·refine XS.iloadN X897.here hx rfl (D d4_130) rfl ?_
     refine own_iaload X897 hx hZ e897 F899 hbn901 rfl rfl (D d4_131) ?_
     refine XS.istore X897.here hx rfl (D d4_132) rfl (l' := #[.val (.ref a0), .val (.int (((0:Int32) + (own_at (own_v524 x0 x1 x2 y0 y1 y2) (own_at [x0, x1, x2] y0))) + (own_at (own_v541 x0 x1 x2 y0 y1 y2) (own_at [x0, x1, x2] y2)))), .val (.int (2:Int32)), .val (.int y2), .val (.int (own_at [x0, x1, x2] y2))]) rfl ?_
     exact XS.aloadN X897.here hx rfl (D d4_134) rfl rfl k
    have F903 := (F881.other W885 (Or.inl nq_a0_gs))
    refine own_getF X897 hx hZ hown (host := "") (Or.inl (own_h hw 19 rfl)) Via.refl e897 F903 rfl rfl (D d4_135) (fun T902 X902 e902 => ?_)
    have hbn905 : own_In (own_at [x0, x1, x2] y2) (own_v888 x0 x1 x2 y0 y1 y2).length := hl904 hs28_2 hs28_4
    refine own_pA T902 m 144 #[.val (.ref a0), .val (.int (((0:Int32) + (own_at (own_v524 x0 x1 x2 y0 y1 y2) (own_at [x0, x1, x2] y0))) + (own_at (own_v541 x0 x1 x2 y0 y1 y2) (own_at [x0, x1, x2] y2)))), .val (.int (2:Int32)), .val (.int y2), .val (.int (own_at [x0, x1, x2] y2))] [(.int ((own_at (own_v888 x0 x1 x2 y0 y1 y2) (own_at [x0, x1, x2] y2)) - (1:Int32))), (.int (own_at [x0, x1, x2] y2)), (.ref gs)] (fun t k => ?_) ?_
    ·refine XS.iload X902.here hx rfl (D d4_138) rfl ?_
     refine XT.dup2 X902.here hx rfl (D d4_140) rfl rfl rfl ?_
     refine own_iaload X902 hx hZ e902 Vw885 hbn905 rfl rfl (D d4_141) ?_
     refine XS.iconst X902.here hx rfl (D d4_142) ?_
     exact XS.isub X902.here hx rfl (D d4_143) rfl k
    have hbn907 : own_In (own_at [x0, x1, x2] y2) (own_v888 x0 x1 x2 y0 y1 y2).length := hl904 hs28_2 hs28_4
    refine own_iastG X902 hx hZ e902 Vw885 hbn907 rfl rfl (D d4_144) (fun T906 h906 X906 e906 W906 V906 => ?_)
    have Kp906 : Keep h0 h906 [a0, gr, gl, gs] := Kp885.wr W906 (Or.inl (List.mem_of_getElem? (i := 3) rfl))
    have Z908 : n0 ≤ h906.size := Nat.le_trans Z887 (Nat.le_of_eq W906.size.symm)
    have N906 := Fr.snoc X906 N885 gq_gs
    have Vw906 : own_Ints Z h906 gs (own_v909 x0 x1 x2 y0 y1 y2) := V906
    refine own_pA T906 m 146 #[.val (.ref a0), .val (.int (((0:Int32) + (own_at (own_v524 x0 x1 x2 y0 y1 y2) (own_at [x0, x1, x2] y0))) + (own_at (own_v541 x0 x1 x2 y0 y1 y2) (own_at [x0, x1, x2] y2)))), .val (.int (2:Int32)), .val (.int y2), .val (.int (own_at [x0, x1, x2] y2))] [(.ref a0)] (fun t k => ?_) ?_
    ·exact XS.aloadN X906.here hx rfl (D d4_145) rfl rfl k
    have F911 := ((((((((((P3.other W437 (Or.inl nq_a0_gl)).other W442 (Or.inr (slot_ne (Or.inr (own_h hw 16 rfl)) (Or.inl (own_h hw 34 rfl)) (by decide) (t := (.array .int)) (t' := .int) (by decide) (by decide)))).other W449 (Or.inl nq_a0_gs)).other W819 (Or.inl nq_a0_gs)).other W841 (Or.inl nq_a0_gl)).other W847 (Or.inr (slot_ne (Or.inr (own_h hw 16 rfl)) (Or.inl (own_h hw 34 rfl)) (by decide) (t := (.array .int)) (t' := .int) (by decide) (by decide)))).other W855 (Or.inl nq_a0_gs)).other W871 (Or.inl nq_a0_gs)).other W885 (Or.inl nq_a0_gs)).other W906 (Or.inl nq_a0_gs))
    refine own_getF X906 hx hZ hown (host := "") (Or.inl (own_h hw 15 rfl)) Via.refl e906 F911 rfl rfl (D d4_146) (fun T910 X910 e910 => ?_)
    refine own_pA T910 m 150 #[.val (.ref a0), .val (.int (((0:Int32) + (own_at (own_v524 x0 x1 x2 y0 y1 y2) (own_at [x0, x1, x2] y0))) + (own_at (own_v541 x0 x1 x2 y0 y1 y2) (own_at [x0, x1, x2] y2)))), .val (.int (2:Int32)), .val (.int y2), .val (.int (own_at [x0, x1, x2] y2))] [(.ref a0), (.ref gr)] (fun t k => ?_) ?_
    ·exact XS.aloadN X910.here hx rfl (D d4_149) rfl rfl k
    have F913 := (F903.other W906 (Or.inl nq_a0_gs))
    refine own_getF X910 hx hZ hown (host := "") (Or.inl (own_h hw 19 rfl)) Via.refl e910 F913 rfl rfl (D d4_150) (fun T912 X912 e912 => ?_)
    have hbn915 : own_In (own_at [x0, x1, x2] y2) (own_v909 x0 x1 x2 y0 y1 y2).length := hl914 hs28_2 hs28_4
    refine own_pA T912 m 157 #[.val (.ref a0), .val (.int (((0:Int32) + (own_at (own_v524 x0 x1 x2 y0 y1 y2) (own_at [x0, x1, x2] y0))) + (own_at (own_v541 x0 x1 x2 y0 y1 y2) (own_at [x0, x1, x2] y2)))), .val (.int (2:Int32)), .val (.int y2), .val (.int (own_at [x0, x1, x2] y2))] [(.int y2), (.int (own_at (own_v909 x0 x1 x2 y0 y1 y2) (own_at [x0, x1, x2] y2))), (.ref gr)] (fun t k => ?_) ?_
    ·refine XS.iload X912.here hx rfl (D d4_153) rfl ?_
     refine own_iaload X912 hx hZ e912 Vw906 hbn915 rfl rfl (D d4_155) ?_
     exact XS.iloadN X912.here hx rfl (D d4_156) rfl k
    have F917 := ((((((((((P10.other W437 nq_gr_gl).other W442 (Ne.symm nq_a0_gr)).other W449 nq_gr_gs).other W819 nq_gr_gs).other W841 nq_gr_gl).other W847 (Ne.symm nq_a0_gr)).other W855 nq_gr_gs).other W871 nq_gr_gs).other W885 nq_gr_gs).other W906 nq_gr_gs)
    have hbn919 : own_In (own_at (own_v909 x0 x1 x2 y0 y1 y2) (own_at [x0, x1, x2] y2)) [(0:Int32), (0:Int32), (0:Int32)].length := hl918 hs28_2 hs28_4
    refine own_iastG X912 hx hZ e912 F917 hbn919 rfl rfl (D d4_157) (fun T916 h916 X916 e916 W916 V916 => ?_)
    have Kp916 : Keep h0 h916 [a0, gr, gl, gs] := Kp906.wr W916 (Or.inl (List.mem_of_getElem? (i := 1) rfl))
    have Z920 : n0 ≤ h916.size := Nat.le_trans Z908 (Nat.le_of_eq W916.size.symm)
    have N916 := Fr.snoc X916 N906 gq_gr
    have Vw916 : own_Ints Z h916 gr (own_v921 x0 x1 x2 y0 y1 y2) := V916
    refine own_pA T916 m 120 #[.val (.ref a0), .val (.int (((0:Int32) + (own_at (own_v524 x0 x1 x2 y0 y1 y2) (own_at [x0, x1, x2] y0))) + (own_at (own_v541 x0 x1 x2 y0 y1 y2) (own_at [x0, x1, x2] y2)))), .val (.int (1:Int32)), .val (.int y2), .val (.int (own_at [x0, x1, x2] y2))] [(.ref a0)] (fun t k => ?_) ?_
    ·refine XS.iinc X916.here hx rfl (D d4_158) rfl (l' := #[.val (.ref a0), .val (.int (((0:Int32) + (own_at (own_v524 x0 x1 x2 y0 y1 y2) (own_at [x0, x1, x2] y0))) + (own_at (own_v541 x0 x1 x2 y0 y1 y2) (own_at [x0, x1, x2] y2)))), .val (.int (1:Int32)), .val (.int y2), .val (.int (own_at [x0, x1, x2] y2))]) rfl ?_
     refine XS.goto X916.here hx rfl (pc0 := 161) (pc' := 115) rfl (D d4_161) (by decide) (by decide) ?_
     refine XS.iloadN X916.here hx rfl (D d4_115) rfl ?_
     refine XS.ifNo X916.here hx rfl (D d4_116) rfl (XT.i0_lt_f (by decide)) ?_
     exact XS.aloadN X916.here hx rfl (D d4_119) rfl rfl k
    have F923 := ((F894.other W906 (Or.inl nq_a0_gs)).other W916 (Or.inl nq_a0_gr))
    refine own_getF X916 hx hZ hown (host := "") (Or.inl (own_h hw 13 rfl)) Via.refl e916 F923 rfl rfl (D d4_120) (fun T922 X922 e922 => ?_)
    have F924 := ((F895.other W906 nq_mv_gs).other W916 nq_mv_gr)
    have hbn925 : own_In (1:Int32) [y0, y1, y2].length := own_lit rfl
    refine own_pA T922 m 127 #[.val (.ref a0), .val (.int (((0:Int32) + (own_at (own_v524 x0 x1 x2 y0 y1 y2) (own_at [x0, x1, x2] y0))) + (own_at (own_v541 x0 x1 x2 y0 y1 y2) (own_at [x0, x1, x2] y2)))), .val (.int (1:Int32)), .val (.int y1), .val (.int (own_at [x0, x1, x2] y2))] [(.ref a0)] (fun t k => ?_) ?_
    ·refine XS.iloadN X922.here hx rfl (D d4_123) rfl ?_
     refine own_iaload X922 hx hZ e922 F924 hbn925 rfl rfl (D d4_124) ?_
     refine XS.istoreN X922.here hx rfl (D d4_125) rfl (l' := #[.val (.ref a0), .val (.int (((0:Int32) + (own_at (own_v524 x0 x1 x2 y0 y1 y2) (own_at [x0, x1, x2] y0))) + (own_at (own_v541 x0 x1 x2 y0 y1 y2) (own_at [x0, x1, x2] y2)))), .val (.int (1:Int32)), .val (.int y1), .val (.int (own_at [x0, x1, x2] y2))]) rfl ?_
     exact XS.aloadN X922.here hx rfl (D d4_126) rfl rfl k
    have F927 := ((F898.other W906 (Or.inl nq_a0_gs)).other W916 (Or.inl nq_a0_gr))
    refine own_getF X922 hx hZ hown (host := "") (Or.inl (own_h hw 11 rfl)) Via.refl e922 F927 rfl rfl (D d4_127) (fun T926 X926 e926 => ?_)
    have F928 := ((F899.other W906 nq_la_gs).other W916 nq_la_gr)
    have hbn930 : own_In y1 [x0, x1, x2].length := hl929 hs28_2 hs28_4
    refine own_pA T926 m 135 #[.val (.ref a0), .val (.int (((0:Int32) + (own_at (own_v524 x0 x1 x2 y0 y1 y2) (own_at [x0, x1, x2] y0))) + (own_at (own_v541 x0 x1 x2 y0 y1 y2) (own_at [x0, x1, x2] y2)))), .val (.int (1:Int32)), .val (.int y1), .val (.int (own_at [x0, x1, x2] y1))] [(.ref a0)] (fun t k => ?_) ?_
    ·refine XS.iloadN X926.here hx rfl (D d4_130) rfl ?_
     refine own_iaload X926 hx hZ e926 F928 hbn930 rfl rfl (D d4_131) ?_
     refine XS.istore X926.here hx rfl (D d4_132) rfl (l' := #[.val (.ref a0), .val (.int (((0:Int32) + (own_at (own_v524 x0 x1 x2 y0 y1 y2) (own_at [x0, x1, x2] y0))) + (own_at (own_v541 x0 x1 x2 y0 y1 y2) (own_at [x0, x1, x2] y2)))), .val (.int (1:Int32)), .val (.int y1), .val (.int (own_at [x0, x1, x2] y1))]) rfl ?_
     exact XS.aloadN X926.here hx rfl (D d4_134) rfl rfl k
    have F932 := (F913.other W916 (Or.inl nq_a0_gr))
    refine own_getF X926 hx hZ hown (host := "") (Or.inl (own_h hw 19 rfl)) Via.refl e926 F932 rfl rfl (D d4_135) (fun T931 X931 e931 => ?_)
    have F933 := (Vw906.other W916 (Ne.symm nq_gr_gs))
    have hbn935 : own_In (own_at [x0, x1, x2] y1) (own_v909 x0 x1 x2 y0 y1 y2).length := hl934 hs28_2 hs28_4
    refine own_pA T931 m 144 #[.val (.ref a0), .val (.int (((0:Int32) + (own_at (own_v524 x0 x1 x2 y0 y1 y2) (own_at [x0, x1, x2] y0))) + (own_at (own_v541 x0 x1 x2 y0 y1 y2) (own_at [x0, x1, x2] y2)))), .val (.int (1:Int32)), .val (.int y1), .val (.int (own_at [x0, x1, x2] y1))] [(.int ((own_at (own_v909 x0 x1 x2 y0 y1 y2) (own_at [x0, x1, x2] y1)) - (1:Int32))), (.int (own_at [x0, x1, x2] y1)), (.ref gs)] (fun t k => ?_) ?_
    ·refine XS.iload X931.here hx rfl (D d4_138) rfl ?_
     refine XT.dup2 X931.here hx rfl (D d4_140) rfl rfl rfl ?_
     refine own_iaload X931 hx hZ e931 F933 hbn935 rfl rfl (D d4_141) ?_
     refine XS.iconst X931.here hx rfl (D d4_142) ?_
     exact XS.isub X931.here hx rfl (D d4_143) rfl k
    have hbn937 : own_In (own_at [x0, x1, x2] y1) (own_v909 x0 x1 x2 y0 y1 y2).length := hl934 hs28_2 hs28_4
    refine own_iastG X931 hx hZ e931 F933 hbn937 rfl rfl (D d4_144) (fun T936 h936 X936 e936 W936 V936 => ?_)
    have Kp936 : Keep h0 h936 [a0, gr, gl, gs] := Kp916.wr W936 (Or.inl (List.mem_of_getElem? (i := 3) rfl))
    have Z938 : n0 ≤ h936.size := Nat.le_trans Z920 (Nat.le_of_eq W936.size.symm)
    have N936 := Fr.snoc X936 N916 gq_gs
    have Vw936 : own_Ints Z h936 gs (own_v939 x0 x1 x2 y0 y1 y2) := V936
    refine own_pA T936 m 146 #[.val (.ref a0), .val (.int (((0:Int32) + (own_at (own_v524 x0 x1 x2 y0 y1 y2) (own_at [x0, x1, x2] y0))) + (own_at (own_v541 x0 x1 x2 y0 y1 y2) (own_at [x0, x1, x2] y2)))), .val (.int (1:Int32)), .val (.int y1), .val (.int (own_at [x0, x1, x2] y1))] [(.ref a0)] (fun t k => ?_) ?_
    ·exact XS.aloadN X936.here hx rfl (D d4_145) rfl rfl k
    have F941 := ((F911.other W916 (Or.inl nq_a0_gr)).other W936 (Or.inl nq_a0_gs))
    refine own_getF X936 hx hZ hown (host := "") (Or.inl (own_h hw 15 rfl)) Via.refl e936 F941 rfl rfl (D d4_146) (fun T940 X940 e940 => ?_)
    refine own_pA T940 m 150 #[.val (.ref a0), .val (.int (((0:Int32) + (own_at (own_v524 x0 x1 x2 y0 y1 y2) (own_at [x0, x1, x2] y0))) + (own_at (own_v541 x0 x1 x2 y0 y1 y2) (own_at [x0, x1, x2] y2)))), .val (.int (1:Int32)), .val (.int y1), .val (.int (own_at [x0, x1, x2] y1))] [(.ref a0), (.ref gr)] (fun t k => ?_) ?_
    ·exact XS.aloadN X940.here hx rfl (D d4_149) rfl rfl k
    have F943 := (F932.other W936 (Or.inl nq_a0_gs))
    refine own_getF X940 hx hZ hown (host := "") (Or.inl (own_h hw 19 rfl)) Via.refl e940 F943 rfl rfl (D d4_150) (fun T942 X942 e942 => ?_)
    have hbn945 : own_In (own_at [x0, x1, x2] y1) (own_v939 x0 x1 x2 y0 y1 y2).length := hl944 hs28_2 hs28_4
    refine own_pA T942 m 157 #[.val (.ref a0), .val (.int (((0:Int32) + (own_at (own_v524 x0 x1 x2 y0 y1 y2) (own_at [x0, x1, x2] y0))) + (own_at (own_v541 x0 x1 x2 y0 y1 y2) (own_at [x0, x1, x2] y2)))), .val (.int (1:Int32)), .val (.int y1), .val (.int (own_at [x0, x1, x2] y1))] [(.int y1), (.int (own_at (own_v939 x0 x1 x2 y0 y1 y2) (own_at [x0, x1, x2] y1))), (.ref gr)] (fun t k => ?_) ?_
    ·refine XS.iload X942.here hx rfl (D d4_153) rfl ?_
     refine own_iaload X942 hx hZ e942 Vw936 hbn945 rfl rfl (D d4_155) ?_
     exact XS.iloadN X942.here hx rfl (D d4_156) rfl k
    have F947 := (Vw916.other W936 nq_gr_gs)
    have hbn949 : own_In (own_at (own_v939 x0 x1 x2 y0 y1 y2) (own_at [x0, x1, x2] y1)) (own_v921 x0 x1 x2 y0 y1 y2).length := hl948 hs28_2 hs28_4
    refine own_iastG X942 hx hZ e942 F947 hbn949 rfl rfl (D d4_157) (fun T946 h946 X946 e946 W946 V946 => ?_)
    have Kp946 : Keep h0 h946 [a0, gr, gl, gs] := Kp936.wr W946 (Or.inl (List.mem_of_getElem? (i := 1) rfl))
    have Z950 : n0 ≤ h946.size := Nat.le_trans Z938 (Nat.le_of_eq W946.size.symm)
    have N946 := Fr.snoc X946 N936 gq_gr
    have Vw946 : own_Ints Z h946 gr (own_v951 x0 x1 x2 y0 y1 y2) := V946
    refine own_pA T946 m 120 #[.val (.ref a0), .val (.int (((0:Int32) + (own_at (own_v524 x0 x1 x2 y0 y1 y2) (own_at [x0, x1, x2] y0))) + (own_at (own_v541 x0 x1 x2 y0 y1 y2) (own_at [x0, x1, x2] y2)))), .val (.int (0:Int32)), .val (.int y1), .val (.int (own_at [x0, x1, x2] y1))] [(.ref a0)] (fun t k => ?_) ?_
    ·refine XS.iinc X946.here hx rfl (D d4_158) rfl (l' := #[.val (.ref a0), .val (.int (((0:Int32) + (own_at (own_v524 x0 x1 x2 y0 y1 y2) (own_at [x0, x1, x2] y0))) + (own_at (own_v541 x0 x1 x2 y0 y1 y2) (own_at [x0, x1, x2] y2)))), .val (.int (0:Int32)), .val (.int y1), .val (.int (own_at [x0, x1, x2] y1))]) rfl ?_
     refine XS.goto X946.here hx rfl (pc0 := 161) (pc' := 115) rfl (D d4_161) (by decide) (by decide) ?_
     refine XS.iloadN X946.here hx rfl (D d4_115) rfl ?_
     refine XS.ifNo X946.here hx rfl (D d4_116) rfl (XT.i0_lt_f (by decide)) ?_
     exact XS.aloadN X946.here hx rfl (D d4_119) rfl rfl k
    have F953 := ((F923.other W936 (Or.inl nq_a0_gs)).other W946 (Or.inl nq_a0_gr))
    refine own_getF X946 hx hZ hown (host := "") (Or.inl (own_h hw 13 rfl)) Via.refl e946 F953 rfl rfl (D d4_120) (fun T952 X952 e952 => ?_)
    have F954 := ((F924.other W936 nq_mv_gs).other W946 nq_mv_gr)
    have hbn955 : own_In (0:Int32) [y0, y1, y2].length := own_lit rfl
    refine own_pA T952 m 127 #[.val (.ref a0), .val (.int (((0:Int32) + (own_at (own_v524 x0 x1 x2 y0 y1 y2) (own_at [x0, x1, x2] y0))) + (own_at (own_v541 x0 x1 x2 y0 y1 y2) (own_at [x0, x1, x2] y2)))), .val (.int (0:Int32)), .val (.int y0), .val (.int (own_at [x0, x1, x2] y1))] [(.ref a0)] (fun t k => ?_) ?_
    ·refine XS.iloadN X952.here hx rfl (D d4_123) rfl ?_
     refine own_iaload X952 hx hZ e952 F954 hbn955 rfl rfl (D d4_124) ?_
     refine XS.istoreN X952.here hx rfl (D d4_125) rfl (l' := #[.val (.ref a0), .val (.int (((0:Int32) + (own_at (own_v524 x0 x1 x2 y0 y1 y2) (own_at [x0, x1, x2] y0))) + (own_at (own_v541 x0 x1 x2 y0 y1 y2) (own_at [x0, x1, x2] y2)))), .val (.int (0:Int32)), .val (.int y0), .val (.int (own_at [x0, x1, x2] y1))]) rfl ?_
     exact XS.aloadN X952.here hx rfl (D d4_126) rfl rfl k
    have F957 := ((F927.other W936 (Or.inl nq_a0_gs)).other W946 (Or.inl nq_a0_gr))
    refine own_getF X952 hx hZ hown (host := "") (Or.inl (own_h hw 11 rfl)) Via.refl e952 F957 rfl rfl (D d4_127) (fun T956 X956 e956 => ?_)
    have F958 := ((F928.other W936 nq_la_gs).other W946 nq_la_gr)
    have hbn960 : own_In y0 [x0, x1, x2].length := hl959 hs28_2 hs28_4
    refine own_pA T956 m 135 #[.val (.ref a0), .val (.int (((0:Int32) + (own_at (own_v524 x0 x1 x2 y0 y1 y2) (own_at [x0, x1, x2] y0))) + (own_at (own_v541 x0 x1 x2 y0 y1 y2) (own_at [x0, x1, x2] y2)))), .val (.int (0:Int32)), .val (.int y0), .val (.int (own_at [x0, x1, x2] y0))] [(.ref a0)] (fun t k => ?_) ?_
    ·refine XS.iloadN X956.here hx rfl (D d4_130) rfl ?_
     refine own_iaload X956 hx hZ e956 F958 hbn960 rfl rfl (D d4_131) ?_
     refine XS.istore X956.here hx rfl (D d4_132) rfl (l' := #[.val (.ref a0), .val (.int (((0:Int32) + (own_at (own_v524 x0 x1 x2 y0 y1 y2) (own_at [x0, x1, x2] y0))) + (own_at (own_v541 x0 x1 x2 y0 y1 y2) (own_at [x0, x1, x2] y2)))), .val (.int (0:Int32)), .val (.int y0), .val (.int (own_at [x0, x1, x2] y0))]) rfl ?_
     exact XS.aloadN X956.here hx rfl (D d4_134) rfl rfl k
    have F962 := (F943.other W946 (Or.inl nq_a0_gr))
    refine own_getF X956 hx hZ hown (host := "") (Or.inl (own_h hw 19 rfl)) Via.refl e956 F962 rfl rfl (D d4_135) (fun T961 X961 e961 => ?_)
    have F963 := (Vw936.other W946 (Ne.symm nq_gr_gs))
    have hbn965 : own_In (own_at [x0, x1, x2] y0) (own_v939 x0 x1 x2 y0 y1 y2).length := hl964 hs28_2 hs28_4
    refine own_pA T961 m 144 #[.val (.ref a0), .val (.int (((0:Int32) + (own_at (own_v524 x0 x1 x2 y0 y1 y2) (own_at [x0, x1, x2] y0))) + (own_at (own_v541 x0 x1 x2 y0 y1 y2) (own_at [x0, x1, x2] y2)))), .val (.int (0:Int32)), .val (.int y0), .val (.int (own_at [x0, x1, x2] y0))] [(.int ((own_at (own_v939 x0 x1 x2 y0 y1 y2) (own_at [x0, x1, x2] y0)) - (1:Int32))), (.int (own_at [x0, x1, x2] y0)), (.ref gs)] (fun t k => ?_) ?_
    ·refine XS.iload X961.here hx rfl (D d4_138) rfl ?_
     refine XT.dup2 X961.here hx rfl (D d4_140) rfl rfl rfl ?_
     refine own_iaload X961 hx hZ e961 F963 hbn965 rfl rfl (D d4_141) ?_
     refine XS.iconst X961.here hx rfl (D d4_142) ?_
     exact XS.isub X961.here hx rfl (D d4_143) rfl k
    have hbn967 : own_In (own_at [x0, x1, x2] y0) (own_v939 x0 x1 x2 y0 y1 y2).length := hl964 hs28_2 hs28_4
    refine own_iastG X961 hx hZ e961 F963 hbn967 rfl rfl (D d4_144) (fun T966 h966 X966 e966 W966 V966 => ?_)
    have Kp966 : Keep h0 h966 [a0, gr, gl, gs] := Kp946.wr W966 (Or.inl (List.mem_of_getElem? (i := 3) rfl))
    have Z968 : n0 ≤ h966.size := Nat.le_trans Z950 (Nat.le_of_eq W966.size.symm)
    have N966 := Fr.snoc X966 N946 gq_gs
    have Vw966 : own_Ints Z h966 gs (own_v969 x0 x1 x2 y0 y1 y2) := V966
    refine own_pA T966 m 146 #[.val (.ref a0), .val (.int (((0:Int32) + (own_at (own_v524 x0 x1 x2 y0 y1 y2) (own_at [x0, x1, x2] y0))) + (own_at (own_v541 x0 x1 x2 y0 y1 y2) (own_at [x0, x1, x2] y2)))), .val (.int (0:Int32)), .val (.int y0), .val (.int (own_at [x0, x1, x2] y0))] [(.ref a0)] (fun t k => ?_) ?_
    ·exact XS.aloadN X966.here hx rfl (D d4_145) rfl rfl k
    have F971 := ((F941.other W946 (Or.inl nq_a0_gr)).other W966 (Or.inl nq_a0_gs))
    refine own_getF X966 hx hZ hown (host := "") (Or.inl (own_h hw 15 rfl)) Via.refl e966 F971 rfl rfl (D d4_146) (fun T970 X970 e970 => ?_)
    refine own_pA T970 m 150 #[.val (.ref a0), .val (.int (((0:Int32) + (own_at (own_v524 x0 x1 x2 y0 y1 y2) (own_at [x0, x1, x2] y0))) + (own_at (own_v541 x0 x1 x2 y0 y1 y2) (own_at [x0, x1, x2] y2)))), .val (.int (0:Int32)), .val (.int y0), .val (.int (own_at [x0, x1, x2] y0))] [(.ref a0), (.ref gr)] (fun t k => ?_) ?_
    ·exact XS.aloadN X970.here hx rfl (D d4_149) rfl rfl k
    have F973 := (F962.other W966 (Or.inl nq_a0_gs))
    refine own_getF X970 hx hZ hown (host := "") (Or.inl (own_h hw 19 rfl)) Via.refl e970 F973 rfl rfl (D d4_150) (fun T972 X972 e972 => ?_)
    have hbn975 : own_In (own_at [x0, x1, x2] y0) (own_v969 x0 x1 x2 y0 y1 y2).length := hl974 hs28_2 hs28_4
    refine own_pA T972 m 157 #[.val (.ref a0), .val (.int (((0:Int32) + (own_at (own_v524 x0 x1 x2 y0 y1 y2) (own_at [x0, x1, x2] y0))) + (own_at (own_v541 x0 x1 x2 y0 y1 y2) (own_at [x0, x1, x2] y2)))), .val (.int (0:Int32)), .val (.int y0), .val (.int (own_at [x0, x1, x2] y0))] [(.int y0), (.int (own_at (own_v969 x0 x1 x2 y0 y1 y2) (own_at [x0, x1, x2] y0))), (.ref gr)] (fun t k => ?_) ?_
    ·refine XS.iload X972.here hx rfl (D d4_153) rfl ?_
     refine own_iaload X972 hx hZ e972 Vw966 hbn975 rfl rfl (D d4_155) ?_
     exact XS.iloadN X972.here hx rfl (D d4_156) rfl k
    have F977 := (Vw946.other W966 nq_gr_gs)
    have hbn979 : own_In (own_at (own_v969 x0 x1 x2 y0 y1 y2) (own_at [x0, x1, x2] y0)) (own_v951 x0 x1 x2 y0 y1 y2).length := hl978 hs28_2 hs28_4
    refine own_iastG X972 hx hZ e972 F977 hbn979 rfl rfl (D d4_157) (fun T976 h976 X976 e976 W976 V976 => ?_)
    have Kp976 : Keep h0 h976 [a0, gr, gl, gs] := Kp966.wr W976 (Or.inl (List.mem_of_getElem? (i := 1) rfl))
    have Z980 : n0 ≤ h976.size := Nat.le_trans Z968 (Nat.le_of_eq W976.size.symm)
    have N976 := Fr.snoc X976 N966 gq_gr
    have Vw976 : own_Ints Z h976 gr (own_v981 x0 x1 x2 y0 y1 y2) := V976
    refine own_pA T976 m 165 #[.val (.ref a0), .val (.int (((0:Int32) + (own_at (own_v524 x0 x1 x2 y0 y1 y2) (own_at [x0, x1, x2] y0))) + (own_at (own_v541 x0 x1 x2 y0 y1 y2) (own_at [x0, x1, x2] y2)))), .val (.int (-1:Int32)), .val (.int y0), .val (.int (own_at [x0, x1, x2] y0))] [(.ref a0)] (fun t k => ?_) ?_
    ·refine XS.iinc X976.here hx rfl (D d4_158) rfl (l' := #[.val (.ref a0), .val (.int (((0:Int32) + (own_at (own_v524 x0 x1 x2 y0 y1 y2) (own_at [x0, x1, x2] y0))) + (own_at (own_v541 x0 x1 x2 y0 y1 y2) (own_at [x0, x1, x2] y2)))), .val (.int (-1:Int32)), .val (.int y0), .val (.int (own_at [x0, x1, x2] y0))]) rfl ?_
     refine XS.goto X976.here hx rfl (pc0 := 161) (pc' := 115) rfl (D d4_161) (by decide) (by decide) ?_
     refine XS.iloadN X976.here hx rfl (D d4_115) rfl ?_
     refine XS.ifYes X976.here hx rfl (pc0 := 116) (pc' := 164) rfl (D d4_116) rfl (XT.i0_lt_t (by decide)) (by decide) (by decide) ?_
     exact XS.aloadN X976.here hx rfl (D d4_164) rfl rfl k
    have F983 := ((((((F890.other W906 (Or.inl nq_a0_gs)).other W916 (Or.inl nq_a0_gr)).other W936 (Or.inl nq_a0_gs)).other W946 (Or.inl nq_a0_gr)).other W966 (Or.inl nq_a0_gs)).other W976 (Or.inl nq_a0_gr))
    refine own_getF X976 hx hZ hown (host := "") (Or.inl (own_h hw 33 rfl)) Via.refl e976 F983 rfl rfl (D d4_165) (fun T982 X982 e982 => ?_)
    have hv984 : (2:Int32) = f4m3 x0 x1 x2 y0 y1 y2 := by simp only [f4m3, if_neg hs28_2, if_pos hs28_4]
    have F985 := ((F957.other W966 (Or.inl nq_a0_gs)).other W976 (Or.inl nq_a0_gr))
    have F986 := ((F953.other W966 (Or.inl nq_a0_gs)).other W976 (Or.inl nq_a0_gr))
    have F987 := (F971.other W976 (Or.inl nq_a0_gr))
    have F988 := (((((((F877.other W885 (Or.inl nq_a0_gs)).other W906 (Or.inl nq_a0_gs)).other W916 (Or.inl nq_a0_gr)).other W936 (Or.inl nq_a0_gs)).other W946 (Or.inl nq_a0_gr)).other W966 (Or.inl nq_a0_gs)).other W976 (Or.inl nq_a0_gr))
    have F989 := (F973.other W976 (Or.inl nq_a0_gr))
    have F990 := ((((((F892.other W906 (Or.inl nq_a0_gs)).other W916 (Or.inl nq_a0_gr)).other W936 (Or.inl nq_a0_gs)).other W946 (Or.inl nq_a0_gr)).other W966 (Or.inl nq_a0_gs)).other W976 (Or.inl nq_a0_gr))
    have F991 := (((((((F878.other W885 nq_gl_gs).other W906 nq_gl_gs).other W916 (Ne.symm nq_gr_gl)).other W936 nq_gl_gs).other W946 (Ne.symm nq_gr_gl)).other W966 nq_gl_gs).other W976 (Ne.symm nq_gr_gl))
    have F992 := (Vw966.other W976 (Ne.symm nq_gr_gs))
    exact own_end X982 (BodyLoose.notSynchronized Bd) (fun h => by rw [Bd.returns] at h; cases h) (v := some (.int (2:Int32))) (fun fs hr => retOut X982 hx Bd.returns rfl (by simp [Value.isRef, FieldType.isReference]) (D d4_168) hr) (by show Q4m3 Z a0 la mv gr gl gs x0 x1 x2 y0 y1 y2 h0 n0 _ T982.heap _; rw [e982]; exact ⟨(congrArg (fun z => some (Value.int z)) hv984), N976, Kp976, (by first | exact F985 | (simp only [if_neg hs28_2, if_pos hs28_4]; exact F985)), (by first | exact F986 | (simp only [if_neg hs28_2, if_pos hs28_4]; exact F986)), (by first | exact F987 | (simp only [if_neg hs28_2, if_pos hs28_4]; exact F987)), (by first | exact F988 | (simp only [if_neg hs28_2, if_pos hs28_4]; exact F988)), (by first | exact F989 | (simp only [if_neg hs28_2, if_pos hs28_4]; exact F989)), (by first | exact F990 | (simp only [if_neg hs28_2, if_pos hs28_4]; exact F990)), (by simp only [g4m3_gc, if_neg hs28_2, if_pos hs28_4]; exact F983), (by simp only [g4m3_gr, if_neg hs28_2, if_pos hs28_4]; exact Vw976), (by simp only [g4m3_gl, if_neg hs28_2, if_pos hs28_4]; exact F991), (by simp only [g4m3_gs, if_neg hs28_2, if_pos hs28_4]; exact F992)⟩) (by decide) (by decide)
   ·refine own_pA T833 m 52 #[.val (.ref a0), .val (.int (2:Int32)), .val (.int (own_at [x0, x1, x2] y2)), .unset, .unset] [(.ref a0)] (fun t k => ?_) ?_
    ·refine XS.ifYes X833.here hx rfl (pc0 := 28) (pc' := 51) rfl (D d4_28) rfl (XT.i0_ne_t hs28_4) (by decide) (by decide) ?_
     exact XS.aloadN X833.here hx rfl (D d4_51) rfl rfl k
    refine own_getF X833 hx hZ hown (host := "") (Or.inl (own_h hw 19 rfl)) Via.refl e833 F834 rfl rfl (D d4_52) (fun T993 X993 e993 => ?_)
    have hbn995 : own_In (own_at [x0, x1, x2] y2) (own_v223 x0 x1 x2 y0 y1).length := hl994 hs28_2 hs28_4
    refine own_pA T993 m 60 #[.val (.ref a0), .val (.int (2:Int32)), .val (.int (own_at [x0, x1, x2] y2)), .unset, .unset] [(.int ((own_at (own_v223 x0 x1 x2 y0 y1) (own_at [x0, x1, x2] y2)) + (1:Int32))), (.int (own_at [x0, x1, x2] y2)), (.ref gs)] (fun t k => ?_) ?_
    ·refine XS.iloadN X993.here hx rfl (D d4_55) rfl ?_
     refine XT.dup2 X993.here hx rfl (D d4_56) rfl rfl rfl ?_
     refine own_iaload X993 hx hZ e993 Vw819 hbn995 rfl rfl (D d4_57) ?_
     refine XS.iconst X993.here hx rfl (D d4_58) ?_
     exact XS.iadd X993.here hx rfl (D d4_59) rfl k
    have hbn997 : own_In (own_at [x0, x1, x2] y2) (own_v223 x0 x1 x2 y0 y1).length := hl994 hs28_2 hs28_4
    refine own_iastG X993 hx hZ e993 Vw819 hbn997 rfl rfl (D d4_60) (fun T996 h996 X996 e996 W996 V996 => ?_)
    have Kp996 : Keep h0 h996 [a0, gr, gl, gs] := Kp819.wr W996 (Or.inl (List.mem_of_getElem? (i := 3) rfl))
    have Z998 : n0 ≤ h996.size := Nat.le_trans Z821 (Nat.le_of_eq W996.size.symm)
    have N996 := Fr.snoc X996 N819 gq_gs
    have Vw996 : own_Ints Z h996 gs (own_v524 x0 x1 x2 y0 y1 y2) := V996
    refine own_pA T996 m 4 #[.val (.ref a0), .val (.int (3:Int32)), .val (.int (own_at [x0, x1, x2] y2)), .unset, .unset] [(.ref a0), (.int (3:Int32))] (fun t k => ?_) ?_
    ·refine XS.iinc X996.here hx rfl (D d4_61) rfl (l' := #[.val (.ref a0), .val (.int (3:Int32)), .val (.int (own_at [x0, x1, x2] y2)), .unset, .unset]) rfl ?_
     refine XS.goto X996.here hx rfl (pc0 := 64) (pc' := 2) rfl (D d4_64) (by decide) (by decide) ?_
     refine XS.iloadN X996.here hx rfl (D d4_2) rfl ?_
     exact XS.aloadN X996.here hx rfl (D d4_3) rfl rfl k
    have F1000 := (F823.other W996 (Or.inl nq_a0_gs))
    refine own_getF X996 hx hZ hown (host := "") (Or.inl (own_h hw 26 rfl)) Via.refl e996 F1000 rfl rfl (D d4_4) (fun T999 X999 e999 => ?_)
    refine own_pA T999 m 73 #[rv a0, iv (0:Int32), iv (0:Int32), .unset, .unset] [(.ref a0), (.int (0:Int32))] (fun t k => ?_) ?_
    ·refine XS.icmpYes X999.here hx rfl (pc0 := 7) (pc' := 67) rfl (D d4_7) rfl (XT.ii_ge_t (by decide)) (by decide) (by decide) ?_
     refine XS.iconst X999.here hx rfl (D d4_67) ?_
     refine XS.istoreN X999.here hx rfl (D d4_68) rfl (l' := #[.val (.ref a0), .val (.int (0:Int32)), .val (.int (own_at [x0, x1, x2] y2)), .unset, .unset]) rfl ?_
     refine XS.iconst X999.here hx rfl (D d4_69) ?_
     refine XS.istoreN X999.here hx rfl (D d4_70) rfl (l' := #[rv a0, iv (0:Int32), iv (0:Int32), .unset, .unset]) rfl ?_
     refine XS.iloadN X999.here hx rfl (D d4_71) rfl ?_
     exact XS.aloadN X999.here hx rfl (D d4_72) rfl rfl k
    have F1002 := (((Fw442.other W449 (Or.inl nq_a0_gs)).other W819 (Or.inl nq_a0_gs)).other W996 (Or.inl nq_a0_gs))
    refine own_getF X999 hx hZ hown (host := "") (Or.inl (own_h hw 33 rfl)) Via.refl e999 F1002 rfl rfl (D d4_73) (fun T1001 X1001 e1001 => ?_)
    refine own_pA T1001 m 80 #[rv a0, iv (0:Int32), iv (0:Int32), .unset, .unset] [(.ref a0)] (fun t k => ?_) ?_
    ·refine XS.icmpNo X1001.here hx rfl (D d4_76) rfl (XT.ii_ge_f (by decide)) ?_
     exact XS.aloadN X1001.here hx rfl (D d4_79) rfl rfl k
    have F1004 := (((((P4.other W437 (Or.inl nq_a0_gl)).other W442 (Or.inr (slot_ne (Or.inr (own_h hw 18 rfl)) (Or.inl (own_h hw 34 rfl)) (by decide) (t := (.array .int)) (t' := .int) (by decide) (by decide)))).other W449 (Or.inl nq_a0_gs)).other W819 (Or.inl nq_a0_gs)).other W996 (Or.inl nq_a0_gs))
    refine own_getF X1001 hx hZ hown (host := "") (Or.inl (own_h hw 17 rfl)) Via.refl e1001 F1004 rfl rfl (D d4_80) (fun T1003 X1003 e1003 => ?_)
    have F1005 := ((((Vw437.other W442 (Ne.symm nq_a0_gl)).other W449 nq_gl_gs).other W819 nq_gl_gs).other W996 nq_gl_gs)
    have hbn1006 : own_In (0:Int32) [(own_at [x0, x1, x2] y0), (0:Int32), (0:Int32)].length := own_lit rfl
    refine own_pA T1003 m 88 #[.val (.ref a0), .val (.int (0:Int32)), .val (.int (0:Int32)), .val (.int (own_at [x0, x1, x2] y0)), .unset] [(.ref a0), (.int (0:Int32))] (fun t k => ?_) ?_
    ·refine XS.iloadN X1003.here hx rfl (D d4_83) rfl ?_
     refine own_iaload X1003 hx hZ e1003 F1005 hbn1006 rfl rfl (D d4_84) ?_
     refine XS.istoreN X1003.here hx rfl (D d4_85) rfl (l' := #[.val (.ref a0), .val (.int (0:Int32)), .val (.int (0:Int32)), .val (.int (own_at [x0, x1, x2] y0)), .unset]) rfl ?_
     refine XS.iloadN X1003.here hx rfl (D d4_86) rfl ?_
     exact XS.aloadN X1003.here hx rfl (D d4_87) rfl rfl k
    have F1008 := (F834.other W996 (Or.inl nq_a0_gs))
    refine own_getF X1003 hx hZ hown (host := "") (Or.inl (own_h hw 19 rfl)) Via.refl e1003 F1008 rfl rfl (D d4_88) (fun T1007 X1007 e1007 => ?_)
    have hbn1010 : own_In (own_at [x0, x1, x2] y0) (own_v524 x0 x1 x2 y0 y1 y2).length := hl1009 hs28_2 hs28_4
    refine own_pA T1007 m 96 #[.val (.ref a0), .val (.int ((0:Int32) + (own_at (own_v524 x0 x1 x2 y0 y1 y2) (own_at [x0, x1, x2] y0)))), .val (.int (0:Int32)), .val (.int (own_at [x0, x1, x2] y0)), .unset] [(.ref a0)] (fun t k => ?_) ?_
    ·refine XS.iloadN X1007.here hx rfl (D d4_91) rfl ?_
     refine own_iaload X1007 hx hZ e1007 Vw996 hbn1010 rfl rfl (D d4_92) ?_
     refine XS.iadd X1007.here hx rfl (D d4_93) rfl ?_
     refine XS.istoreN X1007.here hx rfl (D d4_94) rfl (l' := #[.val (.ref a0), .val (.int ((0:Int32) + (own_at (own_v524 x0 x1 x2 y0 y1 y2) (own_at [x0, x1, x2] y0)))), .val (.int (0:Int32)), .val (.int (own_at [x0, x1, x2] y0)), .unset]) rfl ?_
     exact XS.aloadN X1007.here hx rfl (D d4_95) rfl rfl k
    refine own_getF X1007 hx hZ hown (host := "") (Or.inl (own_h hw 19 rfl)) Via.refl e1007 F1008 rfl rfl (D d4_96) (fun T1011 X1011 e1011 => ?_)
    refine own_pA T1011 m 101 #[.val (.ref a0), .val (.int ((0:Int32) + (own_at (own_v524 x0 x1 x2 y0 y1 y2) (own_at [x0, x1, x2] y0)))), .val (.int (0:Int32)), .val (.int (own_at [x0, x1, x2] y0)), .unset] [(.int ((0:Int32) + (own_at (own_v524 x0 x1 x2 y0 y1 y2) (own_at [x0, x1, x2] y0)))), (.int (own_at [x0, x1, x2] y0)), (.ref gs)] (fun t k => ?_) ?_
    ·refine XS.iloadN X1011.here hx rfl (D d4_99) rfl ?_
     exact XS.iloadN X1011.here hx rfl (D d4_100) rfl k
    have hbn1013 : own_In (own_at [x0, x1, x2] y0) (own_v524 x0 x1 x2 y0 y1 y2).length := hl1009 hs28_2 hs28_4
    refine own_iastG X1011 hx hZ e1011 Vw996 hbn1013 rfl rfl (D d4_101) (fun T1012 h1012 X1012 e1012 W1012 V1012 => ?_)
    have Kp1012 : Keep h0 h1012 [a0, gr, gl, gs] := Kp996.wr W1012 (Or.inl (List.mem_of_getElem? (i := 3) rfl))
    have Z1014 : n0 ≤ h1012.size := Nat.le_trans Z998 (Nat.le_of_eq W1012.size.symm)
    have N1012 := Fr.snoc X1012 N996 gq_gs
    have Vw1012 : own_Ints Z h1012 gs (own_v541 x0 x1 x2 y0 y1 y2) := V1012
    refine own_pA T1012 m 73 #[.val (.ref a0), .val (.int ((0:Int32) + (own_at (own_v524 x0 x1 x2 y0 y1 y2) (own_at [x0, x1, x2] y0)))), .val (.int (1:Int32)), .val (.int (own_at [x0, x1, x2] y0)), .unset] [(.ref a0), (.int (1:Int32))] (fun t k => ?_) ?_
    ·refine XS.iinc X1012.here hx rfl (D d4_102) rfl (l' := #[.val (.ref a0), .val (.int ((0:Int32) + (own_at (own_v524 x0 x1 x2 y0 y1 y2) (own_at [x0, x1, x2] y0)))), .val (.int (1:Int32)), .val (.int (own_at [x0, x1, x2] y0)), .unset]) rfl ?_
     refine XS.goto X1012.here hx rfl (pc0 := 105) (pc' := 71) rfl (D d4_105) (by decide) (by decide) ?_
     refine XS.iloadN X1012.here hx rfl (D d4_71) rfl ?_
     exact XS.aloadN X1012.here hx rfl (D d4_72) rfl rfl k
    have F1016 := (F1002.other W1012 (Or.inl nq_a0_gs))
    refine own_getF X1012 hx hZ hown (host := "") (Or.inl (own_h hw 33 rfl)) Via.refl e1012 F1016 rfl rfl (D d4_73) (fun T1015 X1015 e1015 => ?_)
    refine own_pA T1015 m 109 #[.val (.ref a0), .val (.int ((0:Int32) + (own_at (own_v524 x0 x1 x2 y0 y1 y2) (own_at [x0, x1, x2] y0)))), .val (.int (1:Int32)), .val (.int (own_at [x0, x1, x2] y0)), .unset] [(.ref a0)] (fun t k => ?_) ?_
    ·refine XS.icmpYes X1015.here hx rfl (pc0 := 76) (pc' := 108) rfl (D d4_76) rfl (XT.ii_ge_t (by decide)) (by decide) (by decide) ?_
     exact XS.aloadN X1015.here hx rfl (D d4_108) rfl rfl k
    have F1018 := (F1000.other W1012 (Or.inl nq_a0_gs))
    refine own_getF X1015 hx hZ hown (host := "") (Or.inl (own_h hw 26 rfl)) Via.refl e1015 F1018 rfl rfl (D d4_109) (fun T1017 X1017 e1017 => ?_)
    refine own_pA T1017 m 120 #[.val (.ref a0), .val (.int ((0:Int32) + (own_at (own_v524 x0 x1 x2 y0 y1 y2) (own_at [x0, x1, x2] y0)))), .val (.int (2:Int32)), .val (.int (own_at [x0, x1, x2] y0)), .unset] [(.ref a0)] (fun t k => ?_) ?_
    ·refine XS.iconst X1017.here hx rfl (D d4_112) ?_
     refine XS.isub X1017.here hx rfl (D d4_113) rfl ?_
     refine XS.istoreN X1017.here hx rfl (D d4_114) rfl (l' := #[.val (.ref a0), .val (.int ((0:Int32) + (own_at (own_v524 x0 x1 x2 y0 y1 y2) (own_at [x0, x1, x2] y0)))), .val (.int (2:Int32)), .val (.int (own_at [x0, x1, x2] y0)), .unset]) rfl ?_
     refine XS.iloadN X1017.here hx rfl (D d4_115) rfl ?_
     refine XS.ifNo X1017.here hx rfl (D d4_116) rfl (XT.i0_lt_f (by decide)) ?_
     exact XS.aloadN X1017.here hx rfl (D d4_119) rfl rfl k
    have F1020 := ((F827.other W996 (Or.inl nq_a0_gs)).other W1012 (Or.inl nq_a0_gs))
    refine own_getF X1017 hx hZ hown (host := "") (Or.inl (own_h hw 13 rfl)) Via.refl e1017 F1020 rfl rfl (D d4_120) (fun T1019 X1019 e1019 => ?_)
    have F1021 := ((F828.other W996 nq_mv_gs).other W1012 nq_mv_gs)
    have hbn1022 : own_In (2:Int32) [y0, y1, y2].length := own_lit rfl
    refine own_pA T1019 m 127 #[.val (.ref a0), .val (.int ((0:Int32) + (own_at (own_v524 x0 x1 x2 y0 y1 y2) (own_at [x0, x1, x2] y0)))), .val (.int (2:Int32)), .val (.int y2), .unset] [(.ref a0)] (fun t k => ?_) ?_
    ·refine XS.iloadN X1019.here hx rfl (D d4_123) rfl ?_
     refine own_iaload X1019 hx hZ e1019 F1021 hbn1022 rfl rfl (D d4_124) ?_
     refine XS.istoreN X1019.here hx rfl (D d4_125) rfl (l' := #[.val (.ref a0), .val (.int ((0:Int32) + (own_at (own_v524 x0 x1 x2 y0 y1 y2) (own_at [x0, x1, x2] y0)))), .val (.int (2:Int32)), .val (.int y2), .unset]) rfl ?_
     exact XS.aloadN X1019.here hx rfl (D d4_126) rfl rfl k
    have F1024 := ((F825.other W996 (Or.inl nq_a0_gs)).other W1012 (Or.inl nq_a0_gs))
    refine own_getF X1019 hx hZ hown (host := "") (Or.inl (own_h hw 11 rfl)) Via.refl e1019 F1024 rfl rfl (D d4_127) (fun T1023 X1023 e1023 => ?_)
    have F1025 := ((F830.other W996 nq_la_gs).other W1012 nq_la_gs)
    have hbn1027 : own_In y2 [x0, x1, x2].length := hl1026 hs28_2 hs28_4
    refine own_pA T1023 m 135 #[.val (.ref a0), .val (.int ((0:Int32) + (own_at (own_v524 x0 x1 x2 y0 y1 y2) (own_at [x0, x1, x2] y0)))), .val (.int (2:Int32)), .val (.int y2), .val (.int (own_at [x0, x1, x2] y2))] [(.ref a0)] (fun t k => ?_) ?_
    ·refine XS.iloadN X1023.here hx rfl (D d4_130) rfl ?_
     refine own_iaload X1023 hx hZ e1023 F1025 hbn1027 rfl rfl (D d4_131) ?_
     refine XS.istore X1023.here hx rfl (D d4_132) rfl (l' := #[.val (.ref a0), .val (.int ((0:Int32) + (own_at (own_v524 x0 x1 x2 y0 y1 y2) (own_at [x0, x1, x2] y0)))), .val (.int (2:Int32)), .val (.int y2), .val (.int (own_at [x0, x1, x2] y2))]) rfl ?_
     exact XS.aloadN X1023.here hx rfl (D d4_134) rfl rfl k
    have F1029 := (F1008.other W1012 (Or.inl nq_a0_gs))
    refine own_getF X1023 hx hZ hown (host := "") (Or.inl (own_h hw 19 rfl)) Via.refl e1023 F1029 rfl rfl (D d4_135) (fun T1028 X1028 e1028 => ?_)
    have hbn1031 : own_In (own_at [x0, x1, x2] y2) (own_v541 x0 x1 x2 y0 y1 y2).length := hl1030 hs28_2 hs28_4
    refine own_pA T1028 m 144 #[.val (.ref a0), .val (.int ((0:Int32) + (own_at (own_v524 x0 x1 x2 y0 y1 y2) (own_at [x0, x1, x2] y0)))), .val (.int (2:Int32)), .val (.int y2), .val (.int (own_at [x0, x1, x2] y2))] [(.int ((own_at (own_v541 x0 x1 x2 y0 y1 y2) (own_at [x0, x1, x2] y2)) - (1:Int32))), (.int (own_at [x0, x1, x2] y2)), (.ref gs)] (fun t k => ?_) ?_
    ·refine XS.iload X1028.here hx rfl (D d4_138) rfl ?_
     refine XT.dup2 X1028.here hx rfl (D d4_140) rfl rfl rfl ?_
     refine own_iaload X1028 hx hZ e1028 Vw1012 hbn1031 rfl rfl (D d4_141) ?_
     refine XS.iconst X1028.here hx rfl (D d4_142) ?_
     exact XS.isub X1028.here hx rfl (D d4_143) rfl k
    have hbn1033 : own_In (own_at [x0, x1, x2] y2) (own_v541 x0 x1 x2 y0 y1 y2).length := hl1030 hs28_2 hs28_4
    refine own_iastG X1028 hx hZ e1028 Vw1012 hbn1033 rfl rfl (D d4_144) (fun T1032 h1032 X1032 e1032 W1032 V1032 => ?_)
    have Kp1032 : Keep h0 h1032 [a0, gr, gl, gs] := Kp1012.wr W1032 (Or.inl (List.mem_of_getElem? (i := 3) rfl))
    have Z1034 : n0 ≤ h1032.size := Nat.le_trans Z1014 (Nat.le_of_eq W1032.size.symm)
    have N1032 := Fr.snoc X1032 N1012 gq_gs
    have Vw1032 : own_Ints Z h1032 gs (own_v1035 x0 x1 x2 y0 y1 y2) := V1032
    refine own_pA T1032 m 146 #[.val (.ref a0), .val (.int ((0:Int32) + (own_at (own_v524 x0 x1 x2 y0 y1 y2) (own_at [x0, x1, x2] y0)))), .val (.int (2:Int32)), .val (.int y2), .val (.int (own_at [x0, x1, x2] y2))] [(.ref a0)] (fun t k => ?_) ?_
    ·exact XS.aloadN X1032.here hx rfl (D d4_145) rfl rfl k
    have F1037 := (((((((P3.other W437 (Or.inl nq_a0_gl)).other W442 (Or.inr (slot_ne (Or.inr (own_h hw 16 rfl)) (Or.inl (own_h hw 34 rfl)) (by decide) (t := (.array .int)) (t' := .int) (by decide) (by decide)))).other W449 (Or.inl nq_a0_gs)).other W819 (Or.inl nq_a0_gs)).other W996 (Or.inl nq_a0_gs)).other W1012 (Or.inl nq_a0_gs)).other W1032 (Or.inl nq_a0_gs))
    refine own_getF X1032 hx hZ hown (host := "") (Or.inl (own_h hw 15 rfl)) Via.refl e1032 F1037 rfl rfl (D d4_146) (fun T1036 X1036 e1036 => ?_)
    refine own_pA T1036 m 150 #[.val (.ref a0), .val (.int ((0:Int32) + (own_at (own_v524 x0 x1 x2 y0 y1 y2) (own_at [x0, x1, x2] y0)))), .val (.int (2:Int32)), .val (.int y2), .val (.int (own_at [x0, x1, x2] y2))] [(.ref a0), (.ref gr)] (fun t k => ?_) ?_
    ·exact XS.aloadN X1036.here hx rfl (D d4_149) rfl rfl k
    have F1039 := (F1029.other W1032 (Or.inl nq_a0_gs))
    refine own_getF X1036 hx hZ hown (host := "") (Or.inl (own_h hw 19 rfl)) Via.refl e1036 F1039 rfl rfl (D d4_150) (fun T1038 X1038 e1038 => ?_)
    have hbn1041 : own_In (own_at [x0, x1, x2] y2) (own_v1035 x0 x1 x2 y0 y1 y2).length := hl1040 hs28_2 hs28_4
    refine own_pA T1038 m 157 #[.val (.ref a0), .val (.int ((0:Int32) + (own_at (own_v524 x0 x1 x2 y0 y1 y2) (own_at [x0, x1, x2] y0)))), .val (.int (2:Int32)), .val (.int y2), .val (.int (own_at [x0, x1, x2] y2))] [(.int y2), (.int (own_at (own_v1035 x0 x1 x2 y0 y1 y2) (own_at [x0, x1, x2] y2))), (.ref gr)] (fun t k => ?_) ?_
    ·refine XS.iload X1038.here hx rfl (D d4_153) rfl ?_
     refine own_iaload X1038 hx hZ e1038 Vw1032 hbn1041 rfl rfl (D d4_155) ?_
     exact XS.iloadN X1038.here hx rfl (D d4_156) rfl k
    have F1043 := (((((((P10.other W437 nq_gr_gl).other W442 (Ne.symm nq_a0_gr)).other W449 nq_gr_gs).other W819 nq_gr_gs).other W996 nq_gr_gs).other W1012 nq_gr_gs).other W1032 nq_gr_gs)
    have hbn1045 : own_In (own_at (own_v1035 x0 x1 x2 y0 y1 y2) (own_at [x0, x1, x2] y2)) [(0:Int32), (0:Int32), (0:Int32)].length := hl1044 hs28_2 hs28_4
    refine own_iastG X1038 hx hZ e1038 F1043 hbn1045 rfl rfl (D d4_157) (fun T1042 h1042 X1042 e1042 W1042 V1042 => ?_)
    have Kp1042 : Keep h0 h1042 [a0, gr, gl, gs] := Kp1032.wr W1042 (Or.inl (List.mem_of_getElem? (i := 1) rfl))
    have Z1046 : n0 ≤ h1042.size := Nat.le_trans Z1034 (Nat.le_of_eq W1042.size.symm)
    have N1042 := Fr.snoc X1042 N1032 gq_gr
    have Vw1042 : own_Ints Z h1042 gr (own_v1047 x0 x1 x2 y0 y1 y2) := V1042
    refine own_pA T1042 m 120 #[.val (.ref a0), .val (.int ((0:Int32) + (own_at (own_v524 x0 x1 x2 y0 y1 y2) (own_at [x0, x1, x2] y0)))), .val (.int (1:Int32)), .val (.int y2), .val (.int (own_at [x0, x1, x2] y2))] [(.ref a0)] (fun t k => ?_) ?_
    ·refine XS.iinc X1042.here hx rfl (D d4_158) rfl (l' := #[.val (.ref a0), .val (.int ((0:Int32) + (own_at (own_v524 x0 x1 x2 y0 y1 y2) (own_at [x0, x1, x2] y0)))), .val (.int (1:Int32)), .val (.int y2), .val (.int (own_at [x0, x1, x2] y2))]) rfl ?_
     refine XS.goto X1042.here hx rfl (pc0 := 161) (pc' := 115) rfl (D d4_161) (by decide) (by decide) ?_
     refine XS.iloadN X1042.here hx rfl (D d4_115) rfl ?_
     refine XS.ifNo X1042.here hx rfl (D d4_116) rfl (XT.i0_lt_f (by decide)) ?_
     exact XS.aloadN X1042.here hx rfl (D d4_119) rfl rfl k
    have F1049 := ((F1020.other W1032 (Or.inl nq_a0_gs)).other W1042 (Or.inl nq_a0_gr))
    refine own_getF X1042 hx hZ hown (host := "") (Or.inl (own_h hw 13 rfl)) Via.refl e1042 F1049 rfl rfl (D d4_120) (fun T1048 X1048 e1048 => ?_)
    have F1050 := ((F1021.other W1032 nq_mv_gs).other W1042 nq_mv_gr)
    have hbn1051 : own_In (1:Int32) [y0, y1, y2].length := own_lit rfl
    refine own_pA T1048 m 127 #[.val (.ref a0), .val (.int ((0:Int32) + (own_at (own_v524 x0 x1 x2 y0 y1 y2) (own_at [x0, x1, x2] y0)))), .val (.int (1:Int32)), .val (.int y1), .val (.int (own_at [x0, x1, x2] y2))] [(.ref a0)] (fun t k => ?_) ?_
    ·refine XS.iloadN X1048.here hx rfl (D d4_123) rfl ?_
     refine own_iaload X1048 hx hZ e1048 F1050 hbn1051 rfl rfl (D d4_124) ?_
     refine XS.istoreN X1048.here hx rfl (D d4_125) rfl (l' := #[.val (.ref a0), .val (.int ((0:Int32) + (own_at (own_v524 x0 x1 x2 y0 y1 y2) (own_at [x0, x1, x2] y0)))), .val (.int (1:Int32)), .val (.int y1), .val (.int (own_at [x0, x1, x2] y2))]) rfl ?_
     exact XS.aloadN X1048.here hx rfl (D d4_126) rfl rfl k
    have F1053 := ((F1024.other W1032 (Or.inl nq_a0_gs)).other W1042 (Or.inl nq_a0_gr))
    refine own_getF X1048 hx hZ hown (host := "") (Or.inl (own_h hw 11 rfl)) Via.refl e1048 F1053 rfl rfl (D d4_127) (fun T1052 X1052 e1052 => ?_)
    have F1054 := ((F1025.other W1032 nq_la_gs).other W1042 nq_la_gr)
    have hbn1056 : own_In y1 [x0, x1, x2].length := hl1055 hs28_2 hs28_4
    refine own_pA T1052 m 135 #[.val (.ref a0), .val (.int ((0:Int32) + (own_at (own_v524 x0 x1 x2 y0 y1 y2) (own_at [x0, x1, x2] y0)))), .val (.int (1:Int32)), .val (.int y1), .val (.int (own_at [x0, x1, x2] y1))] [(.ref a0)] (fun t k => ?_) ?_
    ·refine XS.iloadN X1052.here hx rfl (D d4_130) rfl ?_
     refine own_iaload X1052 hx hZ e1052 F1054 hbn1056 rfl rfl (D d4_131) ?_
     refine XS.istore X1052.here hx rfl (D d4_132) rfl (l' := #[.val (.ref a0), .val (.int ((0:Int32) + (own_at (own_v524 x0 x1 x2 y0 y1 y2) (own_at [x0, x1, x2] y0)))), .val (.int (1:Int32)), .val (.int y1), .val (.int (own_at [x0, x1, x2] y1))]) rfl ?_
     exact XS.aloadN X1052.here hx rfl (D d4_134) rfl rfl k
    have F1058 := (F1039.other W1042 (Or.inl nq_a0_gr))
    refine own_getF X1052 hx hZ hown (host := "") (Or.inl (own_h hw 19 rfl)) Via.refl e1052 F1058 rfl rfl (D d4_135) (fun T1057 X1057 e1057 => ?_)
    have F1059 := (Vw1032.other W1042 (Ne.symm nq_gr_gs))
    have hbn1061 : own_In (own_at [x0, x1, x2] y1) (own_v1035 x0 x1 x2 y0 y1 y2).length := hl1060 hs28_2 hs28_4
    refine own_pA T1057 m 144 #[.val (.ref a0), .val (.int ((0:Int32) + (own_at (own_v524 x0 x1 x2 y0 y1 y2) (own_at [x0, x1, x2] y0)))), .val (.int (1:Int32)), .val (.int y1), .val (.int (own_at [x0, x1, x2] y1))] [(.int ((own_at (own_v1035 x0 x1 x2 y0 y1 y2) (own_at [x0, x1, x2] y1)) - (1:Int32))), (.int (own_at [x0, x1, x2] y1)), (.ref gs)] (fun t k => ?_) ?_
    ·refine XS.iload X1057.here hx rfl (D d4_138) rfl ?_
     refine XT.dup2 X1057.here hx rfl (D d4_140) rfl rfl rfl ?_
     refine own_iaload X1057 hx hZ e1057 F1059 hbn1061 rfl rfl (D d4_141) ?_
     refine XS.iconst X1057.here hx rfl (D d4_142) ?_
     exact XS.isub X1057.here hx rfl (D d4_143) rfl k
    have hbn1063 : own_In (own_at [x0, x1, x2] y1) (own_v1035 x0 x1 x2 y0 y1 y2).length := hl1060 hs28_2 hs28_4
    refine own_iastG X1057 hx hZ e1057 F1059 hbn1063 rfl rfl (D d4_144) (fun T1062 h1062 X1062 e1062 W1062 V1062 => ?_)
    have Kp1062 : Keep h0 h1062 [a0, gr, gl, gs] := Kp1042.wr W1062 (Or.inl (List.mem_of_getElem? (i := 3) rfl))
    have Z1064 : n0 ≤ h1062.size := Nat.le_trans Z1046 (Nat.le_of_eq W1062.size.symm)
    have N1062 := Fr.snoc X1062 N1042 gq_gs
    have Vw1062 : own_Ints Z h1062 gs (own_v1065 x0 x1 x2 y0 y1 y2) := V1062
    refine own_pA T1062 m 146 #[.val (.ref a0), .val (.int ((0:Int32) + (own_at (own_v524 x0 x1 x2 y0 y1 y2) (own_at [x0, x1, x2] y0)))), .val (.int (1:Int32)), .val (.int y1), .val (.int (own_at [x0, x1, x2] y1))] [(.ref a0)] (fun t k => ?_) ?_
    ·exact XS.aloadN X1062.here hx rfl (D d4_145) rfl rfl k
    have F1067 := ((F1037.other W1042 (Or.inl nq_a0_gr)).other W1062 (Or.inl nq_a0_gs))
    refine own_getF X1062 hx hZ hown (host := "") (Or.inl (own_h hw 15 rfl)) Via.refl e1062 F1067 rfl rfl (D d4_146) (fun T1066 X1066 e1066 => ?_)
    refine own_pA T1066 m 150 #[.val (.ref a0), .val (.int ((0:Int32) + (own_at (own_v524 x0 x1 x2 y0 y1 y2) (own_at [x0, x1, x2] y0)))), .val (.int (1:Int32)), .val (.int y1), .val (.int (own_at [x0, x1, x2] y1))] [(.ref a0), (.ref gr)] (fun t k => ?_) ?_
    ·exact XS.aloadN X1066.here hx rfl (D d4_149) rfl rfl k
    have F1069 := (F1058.other W1062 (Or.inl nq_a0_gs))
    refine own_getF X1066 hx hZ hown (host := "") (Or.inl (own_h hw 19 rfl)) Via.refl e1066 F1069 rfl rfl (D d4_150) (fun T1068 X1068 e1068 => ?_)
    have hbn1071 : own_In (own_at [x0, x1, x2] y1) (own_v1065 x0 x1 x2 y0 y1 y2).length := hl1070 hs28_2 hs28_4
    refine own_pA T1068 m 157 #[.val (.ref a0), .val (.int ((0:Int32) + (own_at (own_v524 x0 x1 x2 y0 y1 y2) (own_at [x0, x1, x2] y0)))), .val (.int (1:Int32)), .val (.int y1), .val (.int (own_at [x0, x1, x2] y1))] [(.int y1), (.int (own_at (own_v1065 x0 x1 x2 y0 y1 y2) (own_at [x0, x1, x2] y1))), (.ref gr)] (fun t k => ?_) ?_
    ·refine XS.iload X1068.here hx rfl (D d4_153) rfl ?_
     refine own_iaload X1068 hx hZ e1068 Vw1062 hbn1071 rfl rfl (D d4_155) ?_
     exact XS.iloadN X1068.here hx rfl (D d4_156) rfl k
    have F1073 := (Vw1042.other W1062 nq_gr_gs)
    have hbn1075 : own_In (own_at (own_v1065 x0 x1 x2 y0 y1 y2) (own_at [x0, x1, x2] y1)) (own_v1047 x0 x1 x2 y0 y1 y2).length := hl1074 hs28_2 hs28_4
    refine own_iastG X1068 hx hZ e1068 F1073 hbn1075 rfl rfl (D d4_157) (fun T1072 h1072 X1072 e1072 W1072 V1072 => ?_)
    have Kp1072 : Keep h0 h1072 [a0, gr, gl, gs] := Kp1062.wr W1072 (Or.inl (List.mem_of_getElem? (i := 1) rfl))
    have Z1076 : n0 ≤ h1072.size := Nat.le_trans Z1064 (Nat.le_of_eq W1072.size.symm)
    have N1072 := Fr.snoc X1072 N1062 gq_gr
    have Vw1072 : own_Ints Z h1072 gr (own_v1077 x0 x1 x2 y0 y1 y2) := V1072
    refine own_pA T1072 m 120 #[.val (.ref a0), .val (.int ((0:Int32) + (own_at (own_v524 x0 x1 x2 y0 y1 y2) (own_at [x0, x1, x2] y0)))), .val (.int (0:Int32)), .val (.int y1), .val (.int (own_at [x0, x1, x2] y1))] [(.ref a0)] (fun t k => ?_) ?_
    ·refine XS.iinc X1072.here hx rfl (D d4_158) rfl (l' := #[.val (.ref a0), .val (.int ((0:Int32) + (own_at (own_v524 x0 x1 x2 y0 y1 y2) (own_at [x0, x1, x2] y0)))), .val (.int (0:Int32)), .val (.int y1), .val (.int (own_at [x0, x1, x2] y1))]) rfl ?_
     refine XS.goto X1072.here hx rfl (pc0 := 161) (pc' := 115) rfl (D d4_161) (by decide) (by decide) ?_
     refine XS.iloadN X1072.here hx rfl (D d4_115) rfl ?_
     refine XS.ifNo X1072.here hx rfl (D d4_116) rfl (XT.i0_lt_f (by decide)) ?_
     exact XS.aloadN X1072.here hx rfl (D d4_119) rfl rfl k
    have F1079 := ((F1049.other W1062 (Or.inl nq_a0_gs)).other W1072 (Or.inl nq_a0_gr))
    refine own_getF X1072 hx hZ hown (host := "") (Or.inl (own_h hw 13 rfl)) Via.refl e1072 F1079 rfl rfl (D d4_120) (fun T1078 X1078 e1078 => ?_)
    have F1080 := ((F1050.other W1062 nq_mv_gs).other W1072 nq_mv_gr)
    have hbn1081 : own_In (0:Int32) [y0, y1, y2].length := own_lit rfl
    refine own_pA T1078 m 127 #[.val (.ref a0), .val (.int ((0:Int32) + (own_at (own_v524 x0 x1 x2 y0 y1 y2) (own_at [x0, x1, x2] y0)))), .val (.int (0:Int32)), .val (.int y0), .val (.int (own_at [x0, x1, x2] y1))] [(.ref a0)] (fun t k => ?_) ?_
    ·refine XS.iloadN X1078.here hx rfl (D d4_123) rfl ?_
     refine own_iaload X1078 hx hZ e1078 F1080 hbn1081 rfl rfl (D d4_124) ?_
     refine XS.istoreN X1078.here hx rfl (D d4_125) rfl (l' := #[.val (.ref a0), .val (.int ((0:Int32) + (own_at (own_v524 x0 x1 x2 y0 y1 y2) (own_at [x0, x1, x2] y0)))), .val (.int (0:Int32)), .val (.int y0), .val (.int (own_at [x0, x1, x2] y1))]) rfl ?_
     exact XS.aloadN X1078.here hx rfl (D d4_126) rfl rfl k
    have F1083 := ((F1053.other W1062 (Or.inl nq_a0_gs)).other W1072 (Or.inl nq_a0_gr))
    refine own_getF X1078 hx hZ hown (host := "") (Or.inl (own_h hw 11 rfl)) Via.refl e1078 F1083 rfl rfl (D d4_127) (fun T1082 X1082 e1082 => ?_)
    have F1084 := ((F1054.other W1062 nq_la_gs).other W1072 nq_la_gr)
    have hbn1086 : own_In y0 [x0, x1, x2].length := hl1085 hs28_2 hs28_4
    refine own_pA T1082 m 135 #[.val (.ref a0), .val (.int ((0:Int32) + (own_at (own_v524 x0 x1 x2 y0 y1 y2) (own_at [x0, x1, x2] y0)))), .val (.int (0:Int32)), .val (.int y0), .val (.int (own_at [x0, x1, x2] y0))] [(.ref a0)] (fun t k => ?_) ?_
    ·refine XS.iloadN X1082.here hx rfl (D d4_130) rfl ?_
     refine own_iaload X1082 hx hZ e1082 F1084 hbn1086 rfl rfl (D d4_131) ?_
     refine XS.istore X1082.here hx rfl (D d4_132) rfl (l' := #[.val (.ref a0), .val (.int ((0:Int32) + (own_at (own_v524 x0 x1 x2 y0 y1 y2) (own_at [x0, x1, x2] y0)))), .val (.int (0:Int32)), .val (.int y0), .val (.int (own_at [x0, x1, x2] y0))]) rfl ?_
     exact XS.aloadN X1082.here hx rfl (D d4_134) rfl rfl k
    have F1088 := (F1069.other W1072 (Or.inl nq_a0_gr))
    refine own_getF X1082 hx hZ hown (host := "") (Or.inl (own_h hw 19 rfl)) Via.refl e1082 F1088 rfl rfl (D d4_135) (fun T1087 X1087 e1087 => ?_)
    have F1089 := (Vw1062.other W1072 (Ne.symm nq_gr_gs))
    have hbn1091 : own_In (own_at [x0, x1, x2] y0) (own_v1065 x0 x1 x2 y0 y1 y2).length := hl1090 hs28_2 hs28_4
    refine own_pA T1087 m 144 #[.val (.ref a0), .val (.int ((0:Int32) + (own_at (own_v524 x0 x1 x2 y0 y1 y2) (own_at [x0, x1, x2] y0)))), .val (.int (0:Int32)), .val (.int y0), .val (.int (own_at [x0, x1, x2] y0))] [(.int ((own_at (own_v1065 x0 x1 x2 y0 y1 y2) (own_at [x0, x1, x2] y0)) - (1:Int32))), (.int (own_at [x0, x1, x2] y0)), (.ref gs)] (fun t k => ?_) ?_
    ·refine XS.iload X1087.here hx rfl (D d4_138) rfl ?_
     refine XT.dup2 X1087.here hx rfl (D d4_140) rfl rfl rfl ?_
     refine own_iaload X1087 hx hZ e1087 F1089 hbn1091 rfl rfl (D d4_141) ?_
     refine XS.iconst X1087.here hx rfl (D d4_142) ?_
     exact XS.isub X1087.here hx rfl (D d4_143) rfl k
    have hbn1093 : own_In (own_at [x0, x1, x2] y0) (own_v1065 x0 x1 x2 y0 y1 y2).length := hl1090 hs28_2 hs28_4
    refine own_iastG X1087 hx hZ e1087 F1089 hbn1093 rfl rfl (D d4_144) (fun T1092 h1092 X1092 e1092 W1092 V1092 => ?_)
    have Kp1092 : Keep h0 h1092 [a0, gr, gl, gs] := Kp1072.wr W1092 (Or.inl (List.mem_of_getElem? (i := 3) rfl))
    have Z1094 : n0 ≤ h1092.size := Nat.le_trans Z1076 (Nat.le_of_eq W1092.size.symm)
    have N1092 := Fr.snoc X1092 N1072 gq_gs
    have Vw1092 : own_Ints Z h1092 gs (own_v1095 x0 x1 x2 y0 y1 y2) := V1092
    refine own_pA T1092 m 146 #[.val (.ref a0), .val (.int ((0:Int32) + (own_at (own_v524 x0 x1 x2 y0 y1 y2) (own_at [x0, x1, x2] y0)))), .val (.int (0:Int32)), .val (.int y0), .val (.int (own_at [x0, x1, x2] y0))] [(.ref a0)] (fun t k => ?_) ?_
    ·exact XS.aloadN X1092.here hx rfl (D d4_145) rfl rfl k
    have F1097 := ((F1067.other W1072 (Or.inl nq_a0_gr)).other W1092 (Or.inl nq_a0_gs))
    refine own_getF X1092 hx hZ hown (host := "") (Or.inl (own_h hw 15 rfl)) Via.refl e1092 F1097 rfl rfl (D d4_146) (fun T1096 X1096 e1096 => ?_)
    refine own_pA T1096 m 150 #[.val (.ref a0), .val (.int ((0:Int32) + (own_at (own_v524 x0 x1 x2 y0 y1 y2) (own_at [x0, x1, x2] y0)))), .val (.int (0:Int32)), .val (.int y0), .val (.int (own_at [x0, x1, x2] y0))] [(.ref a0), (.ref gr)] (fun t k => ?_) ?_
    ·exact XS.aloadN X1096.here hx rfl (D d4_149) rfl rfl k
    have F1099 := (F1088.other W1092 (Or.inl nq_a0_gs))
    refine own_getF X1096 hx hZ hown (host := "") (Or.inl (own_h hw 19 rfl)) Via.refl e1096 F1099 rfl rfl (D d4_150) (fun T1098 X1098 e1098 => ?_)
    have hbn1101 : own_In (own_at [x0, x1, x2] y0) (own_v1095 x0 x1 x2 y0 y1 y2).length := hl1100 hs28_2 hs28_4
    refine own_pA T1098 m 157 #[.val (.ref a0), .val (.int ((0:Int32) + (own_at (own_v524 x0 x1 x2 y0 y1 y2) (own_at [x0, x1, x2] y0)))), .val (.int (0:Int32)), .val (.int y0), .val (.int (own_at [x0, x1, x2] y0))] [(.int y0), (.int (own_at (own_v1095 x0 x1 x2 y0 y1 y2) (own_at [x0, x1, x2] y0))), (.ref gr)] (fun t k => ?_) ?_
    ·refine XS.iload X1098.here hx rfl (D d4_153) rfl ?_
     refine own_iaload X1098 hx hZ e1098 Vw1092 hbn1101 rfl rfl (D d4_155) ?_
     exact XS.iloadN X1098.here hx rfl (D d4_156) rfl k
    have F1103 := (Vw1072.other W1092 nq_gr_gs)
    have hbn1105 : own_In (own_at (own_v1095 x0 x1 x2 y0 y1 y2) (own_at [x0, x1, x2] y0)) (own_v1077 x0 x1 x2 y0 y1 y2).length := hl1104 hs28_2 hs28_4
    refine own_iastG X1098 hx hZ e1098 F1103 hbn1105 rfl rfl (D d4_157) (fun T1102 h1102 X1102 e1102 W1102 V1102 => ?_)
    have Kp1102 : Keep h0 h1102 [a0, gr, gl, gs] := Kp1092.wr W1102 (Or.inl (List.mem_of_getElem? (i := 1) rfl))
    have Z1106 : n0 ≤ h1102.size := Nat.le_trans Z1094 (Nat.le_of_eq W1102.size.symm)
    have N1102 := Fr.snoc X1102 N1092 gq_gr
    have Vw1102 : own_Ints Z h1102 gr (own_v1107 x0 x1 x2 y0 y1 y2) := V1102
    refine own_pA T1102 m 165 #[.val (.ref a0), .val (.int ((0:Int32) + (own_at (own_v524 x0 x1 x2 y0 y1 y2) (own_at [x0, x1, x2] y0)))), .val (.int (-1:Int32)), .val (.int y0), .val (.int (own_at [x0, x1, x2] y0))] [(.ref a0)] (fun t k => ?_) ?_
    ·refine XS.iinc X1102.here hx rfl (D d4_158) rfl (l' := #[.val (.ref a0), .val (.int ((0:Int32) + (own_at (own_v524 x0 x1 x2 y0 y1 y2) (own_at [x0, x1, x2] y0)))), .val (.int (-1:Int32)), .val (.int y0), .val (.int (own_at [x0, x1, x2] y0))]) rfl ?_
     refine XS.goto X1102.here hx rfl (pc0 := 161) (pc' := 115) rfl (D d4_161) (by decide) (by decide) ?_
     refine XS.iloadN X1102.here hx rfl (D d4_115) rfl ?_
     refine XS.ifYes X1102.here hx rfl (pc0 := 116) (pc' := 164) rfl (D d4_116) rfl (XT.i0_lt_t (by decide)) (by decide) (by decide) ?_
     exact XS.aloadN X1102.here hx rfl (D d4_164) rfl rfl k
    have F1109 := ((((((F1016.other W1032 (Or.inl nq_a0_gs)).other W1042 (Or.inl nq_a0_gr)).other W1062 (Or.inl nq_a0_gs)).other W1072 (Or.inl nq_a0_gr)).other W1092 (Or.inl nq_a0_gs)).other W1102 (Or.inl nq_a0_gr))
    refine own_getF X1102 hx hZ hown (host := "") (Or.inl (own_h hw 33 rfl)) Via.refl e1102 F1109 rfl rfl (D d4_165) (fun T1108 X1108 e1108 => ?_)
    have hv1110 : (1:Int32) = f4m3 x0 x1 x2 y0 y1 y2 := by simp only [f4m3, if_neg hs28_2, if_neg hs28_4]
    have F1111 := ((F1083.other W1092 (Or.inl nq_a0_gs)).other W1102 (Or.inl nq_a0_gr))
    have F1112 := ((F1079.other W1092 (Or.inl nq_a0_gs)).other W1102 (Or.inl nq_a0_gr))
    have F1113 := (F1097.other W1102 (Or.inl nq_a0_gr))
    have F1114 := (((((((F1004.other W1012 (Or.inl nq_a0_gs)).other W1032 (Or.inl nq_a0_gs)).other W1042 (Or.inl nq_a0_gr)).other W1062 (Or.inl nq_a0_gs)).other W1072 (Or.inl nq_a0_gr)).other W1092 (Or.inl nq_a0_gs)).other W1102 (Or.inl nq_a0_gr))
    have F1115 := (F1099.other W1102 (Or.inl nq_a0_gr))
    have F1116 := ((((((F1018.other W1032 (Or.inl nq_a0_gs)).other W1042 (Or.inl nq_a0_gr)).other W1062 (Or.inl nq_a0_gs)).other W1072 (Or.inl nq_a0_gr)).other W1092 (Or.inl nq_a0_gs)).other W1102 (Or.inl nq_a0_gr))
    have F1117 := (((((((F1005.other W1012 nq_gl_gs).other W1032 nq_gl_gs).other W1042 (Ne.symm nq_gr_gl)).other W1062 nq_gl_gs).other W1072 (Ne.symm nq_gr_gl)).other W1092 nq_gl_gs).other W1102 (Ne.symm nq_gr_gl))
    have F1118 := (Vw1092.other W1102 (Ne.symm nq_gr_gs))
    exact own_end X1108 (BodyLoose.notSynchronized Bd) (fun h => by rw [Bd.returns] at h; cases h) (v := some (.int (1:Int32))) (fun fs hr => retOut X1108 hx Bd.returns rfl (by simp [Value.isRef, FieldType.isReference]) (D d4_168) hr) (by show Q4m3 Z a0 la mv gr gl gs x0 x1 x2 y0 y1 y2 h0 n0 _ T1108.heap _; rw [e1108]; exact ⟨(congrArg (fun z => some (Value.int z)) hv1110), N1102, Kp1102, (by first | exact F1111 | (simp only [if_neg hs28_2, if_neg hs28_4]; exact F1111)), (by first | exact F1112 | (simp only [if_neg hs28_2, if_neg hs28_4]; exact F1112)), (by first | exact F1113 | (simp only [if_neg hs28_2, if_neg hs28_4]; exact F1113)), (by first | exact F1114 | (simp only [if_neg hs28_2, if_neg hs28_4]; exact F1114)), (by first | exact F1115 | (simp only [if_neg hs28_2, if_neg hs28_4]; exact F1115)), (by first | exact F1116 | (simp only [if_neg hs28_2, if_neg hs28_4]; exact F1116)), (by simp only [g4m3_gc, if_neg hs28_2, if_neg hs28_4]; exact F1109), (by simp only [g4m3_gr, if_neg hs28_2, if_neg hs28_4]; exact Vw1102), (by simp only [g4m3_gl, if_neg hs28_2, if_neg hs28_4]; exact F1117), (by simp only [g4m3_gs, if_neg hs28_2, if_neg hs28_4]; exact F1118)⟩) (by decide) (by decide)
theorem own_pn1 : plainName "com/example/spare_calculus/sparecalculus/bisim/LabelGroupsGroupPinLaw" = true := by first | (simp [plainName, overriddenIn]; done) | decide +kernel
theorem d5_0 : decode method_2_code 0 = .ok (.iload_n 0, 1) := by decide +kernel
theorem d5_1 : decode method_2_code 1 = .ok (.iload_n 1, 1) := by decide +kernel
theorem d5_2 : decode method_2_code 2 = .ok (.if_icmp .ge 7, 3) := by decide +kernel
theorem d5_5 : decode method_2_code 5 = .ok (.iconst 1, 1) := by decide +kernel
theorem d5_6 : decode method_2_code 6 = .ok (.goto 4, 3) := by decide +kernel
theorem d5_9 : decode method_2_code 9 = .ok (.iconst 0, 1) := by decide +kernel
theorem d5_10 : decode method_2_code 10 = .ok (.ireturn, 1) := by decide +kernel
theorem ef5 (m : MethodId) (p0 : Int32) (p1 : Int32) : entryFrame m #[(.int p0), (.int p1)] 2 = mkF m 0 #[iv p0, iv p1] [] := by first | (simp [entryFrame, mkF, argsToLocals, Value.category]; done) | rfl
def f5 (p0 : Int32) (p1 : Int32) : Int32 := (let w5_1 : Int32 := (if p0 < p1 then (1:Int32) else (0:Int32)); w5_1)
def Q5 (Z : State) (p0 : Int32) (p1 : Int32)  (h0 : Heap) (n0 : Nat) (v : Option Value) (h : Heap) (L : List Loc) : Prop := v = some (.int (f5 p0 p1)) ∧ Fr n0 L ∧ h = h0
set_option maxRecDepth 65536 in
set_option maxHeartbeats 40000000 in
theorem rm5 (l : Launch) (Z : State) (aZ : Array Value) (hw : ∀ d ∈ tables_1, d.before aZ Z = true) (ws : List Jvm.Cond) (p0 : Int32) (p1 : Int32)  (h0 : Heap) (n0 : Nat) (Z0 : n0 ≤ h0.size)  :
    MetFree l (⟨"com/example/spare_calculus/sparecalculus/bisim/LabelGroupsGroupPinLaw", "lt", "(II)I"⟩ : MethodName) (head1 (Jvm.Cond.code (⟨"com/example/spare_calculus/sparecalculus/bisim/LabelGroupsGroupPinLaw", "lt", "(II)I"⟩ : MethodName) method_2_code 2 (some .int) :: ws) ({ frames := 0, cells := 0, slots := 0, locals := 0 } : Room)) (fun a U => a = #[(.int p0), (.int p1)] ∧ Z.Warmed39 U.vm ∧ U.heap = h0) (fun _ _ _ _ _ => True) (fun _ U o U' => ∃ v L, o = .returned v ∧ Q5 Z p0 p1 h0 n0 v U'.heap L ∧ FrameEnd U o U' L ({ frames := 0, cells := 0, slots := 0, locals := 0 } : Room).cells ({ frames := 0, cells := 0, slots := 0, locals := 0 } : Room).slots) := by
  refine MetFree.of_bodySF (plainFor_of_name own_pn1) hisR ?_
  intro p e s m args below meth c s₁ Bd hml0 hP hK
  obtain ⟨rfl, hZ, hh⟩ := hP
  have hx := Bd.exec
  have hby := Bd.bytes
  have hml : c.maxLocals = 2 := hml0
  have hown : s.vm.findClass "com/example/spare_calculus/sparecalculus/bisim/LabelGroupsGroupPinLaw" = some m.cls := findClass_of_methodNamed Bd.named
  have hnm := (name_of_methodNamed Bd.named Bd.method).1
  have X0 : Stand p l e ({ frames := 0, cells := 0, slots := 0, locals := 0 } : Room) s m #[(.int p0), (.int p1)] below meth c s₁ [] 0 0 := Stand.of_body Bd
  have e0 : s₁.heap = h0 := by rw [← hh, Bd.state]; rfl
  have N0 := Fr.nil n0
  have D : ∀ {pc : Nat} {r : Except ClassFile.DecodeError (ClassFile.Instr × Nat)}, decode method_2_code pc = r → decode c.code pc = r := fun h => hb hby h
  show own_Goes p e below s (Q5 Z p0 p1 h0 n0) ({ frames := 0, cells := 0, slots := 0, locals := 0 } : Room).cells ({ frames := 0, cells := 0, slots := 0, locals := 0 } : Room).slots _
  refine own_pre (fun t k => castTop (ef5 m p0 p1) k) ?_
  refine own_pA s₁ m 2 #[iv p0, iv p1] [(.int p1), (.int p0)] (fun t k => ?_) ?_
  ·refine XS.iloadN X0.here hx rfl (D d5_0) rfl ?_
   exact XS.iloadN X0.here hx rfl (D d5_1) rfl k
  obtain ⟨w5_1, hw5_1⟩ : ∃ z : Int32, z = (if p0 < p1 then (1:Int32) else (0:Int32)) := ⟨_, rfl⟩
  refine own_pre (A := s₁.setTop (mkF m 10 #[iv p0, iv p1] [(.int w5_1)])) (fun t k => ?_) ?_
  ·by_cases hm2_1 : p0 < p1
   ·refine XS.icmpNo X0.here hx rfl (D d5_2) rfl (XT.ii_ge_f hm2_1) ?_
    refine XS.iconst X0.here hx rfl (D d5_5) ?_
    refine XS.goto X0.here hx rfl (pc0 := 6) (pc' := 10) rfl (D d5_6) (by decide) (by decide) ?_
    rw [hw5_1.trans (if_pos hm2_1)] at k
    exact k
   ·refine XS.icmpYes X0.here hx rfl (pc0 := 2) (pc' := 9) rfl (D d5_2) rfl (XT.ii_ge_t hm2_1) (by decide) (by decide) ?_
    refine XS.iconst X0.here hx rfl (D d5_9) ?_
    rw [hw5_1.trans (if_neg hm2_1)] at k
    exact k
  have hv1119 : w5_1 = f5 p0 p1 := by subst hw5_1; rfl
  exact own_end X0 (BodyLoose.notSynchronized Bd) (fun h => by rw [Bd.returns] at h; cases h) (v := some (.int w5_1)) (fun fs hr => retOut X0 hx Bd.returns rfl (by simp [Value.isRef, FieldType.isReference]) (D d5_10) hr) (by show Q5 Z p0 p1 h0 n0 _ s₁.heap _; rw [e0]; exact ⟨(congrArg (fun z => some (Value.int z)) hv1119), N0, rfl⟩) (by decide) (by decide)
theorem d6_0 : decode method_3_code 0 = .ok (.iload_n 0, 1) := by decide +kernel
theorem d6_1 : decode method_3_code 1 = .ok (.iload_n 1, 1) := by decide +kernel
theorem d6_2 : decode method_3_code 2 = .ok (.if_icmp .ne 7, 3) := by decide +kernel
theorem d6_5 : decode method_3_code 5 = .ok (.iconst 1, 1) := by decide +kernel
theorem d6_6 : decode method_3_code 6 = .ok (.goto 4, 3) := by decide +kernel
theorem d6_9 : decode method_3_code 9 = .ok (.iconst 0, 1) := by decide +kernel
theorem d6_10 : decode method_3_code 10 = .ok (.ireturn, 1) := by decide +kernel
theorem ef6 (m : MethodId) (p0 : Int32) (p1 : Int32) : entryFrame m #[(.int p0), (.int p1)] 2 = mkF m 0 #[iv p0, iv p1] [] := by first | (simp [entryFrame, mkF, argsToLocals, Value.category]; done) | rfl
def f6 (p0 : Int32) (p1 : Int32) : Int32 := (let w6_1 : Int32 := (if p0 = p1 then (1:Int32) else (0:Int32)); w6_1)
def Q6 (Z : State) (p0 : Int32) (p1 : Int32)  (h0 : Heap) (n0 : Nat) (v : Option Value) (h : Heap) (L : List Loc) : Prop := v = some (.int (f6 p0 p1)) ∧ Fr n0 L ∧ h = h0
set_option maxRecDepth 65536 in
set_option maxHeartbeats 40000000 in
theorem rm6 (l : Launch) (Z : State) (aZ : Array Value) (hw : ∀ d ∈ tables_1, d.before aZ Z = true) (ws : List Jvm.Cond) (p0 : Int32) (p1 : Int32)  (h0 : Heap) (n0 : Nat) (Z0 : n0 ≤ h0.size)  :
    MetFree l (⟨"com/example/spare_calculus/sparecalculus/bisim/LabelGroupsGroupPinLaw", "eq", "(II)I"⟩ : MethodName) (head1 (Jvm.Cond.code (⟨"com/example/spare_calculus/sparecalculus/bisim/LabelGroupsGroupPinLaw", "eq", "(II)I"⟩ : MethodName) method_3_code 2 (some .int) :: ws) ({ frames := 0, cells := 0, slots := 0, locals := 0 } : Room)) (fun a U => a = #[(.int p0), (.int p1)] ∧ Z.Warmed39 U.vm ∧ U.heap = h0) (fun _ _ _ _ _ => True) (fun _ U o U' => ∃ v L, o = .returned v ∧ Q6 Z p0 p1 h0 n0 v U'.heap L ∧ FrameEnd U o U' L ({ frames := 0, cells := 0, slots := 0, locals := 0 } : Room).cells ({ frames := 0, cells := 0, slots := 0, locals := 0 } : Room).slots) := by
  refine MetFree.of_bodySF (plainFor_of_name own_pn1) hisR ?_
  intro p e s m args below meth c s₁ Bd hml0 hP hK
  obtain ⟨rfl, hZ, hh⟩ := hP
  have hx := Bd.exec
  have hby := Bd.bytes
  have hml : c.maxLocals = 2 := hml0
  have hown : s.vm.findClass "com/example/spare_calculus/sparecalculus/bisim/LabelGroupsGroupPinLaw" = some m.cls := findClass_of_methodNamed Bd.named
  have hnm := (name_of_methodNamed Bd.named Bd.method).1
  have X0 : Stand p l e ({ frames := 0, cells := 0, slots := 0, locals := 0 } : Room) s m #[(.int p0), (.int p1)] below meth c s₁ [] 0 0 := Stand.of_body Bd
  have e0 : s₁.heap = h0 := by rw [← hh, Bd.state]; rfl
  have N0 := Fr.nil n0
  have D : ∀ {pc : Nat} {r : Except ClassFile.DecodeError (ClassFile.Instr × Nat)}, decode method_3_code pc = r → decode c.code pc = r := fun h => hb hby h
  show own_Goes p e below s (Q6 Z p0 p1 h0 n0) ({ frames := 0, cells := 0, slots := 0, locals := 0 } : Room).cells ({ frames := 0, cells := 0, slots := 0, locals := 0 } : Room).slots _
  refine own_pre (fun t k => castTop (ef6 m p0 p1) k) ?_
  refine own_pA s₁ m 2 #[iv p0, iv p1] [(.int p1), (.int p0)] (fun t k => ?_) ?_
  ·refine XS.iloadN X0.here hx rfl (D d6_0) rfl ?_
   exact XS.iloadN X0.here hx rfl (D d6_1) rfl k
  obtain ⟨w6_1, hw6_1⟩ : ∃ z : Int32, z = (if p0 = p1 then (1:Int32) else (0:Int32)) := ⟨_, rfl⟩
  refine own_pre (A := s₁.setTop (mkF m 10 #[iv p0, iv p1] [(.int w6_1)])) (fun t k => ?_) ?_
  ·by_cases hm2_1 : p0 = p1
   ·refine XS.icmpNo X0.here hx rfl (D d6_2) rfl (XT.ii_ne_f hm2_1) ?_
    refine XS.iconst X0.here hx rfl (D d6_5) ?_
    refine XS.goto X0.here hx rfl (pc0 := 6) (pc' := 10) rfl (D d6_6) (by decide) (by decide) ?_
    rw [hw6_1.trans (if_pos hm2_1)] at k
    exact k
   ·refine XS.icmpYes X0.here hx rfl (pc0 := 2) (pc' := 9) rfl (D d6_2) rfl (XT.ii_ne_t hm2_1) (by decide) (by decide) ?_
    refine XS.iconst X0.here hx rfl (D d6_9) ?_
    rw [hw6_1.trans (if_neg hm2_1)] at k
    exact k
  have hv1120 : w6_1 = f6 p0 p1 := by subst hw6_1; rfl
  exact own_end X0 (BodyLoose.notSynchronized Bd) (fun h => by rw [Bd.returns] at h; cases h) (v := some (.int w6_1)) (fun fs hr => retOut X0 hx Bd.returns rfl (by simp [Value.isRef, FieldType.isReference]) (D d6_10) hr) (by show Q6 Z p0 p1 h0 n0 _ s₁.heap _; rw [e0]; exact ⟨(congrArg (fun z => some (Value.int z)) hv1120), N0, rfl⟩) (by decide) (by decide)
theorem d11_0 : decode jdk_29_method_65_code 0 = .ok (.iload_n 0, 1) := by decide +kernel
theorem d11_1 : decode jdk_29_method_65_code 1 = .ok (.iload_n 1, 1) := by decide +kernel
theorem d11_2 : decode jdk_29_method_65_code 2 = .ok (.if_icmp .lt 7, 3) := by decide +kernel
theorem d11_5 : decode jdk_29_method_65_code 5 = .ok (.iload_n 0, 1) := by decide +kernel
theorem d11_6 : decode jdk_29_method_65_code 6 = .ok (.goto 4, 3) := by decide +kernel
theorem d11_9 : decode jdk_29_method_65_code 9 = .ok (.iload_n 1, 1) := by decide +kernel
theorem d11_10 : decode jdk_29_method_65_code 10 = .ok (.ireturn, 1) := by decide +kernel
theorem ef11 (m : MethodId) (p0 : Int32) (p1 : Int32) : entryFrame m #[(.int p0), (.int p1)] 2 = mkF m 0 #[iv p0, iv p1] [] := by first | (simp [entryFrame, mkF, argsToLocals, Value.category]; done) | rfl
def f11 (p0 : Int32) (p1 : Int32) : Int32 := (let w11_1 : Int32 := (if p0 < p1 then p1 else p0); w11_1)
def Q11 (Z : State) (p0 : Int32) (p1 : Int32)  (h0 : Heap) (n0 : Nat) (v : Option Value) (h : Heap) (L : List Loc) : Prop := v = some (.int (f11 p0 p1)) ∧ Fr n0 L ∧ h = h0
set_option maxRecDepth 65536 in
set_option maxHeartbeats 40000000 in
theorem rm11 (l : Launch) (Z : State) (aZ : Array Value) (hw : ∀ d ∈ tables_1, d.before aZ Z = true) (ws : List Jvm.Cond) (p0 : Int32) (p1 : Int32)  (h0 : Heap) (n0 : Nat) (Z0 : n0 ≤ h0.size)  :
    MetFree l (⟨"java/lang/Math", "max", "(II)I"⟩ : MethodName) (head1 (Jvm.Cond.code (⟨"java/lang/Math", "max", "(II)I"⟩ : MethodName) jdk_29_method_65_code 2 (some .int) :: ws) ({ frames := 0, cells := 0, slots := 0, locals := 0 } : Room)) (fun a U => a = #[(.int p0), (.int p1)] ∧ Z.Warmed39 U.vm ∧ U.heap = h0) (fun _ _ _ _ _ => True) (fun _ U o U' => ∃ v L, o = .returned v ∧ Q11 Z p0 p1 h0 n0 v U'.heap L ∧ FrameEnd U o U' L ({ frames := 0, cells := 0, slots := 0, locals := 0 } : Room).cells ({ frames := 0, cells := 0, slots := 0, locals := 0 } : Room).slots) := by
  refine MetFree.of_bodySF (Jvm.Free.JP.mathPlain rfl (by decide +kernel)) hisR ?_
  intro p e s m args below meth c s₁ Bd hml0 hP hK
  obtain ⟨rfl, hZ, hh⟩ := hP
  have hx := Bd.exec
  have hby := Bd.bytes
  have hml : c.maxLocals = 2 := hml0
  have hown : s.vm.findClass "java/lang/Math" = some m.cls := findClass_of_methodNamed Bd.named
  have hnm := (name_of_methodNamed Bd.named Bd.method).1
  have X0 : Stand p l e ({ frames := 0, cells := 0, slots := 0, locals := 0 } : Room) s m #[(.int p0), (.int p1)] below meth c s₁ [] 0 0 := Stand.of_body Bd
  have e0 : s₁.heap = h0 := by rw [← hh, Bd.state]; rfl
  have N0 := Fr.nil n0
  have D : ∀ {pc : Nat} {r : Except ClassFile.DecodeError (ClassFile.Instr × Nat)}, decode jdk_29_method_65_code pc = r → decode c.code pc = r := fun h => hb hby h
  show own_Goes p e below s (Q11 Z p0 p1 h0 n0) ({ frames := 0, cells := 0, slots := 0, locals := 0 } : Room).cells ({ frames := 0, cells := 0, slots := 0, locals := 0 } : Room).slots _
  refine own_pre (fun t k => castTop (ef11 m p0 p1) k) ?_
  refine own_pA s₁ m 2 #[iv p0, iv p1] [(.int p1), (.int p0)] (fun t k => ?_) ?_
  ·refine XS.iloadN X0.here hx rfl (D d11_0) rfl ?_
   exact XS.iloadN X0.here hx rfl (D d11_1) rfl k
  obtain ⟨w11_1, hw11_1⟩ : ∃ z : Int32, z = (if p0 < p1 then p1 else p0) := ⟨_, rfl⟩
  refine own_pre (A := s₁.setTop (mkF m 10 #[iv p0, iv p1] [(.int w11_1)])) (fun t k => ?_) ?_
  ·by_cases hm2_1 : p0 < p1
   ·refine XS.icmpYes X0.here hx rfl (pc0 := 2) (pc' := 9) rfl (D d11_2) rfl (XT.ii_lt_t hm2_1) (by decide) (by decide) ?_
    refine XS.iloadN X0.here hx rfl (D d11_9) rfl ?_
    rw [hw11_1.trans (if_pos hm2_1)] at k
    exact k
   ·refine XS.icmpNo X0.here hx rfl (D d11_2) rfl (XT.ii_lt_f hm2_1) ?_
    refine XS.iloadN X0.here hx rfl (D d11_5) rfl ?_
    refine XS.goto X0.here hx rfl (pc0 := 6) (pc' := 10) rfl (D d11_6) (by decide) (by decide) ?_
    rw [hw11_1.trans (if_neg hm2_1)] at k
    exact k
  have hv1121 : w11_1 = f11 p0 p1 := by subst hw11_1; rfl
  exact own_end X0 (BodyLoose.notSynchronized Bd) (fun h => by rw [Bd.returns] at h; cases h) (v := some (.int w11_1)) (fun fs hr => retOut X0 hx Bd.returns rfl (by simp [Value.isRef, FieldType.isReference]) (D d11_10) hr) (by show Q11 Z p0 p1 h0 n0 _ s₁.heap _; rw [e0]; exact ⟨(congrArg (fun z => some (Value.int z)) hv1121), N0, rfl⟩) (by decide) (by decide)
theorem d7_0 : decode prog_15_method_7_code 0 = .ok (.aload_n 0, 1) := by decide +kernel
theorem d7_1 : decode prog_15_method_7_code 1 = .ok (.getfield 16, 3) := by decide +kernel
theorem d7_4 : decode prog_15_method_7_code 4 = .ok (.iload_n 1, 1) := by decide +kernel
theorem d7_5 : decode prog_15_method_7_code 5 = .ok (.iaload, 1) := by decide +kernel
theorem d7_6 : decode prog_15_method_7_code 6 = .ok (.ireturn, 1) := by decide +kernel
theorem ef7 (m : MethodId) (a0 : Addr) (p1 : Int32) : entryFrame m #[(.ref a0), (.int p1)] 2 = mkF m 0 #[rv a0, iv p1] [] := by first | (simp [entryFrame, mkF, argsToLocals, Value.category]; done) | rfl
def f7 (p1 : Int32) (rl : List Int32) : Int32 := (own_at rl p1)
def Q7 (Z : State) (a0 : Addr) (p1 : Int32) (gr : Addr) (rl : List Int32) (h0 : Heap) (n0 : Nat) (v : Option Value) (h : Heap) (L : List Loc) : Prop := v = some (.int (f7 p1 rl)) ∧ Fr n0 L ∧ h = h0
set_option maxRecDepth 65536 in
set_option maxHeartbeats 40000000 in
theorem rm7 (l : Launch) (Z : State) (aZ : Array Value) (hw : ∀ d ∈ tables_1, d.before aZ Z = true) (ws : List Jvm.Cond) (a0 : Addr) (p1 : Int32) (gr : Addr) (rl : List Int32) (h0 : Heap) (n0 : Nat) (Z0 : n0 ≤ h0.size) (P0 : Fld Z h0 a0 "com/example/spare_calculus/sparecalculus/bisim/LabelGroups" "grouped" "[I" (.ref gr)) (P1 : own_Ints Z h0 gr rl) (hin : own_In p1 rl.length) :
    MetFree l (⟨"com/example/spare_calculus/sparecalculus/bisim/LabelGroups", "move", "(I)I"⟩ : MethodName) (head1 (Jvm.Cond.code (⟨"com/example/spare_calculus/sparecalculus/bisim/LabelGroups", "move", "(I)I"⟩ : MethodName) prog_15_method_7_code 2 (some .int) :: ws) ({ frames := 0, cells := 0, slots := 0, locals := 0 } : Room)) (fun a U => a = #[(.ref a0), (.int p1)] ∧ Z.Warmed39 U.vm ∧ U.heap = h0) (fun _ _ _ _ _ => True) (fun _ U o U' => ∃ v L, o = .returned v ∧ Q7 Z a0 p1 gr rl h0 n0 v U'.heap L ∧ FrameEnd U o U' L ({ frames := 0, cells := 0, slots := 0, locals := 0 } : Room).cells ({ frames := 0, cells := 0, slots := 0, locals := 0 } : Room).slots) := by
  refine MetFree.of_bodySF (plainFor_of_name own_pn0) hisR ?_
  intro p e s m args below meth c s₁ Bd hml0 hP hK
  obtain ⟨rfl, hZ, hh⟩ := hP
  have hx := Bd.exec
  have hby := Bd.bytes
  have hml : c.maxLocals = 2 := hml0
  have hown : s.vm.findClass "com/example/spare_calculus/sparecalculus/bisim/LabelGroups" = some m.cls := findClass_of_methodNamed Bd.named
  have hnm := (name_of_methodNamed Bd.named Bd.method).1
  have X0 : Stand p l e ({ frames := 0, cells := 0, slots := 0, locals := 0 } : Room) s m #[(.ref a0), (.int p1)] below meth c s₁ [] 0 0 := Stand.of_body Bd
  have e0 : s₁.heap = h0 := by rw [← hh, Bd.state]; rfl
  have N0 := Fr.nil n0
  have D : ∀ {pc : Nat} {r : Except ClassFile.DecodeError (ClassFile.Instr × Nat)}, decode prog_15_method_7_code pc = r → decode c.code pc = r := fun h => hb hby h
  show own_Goes p e below s (Q7 Z a0 p1 gr rl h0 n0) ({ frames := 0, cells := 0, slots := 0, locals := 0 } : Room).cells ({ frames := 0, cells := 0, slots := 0, locals := 0 } : Room).slots _
  refine own_pre (fun t k => castTop (ef7 m a0 p1) k) ?_
  refine own_pA s₁ m 1 #[rv a0, iv p1] [(.ref a0)] (fun t k => ?_) ?_
  ·exact XS.aloadN X0.here hx rfl (D d7_0) rfl rfl k
  refine own_getF X0 hx hZ hown (host := "") (Or.inl (own_h hw 15 rfl)) Via.refl e0 P0 rfl rfl (D d7_1) (fun T1122 X1122 e1122 => ?_)
  have hbn1123 : own_In p1 rl.length := hin
  refine own_pA T1122 m 6 #[rv a0, iv p1] [(.int (own_at rl p1))] (fun t k => ?_) ?_
  ·refine XS.iloadN X1122.here hx rfl (D d7_4) rfl ?_
   exact own_iaload X1122 hx hZ e1122 P1 hbn1123 rfl rfl (D d7_5) k
  have hv1124 : (own_at rl p1) = f7 p1 rl := by rfl
  exact own_end X1122 (BodyLoose.notSynchronized Bd) (fun h => by rw [Bd.returns] at h; cases h) (v := some (.int (own_at rl p1))) (fun fs hr => retOut X1122 hx Bd.returns rfl (by simp [Value.isRef, FieldType.isReference]) (D d7_6) hr) (by show Q7 Z a0 p1 gr rl h0 n0 _ T1122.heap _; rw [e1122]; exact ⟨(congrArg (fun z => some (Value.int z)) hv1124), N0, rfl⟩) (by decide) (by decide)
theorem d8_0 : decode prog_15_method_4_code 0 = .ok (.aload_n 0, 1) := by decide +kernel
theorem d8_1 : decode prog_15_method_4_code 1 = .ok (.getfield 19, 3) := by decide +kernel
theorem d8_4 : decode prog_15_method_4_code 4 = .ok (.iload_n 1, 1) := by decide +kernel
theorem d8_5 : decode prog_15_method_4_code 5 = .ok (.iaload, 1) := by decide +kernel
theorem d8_6 : decode prog_15_method_4_code 6 = .ok (.ireturn, 1) := by decide +kernel
theorem ef8 (m : MethodId) (a0 : Addr) (p1 : Int32) : entryFrame m #[(.ref a0), (.int p1)] 2 = mkF m 0 #[rv a0, iv p1] [] := by first | (simp [entryFrame, mkF, argsToLocals, Value.category]; done) | rfl
def f8 (p1 : Int32) (ll : List Int32) : Int32 := (own_at ll p1)
def Q8 (Z : State) (a0 : Addr) (p1 : Int32) (gl : Addr) (ll : List Int32) (h0 : Heap) (n0 : Nat) (v : Option Value) (h : Heap) (L : List Loc) : Prop := v = some (.int (f8 p1 ll)) ∧ Fr n0 L ∧ h = h0
set_option maxRecDepth 65536 in
set_option maxHeartbeats 40000000 in
theorem rm8 (l : Launch) (Z : State) (aZ : Array Value) (hw : ∀ d ∈ tables_1, d.before aZ Z = true) (ws : List Jvm.Cond) (a0 : Addr) (p1 : Int32) (gl : Addr) (ll : List Int32) (h0 : Heap) (n0 : Nat) (Z0 : n0 ≤ h0.size) (P0 : Fld Z h0 a0 "com/example/spare_calculus/sparecalculus/bisim/LabelGroups" "groupLabels" "[I" (.ref gl)) (P1 : own_Ints Z h0 gl ll) (hin : own_In p1 ll.length) :
    MetFree l (⟨"com/example/spare_calculus/sparecalculus/bisim/LabelGroups", "label", "(I)I"⟩ : MethodName) (head1 (Jvm.Cond.code (⟨"com/example/spare_calculus/sparecalculus/bisim/LabelGroups", "label", "(I)I"⟩ : MethodName) prog_15_method_4_code 2 (some .int) :: ws) ({ frames := 0, cells := 0, slots := 0, locals := 0 } : Room)) (fun a U => a = #[(.ref a0), (.int p1)] ∧ Z.Warmed39 U.vm ∧ U.heap = h0) (fun _ _ _ _ _ => True) (fun _ U o U' => ∃ v L, o = .returned v ∧ Q8 Z a0 p1 gl ll h0 n0 v U'.heap L ∧ FrameEnd U o U' L ({ frames := 0, cells := 0, slots := 0, locals := 0 } : Room).cells ({ frames := 0, cells := 0, slots := 0, locals := 0 } : Room).slots) := by
  refine MetFree.of_bodySF (plainFor_of_name own_pn0) hisR ?_
  intro p e s m args below meth c s₁ Bd hml0 hP hK
  obtain ⟨rfl, hZ, hh⟩ := hP
  have hx := Bd.exec
  have hby := Bd.bytes
  have hml : c.maxLocals = 2 := hml0
  have hown : s.vm.findClass "com/example/spare_calculus/sparecalculus/bisim/LabelGroups" = some m.cls := findClass_of_methodNamed Bd.named
  have hnm := (name_of_methodNamed Bd.named Bd.method).1
  have X0 : Stand p l e ({ frames := 0, cells := 0, slots := 0, locals := 0 } : Room) s m #[(.ref a0), (.int p1)] below meth c s₁ [] 0 0 := Stand.of_body Bd
  have e0 : s₁.heap = h0 := by rw [← hh, Bd.state]; rfl
  have N0 := Fr.nil n0
  have D : ∀ {pc : Nat} {r : Except ClassFile.DecodeError (ClassFile.Instr × Nat)}, decode prog_15_method_4_code pc = r → decode c.code pc = r := fun h => hb hby h
  show own_Goes p e below s (Q8 Z a0 p1 gl ll h0 n0) ({ frames := 0, cells := 0, slots := 0, locals := 0 } : Room).cells ({ frames := 0, cells := 0, slots := 0, locals := 0 } : Room).slots _
  refine own_pre (fun t k => castTop (ef8 m a0 p1) k) ?_
  refine own_pA s₁ m 1 #[rv a0, iv p1] [(.ref a0)] (fun t k => ?_) ?_
  ·exact XS.aloadN X0.here hx rfl (D d8_0) rfl rfl k
  refine own_getF X0 hx hZ hown (host := "") (Or.inl (own_h hw 17 rfl)) Via.refl e0 P0 rfl rfl (D d8_1) (fun T1125 X1125 e1125 => ?_)
  have hbn1126 : own_In p1 ll.length := hin
  refine own_pA T1125 m 6 #[rv a0, iv p1] [(.int (own_at ll p1))] (fun t k => ?_) ?_
  ·refine XS.iloadN X1125.here hx rfl (D d8_4) rfl ?_
   exact own_iaload X1125 hx hZ e1125 P1 hbn1126 rfl rfl (D d8_5) k
  have hv1127 : (own_at ll p1) = f8 p1 ll := by rfl
  exact own_end X1125 (BodyLoose.notSynchronized Bd) (fun h => by rw [Bd.returns] at h; cases h) (v := some (.int (own_at ll p1))) (fun fs hr => retOut X1125 hx Bd.returns rfl (by simp [Value.isRef, FieldType.isReference]) (D d8_6) hr) (by show Q8 Z a0 p1 gl ll h0 n0 _ T1125.heap _; rw [e1125]; exact ⟨(congrArg (fun z => some (Value.int z)) hv1127), N0, rfl⟩) (by decide) (by decide)
theorem d9_0 : decode prog_15_method_5_code 0 = .ok (.aload_n 0, 1) := by decide +kernel
theorem d9_1 : decode prog_15_method_5_code 1 = .ok (.getfield 22, 3) := by decide +kernel
theorem d9_4 : decode prog_15_method_5_code 4 = .ok (.aload_n 0, 1) := by decide +kernel
theorem d9_5 : decode prog_15_method_5_code 5 = .ok (.getfield 19, 3) := by decide +kernel
theorem d9_8 : decode prog_15_method_5_code 8 = .ok (.iload_n 1, 1) := by decide +kernel
theorem d9_9 : decode prog_15_method_5_code 9 = .ok (.iaload, 1) := by decide +kernel
theorem d9_10 : decode prog_15_method_5_code 10 = .ok (.iaload, 1) := by decide +kernel
theorem d9_11 : decode prog_15_method_5_code 11 = .ok (.ireturn, 1) := by decide +kernel
theorem ef9 (m : MethodId) (a0 : Addr) (p1 : Int32) : entryFrame m #[(.ref a0), (.int p1)] 2 = mkF m 0 #[rv a0, iv p1] [] := by first | (simp [entryFrame, mkF, argsToLocals, Value.category]; done) | rfl
def f9 (p1 : Int32) (ll : List Int32) (sl : List Int32) : Int32 := (own_at sl (own_at ll p1))
def Q9 (Z : State) (a0 : Addr) (p1 : Int32) (gl : Addr) (gs : Addr) (ll : List Int32) (sl : List Int32) (h0 : Heap) (n0 : Nat) (v : Option Value) (h : Heap) (L : List Loc) : Prop := v = some (.int (f9 p1 ll sl)) ∧ Fr n0 L ∧ h = h0
set_option maxRecDepth 65536 in
set_option maxHeartbeats 40000000 in
theorem rm9 (l : Launch) (Z : State) (aZ : Array Value) (hw : ∀ d ∈ tables_1, d.before aZ Z = true) (ws : List Jvm.Cond) (a0 : Addr) (p1 : Int32) (gl : Addr) (gs : Addr) (ll : List Int32) (sl : List Int32) (h0 : Heap) (n0 : Nat) (Z0 : n0 ≤ h0.size) (P0 : Fld Z h0 a0 "com/example/spare_calculus/sparecalculus/bisim/LabelGroups" "groupLabels" "[I" (.ref gl)) (P1 : Fld Z h0 a0 "com/example/spare_calculus/sparecalculus/bisim/LabelGroups" "groupStarts" "[I" (.ref gs)) (P2 : own_Ints Z h0 gl ll) (P3 : own_Ints Z h0 gs sl) (h1 : own_In p1 ll.length) (h2 : own_In (own_at ll p1) sl.length) :
    MetFree l (⟨"com/example/spare_calculus/sparecalculus/bisim/LabelGroups", "start", "(I)I"⟩ : MethodName) (head1 (Jvm.Cond.code (⟨"com/example/spare_calculus/sparecalculus/bisim/LabelGroups", "start", "(I)I"⟩ : MethodName) prog_15_method_5_code 2 (some .int) :: ws) ({ frames := 0, cells := 0, slots := 0, locals := 0 } : Room)) (fun a U => a = #[(.ref a0), (.int p1)] ∧ Z.Warmed39 U.vm ∧ U.heap = h0) (fun _ _ _ _ _ => True) (fun _ U o U' => ∃ v L, o = .returned v ∧ Q9 Z a0 p1 gl gs ll sl h0 n0 v U'.heap L ∧ FrameEnd U o U' L ({ frames := 0, cells := 0, slots := 0, locals := 0 } : Room).cells ({ frames := 0, cells := 0, slots := 0, locals := 0 } : Room).slots) := by
  refine MetFree.of_bodySF (plainFor_of_name own_pn0) hisR ?_
  intro p e s m args below meth c s₁ Bd hml0 hP hK
  obtain ⟨rfl, hZ, hh⟩ := hP
  have hx := Bd.exec
  have hby := Bd.bytes
  have hml : c.maxLocals = 2 := hml0
  have hown : s.vm.findClass "com/example/spare_calculus/sparecalculus/bisim/LabelGroups" = some m.cls := findClass_of_methodNamed Bd.named
  have hnm := (name_of_methodNamed Bd.named Bd.method).1
  have X0 : Stand p l e ({ frames := 0, cells := 0, slots := 0, locals := 0 } : Room) s m #[(.ref a0), (.int p1)] below meth c s₁ [] 0 0 := Stand.of_body Bd
  have e0 : s₁.heap = h0 := by rw [← hh, Bd.state]; rfl
  have N0 := Fr.nil n0
  have D : ∀ {pc : Nat} {r : Except ClassFile.DecodeError (ClassFile.Instr × Nat)}, decode prog_15_method_5_code pc = r → decode c.code pc = r := fun h => hb hby h
  show own_Goes p e below s (Q9 Z a0 p1 gl gs ll sl h0 n0) ({ frames := 0, cells := 0, slots := 0, locals := 0 } : Room).cells ({ frames := 0, cells := 0, slots := 0, locals := 0 } : Room).slots _
  refine own_pre (fun t k => castTop (ef9 m a0 p1) k) ?_
  refine own_pA s₁ m 1 #[rv a0, iv p1] [(.ref a0)] (fun t k => ?_) ?_
  ·exact XS.aloadN X0.here hx rfl (D d9_0) rfl rfl k
  refine own_getF X0 hx hZ hown (host := "") (Or.inl (own_h hw 19 rfl)) Via.refl e0 P1 rfl rfl (D d9_1) (fun T1128 X1128 e1128 => ?_)
  refine own_pA T1128 m 5 #[rv a0, iv p1] [(.ref a0), (.ref gs)] (fun t k => ?_) ?_
  ·exact XS.aloadN X1128.here hx rfl (D d9_4) rfl rfl k
  refine own_getF X1128 hx hZ hown (host := "") (Or.inl (own_h hw 17 rfl)) Via.refl e1128 P0 rfl rfl (D d9_5) (fun T1129 X1129 e1129 => ?_)
  have hbn1130 : own_In p1 ll.length := h1
  have hbn1131 : own_In (own_at ll p1) sl.length := h2
  refine own_pA T1129 m 11 #[rv a0, iv p1] [(.int (own_at sl (own_at ll p1)))] (fun t k => ?_) ?_
  ·refine XS.iloadN X1129.here hx rfl (D d9_8) rfl ?_
   refine own_iaload X1129 hx hZ e1129 P2 hbn1130 rfl rfl (D d9_9) ?_
   exact own_iaload X1129 hx hZ e1129 P3 hbn1131 rfl rfl (D d9_10) k
  have hv1132 : (own_at sl (own_at ll p1)) = f9 p1 ll sl := by rfl
  exact own_end X1129 (BodyLoose.notSynchronized Bd) (fun h => by rw [Bd.returns] at h; cases h) (v := some (.int (own_at sl (own_at ll p1)))) (fun fs hr => retOut X1129 hx Bd.returns rfl (by simp [Value.isRef, FieldType.isReference]) (D d9_11) hr) (by show Q9 Z a0 p1 gl gs ll sl h0 n0 _ T1129.heap _; rw [e1129]; exact ⟨(congrArg (fun z => some (Value.int z)) hv1132), N0, rfl⟩) (by decide) (by decide)
theorem d10_0 : decode prog_15_method_6_code 0 = .ok (.iload_n 1, 1) := by decide +kernel
theorem d10_1 : decode prog_15_method_6_code 1 = .ok (.iconst 1, 1) := by decide +kernel
theorem d10_2 : decode prog_15_method_6_code 2 = .ok (.iadd, 1) := by decide +kernel
theorem d10_3 : decode prog_15_method_6_code 3 = .ok (.aload_n 0, 1) := by decide +kernel
theorem d10_4 : decode prog_15_method_6_code 4 = .ok (.getfield 29, 3) := by decide +kernel
theorem d10_7 : decode prog_15_method_6_code 7 = .ok (.if_icmp .ge 19, 3) := by decide +kernel
theorem d10_10 : decode prog_15_method_6_code 10 = .ok (.aload_n 0, 1) := by decide +kernel
theorem d10_11 : decode prog_15_method_6_code 11 = .ok (.getfield 22, 3) := by decide +kernel
theorem d10_14 : decode prog_15_method_6_code 14 = .ok (.aload_n 0, 1) := by decide +kernel
theorem d10_15 : decode prog_15_method_6_code 15 = .ok (.getfield 19, 3) := by decide +kernel
theorem d10_18 : decode prog_15_method_6_code 18 = .ok (.iload_n 1, 1) := by decide +kernel
theorem d10_19 : decode prog_15_method_6_code 19 = .ok (.iconst 1, 1) := by decide +kernel
theorem d10_20 : decode prog_15_method_6_code 20 = .ok (.iadd, 1) := by decide +kernel
theorem d10_21 : decode prog_15_method_6_code 21 = .ok (.iaload, 1) := by decide +kernel
theorem d10_22 : decode prog_15_method_6_code 22 = .ok (.iaload, 1) := by decide +kernel
theorem d10_23 : decode prog_15_method_6_code 23 = .ok (.goto 7, 3) := by decide +kernel
theorem d10_26 : decode prog_15_method_6_code 26 = .ok (.aload_n 0, 1) := by decide +kernel
theorem d10_27 : decode prog_15_method_6_code 27 = .ok (.getfield 25, 3) := by decide +kernel
theorem d10_30 : decode prog_15_method_6_code 30 = .ok (.ireturn, 1) := by decide +kernel
theorem ef10 (m : MethodId) (a0 : Addr) (p1 : Int32) : entryFrame m #[(.ref a0), (.int p1)] 2 = mkF m 0 #[rv a0, iv p1] [] := by first | (simp [entryFrame, mkF, argsToLocals, Value.category]; done) | rfl
def f10 (p1 : Int32) (ll : List Int32) (sl : List Int32) (gc : Int32) (mc : Int32) : Int32 := (if (p1 + (1:Int32)) < gc then (own_at sl (own_at ll (p1 + (1:Int32)))) else mc)
def Q10 (Z : State) (a0 : Addr) (p1 : Int32) (gl : Addr) (gs : Addr) (ll : List Int32) (sl : List Int32) (gc : Int32) (mc : Int32) (h0 : Heap) (n0 : Nat) (v : Option Value) (h : Heap) (L : List Loc) : Prop := v = some (.int (f10 p1 ll sl gc mc)) ∧ Fr n0 L ∧ h = h0
set_option maxRecDepth 65536 in
set_option maxHeartbeats 40000000 in
theorem rm10 (l : Launch) (Z : State) (aZ : Array Value) (hw : ∀ d ∈ tables_1, d.before aZ Z = true) (ws : List Jvm.Cond) (a0 : Addr) (p1 : Int32) (gl : Addr) (gs : Addr) (ll : List Int32) (sl : List Int32) (gc : Int32) (mc : Int32) (h0 : Heap) (n0 : Nat) (Z0 : n0 ≤ h0.size) (P0 : Fld Z h0 a0 "com/example/spare_calculus/sparecalculus/bisim/LabelGroups" "groupLabels" "[I" (.ref gl)) (P1 : Fld Z h0 a0 "com/example/spare_calculus/sparecalculus/bisim/LabelGroups" "groupStarts" "[I" (.ref gs)) (P2 : Fld Z h0 a0 "com/example/spare_calculus/sparecalculus/bisim/LabelGroups" "groupCount" "I" (.int gc)) (P3 : Fld Z h0 a0 "com/example/spare_calculus/sparecalculus/bisim/LabelGroups" "moveCount" "I" (.int mc)) (P4 : own_Ints Z h0 gl ll) (P5 : own_Ints Z h0 gs sl) (h1 : (p1 + (1:Int32)) < gc → own_In (p1 + (1:Int32)) ll.length) (h2 : (p1 + (1:Int32)) < gc → own_In (own_at ll (p1 + (1:Int32))) sl.length) :
    MetFree l (⟨"com/example/spare_calculus/sparecalculus/bisim/LabelGroups", "end", "(I)I"⟩ : MethodName) (head1 (Jvm.Cond.code (⟨"com/example/spare_calculus/sparecalculus/bisim/LabelGroups", "end", "(I)I"⟩ : MethodName) prog_15_method_6_code 2 (some .int) :: ws) ({ frames := 0, cells := 0, slots := 0, locals := 0 } : Room)) (fun a U => a = #[(.ref a0), (.int p1)] ∧ Z.Warmed39 U.vm ∧ U.heap = h0) (fun _ _ _ _ _ => True) (fun _ U o U' => ∃ v L, o = .returned v ∧ Q10 Z a0 p1 gl gs ll sl gc mc h0 n0 v U'.heap L ∧ FrameEnd U o U' L ({ frames := 0, cells := 0, slots := 0, locals := 0 } : Room).cells ({ frames := 0, cells := 0, slots := 0, locals := 0 } : Room).slots) := by
  refine MetFree.of_bodySF (plainFor_of_name own_pn0) hisR ?_
  intro p e s m args below meth c s₁ Bd hml0 hP hK
  obtain ⟨rfl, hZ, hh⟩ := hP
  have hx := Bd.exec
  have hby := Bd.bytes
  have hml : c.maxLocals = 2 := hml0
  have hown : s.vm.findClass "com/example/spare_calculus/sparecalculus/bisim/LabelGroups" = some m.cls := findClass_of_methodNamed Bd.named
  have hnm := (name_of_methodNamed Bd.named Bd.method).1
  have X0 : Stand p l e ({ frames := 0, cells := 0, slots := 0, locals := 0 } : Room) s m #[(.ref a0), (.int p1)] below meth c s₁ [] 0 0 := Stand.of_body Bd
  have e0 : s₁.heap = h0 := by rw [← hh, Bd.state]; rfl
  have N0 := Fr.nil n0
  have D : ∀ {pc : Nat} {r : Except ClassFile.DecodeError (ClassFile.Instr × Nat)}, decode prog_15_method_6_code pc = r → decode c.code pc = r := fun h => hb hby h
  show own_Goes p e below s (Q10 Z a0 p1 gl gs ll sl gc mc h0 n0) ({ frames := 0, cells := 0, slots := 0, locals := 0 } : Room).cells ({ frames := 0, cells := 0, slots := 0, locals := 0 } : Room).slots _
  refine own_pre (fun t k => castTop (ef10 m a0 p1) k) ?_
  refine own_pA s₁ m 4 #[rv a0, iv p1] [(.ref a0), (.int (p1 + (1:Int32)))] (fun t k => ?_) ?_
  ·refine XS.iloadN X0.here hx rfl (D d10_0) rfl ?_
   refine XS.iconst X0.here hx rfl (D d10_1) ?_
   refine XS.iadd X0.here hx rfl (D d10_2) rfl ?_
   exact XS.aloadN X0.here hx rfl (D d10_3) rfl rfl k
  refine own_getF X0 hx hZ hown (host := "") (Or.inl (own_h hw 33 rfl)) Via.refl e0 P2 rfl rfl (D d10_4) (fun T1133 X1133 e1133 => ?_)
  by_cases hs7_2 : (p1 + (1:Int32)) < gc
  ·refine own_pA T1133 m 11 #[rv a0, iv p1] [(.ref a0)] (fun t k => ?_) ?_
   ·refine XS.icmpNo X1133.here hx rfl (D d10_7) rfl (XT.ii_ge_f hs7_2) ?_
    exact XS.aloadN X1133.here hx rfl (D d10_10) rfl rfl k
   refine own_getF X1133 hx hZ hown (host := "") (Or.inl (own_h hw 19 rfl)) Via.refl e1133 P1 rfl rfl (D d10_11) (fun T1134 X1134 e1134 => ?_)
   refine own_pA T1134 m 15 #[rv a0, iv p1] [(.ref a0), (.ref gs)] (fun t k => ?_) ?_
   ·exact XS.aloadN X1134.here hx rfl (D d10_14) rfl rfl k
   refine own_getF X1134 hx hZ hown (host := "") (Or.inl (own_h hw 17 rfl)) Via.refl e1134 P0 rfl rfl (D d10_15) (fun T1135 X1135 e1135 => ?_)
   have hbn1136 : own_In (p1 + (1:Int32)) ll.length := h1 hs7_2
   have hbn1137 : own_In (own_at ll (p1 + (1:Int32))) sl.length := h2 hs7_2
   refine own_pA T1135 m 30 #[rv a0, iv p1] [(.int (own_at sl (own_at ll (p1 + (1:Int32)))))] (fun t k => ?_) ?_
   ·refine XS.iloadN X1135.here hx rfl (D d10_18) rfl ?_
    refine XS.iconst X1135.here hx rfl (D d10_19) ?_
    refine XS.iadd X1135.here hx rfl (D d10_20) rfl ?_
    refine own_iaload X1135 hx hZ e1135 P4 hbn1136 rfl rfl (D d10_21) ?_
    refine own_iaload X1135 hx hZ e1135 P5 hbn1137 rfl rfl (D d10_22) ?_
    exact XS.goto X1135.here hx rfl (pc0 := 23) (pc' := 30) rfl (D d10_23) (by decide) (by decide) k
   have hv1138 : (own_at sl (own_at ll (p1 + (1:Int32)))) = f10 p1 ll sl gc mc := by simp only [f10, if_pos hs7_2]
   exact own_end X1135 (BodyLoose.notSynchronized Bd) (fun h => by rw [Bd.returns] at h; cases h) (v := some (.int (own_at sl (own_at ll (p1 + (1:Int32)))))) (fun fs hr => retOut X1135 hx Bd.returns rfl (by simp [Value.isRef, FieldType.isReference]) (D d10_30) hr) (by show Q10 Z a0 p1 gl gs ll sl gc mc h0 n0 _ T1135.heap _; rw [e1135]; exact ⟨(congrArg (fun z => some (Value.int z)) hv1138), N0, rfl⟩) (by decide) (by decide)
  ·refine own_pA T1133 m 27 #[rv a0, iv p1] [(.ref a0)] (fun t k => ?_) ?_
   ·refine XS.icmpYes X1133.here hx rfl (pc0 := 7) (pc' := 26) rfl (D d10_7) rfl (XT.ii_ge_t hs7_2) (by decide) (by decide) ?_
    exact XS.aloadN X1133.here hx rfl (D d10_26) rfl rfl k
   refine own_getF X1133 hx hZ hown (host := "") (Or.inl (own_h hw 26 rfl)) Via.refl e1133 P3 rfl rfl (D d10_27) (fun T1139 X1139 e1139 => ?_)
   have hv1140 : mc = f10 p1 ll sl gc mc := by simp only [f10, if_neg hs7_2]
   exact own_end X1139 (BodyLoose.notSynchronized Bd) (fun h => by rw [Bd.returns] at h; cases h) (v := some (.int mc)) (fun fs hr => retOut X1139 hx Bd.returns rfl (by simp [Value.isRef, FieldType.isReference]) (D d10_30) hr) (by show Q10 Z a0 p1 gl gs ll sl gc mc h0 n0 _ T1139.heap _; rw [e1139]; exact ⟨(congrArg (fun z => some (Value.int z)) hv1140), N0, rfl⟩) (by decide) (by decide)
abbrev own_L3 : List Int32 := [(0:Int32), (1:Int32), (2:Int32)]
abbrev own_L6 : List Int32 := [(0:Int32), (1:Int32), (2:Int32), (3:Int32), (4:Int32), (5:Int32)]
theorem own_m3 (p w : Int32) (hw : w = ((p &&& (2147483647:Int32)) % (3:Int32))) : w ∈ own_L3 := by
  have e1 : (p &&& (2147483647:Int32)).toInt = p.toInt % 2 ^ 31 := Jvm.Kit.i32_mask p _ (k := 31) (by decide) (by decide)
  have l : (3:Int32).toInt = 3 := by decide
  have e : w.toInt = (p.toInt % 2 ^ 31) % 3 := by rw [hw, Int32.toInt_mod, e1, l, Int.tmod_eq_emod_of_nonneg (by omega)]
  have l0 : (0:Int32).toInt = 0 := by decide
  have l1 : (1:Int32).toInt = 1 := by decide
  have l2 : (2:Int32).toInt = 2 := by decide
  simp only [List.mem_cons, List.not_mem_nil, or_false, ← Int32.toInt_inj, e, l0, l1, l2]; omega
theorem own_m6 (p w : Int32) (hw : w = ((p &&& (2147483647:Int32)) % (6:Int32))) : w ∈ own_L6 := by
  have e1 : (p &&& (2147483647:Int32)).toInt = p.toInt % 2 ^ 31 := Jvm.Kit.i32_mask p _ (k := 31) (by decide) (by decide)
  have l : (6:Int32).toInt = 6 := by decide
  have e : w.toInt = (p.toInt % 2 ^ 31) % 6 := by rw [hw, Int32.toInt_mod, e1, l, Int.tmod_eq_emod_of_nonneg (by omega)]
  have l0 : (0:Int32).toInt = 0 := by decide
  have l1 : (1:Int32).toInt = 1 := by decide
  have l2 : (2:Int32).toInt = 2 := by decide
  have l3 : (3:Int32).toInt = 3 := by decide
  have l4 : (4:Int32).toInt = 4 := by decide
  have l5 : (5:Int32).toInt = 5 := by decide
  simp only [List.mem_cons, List.not_mem_nil, or_false, ← Int32.toInt_inj, e, l0, l1, l2, l3, l4, l5]; omega
theorem own_mk {p w m : Int32} (hm : m ∈ ([(1:Int32), (2:Int32), (3:Int32)] : List Int32)) (hw : w = ((p &&& (2147483647:Int32)) % m)) : w ∈ own_L3 ∧ w < m := by
  have e1 : (p &&& (2147483647:Int32)).toInt = p.toInt % 2 ^ 31 := Jvm.Kit.i32_mask p _ (k := 31) (by decide) (by decide)
  have rng : ∀ m ∈ ([(1:Int32), (2:Int32), (3:Int32)] : List Int32), 0 < m.toInt ∧ m.toInt ≤ 3 := by decide
  obtain ⟨r1, r2⟩ := rng m hm
  have e : w.toInt = (p.toInt % 2 ^ 31) % m.toInt := by rw [hw, Int32.toInt_mod, e1, Int.tmod_eq_emod_of_nonneg (by omega)]
  have b1 := Int.emod_nonneg (p.toInt % 2 ^ 31) (b := m.toInt) (by omega)
  have b2 := Int.emod_lt_of_pos (p.toInt % 2 ^ 31) (b := m.toInt) r1
  have l0 : (0:Int32).toInt = 0 := by decide
  have l1 : (1:Int32).toInt = 1 := by decide
  have l2 : (2:Int32).toInt = 2 := by decide
  refine ⟨?_, ?_⟩
  · simp only [List.mem_cons, List.not_mem_nil, or_false, ← Int32.toInt_inj, l0, l1, l2]; omega
  · rw [Int32.lt_iff_toInt_lt]; omega
theorem own_len4 (p0 : Int32) : (p0 &&& (3:Int32)) = (0:Int32) ∨ (p0 &&& (3:Int32)) = (1:Int32) ∨ (p0 &&& (3:Int32)) = (2:Int32) ∨ (p0 &&& (3:Int32)) = (3:Int32) := by
  have e : (p0 &&& (3:Int32)).toInt = p0.toInt % 2 ^ 2 := Jvm.Kit.i32_mask p0 _ (k := 2) (by decide) (by decide)
  have l0 : (0:Int32).toInt = 0 := by decide
  have l1 : (1:Int32).toInt = 1 := by decide
  have l2 : (2:Int32).toInt = 2 := by decide
  have l3 : (3:Int32).toInt = 3 := by decide
  simp only [← Int32.toInt_inj, e, l0, l1, l2, l3]; omega
theorem own_pd0 : parseMethodDescriptor "([II)V" = some ⟨[(.array .int), .int], none⟩ := by decide +kernel
def own_v1197 (w0_4 : Int32) : Int32 := (if (w0_4 / (2:Int32)) = (0:Int32) then (1:Int32) else (0:Int32))
def own_v1198 (w0_4 : Int32) : Int32 := (if (w0_4 / (2:Int32)) = (2:Int32) then (1:Int32) else (2:Int32))
def own_v1199 (w0_4 : Int32) : Int32 := (if (w0_4 &&& (1:Int32)) = (0:Int32) then (own_v1197 w0_4) else (own_v1198 w0_4))
def own_v1200 (w0_4 : Int32) : Int32 := (if (w0_4 &&& (1:Int32)) = (0:Int32) then (own_v1198 w0_4) else (own_v1197 w0_4))
theorem own_pd1 : parseMethodDescriptor "()I" = some ⟨[], some .int⟩ := by decide +kernel
abbrev own_y4 : MethodName := (⟨"com/example/spare_calculus/sparecalculus/bisim/LabelGroups", "group", "()I"⟩ : MethodName)
def own_v1212 (w0_1 : Int32) (w0_2 : Int32) (w0_3 : Int32) : Int32 := (g4m0_gc w0_1 w0_2 w0_3 (0:Int32) (0:Int32) (0:Int32))
def own_v1214 (w0_1 : Int32) (w0_2 : Int32) (w0_3 : Int32) : List Int32 := (g4m0_gr w0_1 w0_2 w0_3 (0:Int32) (0:Int32) (0:Int32))
def own_v1216 (w0_1 : Int32) (w0_2 : Int32) (w0_3 : Int32) : List Int32 := (g4m0_gl w0_1 w0_2 w0_3 (0:Int32) (0:Int32) (0:Int32))
def own_v1218 (w0_1 : Int32) (w0_2 : Int32) (w0_3 : Int32) : List Int32 := (g4m0_gs w0_1 w0_2 w0_3 (0:Int32) (0:Int32) (0:Int32))
def own_v1220 (w0_1 : Int32) (w0_2 : Int32) (w0_3 : Int32) : Int32 := (f4m0 w0_1 w0_2 w0_3 (0:Int32) (0:Int32) (0:Int32))
theorem own_fin1222 : ∀ w0_1 ∈ own_L3, ∀ w0_2 ∈ own_L3, ∀ w0_3 ∈ own_L3, ∀ w0_4 ∈ own_L6, (own_In (w0_4 / (2:Int32)) [w0_1, w0_2, w0_3].length) := by decide +kernel
theorem own_fin1224 : ∀ w0_1 ∈ own_L3, ∀ w0_2 ∈ own_L3, ∀ w0_3 ∈ own_L3, ∀ w0_4 ∈ own_L6, (own_In (own_v1199 w0_4) [w0_1, w0_2, w0_3].length) := by decide +kernel
theorem own_fin1226 : ∀ w0_1 ∈ own_L3, ∀ w0_2 ∈ own_L3, ∀ w0_3 ∈ own_L3, ∀ w0_4 ∈ own_L6, (own_In (own_v1200 w0_4) [w0_1, w0_2, w0_3].length) := by decide +kernel
theorem own_fin1228 : ∀ w0_1 ∈ own_L3, ∀ w0_2 ∈ own_L3, ∀ w0_3 ∈ own_L3, ((own_v1220 w0_1 w0_2 w0_3) = (0:Int32)) := by decide +kernel
theorem own_pd2 : parseMethodDescriptor "(II)I" = some ⟨[.int, .int], some .int⟩ := by decide +kernel
abbrev own_y5 : MethodName := (⟨"com/example/spare_calculus/sparecalculus/bisim/LabelGroupsGroupPinLaw", "lt", "(II)I"⟩ : MethodName)
abbrev own_y6 : MethodName := (⟨"com/example/spare_calculus/sparecalculus/bisim/LabelGroupsGroupPinLaw", "eq", "(II)I"⟩ : MethodName)
theorem ef0n0 (m : MethodId) (p0 : Int32) (p1 : Int32) (p2 : Int32) (p3 : Int32) (p4 : Int32) (p5 : Int32) : entryFrame m #[(.int p0), (.int p1), (.int p2), (.int p3), (.int p4), (.int p5)] maxLocals = mkF m 0 #[iv p0, iv p1, iv p2, iv p3, iv p4, iv p5, .unset, .unset, .unset, .unset, .unset, .unset, .unset, .unset, .unset, .unset, .unset, .unset, .unset, .unset, .unset, .unset, .unset, .unset, .unset, .unset, .unset, .unset, .unset, .unset, .unset] [] := by first | (simp [entryFrame, mkF, argsToLocals, Value.category, maxLocals]; done) | rfl
def Q0n0 (Z : State) (p0 : Int32) (p1 : Int32) (p2 : Int32) (p3 : Int32) (p4 : Int32) (p5 : Int32)  (h0 : Heap) (n0 : Nat) (v : Option Value) (h : Heap) (L : List Loc) : Prop := v = some (.int (1:Int32)) ∧ Fr n0 L
set_option maxRecDepth 65536 in
set_option maxHeartbeats 40000000 in
theorem rm0n0 (l : Launch) (Z : State) (aZ : Array Value) (hw : ∀ d ∈ tables_1, d.before aZ Z = true) (ws : List Jvm.Cond) (p0 : Int32) (p1 : Int32) (p2 : Int32) (p3 : Int32) (p4 : Int32) (p5 : Int32)  (h0 : Heap) (n0 : Nat) (Z0 : n0 ≤ h0.size) (hn : (p3 &&& (3:Int32)) = (0:Int32)) :
    MetFree l x (head1 (Jvm.Cond.code x code maxLocals ret :: ws) room_1) (fun a U => a = #[(.int p0), (.int p1), (.int p2), (.int p3), (.int p4), (.int p5)] ∧ Z.Warmed39 U.vm ∧ U.heap = h0) (fun _ _ _ _ _ => True) (fun _ U o U' => ∃ v L, o = .returned v ∧ Q0n0 Z p0 p1 p2 p3 p4 p5 h0 n0 v U'.heap L ∧ FrameEnd U o U' L 6 24) := by
  refine MetFree.of_bodySF (plainFor_of_name own_pn1) hisR ?_
  intro p e s m args below meth c s₁ Bd hml0 hP hK
  obtain ⟨rfl, hZ, hh⟩ := hP
  have hx := Bd.exec
  have hby := Bd.bytes
  have hml : c.maxLocals = 31 := hml0
  have hown : s.vm.findClass "com/example/spare_calculus/sparecalculus/bisim/LabelGroupsGroupPinLaw" = some m.cls := findClass_of_methodNamed Bd.named
  have hnm := (name_of_methodNamed Bd.named Bd.method).1
  have X0 : Stand p l e room_1 s m #[(.int p0), (.int p1), (.int p2), (.int p3), (.int p4), (.int p5)] below meth c s₁ [] 0 0 := Stand.of_body Bd
  have e0 : s₁.heap = h0 := by rw [← hh, Bd.state]; rfl
  have N0 := Fr.nil n0
  have D : ∀ {pc : Nat} {r : Except ClassFile.DecodeError (ClassFile.Instr × Nat)}, decode code pc = r → decode c.code pc = r := fun h => hb hby h
  show own_Goes p e below s (Q0n0 Z p0 p1 p2 p3 p4 p5 h0 n0) 6 24 _
  refine own_pre (fun t k => castTop (ef0n0 m p0 p1 p2 p3 p4 p5) k) ?_
  refine own_pA s₁ m 1 #[iv p0, iv p1, iv p2, iv p3, iv p4, iv p5, .unset, .unset, .unset, .unset, .unset, .unset, .unset, .unset, .unset, .unset, .unset, .unset, .unset, .unset, .unset, .unset, .unset, .unset, .unset, .unset, .unset, .unset, .unset, .unset, .unset] [(.int (3:Int32))] (fun t k => ?_) ?_
  ·exact XS.iconst X0.here hx rfl (D at_0) k
  obtain ⟨T1141, h1141, k1141, X1141, e1141, E1141, A1141, st1141⟩ := newP X0 hx hZ (own_h hw 0 rfl) e0 (g := (mkF m 1 #[iv p0, iv p1, iv p2, iv p3, iv p4, iv p5, .unset, .unset, .unset, .unset, .unset, .unset, .unset, .unset, .unset, .unset, .unset, .unset, .unset, .unset, .unset, .unset, .unset, .unset, .unset, .unset, .unset, .unset, .unset, .unset, .unset] [(.int (3:Int32))])) rfl (D at_1) rfl (by decide) (cap := 3) (by decide) (by decide) (by decide) (by decide)
  obtain ⟨b1141, g1141⟩ : ∃ z, z = h0.size := ⟨_, rfl⟩
  rw [← g1141] at A1141 st1141
  have ge_b1141 : n0 ≤ b1141 := Nat.le_trans Z0 (Nat.le_of_eq g1141.symm)
  have Z1142 : n0 ≤ h1141.size := Nat.le_trans Z0 E1141.1
  have V1141 : own_Ints Z h1141 b1141 [(0:Int32), (0:Int32), (0:Int32)] := own_newI A1141 (by decide)
  refine own_pre st1141 ?_
  refine own_pA T1141 m 14 #[iv p0, iv p1, iv p2, iv p3, iv p4, iv p5, rv b1141, .unset, .unset, .unset, .unset, .unset, .unset, .unset, .unset, .unset, .unset, .unset, .unset, .unset, .unset, .unset, .unset, .unset, .unset, .unset, .unset, .unset, .unset, .unset, .unset] [(.int ((p0 &&& (2147483647:Int32)) % (3:Int32))), (.int (0:Int32)), (.ref b1141)] (fun t k => ?_) ?_
  ·refine XS.astore X1141.here hx rfl (D at_3) rfl rfl (l' := #[iv p0, iv p1, iv p2, iv p3, iv p4, iv p5, rv b1141, .unset, .unset, .unset, .unset, .unset, .unset, .unset, .unset, .unset, .unset, .unset, .unset, .unset, .unset, .unset, .unset, .unset, .unset, .unset, .unset, .unset, .unset, .unset, .unset]) rfl ?_
   refine XS.aload X1141.here hx rfl (D at_5) rfl rfl ?_
   refine XS.iconst X1141.here hx rfl (D at_7) ?_
   refine XS.iloadN X1141.here hx rfl (D at_8) rfl ?_
   refine Jvm.Stand.ldcI X1141 hx hown (mvT hZ (own_h hw 1 rfl)) rfl (D at_9) ?_
   refine XS.iand X1141.here hx rfl (D at_11) rfl ?_
   refine XS.iconst X1141.here hx rfl (D at_12) ?_
   exact iremM X1141 hx rfl (D at_13) rfl (by decide) k
  have hbn1144 : own_In (0:Int32) [(0:Int32), (0:Int32), (0:Int32)].length := own_lit rfl
  refine own_iastG X1141 hx hZ e1141 V1141 hbn1144 rfl rfl (D at_14) (fun T1143 h1143 X1143 e1143 W1143 V1143 => ?_)
  have Z1145 : n0 ≤ h1143.size := Nat.le_trans Z1142 (Nat.le_of_eq W1143.size.symm)
  have N1143 := Fr.snoc X1143 N0 ge_b1141
  obtain ⟨w0_1, hw0_1⟩ : ∃ z : Int32, z = ((p0 &&& (2147483647:Int32)) % (3:Int32)) := ⟨_, rfl⟩
  have Vw1143 : own_Ints Z h1143 b1141 [w0_1, (0:Int32), (0:Int32)] := by rw [hw0_1]; exact V1143
  refine own_pA T1143 m 24 #[iv p0, iv p1, iv p2, iv p3, iv p4, iv p5, rv b1141, .unset, .unset, .unset, .unset, .unset, .unset, .unset, .unset, .unset, .unset, .unset, .unset, .unset, .unset, .unset, .unset, .unset, .unset, .unset, .unset, .unset, .unset, .unset, .unset] [(.int ((p1 &&& (2147483647:Int32)) % (3:Int32))), (.int (1:Int32)), (.ref b1141)] (fun t k => ?_) ?_
  ·refine XS.aload X1143.here hx rfl (D at_15) rfl rfl ?_
   refine XS.iconst X1143.here hx rfl (D at_17) ?_
   refine XS.iloadN X1143.here hx rfl (D at_18) rfl ?_
   refine Jvm.Stand.ldcI X1143 hx hown (mvT hZ (own_h hw 1 rfl)) rfl (D at_19) ?_
   refine XS.iand X1143.here hx rfl (D at_21) rfl ?_
   refine XS.iconst X1143.here hx rfl (D at_22) ?_
   exact iremM X1143 hx rfl (D at_23) rfl (by decide) k
  have hbn1147 : own_In (1:Int32) [w0_1, (0:Int32), (0:Int32)].length := own_lit rfl
  refine own_iastG X1143 hx hZ e1143 Vw1143 hbn1147 rfl rfl (D at_24) (fun T1146 h1146 X1146 e1146 W1146 V1146 => ?_)
  have Z1148 : n0 ≤ h1146.size := Nat.le_trans Z1145 (Nat.le_of_eq W1146.size.symm)
  have N1146 := Fr.snoc X1146 N1143 ge_b1141
  obtain ⟨w0_2, hw0_2⟩ : ∃ z : Int32, z = ((p1 &&& (2147483647:Int32)) % (3:Int32)) := ⟨_, rfl⟩
  have Vw1146 : own_Ints Z h1146 b1141 [w0_1, w0_2, (0:Int32)] := by rw [hw0_2]; exact V1146
  refine own_pA T1146 m 34 #[iv p0, iv p1, iv p2, iv p3, iv p4, iv p5, rv b1141, .unset, .unset, .unset, .unset, .unset, .unset, .unset, .unset, .unset, .unset, .unset, .unset, .unset, .unset, .unset, .unset, .unset, .unset, .unset, .unset, .unset, .unset, .unset, .unset] [(.int ((p2 &&& (2147483647:Int32)) % (3:Int32))), (.int (2:Int32)), (.ref b1141)] (fun t k => ?_) ?_
  ·refine XS.aload X1146.here hx rfl (D at_25) rfl rfl ?_
   refine XS.iconst X1146.here hx rfl (D at_27) ?_
   refine XS.iloadN X1146.here hx rfl (D at_28) rfl ?_
   refine Jvm.Stand.ldcI X1146 hx hown (mvT hZ (own_h hw 1 rfl)) rfl (D at_29) ?_
   refine XS.iand X1146.here hx rfl (D at_31) rfl ?_
   refine XS.iconst X1146.here hx rfl (D at_32) ?_
   exact iremM X1146 hx rfl (D at_33) rfl (by decide) k
  have hbn1150 : own_In (2:Int32) [w0_1, w0_2, (0:Int32)].length := own_lit rfl
  refine own_iastG X1146 hx hZ e1146 Vw1146 hbn1150 rfl rfl (D at_34) (fun T1149 h1149 X1149 e1149 W1149 V1149 => ?_)
  have Z1151 : n0 ≤ h1149.size := Nat.le_trans Z1148 (Nat.le_of_eq W1149.size.symm)
  have N1149 := Fr.snoc X1149 N1146 ge_b1141
  obtain ⟨w0_3, hw0_3⟩ : ∃ z : Int32, z = ((p2 &&& (2147483647:Int32)) % (3:Int32)) := ⟨_, rfl⟩
  have Vw1149 : own_Ints Z h1149 b1141 [w0_1, w0_2, w0_3] := by rw [hw0_3]; exact V1149
  obtain ⟨w0_4, hw0_4⟩ : ∃ z : Int32, z = ((p4 &&& (2147483647:Int32)) % (6:Int32)) := ⟨_, rfl⟩
  refine own_pA T1149 m 58 #[iv p0, iv p1, iv p2, iv p3, iv p4, iv p5, rv b1141, iv (0:Int32), iv w0_4, iv (w0_4 / (2:Int32)), .unset, .unset, .unset, .unset, .unset, .unset, .unset, .unset, .unset, .unset, .unset, .unset, .unset, .unset, .unset, .unset, .unset, .unset, .unset, .unset, .unset] [(.int (w0_4 / (2:Int32)))] (fun t k => ?_) ?_
  ·refine XS.iloadN X1149.here hx rfl (D at_35) rfl ?_
   refine XS.iconst X1149.here hx rfl (D at_36) ?_
   refine XS.iand X1149.here hx rfl (D at_37) rfl ?_
   refine XS.istore X1149.here hx rfl (D at_38) rfl (l' := #[iv p0, iv p1, iv p2, iv p3, iv p4, iv p5, rv b1141, iv (0:Int32), .unset, .unset, .unset, .unset, .unset, .unset, .unset, .unset, .unset, .unset, .unset, .unset, .unset, .unset, .unset, .unset, .unset, .unset, .unset, .unset, .unset, .unset, .unset]) (by show storeLocals _ _ (Value.int (p3 &&& (3:Int32))) = _; rw [hn]; rfl) ?_
   refine XS.iload X1149.here hx rfl (D at_40) rfl ?_
   refine Jvm.Stand.ldcI X1149 hx hown (mvT hZ (own_h hw 1 rfl)) rfl (D at_42) ?_
   refine XS.iand X1149.here hx rfl (D at_44) rfl ?_
   refine XS.bipush X1149.here hx rfl (D at_45) ?_
   refine iremM X1149 hx rfl (D at_47) rfl (by decide) ?_
   refine XS.istore X1149.here hx rfl (D at_48) rfl (l' := #[iv p0, iv p1, iv p2, iv p3, iv p4, iv p5, rv b1141, iv (0:Int32), iv w0_4, .unset, .unset, .unset, .unset, .unset, .unset, .unset, .unset, .unset, .unset, .unset, .unset, .unset, .unset, .unset, .unset, .unset, .unset, .unset, .unset, .unset, .unset]) (by rw [hw0_4]; rfl) ?_
   refine XS.iload X1149.here hx rfl (D at_50) rfl ?_
   refine XS.iconst X1149.here hx rfl (D at_52) ?_
   refine XS.idiv X1149.here hx rfl (D at_53) rfl (by decide) ?_
   refine XS.istore X1149.here hx rfl (D at_54) rfl (l' := #[iv p0, iv p1, iv p2, iv p3, iv p4, iv p5, rv b1141, iv (0:Int32), iv w0_4, iv (w0_4 / (2:Int32)), .unset, .unset, .unset, .unset, .unset, .unset, .unset, .unset, .unset, .unset, .unset, .unset, .unset, .unset, .unset, .unset, .unset, .unset, .unset, .unset, .unset]) rfl ?_
   exact XS.iload X1149.here hx rfl (D at_56) rfl k
  obtain ⟨w0_5, hw0_5⟩ : ∃ z : Int32, z = (if (w0_4 / (2:Int32)) = (0:Int32) then (1:Int32) else (0:Int32)) := ⟨_, rfl⟩
  refine own_pre (A := T1149.setTop (mkF m 66 #[iv p0, iv p1, iv p2, iv p3, iv p4, iv p5, rv b1141, iv (0:Int32), iv w0_4, iv (w0_4 / (2:Int32)), .unset, .unset, .unset, .unset, .unset, .unset, .unset, .unset, .unset, .unset, .unset, .unset, .unset, .unset, .unset, .unset, .unset, .unset, .unset, .unset, .unset] [(.int w0_5)])) (fun t k => ?_) ?_
  ·by_cases hm58_1 : (w0_4 / (2:Int32)) = (0:Int32)
   ·refine XS.ifNo X1149.here hx rfl (D at_58) rfl (XT.i0_ne_f hm58_1) ?_
    refine XS.iconst X1149.here hx rfl (D at_61) ?_
    refine XS.goto X1149.here hx rfl (pc0 := 62) (pc' := 66) rfl (D at_62) (by decide) (by decide) ?_
    rw [hw0_5.trans (if_pos hm58_1)] at k
    exact k
   ·refine XS.ifYes X1149.here hx rfl (pc0 := 58) (pc' := 65) rfl (D at_58) rfl (XT.i0_ne_t hm58_1) (by decide) (by decide) ?_
    refine XS.iconst X1149.here hx rfl (D at_65) ?_
    rw [hw0_5.trans (if_neg hm58_1)] at k
    exact k
  refine own_pA T1149 m 71 #[iv p0, iv p1, iv p2, iv p3, iv p4, iv p5, rv b1141, iv (0:Int32), iv w0_4, iv (w0_4 / (2:Int32)), iv w0_5, .unset, .unset, .unset, .unset, .unset, .unset, .unset, .unset, .unset, .unset, .unset, .unset, .unset, .unset, .unset, .unset, .unset, .unset, .unset, .unset] [(.int (2:Int32)), (.int (w0_4 / (2:Int32)))] (fun t k => ?_) ?_
  ·refine XS.istore X1149.here hx rfl (D at_66) rfl (l' := #[iv p0, iv p1, iv p2, iv p3, iv p4, iv p5, rv b1141, iv (0:Int32), iv w0_4, iv (w0_4 / (2:Int32)), iv w0_5, .unset, .unset, .unset, .unset, .unset, .unset, .unset, .unset, .unset, .unset, .unset, .unset, .unset, .unset, .unset, .unset, .unset, .unset, .unset, .unset]) rfl ?_
   refine XS.iload X1149.here hx rfl (D at_68) rfl ?_
   exact XS.iconst X1149.here hx rfl (D at_70) k
  obtain ⟨w0_6, hw0_6⟩ : ∃ z : Int32, z = (if (w0_4 / (2:Int32)) = (2:Int32) then (1:Int32) else (2:Int32)) := ⟨_, rfl⟩
  refine own_pre (A := T1149.setTop (mkF m 79 #[iv p0, iv p1, iv p2, iv p3, iv p4, iv p5, rv b1141, iv (0:Int32), iv w0_4, iv (w0_4 / (2:Int32)), iv w0_5, .unset, .unset, .unset, .unset, .unset, .unset, .unset, .unset, .unset, .unset, .unset, .unset, .unset, .unset, .unset, .unset, .unset, .unset, .unset, .unset] [(.int w0_6)])) (fun t k => ?_) ?_
  ·by_cases hm71_2 : (w0_4 / (2:Int32)) = (2:Int32)
   ·refine XS.icmpNo X1149.here hx rfl (D at_71) rfl (XT.ii_ne_f hm71_2) ?_
    refine XS.iconst X1149.here hx rfl (D at_74) ?_
    refine XS.goto X1149.here hx rfl (pc0 := 75) (pc' := 79) rfl (D at_75) (by decide) (by decide) ?_
    rw [hw0_6.trans (if_pos hm71_2)] at k
    exact k
   ·refine XS.icmpYes X1149.here hx rfl (pc0 := 71) (pc' := 78) rfl (D at_71) rfl (XT.ii_ne_t hm71_2) (by decide) (by decide) ?_
    refine XS.iconst X1149.here hx rfl (D at_78) ?_
    rw [hw0_6.trans (if_neg hm71_2)] at k
    exact k
  refine own_pA T1149 m 85 #[iv p0, iv p1, iv p2, iv p3, iv p4, iv p5, rv b1141, iv (0:Int32), iv w0_4, iv (w0_4 / (2:Int32)), iv w0_5, iv w0_6, .unset, .unset, .unset, .unset, .unset, .unset, .unset, .unset, .unset, .unset, .unset, .unset, .unset, .unset, .unset, .unset, .unset, .unset, .unset] [(.int (w0_4 &&& (1:Int32)))] (fun t k => ?_) ?_
  ·refine XS.istore X1149.here hx rfl (D at_79) rfl (l' := #[iv p0, iv p1, iv p2, iv p3, iv p4, iv p5, rv b1141, iv (0:Int32), iv w0_4, iv (w0_4 / (2:Int32)), iv w0_5, iv w0_6, .unset, .unset, .unset, .unset, .unset, .unset, .unset, .unset, .unset, .unset, .unset, .unset, .unset, .unset, .unset, .unset, .unset, .unset, .unset]) rfl ?_
   refine XS.iload X1149.here hx rfl (D at_81) rfl ?_
   refine XS.iconst X1149.here hx rfl (D at_83) ?_
   exact XS.iand X1149.here hx rfl (D at_84) rfl k
  obtain ⟨w0_7, hw0_7⟩ : ∃ z : Int32, z = (if (w0_4 &&& (1:Int32)) = (0:Int32) then w0_5 else w0_6) := ⟨_, rfl⟩
  refine own_pre (A := T1149.setTop (mkF m 95 #[iv p0, iv p1, iv p2, iv p3, iv p4, iv p5, rv b1141, iv (0:Int32), iv w0_4, iv (w0_4 / (2:Int32)), iv w0_5, iv w0_6, .unset, .unset, .unset, .unset, .unset, .unset, .unset, .unset, .unset, .unset, .unset, .unset, .unset, .unset, .unset, .unset, .unset, .unset, .unset] [(.int w0_7)])) (fun t k => ?_) ?_
  ·by_cases hm85_3 : (w0_4 &&& (1:Int32)) = (0:Int32)
   ·refine XS.ifNo X1149.here hx rfl (D at_85) rfl (XT.i0_ne_f hm85_3) ?_
    refine XS.iload X1149.here hx rfl (D at_88) rfl ?_
    refine XS.goto X1149.here hx rfl (pc0 := 90) (pc' := 95) rfl (D at_90) (by decide) (by decide) ?_
    rw [hw0_7.trans (if_pos hm85_3)] at k
    exact k
   ·refine XS.ifYes X1149.here hx rfl (pc0 := 85) (pc' := 93) rfl (D at_85) rfl (XT.i0_ne_t hm85_3) (by decide) (by decide) ?_
    refine XS.iload X1149.here hx rfl (D at_93) rfl ?_
    rw [hw0_7.trans (if_neg hm85_3)] at k
    exact k
  refine own_pA T1149 m 101 #[iv p0, iv p1, iv p2, iv p3, iv p4, iv p5, rv b1141, iv (0:Int32), iv w0_4, iv (w0_4 / (2:Int32)), iv w0_5, iv w0_6, iv w0_7, .unset, .unset, .unset, .unset, .unset, .unset, .unset, .unset, .unset, .unset, .unset, .unset, .unset, .unset, .unset, .unset, .unset, .unset] [(.int (w0_4 &&& (1:Int32)))] (fun t k => ?_) ?_
  ·refine XS.istore X1149.here hx rfl (D at_95) rfl (l' := #[iv p0, iv p1, iv p2, iv p3, iv p4, iv p5, rv b1141, iv (0:Int32), iv w0_4, iv (w0_4 / (2:Int32)), iv w0_5, iv w0_6, iv w0_7, .unset, .unset, .unset, .unset, .unset, .unset, .unset, .unset, .unset, .unset, .unset, .unset, .unset, .unset, .unset, .unset, .unset, .unset]) rfl ?_
   refine XS.iload X1149.here hx rfl (D at_97) rfl ?_
   refine XS.iconst X1149.here hx rfl (D at_99) ?_
   exact XS.iand X1149.here hx rfl (D at_100) rfl k
  obtain ⟨w0_8, hw0_8⟩ : ∃ z : Int32, z = (if (w0_4 &&& (1:Int32)) = (0:Int32) then w0_6 else w0_5) := ⟨_, rfl⟩
  refine own_pre (A := T1149.setTop (mkF m 111 #[iv p0, iv p1, iv p2, iv p3, iv p4, iv p5, rv b1141, iv (0:Int32), iv w0_4, iv (w0_4 / (2:Int32)), iv w0_5, iv w0_6, iv w0_7, .unset, .unset, .unset, .unset, .unset, .unset, .unset, .unset, .unset, .unset, .unset, .unset, .unset, .unset, .unset, .unset, .unset, .unset] [(.int w0_8)])) (fun t k => ?_) ?_
  ·by_cases hm101_4 : (w0_4 &&& (1:Int32)) = (0:Int32)
   ·refine XS.ifNo X1149.here hx rfl (D at_101) rfl (XT.i0_ne_f hm101_4) ?_
    refine XS.iload X1149.here hx rfl (D at_104) rfl ?_
    refine XS.goto X1149.here hx rfl (pc0 := 106) (pc' := 111) rfl (D at_106) (by decide) (by decide) ?_
    rw [hw0_8.trans (if_pos hm101_4)] at k
    exact k
   ·refine XS.ifYes X1149.here hx rfl (pc0 := 101) (pc' := 109) rfl (D at_101) rfl (XT.i0_ne_t hm101_4) (by decide) (by decide) ?_
    refine XS.iload X1149.here hx rfl (D at_109) rfl ?_
    rw [hw0_8.trans (if_neg hm101_4)] at k
    exact k
  refine own_pA T1149 m 113 #[iv p0, iv p1, iv p2, iv p3, iv p4, iv p5, rv b1141, iv (0:Int32), iv w0_4, iv (w0_4 / (2:Int32)), iv w0_5, iv w0_6, iv w0_7, iv w0_8, .unset, .unset, .unset, .unset, .unset, .unset, .unset, .unset, .unset, .unset, .unset, .unset, .unset, .unset, .unset, .unset, .unset] [] (fun t k => ?_) ?_
  ·exact XS.istore X1149.here hx rfl (D at_111) rfl (l' := #[iv p0, iv p1, iv p2, iv p3, iv p4, iv p5, rv b1141, iv (0:Int32), iv w0_4, iv (w0_4 / (2:Int32)), iv w0_5, iv w0_6, iv w0_7, iv w0_8, .unset, .unset, .unset, .unset, .unset, .unset, .unset, .unset, .unset, .unset, .unset, .unset, .unset, .unset, .unset, .unset, .unset]) rfl k
  obtain ⟨T1152, h1152, X1152, e1152, E1152, A1152, D1152, -, st1152⟩ := newO X1149 hx hZ hown (own_h hw 2 rfl) (own_h hw 3 rfl) (own_h hw 4 rfl) e1149 (g := (mkF m 113 #[iv p0, iv p1, iv p2, iv p3, iv p4, iv p5, rv b1141, iv (0:Int32), iv w0_4, iv (w0_4 / (2:Int32)), iv w0_5, iv w0_6, iv w0_7, iv w0_8, .unset, .unset, .unset, .unset, .unset, .unset, .unset, .unset, .unset, .unset, .unset, .unset, .unset, .unset, .unset, .unset, .unset] [])) rfl (D at_113) (by decide) (by decide)
  obtain ⟨b1152, g1152⟩ : ∃ z, z = h1149.size := ⟨_, rfl⟩
  rw [← g1152] at A1152 D1152 st1152
  have ge_b1152 : n0 ≤ b1152 := Nat.le_trans Z1151 (Nat.le_of_eq g1152.symm)
  have ne_b1141_b1152 : b1141 ≠ b1152 := Nat.ne_of_lt (Nat.lt_of_lt_of_le Vw1149.lt (Nat.le_of_eq g1152.symm))
  have Z1153 : n0 ≤ h1152.size := Nat.le_trans Z1151 E1152.1
  have F1152_labels : Fld Z h1152 b1152 "com/example/spare_calculus/sparecalculus/bisim/LabelGroups" "labels" "[I" .null := D1152 (Or.inr (own_h hw 12 rfl)) (ty := (.array .int)) (by decide)
  have F1152_moves : Fld Z h1152 b1152 "com/example/spare_calculus/sparecalculus/bisim/LabelGroups" "moves" "[I" .null := D1152 (Or.inr (own_h hw 14 rfl)) (ty := (.array .int)) (by decide)
  have F1152_grouped : Fld Z h1152 b1152 "com/example/spare_calculus/sparecalculus/bisim/LabelGroups" "grouped" "[I" .null := D1152 (Or.inr (own_h hw 16 rfl)) (ty := (.array .int)) (by decide)
  have F1152_groupLabels : Fld Z h1152 b1152 "com/example/spare_calculus/sparecalculus/bisim/LabelGroups" "groupLabels" "[I" .null := D1152 (Or.inr (own_h hw 18 rfl)) (ty := (.array .int)) (by decide)
  have F1152_groupStarts : Fld Z h1152 b1152 "com/example/spare_calculus/sparecalculus/bisim/LabelGroups" "groupStarts" "[I" .null := D1152 (Or.inr (own_h hw 20 rfl)) (ty := (.array .int)) (by decide)
  have F1152_moveCount : Fld Z h1152 b1152 "com/example/spare_calculus/sparecalculus/bisim/LabelGroups" "moveCount" "I" (.int (0:Int32)) := D1152 (Or.inl (own_h hw 27 rfl)) (ty := .int) (by decide)
  have F1152_groupCount : Fld Z h1152 b1152 "com/example/spare_calculus/sparecalculus/bisim/LabelGroups" "groupCount" "I" (.int (0:Int32)) := D1152 (Or.inl (own_h hw 34 rfl)) (ty := .int) (by decide)
  refine own_pre st1152 ?_
  refine own_pA T1152 m 120 #[iv p0, iv p1, iv p2, iv p3, iv p4, iv p5, rv b1141, iv (0:Int32), iv w0_4, iv (w0_4 / (2:Int32)), iv w0_5, iv w0_6, iv w0_7, iv w0_8, .unset, .unset, .unset, .unset, .unset, .unset, .unset, .unset, .unset, .unset, .unset, .unset, .unset, .unset, .unset, .unset, .unset] [(.int (3:Int32)), (.ref b1141), (.ref b1152), (.ref b1152)] (fun t k => ?_) ?_
  ·refine XS.dup X1152.here hx rfl (D at_116) rfl rfl ?_
   refine XS.aload X1152.here hx rfl (D at_117) rfl rfl ?_
   exact XS.iconst X1152.here hx rfl (D at_119) k
  have F1155 := (Vw1149.ext E1152)
  obtain ⟨_, _, ⟨T1154, L1154, k1154, n1154⟩, -, X1154, ⟨Lc1154, hQ1154, l1154, y1154, z1154⟩, st1154⟩ := X1152.specialBack hx (y := (⟨"com/example/spare_calculus/sparecalculus/bisim/LabelGroups", "<init>", "([II)V"⟩ : MethodName)) rfl hown (mvT hZ (own_h hw 5 rfl)) (mvT hZ (own_h hw 6 rfl)) (mvT hZ (own_h hw 7 rfl)) (by decide) (backOf (W := 1) (rm1 l Z aZ hw [] b1152 b1141 w0_1 w0_2 w0_3 h1152 n0 Z1153 A1152 F1152_labels F1152_moves F1152_grouped F1152_groupLabels F1152_groupStarts F1152_moveCount F1152_groupCount F1155 (Ne.symm ne_b1141_b1152) ge_b1152) hZ (own_h hw 7 rfl) (own_h hw 4 rfl) (by decide) (by decide)) (g := (mkF m 120 #[iv p0, iv p1, iv p2, iv p3, iv p4, iv p5, rv b1141, iv (0:Int32), iv w0_4, iv (w0_4 / (2:Int32)), iv w0_5, iv w0_6, iv w0_7, iv w0_8, .unset, .unset, .unset, .unset, .unset, .unset, .unset, .unset, .unset, .unset, .unset, .unset, .unset, .unset, .unset, .unset, .unset] [(.int (3:Int32)), (.ref b1141), (.ref b1152), (.ref b1152)])) rfl (by rw [hml]; rfl) (Steps.refl _) (a := b1152) (argsL := [(.ref b1141), (.int (3:Int32))]) (rest := [(.ref b1152)]) (lenOf own_pd0 rfl) rfl (by show 2 * 0 + _ ≤ _; exact Nat.le_of_eq rfl) (D at_120) (fun _ _ => ⟨rfl, e1152, (by decide : 2 + 4 ≤ _), (by decide : 10 + 12 ≤ _)⟩)
  dsimp only [Pt.U, Pt.locs, Pt.cells, Pt.slots] at X1154 l1154 y1154 z1154 st1154 hQ1154
  subst l1154 y1154 z1154
  obtain ⟨rfl, N1154q, K1154, mv_1156, gr_1157, gl_1158, gs_1159, sz1160, sz1161, sz1162, sz1163, ne1164, ne1165, ne1166, ne1167, ne1168, ne1169, G1170, G1171, G1172, G1173, G1174, G1175, G1176, G1177, G1178, G1179, G1180⟩ := hQ1154
  have N1154 := Fr.app N1149 N1154q
  have Z1181 : n0 ≤ T1154.heap.size := Nat.le_trans Z1153 K1154.1
  have ne1182 : b1141 ≠ mv_1156 := Nat.ne_of_lt (Nat.lt_of_lt_of_le F1155.lt sz1160)
  have ne1183 : b1152 ≠ mv_1156 := Nat.ne_of_lt (Nat.lt_of_lt_of_le A1152.lt sz1160)
  have ge1184 : n0 ≤ mv_1156 := Nat.le_trans Z1153 sz1160
  have ne1185 : b1141 ≠ gr_1157 := Nat.ne_of_lt (Nat.lt_of_lt_of_le F1155.lt sz1161)
  have ne1186 : b1152 ≠ gr_1157 := Nat.ne_of_lt (Nat.lt_of_lt_of_le A1152.lt sz1161)
  have ge1187 : n0 ≤ gr_1157 := Nat.le_trans Z1153 sz1161
  have ne1188 : b1141 ≠ gl_1158 := Nat.ne_of_lt (Nat.lt_of_lt_of_le F1155.lt sz1162)
  have ne1189 : b1152 ≠ gl_1158 := Nat.ne_of_lt (Nat.lt_of_lt_of_le A1152.lt sz1162)
  have ge1190 : n0 ≤ gl_1158 := Nat.le_trans Z1153 sz1162
  have ne1191 : b1141 ≠ gs_1159 := Nat.ne_of_lt (Nat.lt_of_lt_of_le F1155.lt sz1163)
  have ne1192 : b1152 ≠ gs_1159 := Nat.ne_of_lt (Nat.lt_of_lt_of_le A1152.lt sz1163)
  have ge1193 : n0 ≤ gs_1159 := Nat.le_trans Z1153 sz1163
  refine own_pre (fun _ k => st1154.trans k) ?_
  refine own_pA T1154 m 166 #[iv p0, iv p1, iv p2, iv p3, iv p4, iv p5, rv b1141, iv (0:Int32), iv w0_4, iv (w0_4 / (2:Int32)), iv w0_5, iv w0_6, iv w0_7, iv w0_8, rv b1152, .unset, .unset, .unset, .unset, .unset, .unset, .unset, .unset, .unset, .unset, .unset, .unset, .unset, .unset, .unset, .unset] [(.ref b1152)] (fun t k => ?_) ?_
  ·refine XS.astore X1154.here hx rfl (D at_123) rfl rfl (l' := #[iv p0, iv p1, iv p2, iv p3, iv p4, iv p5, rv b1141, iv (0:Int32), iv w0_4, iv (w0_4 / (2:Int32)), iv w0_5, iv w0_6, iv w0_7, iv w0_8, rv b1152, .unset, .unset, .unset, .unset, .unset, .unset, .unset, .unset, .unset, .unset, .unset, .unset, .unset, .unset, .unset, .unset]) rfl ?_
   refine XS.iload X1154.here hx rfl (D at_125) rfl ?_
   refine XS.iconst X1154.here hx rfl (D at_127) ?_
   refine XS.icmpYes X1154.here hx rfl (pc0 := 128) (pc' := 138) rfl (D at_128) rfl (XT.ii_lt_t (by decide)) (by decide) (by decide) ?_
   refine XS.iload X1154.here hx rfl (D at_138) rfl ?_
   refine XS.iconst X1154.here hx rfl (D at_140) ?_
   refine XS.icmpYes X1154.here hx rfl (pc0 := 141) (pc' := 151) rfl (D at_141) rfl (XT.ii_lt_t (by decide)) (by decide) (by decide) ?_
   refine XS.iload X1154.here hx rfl (D at_151) rfl ?_
   refine XS.iconst X1154.here hx rfl (D at_153) ?_
   refine XS.icmpYes X1154.here hx rfl (pc0 := 154) (pc' := 164) rfl (D at_154) rfl (XT.ii_lt_t (by decide)) (by decide) (by decide) ?_
   exact XS.aload X1154.here hx rfl (D at_164) rfl rfl k
  have F1195 := (A1152.keep K1154)
  have F1196 := (F1155.keep K1154 (ninS ne_b1141_b1152 nin0))
  refine own_virtG X1154 hx hZ (y := own_y4) hown (own_h hw 28 rfl) (own_h hw 29 rfl) (own_h hw 31 rfl) (own_h hw 30 rfl) (own_h hw 32 rfl) (own_h hw 4 rfl) (by decide) (W := 0) (rm4m0 l Z aZ hw [] b1152 b1141 mv_1156 gr_1157 gl_1158 gs_1159 w0_1 w0_2 w0_3 (0:Int32) (0:Int32) (0:Int32) T1154.heap n0 Z1181 F1195 G1174 G1170 G1171 G1172 G1173 G1175 G1176 F1196 G1177 G1178 G1179 G1180 (Ne.symm ne_b1141_b1152) ne1183 ne1186 ne1189 ne1192 ne1182 ne1185 ne1188 ne1191 ne1164 ne1165 ne1166 ne1167 ne1168 ne1169 ge_b1152 ge1187 ge1190 ge1193) (by decide) (by decide) rfl F1195 rfl (by rw [hml]; rfl) (argsL := []) (rest := []) (lenOf own_pd1 rfl) rfl (by show 2 * 0 + _ ≤ _; exact Nat.le_of_eq rfl) (D at_166) rfl (by decide) (by decide) (fun v T1194 L1194 X1194 hQ1194 => ?_)
  obtain ⟨rfl, N1194q, K1194, G1201, G1202, G1203, G1204, G1205, G1206, G1207, G1208, G1209, G1210⟩ := hQ1194
  have N1194 := Fr.app N1154 N1194q
  have Z1211 : n0 ≤ T1194.heap.size := Nat.le_trans Z1181 K1194.1
  have G1213 : Fld Z T1194.heap b1152 "com/example/spare_calculus/sparecalculus/bisim/LabelGroups" "groupCount" "I" (.int (own_v1212 w0_1 w0_2 w0_3)) := G1207
  have G1215 : own_Ints Z T1194.heap gr_1157 (own_v1214 w0_1 w0_2 w0_3) := G1208
  have G1217 : own_Ints Z T1194.heap gl_1158 (own_v1216 w0_1 w0_2 w0_3) := G1209
  have G1219 : own_Ints Z T1194.heap gs_1159 (own_v1218 w0_1 w0_2 w0_3) := G1210
  have F1221 := (F1196.keep K1194 (ninS ne_b1141_b1152 (ninS ne1185 (ninS ne1188 (ninS ne1191 nin0)))))
  have hbn1223 : own_In (w0_4 / (2:Int32)) [w0_1, w0_2, w0_3].length := (by subst hw0_5 hw0_6 hw0_7 hw0_8; exact own_fin1222 w0_1 (own_m3 _ _ hw0_1) w0_2 (own_m3 _ _ hw0_2) w0_3 (own_m3 _ _ hw0_3) w0_4 (own_m6 _ _ hw0_4))
  have hbn1225 : own_In w0_7 [w0_1, w0_2, w0_3].length := (by subst hw0_5 hw0_6 hw0_7 hw0_8; exact own_fin1224 w0_1 (own_m3 _ _ hw0_1) w0_2 (own_m3 _ _ hw0_2) w0_3 (own_m3 _ _ hw0_3) w0_4 (own_m6 _ _ hw0_4))
  have hbn1227 : own_In w0_8 [w0_1, w0_2, w0_3].length := (by subst hw0_5 hw0_6 hw0_7 hw0_8; exact own_fin1226 w0_1 (own_m3 _ _ hw0_1) w0_2 (own_m3 _ _ hw0_2) w0_3 (own_m3 _ _ hw0_3) w0_4 (own_m6 _ _ hw0_4))
  have hd318_5 : (own_v1220 w0_1 w0_2 w0_3) = (0:Int32) := (by subst hw0_5 hw0_6 hw0_7 hw0_8; exact own_fin1228 w0_1 (own_m3 _ _ hw0_1) w0_2 (own_m3 _ _ hw0_2) w0_3 (own_m3 _ _ hw0_3))
  refine own_pA T1194 m 332 #[.val (.int p0), .val (.int p1), .val (.int p2), .val (.int p3), .val (.int p4), .val (.int p5), .val (.ref b1141), .val (.int (0:Int32)), .val (.int w0_4), .val (.int (w0_4 / (2:Int32))), .val (.int w0_5), .val (.int w0_6), .val (.int w0_7), .val (.int w0_8), .val (.ref b1152), .val (.int (own_v1220 w0_1 w0_2 w0_3)), .val (.int (own_at [w0_1, w0_2, w0_3] (w0_4 / (2:Int32)))), .val (.int (own_at [w0_1, w0_2, w0_3] w0_7)), .val (.int (own_at [w0_1, w0_2, w0_3] w0_8)), .val (.int (9:Int32)), .val (.int (9:Int32)), .val (.int (9:Int32)), .val (.int (0:Int32)), .val (.int (1:Int32)), .unset, .unset, .unset, .unset, .unset, .unset, .unset] [(.int (9:Int32)), (.int (9:Int32))] (fun t k => ?_) ?_
  ·refine XS.istore X1194.here hx rfl (D at_169) rfl (l' := #[iv p0, iv p1, iv p2, iv p3, iv p4, iv p5, rv b1141, iv (0:Int32), iv w0_4, iv (w0_4 / (2:Int32)), iv w0_5, iv w0_6, iv w0_7, iv w0_8, rv b1152, iv (own_v1220 w0_1 w0_2 w0_3), .unset, .unset, .unset, .unset, .unset, .unset, .unset, .unset, .unset, .unset, .unset, .unset, .unset, .unset, .unset]) rfl ?_
   refine XS.aload X1194.here hx rfl (D at_171) rfl rfl ?_
   refine XS.iload X1194.here hx rfl (D at_173) rfl ?_
   refine own_iaload X1194 hx hZ rfl F1221 hbn1223 rfl rfl (D at_175) ?_
   refine XS.istore X1194.here hx rfl (D at_176) rfl (l' := #[.val (.int p0), .val (.int p1), .val (.int p2), .val (.int p3), .val (.int p4), .val (.int p5), .val (.ref b1141), .val (.int (0:Int32)), .val (.int w0_4), .val (.int (w0_4 / (2:Int32))), .val (.int w0_5), .val (.int w0_6), .val (.int w0_7), .val (.int w0_8), .val (.ref b1152), .val (.int (own_v1220 w0_1 w0_2 w0_3)), .val (.int (own_at [w0_1, w0_2, w0_3] (w0_4 / (2:Int32)))), .unset, .unset, .unset, .unset, .unset, .unset, .unset, .unset, .unset, .unset, .unset, .unset, .unset, .unset]) rfl ?_
   refine XS.aload X1194.here hx rfl (D at_178) rfl rfl ?_
   refine XS.iload X1194.here hx rfl (D at_180) rfl ?_
   refine own_iaload X1194 hx hZ rfl F1221 hbn1225 rfl rfl (D at_182) ?_
   refine XS.istore X1194.here hx rfl (D at_183) rfl (l' := #[.val (.int p0), .val (.int p1), .val (.int p2), .val (.int p3), .val (.int p4), .val (.int p5), .val (.ref b1141), .val (.int (0:Int32)), .val (.int w0_4), .val (.int (w0_4 / (2:Int32))), .val (.int w0_5), .val (.int w0_6), .val (.int w0_7), .val (.int w0_8), .val (.ref b1152), .val (.int (own_v1220 w0_1 w0_2 w0_3)), .val (.int (own_at [w0_1, w0_2, w0_3] (w0_4 / (2:Int32)))), .val (.int (own_at [w0_1, w0_2, w0_3] w0_7)), .unset, .unset, .unset, .unset, .unset, .unset, .unset, .unset, .unset, .unset, .unset, .unset, .unset]) rfl ?_
   refine XS.aload X1194.here hx rfl (D at_185) rfl rfl ?_
   refine XS.iload X1194.here hx rfl (D at_187) rfl ?_
   refine own_iaload X1194 hx hZ rfl F1221 hbn1227 rfl rfl (D at_189) ?_
   refine XS.istore X1194.here hx rfl (D at_190) rfl (l' := #[.val (.int p0), .val (.int p1), .val (.int p2), .val (.int p3), .val (.int p4), .val (.int p5), .val (.ref b1141), .val (.int (0:Int32)), .val (.int w0_4), .val (.int (w0_4 / (2:Int32))), .val (.int w0_5), .val (.int w0_6), .val (.int w0_7), .val (.int w0_8), .val (.ref b1152), .val (.int (own_v1220 w0_1 w0_2 w0_3)), .val (.int (own_at [w0_1, w0_2, w0_3] (w0_4 / (2:Int32)))), .val (.int (own_at [w0_1, w0_2, w0_3] w0_7)), .val (.int (own_at [w0_1, w0_2, w0_3] w0_8)), .unset, .unset, .unset, .unset, .unset, .unset, .unset, .unset, .unset, .unset, .unset, .unset]) rfl ?_
   refine XS.iload X1194.here hx rfl (D at_192) rfl ?_
   refine XS.iconst X1194.here hx rfl (D at_194) ?_
   refine XS.icmpYes X1194.here hx rfl (pc0 := 195) (pc' := 202) rfl (D at_195) rfl (XT.ii_lt_t (by decide)) (by decide) (by decide) ?_
   refine XS.bipush X1194.here hx rfl (D at_202) ?_
   refine XS.istore X1194.here hx rfl (D at_204) rfl (l' := #[.val (.int p0), .val (.int p1), .val (.int p2), .val (.int p3), .val (.int p4), .val (.int p5), .val (.ref b1141), .val (.int (0:Int32)), .val (.int w0_4), .val (.int (w0_4 / (2:Int32))), .val (.int w0_5), .val (.int w0_6), .val (.int w0_7), .val (.int w0_8), .val (.ref b1152), .val (.int (own_v1220 w0_1 w0_2 w0_3)), .val (.int (own_at [w0_1, w0_2, w0_3] (w0_4 / (2:Int32)))), .val (.int (own_at [w0_1, w0_2, w0_3] w0_7)), .val (.int (own_at [w0_1, w0_2, w0_3] w0_8)), .val (.int (9:Int32)), .unset, .unset, .unset, .unset, .unset, .unset, .unset, .unset, .unset, .unset, .unset]) rfl ?_
   refine XS.iload X1194.here hx rfl (D at_206) rfl ?_
   refine XS.iconst X1194.here hx rfl (D at_208) ?_
   refine XS.icmpYes X1194.here hx rfl (pc0 := 209) (pc' := 227) rfl (D at_209) rfl (XT.ii_lt_t (by decide)) (by decide) (by decide) ?_
   refine XS.bipush X1194.here hx rfl (D at_227) ?_
   refine XS.istore X1194.here hx rfl (D at_229) rfl (l' := #[.val (.int p0), .val (.int p1), .val (.int p2), .val (.int p3), .val (.int p4), .val (.int p5), .val (.ref b1141), .val (.int (0:Int32)), .val (.int w0_4), .val (.int (w0_4 / (2:Int32))), .val (.int w0_5), .val (.int w0_6), .val (.int w0_7), .val (.int w0_8), .val (.ref b1152), .val (.int (own_v1220 w0_1 w0_2 w0_3)), .val (.int (own_at [w0_1, w0_2, w0_3] (w0_4 / (2:Int32)))), .val (.int (own_at [w0_1, w0_2, w0_3] w0_7)), .val (.int (own_at [w0_1, w0_2, w0_3] w0_8)), .val (.int (9:Int32)), .val (.int (9:Int32)), .unset, .unset, .unset, .unset, .unset, .unset, .unset, .unset, .unset, .unset]) rfl ?_
   refine XS.iload X1194.here hx rfl (D at_231) rfl ?_
   refine XS.iconst X1194.here hx rfl (D at_233) ?_
   refine XS.icmpYes X1194.here hx rfl (pc0 := 234) (pc' := 267) rfl (D at_234) rfl (XT.ii_lt_t (by decide)) (by decide) (by decide) ?_
   refine XS.bipush X1194.here hx rfl (D at_267) ?_
   refine XS.istore X1194.here hx rfl (D at_269) rfl (l' := #[.val (.int p0), .val (.int p1), .val (.int p2), .val (.int p3), .val (.int p4), .val (.int p5), .val (.ref b1141), .val (.int (0:Int32)), .val (.int w0_4), .val (.int (w0_4 / (2:Int32))), .val (.int w0_5), .val (.int w0_6), .val (.int w0_7), .val (.int w0_8), .val (.ref b1152), .val (.int (own_v1220 w0_1 w0_2 w0_3)), .val (.int (own_at [w0_1, w0_2, w0_3] (w0_4 / (2:Int32)))), .val (.int (own_at [w0_1, w0_2, w0_3] w0_7)), .val (.int (own_at [w0_1, w0_2, w0_3] w0_8)), .val (.int (9:Int32)), .val (.int (9:Int32)), .val (.int (9:Int32)), .unset, .unset, .unset, .unset, .unset, .unset, .unset, .unset, .unset]) rfl ?_
   refine XS.iload X1194.here hx rfl (D at_271) rfl ?_
   refine XS.ifNo X1194.here hx rfl (D at_273) rfl (XT.i0_ne_f rfl) ?_
   refine XS.iconst X1194.here hx rfl (D at_276) ?_
   refine XS.goto X1194.here hx rfl (pc0 := 277) (pc' := 312) rfl (D at_277) (by decide) (by decide) ?_
   refine XS.istore X1194.here hx rfl (D at_312) rfl (l' := #[.val (.int p0), .val (.int p1), .val (.int p2), .val (.int p3), .val (.int p4), .val (.int p5), .val (.ref b1141), .val (.int (0:Int32)), .val (.int w0_4), .val (.int (w0_4 / (2:Int32))), .val (.int w0_5), .val (.int w0_6), .val (.int w0_7), .val (.int w0_8), .val (.ref b1152), .val (.int (own_v1220 w0_1 w0_2 w0_3)), .val (.int (own_at [w0_1, w0_2, w0_3] (w0_4 / (2:Int32)))), .val (.int (own_at [w0_1, w0_2, w0_3] w0_7)), .val (.int (own_at [w0_1, w0_2, w0_3] w0_8)), .val (.int (9:Int32)), .val (.int (9:Int32)), .val (.int (9:Int32)), .val (.int (0:Int32)), .unset, .unset, .unset, .unset, .unset, .unset, .unset, .unset]) rfl ?_
   refine XS.iload X1194.here hx rfl (D at_314) rfl ?_
   refine XS.iload X1194.here hx rfl (D at_316) rfl ?_
   refine XS.icmpNo X1194.here hx rfl (D at_318) rfl (XT.ii_ne_f hd318_5) ?_
   refine XS.iconst X1194.here hx rfl (D at_321) ?_
   refine XS.goto X1194.here hx rfl (pc0 := 322) (pc' := 326) rfl (D at_322) (by decide) (by decide) ?_
   refine XS.istore X1194.here hx rfl (D at_326) rfl (l' := #[.val (.int p0), .val (.int p1), .val (.int p2), .val (.int p3), .val (.int p4), .val (.int p5), .val (.ref b1141), .val (.int (0:Int32)), .val (.int w0_4), .val (.int (w0_4 / (2:Int32))), .val (.int w0_5), .val (.int w0_6), .val (.int w0_7), .val (.int w0_8), .val (.ref b1152), .val (.int (own_v1220 w0_1 w0_2 w0_3)), .val (.int (own_at [w0_1, w0_2, w0_3] (w0_4 / (2:Int32)))), .val (.int (own_at [w0_1, w0_2, w0_3] w0_7)), .val (.int (own_at [w0_1, w0_2, w0_3] w0_8)), .val (.int (9:Int32)), .val (.int (9:Int32)), .val (.int (9:Int32)), .val (.int (0:Int32)), .val (.int (1:Int32)), .unset, .unset, .unset, .unset, .unset, .unset, .unset]) rfl ?_
   refine XS.iload X1194.here hx rfl (D at_328) rfl ?_
   exact XS.iload X1194.here hx rfl (D at_330) rfl k
  refine own_callSG X1194 hx hZ (y := own_y5) hown (own_h hw 35 rfl) (own_h hw 36 rfl) (own_h hw 37 rfl) (own_h hw 38 rfl) (by decide) (W := 0) (rm5 l Z aZ hw [] (9:Int32) (9:Int32) T1194.heap n0 Z1211 ) (by decide) (by decide) rfl (by rw [hml]; rfl) (argsL := [(.int (9:Int32)), (.int (9:Int32))]) (rest := []) (lenOf own_pd2 rfl) rfl (by show 2 * 0 + _ ≤ _; exact Nat.le_of_eq rfl) (D at_332) rfl rfl (by decide) (by decide) (fun v T1229 L1229 X1229 hQ1229 => ?_)
  obtain ⟨rfl, N1229q, eh1229⟩ := hQ1229
  have N1229 := Fr.app N1194 N1229q
  refine own_pA T1229 m 339 #[.val (.int p0), .val (.int p1), .val (.int p2), .val (.int p3), .val (.int p4), .val (.int p5), .val (.ref b1141), .val (.int (0:Int32)), .val (.int w0_4), .val (.int (w0_4 / (2:Int32))), .val (.int w0_5), .val (.int w0_6), .val (.int w0_7), .val (.int w0_8), .val (.ref b1152), .val (.int (own_v1220 w0_1 w0_2 w0_3)), .val (.int (own_at [w0_1, w0_2, w0_3] (w0_4 / (2:Int32)))), .val (.int (own_at [w0_1, w0_2, w0_3] w0_7)), .val (.int (own_at [w0_1, w0_2, w0_3] w0_8)), .val (.int (9:Int32)), .val (.int (9:Int32)), .val (.int (9:Int32)), .val (.int (0:Int32)), .val (.int (1:Int32)), .unset, .unset, .unset, .unset, .unset, .unset, .unset] [(.int (9:Int32)), (.int (9:Int32)), (.int (f5 (9:Int32) (9:Int32)))] (fun t k => ?_) ?_
  ·refine XS.iload X1229.here hx rfl (D at_335) rfl ?_
   exact XS.iload X1229.here hx rfl (D at_337) rfl k
  refine own_callSG X1229 hx hZ (y := own_y5) hown (own_h hw 35 rfl) (own_h hw 36 rfl) (own_h hw 37 rfl) (own_h hw 38 rfl) (by decide) (W := 1) (rm5 l Z aZ hw [] (9:Int32) (9:Int32) T1194.heap n0 Z1211 ) (by decide) (by decide) rfl (by rw [hml]; rfl) (argsL := [(.int (9:Int32)), (.int (9:Int32))]) (rest := [(.int (f5 (9:Int32) (9:Int32)))]) (lenOf own_pd2 rfl) rfl (by show 2 * 0 + _ ≤ _; exact Nat.le_of_eq rfl) (D at_339) rfl eh1229 (by decide) (by decide) (fun v T1230 L1230 X1230 hQ1230 => ?_)
  obtain ⟨rfl, N1230q, eh1230⟩ := hQ1230
  have N1230 := Fr.app N1229 N1230q
  refine own_pA T1230 m 349 #[.val (.int p0), .val (.int p1), .val (.int p2), .val (.int p3), .val (.int p4), .val (.int p5), .val (.ref b1141), .val (.int (0:Int32)), .val (.int w0_4), .val (.int (w0_4 / (2:Int32))), .val (.int w0_5), .val (.int w0_6), .val (.int w0_7), .val (.int w0_8), .val (.ref b1152), .val (.int (own_v1220 w0_1 w0_2 w0_3)), .val (.int (own_at [w0_1, w0_2, w0_3] (w0_4 / (2:Int32)))), .val (.int (own_at [w0_1, w0_2, w0_3] w0_7)), .val (.int (own_at [w0_1, w0_2, w0_3] w0_8)), .val (.int (9:Int32)), .val (.int (9:Int32)), .val (.int (9:Int32)), .val (.int (0:Int32)), .val (.int (1:Int32)), .val (.int ((f5 (9:Int32) (9:Int32)) + (f5 (9:Int32) (9:Int32)))), .unset, .unset, .unset, .unset, .unset, .unset] [(.int (9:Int32)), (.int (9:Int32))] (fun t k => ?_) ?_
  ·refine XS.iadd X1230.here hx rfl (D at_342) rfl ?_
   refine XS.istore X1230.here hx rfl (D at_343) rfl (l' := #[.val (.int p0), .val (.int p1), .val (.int p2), .val (.int p3), .val (.int p4), .val (.int p5), .val (.ref b1141), .val (.int (0:Int32)), .val (.int w0_4), .val (.int (w0_4 / (2:Int32))), .val (.int w0_5), .val (.int w0_6), .val (.int w0_7), .val (.int w0_8), .val (.ref b1152), .val (.int (own_v1220 w0_1 w0_2 w0_3)), .val (.int (own_at [w0_1, w0_2, w0_3] (w0_4 / (2:Int32)))), .val (.int (own_at [w0_1, w0_2, w0_3] w0_7)), .val (.int (own_at [w0_1, w0_2, w0_3] w0_8)), .val (.int (9:Int32)), .val (.int (9:Int32)), .val (.int (9:Int32)), .val (.int (0:Int32)), .val (.int (1:Int32)), .val (.int ((f5 (9:Int32) (9:Int32)) + (f5 (9:Int32) (9:Int32)))), .unset, .unset, .unset, .unset, .unset, .unset]) rfl ?_
   refine XS.iload X1230.here hx rfl (D at_345) rfl ?_
   exact XS.iload X1230.here hx rfl (D at_347) rfl k
  refine own_callSG X1230 hx hZ (y := own_y5) hown (own_h hw 35 rfl) (own_h hw 36 rfl) (own_h hw 37 rfl) (own_h hw 38 rfl) (by decide) (W := 0) (rm5 l Z aZ hw [] (9:Int32) (9:Int32) T1194.heap n0 Z1211 ) (by decide) (by decide) rfl (by rw [hml]; rfl) (argsL := [(.int (9:Int32)), (.int (9:Int32))]) (rest := []) (lenOf own_pd2 rfl) rfl (by show 2 * 0 + _ ≤ _; exact Nat.le_of_eq rfl) (D at_349) rfl eh1230 (by decide) (by decide) (fun v T1231 L1231 X1231 hQ1231 => ?_)
  obtain ⟨rfl, N1231q, eh1231⟩ := hQ1231
  have N1231 := Fr.app N1230 N1231q
  refine own_pA T1231 m 356 #[.val (.int p0), .val (.int p1), .val (.int p2), .val (.int p3), .val (.int p4), .val (.int p5), .val (.ref b1141), .val (.int (0:Int32)), .val (.int w0_4), .val (.int (w0_4 / (2:Int32))), .val (.int w0_5), .val (.int w0_6), .val (.int w0_7), .val (.int w0_8), .val (.ref b1152), .val (.int (own_v1220 w0_1 w0_2 w0_3)), .val (.int (own_at [w0_1, w0_2, w0_3] (w0_4 / (2:Int32)))), .val (.int (own_at [w0_1, w0_2, w0_3] w0_7)), .val (.int (own_at [w0_1, w0_2, w0_3] w0_8)), .val (.int (9:Int32)), .val (.int (9:Int32)), .val (.int (9:Int32)), .val (.int (0:Int32)), .val (.int (1:Int32)), .val (.int ((f5 (9:Int32) (9:Int32)) + (f5 (9:Int32) (9:Int32)))), .unset, .unset, .unset, .unset, .unset, .unset] [(.int (9:Int32)), (.int (9:Int32)), (.int (f5 (9:Int32) (9:Int32)))] (fun t k => ?_) ?_
  ·refine XS.iload X1231.here hx rfl (D at_352) rfl ?_
   exact XS.iload X1231.here hx rfl (D at_354) rfl k
  refine own_callSG X1231 hx hZ (y := own_y5) hown (own_h hw 35 rfl) (own_h hw 36 rfl) (own_h hw 37 rfl) (own_h hw 38 rfl) (by decide) (W := 1) (rm5 l Z aZ hw [] (9:Int32) (9:Int32) T1194.heap n0 Z1211 ) (by decide) (by decide) rfl (by rw [hml]; rfl) (argsL := [(.int (9:Int32)), (.int (9:Int32))]) (rest := [(.int (f5 (9:Int32) (9:Int32)))]) (lenOf own_pd2 rfl) rfl (by show 2 * 0 + _ ≤ _; exact Nat.le_of_eq rfl) (D at_356) rfl eh1231 (by decide) (by decide) (fun v T1232 L1232 X1232 hQ1232 => ?_)
  obtain ⟨rfl, N1232q, eh1232⟩ := hQ1232
  have N1232 := Fr.app N1231 N1232q
  refine own_pA T1232 m 364 #[.val (.int p0), .val (.int p1), .val (.int p2), .val (.int p3), .val (.int p4), .val (.int p5), .val (.ref b1141), .val (.int (0:Int32)), .val (.int w0_4), .val (.int (w0_4 / (2:Int32))), .val (.int w0_5), .val (.int w0_6), .val (.int w0_7), .val (.int w0_8), .val (.ref b1152), .val (.int (own_v1220 w0_1 w0_2 w0_3)), .val (.int (own_at [w0_1, w0_2, w0_3] (w0_4 / (2:Int32)))), .val (.int (own_at [w0_1, w0_2, w0_3] w0_7)), .val (.int (own_at [w0_1, w0_2, w0_3] w0_8)), .val (.int (9:Int32)), .val (.int (9:Int32)), .val (.int (9:Int32)), .val (.int (0:Int32)), .val (.int (1:Int32)), .val (.int ((f5 (9:Int32) (9:Int32)) + (f5 (9:Int32) (9:Int32)))), .unset, .unset, .unset, .unset, .unset, .unset] [(.int (9:Int32)), (.int (9:Int32)), (.int ((f5 (9:Int32) (9:Int32)) + (f5 (9:Int32) (9:Int32))))] (fun t k => ?_) ?_
  ·refine XS.iadd X1232.here hx rfl (D at_359) rfl ?_
   refine XS.iload X1232.here hx rfl (D at_360) rfl ?_
   exact XS.iload X1232.here hx rfl (D at_362) rfl k
  refine own_callSG X1232 hx hZ (y := own_y6) hown (own_h hw 39 rfl) (own_h hw 40 rfl) (own_h hw 37 rfl) (own_h hw 41 rfl) (by decide) (W := 1) (rm6 l Z aZ hw [] (9:Int32) (9:Int32) T1194.heap n0 Z1211 ) (by decide) (by decide) rfl (by rw [hml]; rfl) (argsL := [(.int (9:Int32)), (.int (9:Int32))]) (rest := [(.int ((f5 (9:Int32) (9:Int32)) + (f5 (9:Int32) (9:Int32))))]) (lenOf own_pd2 rfl) rfl (by show 2 * 0 + _ ≤ _; exact Nat.le_of_eq rfl) (D at_364) rfl eh1232 (by decide) (by decide) (fun v T1233 L1233 X1233 hQ1233 => ?_)
  obtain ⟨rfl, N1233q, eh1233⟩ := hQ1233
  have N1233 := Fr.app N1232 N1233q
  refine own_pA T1233 m 374 #[.val (.int p0), .val (.int p1), .val (.int p2), .val (.int p3), .val (.int p4), .val (.int p5), .val (.ref b1141), .val (.int (0:Int32)), .val (.int w0_4), .val (.int (w0_4 / (2:Int32))), .val (.int w0_5), .val (.int w0_6), .val (.int w0_7), .val (.int w0_8), .val (.ref b1152), .val (.int (own_v1220 w0_1 w0_2 w0_3)), .val (.int (own_at [w0_1, w0_2, w0_3] (w0_4 / (2:Int32)))), .val (.int (own_at [w0_1, w0_2, w0_3] w0_7)), .val (.int (own_at [w0_1, w0_2, w0_3] w0_8)), .val (.int (9:Int32)), .val (.int (9:Int32)), .val (.int (9:Int32)), .val (.int (0:Int32)), .val (.int (1:Int32)), .val (.int ((f5 (9:Int32) (9:Int32)) + (f5 (9:Int32) (9:Int32)))), .val (.int (((f5 (9:Int32) (9:Int32)) + (f5 (9:Int32) (9:Int32))) + (f6 (9:Int32) (9:Int32)))), .unset, .unset, .unset, .unset, .unset] [(.int (9:Int32)), (.int (9:Int32))] (fun t k => ?_) ?_
  ·refine XS.iadd X1233.here hx rfl (D at_367) rfl ?_
   refine XS.istore X1233.here hx rfl (D at_368) rfl (l' := #[.val (.int p0), .val (.int p1), .val (.int p2), .val (.int p3), .val (.int p4), .val (.int p5), .val (.ref b1141), .val (.int (0:Int32)), .val (.int w0_4), .val (.int (w0_4 / (2:Int32))), .val (.int w0_5), .val (.int w0_6), .val (.int w0_7), .val (.int w0_8), .val (.ref b1152), .val (.int (own_v1220 w0_1 w0_2 w0_3)), .val (.int (own_at [w0_1, w0_2, w0_3] (w0_4 / (2:Int32)))), .val (.int (own_at [w0_1, w0_2, w0_3] w0_7)), .val (.int (own_at [w0_1, w0_2, w0_3] w0_8)), .val (.int (9:Int32)), .val (.int (9:Int32)), .val (.int (9:Int32)), .val (.int (0:Int32)), .val (.int (1:Int32)), .val (.int ((f5 (9:Int32) (9:Int32)) + (f5 (9:Int32) (9:Int32)))), .val (.int (((f5 (9:Int32) (9:Int32)) + (f5 (9:Int32) (9:Int32))) + (f6 (9:Int32) (9:Int32)))), .unset, .unset, .unset, .unset, .unset]) rfl ?_
   refine XS.iload X1233.here hx rfl (D at_370) rfl ?_
   exact XS.iload X1233.here hx rfl (D at_372) rfl k
  refine own_callSG X1233 hx hZ (y := own_y5) hown (own_h hw 35 rfl) (own_h hw 36 rfl) (own_h hw 37 rfl) (own_h hw 38 rfl) (by decide) (W := 0) (rm5 l Z aZ hw [] (9:Int32) (9:Int32) T1194.heap n0 Z1211 ) (by decide) (by decide) rfl (by rw [hml]; rfl) (argsL := [(.int (9:Int32)), (.int (9:Int32))]) (rest := []) (lenOf own_pd2 rfl) rfl (by show 2 * 0 + _ ≤ _; exact Nat.le_of_eq rfl) (D at_374) rfl eh1233 (by decide) (by decide) (fun v T1234 L1234 X1234 hQ1234 => ?_)
  obtain ⟨rfl, N1234q, eh1234⟩ := hQ1234
  have N1234 := Fr.app N1233 N1234q
  refine own_pA T1234 m 381 #[.val (.int p0), .val (.int p1), .val (.int p2), .val (.int p3), .val (.int p4), .val (.int p5), .val (.ref b1141), .val (.int (0:Int32)), .val (.int w0_4), .val (.int (w0_4 / (2:Int32))), .val (.int w0_5), .val (.int w0_6), .val (.int w0_7), .val (.int w0_8), .val (.ref b1152), .val (.int (own_v1220 w0_1 w0_2 w0_3)), .val (.int (own_at [w0_1, w0_2, w0_3] (w0_4 / (2:Int32)))), .val (.int (own_at [w0_1, w0_2, w0_3] w0_7)), .val (.int (own_at [w0_1, w0_2, w0_3] w0_8)), .val (.int (9:Int32)), .val (.int (9:Int32)), .val (.int (9:Int32)), .val (.int (0:Int32)), .val (.int (1:Int32)), .val (.int ((f5 (9:Int32) (9:Int32)) + (f5 (9:Int32) (9:Int32)))), .val (.int (((f5 (9:Int32) (9:Int32)) + (f5 (9:Int32) (9:Int32))) + (f6 (9:Int32) (9:Int32)))), .unset, .unset, .unset, .unset, .unset] [(.int (9:Int32)), (.int (9:Int32)), (.int (f5 (9:Int32) (9:Int32)))] (fun t k => ?_) ?_
  ·refine XS.iload X1234.here hx rfl (D at_377) rfl ?_
   exact XS.iload X1234.here hx rfl (D at_379) rfl k
  refine own_callSG X1234 hx hZ (y := own_y5) hown (own_h hw 35 rfl) (own_h hw 36 rfl) (own_h hw 37 rfl) (own_h hw 38 rfl) (by decide) (W := 1) (rm5 l Z aZ hw [] (9:Int32) (9:Int32) T1194.heap n0 Z1211 ) (by decide) (by decide) rfl (by rw [hml]; rfl) (argsL := [(.int (9:Int32)), (.int (9:Int32))]) (rest := [(.int (f5 (9:Int32) (9:Int32)))]) (lenOf own_pd2 rfl) rfl (by show 2 * 0 + _ ≤ _; exact Nat.le_of_eq rfl) (D at_381) rfl eh1234 (by decide) (by decide) (fun v T1235 L1235 X1235 hQ1235 => ?_)
  obtain ⟨rfl, N1235q, eh1235⟩ := hQ1235
  have N1235 := Fr.app N1234 N1235q
  refine own_pA T1235 m 389 #[.val (.int p0), .val (.int p1), .val (.int p2), .val (.int p3), .val (.int p4), .val (.int p5), .val (.ref b1141), .val (.int (0:Int32)), .val (.int w0_4), .val (.int (w0_4 / (2:Int32))), .val (.int w0_5), .val (.int w0_6), .val (.int w0_7), .val (.int w0_8), .val (.ref b1152), .val (.int (own_v1220 w0_1 w0_2 w0_3)), .val (.int (own_at [w0_1, w0_2, w0_3] (w0_4 / (2:Int32)))), .val (.int (own_at [w0_1, w0_2, w0_3] w0_7)), .val (.int (own_at [w0_1, w0_2, w0_3] w0_8)), .val (.int (9:Int32)), .val (.int (9:Int32)), .val (.int (9:Int32)), .val (.int (0:Int32)), .val (.int (1:Int32)), .val (.int ((f5 (9:Int32) (9:Int32)) + (f5 (9:Int32) (9:Int32)))), .val (.int (((f5 (9:Int32) (9:Int32)) + (f5 (9:Int32) (9:Int32))) + (f6 (9:Int32) (9:Int32)))), .unset, .unset, .unset, .unset, .unset] [(.int (9:Int32)), (.int (9:Int32)), (.int ((f5 (9:Int32) (9:Int32)) + (f5 (9:Int32) (9:Int32))))] (fun t k => ?_) ?_
  ·refine XS.iadd X1235.here hx rfl (D at_384) rfl ?_
   refine XS.iload X1235.here hx rfl (D at_385) rfl ?_
   exact XS.iload X1235.here hx rfl (D at_387) rfl k
  refine own_callSG X1235 hx hZ (y := own_y6) hown (own_h hw 39 rfl) (own_h hw 40 rfl) (own_h hw 37 rfl) (own_h hw 41 rfl) (by decide) (W := 1) (rm6 l Z aZ hw [] (9:Int32) (9:Int32) T1194.heap n0 Z1211 ) (by decide) (by decide) rfl (by rw [hml]; rfl) (argsL := [(.int (9:Int32)), (.int (9:Int32))]) (rest := [(.int ((f5 (9:Int32) (9:Int32)) + (f5 (9:Int32) (9:Int32))))]) (lenOf own_pd2 rfl) rfl (by show 2 * 0 + _ ≤ _; exact Nat.le_of_eq rfl) (D at_389) rfl eh1235 (by decide) (by decide) (fun v T1236 L1236 X1236 hQ1236 => ?_)
  obtain ⟨rfl, N1236q, eh1236⟩ := hQ1236
  have N1236 := Fr.app N1235 N1236q
  refine own_pA T1236 m 397 #[.val (.int p0), .val (.int p1), .val (.int p2), .val (.int p3), .val (.int p4), .val (.int p5), .val (.ref b1141), .val (.int (0:Int32)), .val (.int w0_4), .val (.int (w0_4 / (2:Int32))), .val (.int w0_5), .val (.int w0_6), .val (.int w0_7), .val (.int w0_8), .val (.ref b1152), .val (.int (own_v1220 w0_1 w0_2 w0_3)), .val (.int (own_at [w0_1, w0_2, w0_3] (w0_4 / (2:Int32)))), .val (.int (own_at [w0_1, w0_2, w0_3] w0_7)), .val (.int (own_at [w0_1, w0_2, w0_3] w0_8)), .val (.int (9:Int32)), .val (.int (9:Int32)), .val (.int (9:Int32)), .val (.int (0:Int32)), .val (.int (1:Int32)), .val (.int ((f5 (9:Int32) (9:Int32)) + (f5 (9:Int32) (9:Int32)))), .val (.int (((f5 (9:Int32) (9:Int32)) + (f5 (9:Int32) (9:Int32))) + (f6 (9:Int32) (9:Int32)))), .unset, .unset, .unset, .unset, .unset] [(.int (9:Int32)), (.int (9:Int32)), (.int (((f5 (9:Int32) (9:Int32)) + (f5 (9:Int32) (9:Int32))) + (f6 (9:Int32) (9:Int32))))] (fun t k => ?_) ?_
  ·refine XS.iadd X1236.here hx rfl (D at_392) rfl ?_
   refine XS.iload X1236.here hx rfl (D at_393) rfl ?_
   exact XS.iload X1236.here hx rfl (D at_395) rfl k
  refine own_callSG X1236 hx hZ (y := own_y6) hown (own_h hw 39 rfl) (own_h hw 40 rfl) (own_h hw 37 rfl) (own_h hw 41 rfl) (by decide) (W := 1) (rm6 l Z aZ hw [] (9:Int32) (9:Int32) T1194.heap n0 Z1211 ) (by decide) (by decide) rfl (by rw [hml]; rfl) (argsL := [(.int (9:Int32)), (.int (9:Int32))]) (rest := [(.int (((f5 (9:Int32) (9:Int32)) + (f5 (9:Int32) (9:Int32))) + (f6 (9:Int32) (9:Int32))))]) (lenOf own_pd2 rfl) rfl (by show 2 * 0 + _ ≤ _; exact Nat.le_of_eq rfl) (D at_397) rfl eh1236 (by decide) (by decide) (fun v T1237 L1237 X1237 hQ1237 => ?_)
  obtain ⟨rfl, N1237q, eh1237⟩ := hQ1237
  have N1237 := Fr.app N1236 N1237q
  refine own_pA T1237 m 650 #[.val (.int p0), .val (.int p1), .val (.int p2), .val (.int p3), .val (.int p4), .val (.int p5), .val (.ref b1141), .val (.int (0:Int32)), .val (.int w0_4), .val (.int (w0_4 / (2:Int32))), .val (.int w0_5), .val (.int w0_6), .val (.int w0_7), .val (.int w0_8), .val (.ref b1152), .val (.int (own_v1220 w0_1 w0_2 w0_3)), .val (.int (own_at [w0_1, w0_2, w0_3] (w0_4 / (2:Int32)))), .val (.int (own_at [w0_1, w0_2, w0_3] w0_7)), .val (.int (own_at [w0_1, w0_2, w0_3] w0_8)), .val (.int (9:Int32)), .val (.int (9:Int32)), .val (.int (9:Int32)), .val (.int (0:Int32)), .val (.int (1:Int32)), .val (.int ((f5 (9:Int32) (9:Int32)) + (f5 (9:Int32) (9:Int32)))), .val (.int (((f5 (9:Int32) (9:Int32)) + (f5 (9:Int32) (9:Int32))) + (f6 (9:Int32) (9:Int32)))), .val (.int ((((f5 (9:Int32) (9:Int32)) + (f5 (9:Int32) (9:Int32))) + (f6 (9:Int32) (9:Int32))) + (f6 (9:Int32) (9:Int32)))), .unset, .unset, .unset, .unset] [(.int (1:Int32))] (fun t k => ?_) ?_
  ·refine XS.iadd X1237.here hx rfl (D at_400) rfl ?_
   refine XS.istore X1237.here hx rfl (D at_401) rfl (l' := #[.val (.int p0), .val (.int p1), .val (.int p2), .val (.int p3), .val (.int p4), .val (.int p5), .val (.ref b1141), .val (.int (0:Int32)), .val (.int w0_4), .val (.int (w0_4 / (2:Int32))), .val (.int w0_5), .val (.int w0_6), .val (.int w0_7), .val (.int w0_8), .val (.ref b1152), .val (.int (own_v1220 w0_1 w0_2 w0_3)), .val (.int (own_at [w0_1, w0_2, w0_3] (w0_4 / (2:Int32)))), .val (.int (own_at [w0_1, w0_2, w0_3] w0_7)), .val (.int (own_at [w0_1, w0_2, w0_3] w0_8)), .val (.int (9:Int32)), .val (.int (9:Int32)), .val (.int (9:Int32)), .val (.int (0:Int32)), .val (.int (1:Int32)), .val (.int ((f5 (9:Int32) (9:Int32)) + (f5 (9:Int32) (9:Int32)))), .val (.int (((f5 (9:Int32) (9:Int32)) + (f5 (9:Int32) (9:Int32))) + (f6 (9:Int32) (9:Int32)))), .val (.int ((((f5 (9:Int32) (9:Int32)) + (f5 (9:Int32) (9:Int32))) + (f6 (9:Int32) (9:Int32))) + (f6 (9:Int32) (9:Int32)))), .unset, .unset, .unset, .unset]) rfl ?_
   refine XS.iload X1237.here hx rfl (D at_403) rfl ?_
   refine XS.ifNo X1237.here hx rfl (D at_405) rfl (XT.i0_eq_f (by decide)) ?_
   refine XS.iload X1237.here hx rfl (D at_408) rfl ?_
   refine XS.iconst X1237.here hx rfl (D at_410) ?_
   refine XS.icmpYes X1237.here hx rfl (pc0 := 411) (pc' := 433) rfl (D at_411) rfl (XT.ii_lt_t (by decide)) (by decide) (by decide) ?_
   refine XS.iload X1237.here hx rfl (D at_433) rfl ?_
   refine XS.ifNo X1237.here hx rfl (D at_435) rfl (XT.i0_eq_f (by decide)) ?_
   refine XS.iload X1237.here hx rfl (D at_438) rfl ?_
   refine XS.iconst X1237.here hx rfl (D at_440) ?_
   refine XS.icmpYes X1237.here hx rfl (pc0 := 441) (pc' := 463) rfl (D at_441) rfl (XT.ii_lt_t (by decide)) (by decide) (by decide) ?_
   refine XS.iload X1237.here hx rfl (D at_463) rfl ?_
   refine XS.ifNo X1237.here hx rfl (D at_465) rfl (XT.i0_eq_f (by decide)) ?_
   refine XS.iload X1237.here hx rfl (D at_468) rfl ?_
   refine XS.iconst X1237.here hx rfl (D at_470) ?_
   refine XS.icmpYes X1237.here hx rfl (pc0 := 471) (pc' := 493) rfl (D at_471) rfl (XT.ii_lt_t (by decide)) (by decide) (by decide) ?_
   refine XS.iload X1237.here hx rfl (D at_493) rfl ?_
   refine XS.ifNo X1237.here hx rfl (D at_495) rfl (XT.i0_eq_f (by decide)) ?_
   refine XS.iload X1237.here hx rfl (D at_498) rfl ?_
   refine XS.ifYes X1237.here hx rfl (pc0 := 500) (pc' := 648) rfl (D at_500) rfl (XT.i0_le_t (by decide)) (by decide) (by decide) ?_
   exact XS.iload X1237.here hx rfl (D at_648) rfl k
  exact own_end X1237 (BodyLoose.notSynchronized Bd) (fun h => by rw [Bd.returns] at h; cases h) (v := some (.int (1:Int32))) (fun fs hr => retN X1237 hx (t := .boolean) Bd.returns (by simp) (D at_650) hr) (by show Q0n0 Z p0 p1 p2 p3 p4 p5 h0 n0 _ T1237.heap _; rw [eh1237]; exact ⟨rfl, N1237⟩) (by decide) (by decide)
theorem own_pd3 : parseMethodDescriptor "(I)V" = some ⟨[.int], none⟩ := by decide +kernel
abbrev own_y3 : MethodName := (⟨"com/example/spare_calculus/sparecalculus/bisim/LabelGroups", "add", "(I)V"⟩ : MethodName)
theorem own_fin1310 : ∀ w0_1 ∈ own_L3, ∀ w0_2 ∈ own_L3, ∀ w0_3 ∈ own_L3, ∀ w0_4 ∈ own_L6, (((own_In (w0_4 / (2:Int32)) [w0_1, w0_2, w0_3].length) ∧ (own_In (own_at [w0_1, w0_2, w0_3] (w0_4 / (2:Int32))) [(0:Int32), (0:Int32), (0:Int32)].length) ∧ (own_In (own_at [w0_1, w0_2, w0_3] (w0_4 / (2:Int32))) (own_v100 w0_1 w0_2 w0_3 (w0_4 / (2:Int32))).length) ∧ (own_In (own_at [w0_1, w0_2, w0_3] (w0_4 / (2:Int32))) (own_v117 w0_1 w0_2 w0_3 (w0_4 / (2:Int32))).length) ∧ (own_In (own_at [w0_1, w0_2, w0_3] (w0_4 / (2:Int32))) (own_v137 w0_1 w0_2 w0_3 (w0_4 / (2:Int32))).length) ∧ (own_In (own_at (own_v137 w0_1 w0_2 w0_3 (w0_4 / (2:Int32))) (own_at [w0_1, w0_2, w0_3] (w0_4 / (2:Int32)))) [(0:Int32), (0:Int32), (0:Int32)].length))) := by decide +kernel
def own_v1323 (w0_1 : Int32) (w0_2 : Int32) (w0_3 : Int32) (w0_4 : Int32) : Int32 := (g4m1_gc w0_1 w0_2 w0_3 (w0_4 / (2:Int32)) (0:Int32) (0:Int32))
def own_v1325 (w0_1 : Int32) (w0_2 : Int32) (w0_3 : Int32) (w0_4 : Int32) : List Int32 := (g4m1_gr w0_1 w0_2 w0_3 (w0_4 / (2:Int32)) (0:Int32) (0:Int32))
def own_v1327 (w0_1 : Int32) (w0_2 : Int32) (w0_3 : Int32) (w0_4 : Int32) : List Int32 := (g4m1_gl w0_1 w0_2 w0_3 (w0_4 / (2:Int32)) (0:Int32) (0:Int32))
def own_v1329 (w0_1 : Int32) (w0_2 : Int32) (w0_3 : Int32) (w0_4 : Int32) : List Int32 := (g4m1_gs w0_1 w0_2 w0_3 (w0_4 / (2:Int32)) (0:Int32) (0:Int32))
def own_v1331 (w0_1 : Int32) (w0_2 : Int32) (w0_3 : Int32) (w0_4 : Int32) : Int32 := (f4m1 w0_1 w0_2 w0_3 (w0_4 / (2:Int32)) (0:Int32) (0:Int32))
theorem own_fin1333 : ∀ w0_1 ∈ own_L3, ∀ w0_2 ∈ own_L3, ∀ w0_3 ∈ own_L3, ∀ w0_4 ∈ own_L6, (own_In (w0_4 / (2:Int32)) [w0_1, w0_2, w0_3].length) := by decide +kernel
theorem own_fin1335 : ∀ w0_1 ∈ own_L3, ∀ w0_2 ∈ own_L3, ∀ w0_3 ∈ own_L3, ∀ w0_4 ∈ own_L6, (own_In (own_v1199 w0_4) [w0_1, w0_2, w0_3].length) := by decide +kernel
theorem own_fin1337 : ∀ w0_1 ∈ own_L3, ∀ w0_2 ∈ own_L3, ∀ w0_3 ∈ own_L3, ∀ w0_4 ∈ own_L6, (own_In (own_v1200 w0_4) [w0_1, w0_2, w0_3].length) := by decide +kernel
theorem own_fin1339 : ∀ w0_1 ∈ own_L3, ∀ w0_2 ∈ own_L3, ∀ w0_3 ∈ own_L3, ∀ w0_4 ∈ own_L6, ((own_v1331 w0_1 w0_2 w0_3 w0_4) = (1:Int32)) := by decide +kernel
theorem own_fin1350 : ∀ w0_1 ∈ own_L3, ∀ w0_2 ∈ own_L3, ∀ w0_3 ∈ own_L3, ∀ w0_4 ∈ own_L6, ((own_In ((f5 (9:Int32) (0:Int32)) + (f5 (9:Int32) (0:Int32))) (own_v1325 w0_1 w0_2 w0_3 w0_4).length)) := by decide +kernel
theorem own_pd4 : parseMethodDescriptor "(I)I" = some ⟨[.int], some .int⟩ := by decide +kernel
abbrev own_y7 : MethodName := (⟨"com/example/spare_calculus/sparecalculus/bisim/LabelGroups", "move", "(I)I"⟩ : MethodName)
def own_v1353 (w0_1 : Int32) (w0_2 : Int32) (w0_3 : Int32) (w0_4 : Int32) : Int32 := (f7 ((f5 (9:Int32) (0:Int32)) + (f5 (9:Int32) (0:Int32))) (own_v1325 w0_1 w0_2 w0_3 w0_4))
theorem own_fin1354 : ∀ w0_1 ∈ own_L3, ∀ w0_2 ∈ own_L3, ∀ w0_3 ∈ own_L3, ∀ w0_4 ∈ own_L6, ((own_v1353 w0_1 w0_2 w0_3 w0_4) = (w0_4 / (2:Int32))) := by decide +kernel
def own_v1356 (w0_9 : Int32) (w0_1 : Int32) (w0_2 : Int32) (w0_3 : Int32) (w0_4 : Int32) : Int32 := (if w0_9 = (0:Int32) then (own_at [w0_1, w0_2, w0_3] (w0_4 / (2:Int32))) else (own_at [w0_1, w0_2, w0_3] (own_v1200 w0_4)))
theorem own_fin1363 : ∀ w0_1 ∈ own_L3, ∀ w0_2 ∈ own_L3, ∀ w0_3 ∈ own_L3, ∀ w0_4 ∈ own_L6, ∀ w0_9 ∈ own_L3, (w0_9 < (1:Int32)) → ((own_In w0_9 (own_v1327 w0_1 w0_2 w0_3 w0_4).length)) := by decide +kernel
abbrev own_y8 : MethodName := (⟨"com/example/spare_calculus/sparecalculus/bisim/LabelGroups", "label", "(I)I"⟩ : MethodName)
def own_v1365 (w0_9 : Int32) (w0_1 : Int32) (w0_2 : Int32) (w0_3 : Int32) (w0_4 : Int32) : Int32 := (f8 w0_9 (own_v1327 w0_1 w0_2 w0_3 w0_4))
theorem own_fin1366 : ∀ w0_1 ∈ own_L3, ∀ w0_2 ∈ own_L3, ∀ w0_3 ∈ own_L3, ∀ w0_4 ∈ own_L6, ∀ w0_9 ∈ own_L3, (w0_9 < (1:Int32)) → ((own_v1365 w0_9 w0_1 w0_2 w0_3 w0_4) = (own_v1356 w0_9 w0_1 w0_2 w0_3 w0_4)) := by decide +kernel
theorem own_fin1368 : ∀ w0_1 ∈ own_L3, ∀ w0_2 ∈ own_L3, ∀ w0_3 ∈ own_L3, ∀ w0_4 ∈ own_L6, ∀ w0_9 ∈ own_L3, (w0_9 < (1:Int32)) → (((own_In w0_9 (own_v1327 w0_1 w0_2 w0_3 w0_4).length) ∧ (own_In (own_at (own_v1327 w0_1 w0_2 w0_3 w0_4) w0_9) (own_v1329 w0_1 w0_2 w0_3 w0_4).length))) := by decide +kernel
abbrev own_y9 : MethodName := (⟨"com/example/spare_calculus/sparecalculus/bisim/LabelGroups", "start", "(I)I"⟩ : MethodName)
def own_v1370 (w0_9 : Int32) (w0_1 : Int32) (w0_2 : Int32) (w0_3 : Int32) (w0_4 : Int32) : Int32 := (f9 w0_9 (own_v1327 w0_1 w0_2 w0_3 w0_4) (own_v1329 w0_1 w0_2 w0_3 w0_4))
theorem own_fin1371 : ∀ w0_1 ∈ own_L3, ∀ w0_2 ∈ own_L3, ∀ w0_3 ∈ own_L3, ∀ w0_4 ∈ own_L6, ∀ w0_9 ∈ own_L3, (w0_9 < (1:Int32)) → ((own_v1370 w0_9 w0_1 w0_2 w0_3 w0_4) = (((f5 (0:Int32) w0_9) + (f5 (9:Int32) w0_9)) + (f5 (9:Int32) w0_9))) := by decide +kernel
theorem own_fin1373 : ∀ w0_1 ∈ own_L3, ∀ w0_2 ∈ own_L3, ∀ w0_3 ∈ own_L3, ∀ w0_4 ∈ own_L6, ∀ w0_9 ∈ own_L3, (w0_9 < (1:Int32)) → ((((w0_9 + (1:Int32)) < (own_v1323 w0_1 w0_2 w0_3 w0_4) → own_In (w0_9 + (1:Int32)) (own_v1327 w0_1 w0_2 w0_3 w0_4).length) ∧ ((w0_9 + (1:Int32)) < (own_v1323 w0_1 w0_2 w0_3 w0_4) → own_In (own_at (own_v1327 w0_1 w0_2 w0_3 w0_4) (w0_9 + (1:Int32))) (own_v1329 w0_1 w0_2 w0_3 w0_4).length))) := by decide +kernel
abbrev own_y10 : MethodName := (⟨"com/example/spare_calculus/sparecalculus/bisim/LabelGroups", "end", "(I)I"⟩ : MethodName)
def own_v1375 (w0_9 : Int32) (w0_1 : Int32) (w0_2 : Int32) (w0_3 : Int32) (w0_4 : Int32) : Int32 := (f10 w0_9 (own_v1327 w0_1 w0_2 w0_3 w0_4) (own_v1329 w0_1 w0_2 w0_3 w0_4) (own_v1323 w0_1 w0_2 w0_3 w0_4) (1:Int32))
theorem own_fin1376 : ∀ w0_1 ∈ own_L3, ∀ w0_2 ∈ own_L3, ∀ w0_3 ∈ own_L3, ∀ w0_4 ∈ own_L6, ∀ w0_9 ∈ own_L3, (w0_9 < (1:Int32)) → ((own_v1375 w0_9 w0_1 w0_2 w0_3 w0_4) = (((f5 (0:Int32) (w0_9 + (1:Int32))) + (f5 (9:Int32) (w0_9 + (1:Int32)))) + (f5 (9:Int32) (w0_9 + (1:Int32))))) := by decide +kernel
theorem ef0n1 (m : MethodId) (p0 : Int32) (p1 : Int32) (p2 : Int32) (p3 : Int32) (p4 : Int32) (p5 : Int32) : entryFrame m #[(.int p0), (.int p1), (.int p2), (.int p3), (.int p4), (.int p5)] maxLocals = mkF m 0 #[iv p0, iv p1, iv p2, iv p3, iv p4, iv p5, .unset, .unset, .unset, .unset, .unset, .unset, .unset, .unset, .unset, .unset, .unset, .unset, .unset, .unset, .unset, .unset, .unset, .unset, .unset, .unset, .unset, .unset, .unset, .unset, .unset] [] := by first | (simp [entryFrame, mkF, argsToLocals, Value.category, maxLocals]; done) | rfl
def Q0n1 (Z : State) (p0 : Int32) (p1 : Int32) (p2 : Int32) (p3 : Int32) (p4 : Int32) (p5 : Int32)  (h0 : Heap) (n0 : Nat) (v : Option Value) (h : Heap) (L : List Loc) : Prop := v = some (.int (1:Int32)) ∧ Fr n0 L
set_option maxRecDepth 65536 in
set_option maxHeartbeats 40000000 in
theorem rm0n1 (l : Launch) (Z : State) (aZ : Array Value) (hw : ∀ d ∈ tables_1, d.before aZ Z = true) (ws : List Jvm.Cond) (p0 : Int32) (p1 : Int32) (p2 : Int32) (p3 : Int32) (p4 : Int32) (p5 : Int32)  (h0 : Heap) (n0 : Nat) (Z0 : n0 ≤ h0.size) (hn : (p3 &&& (3:Int32)) = (1:Int32)) :
    MetFree l x (head1 (Jvm.Cond.code x code maxLocals ret :: ws) room_1) (fun a U => a = #[(.int p0), (.int p1), (.int p2), (.int p3), (.int p4), (.int p5)] ∧ Z.Warmed39 U.vm ∧ U.heap = h0) (fun _ _ _ _ _ => True) (fun _ U o U' => ∃ v L, o = .returned v ∧ Q0n1 Z p0 p1 p2 p3 p4 p5 h0 n0 v U'.heap L ∧ FrameEnd U o U' L 6 24) := by
  refine MetFree.of_bodySF (plainFor_of_name own_pn1) hisR ?_
  intro p e s m args below meth c s₁ Bd hml0 hP hK
  obtain ⟨rfl, hZ, hh⟩ := hP
  have hx := Bd.exec
  have hby := Bd.bytes
  have hml : c.maxLocals = 31 := hml0
  have hown : s.vm.findClass "com/example/spare_calculus/sparecalculus/bisim/LabelGroupsGroupPinLaw" = some m.cls := findClass_of_methodNamed Bd.named
  have hnm := (name_of_methodNamed Bd.named Bd.method).1
  have X0 : Stand p l e room_1 s m #[(.int p0), (.int p1), (.int p2), (.int p3), (.int p4), (.int p5)] below meth c s₁ [] 0 0 := Stand.of_body Bd
  have e0 : s₁.heap = h0 := by rw [← hh, Bd.state]; rfl
  have N0 := Fr.nil n0
  have D : ∀ {pc : Nat} {r : Except ClassFile.DecodeError (ClassFile.Instr × Nat)}, decode code pc = r → decode c.code pc = r := fun h => hb hby h
  show own_Goes p e below s (Q0n1 Z p0 p1 p2 p3 p4 p5 h0 n0) 6 24 _
  refine own_pre (fun t k => castTop (ef0n1 m p0 p1 p2 p3 p4 p5) k) ?_
  refine own_pA s₁ m 1 #[iv p0, iv p1, iv p2, iv p3, iv p4, iv p5, .unset, .unset, .unset, .unset, .unset, .unset, .unset, .unset, .unset, .unset, .unset, .unset, .unset, .unset, .unset, .unset, .unset, .unset, .unset, .unset, .unset, .unset, .unset, .unset, .unset] [(.int (3:Int32))] (fun t k => ?_) ?_
  ·exact XS.iconst X0.here hx rfl (D at_0) k
  obtain ⟨T1238, h1238, k1238, X1238, e1238, E1238, A1238, st1238⟩ := newP X0 hx hZ (own_h hw 0 rfl) e0 (g := (mkF m 1 #[iv p0, iv p1, iv p2, iv p3, iv p4, iv p5, .unset, .unset, .unset, .unset, .unset, .unset, .unset, .unset, .unset, .unset, .unset, .unset, .unset, .unset, .unset, .unset, .unset, .unset, .unset, .unset, .unset, .unset, .unset, .unset, .unset] [(.int (3:Int32))])) rfl (D at_1) rfl (by decide) (cap := 3) (by decide) (by decide) (by decide) (by decide)
  obtain ⟨b1238, g1238⟩ : ∃ z, z = h0.size := ⟨_, rfl⟩
  rw [← g1238] at A1238 st1238
  have ge_b1238 : n0 ≤ b1238 := Nat.le_trans Z0 (Nat.le_of_eq g1238.symm)
  have Z1239 : n0 ≤ h1238.size := Nat.le_trans Z0 E1238.1
  have V1238 : own_Ints Z h1238 b1238 [(0:Int32), (0:Int32), (0:Int32)] := own_newI A1238 (by decide)
  refine own_pre st1238 ?_
  refine own_pA T1238 m 14 #[iv p0, iv p1, iv p2, iv p3, iv p4, iv p5, rv b1238, .unset, .unset, .unset, .unset, .unset, .unset, .unset, .unset, .unset, .unset, .unset, .unset, .unset, .unset, .unset, .unset, .unset, .unset, .unset, .unset, .unset, .unset, .unset, .unset] [(.int ((p0 &&& (2147483647:Int32)) % (3:Int32))), (.int (0:Int32)), (.ref b1238)] (fun t k => ?_) ?_
  ·refine XS.astore X1238.here hx rfl (D at_3) rfl rfl (l' := #[iv p0, iv p1, iv p2, iv p3, iv p4, iv p5, rv b1238, .unset, .unset, .unset, .unset, .unset, .unset, .unset, .unset, .unset, .unset, .unset, .unset, .unset, .unset, .unset, .unset, .unset, .unset, .unset, .unset, .unset, .unset, .unset, .unset]) rfl ?_
   refine XS.aload X1238.here hx rfl (D at_5) rfl rfl ?_
   refine XS.iconst X1238.here hx rfl (D at_7) ?_
   refine XS.iloadN X1238.here hx rfl (D at_8) rfl ?_
   refine Jvm.Stand.ldcI X1238 hx hown (mvT hZ (own_h hw 1 rfl)) rfl (D at_9) ?_
   refine XS.iand X1238.here hx rfl (D at_11) rfl ?_
   refine XS.iconst X1238.here hx rfl (D at_12) ?_
   exact iremM X1238 hx rfl (D at_13) rfl (by decide) k
  have hbn1241 : own_In (0:Int32) [(0:Int32), (0:Int32), (0:Int32)].length := own_lit rfl
  refine own_iastG X1238 hx hZ e1238 V1238 hbn1241 rfl rfl (D at_14) (fun T1240 h1240 X1240 e1240 W1240 V1240 => ?_)
  have Z1242 : n0 ≤ h1240.size := Nat.le_trans Z1239 (Nat.le_of_eq W1240.size.symm)
  have N1240 := Fr.snoc X1240 N0 ge_b1238
  obtain ⟨w0_1, hw0_1⟩ : ∃ z : Int32, z = ((p0 &&& (2147483647:Int32)) % (3:Int32)) := ⟨_, rfl⟩
  have Vw1240 : own_Ints Z h1240 b1238 [w0_1, (0:Int32), (0:Int32)] := by rw [hw0_1]; exact V1240
  refine own_pA T1240 m 24 #[iv p0, iv p1, iv p2, iv p3, iv p4, iv p5, rv b1238, .unset, .unset, .unset, .unset, .unset, .unset, .unset, .unset, .unset, .unset, .unset, .unset, .unset, .unset, .unset, .unset, .unset, .unset, .unset, .unset, .unset, .unset, .unset, .unset] [(.int ((p1 &&& (2147483647:Int32)) % (3:Int32))), (.int (1:Int32)), (.ref b1238)] (fun t k => ?_) ?_
  ·refine XS.aload X1240.here hx rfl (D at_15) rfl rfl ?_
   refine XS.iconst X1240.here hx rfl (D at_17) ?_
   refine XS.iloadN X1240.here hx rfl (D at_18) rfl ?_
   refine Jvm.Stand.ldcI X1240 hx hown (mvT hZ (own_h hw 1 rfl)) rfl (D at_19) ?_
   refine XS.iand X1240.here hx rfl (D at_21) rfl ?_
   refine XS.iconst X1240.here hx rfl (D at_22) ?_
   exact iremM X1240 hx rfl (D at_23) rfl (by decide) k
  have hbn1244 : own_In (1:Int32) [w0_1, (0:Int32), (0:Int32)].length := own_lit rfl
  refine own_iastG X1240 hx hZ e1240 Vw1240 hbn1244 rfl rfl (D at_24) (fun T1243 h1243 X1243 e1243 W1243 V1243 => ?_)
  have Z1245 : n0 ≤ h1243.size := Nat.le_trans Z1242 (Nat.le_of_eq W1243.size.symm)
  have N1243 := Fr.snoc X1243 N1240 ge_b1238
  obtain ⟨w0_2, hw0_2⟩ : ∃ z : Int32, z = ((p1 &&& (2147483647:Int32)) % (3:Int32)) := ⟨_, rfl⟩
  have Vw1243 : own_Ints Z h1243 b1238 [w0_1, w0_2, (0:Int32)] := by rw [hw0_2]; exact V1243
  refine own_pA T1243 m 34 #[iv p0, iv p1, iv p2, iv p3, iv p4, iv p5, rv b1238, .unset, .unset, .unset, .unset, .unset, .unset, .unset, .unset, .unset, .unset, .unset, .unset, .unset, .unset, .unset, .unset, .unset, .unset, .unset, .unset, .unset, .unset, .unset, .unset] [(.int ((p2 &&& (2147483647:Int32)) % (3:Int32))), (.int (2:Int32)), (.ref b1238)] (fun t k => ?_) ?_
  ·refine XS.aload X1243.here hx rfl (D at_25) rfl rfl ?_
   refine XS.iconst X1243.here hx rfl (D at_27) ?_
   refine XS.iloadN X1243.here hx rfl (D at_28) rfl ?_
   refine Jvm.Stand.ldcI X1243 hx hown (mvT hZ (own_h hw 1 rfl)) rfl (D at_29) ?_
   refine XS.iand X1243.here hx rfl (D at_31) rfl ?_
   refine XS.iconst X1243.here hx rfl (D at_32) ?_
   exact iremM X1243 hx rfl (D at_33) rfl (by decide) k
  have hbn1247 : own_In (2:Int32) [w0_1, w0_2, (0:Int32)].length := own_lit rfl
  refine own_iastG X1243 hx hZ e1243 Vw1243 hbn1247 rfl rfl (D at_34) (fun T1246 h1246 X1246 e1246 W1246 V1246 => ?_)
  have Z1248 : n0 ≤ h1246.size := Nat.le_trans Z1245 (Nat.le_of_eq W1246.size.symm)
  have N1246 := Fr.snoc X1246 N1243 ge_b1238
  obtain ⟨w0_3, hw0_3⟩ : ∃ z : Int32, z = ((p2 &&& (2147483647:Int32)) % (3:Int32)) := ⟨_, rfl⟩
  have Vw1246 : own_Ints Z h1246 b1238 [w0_1, w0_2, w0_3] := by rw [hw0_3]; exact V1246
  obtain ⟨w0_4, hw0_4⟩ : ∃ z : Int32, z = ((p4 &&& (2147483647:Int32)) % (6:Int32)) := ⟨_, rfl⟩
  refine own_pA T1246 m 58 #[iv p0, iv p1, iv p2, iv p3, iv p4, iv p5, rv b1238, iv (1:Int32), iv w0_4, iv (w0_4 / (2:Int32)), .unset, .unset, .unset, .unset, .unset, .unset, .unset, .unset, .unset, .unset, .unset, .unset, .unset, .unset, .unset, .unset, .unset, .unset, .unset, .unset, .unset] [(.int (w0_4 / (2:Int32)))] (fun t k => ?_) ?_
  ·refine XS.iloadN X1246.here hx rfl (D at_35) rfl ?_
   refine XS.iconst X1246.here hx rfl (D at_36) ?_
   refine XS.iand X1246.here hx rfl (D at_37) rfl ?_
   refine XS.istore X1246.here hx rfl (D at_38) rfl (l' := #[iv p0, iv p1, iv p2, iv p3, iv p4, iv p5, rv b1238, iv (1:Int32), .unset, .unset, .unset, .unset, .unset, .unset, .unset, .unset, .unset, .unset, .unset, .unset, .unset, .unset, .unset, .unset, .unset, .unset, .unset, .unset, .unset, .unset, .unset]) (by show storeLocals _ _ (Value.int (p3 &&& (3:Int32))) = _; rw [hn]; rfl) ?_
   refine XS.iload X1246.here hx rfl (D at_40) rfl ?_
   refine Jvm.Stand.ldcI X1246 hx hown (mvT hZ (own_h hw 1 rfl)) rfl (D at_42) ?_
   refine XS.iand X1246.here hx rfl (D at_44) rfl ?_
   refine XS.bipush X1246.here hx rfl (D at_45) ?_
   refine iremM X1246 hx rfl (D at_47) rfl (by decide) ?_
   refine XS.istore X1246.here hx rfl (D at_48) rfl (l' := #[iv p0, iv p1, iv p2, iv p3, iv p4, iv p5, rv b1238, iv (1:Int32), iv w0_4, .unset, .unset, .unset, .unset, .unset, .unset, .unset, .unset, .unset, .unset, .unset, .unset, .unset, .unset, .unset, .unset, .unset, .unset, .unset, .unset, .unset, .unset]) (by rw [hw0_4]; rfl) ?_
   refine XS.iload X1246.here hx rfl (D at_50) rfl ?_
   refine XS.iconst X1246.here hx rfl (D at_52) ?_
   refine XS.idiv X1246.here hx rfl (D at_53) rfl (by decide) ?_
   refine XS.istore X1246.here hx rfl (D at_54) rfl (l' := #[iv p0, iv p1, iv p2, iv p3, iv p4, iv p5, rv b1238, iv (1:Int32), iv w0_4, iv (w0_4 / (2:Int32)), .unset, .unset, .unset, .unset, .unset, .unset, .unset, .unset, .unset, .unset, .unset, .unset, .unset, .unset, .unset, .unset, .unset, .unset, .unset, .unset, .unset]) rfl ?_
   exact XS.iload X1246.here hx rfl (D at_56) rfl k
  obtain ⟨w0_5, hw0_5⟩ : ∃ z : Int32, z = (if (w0_4 / (2:Int32)) = (0:Int32) then (1:Int32) else (0:Int32)) := ⟨_, rfl⟩
  refine own_pre (A := T1246.setTop (mkF m 66 #[iv p0, iv p1, iv p2, iv p3, iv p4, iv p5, rv b1238, iv (1:Int32), iv w0_4, iv (w0_4 / (2:Int32)), .unset, .unset, .unset, .unset, .unset, .unset, .unset, .unset, .unset, .unset, .unset, .unset, .unset, .unset, .unset, .unset, .unset, .unset, .unset, .unset, .unset] [(.int w0_5)])) (fun t k => ?_) ?_
  ·by_cases hm58_1 : (w0_4 / (2:Int32)) = (0:Int32)
   ·refine XS.ifNo X1246.here hx rfl (D at_58) rfl (XT.i0_ne_f hm58_1) ?_
    refine XS.iconst X1246.here hx rfl (D at_61) ?_
    refine XS.goto X1246.here hx rfl (pc0 := 62) (pc' := 66) rfl (D at_62) (by decide) (by decide) ?_
    rw [hw0_5.trans (if_pos hm58_1)] at k
    exact k
   ·refine XS.ifYes X1246.here hx rfl (pc0 := 58) (pc' := 65) rfl (D at_58) rfl (XT.i0_ne_t hm58_1) (by decide) (by decide) ?_
    refine XS.iconst X1246.here hx rfl (D at_65) ?_
    rw [hw0_5.trans (if_neg hm58_1)] at k
    exact k
  refine own_pA T1246 m 71 #[iv p0, iv p1, iv p2, iv p3, iv p4, iv p5, rv b1238, iv (1:Int32), iv w0_4, iv (w0_4 / (2:Int32)), iv w0_5, .unset, .unset, .unset, .unset, .unset, .unset, .unset, .unset, .unset, .unset, .unset, .unset, .unset, .unset, .unset, .unset, .unset, .unset, .unset, .unset] [(.int (2:Int32)), (.int (w0_4 / (2:Int32)))] (fun t k => ?_) ?_
  ·refine XS.istore X1246.here hx rfl (D at_66) rfl (l' := #[iv p0, iv p1, iv p2, iv p3, iv p4, iv p5, rv b1238, iv (1:Int32), iv w0_4, iv (w0_4 / (2:Int32)), iv w0_5, .unset, .unset, .unset, .unset, .unset, .unset, .unset, .unset, .unset, .unset, .unset, .unset, .unset, .unset, .unset, .unset, .unset, .unset, .unset, .unset]) rfl ?_
   refine XS.iload X1246.here hx rfl (D at_68) rfl ?_
   exact XS.iconst X1246.here hx rfl (D at_70) k
  obtain ⟨w0_6, hw0_6⟩ : ∃ z : Int32, z = (if (w0_4 / (2:Int32)) = (2:Int32) then (1:Int32) else (2:Int32)) := ⟨_, rfl⟩
  refine own_pre (A := T1246.setTop (mkF m 79 #[iv p0, iv p1, iv p2, iv p3, iv p4, iv p5, rv b1238, iv (1:Int32), iv w0_4, iv (w0_4 / (2:Int32)), iv w0_5, .unset, .unset, .unset, .unset, .unset, .unset, .unset, .unset, .unset, .unset, .unset, .unset, .unset, .unset, .unset, .unset, .unset, .unset, .unset, .unset] [(.int w0_6)])) (fun t k => ?_) ?_
  ·by_cases hm71_2 : (w0_4 / (2:Int32)) = (2:Int32)
   ·refine XS.icmpNo X1246.here hx rfl (D at_71) rfl (XT.ii_ne_f hm71_2) ?_
    refine XS.iconst X1246.here hx rfl (D at_74) ?_
    refine XS.goto X1246.here hx rfl (pc0 := 75) (pc' := 79) rfl (D at_75) (by decide) (by decide) ?_
    rw [hw0_6.trans (if_pos hm71_2)] at k
    exact k
   ·refine XS.icmpYes X1246.here hx rfl (pc0 := 71) (pc' := 78) rfl (D at_71) rfl (XT.ii_ne_t hm71_2) (by decide) (by decide) ?_
    refine XS.iconst X1246.here hx rfl (D at_78) ?_
    rw [hw0_6.trans (if_neg hm71_2)] at k
    exact k
  refine own_pA T1246 m 85 #[iv p0, iv p1, iv p2, iv p3, iv p4, iv p5, rv b1238, iv (1:Int32), iv w0_4, iv (w0_4 / (2:Int32)), iv w0_5, iv w0_6, .unset, .unset, .unset, .unset, .unset, .unset, .unset, .unset, .unset, .unset, .unset, .unset, .unset, .unset, .unset, .unset, .unset, .unset, .unset] [(.int (w0_4 &&& (1:Int32)))] (fun t k => ?_) ?_
  ·refine XS.istore X1246.here hx rfl (D at_79) rfl (l' := #[iv p0, iv p1, iv p2, iv p3, iv p4, iv p5, rv b1238, iv (1:Int32), iv w0_4, iv (w0_4 / (2:Int32)), iv w0_5, iv w0_6, .unset, .unset, .unset, .unset, .unset, .unset, .unset, .unset, .unset, .unset, .unset, .unset, .unset, .unset, .unset, .unset, .unset, .unset, .unset]) rfl ?_
   refine XS.iload X1246.here hx rfl (D at_81) rfl ?_
   refine XS.iconst X1246.here hx rfl (D at_83) ?_
   exact XS.iand X1246.here hx rfl (D at_84) rfl k
  obtain ⟨w0_7, hw0_7⟩ : ∃ z : Int32, z = (if (w0_4 &&& (1:Int32)) = (0:Int32) then w0_5 else w0_6) := ⟨_, rfl⟩
  refine own_pre (A := T1246.setTop (mkF m 95 #[iv p0, iv p1, iv p2, iv p3, iv p4, iv p5, rv b1238, iv (1:Int32), iv w0_4, iv (w0_4 / (2:Int32)), iv w0_5, iv w0_6, .unset, .unset, .unset, .unset, .unset, .unset, .unset, .unset, .unset, .unset, .unset, .unset, .unset, .unset, .unset, .unset, .unset, .unset, .unset] [(.int w0_7)])) (fun t k => ?_) ?_
  ·by_cases hm85_3 : (w0_4 &&& (1:Int32)) = (0:Int32)
   ·refine XS.ifNo X1246.here hx rfl (D at_85) rfl (XT.i0_ne_f hm85_3) ?_
    refine XS.iload X1246.here hx rfl (D at_88) rfl ?_
    refine XS.goto X1246.here hx rfl (pc0 := 90) (pc' := 95) rfl (D at_90) (by decide) (by decide) ?_
    rw [hw0_7.trans (if_pos hm85_3)] at k
    exact k
   ·refine XS.ifYes X1246.here hx rfl (pc0 := 85) (pc' := 93) rfl (D at_85) rfl (XT.i0_ne_t hm85_3) (by decide) (by decide) ?_
    refine XS.iload X1246.here hx rfl (D at_93) rfl ?_
    rw [hw0_7.trans (if_neg hm85_3)] at k
    exact k
  refine own_pA T1246 m 101 #[iv p0, iv p1, iv p2, iv p3, iv p4, iv p5, rv b1238, iv (1:Int32), iv w0_4, iv (w0_4 / (2:Int32)), iv w0_5, iv w0_6, iv w0_7, .unset, .unset, .unset, .unset, .unset, .unset, .unset, .unset, .unset, .unset, .unset, .unset, .unset, .unset, .unset, .unset, .unset, .unset] [(.int (w0_4 &&& (1:Int32)))] (fun t k => ?_) ?_
  ·refine XS.istore X1246.here hx rfl (D at_95) rfl (l' := #[iv p0, iv p1, iv p2, iv p3, iv p4, iv p5, rv b1238, iv (1:Int32), iv w0_4, iv (w0_4 / (2:Int32)), iv w0_5, iv w0_6, iv w0_7, .unset, .unset, .unset, .unset, .unset, .unset, .unset, .unset, .unset, .unset, .unset, .unset, .unset, .unset, .unset, .unset, .unset, .unset]) rfl ?_
   refine XS.iload X1246.here hx rfl (D at_97) rfl ?_
   refine XS.iconst X1246.here hx rfl (D at_99) ?_
   exact XS.iand X1246.here hx rfl (D at_100) rfl k
  obtain ⟨w0_8, hw0_8⟩ : ∃ z : Int32, z = (if (w0_4 &&& (1:Int32)) = (0:Int32) then w0_6 else w0_5) := ⟨_, rfl⟩
  refine own_pre (A := T1246.setTop (mkF m 111 #[iv p0, iv p1, iv p2, iv p3, iv p4, iv p5, rv b1238, iv (1:Int32), iv w0_4, iv (w0_4 / (2:Int32)), iv w0_5, iv w0_6, iv w0_7, .unset, .unset, .unset, .unset, .unset, .unset, .unset, .unset, .unset, .unset, .unset, .unset, .unset, .unset, .unset, .unset, .unset, .unset] [(.int w0_8)])) (fun t k => ?_) ?_
  ·by_cases hm101_4 : (w0_4 &&& (1:Int32)) = (0:Int32)
   ·refine XS.ifNo X1246.here hx rfl (D at_101) rfl (XT.i0_ne_f hm101_4) ?_
    refine XS.iload X1246.here hx rfl (D at_104) rfl ?_
    refine XS.goto X1246.here hx rfl (pc0 := 106) (pc' := 111) rfl (D at_106) (by decide) (by decide) ?_
    rw [hw0_8.trans (if_pos hm101_4)] at k
    exact k
   ·refine XS.ifYes X1246.here hx rfl (pc0 := 101) (pc' := 109) rfl (D at_101) rfl (XT.i0_ne_t hm101_4) (by decide) (by decide) ?_
    refine XS.iload X1246.here hx rfl (D at_109) rfl ?_
    rw [hw0_8.trans (if_neg hm101_4)] at k
    exact k
  refine own_pA T1246 m 113 #[iv p0, iv p1, iv p2, iv p3, iv p4, iv p5, rv b1238, iv (1:Int32), iv w0_4, iv (w0_4 / (2:Int32)), iv w0_5, iv w0_6, iv w0_7, iv w0_8, .unset, .unset, .unset, .unset, .unset, .unset, .unset, .unset, .unset, .unset, .unset, .unset, .unset, .unset, .unset, .unset, .unset] [] (fun t k => ?_) ?_
  ·exact XS.istore X1246.here hx rfl (D at_111) rfl (l' := #[iv p0, iv p1, iv p2, iv p3, iv p4, iv p5, rv b1238, iv (1:Int32), iv w0_4, iv (w0_4 / (2:Int32)), iv w0_5, iv w0_6, iv w0_7, iv w0_8, .unset, .unset, .unset, .unset, .unset, .unset, .unset, .unset, .unset, .unset, .unset, .unset, .unset, .unset, .unset, .unset, .unset]) rfl k
  obtain ⟨T1249, h1249, X1249, e1249, E1249, A1249, D1249, -, st1249⟩ := newO X1246 hx hZ hown (own_h hw 2 rfl) (own_h hw 3 rfl) (own_h hw 4 rfl) e1246 (g := (mkF m 113 #[iv p0, iv p1, iv p2, iv p3, iv p4, iv p5, rv b1238, iv (1:Int32), iv w0_4, iv (w0_4 / (2:Int32)), iv w0_5, iv w0_6, iv w0_7, iv w0_8, .unset, .unset, .unset, .unset, .unset, .unset, .unset, .unset, .unset, .unset, .unset, .unset, .unset, .unset, .unset, .unset, .unset] [])) rfl (D at_113) (by decide) (by decide)
  obtain ⟨b1249, g1249⟩ : ∃ z, z = h1246.size := ⟨_, rfl⟩
  rw [← g1249] at A1249 D1249 st1249
  have ge_b1249 : n0 ≤ b1249 := Nat.le_trans Z1248 (Nat.le_of_eq g1249.symm)
  have ne_b1238_b1249 : b1238 ≠ b1249 := Nat.ne_of_lt (Nat.lt_of_lt_of_le Vw1246.lt (Nat.le_of_eq g1249.symm))
  have Z1250 : n0 ≤ h1249.size := Nat.le_trans Z1248 E1249.1
  have F1249_labels : Fld Z h1249 b1249 "com/example/spare_calculus/sparecalculus/bisim/LabelGroups" "labels" "[I" .null := D1249 (Or.inr (own_h hw 12 rfl)) (ty := (.array .int)) (by decide)
  have F1249_moves : Fld Z h1249 b1249 "com/example/spare_calculus/sparecalculus/bisim/LabelGroups" "moves" "[I" .null := D1249 (Or.inr (own_h hw 14 rfl)) (ty := (.array .int)) (by decide)
  have F1249_grouped : Fld Z h1249 b1249 "com/example/spare_calculus/sparecalculus/bisim/LabelGroups" "grouped" "[I" .null := D1249 (Or.inr (own_h hw 16 rfl)) (ty := (.array .int)) (by decide)
  have F1249_groupLabels : Fld Z h1249 b1249 "com/example/spare_calculus/sparecalculus/bisim/LabelGroups" "groupLabels" "[I" .null := D1249 (Or.inr (own_h hw 18 rfl)) (ty := (.array .int)) (by decide)
  have F1249_groupStarts : Fld Z h1249 b1249 "com/example/spare_calculus/sparecalculus/bisim/LabelGroups" "groupStarts" "[I" .null := D1249 (Or.inr (own_h hw 20 rfl)) (ty := (.array .int)) (by decide)
  have F1249_moveCount : Fld Z h1249 b1249 "com/example/spare_calculus/sparecalculus/bisim/LabelGroups" "moveCount" "I" (.int (0:Int32)) := D1249 (Or.inl (own_h hw 27 rfl)) (ty := .int) (by decide)
  have F1249_groupCount : Fld Z h1249 b1249 "com/example/spare_calculus/sparecalculus/bisim/LabelGroups" "groupCount" "I" (.int (0:Int32)) := D1249 (Or.inl (own_h hw 34 rfl)) (ty := .int) (by decide)
  refine own_pre st1249 ?_
  refine own_pA T1249 m 120 #[iv p0, iv p1, iv p2, iv p3, iv p4, iv p5, rv b1238, iv (1:Int32), iv w0_4, iv (w0_4 / (2:Int32)), iv w0_5, iv w0_6, iv w0_7, iv w0_8, .unset, .unset, .unset, .unset, .unset, .unset, .unset, .unset, .unset, .unset, .unset, .unset, .unset, .unset, .unset, .unset, .unset] [(.int (3:Int32)), (.ref b1238), (.ref b1249), (.ref b1249)] (fun t k => ?_) ?_
  ·refine XS.dup X1249.here hx rfl (D at_116) rfl rfl ?_
   refine XS.aload X1249.here hx rfl (D at_117) rfl rfl ?_
   exact XS.iconst X1249.here hx rfl (D at_119) k
  have F1252 := (Vw1246.ext E1249)
  obtain ⟨_, _, ⟨T1251, L1251, k1251, n1251⟩, -, X1251, ⟨Lc1251, hQ1251, l1251, y1251, z1251⟩, st1251⟩ := X1249.specialBack hx (y := (⟨"com/example/spare_calculus/sparecalculus/bisim/LabelGroups", "<init>", "([II)V"⟩ : MethodName)) rfl hown (mvT hZ (own_h hw 5 rfl)) (mvT hZ (own_h hw 6 rfl)) (mvT hZ (own_h hw 7 rfl)) (by decide) (backOf (W := 1) (rm1 l Z aZ hw [] b1249 b1238 w0_1 w0_2 w0_3 h1249 n0 Z1250 A1249 F1249_labels F1249_moves F1249_grouped F1249_groupLabels F1249_groupStarts F1249_moveCount F1249_groupCount F1252 (Ne.symm ne_b1238_b1249) ge_b1249) hZ (own_h hw 7 rfl) (own_h hw 4 rfl) (by decide) (by decide)) (g := (mkF m 120 #[iv p0, iv p1, iv p2, iv p3, iv p4, iv p5, rv b1238, iv (1:Int32), iv w0_4, iv (w0_4 / (2:Int32)), iv w0_5, iv w0_6, iv w0_7, iv w0_8, .unset, .unset, .unset, .unset, .unset, .unset, .unset, .unset, .unset, .unset, .unset, .unset, .unset, .unset, .unset, .unset, .unset] [(.int (3:Int32)), (.ref b1238), (.ref b1249), (.ref b1249)])) rfl (by rw [hml]; rfl) (Steps.refl _) (a := b1249) (argsL := [(.ref b1238), (.int (3:Int32))]) (rest := [(.ref b1249)]) (lenOf own_pd0 rfl) rfl (by show 2 * 0 + _ ≤ _; exact Nat.le_of_eq rfl) (D at_120) (fun _ _ => ⟨rfl, e1249, (by decide : 2 + 4 ≤ _), (by decide : 10 + 12 ≤ _)⟩)
  dsimp only [Pt.U, Pt.locs, Pt.cells, Pt.slots] at X1251 l1251 y1251 z1251 st1251 hQ1251
  subst l1251 y1251 z1251
  obtain ⟨rfl, N1251q, K1251, mv_1253, gr_1254, gl_1255, gs_1256, sz1257, sz1258, sz1259, sz1260, ne1261, ne1262, ne1263, ne1264, ne1265, ne1266, G1267, G1268, G1269, G1270, G1271, G1272, G1273, G1274, G1275, G1276, G1277⟩ := hQ1251
  have N1251 := Fr.app N1246 N1251q
  have Z1278 : n0 ≤ T1251.heap.size := Nat.le_trans Z1250 K1251.1
  have ne1279 : b1238 ≠ mv_1253 := Nat.ne_of_lt (Nat.lt_of_lt_of_le F1252.lt sz1257)
  have ne1280 : b1249 ≠ mv_1253 := Nat.ne_of_lt (Nat.lt_of_lt_of_le A1249.lt sz1257)
  have ge1281 : n0 ≤ mv_1253 := Nat.le_trans Z1250 sz1257
  have ne1282 : b1238 ≠ gr_1254 := Nat.ne_of_lt (Nat.lt_of_lt_of_le F1252.lt sz1258)
  have ne1283 : b1249 ≠ gr_1254 := Nat.ne_of_lt (Nat.lt_of_lt_of_le A1249.lt sz1258)
  have ge1284 : n0 ≤ gr_1254 := Nat.le_trans Z1250 sz1258
  have ne1285 : b1238 ≠ gl_1255 := Nat.ne_of_lt (Nat.lt_of_lt_of_le F1252.lt sz1259)
  have ne1286 : b1249 ≠ gl_1255 := Nat.ne_of_lt (Nat.lt_of_lt_of_le A1249.lt sz1259)
  have ge1287 : n0 ≤ gl_1255 := Nat.le_trans Z1250 sz1259
  have ne1288 : b1238 ≠ gs_1256 := Nat.ne_of_lt (Nat.lt_of_lt_of_le F1252.lt sz1260)
  have ne1289 : b1249 ≠ gs_1256 := Nat.ne_of_lt (Nat.lt_of_lt_of_le A1249.lt sz1260)
  have ge1290 : n0 ≤ gs_1256 := Nat.le_trans Z1250 sz1260
  refine own_pre (fun _ k => st1251.trans k) ?_
  refine own_pA T1251 m 135 #[iv p0, iv p1, iv p2, iv p3, iv p4, iv p5, rv b1238, iv (1:Int32), iv w0_4, iv (w0_4 / (2:Int32)), iv w0_5, iv w0_6, iv w0_7, iv w0_8, rv b1249, .unset, .unset, .unset, .unset, .unset, .unset, .unset, .unset, .unset, .unset, .unset, .unset, .unset, .unset, .unset, .unset] [(.int (w0_4 / (2:Int32))), (.ref b1249)] (fun t k => ?_) ?_
  ·refine XS.astore X1251.here hx rfl (D at_123) rfl rfl (l' := #[iv p0, iv p1, iv p2, iv p3, iv p4, iv p5, rv b1238, iv (1:Int32), iv w0_4, iv (w0_4 / (2:Int32)), iv w0_5, iv w0_6, iv w0_7, iv w0_8, rv b1249, .unset, .unset, .unset, .unset, .unset, .unset, .unset, .unset, .unset, .unset, .unset, .unset, .unset, .unset, .unset, .unset]) rfl ?_
   refine XS.iload X1251.here hx rfl (D at_125) rfl ?_
   refine XS.iconst X1251.here hx rfl (D at_127) ?_
   refine XS.icmpNo X1251.here hx rfl (D at_128) rfl (XT.ii_lt_f (by decide)) ?_
   refine XS.aload X1251.here hx rfl (D at_131) rfl rfl ?_
   exact XS.iload X1251.here hx rfl (D at_133) rfl k
  have F1292 := (A1249.keep K1251)
  refine own_virtG X1251 hx hZ (y := own_y3) hown (own_h hw 21 rfl) (own_h hw 22 rfl) (own_h hw 24 rfl) (own_h hw 23 rfl) (own_h hw 25 rfl) (own_h hw 4 rfl) (by decide) (W := 0) (rm3 l Z aZ hw [] b1249 (w0_4 / (2:Int32)) b1238 mv_1253 gr_1254 gl_1255 gs_1256 [(0:Int32), (0:Int32), (0:Int32)] (0:Int32) T1251.heap n0 Z1278 F1292 G1271 G1267 G1268 G1269 G1270 G1272 G1273 G1274 ne1280 ge_b1249 ge1281 (own_lit rfl)) (by decide) (by decide) rfl F1292 rfl (by rw [hml]; rfl) (argsL := [(.int (w0_4 / (2:Int32)))]) (rest := []) (lenOf own_pd3 rfl) rfl (by show 2 * 0 + _ ≤ _; exact Nat.le_of_eq rfl) (D at_135) rfl (by decide) (by decide) (fun v T1291 L1291 X1291 hQ1291 => ?_)
  obtain ⟨rfl, N1291q, K1291, G1293, G1294, G1295, G1296, G1297, G1298, G1299, G1300⟩ := hQ1291
  have N1291 := Fr.app N1251 N1291q
  have Z1301 : n0 ≤ T1291.heap.size := Nat.le_trans Z1278 K1291.1
  have G1302 : Fld Z T1291.heap b1249 "com/example/spare_calculus/sparecalculus/bisim/LabelGroups" "moveCount" "I" (.int (1:Int32)) := G1298
  have G1303 : own_Ints Z T1291.heap mv_1253 [(w0_4 / (2:Int32)), (0:Int32), (0:Int32)] := G1300
  refine own_pA T1291 m 166 #[iv p0, iv p1, iv p2, iv p3, iv p4, iv p5, rv b1238, iv (1:Int32), iv w0_4, iv (w0_4 / (2:Int32)), iv w0_5, iv w0_6, iv w0_7, iv w0_8, rv b1249, .unset, .unset, .unset, .unset, .unset, .unset, .unset, .unset, .unset, .unset, .unset, .unset, .unset, .unset, .unset, .unset] [(.ref b1249)] (fun t k => ?_) ?_
  ·refine XS.iload X1291.here hx rfl (D at_138) rfl ?_
   refine XS.iconst X1291.here hx rfl (D at_140) ?_
   refine XS.icmpYes X1291.here hx rfl (pc0 := 141) (pc' := 151) rfl (D at_141) rfl (XT.ii_lt_t (by decide)) (by decide) (by decide) ?_
   refine XS.iload X1291.here hx rfl (D at_151) rfl ?_
   refine XS.iconst X1291.here hx rfl (D at_153) ?_
   refine XS.icmpYes X1291.here hx rfl (pc0 := 154) (pc' := 164) rfl (D at_154) rfl (XT.ii_lt_t (by decide)) (by decide) (by decide) ?_
   exact XS.aload X1291.here hx rfl (D at_164) rfl rfl k
  have F1305 := (F1292.keep K1291)
  have F1306 := ((F1252.keep K1251 (ninS ne_b1238_b1249 nin0)).keep K1291 (ninS ne_b1238_b1249 (ninS ne1279 nin0)))
  have F1307 := (G1275.keep K1291 (ninS (Ne.symm ne1283) (ninS (Ne.symm ne1261) nin0)))
  have F1308 := (G1276.keep K1291 (ninS (Ne.symm ne1286) (ninS (Ne.symm ne1262) nin0)))
  have F1309 := (G1277.keep K1291 (ninS (Ne.symm ne1289) (ninS (Ne.symm ne1263) nin0)))
  have hf1311 : (own_In (w0_4 / (2:Int32)) [w0_1, w0_2, w0_3].length) ∧ (own_In (own_at [w0_1, w0_2, w0_3] (w0_4 / (2:Int32))) [(0:Int32), (0:Int32), (0:Int32)].length) ∧ (own_In (own_at [w0_1, w0_2, w0_3] (w0_4 / (2:Int32))) (own_v100 w0_1 w0_2 w0_3 (w0_4 / (2:Int32))).length) ∧ (own_In (own_at [w0_1, w0_2, w0_3] (w0_4 / (2:Int32))) (own_v117 w0_1 w0_2 w0_3 (w0_4 / (2:Int32))).length) ∧ (own_In (own_at [w0_1, w0_2, w0_3] (w0_4 / (2:Int32))) (own_v137 w0_1 w0_2 w0_3 (w0_4 / (2:Int32))).length) ∧ (own_In (own_at (own_v137 w0_1 w0_2 w0_3 (w0_4 / (2:Int32))) (own_at [w0_1, w0_2, w0_3] (w0_4 / (2:Int32)))) [(0:Int32), (0:Int32), (0:Int32)].length) := by subst hw0_5 hw0_6 hw0_7 hw0_8; exact own_fin1310 w0_1 (own_m3 _ _ hw0_1) w0_2 (own_m3 _ _ hw0_2) w0_3 (own_m3 _ _ hw0_3) w0_4 (own_m6 _ _ hw0_4)
  refine own_virtG X1291 hx hZ (y := own_y4) hown (own_h hw 28 rfl) (own_h hw 29 rfl) (own_h hw 31 rfl) (own_h hw 30 rfl) (own_h hw 32 rfl) (own_h hw 4 rfl) (by decide) (W := 0) (rm4m1 l Z aZ hw [] b1249 b1238 mv_1253 gr_1254 gl_1255 gs_1256 w0_1 w0_2 w0_3 (w0_4 / (2:Int32)) (0:Int32) (0:Int32) T1291.heap n0 Z1301 F1305 G1293 G1294 G1295 G1296 G1297 G1302 G1299 F1306 G1303 F1307 F1308 F1309 (Ne.symm ne_b1238_b1249) ne1280 ne1283 ne1286 ne1289 ne1279 ne1282 ne1285 ne1288 ne1261 ne1262 ne1263 ne1264 ne1265 ne1266 ge_b1249 ge1284 ge1287 ge1290 hf1311.1 hf1311.2.1 hf1311.2.2.1 hf1311.2.2.2.1 hf1311.2.2.2.2.1 hf1311.2.2.2.2.2) (by decide) (by decide) rfl F1305 rfl (by rw [hml]; rfl) (argsL := []) (rest := []) (lenOf own_pd1 rfl) rfl (by show 2 * 0 + _ ≤ _; exact Nat.le_of_eq rfl) (D at_166) rfl (by decide) (by decide) (fun v T1304 L1304 X1304 hQ1304 => ?_)
  obtain ⟨rfl, N1304q, K1304, G1312, G1313, G1314, G1315, G1316, G1317, G1318, G1319, G1320, G1321⟩ := hQ1304
  have N1304 := Fr.app N1291 N1304q
  have Z1322 : n0 ≤ T1304.heap.size := Nat.le_trans Z1301 K1304.1
  have G1324 : Fld Z T1304.heap b1249 "com/example/spare_calculus/sparecalculus/bisim/LabelGroups" "groupCount" "I" (.int (own_v1323 w0_1 w0_2 w0_3 w0_4)) := G1318
  have G1326 : own_Ints Z T1304.heap gr_1254 (own_v1325 w0_1 w0_2 w0_3 w0_4) := G1319
  have G1328 : own_Ints Z T1304.heap gl_1255 (own_v1327 w0_1 w0_2 w0_3 w0_4) := G1320
  have G1330 : own_Ints Z T1304.heap gs_1256 (own_v1329 w0_1 w0_2 w0_3 w0_4) := G1321
  have F1332 := (F1306.keep K1304 (ninS ne_b1238_b1249 (ninS ne1282 (ninS ne1285 (ninS ne1288 nin0)))))
  have hbn1334 : own_In (w0_4 / (2:Int32)) [w0_1, w0_2, w0_3].length := (by subst hw0_5 hw0_6 hw0_7 hw0_8; exact own_fin1333 w0_1 (own_m3 _ _ hw0_1) w0_2 (own_m3 _ _ hw0_2) w0_3 (own_m3 _ _ hw0_3) w0_4 (own_m6 _ _ hw0_4))
  have hbn1336 : own_In w0_7 [w0_1, w0_2, w0_3].length := (by subst hw0_5 hw0_6 hw0_7 hw0_8; exact own_fin1335 w0_1 (own_m3 _ _ hw0_1) w0_2 (own_m3 _ _ hw0_2) w0_3 (own_m3 _ _ hw0_3) w0_4 (own_m6 _ _ hw0_4))
  have hbn1338 : own_In w0_8 [w0_1, w0_2, w0_3].length := (by subst hw0_5 hw0_6 hw0_7 hw0_8; exact own_fin1337 w0_1 (own_m3 _ _ hw0_1) w0_2 (own_m3 _ _ hw0_2) w0_3 (own_m3 _ _ hw0_3) w0_4 (own_m6 _ _ hw0_4))
  have hd318_5 : (own_v1331 w0_1 w0_2 w0_3 w0_4) = (1:Int32) := (by subst hw0_5 hw0_6 hw0_7 hw0_8; exact own_fin1339 w0_1 (own_m3 _ _ hw0_1) w0_2 (own_m3 _ _ hw0_2) w0_3 (own_m3 _ _ hw0_3) w0_4 (own_m6 _ _ hw0_4))
  refine own_pA T1304 m 332 #[.val (.int p0), .val (.int p1), .val (.int p2), .val (.int p3), .val (.int p4), .val (.int p5), .val (.ref b1238), .val (.int (1:Int32)), .val (.int w0_4), .val (.int (w0_4 / (2:Int32))), .val (.int w0_5), .val (.int w0_6), .val (.int w0_7), .val (.int w0_8), .val (.ref b1249), .val (.int (own_v1331 w0_1 w0_2 w0_3 w0_4)), .val (.int (own_at [w0_1, w0_2, w0_3] (w0_4 / (2:Int32)))), .val (.int (own_at [w0_1, w0_2, w0_3] w0_7)), .val (.int (own_at [w0_1, w0_2, w0_3] w0_8)), .val (.int (0:Int32)), .val (.int (9:Int32)), .val (.int (9:Int32)), .val (.int (1:Int32)), .val (.int (1:Int32)), .unset, .unset, .unset, .unset, .unset, .unset, .unset] [(.int (0:Int32)), (.int (9:Int32))] (fun t k => ?_) ?_
  ·refine XS.istore X1304.here hx rfl (D at_169) rfl (l' := #[iv p0, iv p1, iv p2, iv p3, iv p4, iv p5, rv b1238, iv (1:Int32), iv w0_4, iv (w0_4 / (2:Int32)), iv w0_5, iv w0_6, iv w0_7, iv w0_8, rv b1249, iv (own_v1331 w0_1 w0_2 w0_3 w0_4), .unset, .unset, .unset, .unset, .unset, .unset, .unset, .unset, .unset, .unset, .unset, .unset, .unset, .unset, .unset]) rfl ?_
   refine XS.aload X1304.here hx rfl (D at_171) rfl rfl ?_
   refine XS.iload X1304.here hx rfl (D at_173) rfl ?_
   refine own_iaload X1304 hx hZ rfl F1332 hbn1334 rfl rfl (D at_175) ?_
   refine XS.istore X1304.here hx rfl (D at_176) rfl (l' := #[.val (.int p0), .val (.int p1), .val (.int p2), .val (.int p3), .val (.int p4), .val (.int p5), .val (.ref b1238), .val (.int (1:Int32)), .val (.int w0_4), .val (.int (w0_4 / (2:Int32))), .val (.int w0_5), .val (.int w0_6), .val (.int w0_7), .val (.int w0_8), .val (.ref b1249), .val (.int (own_v1331 w0_1 w0_2 w0_3 w0_4)), .val (.int (own_at [w0_1, w0_2, w0_3] (w0_4 / (2:Int32)))), .unset, .unset, .unset, .unset, .unset, .unset, .unset, .unset, .unset, .unset, .unset, .unset, .unset, .unset]) rfl ?_
   refine XS.aload X1304.here hx rfl (D at_178) rfl rfl ?_
   refine XS.iload X1304.here hx rfl (D at_180) rfl ?_
   refine own_iaload X1304 hx hZ rfl F1332 hbn1336 rfl rfl (D at_182) ?_
   refine XS.istore X1304.here hx rfl (D at_183) rfl (l' := #[.val (.int p0), .val (.int p1), .val (.int p2), .val (.int p3), .val (.int p4), .val (.int p5), .val (.ref b1238), .val (.int (1:Int32)), .val (.int w0_4), .val (.int (w0_4 / (2:Int32))), .val (.int w0_5), .val (.int w0_6), .val (.int w0_7), .val (.int w0_8), .val (.ref b1249), .val (.int (own_v1331 w0_1 w0_2 w0_3 w0_4)), .val (.int (own_at [w0_1, w0_2, w0_3] (w0_4 / (2:Int32)))), .val (.int (own_at [w0_1, w0_2, w0_3] w0_7)), .unset, .unset, .unset, .unset, .unset, .unset, .unset, .unset, .unset, .unset, .unset, .unset, .unset]) rfl ?_
   refine XS.aload X1304.here hx rfl (D at_185) rfl rfl ?_
   refine XS.iload X1304.here hx rfl (D at_187) rfl ?_
   refine own_iaload X1304 hx hZ rfl F1332 hbn1338 rfl rfl (D at_189) ?_
   refine XS.istore X1304.here hx rfl (D at_190) rfl (l' := #[.val (.int p0), .val (.int p1), .val (.int p2), .val (.int p3), .val (.int p4), .val (.int p5), .val (.ref b1238), .val (.int (1:Int32)), .val (.int w0_4), .val (.int (w0_4 / (2:Int32))), .val (.int w0_5), .val (.int w0_6), .val (.int w0_7), .val (.int w0_8), .val (.ref b1249), .val (.int (own_v1331 w0_1 w0_2 w0_3 w0_4)), .val (.int (own_at [w0_1, w0_2, w0_3] (w0_4 / (2:Int32)))), .val (.int (own_at [w0_1, w0_2, w0_3] w0_7)), .val (.int (own_at [w0_1, w0_2, w0_3] w0_8)), .unset, .unset, .unset, .unset, .unset, .unset, .unset, .unset, .unset, .unset, .unset, .unset]) rfl ?_
   refine XS.iload X1304.here hx rfl (D at_192) rfl ?_
   refine XS.iconst X1304.here hx rfl (D at_194) ?_
   refine XS.icmpNo X1304.here hx rfl (D at_195) rfl (XT.ii_lt_f (by decide)) ?_
   refine XS.iconst X1304.here hx rfl (D at_198) ?_
   refine XS.goto X1304.here hx rfl (pc0 := 199) (pc' := 204) rfl (D at_199) (by decide) (by decide) ?_
   refine XS.istore X1304.here hx rfl (D at_204) rfl (l' := #[.val (.int p0), .val (.int p1), .val (.int p2), .val (.int p3), .val (.int p4), .val (.int p5), .val (.ref b1238), .val (.int (1:Int32)), .val (.int w0_4), .val (.int (w0_4 / (2:Int32))), .val (.int w0_5), .val (.int w0_6), .val (.int w0_7), .val (.int w0_8), .val (.ref b1249), .val (.int (own_v1331 w0_1 w0_2 w0_3 w0_4)), .val (.int (own_at [w0_1, w0_2, w0_3] (w0_4 / (2:Int32)))), .val (.int (own_at [w0_1, w0_2, w0_3] w0_7)), .val (.int (own_at [w0_1, w0_2, w0_3] w0_8)), .val (.int (0:Int32)), .unset, .unset, .unset, .unset, .unset, .unset, .unset, .unset, .unset, .unset, .unset]) rfl ?_
   refine XS.iload X1304.here hx rfl (D at_206) rfl ?_
   refine XS.iconst X1304.here hx rfl (D at_208) ?_
   refine XS.icmpYes X1304.here hx rfl (pc0 := 209) (pc' := 227) rfl (D at_209) rfl (XT.ii_lt_t (by decide)) (by decide) (by decide) ?_
   refine XS.bipush X1304.here hx rfl (D at_227) ?_
   refine XS.istore X1304.here hx rfl (D at_229) rfl (l' := #[.val (.int p0), .val (.int p1), .val (.int p2), .val (.int p3), .val (.int p4), .val (.int p5), .val (.ref b1238), .val (.int (1:Int32)), .val (.int w0_4), .val (.int (w0_4 / (2:Int32))), .val (.int w0_5), .val (.int w0_6), .val (.int w0_7), .val (.int w0_8), .val (.ref b1249), .val (.int (own_v1331 w0_1 w0_2 w0_3 w0_4)), .val (.int (own_at [w0_1, w0_2, w0_3] (w0_4 / (2:Int32)))), .val (.int (own_at [w0_1, w0_2, w0_3] w0_7)), .val (.int (own_at [w0_1, w0_2, w0_3] w0_8)), .val (.int (0:Int32)), .val (.int (9:Int32)), .unset, .unset, .unset, .unset, .unset, .unset, .unset, .unset, .unset, .unset]) rfl ?_
   refine XS.iload X1304.here hx rfl (D at_231) rfl ?_
   refine XS.iconst X1304.here hx rfl (D at_233) ?_
   refine XS.icmpYes X1304.here hx rfl (pc0 := 234) (pc' := 267) rfl (D at_234) rfl (XT.ii_lt_t (by decide)) (by decide) (by decide) ?_
   refine XS.bipush X1304.here hx rfl (D at_267) ?_
   refine XS.istore X1304.here hx rfl (D at_269) rfl (l' := #[.val (.int p0), .val (.int p1), .val (.int p2), .val (.int p3), .val (.int p4), .val (.int p5), .val (.ref b1238), .val (.int (1:Int32)), .val (.int w0_4), .val (.int (w0_4 / (2:Int32))), .val (.int w0_5), .val (.int w0_6), .val (.int w0_7), .val (.int w0_8), .val (.ref b1249), .val (.int (own_v1331 w0_1 w0_2 w0_3 w0_4)), .val (.int (own_at [w0_1, w0_2, w0_3] (w0_4 / (2:Int32)))), .val (.int (own_at [w0_1, w0_2, w0_3] w0_7)), .val (.int (own_at [w0_1, w0_2, w0_3] w0_8)), .val (.int (0:Int32)), .val (.int (9:Int32)), .val (.int (9:Int32)), .unset, .unset, .unset, .unset, .unset, .unset, .unset, .unset, .unset]) rfl ?_
   refine XS.iload X1304.here hx rfl (D at_271) rfl ?_
   refine XS.ifYes X1304.here hx rfl (pc0 := 273) (pc' := 280) rfl (D at_273) rfl (XT.i0_ne_t (by decide)) (by decide) (by decide) ?_
   refine XS.iload X1304.here hx rfl (D at_280) rfl ?_
   refine XS.iconst X1304.here hx rfl (D at_282) ?_
   refine XS.icmpNo X1304.here hx rfl (D at_283) rfl (XT.ii_ne_f rfl) ?_
   refine XS.iconst X1304.here hx rfl (D at_286) ?_
   refine XS.goto X1304.here hx rfl (pc0 := 287) (pc' := 312) rfl (D at_287) (by decide) (by decide) ?_
   refine XS.istore X1304.here hx rfl (D at_312) rfl (l' := #[.val (.int p0), .val (.int p1), .val (.int p2), .val (.int p3), .val (.int p4), .val (.int p5), .val (.ref b1238), .val (.int (1:Int32)), .val (.int w0_4), .val (.int (w0_4 / (2:Int32))), .val (.int w0_5), .val (.int w0_6), .val (.int w0_7), .val (.int w0_8), .val (.ref b1249), .val (.int (own_v1331 w0_1 w0_2 w0_3 w0_4)), .val (.int (own_at [w0_1, w0_2, w0_3] (w0_4 / (2:Int32)))), .val (.int (own_at [w0_1, w0_2, w0_3] w0_7)), .val (.int (own_at [w0_1, w0_2, w0_3] w0_8)), .val (.int (0:Int32)), .val (.int (9:Int32)), .val (.int (9:Int32)), .val (.int (1:Int32)), .unset, .unset, .unset, .unset, .unset, .unset, .unset, .unset]) rfl ?_
   refine XS.iload X1304.here hx rfl (D at_314) rfl ?_
   refine XS.iload X1304.here hx rfl (D at_316) rfl ?_
   refine XS.icmpNo X1304.here hx rfl (D at_318) rfl (XT.ii_ne_f hd318_5) ?_
   refine XS.iconst X1304.here hx rfl (D at_321) ?_
   refine XS.goto X1304.here hx rfl (pc0 := 322) (pc' := 326) rfl (D at_322) (by decide) (by decide) ?_
   refine XS.istore X1304.here hx rfl (D at_326) rfl (l' := #[.val (.int p0), .val (.int p1), .val (.int p2), .val (.int p3), .val (.int p4), .val (.int p5), .val (.ref b1238), .val (.int (1:Int32)), .val (.int w0_4), .val (.int (w0_4 / (2:Int32))), .val (.int w0_5), .val (.int w0_6), .val (.int w0_7), .val (.int w0_8), .val (.ref b1249), .val (.int (own_v1331 w0_1 w0_2 w0_3 w0_4)), .val (.int (own_at [w0_1, w0_2, w0_3] (w0_4 / (2:Int32)))), .val (.int (own_at [w0_1, w0_2, w0_3] w0_7)), .val (.int (own_at [w0_1, w0_2, w0_3] w0_8)), .val (.int (0:Int32)), .val (.int (9:Int32)), .val (.int (9:Int32)), .val (.int (1:Int32)), .val (.int (1:Int32)), .unset, .unset, .unset, .unset, .unset, .unset, .unset]) rfl ?_
   refine XS.iload X1304.here hx rfl (D at_328) rfl ?_
   exact XS.iload X1304.here hx rfl (D at_330) rfl k
  refine own_callSG X1304 hx hZ (y := own_y5) hown (own_h hw 35 rfl) (own_h hw 36 rfl) (own_h hw 37 rfl) (own_h hw 38 rfl) (by decide) (W := 0) (rm5 l Z aZ hw [] (9:Int32) (0:Int32) T1304.heap n0 Z1322 ) (by decide) (by decide) rfl (by rw [hml]; rfl) (argsL := [(.int (9:Int32)), (.int (0:Int32))]) (rest := []) (lenOf own_pd2 rfl) rfl (by show 2 * 0 + _ ≤ _; exact Nat.le_of_eq rfl) (D at_332) rfl rfl (by decide) (by decide) (fun v T1340 L1340 X1340 hQ1340 => ?_)
  obtain ⟨rfl, N1340q, eh1340⟩ := hQ1340
  have N1340 := Fr.app N1304 N1340q
  refine own_pA T1340 m 339 #[.val (.int p0), .val (.int p1), .val (.int p2), .val (.int p3), .val (.int p4), .val (.int p5), .val (.ref b1238), .val (.int (1:Int32)), .val (.int w0_4), .val (.int (w0_4 / (2:Int32))), .val (.int w0_5), .val (.int w0_6), .val (.int w0_7), .val (.int w0_8), .val (.ref b1249), .val (.int (own_v1331 w0_1 w0_2 w0_3 w0_4)), .val (.int (own_at [w0_1, w0_2, w0_3] (w0_4 / (2:Int32)))), .val (.int (own_at [w0_1, w0_2, w0_3] w0_7)), .val (.int (own_at [w0_1, w0_2, w0_3] w0_8)), .val (.int (0:Int32)), .val (.int (9:Int32)), .val (.int (9:Int32)), .val (.int (1:Int32)), .val (.int (1:Int32)), .unset, .unset, .unset, .unset, .unset, .unset, .unset] [(.int (0:Int32)), (.int (9:Int32)), (.int (f5 (9:Int32) (0:Int32)))] (fun t k => ?_) ?_
  ·refine XS.iload X1340.here hx rfl (D at_335) rfl ?_
   exact XS.iload X1340.here hx rfl (D at_337) rfl k
  refine own_callSG X1340 hx hZ (y := own_y5) hown (own_h hw 35 rfl) (own_h hw 36 rfl) (own_h hw 37 rfl) (own_h hw 38 rfl) (by decide) (W := 1) (rm5 l Z aZ hw [] (9:Int32) (0:Int32) T1304.heap n0 Z1322 ) (by decide) (by decide) rfl (by rw [hml]; rfl) (argsL := [(.int (9:Int32)), (.int (0:Int32))]) (rest := [(.int (f5 (9:Int32) (0:Int32)))]) (lenOf own_pd2 rfl) rfl (by show 2 * 0 + _ ≤ _; exact Nat.le_of_eq rfl) (D at_339) rfl eh1340 (by decide) (by decide) (fun v T1341 L1341 X1341 hQ1341 => ?_)
  obtain ⟨rfl, N1341q, eh1341⟩ := hQ1341
  have N1341 := Fr.app N1340 N1341q
  refine own_pA T1341 m 349 #[.val (.int p0), .val (.int p1), .val (.int p2), .val (.int p3), .val (.int p4), .val (.int p5), .val (.ref b1238), .val (.int (1:Int32)), .val (.int w0_4), .val (.int (w0_4 / (2:Int32))), .val (.int w0_5), .val (.int w0_6), .val (.int w0_7), .val (.int w0_8), .val (.ref b1249), .val (.int (own_v1331 w0_1 w0_2 w0_3 w0_4)), .val (.int (own_at [w0_1, w0_2, w0_3] (w0_4 / (2:Int32)))), .val (.int (own_at [w0_1, w0_2, w0_3] w0_7)), .val (.int (own_at [w0_1, w0_2, w0_3] w0_8)), .val (.int (0:Int32)), .val (.int (9:Int32)), .val (.int (9:Int32)), .val (.int (1:Int32)), .val (.int (1:Int32)), .val (.int ((f5 (9:Int32) (0:Int32)) + (f5 (9:Int32) (0:Int32)))), .unset, .unset, .unset, .unset, .unset, .unset] [(.int (9:Int32)), (.int (0:Int32))] (fun t k => ?_) ?_
  ·refine XS.iadd X1341.here hx rfl (D at_342) rfl ?_
   refine XS.istore X1341.here hx rfl (D at_343) rfl (l' := #[.val (.int p0), .val (.int p1), .val (.int p2), .val (.int p3), .val (.int p4), .val (.int p5), .val (.ref b1238), .val (.int (1:Int32)), .val (.int w0_4), .val (.int (w0_4 / (2:Int32))), .val (.int w0_5), .val (.int w0_6), .val (.int w0_7), .val (.int w0_8), .val (.ref b1249), .val (.int (own_v1331 w0_1 w0_2 w0_3 w0_4)), .val (.int (own_at [w0_1, w0_2, w0_3] (w0_4 / (2:Int32)))), .val (.int (own_at [w0_1, w0_2, w0_3] w0_7)), .val (.int (own_at [w0_1, w0_2, w0_3] w0_8)), .val (.int (0:Int32)), .val (.int (9:Int32)), .val (.int (9:Int32)), .val (.int (1:Int32)), .val (.int (1:Int32)), .val (.int ((f5 (9:Int32) (0:Int32)) + (f5 (9:Int32) (0:Int32)))), .unset, .unset, .unset, .unset, .unset, .unset]) rfl ?_
   refine XS.iload X1341.here hx rfl (D at_345) rfl ?_
   exact XS.iload X1341.here hx rfl (D at_347) rfl k
  refine own_callSG X1341 hx hZ (y := own_y5) hown (own_h hw 35 rfl) (own_h hw 36 rfl) (own_h hw 37 rfl) (own_h hw 38 rfl) (by decide) (W := 0) (rm5 l Z aZ hw [] (0:Int32) (9:Int32) T1304.heap n0 Z1322 ) (by decide) (by decide) rfl (by rw [hml]; rfl) (argsL := [(.int (0:Int32)), (.int (9:Int32))]) (rest := []) (lenOf own_pd2 rfl) rfl (by show 2 * 0 + _ ≤ _; exact Nat.le_of_eq rfl) (D at_349) rfl eh1341 (by decide) (by decide) (fun v T1342 L1342 X1342 hQ1342 => ?_)
  obtain ⟨rfl, N1342q, eh1342⟩ := hQ1342
  have N1342 := Fr.app N1341 N1342q
  refine own_pA T1342 m 356 #[.val (.int p0), .val (.int p1), .val (.int p2), .val (.int p3), .val (.int p4), .val (.int p5), .val (.ref b1238), .val (.int (1:Int32)), .val (.int w0_4), .val (.int (w0_4 / (2:Int32))), .val (.int w0_5), .val (.int w0_6), .val (.int w0_7), .val (.int w0_8), .val (.ref b1249), .val (.int (own_v1331 w0_1 w0_2 w0_3 w0_4)), .val (.int (own_at [w0_1, w0_2, w0_3] (w0_4 / (2:Int32)))), .val (.int (own_at [w0_1, w0_2, w0_3] w0_7)), .val (.int (own_at [w0_1, w0_2, w0_3] w0_8)), .val (.int (0:Int32)), .val (.int (9:Int32)), .val (.int (9:Int32)), .val (.int (1:Int32)), .val (.int (1:Int32)), .val (.int ((f5 (9:Int32) (0:Int32)) + (f5 (9:Int32) (0:Int32)))), .unset, .unset, .unset, .unset, .unset, .unset] [(.int (9:Int32)), (.int (9:Int32)), (.int (f5 (0:Int32) (9:Int32)))] (fun t k => ?_) ?_
  ·refine XS.iload X1342.here hx rfl (D at_352) rfl ?_
   exact XS.iload X1342.here hx rfl (D at_354) rfl k
  refine own_callSG X1342 hx hZ (y := own_y5) hown (own_h hw 35 rfl) (own_h hw 36 rfl) (own_h hw 37 rfl) (own_h hw 38 rfl) (by decide) (W := 1) (rm5 l Z aZ hw [] (9:Int32) (9:Int32) T1304.heap n0 Z1322 ) (by decide) (by decide) rfl (by rw [hml]; rfl) (argsL := [(.int (9:Int32)), (.int (9:Int32))]) (rest := [(.int (f5 (0:Int32) (9:Int32)))]) (lenOf own_pd2 rfl) rfl (by show 2 * 0 + _ ≤ _; exact Nat.le_of_eq rfl) (D at_356) rfl eh1342 (by decide) (by decide) (fun v T1343 L1343 X1343 hQ1343 => ?_)
  obtain ⟨rfl, N1343q, eh1343⟩ := hQ1343
  have N1343 := Fr.app N1342 N1343q
  refine own_pA T1343 m 364 #[.val (.int p0), .val (.int p1), .val (.int p2), .val (.int p3), .val (.int p4), .val (.int p5), .val (.ref b1238), .val (.int (1:Int32)), .val (.int w0_4), .val (.int (w0_4 / (2:Int32))), .val (.int w0_5), .val (.int w0_6), .val (.int w0_7), .val (.int w0_8), .val (.ref b1249), .val (.int (own_v1331 w0_1 w0_2 w0_3 w0_4)), .val (.int (own_at [w0_1, w0_2, w0_3] (w0_4 / (2:Int32)))), .val (.int (own_at [w0_1, w0_2, w0_3] w0_7)), .val (.int (own_at [w0_1, w0_2, w0_3] w0_8)), .val (.int (0:Int32)), .val (.int (9:Int32)), .val (.int (9:Int32)), .val (.int (1:Int32)), .val (.int (1:Int32)), .val (.int ((f5 (9:Int32) (0:Int32)) + (f5 (9:Int32) (0:Int32)))), .unset, .unset, .unset, .unset, .unset, .unset] [(.int (9:Int32)), (.int (0:Int32)), (.int ((f5 (0:Int32) (9:Int32)) + (f5 (9:Int32) (9:Int32))))] (fun t k => ?_) ?_
  ·refine XS.iadd X1343.here hx rfl (D at_359) rfl ?_
   refine XS.iload X1343.here hx rfl (D at_360) rfl ?_
   exact XS.iload X1343.here hx rfl (D at_362) rfl k
  refine own_callSG X1343 hx hZ (y := own_y6) hown (own_h hw 39 rfl) (own_h hw 40 rfl) (own_h hw 37 rfl) (own_h hw 41 rfl) (by decide) (W := 1) (rm6 l Z aZ hw [] (0:Int32) (9:Int32) T1304.heap n0 Z1322 ) (by decide) (by decide) rfl (by rw [hml]; rfl) (argsL := [(.int (0:Int32)), (.int (9:Int32))]) (rest := [(.int ((f5 (0:Int32) (9:Int32)) + (f5 (9:Int32) (9:Int32))))]) (lenOf own_pd2 rfl) rfl (by show 2 * 0 + _ ≤ _; exact Nat.le_of_eq rfl) (D at_364) rfl eh1343 (by decide) (by decide) (fun v T1344 L1344 X1344 hQ1344 => ?_)
  obtain ⟨rfl, N1344q, eh1344⟩ := hQ1344
  have N1344 := Fr.app N1343 N1344q
  refine own_pA T1344 m 374 #[.val (.int p0), .val (.int p1), .val (.int p2), .val (.int p3), .val (.int p4), .val (.int p5), .val (.ref b1238), .val (.int (1:Int32)), .val (.int w0_4), .val (.int (w0_4 / (2:Int32))), .val (.int w0_5), .val (.int w0_6), .val (.int w0_7), .val (.int w0_8), .val (.ref b1249), .val (.int (own_v1331 w0_1 w0_2 w0_3 w0_4)), .val (.int (own_at [w0_1, w0_2, w0_3] (w0_4 / (2:Int32)))), .val (.int (own_at [w0_1, w0_2, w0_3] w0_7)), .val (.int (own_at [w0_1, w0_2, w0_3] w0_8)), .val (.int (0:Int32)), .val (.int (9:Int32)), .val (.int (9:Int32)), .val (.int (1:Int32)), .val (.int (1:Int32)), .val (.int ((f5 (9:Int32) (0:Int32)) + (f5 (9:Int32) (0:Int32)))), .val (.int (((f5 (0:Int32) (9:Int32)) + (f5 (9:Int32) (9:Int32))) + (f6 (0:Int32) (9:Int32)))), .unset, .unset, .unset, .unset, .unset] [(.int (9:Int32)), (.int (0:Int32))] (fun t k => ?_) ?_
  ·refine XS.iadd X1344.here hx rfl (D at_367) rfl ?_
   refine XS.istore X1344.here hx rfl (D at_368) rfl (l' := #[.val (.int p0), .val (.int p1), .val (.int p2), .val (.int p3), .val (.int p4), .val (.int p5), .val (.ref b1238), .val (.int (1:Int32)), .val (.int w0_4), .val (.int (w0_4 / (2:Int32))), .val (.int w0_5), .val (.int w0_6), .val (.int w0_7), .val (.int w0_8), .val (.ref b1249), .val (.int (own_v1331 w0_1 w0_2 w0_3 w0_4)), .val (.int (own_at [w0_1, w0_2, w0_3] (w0_4 / (2:Int32)))), .val (.int (own_at [w0_1, w0_2, w0_3] w0_7)), .val (.int (own_at [w0_1, w0_2, w0_3] w0_8)), .val (.int (0:Int32)), .val (.int (9:Int32)), .val (.int (9:Int32)), .val (.int (1:Int32)), .val (.int (1:Int32)), .val (.int ((f5 (9:Int32) (0:Int32)) + (f5 (9:Int32) (0:Int32)))), .val (.int (((f5 (0:Int32) (9:Int32)) + (f5 (9:Int32) (9:Int32))) + (f6 (0:Int32) (9:Int32)))), .unset, .unset, .unset, .unset, .unset]) rfl ?_
   refine XS.iload X1344.here hx rfl (D at_370) rfl ?_
   exact XS.iload X1344.here hx rfl (D at_372) rfl k
  refine own_callSG X1344 hx hZ (y := own_y5) hown (own_h hw 35 rfl) (own_h hw 36 rfl) (own_h hw 37 rfl) (own_h hw 38 rfl) (by decide) (W := 0) (rm5 l Z aZ hw [] (0:Int32) (9:Int32) T1304.heap n0 Z1322 ) (by decide) (by decide) rfl (by rw [hml]; rfl) (argsL := [(.int (0:Int32)), (.int (9:Int32))]) (rest := []) (lenOf own_pd2 rfl) rfl (by show 2 * 0 + _ ≤ _; exact Nat.le_of_eq rfl) (D at_374) rfl eh1344 (by decide) (by decide) (fun v T1345 L1345 X1345 hQ1345 => ?_)
  obtain ⟨rfl, N1345q, eh1345⟩ := hQ1345
  have N1345 := Fr.app N1344 N1345q
  refine own_pA T1345 m 381 #[.val (.int p0), .val (.int p1), .val (.int p2), .val (.int p3), .val (.int p4), .val (.int p5), .val (.ref b1238), .val (.int (1:Int32)), .val (.int w0_4), .val (.int (w0_4 / (2:Int32))), .val (.int w0_5), .val (.int w0_6), .val (.int w0_7), .val (.int w0_8), .val (.ref b1249), .val (.int (own_v1331 w0_1 w0_2 w0_3 w0_4)), .val (.int (own_at [w0_1, w0_2, w0_3] (w0_4 / (2:Int32)))), .val (.int (own_at [w0_1, w0_2, w0_3] w0_7)), .val (.int (own_at [w0_1, w0_2, w0_3] w0_8)), .val (.int (0:Int32)), .val (.int (9:Int32)), .val (.int (9:Int32)), .val (.int (1:Int32)), .val (.int (1:Int32)), .val (.int ((f5 (9:Int32) (0:Int32)) + (f5 (9:Int32) (0:Int32)))), .val (.int (((f5 (0:Int32) (9:Int32)) + (f5 (9:Int32) (9:Int32))) + (f6 (0:Int32) (9:Int32)))), .unset, .unset, .unset, .unset, .unset] [(.int (9:Int32)), (.int (9:Int32)), (.int (f5 (0:Int32) (9:Int32)))] (fun t k => ?_) ?_
  ·refine XS.iload X1345.here hx rfl (D at_377) rfl ?_
   exact XS.iload X1345.here hx rfl (D at_379) rfl k
  refine own_callSG X1345 hx hZ (y := own_y5) hown (own_h hw 35 rfl) (own_h hw 36 rfl) (own_h hw 37 rfl) (own_h hw 38 rfl) (by decide) (W := 1) (rm5 l Z aZ hw [] (9:Int32) (9:Int32) T1304.heap n0 Z1322 ) (by decide) (by decide) rfl (by rw [hml]; rfl) (argsL := [(.int (9:Int32)), (.int (9:Int32))]) (rest := [(.int (f5 (0:Int32) (9:Int32)))]) (lenOf own_pd2 rfl) rfl (by show 2 * 0 + _ ≤ _; exact Nat.le_of_eq rfl) (D at_381) rfl eh1345 (by decide) (by decide) (fun v T1346 L1346 X1346 hQ1346 => ?_)
  obtain ⟨rfl, N1346q, eh1346⟩ := hQ1346
  have N1346 := Fr.app N1345 N1346q
  refine own_pA T1346 m 389 #[.val (.int p0), .val (.int p1), .val (.int p2), .val (.int p3), .val (.int p4), .val (.int p5), .val (.ref b1238), .val (.int (1:Int32)), .val (.int w0_4), .val (.int (w0_4 / (2:Int32))), .val (.int w0_5), .val (.int w0_6), .val (.int w0_7), .val (.int w0_8), .val (.ref b1249), .val (.int (own_v1331 w0_1 w0_2 w0_3 w0_4)), .val (.int (own_at [w0_1, w0_2, w0_3] (w0_4 / (2:Int32)))), .val (.int (own_at [w0_1, w0_2, w0_3] w0_7)), .val (.int (own_at [w0_1, w0_2, w0_3] w0_8)), .val (.int (0:Int32)), .val (.int (9:Int32)), .val (.int (9:Int32)), .val (.int (1:Int32)), .val (.int (1:Int32)), .val (.int ((f5 (9:Int32) (0:Int32)) + (f5 (9:Int32) (0:Int32)))), .val (.int (((f5 (0:Int32) (9:Int32)) + (f5 (9:Int32) (9:Int32))) + (f6 (0:Int32) (9:Int32)))), .unset, .unset, .unset, .unset, .unset] [(.int (9:Int32)), (.int (0:Int32)), (.int ((f5 (0:Int32) (9:Int32)) + (f5 (9:Int32) (9:Int32))))] (fun t k => ?_) ?_
  ·refine XS.iadd X1346.here hx rfl (D at_384) rfl ?_
   refine XS.iload X1346.here hx rfl (D at_385) rfl ?_
   exact XS.iload X1346.here hx rfl (D at_387) rfl k
  refine own_callSG X1346 hx hZ (y := own_y6) hown (own_h hw 39 rfl) (own_h hw 40 rfl) (own_h hw 37 rfl) (own_h hw 41 rfl) (by decide) (W := 1) (rm6 l Z aZ hw [] (0:Int32) (9:Int32) T1304.heap n0 Z1322 ) (by decide) (by decide) rfl (by rw [hml]; rfl) (argsL := [(.int (0:Int32)), (.int (9:Int32))]) (rest := [(.int ((f5 (0:Int32) (9:Int32)) + (f5 (9:Int32) (9:Int32))))]) (lenOf own_pd2 rfl) rfl (by show 2 * 0 + _ ≤ _; exact Nat.le_of_eq rfl) (D at_389) rfl eh1346 (by decide) (by decide) (fun v T1347 L1347 X1347 hQ1347 => ?_)
  obtain ⟨rfl, N1347q, eh1347⟩ := hQ1347
  have N1347 := Fr.app N1346 N1347q
  refine own_pA T1347 m 397 #[.val (.int p0), .val (.int p1), .val (.int p2), .val (.int p3), .val (.int p4), .val (.int p5), .val (.ref b1238), .val (.int (1:Int32)), .val (.int w0_4), .val (.int (w0_4 / (2:Int32))), .val (.int w0_5), .val (.int w0_6), .val (.int w0_7), .val (.int w0_8), .val (.ref b1249), .val (.int (own_v1331 w0_1 w0_2 w0_3 w0_4)), .val (.int (own_at [w0_1, w0_2, w0_3] (w0_4 / (2:Int32)))), .val (.int (own_at [w0_1, w0_2, w0_3] w0_7)), .val (.int (own_at [w0_1, w0_2, w0_3] w0_8)), .val (.int (0:Int32)), .val (.int (9:Int32)), .val (.int (9:Int32)), .val (.int (1:Int32)), .val (.int (1:Int32)), .val (.int ((f5 (9:Int32) (0:Int32)) + (f5 (9:Int32) (0:Int32)))), .val (.int (((f5 (0:Int32) (9:Int32)) + (f5 (9:Int32) (9:Int32))) + (f6 (0:Int32) (9:Int32)))), .unset, .unset, .unset, .unset, .unset] [(.int (9:Int32)), (.int (9:Int32)), (.int (((f5 (0:Int32) (9:Int32)) + (f5 (9:Int32) (9:Int32))) + (f6 (0:Int32) (9:Int32))))] (fun t k => ?_) ?_
  ·refine XS.iadd X1347.here hx rfl (D at_392) rfl ?_
   refine XS.iload X1347.here hx rfl (D at_393) rfl ?_
   exact XS.iload X1347.here hx rfl (D at_395) rfl k
  refine own_callSG X1347 hx hZ (y := own_y6) hown (own_h hw 39 rfl) (own_h hw 40 rfl) (own_h hw 37 rfl) (own_h hw 41 rfl) (by decide) (W := 1) (rm6 l Z aZ hw [] (9:Int32) (9:Int32) T1304.heap n0 Z1322 ) (by decide) (by decide) rfl (by rw [hml]; rfl) (argsL := [(.int (9:Int32)), (.int (9:Int32))]) (rest := [(.int (((f5 (0:Int32) (9:Int32)) + (f5 (9:Int32) (9:Int32))) + (f6 (0:Int32) (9:Int32))))]) (lenOf own_pd2 rfl) rfl (by show 2 * 0 + _ ≤ _; exact Nat.le_of_eq rfl) (D at_397) rfl eh1347 (by decide) (by decide) (fun v T1348 L1348 X1348 hQ1348 => ?_)
  obtain ⟨rfl, N1348q, eh1348⟩ := hQ1348
  have N1348 := Fr.app N1347 N1348q
  refine own_pA T1348 m 418 #[.val (.int p0), .val (.int p1), .val (.int p2), .val (.int p3), .val (.int p4), .val (.int p5), .val (.ref b1238), .val (.int (1:Int32)), .val (.int w0_4), .val (.int (w0_4 / (2:Int32))), .val (.int w0_5), .val (.int w0_6), .val (.int w0_7), .val (.int w0_8), .val (.ref b1249), .val (.int (own_v1331 w0_1 w0_2 w0_3 w0_4)), .val (.int (own_at [w0_1, w0_2, w0_3] (w0_4 / (2:Int32)))), .val (.int (own_at [w0_1, w0_2, w0_3] w0_7)), .val (.int (own_at [w0_1, w0_2, w0_3] w0_8)), .val (.int (0:Int32)), .val (.int (9:Int32)), .val (.int (9:Int32)), .val (.int (1:Int32)), .val (.int (1:Int32)), .val (.int ((f5 (9:Int32) (0:Int32)) + (f5 (9:Int32) (0:Int32)))), .val (.int (((f5 (0:Int32) (9:Int32)) + (f5 (9:Int32) (9:Int32))) + (f6 (0:Int32) (9:Int32)))), .val (.int ((((f5 (0:Int32) (9:Int32)) + (f5 (9:Int32) (9:Int32))) + (f6 (0:Int32) (9:Int32))) + (f6 (9:Int32) (9:Int32)))), .unset, .unset, .unset, .unset] [(.int ((f5 (9:Int32) (0:Int32)) + (f5 (9:Int32) (0:Int32)))), (.ref b1249)] (fun t k => ?_) ?_
  ·refine XS.iadd X1348.here hx rfl (D at_400) rfl ?_
   refine XS.istore X1348.here hx rfl (D at_401) rfl (l' := #[.val (.int p0), .val (.int p1), .val (.int p2), .val (.int p3), .val (.int p4), .val (.int p5), .val (.ref b1238), .val (.int (1:Int32)), .val (.int w0_4), .val (.int (w0_4 / (2:Int32))), .val (.int w0_5), .val (.int w0_6), .val (.int w0_7), .val (.int w0_8), .val (.ref b1249), .val (.int (own_v1331 w0_1 w0_2 w0_3 w0_4)), .val (.int (own_at [w0_1, w0_2, w0_3] (w0_4 / (2:Int32)))), .val (.int (own_at [w0_1, w0_2, w0_3] w0_7)), .val (.int (own_at [w0_1, w0_2, w0_3] w0_8)), .val (.int (0:Int32)), .val (.int (9:Int32)), .val (.int (9:Int32)), .val (.int (1:Int32)), .val (.int (1:Int32)), .val (.int ((f5 (9:Int32) (0:Int32)) + (f5 (9:Int32) (0:Int32)))), .val (.int (((f5 (0:Int32) (9:Int32)) + (f5 (9:Int32) (9:Int32))) + (f6 (0:Int32) (9:Int32)))), .val (.int ((((f5 (0:Int32) (9:Int32)) + (f5 (9:Int32) (9:Int32))) + (f6 (0:Int32) (9:Int32))) + (f6 (9:Int32) (9:Int32)))), .unset, .unset, .unset, .unset]) rfl ?_
   refine XS.iload X1348.here hx rfl (D at_403) rfl ?_
   refine XS.ifNo X1348.here hx rfl (D at_405) rfl (XT.i0_eq_f (by decide)) ?_
   refine XS.iload X1348.here hx rfl (D at_408) rfl ?_
   refine XS.iconst X1348.here hx rfl (D at_410) ?_
   refine XS.icmpNo X1348.here hx rfl (D at_411) rfl (XT.ii_lt_f (by decide)) ?_
   refine XS.aload X1348.here hx rfl (D at_414) rfl rfl ?_
   exact XS.iload X1348.here hx rfl (D at_416) rfl k
  have hf1351 : own_In ((f5 (9:Int32) (0:Int32)) + (f5 (9:Int32) (0:Int32))) (own_v1325 w0_1 w0_2 w0_3 w0_4).length := by subst hw0_5 hw0_6 hw0_7 hw0_8; exact own_fin1350 w0_1 (own_m3 _ _ hw0_1) w0_2 (own_m3 _ _ hw0_2) w0_3 (own_m3 _ _ hw0_3) w0_4 (own_m6 _ _ hw0_4)
  have F1352 := (F1305.keep K1304)
  refine own_virtG X1348 hx hZ (y := own_y7) hown (own_h hw 42 rfl) (own_h hw 43 rfl) (own_h hw 45 rfl) (own_h hw 44 rfl) (own_h hw 46 rfl) (own_h hw 4 rfl) (by decide) (W := 0) (rm7 l Z aZ hw [] b1249 ((f5 (9:Int32) (0:Int32)) + (f5 (9:Int32) (0:Int32))) gr_1254 (own_v1325 w0_1 w0_2 w0_3 w0_4) T1304.heap n0 Z1322 G1314 G1326 hf1351) (by decide) (by decide) eh1348 F1352 rfl (by rw [hml]; rfl) (argsL := [(.int ((f5 (9:Int32) (0:Int32)) + (f5 (9:Int32) (0:Int32))))]) (rest := []) (lenOf own_pd4 rfl) rfl (by show 2 * 0 + _ ≤ _; exact Nat.le_of_eq rfl) (D at_418) rfl (by decide) (by decide) (fun v T1349 L1349 X1349 hQ1349 => ?_)
  obtain ⟨rfl, N1349q, eh1349⟩ := hQ1349
  have N1349 := Fr.app N1348 N1349q
  have hd423_6 : (own_v1353 w0_1 w0_2 w0_3 w0_4) = (w0_4 / (2:Int32)) := (by subst hw0_5 hw0_6 hw0_7 hw0_8; exact own_fin1354 w0_1 (own_m3 _ _ hw0_1) w0_2 (own_m3 _ _ hw0_2) w0_3 (own_m3 _ _ hw0_3) w0_4 (own_m6 _ _ hw0_4))
  obtain ⟨w0_9, hw0_9⟩ : ∃ z : Int32, z = ((p5 &&& (2147483647:Int32)) % (1:Int32)) := ⟨_, rfl⟩
  have hkm : w0_9 ∈ own_L3 ∧ w0_9 < (1:Int32) := own_mk (by decide) hw0_9
  refine own_pA T1349 m 515 #[.val (.int p0), .val (.int p1), .val (.int p2), .val (.int p3), .val (.int p4), .val (.int p5), .val (.ref b1238), .val (.int (1:Int32)), .val (.int w0_4), .val (.int (w0_4 / (2:Int32))), .val (.int w0_5), .val (.int w0_6), .val (.int w0_7), .val (.int w0_8), .val (.ref b1249), .val (.int (own_v1331 w0_1 w0_2 w0_3 w0_4)), .val (.int (own_at [w0_1, w0_2, w0_3] (w0_4 / (2:Int32)))), .val (.int (own_at [w0_1, w0_2, w0_3] w0_7)), .val (.int (own_at [w0_1, w0_2, w0_3] w0_8)), .val (.int (0:Int32)), .val (.int (9:Int32)), .val (.int (9:Int32)), .val (.int (1:Int32)), .val (.int (1:Int32)), .val (.int ((f5 (9:Int32) (0:Int32)) + (f5 (9:Int32) (0:Int32)))), .val (.int (((f5 (0:Int32) (9:Int32)) + (f5 (9:Int32) (9:Int32))) + (f6 (0:Int32) (9:Int32)))), .val (.int ((((f5 (0:Int32) (9:Int32)) + (f5 (9:Int32) (9:Int32))) + (f6 (0:Int32) (9:Int32))) + (f6 (9:Int32) (9:Int32)))), .val (.int w0_9), .unset, .unset, .unset] [(.int w0_9)] (fun t k => ?_) ?_
  ·refine XS.iload X1349.here hx rfl (D at_421) rfl ?_
   refine XS.icmpNo X1349.here hx rfl (D at_423) rfl (XT.ii_ne_f hd423_6) ?_
   refine XS.iconst X1349.here hx rfl (D at_426) ?_
   refine XS.goto X1349.here hx rfl (pc0 := 427) (pc' := 431) rfl (D at_427) (by decide) (by decide) ?_
   refine XS.istore X1349.here hx rfl (D at_431) rfl (l' := #[.val (.int p0), .val (.int p1), .val (.int p2), .val (.int p3), .val (.int p4), .val (.int p5), .val (.ref b1238), .val (.int (1:Int32)), .val (.int w0_4), .val (.int (w0_4 / (2:Int32))), .val (.int w0_5), .val (.int w0_6), .val (.int w0_7), .val (.int w0_8), .val (.ref b1249), .val (.int (own_v1331 w0_1 w0_2 w0_3 w0_4)), .val (.int (own_at [w0_1, w0_2, w0_3] (w0_4 / (2:Int32)))), .val (.int (own_at [w0_1, w0_2, w0_3] w0_7)), .val (.int (own_at [w0_1, w0_2, w0_3] w0_8)), .val (.int (0:Int32)), .val (.int (9:Int32)), .val (.int (9:Int32)), .val (.int (1:Int32)), .val (.int (1:Int32)), .val (.int ((f5 (9:Int32) (0:Int32)) + (f5 (9:Int32) (0:Int32)))), .val (.int (((f5 (0:Int32) (9:Int32)) + (f5 (9:Int32) (9:Int32))) + (f6 (0:Int32) (9:Int32)))), .val (.int ((((f5 (0:Int32) (9:Int32)) + (f5 (9:Int32) (9:Int32))) + (f6 (0:Int32) (9:Int32))) + (f6 (9:Int32) (9:Int32)))), .unset, .unset, .unset, .unset]) rfl ?_
   refine XS.iload X1349.here hx rfl (D at_433) rfl ?_
   refine XS.ifNo X1349.here hx rfl (D at_435) rfl (XT.i0_eq_f (by decide)) ?_
   refine XS.iload X1349.here hx rfl (D at_438) rfl ?_
   refine XS.iconst X1349.here hx rfl (D at_440) ?_
   refine XS.icmpYes X1349.here hx rfl (pc0 := 441) (pc' := 463) rfl (D at_441) rfl (XT.ii_lt_t (by decide)) (by decide) (by decide) ?_
   refine XS.iload X1349.here hx rfl (D at_463) rfl ?_
   refine XS.ifNo X1349.here hx rfl (D at_465) rfl (XT.i0_eq_f (by decide)) ?_
   refine XS.iload X1349.here hx rfl (D at_468) rfl ?_
   refine XS.iconst X1349.here hx rfl (D at_470) ?_
   refine XS.icmpYes X1349.here hx rfl (pc0 := 471) (pc' := 493) rfl (D at_471) rfl (XT.ii_lt_t (by decide)) (by decide) (by decide) ?_
   refine XS.iload X1349.here hx rfl (D at_493) rfl ?_
   refine XS.ifNo X1349.here hx rfl (D at_495) rfl (XT.i0_eq_f (by decide)) ?_
   refine XS.iload X1349.here hx rfl (D at_498) rfl ?_
   refine XS.ifNo X1349.here hx rfl (D at_500) rfl (XT.i0_le_f (by decide)) ?_
   refine XS.iload X1349.here hx rfl (D at_503) rfl ?_
   refine Jvm.Stand.ldcI X1349 hx hown (mvT hZ (own_h hw 1 rfl)) rfl (D at_505) ?_
   refine XS.iand X1349.here hx rfl (D at_507) rfl ?_
   refine XS.iload X1349.here hx rfl (D at_508) rfl ?_
   refine iremM X1349 hx rfl (D at_510) rfl (by decide) ?_
   refine XS.istore X1349.here hx rfl (D at_511) rfl (l' := #[.val (.int p0), .val (.int p1), .val (.int p2), .val (.int p3), .val (.int p4), .val (.int p5), .val (.ref b1238), .val (.int (1:Int32)), .val (.int w0_4), .val (.int (w0_4 / (2:Int32))), .val (.int w0_5), .val (.int w0_6), .val (.int w0_7), .val (.int w0_8), .val (.ref b1249), .val (.int (own_v1331 w0_1 w0_2 w0_3 w0_4)), .val (.int (own_at [w0_1, w0_2, w0_3] (w0_4 / (2:Int32)))), .val (.int (own_at [w0_1, w0_2, w0_3] w0_7)), .val (.int (own_at [w0_1, w0_2, w0_3] w0_8)), .val (.int (0:Int32)), .val (.int (9:Int32)), .val (.int (9:Int32)), .val (.int (1:Int32)), .val (.int (1:Int32)), .val (.int ((f5 (9:Int32) (0:Int32)) + (f5 (9:Int32) (0:Int32)))), .val (.int (((f5 (0:Int32) (9:Int32)) + (f5 (9:Int32) (9:Int32))) + (f6 (0:Int32) (9:Int32)))), .val (.int ((((f5 (0:Int32) (9:Int32)) + (f5 (9:Int32) (9:Int32))) + (f6 (0:Int32) (9:Int32))) + (f6 (9:Int32) (9:Int32)))), .val (.int w0_9), .unset, .unset, .unset]) (by rw [hw0_9]; rfl) ?_
   exact XS.iload X1349.here hx rfl (D at_513) rfl k
  obtain ⟨w0_10, hw0_10⟩ : ∃ z : Int32, z = (if w0_9 = (0:Int32) then (own_at [w0_1, w0_2, w0_3] (w0_4 / (2:Int32))) else (own_at [w0_1, w0_2, w0_3] w0_8)) := ⟨_, rfl⟩
  refine own_pre (A := T1349.setTop (mkF m 547 #[.val (.int p0), .val (.int p1), .val (.int p2), .val (.int p3), .val (.int p4), .val (.int p5), .val (.ref b1238), .val (.int (1:Int32)), .val (.int w0_4), .val (.int (w0_4 / (2:Int32))), .val (.int w0_5), .val (.int w0_6), .val (.int w0_7), .val (.int w0_8), .val (.ref b1249), .val (.int (own_v1331 w0_1 w0_2 w0_3 w0_4)), .val (.int (own_at [w0_1, w0_2, w0_3] (w0_4 / (2:Int32)))), .val (.int (own_at [w0_1, w0_2, w0_3] w0_7)), .val (.int (own_at [w0_1, w0_2, w0_3] w0_8)), .val (.int (0:Int32)), .val (.int (9:Int32)), .val (.int (9:Int32)), .val (.int (1:Int32)), .val (.int (1:Int32)), .val (.int ((f5 (9:Int32) (0:Int32)) + (f5 (9:Int32) (0:Int32)))), .val (.int (((f5 (0:Int32) (9:Int32)) + (f5 (9:Int32) (9:Int32))) + (f6 (0:Int32) (9:Int32)))), .val (.int ((((f5 (0:Int32) (9:Int32)) + (f5 (9:Int32) (9:Int32))) + (f6 (0:Int32) (9:Int32))) + (f6 (9:Int32) (9:Int32)))), .val (.int w0_9), .unset, .unset, .unset] [(.int w0_10)])) (fun t k => ?_) ?_
  ·by_cases hm515_7 : w0_9 = (0:Int32)
   ·refine XS.ifNo X1349.here hx rfl (D at_515) rfl (XT.i0_ne_f hm515_7) ?_
    refine XS.iload X1349.here hx rfl (D at_518) rfl ?_
    refine XS.goto X1349.here hx rfl (pc0 := 520) (pc' := 547) rfl (D at_520) (by decide) (by decide) ?_
    rw [hw0_10.trans (if_pos hm515_7)] at k
    exact k
   ·refine XS.ifYes X1349.here hx rfl (pc0 := 515) (pc' := 523) rfl (D at_515) rfl (XT.i0_ne_t hm515_7) (by decide) (by decide) ?_
    refine XS.iload X1349.here hx rfl (D at_523) rfl ?_
    refine XS.iconst X1349.here hx rfl (D at_525) ?_
    by_cases hm526_8 : w0_9 = (1:Int32)
    ·refine XS.icmpNo X1349.here hx rfl (D at_526) rfl (XT.ii_ne_f hm526_8) ?_
     refine XS.iload X1349.here hx rfl (D at_529) rfl ?_
     refine XS.iconst X1349.here hx rfl (D at_531) ?_
     refine XS.icmpYes X1349.here hx rfl (pc0 := 532) (pc' := 540) rfl (D at_532) rfl (XT.ii_ne_t (by decide)) (by decide) (by decide) ?_
     refine XS.iload X1349.here hx rfl (D at_540) rfl ?_
     refine XS.goto X1349.here hx rfl (pc0 := 542) (pc' := 547) rfl (D at_542) (by decide) (by decide) ?_
     rw [hw0_10.trans (if_neg hm515_7)] at k
     exact k
    ·refine XS.icmpYes X1349.here hx rfl (pc0 := 526) (pc' := 545) rfl (D at_526) rfl (XT.ii_ne_t hm526_8) (by decide) (by decide) ?_
     refine XS.iload X1349.here hx rfl (D at_545) rfl ?_
     rw [hw0_10.trans (if_neg hm515_7)] at k
     exact k
  refine own_pA T1349 m 553 #[.val (.int p0), .val (.int p1), .val (.int p2), .val (.int p3), .val (.int p4), .val (.int p5), .val (.ref b1238), .val (.int (1:Int32)), .val (.int w0_4), .val (.int (w0_4 / (2:Int32))), .val (.int w0_5), .val (.int w0_6), .val (.int w0_7), .val (.int w0_8), .val (.ref b1249), .val (.int (own_v1331 w0_1 w0_2 w0_3 w0_4)), .val (.int (own_at [w0_1, w0_2, w0_3] (w0_4 / (2:Int32)))), .val (.int (own_at [w0_1, w0_2, w0_3] w0_7)), .val (.int (own_at [w0_1, w0_2, w0_3] w0_8)), .val (.int (0:Int32)), .val (.int (9:Int32)), .val (.int (9:Int32)), .val (.int (1:Int32)), .val (.int (1:Int32)), .val (.int ((f5 (9:Int32) (0:Int32)) + (f5 (9:Int32) (0:Int32)))), .val (.int (((f5 (0:Int32) (9:Int32)) + (f5 (9:Int32) (9:Int32))) + (f6 (0:Int32) (9:Int32)))), .val (.int ((((f5 (0:Int32) (9:Int32)) + (f5 (9:Int32) (9:Int32))) + (f6 (0:Int32) (9:Int32))) + (f6 (9:Int32) (9:Int32)))), .val (.int w0_9), .val (.int w0_10), .unset, .unset] [(.int w0_9), (.int (0:Int32))] (fun t k => ?_) ?_
  ·refine XS.istore X1349.here hx rfl (D at_547) rfl (l' := #[.val (.int p0), .val (.int p1), .val (.int p2), .val (.int p3), .val (.int p4), .val (.int p5), .val (.ref b1238), .val (.int (1:Int32)), .val (.int w0_4), .val (.int (w0_4 / (2:Int32))), .val (.int w0_5), .val (.int w0_6), .val (.int w0_7), .val (.int w0_8), .val (.ref b1249), .val (.int (own_v1331 w0_1 w0_2 w0_3 w0_4)), .val (.int (own_at [w0_1, w0_2, w0_3] (w0_4 / (2:Int32)))), .val (.int (own_at [w0_1, w0_2, w0_3] w0_7)), .val (.int (own_at [w0_1, w0_2, w0_3] w0_8)), .val (.int (0:Int32)), .val (.int (9:Int32)), .val (.int (9:Int32)), .val (.int (1:Int32)), .val (.int (1:Int32)), .val (.int ((f5 (9:Int32) (0:Int32)) + (f5 (9:Int32) (0:Int32)))), .val (.int (((f5 (0:Int32) (9:Int32)) + (f5 (9:Int32) (9:Int32))) + (f6 (0:Int32) (9:Int32)))), .val (.int ((((f5 (0:Int32) (9:Int32)) + (f5 (9:Int32) (9:Int32))) + (f6 (0:Int32) (9:Int32))) + (f6 (9:Int32) (9:Int32)))), .val (.int w0_9), .val (.int w0_10), .unset, .unset]) rfl ?_
   refine XS.iload X1349.here hx rfl (D at_549) rfl ?_
   exact XS.iload X1349.here hx rfl (D at_551) rfl k
  refine own_callSG X1349 hx hZ (y := own_y5) hown (own_h hw 35 rfl) (own_h hw 36 rfl) (own_h hw 37 rfl) (own_h hw 38 rfl) (by decide) (W := 0) (rm5 l Z aZ hw [] (0:Int32) w0_9 T1304.heap n0 Z1322 ) (by decide) (by decide) rfl (by rw [hml]; rfl) (argsL := [(.int (0:Int32)), (.int w0_9)]) (rest := []) (lenOf own_pd2 rfl) rfl (by show 2 * 0 + _ ≤ _; exact Nat.le_of_eq rfl) (D at_553) rfl eh1349 (by decide) (by decide) (fun v T1355 L1355 X1355 hQ1355 => ?_)
  obtain ⟨rfl, N1355q, eh1355⟩ := hQ1355
  have N1355 := Fr.app N1349 N1355q
  refine own_pA T1355 m 560 #[.val (.int p0), .val (.int p1), .val (.int p2), .val (.int p3), .val (.int p4), .val (.int p5), .val (.ref b1238), .val (.int (1:Int32)), .val (.int w0_4), .val (.int (w0_4 / (2:Int32))), .val (.int w0_5), .val (.int w0_6), .val (.int w0_7), .val (.int w0_8), .val (.ref b1249), .val (.int (own_v1331 w0_1 w0_2 w0_3 w0_4)), .val (.int (own_at [w0_1, w0_2, w0_3] (w0_4 / (2:Int32)))), .val (.int (own_at [w0_1, w0_2, w0_3] w0_7)), .val (.int (own_at [w0_1, w0_2, w0_3] w0_8)), .val (.int (0:Int32)), .val (.int (9:Int32)), .val (.int (9:Int32)), .val (.int (1:Int32)), .val (.int (1:Int32)), .val (.int ((f5 (9:Int32) (0:Int32)) + (f5 (9:Int32) (0:Int32)))), .val (.int (((f5 (0:Int32) (9:Int32)) + (f5 (9:Int32) (9:Int32))) + (f6 (0:Int32) (9:Int32)))), .val (.int ((((f5 (0:Int32) (9:Int32)) + (f5 (9:Int32) (9:Int32))) + (f6 (0:Int32) (9:Int32))) + (f6 (9:Int32) (9:Int32)))), .val (.int w0_9), .val (.int w0_10), .unset, .unset] [(.int w0_9), (.int (9:Int32)), (.int (f5 (0:Int32) w0_9))] (fun t k => ?_) ?_
  ·refine XS.iload X1355.here hx rfl (D at_556) rfl ?_
   exact XS.iload X1355.here hx rfl (D at_558) rfl k
  refine own_callSG X1355 hx hZ (y := own_y5) hown (own_h hw 35 rfl) (own_h hw 36 rfl) (own_h hw 37 rfl) (own_h hw 38 rfl) (by decide) (W := 1) (rm5 l Z aZ hw [] (9:Int32) w0_9 T1304.heap n0 Z1322 ) (by decide) (by decide) rfl (by rw [hml]; rfl) (argsL := [(.int (9:Int32)), (.int w0_9)]) (rest := [(.int (f5 (0:Int32) w0_9))]) (lenOf own_pd2 rfl) rfl (by show 2 * 0 + _ ≤ _; exact Nat.le_of_eq rfl) (D at_560) rfl eh1355 (by decide) (by decide) (fun v T1357 L1357 X1357 hQ1357 => ?_)
  obtain ⟨rfl, N1357q, eh1357⟩ := hQ1357
  have N1357 := Fr.app N1355 N1357q
  refine own_pA T1357 m 568 #[.val (.int p0), .val (.int p1), .val (.int p2), .val (.int p3), .val (.int p4), .val (.int p5), .val (.ref b1238), .val (.int (1:Int32)), .val (.int w0_4), .val (.int (w0_4 / (2:Int32))), .val (.int w0_5), .val (.int w0_6), .val (.int w0_7), .val (.int w0_8), .val (.ref b1249), .val (.int (own_v1331 w0_1 w0_2 w0_3 w0_4)), .val (.int (own_at [w0_1, w0_2, w0_3] (w0_4 / (2:Int32)))), .val (.int (own_at [w0_1, w0_2, w0_3] w0_7)), .val (.int (own_at [w0_1, w0_2, w0_3] w0_8)), .val (.int (0:Int32)), .val (.int (9:Int32)), .val (.int (9:Int32)), .val (.int (1:Int32)), .val (.int (1:Int32)), .val (.int ((f5 (9:Int32) (0:Int32)) + (f5 (9:Int32) (0:Int32)))), .val (.int (((f5 (0:Int32) (9:Int32)) + (f5 (9:Int32) (9:Int32))) + (f6 (0:Int32) (9:Int32)))), .val (.int ((((f5 (0:Int32) (9:Int32)) + (f5 (9:Int32) (9:Int32))) + (f6 (0:Int32) (9:Int32))) + (f6 (9:Int32) (9:Int32)))), .val (.int w0_9), .val (.int w0_10), .unset, .unset] [(.int w0_9), (.int (9:Int32)), (.int ((f5 (0:Int32) w0_9) + (f5 (9:Int32) w0_9)))] (fun t k => ?_) ?_
  ·refine XS.iadd X1357.here hx rfl (D at_563) rfl ?_
   refine XS.iload X1357.here hx rfl (D at_564) rfl ?_
   exact XS.iload X1357.here hx rfl (D at_566) rfl k
  refine own_callSG X1357 hx hZ (y := own_y5) hown (own_h hw 35 rfl) (own_h hw 36 rfl) (own_h hw 37 rfl) (own_h hw 38 rfl) (by decide) (W := 1) (rm5 l Z aZ hw [] (9:Int32) w0_9 T1304.heap n0 Z1322 ) (by decide) (by decide) rfl (by rw [hml]; rfl) (argsL := [(.int (9:Int32)), (.int w0_9)]) (rest := [(.int ((f5 (0:Int32) w0_9) + (f5 (9:Int32) w0_9)))]) (lenOf own_pd2 rfl) rfl (by show 2 * 0 + _ ≤ _; exact Nat.le_of_eq rfl) (D at_568) rfl eh1357 (by decide) (by decide) (fun v T1358 L1358 X1358 hQ1358 => ?_)
  obtain ⟨rfl, N1358q, eh1358⟩ := hQ1358
  have N1358 := Fr.app N1357 N1358q
  refine own_pA T1358 m 580 #[.val (.int p0), .val (.int p1), .val (.int p2), .val (.int p3), .val (.int p4), .val (.int p5), .val (.ref b1238), .val (.int (1:Int32)), .val (.int w0_4), .val (.int (w0_4 / (2:Int32))), .val (.int w0_5), .val (.int w0_6), .val (.int w0_7), .val (.int w0_8), .val (.ref b1249), .val (.int (own_v1331 w0_1 w0_2 w0_3 w0_4)), .val (.int (own_at [w0_1, w0_2, w0_3] (w0_4 / (2:Int32)))), .val (.int (own_at [w0_1, w0_2, w0_3] w0_7)), .val (.int (own_at [w0_1, w0_2, w0_3] w0_8)), .val (.int (0:Int32)), .val (.int (9:Int32)), .val (.int (9:Int32)), .val (.int (1:Int32)), .val (.int (1:Int32)), .val (.int ((f5 (9:Int32) (0:Int32)) + (f5 (9:Int32) (0:Int32)))), .val (.int (((f5 (0:Int32) (9:Int32)) + (f5 (9:Int32) (9:Int32))) + (f6 (0:Int32) (9:Int32)))), .val (.int ((((f5 (0:Int32) (9:Int32)) + (f5 (9:Int32) (9:Int32))) + (f6 (0:Int32) (9:Int32))) + (f6 (9:Int32) (9:Int32)))), .val (.int w0_9), .val (.int w0_10), .val (.int (((f5 (0:Int32) w0_9) + (f5 (9:Int32) w0_9)) + (f5 (9:Int32) w0_9))), .unset] [(.int (w0_9 + (1:Int32))), (.int (0:Int32))] (fun t k => ?_) ?_
  ·refine XS.iadd X1358.here hx rfl (D at_571) rfl ?_
   refine XS.istore X1358.here hx rfl (D at_572) rfl (l' := #[.val (.int p0), .val (.int p1), .val (.int p2), .val (.int p3), .val (.int p4), .val (.int p5), .val (.ref b1238), .val (.int (1:Int32)), .val (.int w0_4), .val (.int (w0_4 / (2:Int32))), .val (.int w0_5), .val (.int w0_6), .val (.int w0_7), .val (.int w0_8), .val (.ref b1249), .val (.int (own_v1331 w0_1 w0_2 w0_3 w0_4)), .val (.int (own_at [w0_1, w0_2, w0_3] (w0_4 / (2:Int32)))), .val (.int (own_at [w0_1, w0_2, w0_3] w0_7)), .val (.int (own_at [w0_1, w0_2, w0_3] w0_8)), .val (.int (0:Int32)), .val (.int (9:Int32)), .val (.int (9:Int32)), .val (.int (1:Int32)), .val (.int (1:Int32)), .val (.int ((f5 (9:Int32) (0:Int32)) + (f5 (9:Int32) (0:Int32)))), .val (.int (((f5 (0:Int32) (9:Int32)) + (f5 (9:Int32) (9:Int32))) + (f6 (0:Int32) (9:Int32)))), .val (.int ((((f5 (0:Int32) (9:Int32)) + (f5 (9:Int32) (9:Int32))) + (f6 (0:Int32) (9:Int32))) + (f6 (9:Int32) (9:Int32)))), .val (.int w0_9), .val (.int w0_10), .val (.int (((f5 (0:Int32) w0_9) + (f5 (9:Int32) w0_9)) + (f5 (9:Int32) w0_9))), .unset]) rfl ?_
   refine XS.iload X1358.here hx rfl (D at_574) rfl ?_
   refine XS.iload X1358.here hx rfl (D at_576) rfl ?_
   refine XS.iconst X1358.here hx rfl (D at_578) ?_
   exact XS.iadd X1358.here hx rfl (D at_579) rfl k
  refine own_callSG X1358 hx hZ (y := own_y5) hown (own_h hw 35 rfl) (own_h hw 36 rfl) (own_h hw 37 rfl) (own_h hw 38 rfl) (by decide) (W := 0) (rm5 l Z aZ hw [] (0:Int32) (w0_9 + (1:Int32)) T1304.heap n0 Z1322 ) (by decide) (by decide) rfl (by rw [hml]; rfl) (argsL := [(.int (0:Int32)), (.int (w0_9 + (1:Int32)))]) (rest := []) (lenOf own_pd2 rfl) rfl (by show 2 * 0 + _ ≤ _; exact Nat.le_of_eq rfl) (D at_580) rfl eh1358 (by decide) (by decide) (fun v T1359 L1359 X1359 hQ1359 => ?_)
  obtain ⟨rfl, N1359q, eh1359⟩ := hQ1359
  have N1359 := Fr.app N1358 N1359q
  refine own_pA T1359 m 589 #[.val (.int p0), .val (.int p1), .val (.int p2), .val (.int p3), .val (.int p4), .val (.int p5), .val (.ref b1238), .val (.int (1:Int32)), .val (.int w0_4), .val (.int (w0_4 / (2:Int32))), .val (.int w0_5), .val (.int w0_6), .val (.int w0_7), .val (.int w0_8), .val (.ref b1249), .val (.int (own_v1331 w0_1 w0_2 w0_3 w0_4)), .val (.int (own_at [w0_1, w0_2, w0_3] (w0_4 / (2:Int32)))), .val (.int (own_at [w0_1, w0_2, w0_3] w0_7)), .val (.int (own_at [w0_1, w0_2, w0_3] w0_8)), .val (.int (0:Int32)), .val (.int (9:Int32)), .val (.int (9:Int32)), .val (.int (1:Int32)), .val (.int (1:Int32)), .val (.int ((f5 (9:Int32) (0:Int32)) + (f5 (9:Int32) (0:Int32)))), .val (.int (((f5 (0:Int32) (9:Int32)) + (f5 (9:Int32) (9:Int32))) + (f6 (0:Int32) (9:Int32)))), .val (.int ((((f5 (0:Int32) (9:Int32)) + (f5 (9:Int32) (9:Int32))) + (f6 (0:Int32) (9:Int32))) + (f6 (9:Int32) (9:Int32)))), .val (.int w0_9), .val (.int w0_10), .val (.int (((f5 (0:Int32) w0_9) + (f5 (9:Int32) w0_9)) + (f5 (9:Int32) w0_9))), .unset] [(.int (w0_9 + (1:Int32))), (.int (9:Int32)), (.int (f5 (0:Int32) (w0_9 + (1:Int32))))] (fun t k => ?_) ?_
  ·refine XS.iload X1359.here hx rfl (D at_583) rfl ?_
   refine XS.iload X1359.here hx rfl (D at_585) rfl ?_
   refine XS.iconst X1359.here hx rfl (D at_587) ?_
   exact XS.iadd X1359.here hx rfl (D at_588) rfl k
  refine own_callSG X1359 hx hZ (y := own_y5) hown (own_h hw 35 rfl) (own_h hw 36 rfl) (own_h hw 37 rfl) (own_h hw 38 rfl) (by decide) (W := 1) (rm5 l Z aZ hw [] (9:Int32) (w0_9 + (1:Int32)) T1304.heap n0 Z1322 ) (by decide) (by decide) rfl (by rw [hml]; rfl) (argsL := [(.int (9:Int32)), (.int (w0_9 + (1:Int32)))]) (rest := [(.int (f5 (0:Int32) (w0_9 + (1:Int32))))]) (lenOf own_pd2 rfl) rfl (by show 2 * 0 + _ ≤ _; exact Nat.le_of_eq rfl) (D at_589) rfl eh1359 (by decide) (by decide) (fun v T1360 L1360 X1360 hQ1360 => ?_)
  obtain ⟨rfl, N1360q, eh1360⟩ := hQ1360
  have N1360 := Fr.app N1359 N1360q
  refine own_pA T1360 m 599 #[.val (.int p0), .val (.int p1), .val (.int p2), .val (.int p3), .val (.int p4), .val (.int p5), .val (.ref b1238), .val (.int (1:Int32)), .val (.int w0_4), .val (.int (w0_4 / (2:Int32))), .val (.int w0_5), .val (.int w0_6), .val (.int w0_7), .val (.int w0_8), .val (.ref b1249), .val (.int (own_v1331 w0_1 w0_2 w0_3 w0_4)), .val (.int (own_at [w0_1, w0_2, w0_3] (w0_4 / (2:Int32)))), .val (.int (own_at [w0_1, w0_2, w0_3] w0_7)), .val (.int (own_at [w0_1, w0_2, w0_3] w0_8)), .val (.int (0:Int32)), .val (.int (9:Int32)), .val (.int (9:Int32)), .val (.int (1:Int32)), .val (.int (1:Int32)), .val (.int ((f5 (9:Int32) (0:Int32)) + (f5 (9:Int32) (0:Int32)))), .val (.int (((f5 (0:Int32) (9:Int32)) + (f5 (9:Int32) (9:Int32))) + (f6 (0:Int32) (9:Int32)))), .val (.int ((((f5 (0:Int32) (9:Int32)) + (f5 (9:Int32) (9:Int32))) + (f6 (0:Int32) (9:Int32))) + (f6 (9:Int32) (9:Int32)))), .val (.int w0_9), .val (.int w0_10), .val (.int (((f5 (0:Int32) w0_9) + (f5 (9:Int32) w0_9)) + (f5 (9:Int32) w0_9))), .unset] [(.int (w0_9 + (1:Int32))), (.int (9:Int32)), (.int ((f5 (0:Int32) (w0_9 + (1:Int32))) + (f5 (9:Int32) (w0_9 + (1:Int32)))))] (fun t k => ?_) ?_
  ·refine XS.iadd X1360.here hx rfl (D at_592) rfl ?_
   refine XS.iload X1360.here hx rfl (D at_593) rfl ?_
   refine XS.iload X1360.here hx rfl (D at_595) rfl ?_
   refine XS.iconst X1360.here hx rfl (D at_597) ?_
   exact XS.iadd X1360.here hx rfl (D at_598) rfl k
  refine own_callSG X1360 hx hZ (y := own_y5) hown (own_h hw 35 rfl) (own_h hw 36 rfl) (own_h hw 37 rfl) (own_h hw 38 rfl) (by decide) (W := 1) (rm5 l Z aZ hw [] (9:Int32) (w0_9 + (1:Int32)) T1304.heap n0 Z1322 ) (by decide) (by decide) rfl (by rw [hml]; rfl) (argsL := [(.int (9:Int32)), (.int (w0_9 + (1:Int32)))]) (rest := [(.int ((f5 (0:Int32) (w0_9 + (1:Int32))) + (f5 (9:Int32) (w0_9 + (1:Int32)))))]) (lenOf own_pd2 rfl) rfl (by show 2 * 0 + _ ≤ _; exact Nat.le_of_eq rfl) (D at_599) rfl eh1360 (by decide) (by decide) (fun v T1361 L1361 X1361 hQ1361 => ?_)
  obtain ⟨rfl, N1361q, eh1361⟩ := hQ1361
  have N1361 := Fr.app N1360 N1361q
  refine own_pA T1361 m 609 #[.val (.int p0), .val (.int p1), .val (.int p2), .val (.int p3), .val (.int p4), .val (.int p5), .val (.ref b1238), .val (.int (1:Int32)), .val (.int w0_4), .val (.int (w0_4 / (2:Int32))), .val (.int w0_5), .val (.int w0_6), .val (.int w0_7), .val (.int w0_8), .val (.ref b1249), .val (.int (own_v1331 w0_1 w0_2 w0_3 w0_4)), .val (.int (own_at [w0_1, w0_2, w0_3] (w0_4 / (2:Int32)))), .val (.int (own_at [w0_1, w0_2, w0_3] w0_7)), .val (.int (own_at [w0_1, w0_2, w0_3] w0_8)), .val (.int (0:Int32)), .val (.int (9:Int32)), .val (.int (9:Int32)), .val (.int (1:Int32)), .val (.int (1:Int32)), .val (.int ((f5 (9:Int32) (0:Int32)) + (f5 (9:Int32) (0:Int32)))), .val (.int (((f5 (0:Int32) (9:Int32)) + (f5 (9:Int32) (9:Int32))) + (f6 (0:Int32) (9:Int32)))), .val (.int ((((f5 (0:Int32) (9:Int32)) + (f5 (9:Int32) (9:Int32))) + (f6 (0:Int32) (9:Int32))) + (f6 (9:Int32) (9:Int32)))), .val (.int w0_9), .val (.int w0_10), .val (.int (((f5 (0:Int32) w0_9) + (f5 (9:Int32) w0_9)) + (f5 (9:Int32) w0_9))), .val (.int (((f5 (0:Int32) (w0_9 + (1:Int32))) + (f5 (9:Int32) (w0_9 + (1:Int32)))) + (f5 (9:Int32) (w0_9 + (1:Int32)))))] [(.int w0_9), (.ref b1249)] (fun t k => ?_) ?_
  ·refine XS.iadd X1361.here hx rfl (D at_602) rfl ?_
   refine XS.istore X1361.here hx rfl (D at_603) rfl (l' := #[.val (.int p0), .val (.int p1), .val (.int p2), .val (.int p3), .val (.int p4), .val (.int p5), .val (.ref b1238), .val (.int (1:Int32)), .val (.int w0_4), .val (.int (w0_4 / (2:Int32))), .val (.int w0_5), .val (.int w0_6), .val (.int w0_7), .val (.int w0_8), .val (.ref b1249), .val (.int (own_v1331 w0_1 w0_2 w0_3 w0_4)), .val (.int (own_at [w0_1, w0_2, w0_3] (w0_4 / (2:Int32)))), .val (.int (own_at [w0_1, w0_2, w0_3] w0_7)), .val (.int (own_at [w0_1, w0_2, w0_3] w0_8)), .val (.int (0:Int32)), .val (.int (9:Int32)), .val (.int (9:Int32)), .val (.int (1:Int32)), .val (.int (1:Int32)), .val (.int ((f5 (9:Int32) (0:Int32)) + (f5 (9:Int32) (0:Int32)))), .val (.int (((f5 (0:Int32) (9:Int32)) + (f5 (9:Int32) (9:Int32))) + (f6 (0:Int32) (9:Int32)))), .val (.int ((((f5 (0:Int32) (9:Int32)) + (f5 (9:Int32) (9:Int32))) + (f6 (0:Int32) (9:Int32))) + (f6 (9:Int32) (9:Int32)))), .val (.int w0_9), .val (.int w0_10), .val (.int (((f5 (0:Int32) w0_9) + (f5 (9:Int32) w0_9)) + (f5 (9:Int32) w0_9))), .val (.int (((f5 (0:Int32) (w0_9 + (1:Int32))) + (f5 (9:Int32) (w0_9 + (1:Int32)))) + (f5 (9:Int32) (w0_9 + (1:Int32)))))]) rfl ?_
   refine XS.aload X1361.here hx rfl (D at_605) rfl rfl ?_
   exact XS.iload X1361.here hx rfl (D at_607) rfl k
  have hf1364 : own_In w0_9 (own_v1327 w0_1 w0_2 w0_3 w0_4).length := by subst hw0_5 hw0_6 hw0_7 hw0_8 hw0_10; exact own_fin1363 w0_1 (own_m3 _ _ hw0_1) w0_2 (own_m3 _ _ hw0_2) w0_3 (own_m3 _ _ hw0_3) w0_4 (own_m6 _ _ hw0_4) w0_9 hkm.1 hkm.2
  refine own_virtG X1361 hx hZ (y := own_y8) hown (own_h hw 47 rfl) (own_h hw 48 rfl) (own_h hw 50 rfl) (own_h hw 49 rfl) (own_h hw 51 rfl) (own_h hw 4 rfl) (by decide) (W := 0) (rm8 l Z aZ hw [] b1249 w0_9 gl_1255 (own_v1327 w0_1 w0_2 w0_3 w0_4) T1304.heap n0 Z1322 G1315 G1328 hf1364) (by decide) (by decide) eh1361 F1352 rfl (by rw [hml]; rfl) (argsL := [(.int w0_9)]) (rest := []) (lenOf own_pd4 rfl) rfl (by show 2 * 0 + _ ≤ _; exact Nat.le_of_eq rfl) (D at_609) rfl (by decide) (by decide) (fun v T1362 L1362 X1362 hQ1362 => ?_)
  obtain ⟨rfl, N1362q, eh1362⟩ := hQ1362
  have N1362 := Fr.app N1361 N1362q
  have hd614_9 : (own_v1365 w0_9 w0_1 w0_2 w0_3 w0_4) = w0_10 := (by subst hw0_5 hw0_6 hw0_7 hw0_8 hw0_10; exact own_fin1366 w0_1 (own_m3 _ _ hw0_1) w0_2 (own_m3 _ _ hw0_2) w0_3 (own_m3 _ _ hw0_3) w0_4 (own_m6 _ _ hw0_4) w0_9 hkm.1 hkm.2)
  refine own_pA T1362 m 621 #[.val (.int p0), .val (.int p1), .val (.int p2), .val (.int p3), .val (.int p4), .val (.int p5), .val (.ref b1238), .val (.int (1:Int32)), .val (.int w0_4), .val (.int (w0_4 / (2:Int32))), .val (.int w0_5), .val (.int w0_6), .val (.int w0_7), .val (.int w0_8), .val (.ref b1249), .val (.int (own_v1331 w0_1 w0_2 w0_3 w0_4)), .val (.int (own_at [w0_1, w0_2, w0_3] (w0_4 / (2:Int32)))), .val (.int (own_at [w0_1, w0_2, w0_3] w0_7)), .val (.int (own_at [w0_1, w0_2, w0_3] w0_8)), .val (.int (0:Int32)), .val (.int (9:Int32)), .val (.int (9:Int32)), .val (.int (1:Int32)), .val (.int (1:Int32)), .val (.int ((f5 (9:Int32) (0:Int32)) + (f5 (9:Int32) (0:Int32)))), .val (.int (((f5 (0:Int32) (9:Int32)) + (f5 (9:Int32) (9:Int32))) + (f6 (0:Int32) (9:Int32)))), .val (.int ((((f5 (0:Int32) (9:Int32)) + (f5 (9:Int32) (9:Int32))) + (f6 (0:Int32) (9:Int32))) + (f6 (9:Int32) (9:Int32)))), .val (.int w0_9), .val (.int w0_10), .val (.int (((f5 (0:Int32) w0_9) + (f5 (9:Int32) w0_9)) + (f5 (9:Int32) w0_9))), .val (.int (((f5 (0:Int32) (w0_9 + (1:Int32))) + (f5 (9:Int32) (w0_9 + (1:Int32)))) + (f5 (9:Int32) (w0_9 + (1:Int32)))))] [(.int w0_9), (.ref b1249)] (fun t k => ?_) ?_
  ·refine XS.iload X1362.here hx rfl (D at_612) rfl ?_
   refine XS.icmpNo X1362.here hx rfl (D at_614) rfl (XT.ii_ne_f hd614_9) ?_
   refine XS.aload X1362.here hx rfl (D at_617) rfl rfl ?_
   exact XS.iload X1362.here hx rfl (D at_619) rfl k
  have hf1369 : (own_In w0_9 (own_v1327 w0_1 w0_2 w0_3 w0_4).length) ∧ (own_In (own_at (own_v1327 w0_1 w0_2 w0_3 w0_4) w0_9) (own_v1329 w0_1 w0_2 w0_3 w0_4).length) := by subst hw0_5 hw0_6 hw0_7 hw0_8 hw0_10; exact own_fin1368 w0_1 (own_m3 _ _ hw0_1) w0_2 (own_m3 _ _ hw0_2) w0_3 (own_m3 _ _ hw0_3) w0_4 (own_m6 _ _ hw0_4) w0_9 hkm.1 hkm.2
  refine own_virtG X1362 hx hZ (y := own_y9) hown (own_h hw 52 rfl) (own_h hw 53 rfl) (own_h hw 55 rfl) (own_h hw 54 rfl) (own_h hw 56 rfl) (own_h hw 4 rfl) (by decide) (W := 0) (rm9 l Z aZ hw [] b1249 w0_9 gl_1255 gs_1256 (own_v1327 w0_1 w0_2 w0_3 w0_4) (own_v1329 w0_1 w0_2 w0_3 w0_4) T1304.heap n0 Z1322 G1315 G1316 G1328 G1330 hf1369.1 hf1369.2) (by decide) (by decide) eh1362 F1352 rfl (by rw [hml]; rfl) (argsL := [(.int w0_9)]) (rest := []) (lenOf own_pd4 rfl) rfl (by show 2 * 0 + _ ≤ _; exact Nat.le_of_eq rfl) (D at_621) rfl (by decide) (by decide) (fun v T1367 L1367 X1367 hQ1367 => ?_)
  obtain ⟨rfl, N1367q, eh1367⟩ := hQ1367
  have N1367 := Fr.app N1362 N1367q
  have hd626_10 : (own_v1370 w0_9 w0_1 w0_2 w0_3 w0_4) = (((f5 (0:Int32) w0_9) + (f5 (9:Int32) w0_9)) + (f5 (9:Int32) w0_9)) := (by subst hw0_5 hw0_6 hw0_7 hw0_8 hw0_10; exact own_fin1371 w0_1 (own_m3 _ _ hw0_1) w0_2 (own_m3 _ _ hw0_2) w0_3 (own_m3 _ _ hw0_3) w0_4 (own_m6 _ _ hw0_4) w0_9 hkm.1 hkm.2)
  refine own_pA T1367 m 633 #[.val (.int p0), .val (.int p1), .val (.int p2), .val (.int p3), .val (.int p4), .val (.int p5), .val (.ref b1238), .val (.int (1:Int32)), .val (.int w0_4), .val (.int (w0_4 / (2:Int32))), .val (.int w0_5), .val (.int w0_6), .val (.int w0_7), .val (.int w0_8), .val (.ref b1249), .val (.int (own_v1331 w0_1 w0_2 w0_3 w0_4)), .val (.int (own_at [w0_1, w0_2, w0_3] (w0_4 / (2:Int32)))), .val (.int (own_at [w0_1, w0_2, w0_3] w0_7)), .val (.int (own_at [w0_1, w0_2, w0_3] w0_8)), .val (.int (0:Int32)), .val (.int (9:Int32)), .val (.int (9:Int32)), .val (.int (1:Int32)), .val (.int (1:Int32)), .val (.int ((f5 (9:Int32) (0:Int32)) + (f5 (9:Int32) (0:Int32)))), .val (.int (((f5 (0:Int32) (9:Int32)) + (f5 (9:Int32) (9:Int32))) + (f6 (0:Int32) (9:Int32)))), .val (.int ((((f5 (0:Int32) (9:Int32)) + (f5 (9:Int32) (9:Int32))) + (f6 (0:Int32) (9:Int32))) + (f6 (9:Int32) (9:Int32)))), .val (.int w0_9), .val (.int w0_10), .val (.int (((f5 (0:Int32) w0_9) + (f5 (9:Int32) w0_9)) + (f5 (9:Int32) w0_9))), .val (.int (((f5 (0:Int32) (w0_9 + (1:Int32))) + (f5 (9:Int32) (w0_9 + (1:Int32)))) + (f5 (9:Int32) (w0_9 + (1:Int32)))))] [(.int w0_9), (.ref b1249)] (fun t k => ?_) ?_
  ·refine XS.iload X1367.here hx rfl (D at_624) rfl ?_
   refine XS.icmpNo X1367.here hx rfl (D at_626) rfl (XT.ii_ne_f hd626_10) ?_
   refine XS.aload X1367.here hx rfl (D at_629) rfl rfl ?_
   exact XS.iload X1367.here hx rfl (D at_631) rfl k
  have hf1374 : ((w0_9 + (1:Int32)) < (own_v1323 w0_1 w0_2 w0_3 w0_4) → own_In (w0_9 + (1:Int32)) (own_v1327 w0_1 w0_2 w0_3 w0_4).length) ∧ ((w0_9 + (1:Int32)) < (own_v1323 w0_1 w0_2 w0_3 w0_4) → own_In (own_at (own_v1327 w0_1 w0_2 w0_3 w0_4) (w0_9 + (1:Int32))) (own_v1329 w0_1 w0_2 w0_3 w0_4).length) := by subst hw0_5 hw0_6 hw0_7 hw0_8 hw0_10; exact own_fin1373 w0_1 (own_m3 _ _ hw0_1) w0_2 (own_m3 _ _ hw0_2) w0_3 (own_m3 _ _ hw0_3) w0_4 (own_m6 _ _ hw0_4) w0_9 hkm.1 hkm.2
  refine own_virtG X1367 hx hZ (y := own_y10) hown (own_h hw 57 rfl) (own_h hw 58 rfl) (own_h hw 60 rfl) (own_h hw 59 rfl) (own_h hw 61 rfl) (own_h hw 4 rfl) (by decide) (W := 0) (rm10 l Z aZ hw [] b1249 w0_9 gl_1255 gs_1256 (own_v1327 w0_1 w0_2 w0_3 w0_4) (own_v1329 w0_1 w0_2 w0_3 w0_4) (own_v1323 w0_1 w0_2 w0_3 w0_4) (1:Int32) T1304.heap n0 Z1322 G1315 G1316 G1324 G1317 G1328 G1330 hf1374.1 hf1374.2) (by decide) (by decide) eh1367 F1352 rfl (by rw [hml]; rfl) (argsL := [(.int w0_9)]) (rest := []) (lenOf own_pd4 rfl) rfl (by show 2 * 0 + _ ≤ _; exact Nat.le_of_eq rfl) (D at_633) rfl (by decide) (by decide) (fun v T1372 L1372 X1372 hQ1372 => ?_)
  obtain ⟨rfl, N1372q, eh1372⟩ := hQ1372
  have N1372 := Fr.app N1367 N1372q
  have hd638_11 : (own_v1375 w0_9 w0_1 w0_2 w0_3 w0_4) = (((f5 (0:Int32) (w0_9 + (1:Int32))) + (f5 (9:Int32) (w0_9 + (1:Int32)))) + (f5 (9:Int32) (w0_9 + (1:Int32)))) := (by subst hw0_5 hw0_6 hw0_7 hw0_8 hw0_10; exact own_fin1376 w0_1 (own_m3 _ _ hw0_1) w0_2 (own_m3 _ _ hw0_2) w0_3 (own_m3 _ _ hw0_3) w0_4 (own_m6 _ _ hw0_4) w0_9 hkm.1 hkm.2)
  refine own_pA T1372 m 650 #[.val (.int p0), .val (.int p1), .val (.int p2), .val (.int p3), .val (.int p4), .val (.int p5), .val (.ref b1238), .val (.int (1:Int32)), .val (.int w0_4), .val (.int (w0_4 / (2:Int32))), .val (.int w0_5), .val (.int w0_6), .val (.int w0_7), .val (.int w0_8), .val (.ref b1249), .val (.int (own_v1331 w0_1 w0_2 w0_3 w0_4)), .val (.int (own_at [w0_1, w0_2, w0_3] (w0_4 / (2:Int32)))), .val (.int (own_at [w0_1, w0_2, w0_3] w0_7)), .val (.int (own_at [w0_1, w0_2, w0_3] w0_8)), .val (.int (0:Int32)), .val (.int (9:Int32)), .val (.int (9:Int32)), .val (.int (1:Int32)), .val (.int (1:Int32)), .val (.int ((f5 (9:Int32) (0:Int32)) + (f5 (9:Int32) (0:Int32)))), .val (.int (((f5 (0:Int32) (9:Int32)) + (f5 (9:Int32) (9:Int32))) + (f6 (0:Int32) (9:Int32)))), .val (.int ((((f5 (0:Int32) (9:Int32)) + (f5 (9:Int32) (9:Int32))) + (f6 (0:Int32) (9:Int32))) + (f6 (9:Int32) (9:Int32)))), .val (.int w0_9), .val (.int w0_10), .val (.int (((f5 (0:Int32) w0_9) + (f5 (9:Int32) w0_9)) + (f5 (9:Int32) w0_9))), .val (.int (((f5 (0:Int32) (w0_9 + (1:Int32))) + (f5 (9:Int32) (w0_9 + (1:Int32)))) + (f5 (9:Int32) (w0_9 + (1:Int32)))))] [(.int (1:Int32))] (fun t k => ?_) ?_
  ·refine XS.iload X1372.here hx rfl (D at_636) rfl ?_
   refine XS.icmpNo X1372.here hx rfl (D at_638) rfl (XT.ii_ne_f hd638_11) ?_
   refine XS.iconst X1372.here hx rfl (D at_641) ?_
   refine XS.goto X1372.here hx rfl (pc0 := 642) (pc' := 646) rfl (D at_642) (by decide) (by decide) ?_
   refine XS.istore X1372.here hx rfl (D at_646) rfl (l' := #[.val (.int p0), .val (.int p1), .val (.int p2), .val (.int p3), .val (.int p4), .val (.int p5), .val (.ref b1238), .val (.int (1:Int32)), .val (.int w0_4), .val (.int (w0_4 / (2:Int32))), .val (.int w0_5), .val (.int w0_6), .val (.int w0_7), .val (.int w0_8), .val (.ref b1249), .val (.int (own_v1331 w0_1 w0_2 w0_3 w0_4)), .val (.int (own_at [w0_1, w0_2, w0_3] (w0_4 / (2:Int32)))), .val (.int (own_at [w0_1, w0_2, w0_3] w0_7)), .val (.int (own_at [w0_1, w0_2, w0_3] w0_8)), .val (.int (0:Int32)), .val (.int (9:Int32)), .val (.int (9:Int32)), .val (.int (1:Int32)), .val (.int (1:Int32)), .val (.int ((f5 (9:Int32) (0:Int32)) + (f5 (9:Int32) (0:Int32)))), .val (.int (((f5 (0:Int32) (9:Int32)) + (f5 (9:Int32) (9:Int32))) + (f6 (0:Int32) (9:Int32)))), .val (.int ((((f5 (0:Int32) (9:Int32)) + (f5 (9:Int32) (9:Int32))) + (f6 (0:Int32) (9:Int32))) + (f6 (9:Int32) (9:Int32)))), .val (.int w0_9), .val (.int w0_10), .val (.int (((f5 (0:Int32) w0_9) + (f5 (9:Int32) w0_9)) + (f5 (9:Int32) w0_9))), .val (.int (((f5 (0:Int32) (w0_9 + (1:Int32))) + (f5 (9:Int32) (w0_9 + (1:Int32)))) + (f5 (9:Int32) (w0_9 + (1:Int32)))))]) rfl ?_
   exact XS.iload X1372.here hx rfl (D at_648) rfl k
  exact own_end X1372 (BodyLoose.notSynchronized Bd) (fun h => by rw [Bd.returns] at h; cases h) (v := some (.int (1:Int32))) (fun fs hr => retN X1372 hx (t := .boolean) Bd.returns (by simp) (D at_650) hr) (by show Q0n1 Z p0 p1 p2 p3 p4 p5 h0 n0 _ T1372.heap _; rw [eh1372]; exact ⟨rfl, N1372⟩) (by decide) (by decide)
theorem own_fin1462 : ∀ w0_1 ∈ own_L3, ∀ w0_2 ∈ own_L3, ∀ w0_3 ∈ own_L3, ∀ w0_4 ∈ own_L6, ((own_In (w0_4 / (2:Int32)) [w0_1, w0_2, w0_3].length)) := by decide +kernel
theorem own_fin1464 : ∀ w0_1 ∈ own_L3, ∀ w0_2 ∈ own_L3, ∀ w0_3 ∈ own_L3, ∀ w0_4 ∈ own_L6, ((own_In (own_at [w0_1, w0_2, w0_3] (w0_4 / (2:Int32))) [(0:Int32), (0:Int32), (0:Int32)].length)) := by decide +kernel
theorem own_fin1466 : ∀ w0_1 ∈ own_L3, ∀ w0_2 ∈ own_L3, ∀ w0_3 ∈ own_L3, ∀ w0_4 ∈ own_L6, ((own_In (own_v1199 w0_4) [w0_1, w0_2, w0_3].length)) := by decide +kernel
theorem own_fin1468 : ∀ w0_1 ∈ own_L3, ∀ w0_2 ∈ own_L3, ∀ w0_3 ∈ own_L3, ∀ w0_4 ∈ own_L6, ((own_In (own_at [w0_1, w0_2, w0_3] (own_v1199 w0_4)) (own_v100 w0_1 w0_2 w0_3 (w0_4 / (2:Int32))).length)) := by decide +kernel
theorem own_fin1470 : ∀ w0_1 ∈ own_L3, ∀ w0_2 ∈ own_L3, ∀ w0_3 ∈ own_L3, ∀ w0_4 ∈ own_L6, ((((own_at (own_v100 w0_1 w0_2 w0_3 (w0_4 / (2:Int32))) (own_at [w0_1, w0_2, w0_3] (own_v1199 w0_4))) = (0:Int32)) → own_In (own_at [w0_1, w0_2, w0_3] (own_v1199 w0_4)) (own_v100 w0_1 w0_2 w0_3 (w0_4 / (2:Int32))).length)) := by decide +kernel
theorem own_fin1472 : ∀ w0_1 ∈ own_L3, ∀ w0_2 ∈ own_L3, ∀ w0_3 ∈ own_L3, ∀ w0_4 ∈ own_L6, ((((own_at (own_v100 w0_1 w0_2 w0_3 (w0_4 / (2:Int32))) (own_at [w0_1, w0_2, w0_3] (own_v1199 w0_4))) = (0:Int32)) → own_In (own_at [w0_1, w0_2, w0_3] (w0_4 / (2:Int32))) (own_v223 w0_1 w0_2 w0_3 (w0_4 / (2:Int32)) (own_v1199 w0_4)).length)) := by decide +kernel
theorem own_fin1474 : ∀ w0_1 ∈ own_L3, ∀ w0_2 ∈ own_L3, ∀ w0_3 ∈ own_L3, ∀ w0_4 ∈ own_L6, ((((own_at (own_v100 w0_1 w0_2 w0_3 (w0_4 / (2:Int32))) (own_at [w0_1, w0_2, w0_3] (own_v1199 w0_4))) = (0:Int32)) → own_In (own_at [w0_1, w0_2, w0_3] (own_v1199 w0_4)) (own_v240 w0_1 w0_2 w0_3 (w0_4 / (2:Int32)) (own_v1199 w0_4)).length)) := by decide +kernel
theorem own_fin1476 : ∀ w0_1 ∈ own_L3, ∀ w0_2 ∈ own_L3, ∀ w0_3 ∈ own_L3, ∀ w0_4 ∈ own_L6, ((((own_at (own_v100 w0_1 w0_2 w0_3 (w0_4 / (2:Int32))) (own_at [w0_1, w0_2, w0_3] (own_v1199 w0_4))) = (0:Int32)) → own_In (own_v1199 w0_4) [w0_1, w0_2, w0_3].length)) := by decide +kernel
theorem own_fin1478 : ∀ w0_1 ∈ own_L3, ∀ w0_2 ∈ own_L3, ∀ w0_3 ∈ own_L3, ∀ w0_4 ∈ own_L6, ((((own_at (own_v100 w0_1 w0_2 w0_3 (w0_4 / (2:Int32))) (own_at [w0_1, w0_2, w0_3] (own_v1199 w0_4))) = (0:Int32)) → own_In (own_at [w0_1, w0_2, w0_3] (own_v1199 w0_4)) (own_v255 w0_1 w0_2 w0_3 (w0_4 / (2:Int32)) (own_v1199 w0_4)).length)) := by decide +kernel
theorem own_fin1480 : ∀ w0_1 ∈ own_L3, ∀ w0_2 ∈ own_L3, ∀ w0_3 ∈ own_L3, ∀ w0_4 ∈ own_L6, ((((own_at (own_v100 w0_1 w0_2 w0_3 (w0_4 / (2:Int32))) (own_at [w0_1, w0_2, w0_3] (own_v1199 w0_4))) = (0:Int32)) → own_In (own_at [w0_1, w0_2, w0_3] (own_v1199 w0_4)) (own_v276 w0_1 w0_2 w0_3 (w0_4 / (2:Int32)) (own_v1199 w0_4)).length)) := by decide +kernel
theorem own_fin1482 : ∀ w0_1 ∈ own_L3, ∀ w0_2 ∈ own_L3, ∀ w0_3 ∈ own_L3, ∀ w0_4 ∈ own_L6, ((((own_at (own_v100 w0_1 w0_2 w0_3 (w0_4 / (2:Int32))) (own_at [w0_1, w0_2, w0_3] (own_v1199 w0_4))) = (0:Int32)) → own_In (own_at (own_v276 w0_1 w0_2 w0_3 (w0_4 / (2:Int32)) (own_v1199 w0_4)) (own_at [w0_1, w0_2, w0_3] (own_v1199 w0_4))) [(0:Int32), (0:Int32), (0:Int32)].length)) := by decide +kernel
theorem own_fin1484 : ∀ w0_1 ∈ own_L3, ∀ w0_2 ∈ own_L3, ∀ w0_3 ∈ own_L3, ∀ w0_4 ∈ own_L6, ((((own_at (own_v100 w0_1 w0_2 w0_3 (w0_4 / (2:Int32))) (own_at [w0_1, w0_2, w0_3] (own_v1199 w0_4))) = (0:Int32)) → own_In (w0_4 / (2:Int32)) [w0_1, w0_2, w0_3].length)) := by decide +kernel
theorem own_fin1486 : ∀ w0_1 ∈ own_L3, ∀ w0_2 ∈ own_L3, ∀ w0_3 ∈ own_L3, ∀ w0_4 ∈ own_L6, ((((own_at (own_v100 w0_1 w0_2 w0_3 (w0_4 / (2:Int32))) (own_at [w0_1, w0_2, w0_3] (own_v1199 w0_4))) = (0:Int32)) → own_In (own_at [w0_1, w0_2, w0_3] (w0_4 / (2:Int32))) (own_v276 w0_1 w0_2 w0_3 (w0_4 / (2:Int32)) (own_v1199 w0_4)).length)) := by decide +kernel
theorem own_fin1488 : ∀ w0_1 ∈ own_L3, ∀ w0_2 ∈ own_L3, ∀ w0_3 ∈ own_L3, ∀ w0_4 ∈ own_L6, ((((own_at (own_v100 w0_1 w0_2 w0_3 (w0_4 / (2:Int32))) (own_at [w0_1, w0_2, w0_3] (own_v1199 w0_4))) = (0:Int32)) → own_In (own_at [w0_1, w0_2, w0_3] (w0_4 / (2:Int32))) (own_v306 w0_1 w0_2 w0_3 (w0_4 / (2:Int32)) (own_v1199 w0_4)).length)) := by decide +kernel
theorem own_fin1490 : ∀ w0_1 ∈ own_L3, ∀ w0_2 ∈ own_L3, ∀ w0_3 ∈ own_L3, ∀ w0_4 ∈ own_L6, ((((own_at (own_v100 w0_1 w0_2 w0_3 (w0_4 / (2:Int32))) (own_at [w0_1, w0_2, w0_3] (own_v1199 w0_4))) = (0:Int32)) → own_In (own_at (own_v306 w0_1 w0_2 w0_3 (w0_4 / (2:Int32)) (own_v1199 w0_4)) (own_at [w0_1, w0_2, w0_3] (w0_4 / (2:Int32)))) (own_v288 w0_1 w0_2 w0_3 (w0_4 / (2:Int32)) (own_v1199 w0_4)).length)) := by decide +kernel
theorem own_fin1492 : ∀ w0_1 ∈ own_L3, ∀ w0_2 ∈ own_L3, ∀ w0_3 ∈ own_L3, ∀ w0_4 ∈ own_L6, (((¬ ((own_at (own_v100 w0_1 w0_2 w0_3 (w0_4 / (2:Int32))) (own_at [w0_1, w0_2, w0_3] (own_v1199 w0_4))) = (0:Int32))) → own_In (own_at [w0_1, w0_2, w0_3] (own_v1199 w0_4)) (own_v100 w0_1 w0_2 w0_3 (w0_4 / (2:Int32))).length)) := by decide +kernel
theorem own_fin1494 : ∀ w0_1 ∈ own_L3, ∀ w0_2 ∈ own_L3, ∀ w0_3 ∈ own_L3, ∀ w0_4 ∈ own_L6, (((¬ ((own_at (own_v100 w0_1 w0_2 w0_3 (w0_4 / (2:Int32))) (own_at [w0_1, w0_2, w0_3] (own_v1199 w0_4))) = (0:Int32))) → own_In (own_at [w0_1, w0_2, w0_3] (w0_4 / (2:Int32))) (own_v223 w0_1 w0_2 w0_3 (w0_4 / (2:Int32)) (own_v1199 w0_4)).length)) := by decide +kernel
theorem own_fin1496 : ∀ w0_1 ∈ own_L3, ∀ w0_2 ∈ own_L3, ∀ w0_3 ∈ own_L3, ∀ w0_4 ∈ own_L6, (((¬ ((own_at (own_v100 w0_1 w0_2 w0_3 (w0_4 / (2:Int32))) (own_at [w0_1, w0_2, w0_3] (own_v1199 w0_4))) = (0:Int32))) → own_In (own_v1199 w0_4) [w0_1, w0_2, w0_3].length)) := by decide +kernel
theorem own_fin1498 : ∀ w0_1 ∈ own_L3, ∀ w0_2 ∈ own_L3, ∀ w0_3 ∈ own_L3, ∀ w0_4 ∈ own_L6, (((¬ ((own_at (own_v100 w0_1 w0_2 w0_3 (w0_4 / (2:Int32))) (own_at [w0_1, w0_2, w0_3] (own_v1199 w0_4))) = (0:Int32))) → own_In (own_at [w0_1, w0_2, w0_3] (own_v1199 w0_4)) (own_v240 w0_1 w0_2 w0_3 (w0_4 / (2:Int32)) (own_v1199 w0_4)).length)) := by decide +kernel
theorem own_fin1500 : ∀ w0_1 ∈ own_L3, ∀ w0_2 ∈ own_L3, ∀ w0_3 ∈ own_L3, ∀ w0_4 ∈ own_L6, (((¬ ((own_at (own_v100 w0_1 w0_2 w0_3 (w0_4 / (2:Int32))) (own_at [w0_1, w0_2, w0_3] (own_v1199 w0_4))) = (0:Int32))) → own_In (own_at [w0_1, w0_2, w0_3] (own_v1199 w0_4)) (own_v372 w0_1 w0_2 w0_3 (w0_4 / (2:Int32)) (own_v1199 w0_4)).length)) := by decide +kernel
theorem own_fin1502 : ∀ w0_1 ∈ own_L3, ∀ w0_2 ∈ own_L3, ∀ w0_3 ∈ own_L3, ∀ w0_4 ∈ own_L6, (((¬ ((own_at (own_v100 w0_1 w0_2 w0_3 (w0_4 / (2:Int32))) (own_at [w0_1, w0_2, w0_3] (own_v1199 w0_4))) = (0:Int32))) → own_In (own_at (own_v372 w0_1 w0_2 w0_3 (w0_4 / (2:Int32)) (own_v1199 w0_4)) (own_at [w0_1, w0_2, w0_3] (own_v1199 w0_4))) [(0:Int32), (0:Int32), (0:Int32)].length)) := by decide +kernel
theorem own_fin1504 : ∀ w0_1 ∈ own_L3, ∀ w0_2 ∈ own_L3, ∀ w0_3 ∈ own_L3, ∀ w0_4 ∈ own_L6, (((¬ ((own_at (own_v100 w0_1 w0_2 w0_3 (w0_4 / (2:Int32))) (own_at [w0_1, w0_2, w0_3] (own_v1199 w0_4))) = (0:Int32))) → own_In (w0_4 / (2:Int32)) [w0_1, w0_2, w0_3].length)) := by decide +kernel
theorem own_fin1506 : ∀ w0_1 ∈ own_L3, ∀ w0_2 ∈ own_L3, ∀ w0_3 ∈ own_L3, ∀ w0_4 ∈ own_L6, (((¬ ((own_at (own_v100 w0_1 w0_2 w0_3 (w0_4 / (2:Int32))) (own_at [w0_1, w0_2, w0_3] (own_v1199 w0_4))) = (0:Int32))) → own_In (own_at [w0_1, w0_2, w0_3] (w0_4 / (2:Int32))) (own_v372 w0_1 w0_2 w0_3 (w0_4 / (2:Int32)) (own_v1199 w0_4)).length)) := by decide +kernel
theorem own_fin1508 : ∀ w0_1 ∈ own_L3, ∀ w0_2 ∈ own_L3, ∀ w0_3 ∈ own_L3, ∀ w0_4 ∈ own_L6, (((¬ ((own_at (own_v100 w0_1 w0_2 w0_3 (w0_4 / (2:Int32))) (own_at [w0_1, w0_2, w0_3] (own_v1199 w0_4))) = (0:Int32))) → own_In (own_at [w0_1, w0_2, w0_3] (w0_4 / (2:Int32))) (own_v402 w0_1 w0_2 w0_3 (w0_4 / (2:Int32)) (own_v1199 w0_4)).length)) := by decide +kernel
theorem own_fin1510 : ∀ w0_1 ∈ own_L3, ∀ w0_2 ∈ own_L3, ∀ w0_3 ∈ own_L3, ∀ w0_4 ∈ own_L6, (((¬ ((own_at (own_v100 w0_1 w0_2 w0_3 (w0_4 / (2:Int32))) (own_at [w0_1, w0_2, w0_3] (own_v1199 w0_4))) = (0:Int32))) → own_In (own_at (own_v402 w0_1 w0_2 w0_3 (w0_4 / (2:Int32)) (own_v1199 w0_4)) (own_at [w0_1, w0_2, w0_3] (w0_4 / (2:Int32)))) (own_v384 w0_1 w0_2 w0_3 (w0_4 / (2:Int32)) (own_v1199 w0_4)).length)) := by decide +kernel
def own_v1523 (w0_1 : Int32) (w0_2 : Int32) (w0_3 : Int32) (w0_4 : Int32) (w0_7 : Int32) : Int32 := (g4m2_gc w0_1 w0_2 w0_3 (w0_4 / (2:Int32)) w0_7 (0:Int32))
def own_v1525 (w0_1 : Int32) (w0_2 : Int32) (w0_3 : Int32) (w0_4 : Int32) (w0_7 : Int32) : List Int32 := (g4m2_gr w0_1 w0_2 w0_3 (w0_4 / (2:Int32)) w0_7 (0:Int32))
def own_v1527 (w0_1 : Int32) (w0_2 : Int32) (w0_3 : Int32) (w0_4 : Int32) (w0_7 : Int32) : List Int32 := (g4m2_gl w0_1 w0_2 w0_3 (w0_4 / (2:Int32)) w0_7 (0:Int32))
def own_v1529 (w0_1 : Int32) (w0_2 : Int32) (w0_3 : Int32) (w0_4 : Int32) (w0_7 : Int32) : List Int32 := (g4m2_gs w0_1 w0_2 w0_3 (w0_4 / (2:Int32)) w0_7 (0:Int32))
def own_v1531 (w0_1 : Int32) (w0_2 : Int32) (w0_3 : Int32) (w0_4 : Int32) (w0_7 : Int32) : Int32 := (f4m2 w0_1 w0_2 w0_3 (w0_4 / (2:Int32)) w0_7 (0:Int32))
theorem own_fin1533 : ∀ w0_1 ∈ own_L3, ∀ w0_2 ∈ own_L3, ∀ w0_3 ∈ own_L3, ∀ w0_4 ∈ own_L6, (own_In (w0_4 / (2:Int32)) [w0_1, w0_2, w0_3].length) := by decide +kernel
theorem own_fin1535 : ∀ w0_1 ∈ own_L3, ∀ w0_2 ∈ own_L3, ∀ w0_3 ∈ own_L3, ∀ w0_4 ∈ own_L6, (own_In (own_v1199 w0_4) [w0_1, w0_2, w0_3].length) := by decide +kernel
theorem own_fin1537 : ∀ w0_1 ∈ own_L3, ∀ w0_2 ∈ own_L3, ∀ w0_3 ∈ own_L3, ∀ w0_4 ∈ own_L6, (own_In (own_v1200 w0_4) [w0_1, w0_2, w0_3].length) := by decide +kernel
def own_v1539 (w0_1 : Int32) (w0_2 : Int32) (w0_3 : Int32) (w0_4 : Int32) : Int32 := (if (own_at [w0_1, w0_2, w0_3] (own_v1199 w0_4)) = (own_at [w0_1, w0_2, w0_3] (w0_4 / (2:Int32))) then (0:Int32) else (1:Int32))
theorem own_fin1540 : ∀ w0_1 ∈ own_L3, ∀ w0_2 ∈ own_L3, ∀ w0_3 ∈ own_L3, ∀ w0_4 ∈ own_L6, ((own_v1531 w0_1 w0_2 w0_3 w0_4 (own_v1199 w0_4)) = ((own_v1539 w0_1 w0_2 w0_3 w0_4) + (1:Int32))) := by decide +kernel
theorem own_fin1551 : ∀ w0_1 ∈ own_L3, ∀ w0_2 ∈ own_L3, ∀ w0_3 ∈ own_L3, ∀ w0_4 ∈ own_L6, ((own_In ((f5 (own_v1539 w0_1 w0_2 w0_3 w0_4) (0:Int32)) + (f5 (9:Int32) (0:Int32))) (own_v1525 w0_1 w0_2 w0_3 w0_4 (own_v1199 w0_4)).length)) := by decide +kernel
def own_v1554 (w0_9 : Int32) (w0_1 : Int32) (w0_2 : Int32) (w0_3 : Int32) (w0_4 : Int32) (w0_7 : Int32) : Int32 := (f7 ((f5 w0_9 (0:Int32)) + (f5 (9:Int32) (0:Int32))) (own_v1525 w0_1 w0_2 w0_3 w0_4 w0_7))
theorem own_fin1555 : ∀ w0_1 ∈ own_L3, ∀ w0_2 ∈ own_L3, ∀ w0_3 ∈ own_L3, ∀ w0_4 ∈ own_L6, ((own_v1554 (own_v1539 w0_1 w0_2 w0_3 w0_4) w0_1 w0_2 w0_3 w0_4 (own_v1199 w0_4)) = (w0_4 / (2:Int32))) := by decide +kernel
theorem own_fin1557 : ∀ w0_1 ∈ own_L3, ∀ w0_2 ∈ own_L3, ∀ w0_3 ∈ own_L3, ∀ w0_4 ∈ own_L6, ((own_In (((f5 (0:Int32) (own_v1539 w0_1 w0_2 w0_3 w0_4)) + (f5 (9:Int32) (own_v1539 w0_1 w0_2 w0_3 w0_4))) + (f6 (0:Int32) (own_v1539 w0_1 w0_2 w0_3 w0_4))) (own_v1525 w0_1 w0_2 w0_3 w0_4 (own_v1199 w0_4)).length)) := by decide +kernel
def own_v1559 (w0_9 : Int32) (w0_1 : Int32) (w0_2 : Int32) (w0_3 : Int32) (w0_4 : Int32) (w0_7 : Int32) : Int32 := (f7 (((f5 (0:Int32) w0_9) + (f5 (9:Int32) w0_9)) + (f6 (0:Int32) w0_9)) (own_v1525 w0_1 w0_2 w0_3 w0_4 w0_7))
theorem own_fin1560 : ∀ w0_1 ∈ own_L3, ∀ w0_2 ∈ own_L3, ∀ w0_3 ∈ own_L3, ∀ w0_4 ∈ own_L6, ((own_v1559 (own_v1539 w0_1 w0_2 w0_3 w0_4) w0_1 w0_2 w0_3 w0_4 (own_v1199 w0_4)) = (own_v1199 w0_4)) := by decide +kernel
theorem own_fin1561 : ∀ w0_1 ∈ own_L3, ∀ w0_2 ∈ own_L3, ∀ w0_3 ∈ own_L3, ∀ w0_4 ∈ own_L6, ((0:Int32) < ((own_v1539 w0_1 w0_2 w0_3 w0_4) + (1:Int32))) := by decide +kernel
theorem own_fin1562 : ∀ w0_1 ∈ own_L3, ∀ w0_2 ∈ own_L3, ∀ w0_3 ∈ own_L3, ∀ w0_4 ∈ own_L6, (¬ (((own_v1539 w0_1 w0_2 w0_3 w0_4) + (1:Int32)) = (0:Int32))) := by decide +kernel
theorem own_fin1563 : ∀ w0_1 ∈ own_L3, ∀ w0_2 ∈ own_L3, ∀ w0_3 ∈ own_L3, ∀ w0_4 ∈ own_L6, ((((own_v1539 w0_1 w0_2 w0_3 w0_4) + (1:Int32))) ∈ ([(1:Int32), (2:Int32), (3:Int32)] : List Int32)) := by decide +kernel
def own_v1565 (w0_10 : Int32) (w0_1 : Int32) (w0_2 : Int32) (w0_3 : Int32) (w0_4 : Int32) : Int32 := (if w0_10 = (0:Int32) then (own_at [w0_1, w0_2, w0_3] (w0_4 / (2:Int32))) else (if w0_10 = (1:Int32) then (if (own_v1539 w0_1 w0_2 w0_3 w0_4) = (1:Int32) then (own_at [w0_1, w0_2, w0_3] (own_v1199 w0_4)) else (own_at [w0_1, w0_2, w0_3] (own_v1200 w0_4))) else (own_at [w0_1, w0_2, w0_3] (own_v1200 w0_4))))
theorem own_fin1572 : ∀ w0_1 ∈ own_L3, ∀ w0_2 ∈ own_L3, ∀ w0_3 ∈ own_L3, ∀ w0_4 ∈ own_L6, ∀ w0_10 ∈ own_L3, (w0_10 < ((own_v1539 w0_1 w0_2 w0_3 w0_4) + (1:Int32))) → ((own_In w0_10 (own_v1527 w0_1 w0_2 w0_3 w0_4 (own_v1199 w0_4)).length)) := by decide +kernel
def own_v1574 (w0_10 : Int32) (w0_1 : Int32) (w0_2 : Int32) (w0_3 : Int32) (w0_4 : Int32) (w0_7 : Int32) : Int32 := (f8 w0_10 (own_v1527 w0_1 w0_2 w0_3 w0_4 w0_7))
theorem own_fin1575 : ∀ w0_1 ∈ own_L3, ∀ w0_2 ∈ own_L3, ∀ w0_3 ∈ own_L3, ∀ w0_4 ∈ own_L6, ∀ w0_10 ∈ own_L3, (w0_10 < ((own_v1539 w0_1 w0_2 w0_3 w0_4) + (1:Int32))) → ((own_v1574 w0_10 w0_1 w0_2 w0_3 w0_4 (own_v1199 w0_4)) = (own_v1565 w0_10 w0_1 w0_2 w0_3 w0_4)) := by decide +kernel
theorem own_fin1577 : ∀ w0_1 ∈ own_L3, ∀ w0_2 ∈ own_L3, ∀ w0_3 ∈ own_L3, ∀ w0_4 ∈ own_L6, ∀ w0_10 ∈ own_L3, (w0_10 < ((own_v1539 w0_1 w0_2 w0_3 w0_4) + (1:Int32))) → (((own_In w0_10 (own_v1527 w0_1 w0_2 w0_3 w0_4 (own_v1199 w0_4)).length) ∧ (own_In (own_at (own_v1527 w0_1 w0_2 w0_3 w0_4 (own_v1199 w0_4)) w0_10) (own_v1529 w0_1 w0_2 w0_3 w0_4 (own_v1199 w0_4)).length))) := by decide +kernel
def own_v1579 (w0_10 : Int32) (w0_1 : Int32) (w0_2 : Int32) (w0_3 : Int32) (w0_4 : Int32) (w0_7 : Int32) : Int32 := (f9 w0_10 (own_v1527 w0_1 w0_2 w0_3 w0_4 w0_7) (own_v1529 w0_1 w0_2 w0_3 w0_4 w0_7))
theorem own_fin1580 : ∀ w0_1 ∈ own_L3, ∀ w0_2 ∈ own_L3, ∀ w0_3 ∈ own_L3, ∀ w0_4 ∈ own_L6, ∀ w0_10 ∈ own_L3, (w0_10 < ((own_v1539 w0_1 w0_2 w0_3 w0_4) + (1:Int32))) → ((own_v1579 w0_10 w0_1 w0_2 w0_3 w0_4 (own_v1199 w0_4)) = (((f5 (0:Int32) w0_10) + (f5 (own_v1539 w0_1 w0_2 w0_3 w0_4) w0_10)) + (f5 (9:Int32) w0_10))) := by decide +kernel
theorem own_fin1582 : ∀ w0_1 ∈ own_L3, ∀ w0_2 ∈ own_L3, ∀ w0_3 ∈ own_L3, ∀ w0_4 ∈ own_L6, ∀ w0_10 ∈ own_L3, (w0_10 < ((own_v1539 w0_1 w0_2 w0_3 w0_4) + (1:Int32))) → ((((w0_10 + (1:Int32)) < (own_v1523 w0_1 w0_2 w0_3 w0_4 (own_v1199 w0_4)) → own_In (w0_10 + (1:Int32)) (own_v1527 w0_1 w0_2 w0_3 w0_4 (own_v1199 w0_4)).length) ∧ ((w0_10 + (1:Int32)) < (own_v1523 w0_1 w0_2 w0_3 w0_4 (own_v1199 w0_4)) → own_In (own_at (own_v1527 w0_1 w0_2 w0_3 w0_4 (own_v1199 w0_4)) (w0_10 + (1:Int32))) (own_v1529 w0_1 w0_2 w0_3 w0_4 (own_v1199 w0_4)).length))) := by decide +kernel
def own_v1584 (w0_10 : Int32) (w0_1 : Int32) (w0_2 : Int32) (w0_3 : Int32) (w0_4 : Int32) (w0_7 : Int32) : Int32 := (f10 w0_10 (own_v1527 w0_1 w0_2 w0_3 w0_4 w0_7) (own_v1529 w0_1 w0_2 w0_3 w0_4 w0_7) (own_v1523 w0_1 w0_2 w0_3 w0_4 w0_7) (2:Int32))
theorem own_fin1585 : ∀ w0_1 ∈ own_L3, ∀ w0_2 ∈ own_L3, ∀ w0_3 ∈ own_L3, ∀ w0_4 ∈ own_L6, ∀ w0_10 ∈ own_L3, (w0_10 < ((own_v1539 w0_1 w0_2 w0_3 w0_4) + (1:Int32))) → ((own_v1584 w0_10 w0_1 w0_2 w0_3 w0_4 (own_v1199 w0_4)) = (((f5 (0:Int32) (w0_10 + (1:Int32))) + (f5 (own_v1539 w0_1 w0_2 w0_3 w0_4) (w0_10 + (1:Int32)))) + (f5 (9:Int32) (w0_10 + (1:Int32))))) := by decide +kernel
theorem ef0n2 (m : MethodId) (p0 : Int32) (p1 : Int32) (p2 : Int32) (p3 : Int32) (p4 : Int32) (p5 : Int32) : entryFrame m #[(.int p0), (.int p1), (.int p2), (.int p3), (.int p4), (.int p5)] maxLocals = mkF m 0 #[iv p0, iv p1, iv p2, iv p3, iv p4, iv p5, .unset, .unset, .unset, .unset, .unset, .unset, .unset, .unset, .unset, .unset, .unset, .unset, .unset, .unset, .unset, .unset, .unset, .unset, .unset, .unset, .unset, .unset, .unset, .unset, .unset] [] := by first | (simp [entryFrame, mkF, argsToLocals, Value.category, maxLocals]; done) | rfl
def Q0n2 (Z : State) (p0 : Int32) (p1 : Int32) (p2 : Int32) (p3 : Int32) (p4 : Int32) (p5 : Int32)  (h0 : Heap) (n0 : Nat) (v : Option Value) (h : Heap) (L : List Loc) : Prop := v = some (.int (1:Int32)) ∧ Fr n0 L
set_option maxRecDepth 65536 in
set_option maxHeartbeats 40000000 in
theorem rm0n2 (l : Launch) (Z : State) (aZ : Array Value) (hw : ∀ d ∈ tables_1, d.before aZ Z = true) (ws : List Jvm.Cond) (p0 : Int32) (p1 : Int32) (p2 : Int32) (p3 : Int32) (p4 : Int32) (p5 : Int32)  (h0 : Heap) (n0 : Nat) (Z0 : n0 ≤ h0.size) (hn : (p3 &&& (3:Int32)) = (2:Int32)) :
    MetFree l x (head1 (Jvm.Cond.code x code maxLocals ret :: ws) room_1) (fun a U => a = #[(.int p0), (.int p1), (.int p2), (.int p3), (.int p4), (.int p5)] ∧ Z.Warmed39 U.vm ∧ U.heap = h0) (fun _ _ _ _ _ => True) (fun _ U o U' => ∃ v L, o = .returned v ∧ Q0n2 Z p0 p1 p2 p3 p4 p5 h0 n0 v U'.heap L ∧ FrameEnd U o U' L 6 24) := by
  refine MetFree.of_bodySF (plainFor_of_name own_pn1) hisR ?_
  intro p e s m args below meth c s₁ Bd hml0 hP hK
  obtain ⟨rfl, hZ, hh⟩ := hP
  have hx := Bd.exec
  have hby := Bd.bytes
  have hml : c.maxLocals = 31 := hml0
  have hown : s.vm.findClass "com/example/spare_calculus/sparecalculus/bisim/LabelGroupsGroupPinLaw" = some m.cls := findClass_of_methodNamed Bd.named
  have hnm := (name_of_methodNamed Bd.named Bd.method).1
  have X0 : Stand p l e room_1 s m #[(.int p0), (.int p1), (.int p2), (.int p3), (.int p4), (.int p5)] below meth c s₁ [] 0 0 := Stand.of_body Bd
  have e0 : s₁.heap = h0 := by rw [← hh, Bd.state]; rfl
  have N0 := Fr.nil n0
  have D : ∀ {pc : Nat} {r : Except ClassFile.DecodeError (ClassFile.Instr × Nat)}, decode code pc = r → decode c.code pc = r := fun h => hb hby h
  show own_Goes p e below s (Q0n2 Z p0 p1 p2 p3 p4 p5 h0 n0) 6 24 _
  refine own_pre (fun t k => castTop (ef0n2 m p0 p1 p2 p3 p4 p5) k) ?_
  refine own_pA s₁ m 1 #[iv p0, iv p1, iv p2, iv p3, iv p4, iv p5, .unset, .unset, .unset, .unset, .unset, .unset, .unset, .unset, .unset, .unset, .unset, .unset, .unset, .unset, .unset, .unset, .unset, .unset, .unset, .unset, .unset, .unset, .unset, .unset, .unset] [(.int (3:Int32))] (fun t k => ?_) ?_
  ·exact XS.iconst X0.here hx rfl (D at_0) k
  obtain ⟨T1377, h1377, k1377, X1377, e1377, E1377, A1377, st1377⟩ := newP X0 hx hZ (own_h hw 0 rfl) e0 (g := (mkF m 1 #[iv p0, iv p1, iv p2, iv p3, iv p4, iv p5, .unset, .unset, .unset, .unset, .unset, .unset, .unset, .unset, .unset, .unset, .unset, .unset, .unset, .unset, .unset, .unset, .unset, .unset, .unset, .unset, .unset, .unset, .unset, .unset, .unset] [(.int (3:Int32))])) rfl (D at_1) rfl (by decide) (cap := 3) (by decide) (by decide) (by decide) (by decide)
  obtain ⟨b1377, g1377⟩ : ∃ z, z = h0.size := ⟨_, rfl⟩
  rw [← g1377] at A1377 st1377
  have ge_b1377 : n0 ≤ b1377 := Nat.le_trans Z0 (Nat.le_of_eq g1377.symm)
  have Z1378 : n0 ≤ h1377.size := Nat.le_trans Z0 E1377.1
  have V1377 : own_Ints Z h1377 b1377 [(0:Int32), (0:Int32), (0:Int32)] := own_newI A1377 (by decide)
  refine own_pre st1377 ?_
  refine own_pA T1377 m 14 #[iv p0, iv p1, iv p2, iv p3, iv p4, iv p5, rv b1377, .unset, .unset, .unset, .unset, .unset, .unset, .unset, .unset, .unset, .unset, .unset, .unset, .unset, .unset, .unset, .unset, .unset, .unset, .unset, .unset, .unset, .unset, .unset, .unset] [(.int ((p0 &&& (2147483647:Int32)) % (3:Int32))), (.int (0:Int32)), (.ref b1377)] (fun t k => ?_) ?_
  ·refine XS.astore X1377.here hx rfl (D at_3) rfl rfl (l' := #[iv p0, iv p1, iv p2, iv p3, iv p4, iv p5, rv b1377, .unset, .unset, .unset, .unset, .unset, .unset, .unset, .unset, .unset, .unset, .unset, .unset, .unset, .unset, .unset, .unset, .unset, .unset, .unset, .unset, .unset, .unset, .unset, .unset]) rfl ?_
   refine XS.aload X1377.here hx rfl (D at_5) rfl rfl ?_
   refine XS.iconst X1377.here hx rfl (D at_7) ?_
   refine XS.iloadN X1377.here hx rfl (D at_8) rfl ?_
   refine Jvm.Stand.ldcI X1377 hx hown (mvT hZ (own_h hw 1 rfl)) rfl (D at_9) ?_
   refine XS.iand X1377.here hx rfl (D at_11) rfl ?_
   refine XS.iconst X1377.here hx rfl (D at_12) ?_
   exact iremM X1377 hx rfl (D at_13) rfl (by decide) k
  have hbn1380 : own_In (0:Int32) [(0:Int32), (0:Int32), (0:Int32)].length := own_lit rfl
  refine own_iastG X1377 hx hZ e1377 V1377 hbn1380 rfl rfl (D at_14) (fun T1379 h1379 X1379 e1379 W1379 V1379 => ?_)
  have Z1381 : n0 ≤ h1379.size := Nat.le_trans Z1378 (Nat.le_of_eq W1379.size.symm)
  have N1379 := Fr.snoc X1379 N0 ge_b1377
  obtain ⟨w0_1, hw0_1⟩ : ∃ z : Int32, z = ((p0 &&& (2147483647:Int32)) % (3:Int32)) := ⟨_, rfl⟩
  have Vw1379 : own_Ints Z h1379 b1377 [w0_1, (0:Int32), (0:Int32)] := by rw [hw0_1]; exact V1379
  refine own_pA T1379 m 24 #[iv p0, iv p1, iv p2, iv p3, iv p4, iv p5, rv b1377, .unset, .unset, .unset, .unset, .unset, .unset, .unset, .unset, .unset, .unset, .unset, .unset, .unset, .unset, .unset, .unset, .unset, .unset, .unset, .unset, .unset, .unset, .unset, .unset] [(.int ((p1 &&& (2147483647:Int32)) % (3:Int32))), (.int (1:Int32)), (.ref b1377)] (fun t k => ?_) ?_
  ·refine XS.aload X1379.here hx rfl (D at_15) rfl rfl ?_
   refine XS.iconst X1379.here hx rfl (D at_17) ?_
   refine XS.iloadN X1379.here hx rfl (D at_18) rfl ?_
   refine Jvm.Stand.ldcI X1379 hx hown (mvT hZ (own_h hw 1 rfl)) rfl (D at_19) ?_
   refine XS.iand X1379.here hx rfl (D at_21) rfl ?_
   refine XS.iconst X1379.here hx rfl (D at_22) ?_
   exact iremM X1379 hx rfl (D at_23) rfl (by decide) k
  have hbn1383 : own_In (1:Int32) [w0_1, (0:Int32), (0:Int32)].length := own_lit rfl
  refine own_iastG X1379 hx hZ e1379 Vw1379 hbn1383 rfl rfl (D at_24) (fun T1382 h1382 X1382 e1382 W1382 V1382 => ?_)
  have Z1384 : n0 ≤ h1382.size := Nat.le_trans Z1381 (Nat.le_of_eq W1382.size.symm)
  have N1382 := Fr.snoc X1382 N1379 ge_b1377
  obtain ⟨w0_2, hw0_2⟩ : ∃ z : Int32, z = ((p1 &&& (2147483647:Int32)) % (3:Int32)) := ⟨_, rfl⟩
  have Vw1382 : own_Ints Z h1382 b1377 [w0_1, w0_2, (0:Int32)] := by rw [hw0_2]; exact V1382
  refine own_pA T1382 m 34 #[iv p0, iv p1, iv p2, iv p3, iv p4, iv p5, rv b1377, .unset, .unset, .unset, .unset, .unset, .unset, .unset, .unset, .unset, .unset, .unset, .unset, .unset, .unset, .unset, .unset, .unset, .unset, .unset, .unset, .unset, .unset, .unset, .unset] [(.int ((p2 &&& (2147483647:Int32)) % (3:Int32))), (.int (2:Int32)), (.ref b1377)] (fun t k => ?_) ?_
  ·refine XS.aload X1382.here hx rfl (D at_25) rfl rfl ?_
   refine XS.iconst X1382.here hx rfl (D at_27) ?_
   refine XS.iloadN X1382.here hx rfl (D at_28) rfl ?_
   refine Jvm.Stand.ldcI X1382 hx hown (mvT hZ (own_h hw 1 rfl)) rfl (D at_29) ?_
   refine XS.iand X1382.here hx rfl (D at_31) rfl ?_
   refine XS.iconst X1382.here hx rfl (D at_32) ?_
   exact iremM X1382 hx rfl (D at_33) rfl (by decide) k
  have hbn1386 : own_In (2:Int32) [w0_1, w0_2, (0:Int32)].length := own_lit rfl
  refine own_iastG X1382 hx hZ e1382 Vw1382 hbn1386 rfl rfl (D at_34) (fun T1385 h1385 X1385 e1385 W1385 V1385 => ?_)
  have Z1387 : n0 ≤ h1385.size := Nat.le_trans Z1384 (Nat.le_of_eq W1385.size.symm)
  have N1385 := Fr.snoc X1385 N1382 ge_b1377
  obtain ⟨w0_3, hw0_3⟩ : ∃ z : Int32, z = ((p2 &&& (2147483647:Int32)) % (3:Int32)) := ⟨_, rfl⟩
  have Vw1385 : own_Ints Z h1385 b1377 [w0_1, w0_2, w0_3] := by rw [hw0_3]; exact V1385
  obtain ⟨w0_4, hw0_4⟩ : ∃ z : Int32, z = ((p4 &&& (2147483647:Int32)) % (6:Int32)) := ⟨_, rfl⟩
  refine own_pA T1385 m 58 #[iv p0, iv p1, iv p2, iv p3, iv p4, iv p5, rv b1377, iv (2:Int32), iv w0_4, iv (w0_4 / (2:Int32)), .unset, .unset, .unset, .unset, .unset, .unset, .unset, .unset, .unset, .unset, .unset, .unset, .unset, .unset, .unset, .unset, .unset, .unset, .unset, .unset, .unset] [(.int (w0_4 / (2:Int32)))] (fun t k => ?_) ?_
  ·refine XS.iloadN X1385.here hx rfl (D at_35) rfl ?_
   refine XS.iconst X1385.here hx rfl (D at_36) ?_
   refine XS.iand X1385.here hx rfl (D at_37) rfl ?_
   refine XS.istore X1385.here hx rfl (D at_38) rfl (l' := #[iv p0, iv p1, iv p2, iv p3, iv p4, iv p5, rv b1377, iv (2:Int32), .unset, .unset, .unset, .unset, .unset, .unset, .unset, .unset, .unset, .unset, .unset, .unset, .unset, .unset, .unset, .unset, .unset, .unset, .unset, .unset, .unset, .unset, .unset]) (by show storeLocals _ _ (Value.int (p3 &&& (3:Int32))) = _; rw [hn]; rfl) ?_
   refine XS.iload X1385.here hx rfl (D at_40) rfl ?_
   refine Jvm.Stand.ldcI X1385 hx hown (mvT hZ (own_h hw 1 rfl)) rfl (D at_42) ?_
   refine XS.iand X1385.here hx rfl (D at_44) rfl ?_
   refine XS.bipush X1385.here hx rfl (D at_45) ?_
   refine iremM X1385 hx rfl (D at_47) rfl (by decide) ?_
   refine XS.istore X1385.here hx rfl (D at_48) rfl (l' := #[iv p0, iv p1, iv p2, iv p3, iv p4, iv p5, rv b1377, iv (2:Int32), iv w0_4, .unset, .unset, .unset, .unset, .unset, .unset, .unset, .unset, .unset, .unset, .unset, .unset, .unset, .unset, .unset, .unset, .unset, .unset, .unset, .unset, .unset, .unset]) (by rw [hw0_4]; rfl) ?_
   refine XS.iload X1385.here hx rfl (D at_50) rfl ?_
   refine XS.iconst X1385.here hx rfl (D at_52) ?_
   refine XS.idiv X1385.here hx rfl (D at_53) rfl (by decide) ?_
   refine XS.istore X1385.here hx rfl (D at_54) rfl (l' := #[iv p0, iv p1, iv p2, iv p3, iv p4, iv p5, rv b1377, iv (2:Int32), iv w0_4, iv (w0_4 / (2:Int32)), .unset, .unset, .unset, .unset, .unset, .unset, .unset, .unset, .unset, .unset, .unset, .unset, .unset, .unset, .unset, .unset, .unset, .unset, .unset, .unset, .unset]) rfl ?_
   exact XS.iload X1385.here hx rfl (D at_56) rfl k
  obtain ⟨w0_5, hw0_5⟩ : ∃ z : Int32, z = (if (w0_4 / (2:Int32)) = (0:Int32) then (1:Int32) else (0:Int32)) := ⟨_, rfl⟩
  refine own_pre (A := T1385.setTop (mkF m 66 #[iv p0, iv p1, iv p2, iv p3, iv p4, iv p5, rv b1377, iv (2:Int32), iv w0_4, iv (w0_4 / (2:Int32)), .unset, .unset, .unset, .unset, .unset, .unset, .unset, .unset, .unset, .unset, .unset, .unset, .unset, .unset, .unset, .unset, .unset, .unset, .unset, .unset, .unset] [(.int w0_5)])) (fun t k => ?_) ?_
  ·by_cases hm58_1 : (w0_4 / (2:Int32)) = (0:Int32)
   ·refine XS.ifNo X1385.here hx rfl (D at_58) rfl (XT.i0_ne_f hm58_1) ?_
    refine XS.iconst X1385.here hx rfl (D at_61) ?_
    refine XS.goto X1385.here hx rfl (pc0 := 62) (pc' := 66) rfl (D at_62) (by decide) (by decide) ?_
    rw [hw0_5.trans (if_pos hm58_1)] at k
    exact k
   ·refine XS.ifYes X1385.here hx rfl (pc0 := 58) (pc' := 65) rfl (D at_58) rfl (XT.i0_ne_t hm58_1) (by decide) (by decide) ?_
    refine XS.iconst X1385.here hx rfl (D at_65) ?_
    rw [hw0_5.trans (if_neg hm58_1)] at k
    exact k
  refine own_pA T1385 m 71 #[iv p0, iv p1, iv p2, iv p3, iv p4, iv p5, rv b1377, iv (2:Int32), iv w0_4, iv (w0_4 / (2:Int32)), iv w0_5, .unset, .unset, .unset, .unset, .unset, .unset, .unset, .unset, .unset, .unset, .unset, .unset, .unset, .unset, .unset, .unset, .unset, .unset, .unset, .unset] [(.int (2:Int32)), (.int (w0_4 / (2:Int32)))] (fun t k => ?_) ?_
  ·refine XS.istore X1385.here hx rfl (D at_66) rfl (l' := #[iv p0, iv p1, iv p2, iv p3, iv p4, iv p5, rv b1377, iv (2:Int32), iv w0_4, iv (w0_4 / (2:Int32)), iv w0_5, .unset, .unset, .unset, .unset, .unset, .unset, .unset, .unset, .unset, .unset, .unset, .unset, .unset, .unset, .unset, .unset, .unset, .unset, .unset, .unset]) rfl ?_
   refine XS.iload X1385.here hx rfl (D at_68) rfl ?_
   exact XS.iconst X1385.here hx rfl (D at_70) k
  obtain ⟨w0_6, hw0_6⟩ : ∃ z : Int32, z = (if (w0_4 / (2:Int32)) = (2:Int32) then (1:Int32) else (2:Int32)) := ⟨_, rfl⟩
  refine own_pre (A := T1385.setTop (mkF m 79 #[iv p0, iv p1, iv p2, iv p3, iv p4, iv p5, rv b1377, iv (2:Int32), iv w0_4, iv (w0_4 / (2:Int32)), iv w0_5, .unset, .unset, .unset, .unset, .unset, .unset, .unset, .unset, .unset, .unset, .unset, .unset, .unset, .unset, .unset, .unset, .unset, .unset, .unset, .unset] [(.int w0_6)])) (fun t k => ?_) ?_
  ·by_cases hm71_2 : (w0_4 / (2:Int32)) = (2:Int32)
   ·refine XS.icmpNo X1385.here hx rfl (D at_71) rfl (XT.ii_ne_f hm71_2) ?_
    refine XS.iconst X1385.here hx rfl (D at_74) ?_
    refine XS.goto X1385.here hx rfl (pc0 := 75) (pc' := 79) rfl (D at_75) (by decide) (by decide) ?_
    rw [hw0_6.trans (if_pos hm71_2)] at k
    exact k
   ·refine XS.icmpYes X1385.here hx rfl (pc0 := 71) (pc' := 78) rfl (D at_71) rfl (XT.ii_ne_t hm71_2) (by decide) (by decide) ?_
    refine XS.iconst X1385.here hx rfl (D at_78) ?_
    rw [hw0_6.trans (if_neg hm71_2)] at k
    exact k
  refine own_pA T1385 m 85 #[iv p0, iv p1, iv p2, iv p3, iv p4, iv p5, rv b1377, iv (2:Int32), iv w0_4, iv (w0_4 / (2:Int32)), iv w0_5, iv w0_6, .unset, .unset, .unset, .unset, .unset, .unset, .unset, .unset, .unset, .unset, .unset, .unset, .unset, .unset, .unset, .unset, .unset, .unset, .unset] [(.int (w0_4 &&& (1:Int32)))] (fun t k => ?_) ?_
  ·refine XS.istore X1385.here hx rfl (D at_79) rfl (l' := #[iv p0, iv p1, iv p2, iv p3, iv p4, iv p5, rv b1377, iv (2:Int32), iv w0_4, iv (w0_4 / (2:Int32)), iv w0_5, iv w0_6, .unset, .unset, .unset, .unset, .unset, .unset, .unset, .unset, .unset, .unset, .unset, .unset, .unset, .unset, .unset, .unset, .unset, .unset, .unset]) rfl ?_
   refine XS.iload X1385.here hx rfl (D at_81) rfl ?_
   refine XS.iconst X1385.here hx rfl (D at_83) ?_
   exact XS.iand X1385.here hx rfl (D at_84) rfl k
  obtain ⟨w0_7, hw0_7⟩ : ∃ z : Int32, z = (if (w0_4 &&& (1:Int32)) = (0:Int32) then w0_5 else w0_6) := ⟨_, rfl⟩
  refine own_pre (A := T1385.setTop (mkF m 95 #[iv p0, iv p1, iv p2, iv p3, iv p4, iv p5, rv b1377, iv (2:Int32), iv w0_4, iv (w0_4 / (2:Int32)), iv w0_5, iv w0_6, .unset, .unset, .unset, .unset, .unset, .unset, .unset, .unset, .unset, .unset, .unset, .unset, .unset, .unset, .unset, .unset, .unset, .unset, .unset] [(.int w0_7)])) (fun t k => ?_) ?_
  ·by_cases hm85_3 : (w0_4 &&& (1:Int32)) = (0:Int32)
   ·refine XS.ifNo X1385.here hx rfl (D at_85) rfl (XT.i0_ne_f hm85_3) ?_
    refine XS.iload X1385.here hx rfl (D at_88) rfl ?_
    refine XS.goto X1385.here hx rfl (pc0 := 90) (pc' := 95) rfl (D at_90) (by decide) (by decide) ?_
    rw [hw0_7.trans (if_pos hm85_3)] at k
    exact k
   ·refine XS.ifYes X1385.here hx rfl (pc0 := 85) (pc' := 93) rfl (D at_85) rfl (XT.i0_ne_t hm85_3) (by decide) (by decide) ?_
    refine XS.iload X1385.here hx rfl (D at_93) rfl ?_
    rw [hw0_7.trans (if_neg hm85_3)] at k
    exact k
  refine own_pA T1385 m 101 #[iv p0, iv p1, iv p2, iv p3, iv p4, iv p5, rv b1377, iv (2:Int32), iv w0_4, iv (w0_4 / (2:Int32)), iv w0_5, iv w0_6, iv w0_7, .unset, .unset, .unset, .unset, .unset, .unset, .unset, .unset, .unset, .unset, .unset, .unset, .unset, .unset, .unset, .unset, .unset, .unset] [(.int (w0_4 &&& (1:Int32)))] (fun t k => ?_) ?_
  ·refine XS.istore X1385.here hx rfl (D at_95) rfl (l' := #[iv p0, iv p1, iv p2, iv p3, iv p4, iv p5, rv b1377, iv (2:Int32), iv w0_4, iv (w0_4 / (2:Int32)), iv w0_5, iv w0_6, iv w0_7, .unset, .unset, .unset, .unset, .unset, .unset, .unset, .unset, .unset, .unset, .unset, .unset, .unset, .unset, .unset, .unset, .unset, .unset]) rfl ?_
   refine XS.iload X1385.here hx rfl (D at_97) rfl ?_
   refine XS.iconst X1385.here hx rfl (D at_99) ?_
   exact XS.iand X1385.here hx rfl (D at_100) rfl k
  obtain ⟨w0_8, hw0_8⟩ : ∃ z : Int32, z = (if (w0_4 &&& (1:Int32)) = (0:Int32) then w0_6 else w0_5) := ⟨_, rfl⟩
  refine own_pre (A := T1385.setTop (mkF m 111 #[iv p0, iv p1, iv p2, iv p3, iv p4, iv p5, rv b1377, iv (2:Int32), iv w0_4, iv (w0_4 / (2:Int32)), iv w0_5, iv w0_6, iv w0_7, .unset, .unset, .unset, .unset, .unset, .unset, .unset, .unset, .unset, .unset, .unset, .unset, .unset, .unset, .unset, .unset, .unset, .unset] [(.int w0_8)])) (fun t k => ?_) ?_
  ·by_cases hm101_4 : (w0_4 &&& (1:Int32)) = (0:Int32)
   ·refine XS.ifNo X1385.here hx rfl (D at_101) rfl (XT.i0_ne_f hm101_4) ?_
    refine XS.iload X1385.here hx rfl (D at_104) rfl ?_
    refine XS.goto X1385.here hx rfl (pc0 := 106) (pc' := 111) rfl (D at_106) (by decide) (by decide) ?_
    rw [hw0_8.trans (if_pos hm101_4)] at k
    exact k
   ·refine XS.ifYes X1385.here hx rfl (pc0 := 101) (pc' := 109) rfl (D at_101) rfl (XT.i0_ne_t hm101_4) (by decide) (by decide) ?_
    refine XS.iload X1385.here hx rfl (D at_109) rfl ?_
    rw [hw0_8.trans (if_neg hm101_4)] at k
    exact k
  refine own_pA T1385 m 113 #[iv p0, iv p1, iv p2, iv p3, iv p4, iv p5, rv b1377, iv (2:Int32), iv w0_4, iv (w0_4 / (2:Int32)), iv w0_5, iv w0_6, iv w0_7, iv w0_8, .unset, .unset, .unset, .unset, .unset, .unset, .unset, .unset, .unset, .unset, .unset, .unset, .unset, .unset, .unset, .unset, .unset] [] (fun t k => ?_) ?_
  ·exact XS.istore X1385.here hx rfl (D at_111) rfl (l' := #[iv p0, iv p1, iv p2, iv p3, iv p4, iv p5, rv b1377, iv (2:Int32), iv w0_4, iv (w0_4 / (2:Int32)), iv w0_5, iv w0_6, iv w0_7, iv w0_8, .unset, .unset, .unset, .unset, .unset, .unset, .unset, .unset, .unset, .unset, .unset, .unset, .unset, .unset, .unset, .unset, .unset]) rfl k
  obtain ⟨T1388, h1388, X1388, e1388, E1388, A1388, D1388, -, st1388⟩ := newO X1385 hx hZ hown (own_h hw 2 rfl) (own_h hw 3 rfl) (own_h hw 4 rfl) e1385 (g := (mkF m 113 #[iv p0, iv p1, iv p2, iv p3, iv p4, iv p5, rv b1377, iv (2:Int32), iv w0_4, iv (w0_4 / (2:Int32)), iv w0_5, iv w0_6, iv w0_7, iv w0_8, .unset, .unset, .unset, .unset, .unset, .unset, .unset, .unset, .unset, .unset, .unset, .unset, .unset, .unset, .unset, .unset, .unset] [])) rfl (D at_113) (by decide) (by decide)
  obtain ⟨b1388, g1388⟩ : ∃ z, z = h1385.size := ⟨_, rfl⟩
  rw [← g1388] at A1388 D1388 st1388
  have ge_b1388 : n0 ≤ b1388 := Nat.le_trans Z1387 (Nat.le_of_eq g1388.symm)
  have ne_b1377_b1388 : b1377 ≠ b1388 := Nat.ne_of_lt (Nat.lt_of_lt_of_le Vw1385.lt (Nat.le_of_eq g1388.symm))
  have Z1389 : n0 ≤ h1388.size := Nat.le_trans Z1387 E1388.1
  have F1388_labels : Fld Z h1388 b1388 "com/example/spare_calculus/sparecalculus/bisim/LabelGroups" "labels" "[I" .null := D1388 (Or.inr (own_h hw 12 rfl)) (ty := (.array .int)) (by decide)
  have F1388_moves : Fld Z h1388 b1388 "com/example/spare_calculus/sparecalculus/bisim/LabelGroups" "moves" "[I" .null := D1388 (Or.inr (own_h hw 14 rfl)) (ty := (.array .int)) (by decide)
  have F1388_grouped : Fld Z h1388 b1388 "com/example/spare_calculus/sparecalculus/bisim/LabelGroups" "grouped" "[I" .null := D1388 (Or.inr (own_h hw 16 rfl)) (ty := (.array .int)) (by decide)
  have F1388_groupLabels : Fld Z h1388 b1388 "com/example/spare_calculus/sparecalculus/bisim/LabelGroups" "groupLabels" "[I" .null := D1388 (Or.inr (own_h hw 18 rfl)) (ty := (.array .int)) (by decide)
  have F1388_groupStarts : Fld Z h1388 b1388 "com/example/spare_calculus/sparecalculus/bisim/LabelGroups" "groupStarts" "[I" .null := D1388 (Or.inr (own_h hw 20 rfl)) (ty := (.array .int)) (by decide)
  have F1388_moveCount : Fld Z h1388 b1388 "com/example/spare_calculus/sparecalculus/bisim/LabelGroups" "moveCount" "I" (.int (0:Int32)) := D1388 (Or.inl (own_h hw 27 rfl)) (ty := .int) (by decide)
  have F1388_groupCount : Fld Z h1388 b1388 "com/example/spare_calculus/sparecalculus/bisim/LabelGroups" "groupCount" "I" (.int (0:Int32)) := D1388 (Or.inl (own_h hw 34 rfl)) (ty := .int) (by decide)
  refine own_pre st1388 ?_
  refine own_pA T1388 m 120 #[iv p0, iv p1, iv p2, iv p3, iv p4, iv p5, rv b1377, iv (2:Int32), iv w0_4, iv (w0_4 / (2:Int32)), iv w0_5, iv w0_6, iv w0_7, iv w0_8, .unset, .unset, .unset, .unset, .unset, .unset, .unset, .unset, .unset, .unset, .unset, .unset, .unset, .unset, .unset, .unset, .unset] [(.int (3:Int32)), (.ref b1377), (.ref b1388), (.ref b1388)] (fun t k => ?_) ?_
  ·refine XS.dup X1388.here hx rfl (D at_116) rfl rfl ?_
   refine XS.aload X1388.here hx rfl (D at_117) rfl rfl ?_
   exact XS.iconst X1388.here hx rfl (D at_119) k
  have F1391 := (Vw1385.ext E1388)
  obtain ⟨_, _, ⟨T1390, L1390, k1390, n1390⟩, -, X1390, ⟨Lc1390, hQ1390, l1390, y1390, z1390⟩, st1390⟩ := X1388.specialBack hx (y := (⟨"com/example/spare_calculus/sparecalculus/bisim/LabelGroups", "<init>", "([II)V"⟩ : MethodName)) rfl hown (mvT hZ (own_h hw 5 rfl)) (mvT hZ (own_h hw 6 rfl)) (mvT hZ (own_h hw 7 rfl)) (by decide) (backOf (W := 1) (rm1 l Z aZ hw [] b1388 b1377 w0_1 w0_2 w0_3 h1388 n0 Z1389 A1388 F1388_labels F1388_moves F1388_grouped F1388_groupLabels F1388_groupStarts F1388_moveCount F1388_groupCount F1391 (Ne.symm ne_b1377_b1388) ge_b1388) hZ (own_h hw 7 rfl) (own_h hw 4 rfl) (by decide) (by decide)) (g := (mkF m 120 #[iv p0, iv p1, iv p2, iv p3, iv p4, iv p5, rv b1377, iv (2:Int32), iv w0_4, iv (w0_4 / (2:Int32)), iv w0_5, iv w0_6, iv w0_7, iv w0_8, .unset, .unset, .unset, .unset, .unset, .unset, .unset, .unset, .unset, .unset, .unset, .unset, .unset, .unset, .unset, .unset, .unset] [(.int (3:Int32)), (.ref b1377), (.ref b1388), (.ref b1388)])) rfl (by rw [hml]; rfl) (Steps.refl _) (a := b1388) (argsL := [(.ref b1377), (.int (3:Int32))]) (rest := [(.ref b1388)]) (lenOf own_pd0 rfl) rfl (by show 2 * 0 + _ ≤ _; exact Nat.le_of_eq rfl) (D at_120) (fun _ _ => ⟨rfl, e1388, (by decide : 2 + 4 ≤ _), (by decide : 10 + 12 ≤ _)⟩)
  dsimp only [Pt.U, Pt.locs, Pt.cells, Pt.slots] at X1390 l1390 y1390 z1390 st1390 hQ1390
  subst l1390 y1390 z1390
  obtain ⟨rfl, N1390q, K1390, mv_1392, gr_1393, gl_1394, gs_1395, sz1396, sz1397, sz1398, sz1399, ne1400, ne1401, ne1402, ne1403, ne1404, ne1405, G1406, G1407, G1408, G1409, G1410, G1411, G1412, G1413, G1414, G1415, G1416⟩ := hQ1390
  have N1390 := Fr.app N1385 N1390q
  have Z1417 : n0 ≤ T1390.heap.size := Nat.le_trans Z1389 K1390.1
  have ne1418 : b1377 ≠ mv_1392 := Nat.ne_of_lt (Nat.lt_of_lt_of_le F1391.lt sz1396)
  have ne1419 : b1388 ≠ mv_1392 := Nat.ne_of_lt (Nat.lt_of_lt_of_le A1388.lt sz1396)
  have ge1420 : n0 ≤ mv_1392 := Nat.le_trans Z1389 sz1396
  have ne1421 : b1377 ≠ gr_1393 := Nat.ne_of_lt (Nat.lt_of_lt_of_le F1391.lt sz1397)
  have ne1422 : b1388 ≠ gr_1393 := Nat.ne_of_lt (Nat.lt_of_lt_of_le A1388.lt sz1397)
  have ge1423 : n0 ≤ gr_1393 := Nat.le_trans Z1389 sz1397
  have ne1424 : b1377 ≠ gl_1394 := Nat.ne_of_lt (Nat.lt_of_lt_of_le F1391.lt sz1398)
  have ne1425 : b1388 ≠ gl_1394 := Nat.ne_of_lt (Nat.lt_of_lt_of_le A1388.lt sz1398)
  have ge1426 : n0 ≤ gl_1394 := Nat.le_trans Z1389 sz1398
  have ne1427 : b1377 ≠ gs_1395 := Nat.ne_of_lt (Nat.lt_of_lt_of_le F1391.lt sz1399)
  have ne1428 : b1388 ≠ gs_1395 := Nat.ne_of_lt (Nat.lt_of_lt_of_le A1388.lt sz1399)
  have ge1429 : n0 ≤ gs_1395 := Nat.le_trans Z1389 sz1399
  refine own_pre (fun _ k => st1390.trans k) ?_
  refine own_pA T1390 m 135 #[iv p0, iv p1, iv p2, iv p3, iv p4, iv p5, rv b1377, iv (2:Int32), iv w0_4, iv (w0_4 / (2:Int32)), iv w0_5, iv w0_6, iv w0_7, iv w0_8, rv b1388, .unset, .unset, .unset, .unset, .unset, .unset, .unset, .unset, .unset, .unset, .unset, .unset, .unset, .unset, .unset, .unset] [(.int (w0_4 / (2:Int32))), (.ref b1388)] (fun t k => ?_) ?_
  ·refine XS.astore X1390.here hx rfl (D at_123) rfl rfl (l' := #[iv p0, iv p1, iv p2, iv p3, iv p4, iv p5, rv b1377, iv (2:Int32), iv w0_4, iv (w0_4 / (2:Int32)), iv w0_5, iv w0_6, iv w0_7, iv w0_8, rv b1388, .unset, .unset, .unset, .unset, .unset, .unset, .unset, .unset, .unset, .unset, .unset, .unset, .unset, .unset, .unset, .unset]) rfl ?_
   refine XS.iload X1390.here hx rfl (D at_125) rfl ?_
   refine XS.iconst X1390.here hx rfl (D at_127) ?_
   refine XS.icmpNo X1390.here hx rfl (D at_128) rfl (XT.ii_lt_f (by decide)) ?_
   refine XS.aload X1390.here hx rfl (D at_131) rfl rfl ?_
   exact XS.iload X1390.here hx rfl (D at_133) rfl k
  have F1431 := (A1388.keep K1390)
  refine own_virtG X1390 hx hZ (y := own_y3) hown (own_h hw 21 rfl) (own_h hw 22 rfl) (own_h hw 24 rfl) (own_h hw 23 rfl) (own_h hw 25 rfl) (own_h hw 4 rfl) (by decide) (W := 0) (rm3 l Z aZ hw [] b1388 (w0_4 / (2:Int32)) b1377 mv_1392 gr_1393 gl_1394 gs_1395 [(0:Int32), (0:Int32), (0:Int32)] (0:Int32) T1390.heap n0 Z1417 F1431 G1410 G1406 G1407 G1408 G1409 G1411 G1412 G1413 ne1419 ge_b1388 ge1420 (own_lit rfl)) (by decide) (by decide) rfl F1431 rfl (by rw [hml]; rfl) (argsL := [(.int (w0_4 / (2:Int32)))]) (rest := []) (lenOf own_pd3 rfl) rfl (by show 2 * 0 + _ ≤ _; exact Nat.le_of_eq rfl) (D at_135) rfl (by decide) (by decide) (fun v T1430 L1430 X1430 hQ1430 => ?_)
  obtain ⟨rfl, N1430q, K1430, G1432, G1433, G1434, G1435, G1436, G1437, G1438, G1439⟩ := hQ1430
  have N1430 := Fr.app N1390 N1430q
  have Z1440 : n0 ≤ T1430.heap.size := Nat.le_trans Z1417 K1430.1
  have G1441 : Fld Z T1430.heap b1388 "com/example/spare_calculus/sparecalculus/bisim/LabelGroups" "moveCount" "I" (.int (1:Int32)) := G1437
  have G1442 : own_Ints Z T1430.heap mv_1392 [(w0_4 / (2:Int32)), (0:Int32), (0:Int32)] := G1439
  refine own_pA T1430 m 148 #[iv p0, iv p1, iv p2, iv p3, iv p4, iv p5, rv b1377, iv (2:Int32), iv w0_4, iv (w0_4 / (2:Int32)), iv w0_5, iv w0_6, iv w0_7, iv w0_8, rv b1388, .unset, .unset, .unset, .unset, .unset, .unset, .unset, .unset, .unset, .unset, .unset, .unset, .unset, .unset, .unset, .unset] [(.int w0_7), (.ref b1388)] (fun t k => ?_) ?_
  ·refine XS.iload X1430.here hx rfl (D at_138) rfl ?_
   refine XS.iconst X1430.here hx rfl (D at_140) ?_
   refine XS.icmpNo X1430.here hx rfl (D at_141) rfl (XT.ii_lt_f (by decide)) ?_
   refine XS.aload X1430.here hx rfl (D at_144) rfl rfl ?_
   exact XS.iload X1430.here hx rfl (D at_146) rfl k
  have F1444 := (F1431.keep K1430)
  refine own_virtG X1430 hx hZ (y := own_y3) hown (own_h hw 21 rfl) (own_h hw 22 rfl) (own_h hw 24 rfl) (own_h hw 23 rfl) (own_h hw 25 rfl) (own_h hw 4 rfl) (by decide) (W := 0) (rm3 l Z aZ hw [] b1388 w0_7 b1377 mv_1392 gr_1393 gl_1394 gs_1395 [(w0_4 / (2:Int32)), (0:Int32), (0:Int32)] (1:Int32) T1430.heap n0 Z1440 F1444 G1432 G1433 G1434 G1435 G1436 G1441 G1438 G1442 ne1419 ge_b1388 ge1420 (own_lit rfl)) (by decide) (by decide) rfl F1444 rfl (by rw [hml]; rfl) (argsL := [(.int w0_7)]) (rest := []) (lenOf own_pd3 rfl) rfl (by show 2 * 0 + _ ≤ _; exact Nat.le_of_eq rfl) (D at_148) rfl (by decide) (by decide) (fun v T1443 L1443 X1443 hQ1443 => ?_)
  obtain ⟨rfl, N1443q, K1443, G1445, G1446, G1447, G1448, G1449, G1450, G1451, G1452⟩ := hQ1443
  have N1443 := Fr.app N1430 N1443q
  have Z1453 : n0 ≤ T1443.heap.size := Nat.le_trans Z1440 K1443.1
  have G1454 : Fld Z T1443.heap b1388 "com/example/spare_calculus/sparecalculus/bisim/LabelGroups" "moveCount" "I" (.int (2:Int32)) := G1450
  have G1455 : own_Ints Z T1443.heap mv_1392 [(w0_4 / (2:Int32)), w0_7, (0:Int32)] := G1452
  refine own_pA T1443 m 166 #[iv p0, iv p1, iv p2, iv p3, iv p4, iv p5, rv b1377, iv (2:Int32), iv w0_4, iv (w0_4 / (2:Int32)), iv w0_5, iv w0_6, iv w0_7, iv w0_8, rv b1388, .unset, .unset, .unset, .unset, .unset, .unset, .unset, .unset, .unset, .unset, .unset, .unset, .unset, .unset, .unset, .unset] [(.ref b1388)] (fun t k => ?_) ?_
  ·refine XS.iload X1443.here hx rfl (D at_151) rfl ?_
   refine XS.iconst X1443.here hx rfl (D at_153) ?_
   refine XS.icmpYes X1443.here hx rfl (pc0 := 154) (pc' := 164) rfl (D at_154) rfl (XT.ii_lt_t (by decide)) (by decide) (by decide) ?_
   exact XS.aload X1443.here hx rfl (D at_164) rfl rfl k
  have F1457 := (F1444.keep K1443)
  have F1458 := (((F1391.keep K1390 (ninS ne_b1377_b1388 nin0)).keep K1430 (ninS ne_b1377_b1388 (ninS ne1418 nin0))).keep K1443 (ninS ne_b1377_b1388 (ninS ne1418 nin0)))
  have F1459 := ((G1414.keep K1430 (ninS (Ne.symm ne1422) (ninS (Ne.symm ne1400) nin0))).keep K1443 (ninS (Ne.symm ne1422) (ninS (Ne.symm ne1400) nin0)))
  have F1460 := ((G1415.keep K1430 (ninS (Ne.symm ne1425) (ninS (Ne.symm ne1401) nin0))).keep K1443 (ninS (Ne.symm ne1425) (ninS (Ne.symm ne1401) nin0)))
  have F1461 := ((G1416.keep K1430 (ninS (Ne.symm ne1428) (ninS (Ne.symm ne1402) nin0))).keep K1443 (ninS (Ne.symm ne1428) (ninS (Ne.symm ne1402) nin0)))
  have hf1463 : own_In (w0_4 / (2:Int32)) [w0_1, w0_2, w0_3].length := by subst hw0_5 hw0_6 hw0_7 hw0_8; exact own_fin1462 w0_1 (own_m3 _ _ hw0_1) w0_2 (own_m3 _ _ hw0_2) w0_3 (own_m3 _ _ hw0_3) w0_4 (own_m6 _ _ hw0_4)
  have hf1465 : own_In (own_at [w0_1, w0_2, w0_3] (w0_4 / (2:Int32))) [(0:Int32), (0:Int32), (0:Int32)].length := by subst hw0_5 hw0_6 hw0_7 hw0_8; exact own_fin1464 w0_1 (own_m3 _ _ hw0_1) w0_2 (own_m3 _ _ hw0_2) w0_3 (own_m3 _ _ hw0_3) w0_4 (own_m6 _ _ hw0_4)
  have hf1467 : own_In w0_7 [w0_1, w0_2, w0_3].length := by subst hw0_5 hw0_6 hw0_7 hw0_8; exact own_fin1466 w0_1 (own_m3 _ _ hw0_1) w0_2 (own_m3 _ _ hw0_2) w0_3 (own_m3 _ _ hw0_3) w0_4 (own_m6 _ _ hw0_4)
  have hf1469 : own_In (own_at [w0_1, w0_2, w0_3] w0_7) (own_v100 w0_1 w0_2 w0_3 (w0_4 / (2:Int32))).length := by subst hw0_5 hw0_6 hw0_7 hw0_8; exact own_fin1468 w0_1 (own_m3 _ _ hw0_1) w0_2 (own_m3 _ _ hw0_2) w0_3 (own_m3 _ _ hw0_3) w0_4 (own_m6 _ _ hw0_4)
  have hf1471 : ((own_at (own_v100 w0_1 w0_2 w0_3 (w0_4 / (2:Int32))) (own_at [w0_1, w0_2, w0_3] w0_7)) = (0:Int32)) → own_In (own_at [w0_1, w0_2, w0_3] w0_7) (own_v100 w0_1 w0_2 w0_3 (w0_4 / (2:Int32))).length := by subst hw0_5 hw0_6 hw0_7 hw0_8; exact own_fin1470 w0_1 (own_m3 _ _ hw0_1) w0_2 (own_m3 _ _ hw0_2) w0_3 (own_m3 _ _ hw0_3) w0_4 (own_m6 _ _ hw0_4)
  have hf1473 : ((own_at (own_v100 w0_1 w0_2 w0_3 (w0_4 / (2:Int32))) (own_at [w0_1, w0_2, w0_3] w0_7)) = (0:Int32)) → own_In (own_at [w0_1, w0_2, w0_3] (w0_4 / (2:Int32))) (own_v223 w0_1 w0_2 w0_3 (w0_4 / (2:Int32)) w0_7).length := by subst hw0_5 hw0_6 hw0_7 hw0_8; exact own_fin1472 w0_1 (own_m3 _ _ hw0_1) w0_2 (own_m3 _ _ hw0_2) w0_3 (own_m3 _ _ hw0_3) w0_4 (own_m6 _ _ hw0_4)
  have hf1475 : ((own_at (own_v100 w0_1 w0_2 w0_3 (w0_4 / (2:Int32))) (own_at [w0_1, w0_2, w0_3] w0_7)) = (0:Int32)) → own_In (own_at [w0_1, w0_2, w0_3] w0_7) (own_v240 w0_1 w0_2 w0_3 (w0_4 / (2:Int32)) w0_7).length := by subst hw0_5 hw0_6 hw0_7 hw0_8; exact own_fin1474 w0_1 (own_m3 _ _ hw0_1) w0_2 (own_m3 _ _ hw0_2) w0_3 (own_m3 _ _ hw0_3) w0_4 (own_m6 _ _ hw0_4)
  have hf1477 : ((own_at (own_v100 w0_1 w0_2 w0_3 (w0_4 / (2:Int32))) (own_at [w0_1, w0_2, w0_3] w0_7)) = (0:Int32)) → own_In w0_7 [w0_1, w0_2, w0_3].length := by subst hw0_5 hw0_6 hw0_7 hw0_8; exact own_fin1476 w0_1 (own_m3 _ _ hw0_1) w0_2 (own_m3 _ _ hw0_2) w0_3 (own_m3 _ _ hw0_3) w0_4 (own_m6 _ _ hw0_4)
  have hf1479 : ((own_at (own_v100 w0_1 w0_2 w0_3 (w0_4 / (2:Int32))) (own_at [w0_1, w0_2, w0_3] w0_7)) = (0:Int32)) → own_In (own_at [w0_1, w0_2, w0_3] w0_7) (own_v255 w0_1 w0_2 w0_3 (w0_4 / (2:Int32)) w0_7).length := by subst hw0_5 hw0_6 hw0_7 hw0_8; exact own_fin1478 w0_1 (own_m3 _ _ hw0_1) w0_2 (own_m3 _ _ hw0_2) w0_3 (own_m3 _ _ hw0_3) w0_4 (own_m6 _ _ hw0_4)
  have hf1481 : ((own_at (own_v100 w0_1 w0_2 w0_3 (w0_4 / (2:Int32))) (own_at [w0_1, w0_2, w0_3] w0_7)) = (0:Int32)) → own_In (own_at [w0_1, w0_2, w0_3] w0_7) (own_v276 w0_1 w0_2 w0_3 (w0_4 / (2:Int32)) w0_7).length := by subst hw0_5 hw0_6 hw0_7 hw0_8; exact own_fin1480 w0_1 (own_m3 _ _ hw0_1) w0_2 (own_m3 _ _ hw0_2) w0_3 (own_m3 _ _ hw0_3) w0_4 (own_m6 _ _ hw0_4)
  have hf1483 : ((own_at (own_v100 w0_1 w0_2 w0_3 (w0_4 / (2:Int32))) (own_at [w0_1, w0_2, w0_3] w0_7)) = (0:Int32)) → own_In (own_at (own_v276 w0_1 w0_2 w0_3 (w0_4 / (2:Int32)) w0_7) (own_at [w0_1, w0_2, w0_3] w0_7)) [(0:Int32), (0:Int32), (0:Int32)].length := by subst hw0_5 hw0_6 hw0_7 hw0_8; exact own_fin1482 w0_1 (own_m3 _ _ hw0_1) w0_2 (own_m3 _ _ hw0_2) w0_3 (own_m3 _ _ hw0_3) w0_4 (own_m6 _ _ hw0_4)
  have hf1485 : ((own_at (own_v100 w0_1 w0_2 w0_3 (w0_4 / (2:Int32))) (own_at [w0_1, w0_2, w0_3] w0_7)) = (0:Int32)) → own_In (w0_4 / (2:Int32)) [w0_1, w0_2, w0_3].length := by subst hw0_5 hw0_6 hw0_7 hw0_8; exact own_fin1484 w0_1 (own_m3 _ _ hw0_1) w0_2 (own_m3 _ _ hw0_2) w0_3 (own_m3 _ _ hw0_3) w0_4 (own_m6 _ _ hw0_4)
  have hf1487 : ((own_at (own_v100 w0_1 w0_2 w0_3 (w0_4 / (2:Int32))) (own_at [w0_1, w0_2, w0_3] w0_7)) = (0:Int32)) → own_In (own_at [w0_1, w0_2, w0_3] (w0_4 / (2:Int32))) (own_v276 w0_1 w0_2 w0_3 (w0_4 / (2:Int32)) w0_7).length := by subst hw0_5 hw0_6 hw0_7 hw0_8; exact own_fin1486 w0_1 (own_m3 _ _ hw0_1) w0_2 (own_m3 _ _ hw0_2) w0_3 (own_m3 _ _ hw0_3) w0_4 (own_m6 _ _ hw0_4)
  have hf1489 : ((own_at (own_v100 w0_1 w0_2 w0_3 (w0_4 / (2:Int32))) (own_at [w0_1, w0_2, w0_3] w0_7)) = (0:Int32)) → own_In (own_at [w0_1, w0_2, w0_3] (w0_4 / (2:Int32))) (own_v306 w0_1 w0_2 w0_3 (w0_4 / (2:Int32)) w0_7).length := by subst hw0_5 hw0_6 hw0_7 hw0_8; exact own_fin1488 w0_1 (own_m3 _ _ hw0_1) w0_2 (own_m3 _ _ hw0_2) w0_3 (own_m3 _ _ hw0_3) w0_4 (own_m6 _ _ hw0_4)
  have hf1491 : ((own_at (own_v100 w0_1 w0_2 w0_3 (w0_4 / (2:Int32))) (own_at [w0_1, w0_2, w0_3] w0_7)) = (0:Int32)) → own_In (own_at (own_v306 w0_1 w0_2 w0_3 (w0_4 / (2:Int32)) w0_7) (own_at [w0_1, w0_2, w0_3] (w0_4 / (2:Int32)))) (own_v288 w0_1 w0_2 w0_3 (w0_4 / (2:Int32)) w0_7).length := by subst hw0_5 hw0_6 hw0_7 hw0_8; exact own_fin1490 w0_1 (own_m3 _ _ hw0_1) w0_2 (own_m3 _ _ hw0_2) w0_3 (own_m3 _ _ hw0_3) w0_4 (own_m6 _ _ hw0_4)
  have hf1493 : (¬ ((own_at (own_v100 w0_1 w0_2 w0_3 (w0_4 / (2:Int32))) (own_at [w0_1, w0_2, w0_3] w0_7)) = (0:Int32))) → own_In (own_at [w0_1, w0_2, w0_3] w0_7) (own_v100 w0_1 w0_2 w0_3 (w0_4 / (2:Int32))).length := by subst hw0_5 hw0_6 hw0_7 hw0_8; exact own_fin1492 w0_1 (own_m3 _ _ hw0_1) w0_2 (own_m3 _ _ hw0_2) w0_3 (own_m3 _ _ hw0_3) w0_4 (own_m6 _ _ hw0_4)
  have hf1495 : (¬ ((own_at (own_v100 w0_1 w0_2 w0_3 (w0_4 / (2:Int32))) (own_at [w0_1, w0_2, w0_3] w0_7)) = (0:Int32))) → own_In (own_at [w0_1, w0_2, w0_3] (w0_4 / (2:Int32))) (own_v223 w0_1 w0_2 w0_3 (w0_4 / (2:Int32)) w0_7).length := by subst hw0_5 hw0_6 hw0_7 hw0_8; exact own_fin1494 w0_1 (own_m3 _ _ hw0_1) w0_2 (own_m3 _ _ hw0_2) w0_3 (own_m3 _ _ hw0_3) w0_4 (own_m6 _ _ hw0_4)
  have hf1497 : (¬ ((own_at (own_v100 w0_1 w0_2 w0_3 (w0_4 / (2:Int32))) (own_at [w0_1, w0_2, w0_3] w0_7)) = (0:Int32))) → own_In w0_7 [w0_1, w0_2, w0_3].length := by subst hw0_5 hw0_6 hw0_7 hw0_8; exact own_fin1496 w0_1 (own_m3 _ _ hw0_1) w0_2 (own_m3 _ _ hw0_2) w0_3 (own_m3 _ _ hw0_3) w0_4 (own_m6 _ _ hw0_4)
  have hf1499 : (¬ ((own_at (own_v100 w0_1 w0_2 w0_3 (w0_4 / (2:Int32))) (own_at [w0_1, w0_2, w0_3] w0_7)) = (0:Int32))) → own_In (own_at [w0_1, w0_2, w0_3] w0_7) (own_v240 w0_1 w0_2 w0_3 (w0_4 / (2:Int32)) w0_7).length := by subst hw0_5 hw0_6 hw0_7 hw0_8; exact own_fin1498 w0_1 (own_m3 _ _ hw0_1) w0_2 (own_m3 _ _ hw0_2) w0_3 (own_m3 _ _ hw0_3) w0_4 (own_m6 _ _ hw0_4)
  have hf1501 : (¬ ((own_at (own_v100 w0_1 w0_2 w0_3 (w0_4 / (2:Int32))) (own_at [w0_1, w0_2, w0_3] w0_7)) = (0:Int32))) → own_In (own_at [w0_1, w0_2, w0_3] w0_7) (own_v372 w0_1 w0_2 w0_3 (w0_4 / (2:Int32)) w0_7).length := by subst hw0_5 hw0_6 hw0_7 hw0_8; exact own_fin1500 w0_1 (own_m3 _ _ hw0_1) w0_2 (own_m3 _ _ hw0_2) w0_3 (own_m3 _ _ hw0_3) w0_4 (own_m6 _ _ hw0_4)
  have hf1503 : (¬ ((own_at (own_v100 w0_1 w0_2 w0_3 (w0_4 / (2:Int32))) (own_at [w0_1, w0_2, w0_3] w0_7)) = (0:Int32))) → own_In (own_at (own_v372 w0_1 w0_2 w0_3 (w0_4 / (2:Int32)) w0_7) (own_at [w0_1, w0_2, w0_3] w0_7)) [(0:Int32), (0:Int32), (0:Int32)].length := by subst hw0_5 hw0_6 hw0_7 hw0_8; exact own_fin1502 w0_1 (own_m3 _ _ hw0_1) w0_2 (own_m3 _ _ hw0_2) w0_3 (own_m3 _ _ hw0_3) w0_4 (own_m6 _ _ hw0_4)
  have hf1505 : (¬ ((own_at (own_v100 w0_1 w0_2 w0_3 (w0_4 / (2:Int32))) (own_at [w0_1, w0_2, w0_3] w0_7)) = (0:Int32))) → own_In (w0_4 / (2:Int32)) [w0_1, w0_2, w0_3].length := by subst hw0_5 hw0_6 hw0_7 hw0_8; exact own_fin1504 w0_1 (own_m3 _ _ hw0_1) w0_2 (own_m3 _ _ hw0_2) w0_3 (own_m3 _ _ hw0_3) w0_4 (own_m6 _ _ hw0_4)
  have hf1507 : (¬ ((own_at (own_v100 w0_1 w0_2 w0_3 (w0_4 / (2:Int32))) (own_at [w0_1, w0_2, w0_3] w0_7)) = (0:Int32))) → own_In (own_at [w0_1, w0_2, w0_3] (w0_4 / (2:Int32))) (own_v372 w0_1 w0_2 w0_3 (w0_4 / (2:Int32)) w0_7).length := by subst hw0_5 hw0_6 hw0_7 hw0_8; exact own_fin1506 w0_1 (own_m3 _ _ hw0_1) w0_2 (own_m3 _ _ hw0_2) w0_3 (own_m3 _ _ hw0_3) w0_4 (own_m6 _ _ hw0_4)
  have hf1509 : (¬ ((own_at (own_v100 w0_1 w0_2 w0_3 (w0_4 / (2:Int32))) (own_at [w0_1, w0_2, w0_3] w0_7)) = (0:Int32))) → own_In (own_at [w0_1, w0_2, w0_3] (w0_4 / (2:Int32))) (own_v402 w0_1 w0_2 w0_3 (w0_4 / (2:Int32)) w0_7).length := by subst hw0_5 hw0_6 hw0_7 hw0_8; exact own_fin1508 w0_1 (own_m3 _ _ hw0_1) w0_2 (own_m3 _ _ hw0_2) w0_3 (own_m3 _ _ hw0_3) w0_4 (own_m6 _ _ hw0_4)
  have hf1511 : (¬ ((own_at (own_v100 w0_1 w0_2 w0_3 (w0_4 / (2:Int32))) (own_at [w0_1, w0_2, w0_3] w0_7)) = (0:Int32))) → own_In (own_at (own_v402 w0_1 w0_2 w0_3 (w0_4 / (2:Int32)) w0_7) (own_at [w0_1, w0_2, w0_3] (w0_4 / (2:Int32)))) (own_v384 w0_1 w0_2 w0_3 (w0_4 / (2:Int32)) w0_7).length := by subst hw0_5 hw0_6 hw0_7 hw0_8; exact own_fin1510 w0_1 (own_m3 _ _ hw0_1) w0_2 (own_m3 _ _ hw0_2) w0_3 (own_m3 _ _ hw0_3) w0_4 (own_m6 _ _ hw0_4)
  refine own_virtG X1443 hx hZ (y := own_y4) hown (own_h hw 28 rfl) (own_h hw 29 rfl) (own_h hw 31 rfl) (own_h hw 30 rfl) (own_h hw 32 rfl) (own_h hw 4 rfl) (by decide) (W := 0) (rm4m2 l Z aZ hw [] b1388 b1377 mv_1392 gr_1393 gl_1394 gs_1395 w0_1 w0_2 w0_3 (w0_4 / (2:Int32)) w0_7 (0:Int32) T1443.heap n0 Z1453 F1457 G1445 G1446 G1447 G1448 G1449 G1454 G1451 F1458 G1455 F1459 F1460 F1461 (Ne.symm ne_b1377_b1388) ne1419 ne1422 ne1425 ne1428 ne1418 ne1421 ne1424 ne1427 ne1400 ne1401 ne1402 ne1403 ne1404 ne1405 ge_b1388 ge1423 ge1426 ge1429 hf1463 hf1465 hf1467 hf1469 hf1471 hf1473 hf1475 hf1477 hf1479 hf1481 hf1483 hf1485 hf1487 hf1489 hf1491 hf1493 hf1495 hf1497 hf1499 hf1501 hf1503 hf1505 hf1507 hf1509 hf1511) (by decide) (by decide) rfl F1457 rfl (by rw [hml]; rfl) (argsL := []) (rest := []) (lenOf own_pd1 rfl) rfl (by show 2 * 0 + _ ≤ _; exact Nat.le_of_eq rfl) (D at_166) rfl (by decide) (by decide) (fun v T1456 L1456 X1456 hQ1456 => ?_)
  obtain ⟨rfl, N1456q, K1456, G1512, G1513, G1514, G1515, G1516, G1517, G1518, G1519, G1520, G1521⟩ := hQ1456
  have N1456 := Fr.app N1443 N1456q
  have Z1522 : n0 ≤ T1456.heap.size := Nat.le_trans Z1453 K1456.1
  have G1524 : Fld Z T1456.heap b1388 "com/example/spare_calculus/sparecalculus/bisim/LabelGroups" "groupCount" "I" (.int (own_v1523 w0_1 w0_2 w0_3 w0_4 w0_7)) := G1518
  have G1526 : own_Ints Z T1456.heap gr_1393 (own_v1525 w0_1 w0_2 w0_3 w0_4 w0_7) := G1519
  have G1528 : own_Ints Z T1456.heap gl_1394 (own_v1527 w0_1 w0_2 w0_3 w0_4 w0_7) := G1520
  have G1530 : own_Ints Z T1456.heap gs_1395 (own_v1529 w0_1 w0_2 w0_3 w0_4 w0_7) := G1521
  have F1532 := (F1458.keep K1456 (ninS ne_b1377_b1388 (ninS ne1421 (ninS ne1424 (ninS ne1427 nin0)))))
  have hbn1534 : own_In (w0_4 / (2:Int32)) [w0_1, w0_2, w0_3].length := (by subst hw0_5 hw0_6 hw0_7 hw0_8; exact own_fin1533 w0_1 (own_m3 _ _ hw0_1) w0_2 (own_m3 _ _ hw0_2) w0_3 (own_m3 _ _ hw0_3) w0_4 (own_m6 _ _ hw0_4))
  have hbn1536 : own_In w0_7 [w0_1, w0_2, w0_3].length := (by subst hw0_5 hw0_6 hw0_7 hw0_8; exact own_fin1535 w0_1 (own_m3 _ _ hw0_1) w0_2 (own_m3 _ _ hw0_2) w0_3 (own_m3 _ _ hw0_3) w0_4 (own_m6 _ _ hw0_4))
  have hbn1538 : own_In w0_8 [w0_1, w0_2, w0_3].length := (by subst hw0_5 hw0_6 hw0_7 hw0_8; exact own_fin1537 w0_1 (own_m3 _ _ hw0_1) w0_2 (own_m3 _ _ hw0_2) w0_3 (own_m3 _ _ hw0_3) w0_4 (own_m6 _ _ hw0_4))
  refine own_pA T1456 m 216 #[.val (.int p0), .val (.int p1), .val (.int p2), .val (.int p3), .val (.int p4), .val (.int p5), .val (.ref b1377), .val (.int (2:Int32)), .val (.int w0_4), .val (.int (w0_4 / (2:Int32))), .val (.int w0_5), .val (.int w0_6), .val (.int w0_7), .val (.int w0_8), .val (.ref b1388), .val (.int (own_v1531 w0_1 w0_2 w0_3 w0_4 w0_7)), .val (.int (own_at [w0_1, w0_2, w0_3] (w0_4 / (2:Int32)))), .val (.int (own_at [w0_1, w0_2, w0_3] w0_7)), .val (.int (own_at [w0_1, w0_2, w0_3] w0_8)), .val (.int (0:Int32)), .unset, .unset, .unset, .unset, .unset, .unset, .unset, .unset, .unset, .unset, .unset] [(.int (own_at [w0_1, w0_2, w0_3] (w0_4 / (2:Int32)))), (.int (own_at [w0_1, w0_2, w0_3] w0_7))] (fun t k => ?_) ?_
  ·refine XS.istore X1456.here hx rfl (D at_169) rfl (l' := #[iv p0, iv p1, iv p2, iv p3, iv p4, iv p5, rv b1377, iv (2:Int32), iv w0_4, iv (w0_4 / (2:Int32)), iv w0_5, iv w0_6, iv w0_7, iv w0_8, rv b1388, iv (own_v1531 w0_1 w0_2 w0_3 w0_4 w0_7), .unset, .unset, .unset, .unset, .unset, .unset, .unset, .unset, .unset, .unset, .unset, .unset, .unset, .unset, .unset]) rfl ?_
   refine XS.aload X1456.here hx rfl (D at_171) rfl rfl ?_
   refine XS.iload X1456.here hx rfl (D at_173) rfl ?_
   refine own_iaload X1456 hx hZ rfl F1532 hbn1534 rfl rfl (D at_175) ?_
   refine XS.istore X1456.here hx rfl (D at_176) rfl (l' := #[.val (.int p0), .val (.int p1), .val (.int p2), .val (.int p3), .val (.int p4), .val (.int p5), .val (.ref b1377), .val (.int (2:Int32)), .val (.int w0_4), .val (.int (w0_4 / (2:Int32))), .val (.int w0_5), .val (.int w0_6), .val (.int w0_7), .val (.int w0_8), .val (.ref b1388), .val (.int (own_v1531 w0_1 w0_2 w0_3 w0_4 w0_7)), .val (.int (own_at [w0_1, w0_2, w0_3] (w0_4 / (2:Int32)))), .unset, .unset, .unset, .unset, .unset, .unset, .unset, .unset, .unset, .unset, .unset, .unset, .unset, .unset]) rfl ?_
   refine XS.aload X1456.here hx rfl (D at_178) rfl rfl ?_
   refine XS.iload X1456.here hx rfl (D at_180) rfl ?_
   refine own_iaload X1456 hx hZ rfl F1532 hbn1536 rfl rfl (D at_182) ?_
   refine XS.istore X1456.here hx rfl (D at_183) rfl (l' := #[.val (.int p0), .val (.int p1), .val (.int p2), .val (.int p3), .val (.int p4), .val (.int p5), .val (.ref b1377), .val (.int (2:Int32)), .val (.int w0_4), .val (.int (w0_4 / (2:Int32))), .val (.int w0_5), .val (.int w0_6), .val (.int w0_7), .val (.int w0_8), .val (.ref b1388), .val (.int (own_v1531 w0_1 w0_2 w0_3 w0_4 w0_7)), .val (.int (own_at [w0_1, w0_2, w0_3] (w0_4 / (2:Int32)))), .val (.int (own_at [w0_1, w0_2, w0_3] w0_7)), .unset, .unset, .unset, .unset, .unset, .unset, .unset, .unset, .unset, .unset, .unset, .unset, .unset]) rfl ?_
   refine XS.aload X1456.here hx rfl (D at_185) rfl rfl ?_
   refine XS.iload X1456.here hx rfl (D at_187) rfl ?_
   refine own_iaload X1456 hx hZ rfl F1532 hbn1538 rfl rfl (D at_189) ?_
   refine XS.istore X1456.here hx rfl (D at_190) rfl (l' := #[.val (.int p0), .val (.int p1), .val (.int p2), .val (.int p3), .val (.int p4), .val (.int p5), .val (.ref b1377), .val (.int (2:Int32)), .val (.int w0_4), .val (.int (w0_4 / (2:Int32))), .val (.int w0_5), .val (.int w0_6), .val (.int w0_7), .val (.int w0_8), .val (.ref b1388), .val (.int (own_v1531 w0_1 w0_2 w0_3 w0_4 w0_7)), .val (.int (own_at [w0_1, w0_2, w0_3] (w0_4 / (2:Int32)))), .val (.int (own_at [w0_1, w0_2, w0_3] w0_7)), .val (.int (own_at [w0_1, w0_2, w0_3] w0_8)), .unset, .unset, .unset, .unset, .unset, .unset, .unset, .unset, .unset, .unset, .unset, .unset]) rfl ?_
   refine XS.iload X1456.here hx rfl (D at_192) rfl ?_
   refine XS.iconst X1456.here hx rfl (D at_194) ?_
   refine XS.icmpNo X1456.here hx rfl (D at_195) rfl (XT.ii_lt_f (by decide)) ?_
   refine XS.iconst X1456.here hx rfl (D at_198) ?_
   refine XS.goto X1456.here hx rfl (pc0 := 199) (pc' := 204) rfl (D at_199) (by decide) (by decide) ?_
   refine XS.istore X1456.here hx rfl (D at_204) rfl (l' := #[.val (.int p0), .val (.int p1), .val (.int p2), .val (.int p3), .val (.int p4), .val (.int p5), .val (.ref b1377), .val (.int (2:Int32)), .val (.int w0_4), .val (.int (w0_4 / (2:Int32))), .val (.int w0_5), .val (.int w0_6), .val (.int w0_7), .val (.int w0_8), .val (.ref b1388), .val (.int (own_v1531 w0_1 w0_2 w0_3 w0_4 w0_7)), .val (.int (own_at [w0_1, w0_2, w0_3] (w0_4 / (2:Int32)))), .val (.int (own_at [w0_1, w0_2, w0_3] w0_7)), .val (.int (own_at [w0_1, w0_2, w0_3] w0_8)), .val (.int (0:Int32)), .unset, .unset, .unset, .unset, .unset, .unset, .unset, .unset, .unset, .unset, .unset]) rfl ?_
   refine XS.iload X1456.here hx rfl (D at_206) rfl ?_
   refine XS.iconst X1456.here hx rfl (D at_208) ?_
   refine XS.icmpNo X1456.here hx rfl (D at_209) rfl (XT.ii_lt_f (by decide)) ?_
   refine XS.iload X1456.here hx rfl (D at_212) rfl ?_
   exact XS.iload X1456.here hx rfl (D at_214) rfl k
  obtain ⟨w0_9, hw0_9⟩ : ∃ z : Int32, z = (if (own_at [w0_1, w0_2, w0_3] w0_7) = (own_at [w0_1, w0_2, w0_3] (w0_4 / (2:Int32))) then (0:Int32) else (1:Int32)) := ⟨_, rfl⟩
  refine own_pre (A := T1456.setTop (mkF m 229 #[.val (.int p0), .val (.int p1), .val (.int p2), .val (.int p3), .val (.int p4), .val (.int p5), .val (.ref b1377), .val (.int (2:Int32)), .val (.int w0_4), .val (.int (w0_4 / (2:Int32))), .val (.int w0_5), .val (.int w0_6), .val (.int w0_7), .val (.int w0_8), .val (.ref b1388), .val (.int (own_v1531 w0_1 w0_2 w0_3 w0_4 w0_7)), .val (.int (own_at [w0_1, w0_2, w0_3] (w0_4 / (2:Int32)))), .val (.int (own_at [w0_1, w0_2, w0_3] w0_7)), .val (.int (own_at [w0_1, w0_2, w0_3] w0_8)), .val (.int (0:Int32)), .unset, .unset, .unset, .unset, .unset, .unset, .unset, .unset, .unset, .unset, .unset] [(.int w0_9)])) (fun t k => ?_) ?_
  ·by_cases hm216_5 : (own_at [w0_1, w0_2, w0_3] w0_7) = (own_at [w0_1, w0_2, w0_3] (w0_4 / (2:Int32)))
   ·refine XS.icmpNo X1456.here hx rfl (D at_216) rfl (XT.ii_ne_f hm216_5) ?_
    refine XS.iconst X1456.here hx rfl (D at_219) ?_
    refine XS.goto X1456.here hx rfl (pc0 := 220) (pc' := 229) rfl (D at_220) (by decide) (by decide) ?_
    rw [hw0_9.trans (if_pos hm216_5)] at k
    exact k
   ·refine XS.icmpYes X1456.here hx rfl (pc0 := 216) (pc' := 223) rfl (D at_216) rfl (XT.ii_ne_t hm216_5) (by decide) (by decide) ?_
    refine XS.iconst X1456.here hx rfl (D at_223) ?_
    refine XS.goto X1456.here hx rfl (pc0 := 224) (pc' := 229) rfl (D at_224) (by decide) (by decide) ?_
    rw [hw0_9.trans (if_neg hm216_5)] at k
    exact k
  have hd318_6 : (own_v1531 w0_1 w0_2 w0_3 w0_4 w0_7) = (w0_9 + (1:Int32)) := (by subst hw0_5 hw0_6 hw0_7 hw0_8 hw0_9; exact own_fin1540 w0_1 (own_m3 _ _ hw0_1) w0_2 (own_m3 _ _ hw0_2) w0_3 (own_m3 _ _ hw0_3) w0_4 (own_m6 _ _ hw0_4))
  refine own_pA T1456 m 332 #[.val (.int p0), .val (.int p1), .val (.int p2), .val (.int p3), .val (.int p4), .val (.int p5), .val (.ref b1377), .val (.int (2:Int32)), .val (.int w0_4), .val (.int (w0_4 / (2:Int32))), .val (.int w0_5), .val (.int w0_6), .val (.int w0_7), .val (.int w0_8), .val (.ref b1388), .val (.int (own_v1531 w0_1 w0_2 w0_3 w0_4 w0_7)), .val (.int (own_at [w0_1, w0_2, w0_3] (w0_4 / (2:Int32)))), .val (.int (own_at [w0_1, w0_2, w0_3] w0_7)), .val (.int (own_at [w0_1, w0_2, w0_3] w0_8)), .val (.int (0:Int32)), .val (.int w0_9), .val (.int (9:Int32)), .val (.int (w0_9 + (1:Int32))), .val (.int (1:Int32)), .unset, .unset, .unset, .unset, .unset, .unset, .unset] [(.int (0:Int32)), (.int w0_9)] (fun t k => ?_) ?_
  ·refine XS.istore X1456.here hx rfl (D at_229) rfl (l' := #[.val (.int p0), .val (.int p1), .val (.int p2), .val (.int p3), .val (.int p4), .val (.int p5), .val (.ref b1377), .val (.int (2:Int32)), .val (.int w0_4), .val (.int (w0_4 / (2:Int32))), .val (.int w0_5), .val (.int w0_6), .val (.int w0_7), .val (.int w0_8), .val (.ref b1388), .val (.int (own_v1531 w0_1 w0_2 w0_3 w0_4 w0_7)), .val (.int (own_at [w0_1, w0_2, w0_3] (w0_4 / (2:Int32)))), .val (.int (own_at [w0_1, w0_2, w0_3] w0_7)), .val (.int (own_at [w0_1, w0_2, w0_3] w0_8)), .val (.int (0:Int32)), .val (.int w0_9), .unset, .unset, .unset, .unset, .unset, .unset, .unset, .unset, .unset, .unset]) rfl ?_
   refine XS.iload X1456.here hx rfl (D at_231) rfl ?_
   refine XS.iconst X1456.here hx rfl (D at_233) ?_
   refine XS.icmpYes X1456.here hx rfl (pc0 := 234) (pc' := 267) rfl (D at_234) rfl (XT.ii_lt_t (by decide)) (by decide) (by decide) ?_
   refine XS.bipush X1456.here hx rfl (D at_267) ?_
   refine XS.istore X1456.here hx rfl (D at_269) rfl (l' := #[.val (.int p0), .val (.int p1), .val (.int p2), .val (.int p3), .val (.int p4), .val (.int p5), .val (.ref b1377), .val (.int (2:Int32)), .val (.int w0_4), .val (.int (w0_4 / (2:Int32))), .val (.int w0_5), .val (.int w0_6), .val (.int w0_7), .val (.int w0_8), .val (.ref b1388), .val (.int (own_v1531 w0_1 w0_2 w0_3 w0_4 w0_7)), .val (.int (own_at [w0_1, w0_2, w0_3] (w0_4 / (2:Int32)))), .val (.int (own_at [w0_1, w0_2, w0_3] w0_7)), .val (.int (own_at [w0_1, w0_2, w0_3] w0_8)), .val (.int (0:Int32)), .val (.int w0_9), .val (.int (9:Int32)), .unset, .unset, .unset, .unset, .unset, .unset, .unset, .unset, .unset]) rfl ?_
   refine XS.iload X1456.here hx rfl (D at_271) rfl ?_
   refine XS.ifYes X1456.here hx rfl (pc0 := 273) (pc' := 280) rfl (D at_273) rfl (XT.i0_ne_t (by decide)) (by decide) (by decide) ?_
   refine XS.iload X1456.here hx rfl (D at_280) rfl ?_
   refine XS.iconst X1456.here hx rfl (D at_282) ?_
   refine XS.icmpYes X1456.here hx rfl (pc0 := 283) (pc' := 290) rfl (D at_283) rfl (XT.ii_ne_t (by decide)) (by decide) (by decide) ?_
   refine XS.iload X1456.here hx rfl (D at_290) rfl ?_
   refine XS.iconst X1456.here hx rfl (D at_292) ?_
   refine XS.icmpNo X1456.here hx rfl (D at_293) rfl (XT.ii_ne_f rfl) ?_
   refine XS.iload X1456.here hx rfl (D at_296) rfl ?_
   refine XS.iconst X1456.here hx rfl (D at_298) ?_
   refine XS.iadd X1456.here hx rfl (D at_299) rfl ?_
   refine XS.goto X1456.here hx rfl (pc0 := 300) (pc' := 312) rfl (D at_300) (by decide) (by decide) ?_
   refine XS.istore X1456.here hx rfl (D at_312) rfl (l' := #[.val (.int p0), .val (.int p1), .val (.int p2), .val (.int p3), .val (.int p4), .val (.int p5), .val (.ref b1377), .val (.int (2:Int32)), .val (.int w0_4), .val (.int (w0_4 / (2:Int32))), .val (.int w0_5), .val (.int w0_6), .val (.int w0_7), .val (.int w0_8), .val (.ref b1388), .val (.int (own_v1531 w0_1 w0_2 w0_3 w0_4 w0_7)), .val (.int (own_at [w0_1, w0_2, w0_3] (w0_4 / (2:Int32)))), .val (.int (own_at [w0_1, w0_2, w0_3] w0_7)), .val (.int (own_at [w0_1, w0_2, w0_3] w0_8)), .val (.int (0:Int32)), .val (.int w0_9), .val (.int (9:Int32)), .val (.int (w0_9 + (1:Int32))), .unset, .unset, .unset, .unset, .unset, .unset, .unset, .unset]) rfl ?_
   refine XS.iload X1456.here hx rfl (D at_314) rfl ?_
   refine XS.iload X1456.here hx rfl (D at_316) rfl ?_
   refine XS.icmpNo X1456.here hx rfl (D at_318) rfl (XT.ii_ne_f hd318_6) ?_
   refine XS.iconst X1456.here hx rfl (D at_321) ?_
   refine XS.goto X1456.here hx rfl (pc0 := 322) (pc' := 326) rfl (D at_322) (by decide) (by decide) ?_
   refine XS.istore X1456.here hx rfl (D at_326) rfl (l' := #[.val (.int p0), .val (.int p1), .val (.int p2), .val (.int p3), .val (.int p4), .val (.int p5), .val (.ref b1377), .val (.int (2:Int32)), .val (.int w0_4), .val (.int (w0_4 / (2:Int32))), .val (.int w0_5), .val (.int w0_6), .val (.int w0_7), .val (.int w0_8), .val (.ref b1388), .val (.int (own_v1531 w0_1 w0_2 w0_3 w0_4 w0_7)), .val (.int (own_at [w0_1, w0_2, w0_3] (w0_4 / (2:Int32)))), .val (.int (own_at [w0_1, w0_2, w0_3] w0_7)), .val (.int (own_at [w0_1, w0_2, w0_3] w0_8)), .val (.int (0:Int32)), .val (.int w0_9), .val (.int (9:Int32)), .val (.int (w0_9 + (1:Int32))), .val (.int (1:Int32)), .unset, .unset, .unset, .unset, .unset, .unset, .unset]) rfl ?_
   refine XS.iload X1456.here hx rfl (D at_328) rfl ?_
   exact XS.iload X1456.here hx rfl (D at_330) rfl k
  refine own_callSG X1456 hx hZ (y := own_y5) hown (own_h hw 35 rfl) (own_h hw 36 rfl) (own_h hw 37 rfl) (own_h hw 38 rfl) (by decide) (W := 0) (rm5 l Z aZ hw [] w0_9 (0:Int32) T1456.heap n0 Z1522 ) (by decide) (by decide) rfl (by rw [hml]; rfl) (argsL := [(.int w0_9), (.int (0:Int32))]) (rest := []) (lenOf own_pd2 rfl) rfl (by show 2 * 0 + _ ≤ _; exact Nat.le_of_eq rfl) (D at_332) rfl rfl (by decide) (by decide) (fun v T1541 L1541 X1541 hQ1541 => ?_)
  obtain ⟨rfl, N1541q, eh1541⟩ := hQ1541
  have N1541 := Fr.app N1456 N1541q
  refine own_pA T1541 m 339 #[.val (.int p0), .val (.int p1), .val (.int p2), .val (.int p3), .val (.int p4), .val (.int p5), .val (.ref b1377), .val (.int (2:Int32)), .val (.int w0_4), .val (.int (w0_4 / (2:Int32))), .val (.int w0_5), .val (.int w0_6), .val (.int w0_7), .val (.int w0_8), .val (.ref b1388), .val (.int (own_v1531 w0_1 w0_2 w0_3 w0_4 w0_7)), .val (.int (own_at [w0_1, w0_2, w0_3] (w0_4 / (2:Int32)))), .val (.int (own_at [w0_1, w0_2, w0_3] w0_7)), .val (.int (own_at [w0_1, w0_2, w0_3] w0_8)), .val (.int (0:Int32)), .val (.int w0_9), .val (.int (9:Int32)), .val (.int (w0_9 + (1:Int32))), .val (.int (1:Int32)), .unset, .unset, .unset, .unset, .unset, .unset, .unset] [(.int (0:Int32)), (.int (9:Int32)), (.int (f5 w0_9 (0:Int32)))] (fun t k => ?_) ?_
  ·refine XS.iload X1541.here hx rfl (D at_335) rfl ?_
   exact XS.iload X1541.here hx rfl (D at_337) rfl k
  refine own_callSG X1541 hx hZ (y := own_y5) hown (own_h hw 35 rfl) (own_h hw 36 rfl) (own_h hw 37 rfl) (own_h hw 38 rfl) (by decide) (W := 1) (rm5 l Z aZ hw [] (9:Int32) (0:Int32) T1456.heap n0 Z1522 ) (by decide) (by decide) rfl (by rw [hml]; rfl) (argsL := [(.int (9:Int32)), (.int (0:Int32))]) (rest := [(.int (f5 w0_9 (0:Int32)))]) (lenOf own_pd2 rfl) rfl (by show 2 * 0 + _ ≤ _; exact Nat.le_of_eq rfl) (D at_339) rfl eh1541 (by decide) (by decide) (fun v T1542 L1542 X1542 hQ1542 => ?_)
  obtain ⟨rfl, N1542q, eh1542⟩ := hQ1542
  have N1542 := Fr.app N1541 N1542q
  refine own_pA T1542 m 349 #[.val (.int p0), .val (.int p1), .val (.int p2), .val (.int p3), .val (.int p4), .val (.int p5), .val (.ref b1377), .val (.int (2:Int32)), .val (.int w0_4), .val (.int (w0_4 / (2:Int32))), .val (.int w0_5), .val (.int w0_6), .val (.int w0_7), .val (.int w0_8), .val (.ref b1388), .val (.int (own_v1531 w0_1 w0_2 w0_3 w0_4 w0_7)), .val (.int (own_at [w0_1, w0_2, w0_3] (w0_4 / (2:Int32)))), .val (.int (own_at [w0_1, w0_2, w0_3] w0_7)), .val (.int (own_at [w0_1, w0_2, w0_3] w0_8)), .val (.int (0:Int32)), .val (.int w0_9), .val (.int (9:Int32)), .val (.int (w0_9 + (1:Int32))), .val (.int (1:Int32)), .val (.int ((f5 w0_9 (0:Int32)) + (f5 (9:Int32) (0:Int32)))), .unset, .unset, .unset, .unset, .unset, .unset] [(.int w0_9), (.int (0:Int32))] (fun t k => ?_) ?_
  ·refine XS.iadd X1542.here hx rfl (D at_342) rfl ?_
   refine XS.istore X1542.here hx rfl (D at_343) rfl (l' := #[.val (.int p0), .val (.int p1), .val (.int p2), .val (.int p3), .val (.int p4), .val (.int p5), .val (.ref b1377), .val (.int (2:Int32)), .val (.int w0_4), .val (.int (w0_4 / (2:Int32))), .val (.int w0_5), .val (.int w0_6), .val (.int w0_7), .val (.int w0_8), .val (.ref b1388), .val (.int (own_v1531 w0_1 w0_2 w0_3 w0_4 w0_7)), .val (.int (own_at [w0_1, w0_2, w0_3] (w0_4 / (2:Int32)))), .val (.int (own_at [w0_1, w0_2, w0_3] w0_7)), .val (.int (own_at [w0_1, w0_2, w0_3] w0_8)), .val (.int (0:Int32)), .val (.int w0_9), .val (.int (9:Int32)), .val (.int (w0_9 + (1:Int32))), .val (.int (1:Int32)), .val (.int ((f5 w0_9 (0:Int32)) + (f5 (9:Int32) (0:Int32)))), .unset, .unset, .unset, .unset, .unset, .unset]) rfl ?_
   refine XS.iload X1542.here hx rfl (D at_345) rfl ?_
   exact XS.iload X1542.here hx rfl (D at_347) rfl k
  refine own_callSG X1542 hx hZ (y := own_y5) hown (own_h hw 35 rfl) (own_h hw 36 rfl) (own_h hw 37 rfl) (own_h hw 38 rfl) (by decide) (W := 0) (rm5 l Z aZ hw [] (0:Int32) w0_9 T1456.heap n0 Z1522 ) (by decide) (by decide) rfl (by rw [hml]; rfl) (argsL := [(.int (0:Int32)), (.int w0_9)]) (rest := []) (lenOf own_pd2 rfl) rfl (by show 2 * 0 + _ ≤ _; exact Nat.le_of_eq rfl) (D at_349) rfl eh1542 (by decide) (by decide) (fun v T1543 L1543 X1543 hQ1543 => ?_)
  obtain ⟨rfl, N1543q, eh1543⟩ := hQ1543
  have N1543 := Fr.app N1542 N1543q
  refine own_pA T1543 m 356 #[.val (.int p0), .val (.int p1), .val (.int p2), .val (.int p3), .val (.int p4), .val (.int p5), .val (.ref b1377), .val (.int (2:Int32)), .val (.int w0_4), .val (.int (w0_4 / (2:Int32))), .val (.int w0_5), .val (.int w0_6), .val (.int w0_7), .val (.int w0_8), .val (.ref b1388), .val (.int (own_v1531 w0_1 w0_2 w0_3 w0_4 w0_7)), .val (.int (own_at [w0_1, w0_2, w0_3] (w0_4 / (2:Int32)))), .val (.int (own_at [w0_1, w0_2, w0_3] w0_7)), .val (.int (own_at [w0_1, w0_2, w0_3] w0_8)), .val (.int (0:Int32)), .val (.int w0_9), .val (.int (9:Int32)), .val (.int (w0_9 + (1:Int32))), .val (.int (1:Int32)), .val (.int ((f5 w0_9 (0:Int32)) + (f5 (9:Int32) (0:Int32)))), .unset, .unset, .unset, .unset, .unset, .unset] [(.int w0_9), (.int (9:Int32)), (.int (f5 (0:Int32) w0_9))] (fun t k => ?_) ?_
  ·refine XS.iload X1543.here hx rfl (D at_352) rfl ?_
   exact XS.iload X1543.here hx rfl (D at_354) rfl k
  refine own_callSG X1543 hx hZ (y := own_y5) hown (own_h hw 35 rfl) (own_h hw 36 rfl) (own_h hw 37 rfl) (own_h hw 38 rfl) (by decide) (W := 1) (rm5 l Z aZ hw [] (9:Int32) w0_9 T1456.heap n0 Z1522 ) (by decide) (by decide) rfl (by rw [hml]; rfl) (argsL := [(.int (9:Int32)), (.int w0_9)]) (rest := [(.int (f5 (0:Int32) w0_9))]) (lenOf own_pd2 rfl) rfl (by show 2 * 0 + _ ≤ _; exact Nat.le_of_eq rfl) (D at_356) rfl eh1543 (by decide) (by decide) (fun v T1544 L1544 X1544 hQ1544 => ?_)
  obtain ⟨rfl, N1544q, eh1544⟩ := hQ1544
  have N1544 := Fr.app N1543 N1544q
  refine own_pA T1544 m 364 #[.val (.int p0), .val (.int p1), .val (.int p2), .val (.int p3), .val (.int p4), .val (.int p5), .val (.ref b1377), .val (.int (2:Int32)), .val (.int w0_4), .val (.int (w0_4 / (2:Int32))), .val (.int w0_5), .val (.int w0_6), .val (.int w0_7), .val (.int w0_8), .val (.ref b1388), .val (.int (own_v1531 w0_1 w0_2 w0_3 w0_4 w0_7)), .val (.int (own_at [w0_1, w0_2, w0_3] (w0_4 / (2:Int32)))), .val (.int (own_at [w0_1, w0_2, w0_3] w0_7)), .val (.int (own_at [w0_1, w0_2, w0_3] w0_8)), .val (.int (0:Int32)), .val (.int w0_9), .val (.int (9:Int32)), .val (.int (w0_9 + (1:Int32))), .val (.int (1:Int32)), .val (.int ((f5 w0_9 (0:Int32)) + (f5 (9:Int32) (0:Int32)))), .unset, .unset, .unset, .unset, .unset, .unset] [(.int w0_9), (.int (0:Int32)), (.int ((f5 (0:Int32) w0_9) + (f5 (9:Int32) w0_9)))] (fun t k => ?_) ?_
  ·refine XS.iadd X1544.here hx rfl (D at_359) rfl ?_
   refine XS.iload X1544.here hx rfl (D at_360) rfl ?_
   exact XS.iload X1544.here hx rfl (D at_362) rfl k
  refine own_callSG X1544 hx hZ (y := own_y6) hown (own_h hw 39 rfl) (own_h hw 40 rfl) (own_h hw 37 rfl) (own_h hw 41 rfl) (by decide) (W := 1) (rm6 l Z aZ hw [] (0:Int32) w0_9 T1456.heap n0 Z1522 ) (by decide) (by decide) rfl (by rw [hml]; rfl) (argsL := [(.int (0:Int32)), (.int w0_9)]) (rest := [(.int ((f5 (0:Int32) w0_9) + (f5 (9:Int32) w0_9)))]) (lenOf own_pd2 rfl) rfl (by show 2 * 0 + _ ≤ _; exact Nat.le_of_eq rfl) (D at_364) rfl eh1544 (by decide) (by decide) (fun v T1545 L1545 X1545 hQ1545 => ?_)
  obtain ⟨rfl, N1545q, eh1545⟩ := hQ1545
  have N1545 := Fr.app N1544 N1545q
  refine own_pA T1545 m 374 #[.val (.int p0), .val (.int p1), .val (.int p2), .val (.int p3), .val (.int p4), .val (.int p5), .val (.ref b1377), .val (.int (2:Int32)), .val (.int w0_4), .val (.int (w0_4 / (2:Int32))), .val (.int w0_5), .val (.int w0_6), .val (.int w0_7), .val (.int w0_8), .val (.ref b1388), .val (.int (own_v1531 w0_1 w0_2 w0_3 w0_4 w0_7)), .val (.int (own_at [w0_1, w0_2, w0_3] (w0_4 / (2:Int32)))), .val (.int (own_at [w0_1, w0_2, w0_3] w0_7)), .val (.int (own_at [w0_1, w0_2, w0_3] w0_8)), .val (.int (0:Int32)), .val (.int w0_9), .val (.int (9:Int32)), .val (.int (w0_9 + (1:Int32))), .val (.int (1:Int32)), .val (.int ((f5 w0_9 (0:Int32)) + (f5 (9:Int32) (0:Int32)))), .val (.int (((f5 (0:Int32) w0_9) + (f5 (9:Int32) w0_9)) + (f6 (0:Int32) w0_9))), .unset, .unset, .unset, .unset, .unset] [(.int (9:Int32)), (.int (0:Int32))] (fun t k => ?_) ?_
  ·refine XS.iadd X1545.here hx rfl (D at_367) rfl ?_
   refine XS.istore X1545.here hx rfl (D at_368) rfl (l' := #[.val (.int p0), .val (.int p1), .val (.int p2), .val (.int p3), .val (.int p4), .val (.int p5), .val (.ref b1377), .val (.int (2:Int32)), .val (.int w0_4), .val (.int (w0_4 / (2:Int32))), .val (.int w0_5), .val (.int w0_6), .val (.int w0_7), .val (.int w0_8), .val (.ref b1388), .val (.int (own_v1531 w0_1 w0_2 w0_3 w0_4 w0_7)), .val (.int (own_at [w0_1, w0_2, w0_3] (w0_4 / (2:Int32)))), .val (.int (own_at [w0_1, w0_2, w0_3] w0_7)), .val (.int (own_at [w0_1, w0_2, w0_3] w0_8)), .val (.int (0:Int32)), .val (.int w0_9), .val (.int (9:Int32)), .val (.int (w0_9 + (1:Int32))), .val (.int (1:Int32)), .val (.int ((f5 w0_9 (0:Int32)) + (f5 (9:Int32) (0:Int32)))), .val (.int (((f5 (0:Int32) w0_9) + (f5 (9:Int32) w0_9)) + (f6 (0:Int32) w0_9))), .unset, .unset, .unset, .unset, .unset]) rfl ?_
   refine XS.iload X1545.here hx rfl (D at_370) rfl ?_
   exact XS.iload X1545.here hx rfl (D at_372) rfl k
  refine own_callSG X1545 hx hZ (y := own_y5) hown (own_h hw 35 rfl) (own_h hw 36 rfl) (own_h hw 37 rfl) (own_h hw 38 rfl) (by decide) (W := 0) (rm5 l Z aZ hw [] (0:Int32) (9:Int32) T1456.heap n0 Z1522 ) (by decide) (by decide) rfl (by rw [hml]; rfl) (argsL := [(.int (0:Int32)), (.int (9:Int32))]) (rest := []) (lenOf own_pd2 rfl) rfl (by show 2 * 0 + _ ≤ _; exact Nat.le_of_eq rfl) (D at_374) rfl eh1545 (by decide) (by decide) (fun v T1546 L1546 X1546 hQ1546 => ?_)
  obtain ⟨rfl, N1546q, eh1546⟩ := hQ1546
  have N1546 := Fr.app N1545 N1546q
  refine own_pA T1546 m 381 #[.val (.int p0), .val (.int p1), .val (.int p2), .val (.int p3), .val (.int p4), .val (.int p5), .val (.ref b1377), .val (.int (2:Int32)), .val (.int w0_4), .val (.int (w0_4 / (2:Int32))), .val (.int w0_5), .val (.int w0_6), .val (.int w0_7), .val (.int w0_8), .val (.ref b1388), .val (.int (own_v1531 w0_1 w0_2 w0_3 w0_4 w0_7)), .val (.int (own_at [w0_1, w0_2, w0_3] (w0_4 / (2:Int32)))), .val (.int (own_at [w0_1, w0_2, w0_3] w0_7)), .val (.int (own_at [w0_1, w0_2, w0_3] w0_8)), .val (.int (0:Int32)), .val (.int w0_9), .val (.int (9:Int32)), .val (.int (w0_9 + (1:Int32))), .val (.int (1:Int32)), .val (.int ((f5 w0_9 (0:Int32)) + (f5 (9:Int32) (0:Int32)))), .val (.int (((f5 (0:Int32) w0_9) + (f5 (9:Int32) w0_9)) + (f6 (0:Int32) w0_9))), .unset, .unset, .unset, .unset, .unset] [(.int (9:Int32)), (.int w0_9), (.int (f5 (0:Int32) (9:Int32)))] (fun t k => ?_) ?_
  ·refine XS.iload X1546.here hx rfl (D at_377) rfl ?_
   exact XS.iload X1546.here hx rfl (D at_379) rfl k
  refine own_callSG X1546 hx hZ (y := own_y5) hown (own_h hw 35 rfl) (own_h hw 36 rfl) (own_h hw 37 rfl) (own_h hw 38 rfl) (by decide) (W := 1) (rm5 l Z aZ hw [] w0_9 (9:Int32) T1456.heap n0 Z1522 ) (by decide) (by decide) rfl (by rw [hml]; rfl) (argsL := [(.int w0_9), (.int (9:Int32))]) (rest := [(.int (f5 (0:Int32) (9:Int32)))]) (lenOf own_pd2 rfl) rfl (by show 2 * 0 + _ ≤ _; exact Nat.le_of_eq rfl) (D at_381) rfl eh1546 (by decide) (by decide) (fun v T1547 L1547 X1547 hQ1547 => ?_)
  obtain ⟨rfl, N1547q, eh1547⟩ := hQ1547
  have N1547 := Fr.app N1546 N1547q
  refine own_pA T1547 m 389 #[.val (.int p0), .val (.int p1), .val (.int p2), .val (.int p3), .val (.int p4), .val (.int p5), .val (.ref b1377), .val (.int (2:Int32)), .val (.int w0_4), .val (.int (w0_4 / (2:Int32))), .val (.int w0_5), .val (.int w0_6), .val (.int w0_7), .val (.int w0_8), .val (.ref b1388), .val (.int (own_v1531 w0_1 w0_2 w0_3 w0_4 w0_7)), .val (.int (own_at [w0_1, w0_2, w0_3] (w0_4 / (2:Int32)))), .val (.int (own_at [w0_1, w0_2, w0_3] w0_7)), .val (.int (own_at [w0_1, w0_2, w0_3] w0_8)), .val (.int (0:Int32)), .val (.int w0_9), .val (.int (9:Int32)), .val (.int (w0_9 + (1:Int32))), .val (.int (1:Int32)), .val (.int ((f5 w0_9 (0:Int32)) + (f5 (9:Int32) (0:Int32)))), .val (.int (((f5 (0:Int32) w0_9) + (f5 (9:Int32) w0_9)) + (f6 (0:Int32) w0_9))), .unset, .unset, .unset, .unset, .unset] [(.int (9:Int32)), (.int (0:Int32)), (.int ((f5 (0:Int32) (9:Int32)) + (f5 w0_9 (9:Int32))))] (fun t k => ?_) ?_
  ·refine XS.iadd X1547.here hx rfl (D at_384) rfl ?_
   refine XS.iload X1547.here hx rfl (D at_385) rfl ?_
   exact XS.iload X1547.here hx rfl (D at_387) rfl k
  refine own_callSG X1547 hx hZ (y := own_y6) hown (own_h hw 39 rfl) (own_h hw 40 rfl) (own_h hw 37 rfl) (own_h hw 41 rfl) (by decide) (W := 1) (rm6 l Z aZ hw [] (0:Int32) (9:Int32) T1456.heap n0 Z1522 ) (by decide) (by decide) rfl (by rw [hml]; rfl) (argsL := [(.int (0:Int32)), (.int (9:Int32))]) (rest := [(.int ((f5 (0:Int32) (9:Int32)) + (f5 w0_9 (9:Int32))))]) (lenOf own_pd2 rfl) rfl (by show 2 * 0 + _ ≤ _; exact Nat.le_of_eq rfl) (D at_389) rfl eh1547 (by decide) (by decide) (fun v T1548 L1548 X1548 hQ1548 => ?_)
  obtain ⟨rfl, N1548q, eh1548⟩ := hQ1548
  have N1548 := Fr.app N1547 N1548q
  refine own_pA T1548 m 397 #[.val (.int p0), .val (.int p1), .val (.int p2), .val (.int p3), .val (.int p4), .val (.int p5), .val (.ref b1377), .val (.int (2:Int32)), .val (.int w0_4), .val (.int (w0_4 / (2:Int32))), .val (.int w0_5), .val (.int w0_6), .val (.int w0_7), .val (.int w0_8), .val (.ref b1388), .val (.int (own_v1531 w0_1 w0_2 w0_3 w0_4 w0_7)), .val (.int (own_at [w0_1, w0_2, w0_3] (w0_4 / (2:Int32)))), .val (.int (own_at [w0_1, w0_2, w0_3] w0_7)), .val (.int (own_at [w0_1, w0_2, w0_3] w0_8)), .val (.int (0:Int32)), .val (.int w0_9), .val (.int (9:Int32)), .val (.int (w0_9 + (1:Int32))), .val (.int (1:Int32)), .val (.int ((f5 w0_9 (0:Int32)) + (f5 (9:Int32) (0:Int32)))), .val (.int (((f5 (0:Int32) w0_9) + (f5 (9:Int32) w0_9)) + (f6 (0:Int32) w0_9))), .unset, .unset, .unset, .unset, .unset] [(.int (9:Int32)), (.int w0_9), (.int (((f5 (0:Int32) (9:Int32)) + (f5 w0_9 (9:Int32))) + (f6 (0:Int32) (9:Int32))))] (fun t k => ?_) ?_
  ·refine XS.iadd X1548.here hx rfl (D at_392) rfl ?_
   refine XS.iload X1548.here hx rfl (D at_393) rfl ?_
   exact XS.iload X1548.here hx rfl (D at_395) rfl k
  refine own_callSG X1548 hx hZ (y := own_y6) hown (own_h hw 39 rfl) (own_h hw 40 rfl) (own_h hw 37 rfl) (own_h hw 41 rfl) (by decide) (W := 1) (rm6 l Z aZ hw [] w0_9 (9:Int32) T1456.heap n0 Z1522 ) (by decide) (by decide) rfl (by rw [hml]; rfl) (argsL := [(.int w0_9), (.int (9:Int32))]) (rest := [(.int (((f5 (0:Int32) (9:Int32)) + (f5 w0_9 (9:Int32))) + (f6 (0:Int32) (9:Int32))))]) (lenOf own_pd2 rfl) rfl (by show 2 * 0 + _ ≤ _; exact Nat.le_of_eq rfl) (D at_397) rfl eh1548 (by decide) (by decide) (fun v T1549 L1549 X1549 hQ1549 => ?_)
  obtain ⟨rfl, N1549q, eh1549⟩ := hQ1549
  have N1549 := Fr.app N1548 N1549q
  refine own_pA T1549 m 418 #[.val (.int p0), .val (.int p1), .val (.int p2), .val (.int p3), .val (.int p4), .val (.int p5), .val (.ref b1377), .val (.int (2:Int32)), .val (.int w0_4), .val (.int (w0_4 / (2:Int32))), .val (.int w0_5), .val (.int w0_6), .val (.int w0_7), .val (.int w0_8), .val (.ref b1388), .val (.int (own_v1531 w0_1 w0_2 w0_3 w0_4 w0_7)), .val (.int (own_at [w0_1, w0_2, w0_3] (w0_4 / (2:Int32)))), .val (.int (own_at [w0_1, w0_2, w0_3] w0_7)), .val (.int (own_at [w0_1, w0_2, w0_3] w0_8)), .val (.int (0:Int32)), .val (.int w0_9), .val (.int (9:Int32)), .val (.int (w0_9 + (1:Int32))), .val (.int (1:Int32)), .val (.int ((f5 w0_9 (0:Int32)) + (f5 (9:Int32) (0:Int32)))), .val (.int (((f5 (0:Int32) w0_9) + (f5 (9:Int32) w0_9)) + (f6 (0:Int32) w0_9))), .val (.int ((((f5 (0:Int32) (9:Int32)) + (f5 w0_9 (9:Int32))) + (f6 (0:Int32) (9:Int32))) + (f6 w0_9 (9:Int32)))), .unset, .unset, .unset, .unset] [(.int ((f5 w0_9 (0:Int32)) + (f5 (9:Int32) (0:Int32)))), (.ref b1388)] (fun t k => ?_) ?_
  ·refine XS.iadd X1549.here hx rfl (D at_400) rfl ?_
   refine XS.istore X1549.here hx rfl (D at_401) rfl (l' := #[.val (.int p0), .val (.int p1), .val (.int p2), .val (.int p3), .val (.int p4), .val (.int p5), .val (.ref b1377), .val (.int (2:Int32)), .val (.int w0_4), .val (.int (w0_4 / (2:Int32))), .val (.int w0_5), .val (.int w0_6), .val (.int w0_7), .val (.int w0_8), .val (.ref b1388), .val (.int (own_v1531 w0_1 w0_2 w0_3 w0_4 w0_7)), .val (.int (own_at [w0_1, w0_2, w0_3] (w0_4 / (2:Int32)))), .val (.int (own_at [w0_1, w0_2, w0_3] w0_7)), .val (.int (own_at [w0_1, w0_2, w0_3] w0_8)), .val (.int (0:Int32)), .val (.int w0_9), .val (.int (9:Int32)), .val (.int (w0_9 + (1:Int32))), .val (.int (1:Int32)), .val (.int ((f5 w0_9 (0:Int32)) + (f5 (9:Int32) (0:Int32)))), .val (.int (((f5 (0:Int32) w0_9) + (f5 (9:Int32) w0_9)) + (f6 (0:Int32) w0_9))), .val (.int ((((f5 (0:Int32) (9:Int32)) + (f5 w0_9 (9:Int32))) + (f6 (0:Int32) (9:Int32))) + (f6 w0_9 (9:Int32)))), .unset, .unset, .unset, .unset]) rfl ?_
   refine XS.iload X1549.here hx rfl (D at_403) rfl ?_
   refine XS.ifNo X1549.here hx rfl (D at_405) rfl (XT.i0_eq_f (by decide)) ?_
   refine XS.iload X1549.here hx rfl (D at_408) rfl ?_
   refine XS.iconst X1549.here hx rfl (D at_410) ?_
   refine XS.icmpNo X1549.here hx rfl (D at_411) rfl (XT.ii_lt_f (by decide)) ?_
   refine XS.aload X1549.here hx rfl (D at_414) rfl rfl ?_
   exact XS.iload X1549.here hx rfl (D at_416) rfl k
  have hf1552 : own_In ((f5 w0_9 (0:Int32)) + (f5 (9:Int32) (0:Int32))) (own_v1525 w0_1 w0_2 w0_3 w0_4 w0_7).length := by subst hw0_5 hw0_6 hw0_7 hw0_8 hw0_9; exact own_fin1551 w0_1 (own_m3 _ _ hw0_1) w0_2 (own_m3 _ _ hw0_2) w0_3 (own_m3 _ _ hw0_3) w0_4 (own_m6 _ _ hw0_4)
  have F1553 := (F1457.keep K1456)
  refine own_virtG X1549 hx hZ (y := own_y7) hown (own_h hw 42 rfl) (own_h hw 43 rfl) (own_h hw 45 rfl) (own_h hw 44 rfl) (own_h hw 46 rfl) (own_h hw 4 rfl) (by decide) (W := 0) (rm7 l Z aZ hw [] b1388 ((f5 w0_9 (0:Int32)) + (f5 (9:Int32) (0:Int32))) gr_1393 (own_v1525 w0_1 w0_2 w0_3 w0_4 w0_7) T1456.heap n0 Z1522 G1514 G1526 hf1552) (by decide) (by decide) eh1549 F1553 rfl (by rw [hml]; rfl) (argsL := [(.int ((f5 w0_9 (0:Int32)) + (f5 (9:Int32) (0:Int32))))]) (rest := []) (lenOf own_pd4 rfl) rfl (by show 2 * 0 + _ ≤ _; exact Nat.le_of_eq rfl) (D at_418) rfl (by decide) (by decide) (fun v T1550 L1550 X1550 hQ1550 => ?_)
  obtain ⟨rfl, N1550q, eh1550⟩ := hQ1550
  have N1550 := Fr.app N1549 N1550q
  have hd423_7 : (own_v1554 w0_9 w0_1 w0_2 w0_3 w0_4 w0_7) = (w0_4 / (2:Int32)) := (by subst hw0_5 hw0_6 hw0_7 hw0_8 hw0_9; exact own_fin1555 w0_1 (own_m3 _ _ hw0_1) w0_2 (own_m3 _ _ hw0_2) w0_3 (own_m3 _ _ hw0_3) w0_4 (own_m6 _ _ hw0_4))
  refine own_pA T1550 m 448 #[.val (.int p0), .val (.int p1), .val (.int p2), .val (.int p3), .val (.int p4), .val (.int p5), .val (.ref b1377), .val (.int (2:Int32)), .val (.int w0_4), .val (.int (w0_4 / (2:Int32))), .val (.int w0_5), .val (.int w0_6), .val (.int w0_7), .val (.int w0_8), .val (.ref b1388), .val (.int (own_v1531 w0_1 w0_2 w0_3 w0_4 w0_7)), .val (.int (own_at [w0_1, w0_2, w0_3] (w0_4 / (2:Int32)))), .val (.int (own_at [w0_1, w0_2, w0_3] w0_7)), .val (.int (own_at [w0_1, w0_2, w0_3] w0_8)), .val (.int (0:Int32)), .val (.int w0_9), .val (.int (9:Int32)), .val (.int (w0_9 + (1:Int32))), .val (.int (1:Int32)), .val (.int ((f5 w0_9 (0:Int32)) + (f5 (9:Int32) (0:Int32)))), .val (.int (((f5 (0:Int32) w0_9) + (f5 (9:Int32) w0_9)) + (f6 (0:Int32) w0_9))), .val (.int ((((f5 (0:Int32) (9:Int32)) + (f5 w0_9 (9:Int32))) + (f6 (0:Int32) (9:Int32))) + (f6 w0_9 (9:Int32)))), .unset, .unset, .unset, .unset] [(.int (((f5 (0:Int32) w0_9) + (f5 (9:Int32) w0_9)) + (f6 (0:Int32) w0_9))), (.ref b1388)] (fun t k => ?_) ?_
  ·refine XS.iload X1550.here hx rfl (D at_421) rfl ?_
   refine XS.icmpNo X1550.here hx rfl (D at_423) rfl (XT.ii_ne_f hd423_7) ?_
   refine XS.iconst X1550.here hx rfl (D at_426) ?_
   refine XS.goto X1550.here hx rfl (pc0 := 427) (pc' := 431) rfl (D at_427) (by decide) (by decide) ?_
   refine XS.istore X1550.here hx rfl (D at_431) rfl (l' := #[.val (.int p0), .val (.int p1), .val (.int p2), .val (.int p3), .val (.int p4), .val (.int p5), .val (.ref b1377), .val (.int (2:Int32)), .val (.int w0_4), .val (.int (w0_4 / (2:Int32))), .val (.int w0_5), .val (.int w0_6), .val (.int w0_7), .val (.int w0_8), .val (.ref b1388), .val (.int (own_v1531 w0_1 w0_2 w0_3 w0_4 w0_7)), .val (.int (own_at [w0_1, w0_2, w0_3] (w0_4 / (2:Int32)))), .val (.int (own_at [w0_1, w0_2, w0_3] w0_7)), .val (.int (own_at [w0_1, w0_2, w0_3] w0_8)), .val (.int (0:Int32)), .val (.int w0_9), .val (.int (9:Int32)), .val (.int (w0_9 + (1:Int32))), .val (.int (1:Int32)), .val (.int ((f5 w0_9 (0:Int32)) + (f5 (9:Int32) (0:Int32)))), .val (.int (((f5 (0:Int32) w0_9) + (f5 (9:Int32) w0_9)) + (f6 (0:Int32) w0_9))), .val (.int ((((f5 (0:Int32) (9:Int32)) + (f5 w0_9 (9:Int32))) + (f6 (0:Int32) (9:Int32))) + (f6 w0_9 (9:Int32)))), .unset, .unset, .unset, .unset]) rfl ?_
   refine XS.iload X1550.here hx rfl (D at_433) rfl ?_
   refine XS.ifNo X1550.here hx rfl (D at_435) rfl (XT.i0_eq_f (by decide)) ?_
   refine XS.iload X1550.here hx rfl (D at_438) rfl ?_
   refine XS.iconst X1550.here hx rfl (D at_440) ?_
   refine XS.icmpNo X1550.here hx rfl (D at_441) rfl (XT.ii_lt_f (by decide)) ?_
   refine XS.aload X1550.here hx rfl (D at_444) rfl rfl ?_
   exact XS.iload X1550.here hx rfl (D at_446) rfl k
  have hf1558 : own_In (((f5 (0:Int32) w0_9) + (f5 (9:Int32) w0_9)) + (f6 (0:Int32) w0_9)) (own_v1525 w0_1 w0_2 w0_3 w0_4 w0_7).length := by subst hw0_5 hw0_6 hw0_7 hw0_8 hw0_9; exact own_fin1557 w0_1 (own_m3 _ _ hw0_1) w0_2 (own_m3 _ _ hw0_2) w0_3 (own_m3 _ _ hw0_3) w0_4 (own_m6 _ _ hw0_4)
  refine own_virtG X1550 hx hZ (y := own_y7) hown (own_h hw 42 rfl) (own_h hw 43 rfl) (own_h hw 45 rfl) (own_h hw 44 rfl) (own_h hw 46 rfl) (own_h hw 4 rfl) (by decide) (W := 0) (rm7 l Z aZ hw [] b1388 (((f5 (0:Int32) w0_9) + (f5 (9:Int32) w0_9)) + (f6 (0:Int32) w0_9)) gr_1393 (own_v1525 w0_1 w0_2 w0_3 w0_4 w0_7) T1456.heap n0 Z1522 G1514 G1526 hf1558) (by decide) (by decide) eh1550 F1553 rfl (by rw [hml]; rfl) (argsL := [(.int (((f5 (0:Int32) w0_9) + (f5 (9:Int32) w0_9)) + (f6 (0:Int32) w0_9)))]) (rest := []) (lenOf own_pd4 rfl) rfl (by show 2 * 0 + _ ≤ _; exact Nat.le_of_eq rfl) (D at_448) rfl (by decide) (by decide) (fun v T1556 L1556 X1556 hQ1556 => ?_)
  obtain ⟨rfl, N1556q, eh1556⟩ := hQ1556
  have N1556 := Fr.app N1550 N1556q
  have hd453_8 : (own_v1559 w0_9 w0_1 w0_2 w0_3 w0_4 w0_7) = w0_7 := (by subst hw0_5 hw0_6 hw0_7 hw0_8 hw0_9; exact own_fin1560 w0_1 (own_m3 _ _ hw0_1) w0_2 (own_m3 _ _ hw0_2) w0_3 (own_m3 _ _ hw0_3) w0_4 (own_m6 _ _ hw0_4))
  have hd500_9 : (0:Int32) < (w0_9 + (1:Int32)) := (by subst hw0_5 hw0_6 hw0_7 hw0_8 hw0_9; exact own_fin1561 w0_1 (own_m3 _ _ hw0_1) w0_2 (own_m3 _ _ hw0_2) w0_3 (own_m3 _ _ hw0_3) w0_4 (own_m6 _ _ hw0_4))
  obtain ⟨w0_10, hw0_10⟩ : ∃ z : Int32, z = ((p5 &&& (2147483647:Int32)) % (w0_9 + (1:Int32))) := ⟨_, rfl⟩
  have hkm : w0_10 ∈ own_L3 ∧ w0_10 < (w0_9 + (1:Int32)) := own_mk (by subst hw0_5 hw0_6 hw0_7 hw0_8 hw0_9; exact own_fin1563 w0_1 (own_m3 _ _ hw0_1) w0_2 (own_m3 _ _ hw0_2) w0_3 (own_m3 _ _ hw0_3) w0_4 (own_m6 _ _ hw0_4)) hw0_10
  refine own_pA T1556 m 515 #[.val (.int p0), .val (.int p1), .val (.int p2), .val (.int p3), .val (.int p4), .val (.int p5), .val (.ref b1377), .val (.int (2:Int32)), .val (.int w0_4), .val (.int (w0_4 / (2:Int32))), .val (.int w0_5), .val (.int w0_6), .val (.int w0_7), .val (.int w0_8), .val (.ref b1388), .val (.int (own_v1531 w0_1 w0_2 w0_3 w0_4 w0_7)), .val (.int (own_at [w0_1, w0_2, w0_3] (w0_4 / (2:Int32)))), .val (.int (own_at [w0_1, w0_2, w0_3] w0_7)), .val (.int (own_at [w0_1, w0_2, w0_3] w0_8)), .val (.int (0:Int32)), .val (.int w0_9), .val (.int (9:Int32)), .val (.int (w0_9 + (1:Int32))), .val (.int (1:Int32)), .val (.int ((f5 w0_9 (0:Int32)) + (f5 (9:Int32) (0:Int32)))), .val (.int (((f5 (0:Int32) w0_9) + (f5 (9:Int32) w0_9)) + (f6 (0:Int32) w0_9))), .val (.int ((((f5 (0:Int32) (9:Int32)) + (f5 w0_9 (9:Int32))) + (f6 (0:Int32) (9:Int32))) + (f6 w0_9 (9:Int32)))), .val (.int w0_10), .unset, .unset, .unset] [(.int w0_10)] (fun t k => ?_) ?_
  ·refine XS.iload X1556.here hx rfl (D at_451) rfl ?_
   refine XS.icmpNo X1556.here hx rfl (D at_453) rfl (XT.ii_ne_f hd453_8) ?_
   refine XS.iconst X1556.here hx rfl (D at_456) ?_
   refine XS.goto X1556.here hx rfl (pc0 := 457) (pc' := 461) rfl (D at_457) (by decide) (by decide) ?_
   refine XS.istore X1556.here hx rfl (D at_461) rfl (l' := #[.val (.int p0), .val (.int p1), .val (.int p2), .val (.int p3), .val (.int p4), .val (.int p5), .val (.ref b1377), .val (.int (2:Int32)), .val (.int w0_4), .val (.int (w0_4 / (2:Int32))), .val (.int w0_5), .val (.int w0_6), .val (.int w0_7), .val (.int w0_8), .val (.ref b1388), .val (.int (own_v1531 w0_1 w0_2 w0_3 w0_4 w0_7)), .val (.int (own_at [w0_1, w0_2, w0_3] (w0_4 / (2:Int32)))), .val (.int (own_at [w0_1, w0_2, w0_3] w0_7)), .val (.int (own_at [w0_1, w0_2, w0_3] w0_8)), .val (.int (0:Int32)), .val (.int w0_9), .val (.int (9:Int32)), .val (.int (w0_9 + (1:Int32))), .val (.int (1:Int32)), .val (.int ((f5 w0_9 (0:Int32)) + (f5 (9:Int32) (0:Int32)))), .val (.int (((f5 (0:Int32) w0_9) + (f5 (9:Int32) w0_9)) + (f6 (0:Int32) w0_9))), .val (.int ((((f5 (0:Int32) (9:Int32)) + (f5 w0_9 (9:Int32))) + (f6 (0:Int32) (9:Int32))) + (f6 w0_9 (9:Int32)))), .unset, .unset, .unset, .unset]) rfl ?_
   refine XS.iload X1556.here hx rfl (D at_463) rfl ?_
   refine XS.ifNo X1556.here hx rfl (D at_465) rfl (XT.i0_eq_f (by decide)) ?_
   refine XS.iload X1556.here hx rfl (D at_468) rfl ?_
   refine XS.iconst X1556.here hx rfl (D at_470) ?_
   refine XS.icmpYes X1556.here hx rfl (pc0 := 471) (pc' := 493) rfl (D at_471) rfl (XT.ii_lt_t (by decide)) (by decide) (by decide) ?_
   refine XS.iload X1556.here hx rfl (D at_493) rfl ?_
   refine XS.ifNo X1556.here hx rfl (D at_495) rfl (XT.i0_eq_f (by decide)) ?_
   refine XS.iload X1556.here hx rfl (D at_498) rfl ?_
   refine XS.ifNo X1556.here hx rfl (D at_500) rfl (XT.i0_le_f hd500_9) ?_
   refine XS.iload X1556.here hx rfl (D at_503) rfl ?_
   refine Jvm.Stand.ldcI X1556 hx hown (mvT hZ (own_h hw 1 rfl)) rfl (D at_505) ?_
   refine XS.iand X1556.here hx rfl (D at_507) rfl ?_
   refine XS.iload X1556.here hx rfl (D at_508) rfl ?_
   refine iremM X1556 hx rfl (D at_510) rfl (by subst hw0_5 hw0_6 hw0_7 hw0_8 hw0_9; exact own_fin1562 w0_1 (own_m3 _ _ hw0_1) w0_2 (own_m3 _ _ hw0_2) w0_3 (own_m3 _ _ hw0_3) w0_4 (own_m6 _ _ hw0_4)) ?_
   refine XS.istore X1556.here hx rfl (D at_511) rfl (l' := #[.val (.int p0), .val (.int p1), .val (.int p2), .val (.int p3), .val (.int p4), .val (.int p5), .val (.ref b1377), .val (.int (2:Int32)), .val (.int w0_4), .val (.int (w0_4 / (2:Int32))), .val (.int w0_5), .val (.int w0_6), .val (.int w0_7), .val (.int w0_8), .val (.ref b1388), .val (.int (own_v1531 w0_1 w0_2 w0_3 w0_4 w0_7)), .val (.int (own_at [w0_1, w0_2, w0_3] (w0_4 / (2:Int32)))), .val (.int (own_at [w0_1, w0_2, w0_3] w0_7)), .val (.int (own_at [w0_1, w0_2, w0_3] w0_8)), .val (.int (0:Int32)), .val (.int w0_9), .val (.int (9:Int32)), .val (.int (w0_9 + (1:Int32))), .val (.int (1:Int32)), .val (.int ((f5 w0_9 (0:Int32)) + (f5 (9:Int32) (0:Int32)))), .val (.int (((f5 (0:Int32) w0_9) + (f5 (9:Int32) w0_9)) + (f6 (0:Int32) w0_9))), .val (.int ((((f5 (0:Int32) (9:Int32)) + (f5 w0_9 (9:Int32))) + (f6 (0:Int32) (9:Int32))) + (f6 w0_9 (9:Int32)))), .val (.int w0_10), .unset, .unset, .unset]) (by rw [hw0_10]; rfl) ?_
   exact XS.iload X1556.here hx rfl (D at_513) rfl k
  obtain ⟨w0_11, hw0_11⟩ : ∃ z : Int32, z = (if w0_10 = (0:Int32) then (own_at [w0_1, w0_2, w0_3] (w0_4 / (2:Int32))) else (if w0_10 = (1:Int32) then (if w0_9 = (1:Int32) then (own_at [w0_1, w0_2, w0_3] w0_7) else (own_at [w0_1, w0_2, w0_3] w0_8)) else (own_at [w0_1, w0_2, w0_3] w0_8))) := ⟨_, rfl⟩
  refine own_pre (A := T1556.setTop (mkF m 547 #[.val (.int p0), .val (.int p1), .val (.int p2), .val (.int p3), .val (.int p4), .val (.int p5), .val (.ref b1377), .val (.int (2:Int32)), .val (.int w0_4), .val (.int (w0_4 / (2:Int32))), .val (.int w0_5), .val (.int w0_6), .val (.int w0_7), .val (.int w0_8), .val (.ref b1388), .val (.int (own_v1531 w0_1 w0_2 w0_3 w0_4 w0_7)), .val (.int (own_at [w0_1, w0_2, w0_3] (w0_4 / (2:Int32)))), .val (.int (own_at [w0_1, w0_2, w0_3] w0_7)), .val (.int (own_at [w0_1, w0_2, w0_3] w0_8)), .val (.int (0:Int32)), .val (.int w0_9), .val (.int (9:Int32)), .val (.int (w0_9 + (1:Int32))), .val (.int (1:Int32)), .val (.int ((f5 w0_9 (0:Int32)) + (f5 (9:Int32) (0:Int32)))), .val (.int (((f5 (0:Int32) w0_9) + (f5 (9:Int32) w0_9)) + (f6 (0:Int32) w0_9))), .val (.int ((((f5 (0:Int32) (9:Int32)) + (f5 w0_9 (9:Int32))) + (f6 (0:Int32) (9:Int32))) + (f6 w0_9 (9:Int32)))), .val (.int w0_10), .unset, .unset, .unset] [(.int w0_11)])) (fun t k => ?_) ?_
  ·by_cases hm515_10 : w0_10 = (0:Int32)
   ·refine XS.ifNo X1556.here hx rfl (D at_515) rfl (XT.i0_ne_f hm515_10) ?_
    refine XS.iload X1556.here hx rfl (D at_518) rfl ?_
    refine XS.goto X1556.here hx rfl (pc0 := 520) (pc' := 547) rfl (D at_520) (by decide) (by decide) ?_
    rw [hw0_11.trans (if_pos hm515_10)] at k
    exact k
   ·refine XS.ifYes X1556.here hx rfl (pc0 := 515) (pc' := 523) rfl (D at_515) rfl (XT.i0_ne_t hm515_10) (by decide) (by decide) ?_
    refine XS.iload X1556.here hx rfl (D at_523) rfl ?_
    refine XS.iconst X1556.here hx rfl (D at_525) ?_
    by_cases hm526_11 : w0_10 = (1:Int32)
    ·refine XS.icmpNo X1556.here hx rfl (D at_526) rfl (XT.ii_ne_f hm526_11) ?_
     refine XS.iload X1556.here hx rfl (D at_529) rfl ?_
     refine XS.iconst X1556.here hx rfl (D at_531) ?_
     by_cases hm532_12 : w0_9 = (1:Int32)
     ·refine XS.icmpNo X1556.here hx rfl (D at_532) rfl (XT.ii_ne_f hm532_12) ?_
      refine XS.iload X1556.here hx rfl (D at_535) rfl ?_
      refine XS.goto X1556.here hx rfl (pc0 := 537) (pc' := 547) rfl (D at_537) (by decide) (by decide) ?_
      rw [hw0_11.trans (((if_neg hm515_10).trans (if_pos hm526_11)).trans (if_pos hm532_12))] at k
      exact k
     ·refine XS.icmpYes X1556.here hx rfl (pc0 := 532) (pc' := 540) rfl (D at_532) rfl (XT.ii_ne_t hm532_12) (by decide) (by decide) ?_
      refine XS.iload X1556.here hx rfl (D at_540) rfl ?_
      refine XS.goto X1556.here hx rfl (pc0 := 542) (pc' := 547) rfl (D at_542) (by decide) (by decide) ?_
      rw [hw0_11.trans (((if_neg hm515_10).trans (if_pos hm526_11)).trans (if_neg hm532_12))] at k
      exact k
    ·refine XS.icmpYes X1556.here hx rfl (pc0 := 526) (pc' := 545) rfl (D at_526) rfl (XT.ii_ne_t hm526_11) (by decide) (by decide) ?_
     refine XS.iload X1556.here hx rfl (D at_545) rfl ?_
     rw [hw0_11.trans ((if_neg hm515_10).trans (if_neg hm526_11))] at k
     exact k
  refine own_pA T1556 m 553 #[.val (.int p0), .val (.int p1), .val (.int p2), .val (.int p3), .val (.int p4), .val (.int p5), .val (.ref b1377), .val (.int (2:Int32)), .val (.int w0_4), .val (.int (w0_4 / (2:Int32))), .val (.int w0_5), .val (.int w0_6), .val (.int w0_7), .val (.int w0_8), .val (.ref b1388), .val (.int (own_v1531 w0_1 w0_2 w0_3 w0_4 w0_7)), .val (.int (own_at [w0_1, w0_2, w0_3] (w0_4 / (2:Int32)))), .val (.int (own_at [w0_1, w0_2, w0_3] w0_7)), .val (.int (own_at [w0_1, w0_2, w0_3] w0_8)), .val (.int (0:Int32)), .val (.int w0_9), .val (.int (9:Int32)), .val (.int (w0_9 + (1:Int32))), .val (.int (1:Int32)), .val (.int ((f5 w0_9 (0:Int32)) + (f5 (9:Int32) (0:Int32)))), .val (.int (((f5 (0:Int32) w0_9) + (f5 (9:Int32) w0_9)) + (f6 (0:Int32) w0_9))), .val (.int ((((f5 (0:Int32) (9:Int32)) + (f5 w0_9 (9:Int32))) + (f6 (0:Int32) (9:Int32))) + (f6 w0_9 (9:Int32)))), .val (.int w0_10), .val (.int w0_11), .unset, .unset] [(.int w0_10), (.int (0:Int32))] (fun t k => ?_) ?_
  ·refine XS.istore X1556.here hx rfl (D at_547) rfl (l' := #[.val (.int p0), .val (.int p1), .val (.int p2), .val (.int p3), .val (.int p4), .val (.int p5), .val (.ref b1377), .val (.int (2:Int32)), .val (.int w0_4), .val (.int (w0_4 / (2:Int32))), .val (.int w0_5), .val (.int w0_6), .val (.int w0_7), .val (.int w0_8), .val (.ref b1388), .val (.int (own_v1531 w0_1 w0_2 w0_3 w0_4 w0_7)), .val (.int (own_at [w0_1, w0_2, w0_3] (w0_4 / (2:Int32)))), .val (.int (own_at [w0_1, w0_2, w0_3] w0_7)), .val (.int (own_at [w0_1, w0_2, w0_3] w0_8)), .val (.int (0:Int32)), .val (.int w0_9), .val (.int (9:Int32)), .val (.int (w0_9 + (1:Int32))), .val (.int (1:Int32)), .val (.int ((f5 w0_9 (0:Int32)) + (f5 (9:Int32) (0:Int32)))), .val (.int (((f5 (0:Int32) w0_9) + (f5 (9:Int32) w0_9)) + (f6 (0:Int32) w0_9))), .val (.int ((((f5 (0:Int32) (9:Int32)) + (f5 w0_9 (9:Int32))) + (f6 (0:Int32) (9:Int32))) + (f6 w0_9 (9:Int32)))), .val (.int w0_10), .val (.int w0_11), .unset, .unset]) rfl ?_
   refine XS.iload X1556.here hx rfl (D at_549) rfl ?_
   exact XS.iload X1556.here hx rfl (D at_551) rfl k
  refine own_callSG X1556 hx hZ (y := own_y5) hown (own_h hw 35 rfl) (own_h hw 36 rfl) (own_h hw 37 rfl) (own_h hw 38 rfl) (by decide) (W := 0) (rm5 l Z aZ hw [] (0:Int32) w0_10 T1456.heap n0 Z1522 ) (by decide) (by decide) rfl (by rw [hml]; rfl) (argsL := [(.int (0:Int32)), (.int w0_10)]) (rest := []) (lenOf own_pd2 rfl) rfl (by show 2 * 0 + _ ≤ _; exact Nat.le_of_eq rfl) (D at_553) rfl eh1556 (by decide) (by decide) (fun v T1564 L1564 X1564 hQ1564 => ?_)
  obtain ⟨rfl, N1564q, eh1564⟩ := hQ1564
  have N1564 := Fr.app N1556 N1564q
  refine own_pA T1564 m 560 #[.val (.int p0), .val (.int p1), .val (.int p2), .val (.int p3), .val (.int p4), .val (.int p5), .val (.ref b1377), .val (.int (2:Int32)), .val (.int w0_4), .val (.int (w0_4 / (2:Int32))), .val (.int w0_5), .val (.int w0_6), .val (.int w0_7), .val (.int w0_8), .val (.ref b1388), .val (.int (own_v1531 w0_1 w0_2 w0_3 w0_4 w0_7)), .val (.int (own_at [w0_1, w0_2, w0_3] (w0_4 / (2:Int32)))), .val (.int (own_at [w0_1, w0_2, w0_3] w0_7)), .val (.int (own_at [w0_1, w0_2, w0_3] w0_8)), .val (.int (0:Int32)), .val (.int w0_9), .val (.int (9:Int32)), .val (.int (w0_9 + (1:Int32))), .val (.int (1:Int32)), .val (.int ((f5 w0_9 (0:Int32)) + (f5 (9:Int32) (0:Int32)))), .val (.int (((f5 (0:Int32) w0_9) + (f5 (9:Int32) w0_9)) + (f6 (0:Int32) w0_9))), .val (.int ((((f5 (0:Int32) (9:Int32)) + (f5 w0_9 (9:Int32))) + (f6 (0:Int32) (9:Int32))) + (f6 w0_9 (9:Int32)))), .val (.int w0_10), .val (.int w0_11), .unset, .unset] [(.int w0_10), (.int w0_9), (.int (f5 (0:Int32) w0_10))] (fun t k => ?_) ?_
  ·refine XS.iload X1564.here hx rfl (D at_556) rfl ?_
   exact XS.iload X1564.here hx rfl (D at_558) rfl k
  refine own_callSG X1564 hx hZ (y := own_y5) hown (own_h hw 35 rfl) (own_h hw 36 rfl) (own_h hw 37 rfl) (own_h hw 38 rfl) (by decide) (W := 1) (rm5 l Z aZ hw [] w0_9 w0_10 T1456.heap n0 Z1522 ) (by decide) (by decide) rfl (by rw [hml]; rfl) (argsL := [(.int w0_9), (.int w0_10)]) (rest := [(.int (f5 (0:Int32) w0_10))]) (lenOf own_pd2 rfl) rfl (by show 2 * 0 + _ ≤ _; exact Nat.le_of_eq rfl) (D at_560) rfl eh1564 (by decide) (by decide) (fun v T1566 L1566 X1566 hQ1566 => ?_)
  obtain ⟨rfl, N1566q, eh1566⟩ := hQ1566
  have N1566 := Fr.app N1564 N1566q
  refine own_pA T1566 m 568 #[.val (.int p0), .val (.int p1), .val (.int p2), .val (.int p3), .val (.int p4), .val (.int p5), .val (.ref b1377), .val (.int (2:Int32)), .val (.int w0_4), .val (.int (w0_4 / (2:Int32))), .val (.int w0_5), .val (.int w0_6), .val (.int w0_7), .val (.int w0_8), .val (.ref b1388), .val (.int (own_v1531 w0_1 w0_2 w0_3 w0_4 w0_7)), .val (.int (own_at [w0_1, w0_2, w0_3] (w0_4 / (2:Int32)))), .val (.int (own_at [w0_1, w0_2, w0_3] w0_7)), .val (.int (own_at [w0_1, w0_2, w0_3] w0_8)), .val (.int (0:Int32)), .val (.int w0_9), .val (.int (9:Int32)), .val (.int (w0_9 + (1:Int32))), .val (.int (1:Int32)), .val (.int ((f5 w0_9 (0:Int32)) + (f5 (9:Int32) (0:Int32)))), .val (.int (((f5 (0:Int32) w0_9) + (f5 (9:Int32) w0_9)) + (f6 (0:Int32) w0_9))), .val (.int ((((f5 (0:Int32) (9:Int32)) + (f5 w0_9 (9:Int32))) + (f6 (0:Int32) (9:Int32))) + (f6 w0_9 (9:Int32)))), .val (.int w0_10), .val (.int w0_11), .unset, .unset] [(.int w0_10), (.int (9:Int32)), (.int ((f5 (0:Int32) w0_10) + (f5 w0_9 w0_10)))] (fun t k => ?_) ?_
  ·refine XS.iadd X1566.here hx rfl (D at_563) rfl ?_
   refine XS.iload X1566.here hx rfl (D at_564) rfl ?_
   exact XS.iload X1566.here hx rfl (D at_566) rfl k
  refine own_callSG X1566 hx hZ (y := own_y5) hown (own_h hw 35 rfl) (own_h hw 36 rfl) (own_h hw 37 rfl) (own_h hw 38 rfl) (by decide) (W := 1) (rm5 l Z aZ hw [] (9:Int32) w0_10 T1456.heap n0 Z1522 ) (by decide) (by decide) rfl (by rw [hml]; rfl) (argsL := [(.int (9:Int32)), (.int w0_10)]) (rest := [(.int ((f5 (0:Int32) w0_10) + (f5 w0_9 w0_10)))]) (lenOf own_pd2 rfl) rfl (by show 2 * 0 + _ ≤ _; exact Nat.le_of_eq rfl) (D at_568) rfl eh1566 (by decide) (by decide) (fun v T1567 L1567 X1567 hQ1567 => ?_)
  obtain ⟨rfl, N1567q, eh1567⟩ := hQ1567
  have N1567 := Fr.app N1566 N1567q
  refine own_pA T1567 m 580 #[.val (.int p0), .val (.int p1), .val (.int p2), .val (.int p3), .val (.int p4), .val (.int p5), .val (.ref b1377), .val (.int (2:Int32)), .val (.int w0_4), .val (.int (w0_4 / (2:Int32))), .val (.int w0_5), .val (.int w0_6), .val (.int w0_7), .val (.int w0_8), .val (.ref b1388), .val (.int (own_v1531 w0_1 w0_2 w0_3 w0_4 w0_7)), .val (.int (own_at [w0_1, w0_2, w0_3] (w0_4 / (2:Int32)))), .val (.int (own_at [w0_1, w0_2, w0_3] w0_7)), .val (.int (own_at [w0_1, w0_2, w0_3] w0_8)), .val (.int (0:Int32)), .val (.int w0_9), .val (.int (9:Int32)), .val (.int (w0_9 + (1:Int32))), .val (.int (1:Int32)), .val (.int ((f5 w0_9 (0:Int32)) + (f5 (9:Int32) (0:Int32)))), .val (.int (((f5 (0:Int32) w0_9) + (f5 (9:Int32) w0_9)) + (f6 (0:Int32) w0_9))), .val (.int ((((f5 (0:Int32) (9:Int32)) + (f5 w0_9 (9:Int32))) + (f6 (0:Int32) (9:Int32))) + (f6 w0_9 (9:Int32)))), .val (.int w0_10), .val (.int w0_11), .val (.int (((f5 (0:Int32) w0_10) + (f5 w0_9 w0_10)) + (f5 (9:Int32) w0_10))), .unset] [(.int (w0_10 + (1:Int32))), (.int (0:Int32))] (fun t k => ?_) ?_
  ·refine XS.iadd X1567.here hx rfl (D at_571) rfl ?_
   refine XS.istore X1567.here hx rfl (D at_572) rfl (l' := #[.val (.int p0), .val (.int p1), .val (.int p2), .val (.int p3), .val (.int p4), .val (.int p5), .val (.ref b1377), .val (.int (2:Int32)), .val (.int w0_4), .val (.int (w0_4 / (2:Int32))), .val (.int w0_5), .val (.int w0_6), .val (.int w0_7), .val (.int w0_8), .val (.ref b1388), .val (.int (own_v1531 w0_1 w0_2 w0_3 w0_4 w0_7)), .val (.int (own_at [w0_1, w0_2, w0_3] (w0_4 / (2:Int32)))), .val (.int (own_at [w0_1, w0_2, w0_3] w0_7)), .val (.int (own_at [w0_1, w0_2, w0_3] w0_8)), .val (.int (0:Int32)), .val (.int w0_9), .val (.int (9:Int32)), .val (.int (w0_9 + (1:Int32))), .val (.int (1:Int32)), .val (.int ((f5 w0_9 (0:Int32)) + (f5 (9:Int32) (0:Int32)))), .val (.int (((f5 (0:Int32) w0_9) + (f5 (9:Int32) w0_9)) + (f6 (0:Int32) w0_9))), .val (.int ((((f5 (0:Int32) (9:Int32)) + (f5 w0_9 (9:Int32))) + (f6 (0:Int32) (9:Int32))) + (f6 w0_9 (9:Int32)))), .val (.int w0_10), .val (.int w0_11), .val (.int (((f5 (0:Int32) w0_10) + (f5 w0_9 w0_10)) + (f5 (9:Int32) w0_10))), .unset]) rfl ?_
   refine XS.iload X1567.here hx rfl (D at_574) rfl ?_
   refine XS.iload X1567.here hx rfl (D at_576) rfl ?_
   refine XS.iconst X1567.here hx rfl (D at_578) ?_
   exact XS.iadd X1567.here hx rfl (D at_579) rfl k
  refine own_callSG X1567 hx hZ (y := own_y5) hown (own_h hw 35 rfl) (own_h hw 36 rfl) (own_h hw 37 rfl) (own_h hw 38 rfl) (by decide) (W := 0) (rm5 l Z aZ hw [] (0:Int32) (w0_10 + (1:Int32)) T1456.heap n0 Z1522 ) (by decide) (by decide) rfl (by rw [hml]; rfl) (argsL := [(.int (0:Int32)), (.int (w0_10 + (1:Int32)))]) (rest := []) (lenOf own_pd2 rfl) rfl (by show 2 * 0 + _ ≤ _; exact Nat.le_of_eq rfl) (D at_580) rfl eh1567 (by decide) (by decide) (fun v T1568 L1568 X1568 hQ1568 => ?_)
  obtain ⟨rfl, N1568q, eh1568⟩ := hQ1568
  have N1568 := Fr.app N1567 N1568q
  refine own_pA T1568 m 589 #[.val (.int p0), .val (.int p1), .val (.int p2), .val (.int p3), .val (.int p4), .val (.int p5), .val (.ref b1377), .val (.int (2:Int32)), .val (.int w0_4), .val (.int (w0_4 / (2:Int32))), .val (.int w0_5), .val (.int w0_6), .val (.int w0_7), .val (.int w0_8), .val (.ref b1388), .val (.int (own_v1531 w0_1 w0_2 w0_3 w0_4 w0_7)), .val (.int (own_at [w0_1, w0_2, w0_3] (w0_4 / (2:Int32)))), .val (.int (own_at [w0_1, w0_2, w0_3] w0_7)), .val (.int (own_at [w0_1, w0_2, w0_3] w0_8)), .val (.int (0:Int32)), .val (.int w0_9), .val (.int (9:Int32)), .val (.int (w0_9 + (1:Int32))), .val (.int (1:Int32)), .val (.int ((f5 w0_9 (0:Int32)) + (f5 (9:Int32) (0:Int32)))), .val (.int (((f5 (0:Int32) w0_9) + (f5 (9:Int32) w0_9)) + (f6 (0:Int32) w0_9))), .val (.int ((((f5 (0:Int32) (9:Int32)) + (f5 w0_9 (9:Int32))) + (f6 (0:Int32) (9:Int32))) + (f6 w0_9 (9:Int32)))), .val (.int w0_10), .val (.int w0_11), .val (.int (((f5 (0:Int32) w0_10) + (f5 w0_9 w0_10)) + (f5 (9:Int32) w0_10))), .unset] [(.int (w0_10 + (1:Int32))), (.int w0_9), (.int (f5 (0:Int32) (w0_10 + (1:Int32))))] (fun t k => ?_) ?_
  ·refine XS.iload X1568.here hx rfl (D at_583) rfl ?_
   refine XS.iload X1568.here hx rfl (D at_585) rfl ?_
   refine XS.iconst X1568.here hx rfl (D at_587) ?_
   exact XS.iadd X1568.here hx rfl (D at_588) rfl k
  refine own_callSG X1568 hx hZ (y := own_y5) hown (own_h hw 35 rfl) (own_h hw 36 rfl) (own_h hw 37 rfl) (own_h hw 38 rfl) (by decide) (W := 1) (rm5 l Z aZ hw [] w0_9 (w0_10 + (1:Int32)) T1456.heap n0 Z1522 ) (by decide) (by decide) rfl (by rw [hml]; rfl) (argsL := [(.int w0_9), (.int (w0_10 + (1:Int32)))]) (rest := [(.int (f5 (0:Int32) (w0_10 + (1:Int32))))]) (lenOf own_pd2 rfl) rfl (by show 2 * 0 + _ ≤ _; exact Nat.le_of_eq rfl) (D at_589) rfl eh1568 (by decide) (by decide) (fun v T1569 L1569 X1569 hQ1569 => ?_)
  obtain ⟨rfl, N1569q, eh1569⟩ := hQ1569
  have N1569 := Fr.app N1568 N1569q
  refine own_pA T1569 m 599 #[.val (.int p0), .val (.int p1), .val (.int p2), .val (.int p3), .val (.int p4), .val (.int p5), .val (.ref b1377), .val (.int (2:Int32)), .val (.int w0_4), .val (.int (w0_4 / (2:Int32))), .val (.int w0_5), .val (.int w0_6), .val (.int w0_7), .val (.int w0_8), .val (.ref b1388), .val (.int (own_v1531 w0_1 w0_2 w0_3 w0_4 w0_7)), .val (.int (own_at [w0_1, w0_2, w0_3] (w0_4 / (2:Int32)))), .val (.int (own_at [w0_1, w0_2, w0_3] w0_7)), .val (.int (own_at [w0_1, w0_2, w0_3] w0_8)), .val (.int (0:Int32)), .val (.int w0_9), .val (.int (9:Int32)), .val (.int (w0_9 + (1:Int32))), .val (.int (1:Int32)), .val (.int ((f5 w0_9 (0:Int32)) + (f5 (9:Int32) (0:Int32)))), .val (.int (((f5 (0:Int32) w0_9) + (f5 (9:Int32) w0_9)) + (f6 (0:Int32) w0_9))), .val (.int ((((f5 (0:Int32) (9:Int32)) + (f5 w0_9 (9:Int32))) + (f6 (0:Int32) (9:Int32))) + (f6 w0_9 (9:Int32)))), .val (.int w0_10), .val (.int w0_11), .val (.int (((f5 (0:Int32) w0_10) + (f5 w0_9 w0_10)) + (f5 (9:Int32) w0_10))), .unset] [(.int (w0_10 + (1:Int32))), (.int (9:Int32)), (.int ((f5 (0:Int32) (w0_10 + (1:Int32))) + (f5 w0_9 (w0_10 + (1:Int32)))))] (fun t k => ?_) ?_
  ·refine XS.iadd X1569.here hx rfl (D at_592) rfl ?_
   refine XS.iload X1569.here hx rfl (D at_593) rfl ?_
   refine XS.iload X1569.here hx rfl (D at_595) rfl ?_
   refine XS.iconst X1569.here hx rfl (D at_597) ?_
   exact XS.iadd X1569.here hx rfl (D at_598) rfl k
  refine own_callSG X1569 hx hZ (y := own_y5) hown (own_h hw 35 rfl) (own_h hw 36 rfl) (own_h hw 37 rfl) (own_h hw 38 rfl) (by decide) (W := 1) (rm5 l Z aZ hw [] (9:Int32) (w0_10 + (1:Int32)) T1456.heap n0 Z1522 ) (by decide) (by decide) rfl (by rw [hml]; rfl) (argsL := [(.int (9:Int32)), (.int (w0_10 + (1:Int32)))]) (rest := [(.int ((f5 (0:Int32) (w0_10 + (1:Int32))) + (f5 w0_9 (w0_10 + (1:Int32)))))]) (lenOf own_pd2 rfl) rfl (by show 2 * 0 + _ ≤ _; exact Nat.le_of_eq rfl) (D at_599) rfl eh1569 (by decide) (by decide) (fun v T1570 L1570 X1570 hQ1570 => ?_)
  obtain ⟨rfl, N1570q, eh1570⟩ := hQ1570
  have N1570 := Fr.app N1569 N1570q
  refine own_pA T1570 m 609 #[.val (.int p0), .val (.int p1), .val (.int p2), .val (.int p3), .val (.int p4), .val (.int p5), .val (.ref b1377), .val (.int (2:Int32)), .val (.int w0_4), .val (.int (w0_4 / (2:Int32))), .val (.int w0_5), .val (.int w0_6), .val (.int w0_7), .val (.int w0_8), .val (.ref b1388), .val (.int (own_v1531 w0_1 w0_2 w0_3 w0_4 w0_7)), .val (.int (own_at [w0_1, w0_2, w0_3] (w0_4 / (2:Int32)))), .val (.int (own_at [w0_1, w0_2, w0_3] w0_7)), .val (.int (own_at [w0_1, w0_2, w0_3] w0_8)), .val (.int (0:Int32)), .val (.int w0_9), .val (.int (9:Int32)), .val (.int (w0_9 + (1:Int32))), .val (.int (1:Int32)), .val (.int ((f5 w0_9 (0:Int32)) + (f5 (9:Int32) (0:Int32)))), .val (.int (((f5 (0:Int32) w0_9) + (f5 (9:Int32) w0_9)) + (f6 (0:Int32) w0_9))), .val (.int ((((f5 (0:Int32) (9:Int32)) + (f5 w0_9 (9:Int32))) + (f6 (0:Int32) (9:Int32))) + (f6 w0_9 (9:Int32)))), .val (.int w0_10), .val (.int w0_11), .val (.int (((f5 (0:Int32) w0_10) + (f5 w0_9 w0_10)) + (f5 (9:Int32) w0_10))), .val (.int (((f5 (0:Int32) (w0_10 + (1:Int32))) + (f5 w0_9 (w0_10 + (1:Int32)))) + (f5 (9:Int32) (w0_10 + (1:Int32)))))] [(.int w0_10), (.ref b1388)] (fun t k => ?_) ?_
  ·refine XS.iadd X1570.here hx rfl (D at_602) rfl ?_
   refine XS.istore X1570.here hx rfl (D at_603) rfl (l' := #[.val (.int p0), .val (.int p1), .val (.int p2), .val (.int p3), .val (.int p4), .val (.int p5), .val (.ref b1377), .val (.int (2:Int32)), .val (.int w0_4), .val (.int (w0_4 / (2:Int32))), .val (.int w0_5), .val (.int w0_6), .val (.int w0_7), .val (.int w0_8), .val (.ref b1388), .val (.int (own_v1531 w0_1 w0_2 w0_3 w0_4 w0_7)), .val (.int (own_at [w0_1, w0_2, w0_3] (w0_4 / (2:Int32)))), .val (.int (own_at [w0_1, w0_2, w0_3] w0_7)), .val (.int (own_at [w0_1, w0_2, w0_3] w0_8)), .val (.int (0:Int32)), .val (.int w0_9), .val (.int (9:Int32)), .val (.int (w0_9 + (1:Int32))), .val (.int (1:Int32)), .val (.int ((f5 w0_9 (0:Int32)) + (f5 (9:Int32) (0:Int32)))), .val (.int (((f5 (0:Int32) w0_9) + (f5 (9:Int32) w0_9)) + (f6 (0:Int32) w0_9))), .val (.int ((((f5 (0:Int32) (9:Int32)) + (f5 w0_9 (9:Int32))) + (f6 (0:Int32) (9:Int32))) + (f6 w0_9 (9:Int32)))), .val (.int w0_10), .val (.int w0_11), .val (.int (((f5 (0:Int32) w0_10) + (f5 w0_9 w0_10)) + (f5 (9:Int32) w0_10))), .val (.int (((f5 (0:Int32) (w0_10 + (1:Int32))) + (f5 w0_9 (w0_10 + (1:Int32)))) + (f5 (9:Int32) (w0_10 + (1:Int32)))))]) rfl ?_
   refine XS.aload X1570.here hx rfl (D at_605) rfl rfl ?_
   exact XS.iload X1570.here hx rfl (D at_607) rfl k
  have hf1573 : own_In w0_10 (own_v1527 w0_1 w0_2 w0_3 w0_4 w0_7).length := by subst hw0_5 hw0_6 hw0_7 hw0_8 hw0_9 hw0_11; exact own_fin1572 w0_1 (own_m3 _ _ hw0_1) w0_2 (own_m3 _ _ hw0_2) w0_3 (own_m3 _ _ hw0_3) w0_4 (own_m6 _ _ hw0_4) w0_10 hkm.1 hkm.2
  refine own_virtG X1570 hx hZ (y := own_y8) hown (own_h hw 47 rfl) (own_h hw 48 rfl) (own_h hw 50 rfl) (own_h hw 49 rfl) (own_h hw 51 rfl) (own_h hw 4 rfl) (by decide) (W := 0) (rm8 l Z aZ hw [] b1388 w0_10 gl_1394 (own_v1527 w0_1 w0_2 w0_3 w0_4 w0_7) T1456.heap n0 Z1522 G1515 G1528 hf1573) (by decide) (by decide) eh1570 F1553 rfl (by rw [hml]; rfl) (argsL := [(.int w0_10)]) (rest := []) (lenOf own_pd4 rfl) rfl (by show 2 * 0 + _ ≤ _; exact Nat.le_of_eq rfl) (D at_609) rfl (by decide) (by decide) (fun v T1571 L1571 X1571 hQ1571 => ?_)
  obtain ⟨rfl, N1571q, eh1571⟩ := hQ1571
  have N1571 := Fr.app N1570 N1571q
  have hd614_13 : (own_v1574 w0_10 w0_1 w0_2 w0_3 w0_4 w0_7) = w0_11 := (by subst hw0_5 hw0_6 hw0_7 hw0_8 hw0_9 hw0_11; exact own_fin1575 w0_1 (own_m3 _ _ hw0_1) w0_2 (own_m3 _ _ hw0_2) w0_3 (own_m3 _ _ hw0_3) w0_4 (own_m6 _ _ hw0_4) w0_10 hkm.1 hkm.2)
  refine own_pA T1571 m 621 #[.val (.int p0), .val (.int p1), .val (.int p2), .val (.int p3), .val (.int p4), .val (.int p5), .val (.ref b1377), .val (.int (2:Int32)), .val (.int w0_4), .val (.int (w0_4 / (2:Int32))), .val (.int w0_5), .val (.int w0_6), .val (.int w0_7), .val (.int w0_8), .val (.ref b1388), .val (.int (own_v1531 w0_1 w0_2 w0_3 w0_4 w0_7)), .val (.int (own_at [w0_1, w0_2, w0_3] (w0_4 / (2:Int32)))), .val (.int (own_at [w0_1, w0_2, w0_3] w0_7)), .val (.int (own_at [w0_1, w0_2, w0_3] w0_8)), .val (.int (0:Int32)), .val (.int w0_9), .val (.int (9:Int32)), .val (.int (w0_9 + (1:Int32))), .val (.int (1:Int32)), .val (.int ((f5 w0_9 (0:Int32)) + (f5 (9:Int32) (0:Int32)))), .val (.int (((f5 (0:Int32) w0_9) + (f5 (9:Int32) w0_9)) + (f6 (0:Int32) w0_9))), .val (.int ((((f5 (0:Int32) (9:Int32)) + (f5 w0_9 (9:Int32))) + (f6 (0:Int32) (9:Int32))) + (f6 w0_9 (9:Int32)))), .val (.int w0_10), .val (.int w0_11), .val (.int (((f5 (0:Int32) w0_10) + (f5 w0_9 w0_10)) + (f5 (9:Int32) w0_10))), .val (.int (((f5 (0:Int32) (w0_10 + (1:Int32))) + (f5 w0_9 (w0_10 + (1:Int32)))) + (f5 (9:Int32) (w0_10 + (1:Int32)))))] [(.int w0_10), (.ref b1388)] (fun t k => ?_) ?_
  ·refine XS.iload X1571.here hx rfl (D at_612) rfl ?_
   refine XS.icmpNo X1571.here hx rfl (D at_614) rfl (XT.ii_ne_f hd614_13) ?_
   refine XS.aload X1571.here hx rfl (D at_617) rfl rfl ?_
   exact XS.iload X1571.here hx rfl (D at_619) rfl k
  have hf1578 : (own_In w0_10 (own_v1527 w0_1 w0_2 w0_3 w0_4 w0_7).length) ∧ (own_In (own_at (own_v1527 w0_1 w0_2 w0_3 w0_4 w0_7) w0_10) (own_v1529 w0_1 w0_2 w0_3 w0_4 w0_7).length) := by subst hw0_5 hw0_6 hw0_7 hw0_8 hw0_9 hw0_11; exact own_fin1577 w0_1 (own_m3 _ _ hw0_1) w0_2 (own_m3 _ _ hw0_2) w0_3 (own_m3 _ _ hw0_3) w0_4 (own_m6 _ _ hw0_4) w0_10 hkm.1 hkm.2
  refine own_virtG X1571 hx hZ (y := own_y9) hown (own_h hw 52 rfl) (own_h hw 53 rfl) (own_h hw 55 rfl) (own_h hw 54 rfl) (own_h hw 56 rfl) (own_h hw 4 rfl) (by decide) (W := 0) (rm9 l Z aZ hw [] b1388 w0_10 gl_1394 gs_1395 (own_v1527 w0_1 w0_2 w0_3 w0_4 w0_7) (own_v1529 w0_1 w0_2 w0_3 w0_4 w0_7) T1456.heap n0 Z1522 G1515 G1516 G1528 G1530 hf1578.1 hf1578.2) (by decide) (by decide) eh1571 F1553 rfl (by rw [hml]; rfl) (argsL := [(.int w0_10)]) (rest := []) (lenOf own_pd4 rfl) rfl (by show 2 * 0 + _ ≤ _; exact Nat.le_of_eq rfl) (D at_621) rfl (by decide) (by decide) (fun v T1576 L1576 X1576 hQ1576 => ?_)
  obtain ⟨rfl, N1576q, eh1576⟩ := hQ1576
  have N1576 := Fr.app N1571 N1576q
  have hd626_14 : (own_v1579 w0_10 w0_1 w0_2 w0_3 w0_4 w0_7) = (((f5 (0:Int32) w0_10) + (f5 w0_9 w0_10)) + (f5 (9:Int32) w0_10)) := (by subst hw0_5 hw0_6 hw0_7 hw0_8 hw0_9 hw0_11; exact own_fin1580 w0_1 (own_m3 _ _ hw0_1) w0_2 (own_m3 _ _ hw0_2) w0_3 (own_m3 _ _ hw0_3) w0_4 (own_m6 _ _ hw0_4) w0_10 hkm.1 hkm.2)
  refine own_pA T1576 m 633 #[.val (.int p0), .val (.int p1), .val (.int p2), .val (.int p3), .val (.int p4), .val (.int p5), .val (.ref b1377), .val (.int (2:Int32)), .val (.int w0_4), .val (.int (w0_4 / (2:Int32))), .val (.int w0_5), .val (.int w0_6), .val (.int w0_7), .val (.int w0_8), .val (.ref b1388), .val (.int (own_v1531 w0_1 w0_2 w0_3 w0_4 w0_7)), .val (.int (own_at [w0_1, w0_2, w0_3] (w0_4 / (2:Int32)))), .val (.int (own_at [w0_1, w0_2, w0_3] w0_7)), .val (.int (own_at [w0_1, w0_2, w0_3] w0_8)), .val (.int (0:Int32)), .val (.int w0_9), .val (.int (9:Int32)), .val (.int (w0_9 + (1:Int32))), .val (.int (1:Int32)), .val (.int ((f5 w0_9 (0:Int32)) + (f5 (9:Int32) (0:Int32)))), .val (.int (((f5 (0:Int32) w0_9) + (f5 (9:Int32) w0_9)) + (f6 (0:Int32) w0_9))), .val (.int ((((f5 (0:Int32) (9:Int32)) + (f5 w0_9 (9:Int32))) + (f6 (0:Int32) (9:Int32))) + (f6 w0_9 (9:Int32)))), .val (.int w0_10), .val (.int w0_11), .val (.int (((f5 (0:Int32) w0_10) + (f5 w0_9 w0_10)) + (f5 (9:Int32) w0_10))), .val (.int (((f5 (0:Int32) (w0_10 + (1:Int32))) + (f5 w0_9 (w0_10 + (1:Int32)))) + (f5 (9:Int32) (w0_10 + (1:Int32)))))] [(.int w0_10), (.ref b1388)] (fun t k => ?_) ?_
  ·refine XS.iload X1576.here hx rfl (D at_624) rfl ?_
   refine XS.icmpNo X1576.here hx rfl (D at_626) rfl (XT.ii_ne_f hd626_14) ?_
   refine XS.aload X1576.here hx rfl (D at_629) rfl rfl ?_
   exact XS.iload X1576.here hx rfl (D at_631) rfl k
  have hf1583 : ((w0_10 + (1:Int32)) < (own_v1523 w0_1 w0_2 w0_3 w0_4 w0_7) → own_In (w0_10 + (1:Int32)) (own_v1527 w0_1 w0_2 w0_3 w0_4 w0_7).length) ∧ ((w0_10 + (1:Int32)) < (own_v1523 w0_1 w0_2 w0_3 w0_4 w0_7) → own_In (own_at (own_v1527 w0_1 w0_2 w0_3 w0_4 w0_7) (w0_10 + (1:Int32))) (own_v1529 w0_1 w0_2 w0_3 w0_4 w0_7).length) := by subst hw0_5 hw0_6 hw0_7 hw0_8 hw0_9 hw0_11; exact own_fin1582 w0_1 (own_m3 _ _ hw0_1) w0_2 (own_m3 _ _ hw0_2) w0_3 (own_m3 _ _ hw0_3) w0_4 (own_m6 _ _ hw0_4) w0_10 hkm.1 hkm.2
  refine own_virtG X1576 hx hZ (y := own_y10) hown (own_h hw 57 rfl) (own_h hw 58 rfl) (own_h hw 60 rfl) (own_h hw 59 rfl) (own_h hw 61 rfl) (own_h hw 4 rfl) (by decide) (W := 0) (rm10 l Z aZ hw [] b1388 w0_10 gl_1394 gs_1395 (own_v1527 w0_1 w0_2 w0_3 w0_4 w0_7) (own_v1529 w0_1 w0_2 w0_3 w0_4 w0_7) (own_v1523 w0_1 w0_2 w0_3 w0_4 w0_7) (2:Int32) T1456.heap n0 Z1522 G1515 G1516 G1524 G1517 G1528 G1530 hf1583.1 hf1583.2) (by decide) (by decide) eh1576 F1553 rfl (by rw [hml]; rfl) (argsL := [(.int w0_10)]) (rest := []) (lenOf own_pd4 rfl) rfl (by show 2 * 0 + _ ≤ _; exact Nat.le_of_eq rfl) (D at_633) rfl (by decide) (by decide) (fun v T1581 L1581 X1581 hQ1581 => ?_)
  obtain ⟨rfl, N1581q, eh1581⟩ := hQ1581
  have N1581 := Fr.app N1576 N1581q
  have hd638_15 : (own_v1584 w0_10 w0_1 w0_2 w0_3 w0_4 w0_7) = (((f5 (0:Int32) (w0_10 + (1:Int32))) + (f5 w0_9 (w0_10 + (1:Int32)))) + (f5 (9:Int32) (w0_10 + (1:Int32)))) := (by subst hw0_5 hw0_6 hw0_7 hw0_8 hw0_9 hw0_11; exact own_fin1585 w0_1 (own_m3 _ _ hw0_1) w0_2 (own_m3 _ _ hw0_2) w0_3 (own_m3 _ _ hw0_3) w0_4 (own_m6 _ _ hw0_4) w0_10 hkm.1 hkm.2)
  refine own_pA T1581 m 650 #[.val (.int p0), .val (.int p1), .val (.int p2), .val (.int p3), .val (.int p4), .val (.int p5), .val (.ref b1377), .val (.int (2:Int32)), .val (.int w0_4), .val (.int (w0_4 / (2:Int32))), .val (.int w0_5), .val (.int w0_6), .val (.int w0_7), .val (.int w0_8), .val (.ref b1388), .val (.int (own_v1531 w0_1 w0_2 w0_3 w0_4 w0_7)), .val (.int (own_at [w0_1, w0_2, w0_3] (w0_4 / (2:Int32)))), .val (.int (own_at [w0_1, w0_2, w0_3] w0_7)), .val (.int (own_at [w0_1, w0_2, w0_3] w0_8)), .val (.int (0:Int32)), .val (.int w0_9), .val (.int (9:Int32)), .val (.int (w0_9 + (1:Int32))), .val (.int (1:Int32)), .val (.int ((f5 w0_9 (0:Int32)) + (f5 (9:Int32) (0:Int32)))), .val (.int (((f5 (0:Int32) w0_9) + (f5 (9:Int32) w0_9)) + (f6 (0:Int32) w0_9))), .val (.int ((((f5 (0:Int32) (9:Int32)) + (f5 w0_9 (9:Int32))) + (f6 (0:Int32) (9:Int32))) + (f6 w0_9 (9:Int32)))), .val (.int w0_10), .val (.int w0_11), .val (.int (((f5 (0:Int32) w0_10) + (f5 w0_9 w0_10)) + (f5 (9:Int32) w0_10))), .val (.int (((f5 (0:Int32) (w0_10 + (1:Int32))) + (f5 w0_9 (w0_10 + (1:Int32)))) + (f5 (9:Int32) (w0_10 + (1:Int32)))))] [(.int (1:Int32))] (fun t k => ?_) ?_
  ·refine XS.iload X1581.here hx rfl (D at_636) rfl ?_
   refine XS.icmpNo X1581.here hx rfl (D at_638) rfl (XT.ii_ne_f hd638_15) ?_
   refine XS.iconst X1581.here hx rfl (D at_641) ?_
   refine XS.goto X1581.here hx rfl (pc0 := 642) (pc' := 646) rfl (D at_642) (by decide) (by decide) ?_
   refine XS.istore X1581.here hx rfl (D at_646) rfl (l' := #[.val (.int p0), .val (.int p1), .val (.int p2), .val (.int p3), .val (.int p4), .val (.int p5), .val (.ref b1377), .val (.int (2:Int32)), .val (.int w0_4), .val (.int (w0_4 / (2:Int32))), .val (.int w0_5), .val (.int w0_6), .val (.int w0_7), .val (.int w0_8), .val (.ref b1388), .val (.int (own_v1531 w0_1 w0_2 w0_3 w0_4 w0_7)), .val (.int (own_at [w0_1, w0_2, w0_3] (w0_4 / (2:Int32)))), .val (.int (own_at [w0_1, w0_2, w0_3] w0_7)), .val (.int (own_at [w0_1, w0_2, w0_3] w0_8)), .val (.int (0:Int32)), .val (.int w0_9), .val (.int (9:Int32)), .val (.int (w0_9 + (1:Int32))), .val (.int (1:Int32)), .val (.int ((f5 w0_9 (0:Int32)) + (f5 (9:Int32) (0:Int32)))), .val (.int (((f5 (0:Int32) w0_9) + (f5 (9:Int32) w0_9)) + (f6 (0:Int32) w0_9))), .val (.int ((((f5 (0:Int32) (9:Int32)) + (f5 w0_9 (9:Int32))) + (f6 (0:Int32) (9:Int32))) + (f6 w0_9 (9:Int32)))), .val (.int w0_10), .val (.int w0_11), .val (.int (((f5 (0:Int32) w0_10) + (f5 w0_9 w0_10)) + (f5 (9:Int32) w0_10))), .val (.int (((f5 (0:Int32) (w0_10 + (1:Int32))) + (f5 w0_9 (w0_10 + (1:Int32)))) + (f5 (9:Int32) (w0_10 + (1:Int32)))))]) rfl ?_
   exact XS.iload X1581.here hx rfl (D at_648) rfl k
  exact own_end X1581 (BodyLoose.notSynchronized Bd) (fun h => by rw [Bd.returns] at h; cases h) (v := some (.int (1:Int32))) (fun fs hr => retN X1581 hx (t := .boolean) Bd.returns (by simp) (D at_650) hr) (by show Q0n2 Z p0 p1 p2 p3 p4 p5 h0 n0 _ T1581.heap _; rw [eh1581]; exact ⟨rfl, N1581⟩) (by decide) (by decide)
theorem own_fin1684 : ∀ w0_1 ∈ own_L3, ∀ w0_2 ∈ own_L3, ∀ w0_3 ∈ own_L3, ∀ w0_4 ∈ own_L6, ((own_In (w0_4 / (2:Int32)) [w0_1, w0_2, w0_3].length)) := by decide +kernel
theorem own_fin1686 : ∀ w0_1 ∈ own_L3, ∀ w0_2 ∈ own_L3, ∀ w0_3 ∈ own_L3, ∀ w0_4 ∈ own_L6, ((own_In (own_at [w0_1, w0_2, w0_3] (w0_4 / (2:Int32))) [(0:Int32), (0:Int32), (0:Int32)].length)) := by decide +kernel
theorem own_fin1688 : ∀ w0_1 ∈ own_L3, ∀ w0_2 ∈ own_L3, ∀ w0_3 ∈ own_L3, ∀ w0_4 ∈ own_L6, ((own_In (own_v1199 w0_4) [w0_1, w0_2, w0_3].length)) := by decide +kernel
theorem own_fin1690 : ∀ w0_1 ∈ own_L3, ∀ w0_2 ∈ own_L3, ∀ w0_3 ∈ own_L3, ∀ w0_4 ∈ own_L6, ((own_In (own_at [w0_1, w0_2, w0_3] (own_v1199 w0_4)) (own_v100 w0_1 w0_2 w0_3 (w0_4 / (2:Int32))).length)) := by decide +kernel
theorem own_fin1692 : ∀ w0_1 ∈ own_L3, ∀ w0_2 ∈ own_L3, ∀ w0_3 ∈ own_L3, ∀ w0_4 ∈ own_L6, ((((own_at (own_v100 w0_1 w0_2 w0_3 (w0_4 / (2:Int32))) (own_at [w0_1, w0_2, w0_3] (own_v1199 w0_4))) = (0:Int32)) → own_In (own_at [w0_1, w0_2, w0_3] (own_v1199 w0_4)) (own_v100 w0_1 w0_2 w0_3 (w0_4 / (2:Int32))).length)) := by decide +kernel
theorem own_fin1694 : ∀ w0_1 ∈ own_L3, ∀ w0_2 ∈ own_L3, ∀ w0_3 ∈ own_L3, ∀ w0_4 ∈ own_L6, ((((own_at (own_v100 w0_1 w0_2 w0_3 (w0_4 / (2:Int32))) (own_at [w0_1, w0_2, w0_3] (own_v1199 w0_4))) = (0:Int32)) → own_In (own_v1200 w0_4) [w0_1, w0_2, w0_3].length)) := by decide +kernel
theorem own_fin1696 : ∀ w0_1 ∈ own_L3, ∀ w0_2 ∈ own_L3, ∀ w0_3 ∈ own_L3, ∀ w0_4 ∈ own_L6, ((((own_at (own_v100 w0_1 w0_2 w0_3 (w0_4 / (2:Int32))) (own_at [w0_1, w0_2, w0_3] (own_v1199 w0_4))) = (0:Int32)) → own_In (own_at [w0_1, w0_2, w0_3] (own_v1200 w0_4)) (own_v223 w0_1 w0_2 w0_3 (w0_4 / (2:Int32)) (own_v1199 w0_4)).length)) := by decide +kernel
theorem own_fin1698 : ∀ w0_1 ∈ own_L3, ∀ w0_2 ∈ own_L3, ∀ w0_3 ∈ own_L3, ∀ w0_4 ∈ own_L6, ((((own_at (own_v100 w0_1 w0_2 w0_3 (w0_4 / (2:Int32))) (own_at [w0_1, w0_2, w0_3] (own_v1199 w0_4))) = (0:Int32)) → ((own_at (own_v223 w0_1 w0_2 w0_3 (w0_4 / (2:Int32)) (own_v1199 w0_4)) (own_at [w0_1, w0_2, w0_3] (own_v1200 w0_4))) = (0:Int32)) → own_In (own_at [w0_1, w0_2, w0_3] (own_v1200 w0_4)) (own_v223 w0_1 w0_2 w0_3 (w0_4 / (2:Int32)) (own_v1199 w0_4)).length)) := by decide +kernel
theorem own_fin1700 : ∀ w0_1 ∈ own_L3, ∀ w0_2 ∈ own_L3, ∀ w0_3 ∈ own_L3, ∀ w0_4 ∈ own_L6, ((((own_at (own_v100 w0_1 w0_2 w0_3 (w0_4 / (2:Int32))) (own_at [w0_1, w0_2, w0_3] (own_v1199 w0_4))) = (0:Int32)) → ((own_at (own_v223 w0_1 w0_2 w0_3 (w0_4 / (2:Int32)) (own_v1199 w0_4)) (own_at [w0_1, w0_2, w0_3] (own_v1200 w0_4))) = (0:Int32)) → own_In (own_at [w0_1, w0_2, w0_3] (w0_4 / (2:Int32))) (own_v524 w0_1 w0_2 w0_3 (w0_4 / (2:Int32)) (own_v1199 w0_4) (own_v1200 w0_4)).length)) := by decide +kernel
theorem own_fin1702 : ∀ w0_1 ∈ own_L3, ∀ w0_2 ∈ own_L3, ∀ w0_3 ∈ own_L3, ∀ w0_4 ∈ own_L6, ((((own_at (own_v100 w0_1 w0_2 w0_3 (w0_4 / (2:Int32))) (own_at [w0_1, w0_2, w0_3] (own_v1199 w0_4))) = (0:Int32)) → ((own_at (own_v223 w0_1 w0_2 w0_3 (w0_4 / (2:Int32)) (own_v1199 w0_4)) (own_at [w0_1, w0_2, w0_3] (own_v1200 w0_4))) = (0:Int32)) → own_In (own_at [w0_1, w0_2, w0_3] (own_v1199 w0_4)) (own_v541 w0_1 w0_2 w0_3 (w0_4 / (2:Int32)) (own_v1199 w0_4) (own_v1200 w0_4)).length)) := by decide +kernel
theorem own_fin1704 : ∀ w0_1 ∈ own_L3, ∀ w0_2 ∈ own_L3, ∀ w0_3 ∈ own_L3, ∀ w0_4 ∈ own_L6, ((((own_at (own_v100 w0_1 w0_2 w0_3 (w0_4 / (2:Int32))) (own_at [w0_1, w0_2, w0_3] (own_v1199 w0_4))) = (0:Int32)) → ((own_at (own_v223 w0_1 w0_2 w0_3 (w0_4 / (2:Int32)) (own_v1199 w0_4)) (own_at [w0_1, w0_2, w0_3] (own_v1200 w0_4))) = (0:Int32)) → own_In (own_at [w0_1, w0_2, w0_3] (own_v1200 w0_4)) (own_v556 w0_1 w0_2 w0_3 (w0_4 / (2:Int32)) (own_v1199 w0_4) (own_v1200 w0_4)).length)) := by decide +kernel
theorem own_fin1706 : ∀ w0_1 ∈ own_L3, ∀ w0_2 ∈ own_L3, ∀ w0_3 ∈ own_L3, ∀ w0_4 ∈ own_L6, ((((own_at (own_v100 w0_1 w0_2 w0_3 (w0_4 / (2:Int32))) (own_at [w0_1, w0_2, w0_3] (own_v1199 w0_4))) = (0:Int32)) → ((own_at (own_v223 w0_1 w0_2 w0_3 (w0_4 / (2:Int32)) (own_v1199 w0_4)) (own_at [w0_1, w0_2, w0_3] (own_v1200 w0_4))) = (0:Int32)) → own_In (own_v1200 w0_4) [w0_1, w0_2, w0_3].length)) := by decide +kernel
theorem own_fin1708 : ∀ w0_1 ∈ own_L3, ∀ w0_2 ∈ own_L3, ∀ w0_3 ∈ own_L3, ∀ w0_4 ∈ own_L6, ((((own_at (own_v100 w0_1 w0_2 w0_3 (w0_4 / (2:Int32))) (own_at [w0_1, w0_2, w0_3] (own_v1199 w0_4))) = (0:Int32)) → ((own_at (own_v223 w0_1 w0_2 w0_3 (w0_4 / (2:Int32)) (own_v1199 w0_4)) (own_at [w0_1, w0_2, w0_3] (own_v1200 w0_4))) = (0:Int32)) → own_In (own_at [w0_1, w0_2, w0_3] (own_v1200 w0_4)) (own_v571 w0_1 w0_2 w0_3 (w0_4 / (2:Int32)) (own_v1199 w0_4) (own_v1200 w0_4)).length)) := by decide +kernel
theorem own_fin1710 : ∀ w0_1 ∈ own_L3, ∀ w0_2 ∈ own_L3, ∀ w0_3 ∈ own_L3, ∀ w0_4 ∈ own_L6, ((((own_at (own_v100 w0_1 w0_2 w0_3 (w0_4 / (2:Int32))) (own_at [w0_1, w0_2, w0_3] (own_v1199 w0_4))) = (0:Int32)) → ((own_at (own_v223 w0_1 w0_2 w0_3 (w0_4 / (2:Int32)) (own_v1199 w0_4)) (own_at [w0_1, w0_2, w0_3] (own_v1200 w0_4))) = (0:Int32)) → own_In (own_at [w0_1, w0_2, w0_3] (own_v1200 w0_4)) (own_v592 w0_1 w0_2 w0_3 (w0_4 / (2:Int32)) (own_v1199 w0_4) (own_v1200 w0_4)).length)) := by decide +kernel
theorem own_fin1712 : ∀ w0_1 ∈ own_L3, ∀ w0_2 ∈ own_L3, ∀ w0_3 ∈ own_L3, ∀ w0_4 ∈ own_L6, ((((own_at (own_v100 w0_1 w0_2 w0_3 (w0_4 / (2:Int32))) (own_at [w0_1, w0_2, w0_3] (own_v1199 w0_4))) = (0:Int32)) → ((own_at (own_v223 w0_1 w0_2 w0_3 (w0_4 / (2:Int32)) (own_v1199 w0_4)) (own_at [w0_1, w0_2, w0_3] (own_v1200 w0_4))) = (0:Int32)) → own_In (own_at (own_v592 w0_1 w0_2 w0_3 (w0_4 / (2:Int32)) (own_v1199 w0_4) (own_v1200 w0_4)) (own_at [w0_1, w0_2, w0_3] (own_v1200 w0_4))) [(0:Int32), (0:Int32), (0:Int32)].length)) := by decide +kernel
theorem own_fin1714 : ∀ w0_1 ∈ own_L3, ∀ w0_2 ∈ own_L3, ∀ w0_3 ∈ own_L3, ∀ w0_4 ∈ own_L6, ((((own_at (own_v100 w0_1 w0_2 w0_3 (w0_4 / (2:Int32))) (own_at [w0_1, w0_2, w0_3] (own_v1199 w0_4))) = (0:Int32)) → ((own_at (own_v223 w0_1 w0_2 w0_3 (w0_4 / (2:Int32)) (own_v1199 w0_4)) (own_at [w0_1, w0_2, w0_3] (own_v1200 w0_4))) = (0:Int32)) → own_In (own_v1199 w0_4) [w0_1, w0_2, w0_3].length)) := by decide +kernel
theorem own_fin1716 : ∀ w0_1 ∈ own_L3, ∀ w0_2 ∈ own_L3, ∀ w0_3 ∈ own_L3, ∀ w0_4 ∈ own_L6, ((((own_at (own_v100 w0_1 w0_2 w0_3 (w0_4 / (2:Int32))) (own_at [w0_1, w0_2, w0_3] (own_v1199 w0_4))) = (0:Int32)) → ((own_at (own_v223 w0_1 w0_2 w0_3 (w0_4 / (2:Int32)) (own_v1199 w0_4)) (own_at [w0_1, w0_2, w0_3] (own_v1200 w0_4))) = (0:Int32)) → own_In (own_at [w0_1, w0_2, w0_3] (own_v1199 w0_4)) (own_v592 w0_1 w0_2 w0_3 (w0_4 / (2:Int32)) (own_v1199 w0_4) (own_v1200 w0_4)).length)) := by decide +kernel
theorem own_fin1718 : ∀ w0_1 ∈ own_L3, ∀ w0_2 ∈ own_L3, ∀ w0_3 ∈ own_L3, ∀ w0_4 ∈ own_L6, ((((own_at (own_v100 w0_1 w0_2 w0_3 (w0_4 / (2:Int32))) (own_at [w0_1, w0_2, w0_3] (own_v1199 w0_4))) = (0:Int32)) → ((own_at (own_v223 w0_1 w0_2 w0_3 (w0_4 / (2:Int32)) (own_v1199 w0_4)) (own_at [w0_1, w0_2, w0_3] (own_v1200 w0_4))) = (0:Int32)) → own_In (own_at [w0_1, w0_2, w0_3] (own_v1199 w0_4)) (own_v622 w0_1 w0_2 w0_3 (w0_4 / (2:Int32)) (own_v1199 w0_4) (own_v1200 w0_4)).length)) := by decide +kernel
theorem own_fin1720 : ∀ w0_1 ∈ own_L3, ∀ w0_2 ∈ own_L3, ∀ w0_3 ∈ own_L3, ∀ w0_4 ∈ own_L6, ((((own_at (own_v100 w0_1 w0_2 w0_3 (w0_4 / (2:Int32))) (own_at [w0_1, w0_2, w0_3] (own_v1199 w0_4))) = (0:Int32)) → ((own_at (own_v223 w0_1 w0_2 w0_3 (w0_4 / (2:Int32)) (own_v1199 w0_4)) (own_at [w0_1, w0_2, w0_3] (own_v1200 w0_4))) = (0:Int32)) → own_In (own_at (own_v622 w0_1 w0_2 w0_3 (w0_4 / (2:Int32)) (own_v1199 w0_4) (own_v1200 w0_4)) (own_at [w0_1, w0_2, w0_3] (own_v1199 w0_4))) (own_v604 w0_1 w0_2 w0_3 (w0_4 / (2:Int32)) (own_v1199 w0_4) (own_v1200 w0_4)).length)) := by decide +kernel
theorem own_fin1722 : ∀ w0_1 ∈ own_L3, ∀ w0_2 ∈ own_L3, ∀ w0_3 ∈ own_L3, ∀ w0_4 ∈ own_L6, ((((own_at (own_v100 w0_1 w0_2 w0_3 (w0_4 / (2:Int32))) (own_at [w0_1, w0_2, w0_3] (own_v1199 w0_4))) = (0:Int32)) → ((own_at (own_v223 w0_1 w0_2 w0_3 (w0_4 / (2:Int32)) (own_v1199 w0_4)) (own_at [w0_1, w0_2, w0_3] (own_v1200 w0_4))) = (0:Int32)) → own_In (w0_4 / (2:Int32)) [w0_1, w0_2, w0_3].length)) := by decide +kernel
theorem own_fin1724 : ∀ w0_1 ∈ own_L3, ∀ w0_2 ∈ own_L3, ∀ w0_3 ∈ own_L3, ∀ w0_4 ∈ own_L6, ((((own_at (own_v100 w0_1 w0_2 w0_3 (w0_4 / (2:Int32))) (own_at [w0_1, w0_2, w0_3] (own_v1199 w0_4))) = (0:Int32)) → ((own_at (own_v223 w0_1 w0_2 w0_3 (w0_4 / (2:Int32)) (own_v1199 w0_4)) (own_at [w0_1, w0_2, w0_3] (own_v1200 w0_4))) = (0:Int32)) → own_In (own_at [w0_1, w0_2, w0_3] (w0_4 / (2:Int32))) (own_v622 w0_1 w0_2 w0_3 (w0_4 / (2:Int32)) (own_v1199 w0_4) (own_v1200 w0_4)).length)) := by decide +kernel
theorem own_fin1726 : ∀ w0_1 ∈ own_L3, ∀ w0_2 ∈ own_L3, ∀ w0_3 ∈ own_L3, ∀ w0_4 ∈ own_L6, ((((own_at (own_v100 w0_1 w0_2 w0_3 (w0_4 / (2:Int32))) (own_at [w0_1, w0_2, w0_3] (own_v1199 w0_4))) = (0:Int32)) → ((own_at (own_v223 w0_1 w0_2 w0_3 (w0_4 / (2:Int32)) (own_v1199 w0_4)) (own_at [w0_1, w0_2, w0_3] (own_v1200 w0_4))) = (0:Int32)) → own_In (own_at [w0_1, w0_2, w0_3] (w0_4 / (2:Int32))) (own_v652 w0_1 w0_2 w0_3 (w0_4 / (2:Int32)) (own_v1199 w0_4) (own_v1200 w0_4)).length)) := by decide +kernel
theorem own_fin1728 : ∀ w0_1 ∈ own_L3, ∀ w0_2 ∈ own_L3, ∀ w0_3 ∈ own_L3, ∀ w0_4 ∈ own_L6, ((((own_at (own_v100 w0_1 w0_2 w0_3 (w0_4 / (2:Int32))) (own_at [w0_1, w0_2, w0_3] (own_v1199 w0_4))) = (0:Int32)) → ((own_at (own_v223 w0_1 w0_2 w0_3 (w0_4 / (2:Int32)) (own_v1199 w0_4)) (own_at [w0_1, w0_2, w0_3] (own_v1200 w0_4))) = (0:Int32)) → own_In (own_at (own_v652 w0_1 w0_2 w0_3 (w0_4 / (2:Int32)) (own_v1199 w0_4) (own_v1200 w0_4)) (own_at [w0_1, w0_2, w0_3] (w0_4 / (2:Int32)))) (own_v634 w0_1 w0_2 w0_3 (w0_4 / (2:Int32)) (own_v1199 w0_4) (own_v1200 w0_4)).length)) := by decide +kernel
theorem own_fin1730 : ∀ w0_1 ∈ own_L3, ∀ w0_2 ∈ own_L3, ∀ w0_3 ∈ own_L3, ∀ w0_4 ∈ own_L6, ((((own_at (own_v100 w0_1 w0_2 w0_3 (w0_4 / (2:Int32))) (own_at [w0_1, w0_2, w0_3] (own_v1199 w0_4))) = (0:Int32)) → (¬ ((own_at (own_v223 w0_1 w0_2 w0_3 (w0_4 / (2:Int32)) (own_v1199 w0_4)) (own_at [w0_1, w0_2, w0_3] (own_v1200 w0_4))) = (0:Int32))) → own_In (own_at [w0_1, w0_2, w0_3] (own_v1200 w0_4)) (own_v223 w0_1 w0_2 w0_3 (w0_4 / (2:Int32)) (own_v1199 w0_4)).length)) := by decide +kernel
theorem own_fin1732 : ∀ w0_1 ∈ own_L3, ∀ w0_2 ∈ own_L3, ∀ w0_3 ∈ own_L3, ∀ w0_4 ∈ own_L6, ((((own_at (own_v100 w0_1 w0_2 w0_3 (w0_4 / (2:Int32))) (own_at [w0_1, w0_2, w0_3] (own_v1199 w0_4))) = (0:Int32)) → (¬ ((own_at (own_v223 w0_1 w0_2 w0_3 (w0_4 / (2:Int32)) (own_v1199 w0_4)) (own_at [w0_1, w0_2, w0_3] (own_v1200 w0_4))) = (0:Int32))) → own_In (own_at [w0_1, w0_2, w0_3] (w0_4 / (2:Int32))) (own_v524 w0_1 w0_2 w0_3 (w0_4 / (2:Int32)) (own_v1199 w0_4) (own_v1200 w0_4)).length)) := by decide +kernel
theorem own_fin1734 : ∀ w0_1 ∈ own_L3, ∀ w0_2 ∈ own_L3, ∀ w0_3 ∈ own_L3, ∀ w0_4 ∈ own_L6, ((((own_at (own_v100 w0_1 w0_2 w0_3 (w0_4 / (2:Int32))) (own_at [w0_1, w0_2, w0_3] (own_v1199 w0_4))) = (0:Int32)) → (¬ ((own_at (own_v223 w0_1 w0_2 w0_3 (w0_4 / (2:Int32)) (own_v1199 w0_4)) (own_at [w0_1, w0_2, w0_3] (own_v1200 w0_4))) = (0:Int32))) → own_In (own_at [w0_1, w0_2, w0_3] (own_v1199 w0_4)) (own_v541 w0_1 w0_2 w0_3 (w0_4 / (2:Int32)) (own_v1199 w0_4) (own_v1200 w0_4)).length)) := by decide +kernel
theorem own_fin1736 : ∀ w0_1 ∈ own_L3, ∀ w0_2 ∈ own_L3, ∀ w0_3 ∈ own_L3, ∀ w0_4 ∈ own_L6, ((((own_at (own_v100 w0_1 w0_2 w0_3 (w0_4 / (2:Int32))) (own_at [w0_1, w0_2, w0_3] (own_v1199 w0_4))) = (0:Int32)) → (¬ ((own_at (own_v223 w0_1 w0_2 w0_3 (w0_4 / (2:Int32)) (own_v1199 w0_4)) (own_at [w0_1, w0_2, w0_3] (own_v1200 w0_4))) = (0:Int32))) → own_In (own_v1200 w0_4) [w0_1, w0_2, w0_3].length)) := by decide +kernel
theorem own_fin1738 : ∀ w0_1 ∈ own_L3, ∀ w0_2 ∈ own_L3, ∀ w0_3 ∈ own_L3, ∀ w0_4 ∈ own_L6, ((((own_at (own_v100 w0_1 w0_2 w0_3 (w0_4 / (2:Int32))) (own_at [w0_1, w0_2, w0_3] (own_v1199 w0_4))) = (0:Int32)) → (¬ ((own_at (own_v223 w0_1 w0_2 w0_3 (w0_4 / (2:Int32)) (own_v1199 w0_4)) (own_at [w0_1, w0_2, w0_3] (own_v1200 w0_4))) = (0:Int32))) → own_In (own_at [w0_1, w0_2, w0_3] (own_v1200 w0_4)) (own_v556 w0_1 w0_2 w0_3 (w0_4 / (2:Int32)) (own_v1199 w0_4) (own_v1200 w0_4)).length)) := by decide +kernel
theorem own_fin1740 : ∀ w0_1 ∈ own_L3, ∀ w0_2 ∈ own_L3, ∀ w0_3 ∈ own_L3, ∀ w0_4 ∈ own_L6, ((((own_at (own_v100 w0_1 w0_2 w0_3 (w0_4 / (2:Int32))) (own_at [w0_1, w0_2, w0_3] (own_v1199 w0_4))) = (0:Int32)) → (¬ ((own_at (own_v223 w0_1 w0_2 w0_3 (w0_4 / (2:Int32)) (own_v1199 w0_4)) (own_at [w0_1, w0_2, w0_3] (own_v1200 w0_4))) = (0:Int32))) → own_In (own_at [w0_1, w0_2, w0_3] (own_v1200 w0_4)) (own_v732 w0_1 w0_2 w0_3 (w0_4 / (2:Int32)) (own_v1199 w0_4) (own_v1200 w0_4)).length)) := by decide +kernel
theorem own_fin1742 : ∀ w0_1 ∈ own_L3, ∀ w0_2 ∈ own_L3, ∀ w0_3 ∈ own_L3, ∀ w0_4 ∈ own_L6, ((((own_at (own_v100 w0_1 w0_2 w0_3 (w0_4 / (2:Int32))) (own_at [w0_1, w0_2, w0_3] (own_v1199 w0_4))) = (0:Int32)) → (¬ ((own_at (own_v223 w0_1 w0_2 w0_3 (w0_4 / (2:Int32)) (own_v1199 w0_4)) (own_at [w0_1, w0_2, w0_3] (own_v1200 w0_4))) = (0:Int32))) → own_In (own_at (own_v732 w0_1 w0_2 w0_3 (w0_4 / (2:Int32)) (own_v1199 w0_4) (own_v1200 w0_4)) (own_at [w0_1, w0_2, w0_3] (own_v1200 w0_4))) [(0:Int32), (0:Int32), (0:Int32)].length)) := by decide +kernel
theorem own_fin1744 : ∀ w0_1 ∈ own_L3, ∀ w0_2 ∈ own_L3, ∀ w0_3 ∈ own_L3, ∀ w0_4 ∈ own_L6, ((((own_at (own_v100 w0_1 w0_2 w0_3 (w0_4 / (2:Int32))) (own_at [w0_1, w0_2, w0_3] (own_v1199 w0_4))) = (0:Int32)) → (¬ ((own_at (own_v223 w0_1 w0_2 w0_3 (w0_4 / (2:Int32)) (own_v1199 w0_4)) (own_at [w0_1, w0_2, w0_3] (own_v1200 w0_4))) = (0:Int32))) → own_In (own_v1199 w0_4) [w0_1, w0_2, w0_3].length)) := by decide +kernel
theorem own_fin1746 : ∀ w0_1 ∈ own_L3, ∀ w0_2 ∈ own_L3, ∀ w0_3 ∈ own_L3, ∀ w0_4 ∈ own_L6, ((((own_at (own_v100 w0_1 w0_2 w0_3 (w0_4 / (2:Int32))) (own_at [w0_1, w0_2, w0_3] (own_v1199 w0_4))) = (0:Int32)) → (¬ ((own_at (own_v223 w0_1 w0_2 w0_3 (w0_4 / (2:Int32)) (own_v1199 w0_4)) (own_at [w0_1, w0_2, w0_3] (own_v1200 w0_4))) = (0:Int32))) → own_In (own_at [w0_1, w0_2, w0_3] (own_v1199 w0_4)) (own_v732 w0_1 w0_2 w0_3 (w0_4 / (2:Int32)) (own_v1199 w0_4) (own_v1200 w0_4)).length)) := by decide +kernel
theorem own_fin1748 : ∀ w0_1 ∈ own_L3, ∀ w0_2 ∈ own_L3, ∀ w0_3 ∈ own_L3, ∀ w0_4 ∈ own_L6, ((((own_at (own_v100 w0_1 w0_2 w0_3 (w0_4 / (2:Int32))) (own_at [w0_1, w0_2, w0_3] (own_v1199 w0_4))) = (0:Int32)) → (¬ ((own_at (own_v223 w0_1 w0_2 w0_3 (w0_4 / (2:Int32)) (own_v1199 w0_4)) (own_at [w0_1, w0_2, w0_3] (own_v1200 w0_4))) = (0:Int32))) → own_In (own_at [w0_1, w0_2, w0_3] (own_v1199 w0_4)) (own_v762 w0_1 w0_2 w0_3 (w0_4 / (2:Int32)) (own_v1199 w0_4) (own_v1200 w0_4)).length)) := by decide +kernel
theorem own_fin1750 : ∀ w0_1 ∈ own_L3, ∀ w0_2 ∈ own_L3, ∀ w0_3 ∈ own_L3, ∀ w0_4 ∈ own_L6, ((((own_at (own_v100 w0_1 w0_2 w0_3 (w0_4 / (2:Int32))) (own_at [w0_1, w0_2, w0_3] (own_v1199 w0_4))) = (0:Int32)) → (¬ ((own_at (own_v223 w0_1 w0_2 w0_3 (w0_4 / (2:Int32)) (own_v1199 w0_4)) (own_at [w0_1, w0_2, w0_3] (own_v1200 w0_4))) = (0:Int32))) → own_In (own_at (own_v762 w0_1 w0_2 w0_3 (w0_4 / (2:Int32)) (own_v1199 w0_4) (own_v1200 w0_4)) (own_at [w0_1, w0_2, w0_3] (own_v1199 w0_4))) (own_v744 w0_1 w0_2 w0_3 (w0_4 / (2:Int32)) (own_v1199 w0_4) (own_v1200 w0_4)).length)) := by decide +kernel
theorem own_fin1752 : ∀ w0_1 ∈ own_L3, ∀ w0_2 ∈ own_L3, ∀ w0_3 ∈ own_L3, ∀ w0_4 ∈ own_L6, ((((own_at (own_v100 w0_1 w0_2 w0_3 (w0_4 / (2:Int32))) (own_at [w0_1, w0_2, w0_3] (own_v1199 w0_4))) = (0:Int32)) → (¬ ((own_at (own_v223 w0_1 w0_2 w0_3 (w0_4 / (2:Int32)) (own_v1199 w0_4)) (own_at [w0_1, w0_2, w0_3] (own_v1200 w0_4))) = (0:Int32))) → own_In (w0_4 / (2:Int32)) [w0_1, w0_2, w0_3].length)) := by decide +kernel
theorem own_fin1754 : ∀ w0_1 ∈ own_L3, ∀ w0_2 ∈ own_L3, ∀ w0_3 ∈ own_L3, ∀ w0_4 ∈ own_L6, ((((own_at (own_v100 w0_1 w0_2 w0_3 (w0_4 / (2:Int32))) (own_at [w0_1, w0_2, w0_3] (own_v1199 w0_4))) = (0:Int32)) → (¬ ((own_at (own_v223 w0_1 w0_2 w0_3 (w0_4 / (2:Int32)) (own_v1199 w0_4)) (own_at [w0_1, w0_2, w0_3] (own_v1200 w0_4))) = (0:Int32))) → own_In (own_at [w0_1, w0_2, w0_3] (w0_4 / (2:Int32))) (own_v762 w0_1 w0_2 w0_3 (w0_4 / (2:Int32)) (own_v1199 w0_4) (own_v1200 w0_4)).length)) := by decide +kernel
theorem own_fin1756 : ∀ w0_1 ∈ own_L3, ∀ w0_2 ∈ own_L3, ∀ w0_3 ∈ own_L3, ∀ w0_4 ∈ own_L6, ((((own_at (own_v100 w0_1 w0_2 w0_3 (w0_4 / (2:Int32))) (own_at [w0_1, w0_2, w0_3] (own_v1199 w0_4))) = (0:Int32)) → (¬ ((own_at (own_v223 w0_1 w0_2 w0_3 (w0_4 / (2:Int32)) (own_v1199 w0_4)) (own_at [w0_1, w0_2, w0_3] (own_v1200 w0_4))) = (0:Int32))) → own_In (own_at [w0_1, w0_2, w0_3] (w0_4 / (2:Int32))) (own_v792 w0_1 w0_2 w0_3 (w0_4 / (2:Int32)) (own_v1199 w0_4) (own_v1200 w0_4)).length)) := by decide +kernel
theorem own_fin1758 : ∀ w0_1 ∈ own_L3, ∀ w0_2 ∈ own_L3, ∀ w0_3 ∈ own_L3, ∀ w0_4 ∈ own_L6, ((((own_at (own_v100 w0_1 w0_2 w0_3 (w0_4 / (2:Int32))) (own_at [w0_1, w0_2, w0_3] (own_v1199 w0_4))) = (0:Int32)) → (¬ ((own_at (own_v223 w0_1 w0_2 w0_3 (w0_4 / (2:Int32)) (own_v1199 w0_4)) (own_at [w0_1, w0_2, w0_3] (own_v1200 w0_4))) = (0:Int32))) → own_In (own_at (own_v792 w0_1 w0_2 w0_3 (w0_4 / (2:Int32)) (own_v1199 w0_4) (own_v1200 w0_4)) (own_at [w0_1, w0_2, w0_3] (w0_4 / (2:Int32)))) (own_v774 w0_1 w0_2 w0_3 (w0_4 / (2:Int32)) (own_v1199 w0_4) (own_v1200 w0_4)).length)) := by decide +kernel
theorem own_fin1760 : ∀ w0_1 ∈ own_L3, ∀ w0_2 ∈ own_L3, ∀ w0_3 ∈ own_L3, ∀ w0_4 ∈ own_L6, (((¬ ((own_at (own_v100 w0_1 w0_2 w0_3 (w0_4 / (2:Int32))) (own_at [w0_1, w0_2, w0_3] (own_v1199 w0_4))) = (0:Int32))) → own_In (own_at [w0_1, w0_2, w0_3] (own_v1199 w0_4)) (own_v100 w0_1 w0_2 w0_3 (w0_4 / (2:Int32))).length)) := by decide +kernel
theorem own_fin1762 : ∀ w0_1 ∈ own_L3, ∀ w0_2 ∈ own_L3, ∀ w0_3 ∈ own_L3, ∀ w0_4 ∈ own_L6, (((¬ ((own_at (own_v100 w0_1 w0_2 w0_3 (w0_4 / (2:Int32))) (own_at [w0_1, w0_2, w0_3] (own_v1199 w0_4))) = (0:Int32))) → own_In (own_v1200 w0_4) [w0_1, w0_2, w0_3].length)) := by decide +kernel
theorem own_fin1764 : ∀ w0_1 ∈ own_L3, ∀ w0_2 ∈ own_L3, ∀ w0_3 ∈ own_L3, ∀ w0_4 ∈ own_L6, (((¬ ((own_at (own_v100 w0_1 w0_2 w0_3 (w0_4 / (2:Int32))) (own_at [w0_1, w0_2, w0_3] (own_v1199 w0_4))) = (0:Int32))) → own_In (own_at [w0_1, w0_2, w0_3] (own_v1200 w0_4)) (own_v223 w0_1 w0_2 w0_3 (w0_4 / (2:Int32)) (own_v1199 w0_4)).length)) := by decide +kernel
theorem own_fin1766 : ∀ w0_1 ∈ own_L3, ∀ w0_2 ∈ own_L3, ∀ w0_3 ∈ own_L3, ∀ w0_4 ∈ own_L6, (((¬ ((own_at (own_v100 w0_1 w0_2 w0_3 (w0_4 / (2:Int32))) (own_at [w0_1, w0_2, w0_3] (own_v1199 w0_4))) = (0:Int32))) → ((own_at (own_v223 w0_1 w0_2 w0_3 (w0_4 / (2:Int32)) (own_v1199 w0_4)) (own_at [w0_1, w0_2, w0_3] (own_v1200 w0_4))) = (0:Int32)) → own_In (own_at [w0_1, w0_2, w0_3] (own_v1200 w0_4)) (own_v223 w0_1 w0_2 w0_3 (w0_4 / (2:Int32)) (own_v1199 w0_4)).length)) := by decide +kernel
theorem own_fin1768 : ∀ w0_1 ∈ own_L3, ∀ w0_2 ∈ own_L3, ∀ w0_3 ∈ own_L3, ∀ w0_4 ∈ own_L6, (((¬ ((own_at (own_v100 w0_1 w0_2 w0_3 (w0_4 / (2:Int32))) (own_at [w0_1, w0_2, w0_3] (own_v1199 w0_4))) = (0:Int32))) → ((own_at (own_v223 w0_1 w0_2 w0_3 (w0_4 / (2:Int32)) (own_v1199 w0_4)) (own_at [w0_1, w0_2, w0_3] (own_v1200 w0_4))) = (0:Int32)) → own_In (own_at [w0_1, w0_2, w0_3] (w0_4 / (2:Int32))) (own_v524 w0_1 w0_2 w0_3 (w0_4 / (2:Int32)) (own_v1199 w0_4) (own_v1200 w0_4)).length)) := by decide +kernel
theorem own_fin1770 : ∀ w0_1 ∈ own_L3, ∀ w0_2 ∈ own_L3, ∀ w0_3 ∈ own_L3, ∀ w0_4 ∈ own_L6, (((¬ ((own_at (own_v100 w0_1 w0_2 w0_3 (w0_4 / (2:Int32))) (own_at [w0_1, w0_2, w0_3] (own_v1199 w0_4))) = (0:Int32))) → ((own_at (own_v223 w0_1 w0_2 w0_3 (w0_4 / (2:Int32)) (own_v1199 w0_4)) (own_at [w0_1, w0_2, w0_3] (own_v1200 w0_4))) = (0:Int32)) → own_In (own_at [w0_1, w0_2, w0_3] (own_v1200 w0_4)) (own_v541 w0_1 w0_2 w0_3 (w0_4 / (2:Int32)) (own_v1199 w0_4) (own_v1200 w0_4)).length)) := by decide +kernel
theorem own_fin1772 : ∀ w0_1 ∈ own_L3, ∀ w0_2 ∈ own_L3, ∀ w0_3 ∈ own_L3, ∀ w0_4 ∈ own_L6, (((¬ ((own_at (own_v100 w0_1 w0_2 w0_3 (w0_4 / (2:Int32))) (own_at [w0_1, w0_2, w0_3] (own_v1199 w0_4))) = (0:Int32))) → ((own_at (own_v223 w0_1 w0_2 w0_3 (w0_4 / (2:Int32)) (own_v1199 w0_4)) (own_at [w0_1, w0_2, w0_3] (own_v1200 w0_4))) = (0:Int32)) → own_In (own_v1200 w0_4) [w0_1, w0_2, w0_3].length)) := by decide +kernel
theorem own_fin1774 : ∀ w0_1 ∈ own_L3, ∀ w0_2 ∈ own_L3, ∀ w0_3 ∈ own_L3, ∀ w0_4 ∈ own_L6, (((¬ ((own_at (own_v100 w0_1 w0_2 w0_3 (w0_4 / (2:Int32))) (own_at [w0_1, w0_2, w0_3] (own_v1199 w0_4))) = (0:Int32))) → ((own_at (own_v223 w0_1 w0_2 w0_3 (w0_4 / (2:Int32)) (own_v1199 w0_4)) (own_at [w0_1, w0_2, w0_3] (own_v1200 w0_4))) = (0:Int32)) → own_In (own_at [w0_1, w0_2, w0_3] (own_v1200 w0_4)) (own_v888 w0_1 w0_2 w0_3 (w0_4 / (2:Int32)) (own_v1199 w0_4) (own_v1200 w0_4)).length)) := by decide +kernel
theorem own_fin1776 : ∀ w0_1 ∈ own_L3, ∀ w0_2 ∈ own_L3, ∀ w0_3 ∈ own_L3, ∀ w0_4 ∈ own_L6, (((¬ ((own_at (own_v100 w0_1 w0_2 w0_3 (w0_4 / (2:Int32))) (own_at [w0_1, w0_2, w0_3] (own_v1199 w0_4))) = (0:Int32))) → ((own_at (own_v223 w0_1 w0_2 w0_3 (w0_4 / (2:Int32)) (own_v1199 w0_4)) (own_at [w0_1, w0_2, w0_3] (own_v1200 w0_4))) = (0:Int32)) → own_In (own_at [w0_1, w0_2, w0_3] (own_v1200 w0_4)) (own_v909 w0_1 w0_2 w0_3 (w0_4 / (2:Int32)) (own_v1199 w0_4) (own_v1200 w0_4)).length)) := by decide +kernel
theorem own_fin1778 : ∀ w0_1 ∈ own_L3, ∀ w0_2 ∈ own_L3, ∀ w0_3 ∈ own_L3, ∀ w0_4 ∈ own_L6, (((¬ ((own_at (own_v100 w0_1 w0_2 w0_3 (w0_4 / (2:Int32))) (own_at [w0_1, w0_2, w0_3] (own_v1199 w0_4))) = (0:Int32))) → ((own_at (own_v223 w0_1 w0_2 w0_3 (w0_4 / (2:Int32)) (own_v1199 w0_4)) (own_at [w0_1, w0_2, w0_3] (own_v1200 w0_4))) = (0:Int32)) → own_In (own_at (own_v909 w0_1 w0_2 w0_3 (w0_4 / (2:Int32)) (own_v1199 w0_4) (own_v1200 w0_4)) (own_at [w0_1, w0_2, w0_3] (own_v1200 w0_4))) [(0:Int32), (0:Int32), (0:Int32)].length)) := by decide +kernel
theorem own_fin1780 : ∀ w0_1 ∈ own_L3, ∀ w0_2 ∈ own_L3, ∀ w0_3 ∈ own_L3, ∀ w0_4 ∈ own_L6, (((¬ ((own_at (own_v100 w0_1 w0_2 w0_3 (w0_4 / (2:Int32))) (own_at [w0_1, w0_2, w0_3] (own_v1199 w0_4))) = (0:Int32))) → ((own_at (own_v223 w0_1 w0_2 w0_3 (w0_4 / (2:Int32)) (own_v1199 w0_4)) (own_at [w0_1, w0_2, w0_3] (own_v1200 w0_4))) = (0:Int32)) → own_In (own_v1199 w0_4) [w0_1, w0_2, w0_3].length)) := by decide +kernel
theorem own_fin1782 : ∀ w0_1 ∈ own_L3, ∀ w0_2 ∈ own_L3, ∀ w0_3 ∈ own_L3, ∀ w0_4 ∈ own_L6, (((¬ ((own_at (own_v100 w0_1 w0_2 w0_3 (w0_4 / (2:Int32))) (own_at [w0_1, w0_2, w0_3] (own_v1199 w0_4))) = (0:Int32))) → ((own_at (own_v223 w0_1 w0_2 w0_3 (w0_4 / (2:Int32)) (own_v1199 w0_4)) (own_at [w0_1, w0_2, w0_3] (own_v1200 w0_4))) = (0:Int32)) → own_In (own_at [w0_1, w0_2, w0_3] (own_v1199 w0_4)) (own_v909 w0_1 w0_2 w0_3 (w0_4 / (2:Int32)) (own_v1199 w0_4) (own_v1200 w0_4)).length)) := by decide +kernel
theorem own_fin1784 : ∀ w0_1 ∈ own_L3, ∀ w0_2 ∈ own_L3, ∀ w0_3 ∈ own_L3, ∀ w0_4 ∈ own_L6, (((¬ ((own_at (own_v100 w0_1 w0_2 w0_3 (w0_4 / (2:Int32))) (own_at [w0_1, w0_2, w0_3] (own_v1199 w0_4))) = (0:Int32))) → ((own_at (own_v223 w0_1 w0_2 w0_3 (w0_4 / (2:Int32)) (own_v1199 w0_4)) (own_at [w0_1, w0_2, w0_3] (own_v1200 w0_4))) = (0:Int32)) → own_In (own_at [w0_1, w0_2, w0_3] (own_v1199 w0_4)) (own_v939 w0_1 w0_2 w0_3 (w0_4 / (2:Int32)) (own_v1199 w0_4) (own_v1200 w0_4)).length)) := by decide +kernel
theorem own_fin1786 : ∀ w0_1 ∈ own_L3, ∀ w0_2 ∈ own_L3, ∀ w0_3 ∈ own_L3, ∀ w0_4 ∈ own_L6, (((¬ ((own_at (own_v100 w0_1 w0_2 w0_3 (w0_4 / (2:Int32))) (own_at [w0_1, w0_2, w0_3] (own_v1199 w0_4))) = (0:Int32))) → ((own_at (own_v223 w0_1 w0_2 w0_3 (w0_4 / (2:Int32)) (own_v1199 w0_4)) (own_at [w0_1, w0_2, w0_3] (own_v1200 w0_4))) = (0:Int32)) → own_In (own_at (own_v939 w0_1 w0_2 w0_3 (w0_4 / (2:Int32)) (own_v1199 w0_4) (own_v1200 w0_4)) (own_at [w0_1, w0_2, w0_3] (own_v1199 w0_4))) (own_v921 w0_1 w0_2 w0_3 (w0_4 / (2:Int32)) (own_v1199 w0_4) (own_v1200 w0_4)).length)) := by decide +kernel
theorem own_fin1788 : ∀ w0_1 ∈ own_L3, ∀ w0_2 ∈ own_L3, ∀ w0_3 ∈ own_L3, ∀ w0_4 ∈ own_L6, (((¬ ((own_at (own_v100 w0_1 w0_2 w0_3 (w0_4 / (2:Int32))) (own_at [w0_1, w0_2, w0_3] (own_v1199 w0_4))) = (0:Int32))) → ((own_at (own_v223 w0_1 w0_2 w0_3 (w0_4 / (2:Int32)) (own_v1199 w0_4)) (own_at [w0_1, w0_2, w0_3] (own_v1200 w0_4))) = (0:Int32)) → own_In (w0_4 / (2:Int32)) [w0_1, w0_2, w0_3].length)) := by decide +kernel
theorem own_fin1790 : ∀ w0_1 ∈ own_L3, ∀ w0_2 ∈ own_L3, ∀ w0_3 ∈ own_L3, ∀ w0_4 ∈ own_L6, (((¬ ((own_at (own_v100 w0_1 w0_2 w0_3 (w0_4 / (2:Int32))) (own_at [w0_1, w0_2, w0_3] (own_v1199 w0_4))) = (0:Int32))) → ((own_at (own_v223 w0_1 w0_2 w0_3 (w0_4 / (2:Int32)) (own_v1199 w0_4)) (own_at [w0_1, w0_2, w0_3] (own_v1200 w0_4))) = (0:Int32)) → own_In (own_at [w0_1, w0_2, w0_3] (w0_4 / (2:Int32))) (own_v939 w0_1 w0_2 w0_3 (w0_4 / (2:Int32)) (own_v1199 w0_4) (own_v1200 w0_4)).length)) := by decide +kernel
theorem own_fin1792 : ∀ w0_1 ∈ own_L3, ∀ w0_2 ∈ own_L3, ∀ w0_3 ∈ own_L3, ∀ w0_4 ∈ own_L6, (((¬ ((own_at (own_v100 w0_1 w0_2 w0_3 (w0_4 / (2:Int32))) (own_at [w0_1, w0_2, w0_3] (own_v1199 w0_4))) = (0:Int32))) → ((own_at (own_v223 w0_1 w0_2 w0_3 (w0_4 / (2:Int32)) (own_v1199 w0_4)) (own_at [w0_1, w0_2, w0_3] (own_v1200 w0_4))) = (0:Int32)) → own_In (own_at [w0_1, w0_2, w0_3] (w0_4 / (2:Int32))) (own_v969 w0_1 w0_2 w0_3 (w0_4 / (2:Int32)) (own_v1199 w0_4) (own_v1200 w0_4)).length)) := by decide +kernel
theorem own_fin1794 : ∀ w0_1 ∈ own_L3, ∀ w0_2 ∈ own_L3, ∀ w0_3 ∈ own_L3, ∀ w0_4 ∈ own_L6, (((¬ ((own_at (own_v100 w0_1 w0_2 w0_3 (w0_4 / (2:Int32))) (own_at [w0_1, w0_2, w0_3] (own_v1199 w0_4))) = (0:Int32))) → ((own_at (own_v223 w0_1 w0_2 w0_3 (w0_4 / (2:Int32)) (own_v1199 w0_4)) (own_at [w0_1, w0_2, w0_3] (own_v1200 w0_4))) = (0:Int32)) → own_In (own_at (own_v969 w0_1 w0_2 w0_3 (w0_4 / (2:Int32)) (own_v1199 w0_4) (own_v1200 w0_4)) (own_at [w0_1, w0_2, w0_3] (w0_4 / (2:Int32)))) (own_v951 w0_1 w0_2 w0_3 (w0_4 / (2:Int32)) (own_v1199 w0_4) (own_v1200 w0_4)).length)) := by decide +kernel
theorem own_fin1796 : ∀ w0_1 ∈ own_L3, ∀ w0_2 ∈ own_L3, ∀ w0_3 ∈ own_L3, ∀ w0_4 ∈ own_L6, (((¬ ((own_at (own_v100 w0_1 w0_2 w0_3 (w0_4 / (2:Int32))) (own_at [w0_1, w0_2, w0_3] (own_v1199 w0_4))) = (0:Int32))) → (¬ ((own_at (own_v223 w0_1 w0_2 w0_3 (w0_4 / (2:Int32)) (own_v1199 w0_4)) (own_at [w0_1, w0_2, w0_3] (own_v1200 w0_4))) = (0:Int32))) → own_In (own_at [w0_1, w0_2, w0_3] (own_v1200 w0_4)) (own_v223 w0_1 w0_2 w0_3 (w0_4 / (2:Int32)) (own_v1199 w0_4)).length)) := by decide +kernel
theorem own_fin1798 : ∀ w0_1 ∈ own_L3, ∀ w0_2 ∈ own_L3, ∀ w0_3 ∈ own_L3, ∀ w0_4 ∈ own_L6, (((¬ ((own_at (own_v100 w0_1 w0_2 w0_3 (w0_4 / (2:Int32))) (own_at [w0_1, w0_2, w0_3] (own_v1199 w0_4))) = (0:Int32))) → (¬ ((own_at (own_v223 w0_1 w0_2 w0_3 (w0_4 / (2:Int32)) (own_v1199 w0_4)) (own_at [w0_1, w0_2, w0_3] (own_v1200 w0_4))) = (0:Int32))) → own_In (own_at [w0_1, w0_2, w0_3] (w0_4 / (2:Int32))) (own_v524 w0_1 w0_2 w0_3 (w0_4 / (2:Int32)) (own_v1199 w0_4) (own_v1200 w0_4)).length)) := by decide +kernel
theorem own_fin1800 : ∀ w0_1 ∈ own_L3, ∀ w0_2 ∈ own_L3, ∀ w0_3 ∈ own_L3, ∀ w0_4 ∈ own_L6, (((¬ ((own_at (own_v100 w0_1 w0_2 w0_3 (w0_4 / (2:Int32))) (own_at [w0_1, w0_2, w0_3] (own_v1199 w0_4))) = (0:Int32))) → (¬ ((own_at (own_v223 w0_1 w0_2 w0_3 (w0_4 / (2:Int32)) (own_v1199 w0_4)) (own_at [w0_1, w0_2, w0_3] (own_v1200 w0_4))) = (0:Int32))) → own_In (own_v1200 w0_4) [w0_1, w0_2, w0_3].length)) := by decide +kernel
theorem own_fin1802 : ∀ w0_1 ∈ own_L3, ∀ w0_2 ∈ own_L3, ∀ w0_3 ∈ own_L3, ∀ w0_4 ∈ own_L6, (((¬ ((own_at (own_v100 w0_1 w0_2 w0_3 (w0_4 / (2:Int32))) (own_at [w0_1, w0_2, w0_3] (own_v1199 w0_4))) = (0:Int32))) → (¬ ((own_at (own_v223 w0_1 w0_2 w0_3 (w0_4 / (2:Int32)) (own_v1199 w0_4)) (own_at [w0_1, w0_2, w0_3] (own_v1200 w0_4))) = (0:Int32))) → own_In (own_at [w0_1, w0_2, w0_3] (own_v1200 w0_4)) (own_v541 w0_1 w0_2 w0_3 (w0_4 / (2:Int32)) (own_v1199 w0_4) (own_v1200 w0_4)).length)) := by decide +kernel
theorem own_fin1804 : ∀ w0_1 ∈ own_L3, ∀ w0_2 ∈ own_L3, ∀ w0_3 ∈ own_L3, ∀ w0_4 ∈ own_L6, (((¬ ((own_at (own_v100 w0_1 w0_2 w0_3 (w0_4 / (2:Int32))) (own_at [w0_1, w0_2, w0_3] (own_v1199 w0_4))) = (0:Int32))) → (¬ ((own_at (own_v223 w0_1 w0_2 w0_3 (w0_4 / (2:Int32)) (own_v1199 w0_4)) (own_at [w0_1, w0_2, w0_3] (own_v1200 w0_4))) = (0:Int32))) → own_In (own_at [w0_1, w0_2, w0_3] (own_v1200 w0_4)) (own_v1035 w0_1 w0_2 w0_3 (w0_4 / (2:Int32)) (own_v1199 w0_4) (own_v1200 w0_4)).length)) := by decide +kernel
theorem own_fin1806 : ∀ w0_1 ∈ own_L3, ∀ w0_2 ∈ own_L3, ∀ w0_3 ∈ own_L3, ∀ w0_4 ∈ own_L6, (((¬ ((own_at (own_v100 w0_1 w0_2 w0_3 (w0_4 / (2:Int32))) (own_at [w0_1, w0_2, w0_3] (own_v1199 w0_4))) = (0:Int32))) → (¬ ((own_at (own_v223 w0_1 w0_2 w0_3 (w0_4 / (2:Int32)) (own_v1199 w0_4)) (own_at [w0_1, w0_2, w0_3] (own_v1200 w0_4))) = (0:Int32))) → own_In (own_at (own_v1035 w0_1 w0_2 w0_3 (w0_4 / (2:Int32)) (own_v1199 w0_4) (own_v1200 w0_4)) (own_at [w0_1, w0_2, w0_3] (own_v1200 w0_4))) [(0:Int32), (0:Int32), (0:Int32)].length)) := by decide +kernel
theorem own_fin1808 : ∀ w0_1 ∈ own_L3, ∀ w0_2 ∈ own_L3, ∀ w0_3 ∈ own_L3, ∀ w0_4 ∈ own_L6, (((¬ ((own_at (own_v100 w0_1 w0_2 w0_3 (w0_4 / (2:Int32))) (own_at [w0_1, w0_2, w0_3] (own_v1199 w0_4))) = (0:Int32))) → (¬ ((own_at (own_v223 w0_1 w0_2 w0_3 (w0_4 / (2:Int32)) (own_v1199 w0_4)) (own_at [w0_1, w0_2, w0_3] (own_v1200 w0_4))) = (0:Int32))) → own_In (own_v1199 w0_4) [w0_1, w0_2, w0_3].length)) := by decide +kernel
theorem own_fin1810 : ∀ w0_1 ∈ own_L3, ∀ w0_2 ∈ own_L3, ∀ w0_3 ∈ own_L3, ∀ w0_4 ∈ own_L6, (((¬ ((own_at (own_v100 w0_1 w0_2 w0_3 (w0_4 / (2:Int32))) (own_at [w0_1, w0_2, w0_3] (own_v1199 w0_4))) = (0:Int32))) → (¬ ((own_at (own_v223 w0_1 w0_2 w0_3 (w0_4 / (2:Int32)) (own_v1199 w0_4)) (own_at [w0_1, w0_2, w0_3] (own_v1200 w0_4))) = (0:Int32))) → own_In (own_at [w0_1, w0_2, w0_3] (own_v1199 w0_4)) (own_v1035 w0_1 w0_2 w0_3 (w0_4 / (2:Int32)) (own_v1199 w0_4) (own_v1200 w0_4)).length)) := by decide +kernel
theorem own_fin1812 : ∀ w0_1 ∈ own_L3, ∀ w0_2 ∈ own_L3, ∀ w0_3 ∈ own_L3, ∀ w0_4 ∈ own_L6, (((¬ ((own_at (own_v100 w0_1 w0_2 w0_3 (w0_4 / (2:Int32))) (own_at [w0_1, w0_2, w0_3] (own_v1199 w0_4))) = (0:Int32))) → (¬ ((own_at (own_v223 w0_1 w0_2 w0_3 (w0_4 / (2:Int32)) (own_v1199 w0_4)) (own_at [w0_1, w0_2, w0_3] (own_v1200 w0_4))) = (0:Int32))) → own_In (own_at [w0_1, w0_2, w0_3] (own_v1199 w0_4)) (own_v1065 w0_1 w0_2 w0_3 (w0_4 / (2:Int32)) (own_v1199 w0_4) (own_v1200 w0_4)).length)) := by decide +kernel
theorem own_fin1814 : ∀ w0_1 ∈ own_L3, ∀ w0_2 ∈ own_L3, ∀ w0_3 ∈ own_L3, ∀ w0_4 ∈ own_L6, (((¬ ((own_at (own_v100 w0_1 w0_2 w0_3 (w0_4 / (2:Int32))) (own_at [w0_1, w0_2, w0_3] (own_v1199 w0_4))) = (0:Int32))) → (¬ ((own_at (own_v223 w0_1 w0_2 w0_3 (w0_4 / (2:Int32)) (own_v1199 w0_4)) (own_at [w0_1, w0_2, w0_3] (own_v1200 w0_4))) = (0:Int32))) → own_In (own_at (own_v1065 w0_1 w0_2 w0_3 (w0_4 / (2:Int32)) (own_v1199 w0_4) (own_v1200 w0_4)) (own_at [w0_1, w0_2, w0_3] (own_v1199 w0_4))) (own_v1047 w0_1 w0_2 w0_3 (w0_4 / (2:Int32)) (own_v1199 w0_4) (own_v1200 w0_4)).length)) := by decide +kernel
theorem own_fin1816 : ∀ w0_1 ∈ own_L3, ∀ w0_2 ∈ own_L3, ∀ w0_3 ∈ own_L3, ∀ w0_4 ∈ own_L6, (((¬ ((own_at (own_v100 w0_1 w0_2 w0_3 (w0_4 / (2:Int32))) (own_at [w0_1, w0_2, w0_3] (own_v1199 w0_4))) = (0:Int32))) → (¬ ((own_at (own_v223 w0_1 w0_2 w0_3 (w0_4 / (2:Int32)) (own_v1199 w0_4)) (own_at [w0_1, w0_2, w0_3] (own_v1200 w0_4))) = (0:Int32))) → own_In (w0_4 / (2:Int32)) [w0_1, w0_2, w0_3].length)) := by decide +kernel
theorem own_fin1818 : ∀ w0_1 ∈ own_L3, ∀ w0_2 ∈ own_L3, ∀ w0_3 ∈ own_L3, ∀ w0_4 ∈ own_L6, (((¬ ((own_at (own_v100 w0_1 w0_2 w0_3 (w0_4 / (2:Int32))) (own_at [w0_1, w0_2, w0_3] (own_v1199 w0_4))) = (0:Int32))) → (¬ ((own_at (own_v223 w0_1 w0_2 w0_3 (w0_4 / (2:Int32)) (own_v1199 w0_4)) (own_at [w0_1, w0_2, w0_3] (own_v1200 w0_4))) = (0:Int32))) → own_In (own_at [w0_1, w0_2, w0_3] (w0_4 / (2:Int32))) (own_v1065 w0_1 w0_2 w0_3 (w0_4 / (2:Int32)) (own_v1199 w0_4) (own_v1200 w0_4)).length)) := by decide +kernel
theorem own_fin1820 : ∀ w0_1 ∈ own_L3, ∀ w0_2 ∈ own_L3, ∀ w0_3 ∈ own_L3, ∀ w0_4 ∈ own_L6, (((¬ ((own_at (own_v100 w0_1 w0_2 w0_3 (w0_4 / (2:Int32))) (own_at [w0_1, w0_2, w0_3] (own_v1199 w0_4))) = (0:Int32))) → (¬ ((own_at (own_v223 w0_1 w0_2 w0_3 (w0_4 / (2:Int32)) (own_v1199 w0_4)) (own_at [w0_1, w0_2, w0_3] (own_v1200 w0_4))) = (0:Int32))) → own_In (own_at [w0_1, w0_2, w0_3] (w0_4 / (2:Int32))) (own_v1095 w0_1 w0_2 w0_3 (w0_4 / (2:Int32)) (own_v1199 w0_4) (own_v1200 w0_4)).length)) := by decide +kernel
theorem own_fin1822 : ∀ w0_1 ∈ own_L3, ∀ w0_2 ∈ own_L3, ∀ w0_3 ∈ own_L3, ∀ w0_4 ∈ own_L6, (((¬ ((own_at (own_v100 w0_1 w0_2 w0_3 (w0_4 / (2:Int32))) (own_at [w0_1, w0_2, w0_3] (own_v1199 w0_4))) = (0:Int32))) → (¬ ((own_at (own_v223 w0_1 w0_2 w0_3 (w0_4 / (2:Int32)) (own_v1199 w0_4)) (own_at [w0_1, w0_2, w0_3] (own_v1200 w0_4))) = (0:Int32))) → own_In (own_at (own_v1095 w0_1 w0_2 w0_3 (w0_4 / (2:Int32)) (own_v1199 w0_4) (own_v1200 w0_4)) (own_at [w0_1, w0_2, w0_3] (w0_4 / (2:Int32)))) (own_v1077 w0_1 w0_2 w0_3 (w0_4 / (2:Int32)) (own_v1199 w0_4) (own_v1200 w0_4)).length)) := by decide +kernel
def own_v1835 (w0_1 : Int32) (w0_2 : Int32) (w0_3 : Int32) (w0_4 : Int32) (w0_7 : Int32) (w0_8 : Int32) : Int32 := (g4m3_gc w0_1 w0_2 w0_3 (w0_4 / (2:Int32)) w0_7 w0_8)
def own_v1837 (w0_1 : Int32) (w0_2 : Int32) (w0_3 : Int32) (w0_4 : Int32) (w0_7 : Int32) (w0_8 : Int32) : List Int32 := (g4m3_gr w0_1 w0_2 w0_3 (w0_4 / (2:Int32)) w0_7 w0_8)
def own_v1839 (w0_1 : Int32) (w0_2 : Int32) (w0_3 : Int32) (w0_4 : Int32) (w0_7 : Int32) (w0_8 : Int32) : List Int32 := (g4m3_gl w0_1 w0_2 w0_3 (w0_4 / (2:Int32)) w0_7 w0_8)
def own_v1841 (w0_1 : Int32) (w0_2 : Int32) (w0_3 : Int32) (w0_4 : Int32) (w0_7 : Int32) (w0_8 : Int32) : List Int32 := (g4m3_gs w0_1 w0_2 w0_3 (w0_4 / (2:Int32)) w0_7 w0_8)
def own_v1843 (w0_1 : Int32) (w0_2 : Int32) (w0_3 : Int32) (w0_4 : Int32) (w0_7 : Int32) (w0_8 : Int32) : Int32 := (f4m3 w0_1 w0_2 w0_3 (w0_4 / (2:Int32)) w0_7 w0_8)
theorem own_fin1845 : ∀ w0_1 ∈ own_L3, ∀ w0_2 ∈ own_L3, ∀ w0_3 ∈ own_L3, ∀ w0_4 ∈ own_L6, (own_In (w0_4 / (2:Int32)) [w0_1, w0_2, w0_3].length) := by decide +kernel
theorem own_fin1847 : ∀ w0_1 ∈ own_L3, ∀ w0_2 ∈ own_L3, ∀ w0_3 ∈ own_L3, ∀ w0_4 ∈ own_L6, (own_In (own_v1199 w0_4) [w0_1, w0_2, w0_3].length) := by decide +kernel
theorem own_fin1849 : ∀ w0_1 ∈ own_L3, ∀ w0_2 ∈ own_L3, ∀ w0_3 ∈ own_L3, ∀ w0_4 ∈ own_L6, (own_In (own_v1200 w0_4) [w0_1, w0_2, w0_3].length) := by decide +kernel
def own_v1852 (w0_1 : Int32) (w0_2 : Int32) (w0_3 : Int32) (w0_4 : Int32) : Int32 := (if (own_at [w0_1, w0_2, w0_3] (own_v1200 w0_4)) = (own_at [w0_1, w0_2, w0_3] (w0_4 / (2:Int32))) then (0:Int32) else (if (own_at [w0_1, w0_2, w0_3] (own_v1200 w0_4)) = (own_at [w0_1, w0_2, w0_3] (own_v1199 w0_4)) then (own_v1539 w0_1 w0_2 w0_3 w0_4) else ((own_v1539 w0_1 w0_2 w0_3 w0_4) + (1:Int32))))
abbrev own_y11 : MethodName := (⟨"java/lang/Math", "max", "(II)I"⟩ : MethodName)
theorem own_fin1853 : ∀ w0_1 ∈ own_L3, ∀ w0_2 ∈ own_L3, ∀ w0_3 ∈ own_L3, ∀ w0_4 ∈ own_L6, ((own_v1843 w0_1 w0_2 w0_3 w0_4 (own_v1199 w0_4) (own_v1200 w0_4)) = ((f11 (own_v1539 w0_1 w0_2 w0_3 w0_4) (own_v1852 w0_1 w0_2 w0_3 w0_4)) + (1:Int32))) := by decide +kernel
theorem own_fin1864 : ∀ w0_1 ∈ own_L3, ∀ w0_2 ∈ own_L3, ∀ w0_3 ∈ own_L3, ∀ w0_4 ∈ own_L6, ((own_In ((f5 (own_v1539 w0_1 w0_2 w0_3 w0_4) (0:Int32)) + (f5 (own_v1852 w0_1 w0_2 w0_3 w0_4) (0:Int32))) (own_v1837 w0_1 w0_2 w0_3 w0_4 (own_v1199 w0_4) (own_v1200 w0_4)).length)) := by decide +kernel
def own_v1867 (w0_9 : Int32) (w0_10 : Int32) (w0_1 : Int32) (w0_2 : Int32) (w0_3 : Int32) (w0_4 : Int32) (w0_7 : Int32) (w0_8 : Int32) : Int32 := (f7 ((f5 w0_9 (0:Int32)) + (f5 w0_10 (0:Int32))) (own_v1837 w0_1 w0_2 w0_3 w0_4 w0_7 w0_8))
theorem own_fin1868 : ∀ w0_1 ∈ own_L3, ∀ w0_2 ∈ own_L3, ∀ w0_3 ∈ own_L3, ∀ w0_4 ∈ own_L6, ((own_v1867 (own_v1539 w0_1 w0_2 w0_3 w0_4) (own_v1852 w0_1 w0_2 w0_3 w0_4) w0_1 w0_2 w0_3 w0_4 (own_v1199 w0_4) (own_v1200 w0_4)) = (w0_4 / (2:Int32))) := by decide +kernel
theorem own_fin1870 : ∀ w0_1 ∈ own_L3, ∀ w0_2 ∈ own_L3, ∀ w0_3 ∈ own_L3, ∀ w0_4 ∈ own_L6, ((own_In (((f5 (0:Int32) (own_v1539 w0_1 w0_2 w0_3 w0_4)) + (f5 (own_v1852 w0_1 w0_2 w0_3 w0_4) (own_v1539 w0_1 w0_2 w0_3 w0_4))) + (f6 (0:Int32) (own_v1539 w0_1 w0_2 w0_3 w0_4))) (own_v1837 w0_1 w0_2 w0_3 w0_4 (own_v1199 w0_4) (own_v1200 w0_4)).length)) := by decide +kernel
def own_v1872 (w0_9 : Int32) (w0_10 : Int32) (w0_1 : Int32) (w0_2 : Int32) (w0_3 : Int32) (w0_4 : Int32) (w0_7 : Int32) (w0_8 : Int32) : Int32 := (f7 (((f5 (0:Int32) w0_9) + (f5 w0_10 w0_9)) + (f6 (0:Int32) w0_9)) (own_v1837 w0_1 w0_2 w0_3 w0_4 w0_7 w0_8))
theorem own_fin1873 : ∀ w0_1 ∈ own_L3, ∀ w0_2 ∈ own_L3, ∀ w0_3 ∈ own_L3, ∀ w0_4 ∈ own_L6, ((own_v1872 (own_v1539 w0_1 w0_2 w0_3 w0_4) (own_v1852 w0_1 w0_2 w0_3 w0_4) w0_1 w0_2 w0_3 w0_4 (own_v1199 w0_4) (own_v1200 w0_4)) = (own_v1199 w0_4)) := by decide +kernel
theorem own_fin1875 : ∀ w0_1 ∈ own_L3, ∀ w0_2 ∈ own_L3, ∀ w0_3 ∈ own_L3, ∀ w0_4 ∈ own_L6, ((own_In ((((f5 (0:Int32) (own_v1852 w0_1 w0_2 w0_3 w0_4)) + (f5 (own_v1539 w0_1 w0_2 w0_3 w0_4) (own_v1852 w0_1 w0_2 w0_3 w0_4))) + (f6 (0:Int32) (own_v1852 w0_1 w0_2 w0_3 w0_4))) + (f6 (own_v1539 w0_1 w0_2 w0_3 w0_4) (own_v1852 w0_1 w0_2 w0_3 w0_4))) (own_v1837 w0_1 w0_2 w0_3 w0_4 (own_v1199 w0_4) (own_v1200 w0_4)).length)) := by decide +kernel
def own_v1877 (w0_10 : Int32) (w0_9 : Int32) (w0_1 : Int32) (w0_2 : Int32) (w0_3 : Int32) (w0_4 : Int32) (w0_7 : Int32) (w0_8 : Int32) : Int32 := (f7 ((((f5 (0:Int32) w0_10) + (f5 w0_9 w0_10)) + (f6 (0:Int32) w0_10)) + (f6 w0_9 w0_10)) (own_v1837 w0_1 w0_2 w0_3 w0_4 w0_7 w0_8))
theorem own_fin1878 : ∀ w0_1 ∈ own_L3, ∀ w0_2 ∈ own_L3, ∀ w0_3 ∈ own_L3, ∀ w0_4 ∈ own_L6, ((own_v1877 (own_v1852 w0_1 w0_2 w0_3 w0_4) (own_v1539 w0_1 w0_2 w0_3 w0_4) w0_1 w0_2 w0_3 w0_4 (own_v1199 w0_4) (own_v1200 w0_4)) = (own_v1200 w0_4)) := by decide +kernel
theorem own_fin1879 : ∀ w0_1 ∈ own_L3, ∀ w0_2 ∈ own_L3, ∀ w0_3 ∈ own_L3, ∀ w0_4 ∈ own_L6, ((0:Int32) < ((f11 (own_v1539 w0_1 w0_2 w0_3 w0_4) (own_v1852 w0_1 w0_2 w0_3 w0_4)) + (1:Int32))) := by decide +kernel
theorem own_fin1880 : ∀ w0_1 ∈ own_L3, ∀ w0_2 ∈ own_L3, ∀ w0_3 ∈ own_L3, ∀ w0_4 ∈ own_L6, (¬ (((f11 (own_v1539 w0_1 w0_2 w0_3 w0_4) (own_v1852 w0_1 w0_2 w0_3 w0_4)) + (1:Int32)) = (0:Int32))) := by decide +kernel
theorem own_fin1881 : ∀ w0_1 ∈ own_L3, ∀ w0_2 ∈ own_L3, ∀ w0_3 ∈ own_L3, ∀ w0_4 ∈ own_L6, ((((f11 (own_v1539 w0_1 w0_2 w0_3 w0_4) (own_v1852 w0_1 w0_2 w0_3 w0_4)) + (1:Int32))) ∈ ([(1:Int32), (2:Int32), (3:Int32)] : List Int32)) := by decide +kernel
def own_v1883 (w0_11 : Int32) (w0_1 : Int32) (w0_2 : Int32) (w0_3 : Int32) (w0_4 : Int32) : Int32 := (if w0_11 = (0:Int32) then (own_at [w0_1, w0_2, w0_3] (w0_4 / (2:Int32))) else (if w0_11 = (1:Int32) then (if (own_v1539 w0_1 w0_2 w0_3 w0_4) = (1:Int32) then (own_at [w0_1, w0_2, w0_3] (own_v1199 w0_4)) else (own_at [w0_1, w0_2, w0_3] (own_v1200 w0_4))) else (own_at [w0_1, w0_2, w0_3] (own_v1200 w0_4))))
theorem own_fin1890 : ∀ w0_1 ∈ own_L3, ∀ w0_2 ∈ own_L3, ∀ w0_3 ∈ own_L3, ∀ w0_4 ∈ own_L6, ∀ w0_11 ∈ own_L3, (w0_11 < ((f11 (own_v1539 w0_1 w0_2 w0_3 w0_4) (own_v1852 w0_1 w0_2 w0_3 w0_4)) + (1:Int32))) → ((own_In w0_11 (own_v1839 w0_1 w0_2 w0_3 w0_4 (own_v1199 w0_4) (own_v1200 w0_4)).length)) := by decide +kernel
def own_v1892 (w0_11 : Int32) (w0_1 : Int32) (w0_2 : Int32) (w0_3 : Int32) (w0_4 : Int32) (w0_7 : Int32) (w0_8 : Int32) : Int32 := (f8 w0_11 (own_v1839 w0_1 w0_2 w0_3 w0_4 w0_7 w0_8))
theorem own_fin1893 : ∀ w0_1 ∈ own_L3, ∀ w0_2 ∈ own_L3, ∀ w0_3 ∈ own_L3, ∀ w0_4 ∈ own_L6, ∀ w0_11 ∈ own_L3, (w0_11 < ((f11 (own_v1539 w0_1 w0_2 w0_3 w0_4) (own_v1852 w0_1 w0_2 w0_3 w0_4)) + (1:Int32))) → ((own_v1892 w0_11 w0_1 w0_2 w0_3 w0_4 (own_v1199 w0_4) (own_v1200 w0_4)) = (own_v1883 w0_11 w0_1 w0_2 w0_3 w0_4)) := by decide +kernel
theorem own_fin1895 : ∀ w0_1 ∈ own_L3, ∀ w0_2 ∈ own_L3, ∀ w0_3 ∈ own_L3, ∀ w0_4 ∈ own_L6, ∀ w0_11 ∈ own_L3, (w0_11 < ((f11 (own_v1539 w0_1 w0_2 w0_3 w0_4) (own_v1852 w0_1 w0_2 w0_3 w0_4)) + (1:Int32))) → (((own_In w0_11 (own_v1839 w0_1 w0_2 w0_3 w0_4 (own_v1199 w0_4) (own_v1200 w0_4)).length) ∧ (own_In (own_at (own_v1839 w0_1 w0_2 w0_3 w0_4 (own_v1199 w0_4) (own_v1200 w0_4)) w0_11) (own_v1841 w0_1 w0_2 w0_3 w0_4 (own_v1199 w0_4) (own_v1200 w0_4)).length))) := by decide +kernel
def own_v1897 (w0_11 : Int32) (w0_1 : Int32) (w0_2 : Int32) (w0_3 : Int32) (w0_4 : Int32) (w0_7 : Int32) (w0_8 : Int32) : Int32 := (f9 w0_11 (own_v1839 w0_1 w0_2 w0_3 w0_4 w0_7 w0_8) (own_v1841 w0_1 w0_2 w0_3 w0_4 w0_7 w0_8))
theorem own_fin1898 : ∀ w0_1 ∈ own_L3, ∀ w0_2 ∈ own_L3, ∀ w0_3 ∈ own_L3, ∀ w0_4 ∈ own_L6, ∀ w0_11 ∈ own_L3, (w0_11 < ((f11 (own_v1539 w0_1 w0_2 w0_3 w0_4) (own_v1852 w0_1 w0_2 w0_3 w0_4)) + (1:Int32))) → ((own_v1897 w0_11 w0_1 w0_2 w0_3 w0_4 (own_v1199 w0_4) (own_v1200 w0_4)) = (((f5 (0:Int32) w0_11) + (f5 (own_v1539 w0_1 w0_2 w0_3 w0_4) w0_11)) + (f5 (own_v1852 w0_1 w0_2 w0_3 w0_4) w0_11))) := by decide +kernel
theorem own_fin1900 : ∀ w0_1 ∈ own_L3, ∀ w0_2 ∈ own_L3, ∀ w0_3 ∈ own_L3, ∀ w0_4 ∈ own_L6, ∀ w0_11 ∈ own_L3, (w0_11 < ((f11 (own_v1539 w0_1 w0_2 w0_3 w0_4) (own_v1852 w0_1 w0_2 w0_3 w0_4)) + (1:Int32))) → ((((w0_11 + (1:Int32)) < (own_v1835 w0_1 w0_2 w0_3 w0_4 (own_v1199 w0_4) (own_v1200 w0_4)) → own_In (w0_11 + (1:Int32)) (own_v1839 w0_1 w0_2 w0_3 w0_4 (own_v1199 w0_4) (own_v1200 w0_4)).length) ∧ ((w0_11 + (1:Int32)) < (own_v1835 w0_1 w0_2 w0_3 w0_4 (own_v1199 w0_4) (own_v1200 w0_4)) → own_In (own_at (own_v1839 w0_1 w0_2 w0_3 w0_4 (own_v1199 w0_4) (own_v1200 w0_4)) (w0_11 + (1:Int32))) (own_v1841 w0_1 w0_2 w0_3 w0_4 (own_v1199 w0_4) (own_v1200 w0_4)).length))) := by decide +kernel
def own_v1902 (w0_11 : Int32) (w0_1 : Int32) (w0_2 : Int32) (w0_3 : Int32) (w0_4 : Int32) (w0_7 : Int32) (w0_8 : Int32) : Int32 := (f10 w0_11 (own_v1839 w0_1 w0_2 w0_3 w0_4 w0_7 w0_8) (own_v1841 w0_1 w0_2 w0_3 w0_4 w0_7 w0_8) (own_v1835 w0_1 w0_2 w0_3 w0_4 w0_7 w0_8) (3:Int32))
theorem own_fin1903 : ∀ w0_1 ∈ own_L3, ∀ w0_2 ∈ own_L3, ∀ w0_3 ∈ own_L3, ∀ w0_4 ∈ own_L6, ∀ w0_11 ∈ own_L3, (w0_11 < ((f11 (own_v1539 w0_1 w0_2 w0_3 w0_4) (own_v1852 w0_1 w0_2 w0_3 w0_4)) + (1:Int32))) → ((own_v1902 w0_11 w0_1 w0_2 w0_3 w0_4 (own_v1199 w0_4) (own_v1200 w0_4)) = (((f5 (0:Int32) (w0_11 + (1:Int32))) + (f5 (own_v1539 w0_1 w0_2 w0_3 w0_4) (w0_11 + (1:Int32)))) + (f5 (own_v1852 w0_1 w0_2 w0_3 w0_4) (w0_11 + (1:Int32))))) := by decide +kernel
theorem ef0n3 (m : MethodId) (p0 : Int32) (p1 : Int32) (p2 : Int32) (p3 : Int32) (p4 : Int32) (p5 : Int32) : entryFrame m #[(.int p0), (.int p1), (.int p2), (.int p3), (.int p4), (.int p5)] maxLocals = mkF m 0 #[iv p0, iv p1, iv p2, iv p3, iv p4, iv p5, .unset, .unset, .unset, .unset, .unset, .unset, .unset, .unset, .unset, .unset, .unset, .unset, .unset, .unset, .unset, .unset, .unset, .unset, .unset, .unset, .unset, .unset, .unset, .unset, .unset] [] := by first | (simp [entryFrame, mkF, argsToLocals, Value.category, maxLocals]; done) | rfl
def Q0n3 (Z : State) (p0 : Int32) (p1 : Int32) (p2 : Int32) (p3 : Int32) (p4 : Int32) (p5 : Int32)  (h0 : Heap) (n0 : Nat) (v : Option Value) (h : Heap) (L : List Loc) : Prop := v = some (.int (1:Int32)) ∧ Fr n0 L
set_option maxRecDepth 65536 in
set_option maxHeartbeats 40000000 in
theorem rm0n3 (l : Launch) (Z : State) (aZ : Array Value) (hw : ∀ d ∈ tables_1, d.before aZ Z = true) (ws : List Jvm.Cond) (p0 : Int32) (p1 : Int32) (p2 : Int32) (p3 : Int32) (p4 : Int32) (p5 : Int32)  (h0 : Heap) (n0 : Nat) (Z0 : n0 ≤ h0.size) (hn : (p3 &&& (3:Int32)) = (3:Int32)) :
    MetFree l x (head1 (Jvm.Cond.code x code maxLocals ret :: ws) room_1) (fun a U => a = #[(.int p0), (.int p1), (.int p2), (.int p3), (.int p4), (.int p5)] ∧ Z.Warmed39 U.vm ∧ U.heap = h0) (fun _ _ _ _ _ => True) (fun _ U o U' => ∃ v L, o = .returned v ∧ Q0n3 Z p0 p1 p2 p3 p4 p5 h0 n0 v U'.heap L ∧ FrameEnd U o U' L 6 24) := by
  refine MetFree.of_bodySF (plainFor_of_name own_pn1) hisR ?_
  intro p e s m args below meth c s₁ Bd hml0 hP hK
  obtain ⟨rfl, hZ, hh⟩ := hP
  have hx := Bd.exec
  have hby := Bd.bytes
  have hml : c.maxLocals = 31 := hml0
  have hown : s.vm.findClass "com/example/spare_calculus/sparecalculus/bisim/LabelGroupsGroupPinLaw" = some m.cls := findClass_of_methodNamed Bd.named
  have hnm := (name_of_methodNamed Bd.named Bd.method).1
  have X0 : Stand p l e room_1 s m #[(.int p0), (.int p1), (.int p2), (.int p3), (.int p4), (.int p5)] below meth c s₁ [] 0 0 := Stand.of_body Bd
  have e0 : s₁.heap = h0 := by rw [← hh, Bd.state]; rfl
  have N0 := Fr.nil n0
  have D : ∀ {pc : Nat} {r : Except ClassFile.DecodeError (ClassFile.Instr × Nat)}, decode code pc = r → decode c.code pc = r := fun h => hb hby h
  show own_Goes p e below s (Q0n3 Z p0 p1 p2 p3 p4 p5 h0 n0) 6 24 _
  refine own_pre (fun t k => castTop (ef0n3 m p0 p1 p2 p3 p4 p5) k) ?_
  refine own_pA s₁ m 1 #[iv p0, iv p1, iv p2, iv p3, iv p4, iv p5, .unset, .unset, .unset, .unset, .unset, .unset, .unset, .unset, .unset, .unset, .unset, .unset, .unset, .unset, .unset, .unset, .unset, .unset, .unset, .unset, .unset, .unset, .unset, .unset, .unset] [(.int (3:Int32))] (fun t k => ?_) ?_
  ·exact XS.iconst X0.here hx rfl (D at_0) k
  obtain ⟨T1586, h1586, k1586, X1586, e1586, E1586, A1586, st1586⟩ := newP X0 hx hZ (own_h hw 0 rfl) e0 (g := (mkF m 1 #[iv p0, iv p1, iv p2, iv p3, iv p4, iv p5, .unset, .unset, .unset, .unset, .unset, .unset, .unset, .unset, .unset, .unset, .unset, .unset, .unset, .unset, .unset, .unset, .unset, .unset, .unset, .unset, .unset, .unset, .unset, .unset, .unset] [(.int (3:Int32))])) rfl (D at_1) rfl (by decide) (cap := 3) (by decide) (by decide) (by decide) (by decide)
  obtain ⟨b1586, g1586⟩ : ∃ z, z = h0.size := ⟨_, rfl⟩
  rw [← g1586] at A1586 st1586
  have ge_b1586 : n0 ≤ b1586 := Nat.le_trans Z0 (Nat.le_of_eq g1586.symm)
  have Z1587 : n0 ≤ h1586.size := Nat.le_trans Z0 E1586.1
  have V1586 : own_Ints Z h1586 b1586 [(0:Int32), (0:Int32), (0:Int32)] := own_newI A1586 (by decide)
  refine own_pre st1586 ?_
  refine own_pA T1586 m 14 #[iv p0, iv p1, iv p2, iv p3, iv p4, iv p5, rv b1586, .unset, .unset, .unset, .unset, .unset, .unset, .unset, .unset, .unset, .unset, .unset, .unset, .unset, .unset, .unset, .unset, .unset, .unset, .unset, .unset, .unset, .unset, .unset, .unset] [(.int ((p0 &&& (2147483647:Int32)) % (3:Int32))), (.int (0:Int32)), (.ref b1586)] (fun t k => ?_) ?_
  ·refine XS.astore X1586.here hx rfl (D at_3) rfl rfl (l' := #[iv p0, iv p1, iv p2, iv p3, iv p4, iv p5, rv b1586, .unset, .unset, .unset, .unset, .unset, .unset, .unset, .unset, .unset, .unset, .unset, .unset, .unset, .unset, .unset, .unset, .unset, .unset, .unset, .unset, .unset, .unset, .unset, .unset]) rfl ?_
   refine XS.aload X1586.here hx rfl (D at_5) rfl rfl ?_
   refine XS.iconst X1586.here hx rfl (D at_7) ?_
   refine XS.iloadN X1586.here hx rfl (D at_8) rfl ?_
   refine Jvm.Stand.ldcI X1586 hx hown (mvT hZ (own_h hw 1 rfl)) rfl (D at_9) ?_
   refine XS.iand X1586.here hx rfl (D at_11) rfl ?_
   refine XS.iconst X1586.here hx rfl (D at_12) ?_
   exact iremM X1586 hx rfl (D at_13) rfl (by decide) k
  have hbn1589 : own_In (0:Int32) [(0:Int32), (0:Int32), (0:Int32)].length := own_lit rfl
  refine own_iastG X1586 hx hZ e1586 V1586 hbn1589 rfl rfl (D at_14) (fun T1588 h1588 X1588 e1588 W1588 V1588 => ?_)
  have Z1590 : n0 ≤ h1588.size := Nat.le_trans Z1587 (Nat.le_of_eq W1588.size.symm)
  have N1588 := Fr.snoc X1588 N0 ge_b1586
  obtain ⟨w0_1, hw0_1⟩ : ∃ z : Int32, z = ((p0 &&& (2147483647:Int32)) % (3:Int32)) := ⟨_, rfl⟩
  have Vw1588 : own_Ints Z h1588 b1586 [w0_1, (0:Int32), (0:Int32)] := by rw [hw0_1]; exact V1588
  refine own_pA T1588 m 24 #[iv p0, iv p1, iv p2, iv p3, iv p4, iv p5, rv b1586, .unset, .unset, .unset, .unset, .unset, .unset, .unset, .unset, .unset, .unset, .unset, .unset, .unset, .unset, .unset, .unset, .unset, .unset, .unset, .unset, .unset, .unset, .unset, .unset] [(.int ((p1 &&& (2147483647:Int32)) % (3:Int32))), (.int (1:Int32)), (.ref b1586)] (fun t k => ?_) ?_
  ·refine XS.aload X1588.here hx rfl (D at_15) rfl rfl ?_
   refine XS.iconst X1588.here hx rfl (D at_17) ?_
   refine XS.iloadN X1588.here hx rfl (D at_18) rfl ?_
   refine Jvm.Stand.ldcI X1588 hx hown (mvT hZ (own_h hw 1 rfl)) rfl (D at_19) ?_
   refine XS.iand X1588.here hx rfl (D at_21) rfl ?_
   refine XS.iconst X1588.here hx rfl (D at_22) ?_
   exact iremM X1588 hx rfl (D at_23) rfl (by decide) k
  have hbn1592 : own_In (1:Int32) [w0_1, (0:Int32), (0:Int32)].length := own_lit rfl
  refine own_iastG X1588 hx hZ e1588 Vw1588 hbn1592 rfl rfl (D at_24) (fun T1591 h1591 X1591 e1591 W1591 V1591 => ?_)
  have Z1593 : n0 ≤ h1591.size := Nat.le_trans Z1590 (Nat.le_of_eq W1591.size.symm)
  have N1591 := Fr.snoc X1591 N1588 ge_b1586
  obtain ⟨w0_2, hw0_2⟩ : ∃ z : Int32, z = ((p1 &&& (2147483647:Int32)) % (3:Int32)) := ⟨_, rfl⟩
  have Vw1591 : own_Ints Z h1591 b1586 [w0_1, w0_2, (0:Int32)] := by rw [hw0_2]; exact V1591
  refine own_pA T1591 m 34 #[iv p0, iv p1, iv p2, iv p3, iv p4, iv p5, rv b1586, .unset, .unset, .unset, .unset, .unset, .unset, .unset, .unset, .unset, .unset, .unset, .unset, .unset, .unset, .unset, .unset, .unset, .unset, .unset, .unset, .unset, .unset, .unset, .unset] [(.int ((p2 &&& (2147483647:Int32)) % (3:Int32))), (.int (2:Int32)), (.ref b1586)] (fun t k => ?_) ?_
  ·refine XS.aload X1591.here hx rfl (D at_25) rfl rfl ?_
   refine XS.iconst X1591.here hx rfl (D at_27) ?_
   refine XS.iloadN X1591.here hx rfl (D at_28) rfl ?_
   refine Jvm.Stand.ldcI X1591 hx hown (mvT hZ (own_h hw 1 rfl)) rfl (D at_29) ?_
   refine XS.iand X1591.here hx rfl (D at_31) rfl ?_
   refine XS.iconst X1591.here hx rfl (D at_32) ?_
   exact iremM X1591 hx rfl (D at_33) rfl (by decide) k
  have hbn1595 : own_In (2:Int32) [w0_1, w0_2, (0:Int32)].length := own_lit rfl
  refine own_iastG X1591 hx hZ e1591 Vw1591 hbn1595 rfl rfl (D at_34) (fun T1594 h1594 X1594 e1594 W1594 V1594 => ?_)
  have Z1596 : n0 ≤ h1594.size := Nat.le_trans Z1593 (Nat.le_of_eq W1594.size.symm)
  have N1594 := Fr.snoc X1594 N1591 ge_b1586
  obtain ⟨w0_3, hw0_3⟩ : ∃ z : Int32, z = ((p2 &&& (2147483647:Int32)) % (3:Int32)) := ⟨_, rfl⟩
  have Vw1594 : own_Ints Z h1594 b1586 [w0_1, w0_2, w0_3] := by rw [hw0_3]; exact V1594
  obtain ⟨w0_4, hw0_4⟩ : ∃ z : Int32, z = ((p4 &&& (2147483647:Int32)) % (6:Int32)) := ⟨_, rfl⟩
  refine own_pA T1594 m 58 #[iv p0, iv p1, iv p2, iv p3, iv p4, iv p5, rv b1586, iv (3:Int32), iv w0_4, iv (w0_4 / (2:Int32)), .unset, .unset, .unset, .unset, .unset, .unset, .unset, .unset, .unset, .unset, .unset, .unset, .unset, .unset, .unset, .unset, .unset, .unset, .unset, .unset, .unset] [(.int (w0_4 / (2:Int32)))] (fun t k => ?_) ?_
  ·refine XS.iloadN X1594.here hx rfl (D at_35) rfl ?_
   refine XS.iconst X1594.here hx rfl (D at_36) ?_
   refine XS.iand X1594.here hx rfl (D at_37) rfl ?_
   refine XS.istore X1594.here hx rfl (D at_38) rfl (l' := #[iv p0, iv p1, iv p2, iv p3, iv p4, iv p5, rv b1586, iv (3:Int32), .unset, .unset, .unset, .unset, .unset, .unset, .unset, .unset, .unset, .unset, .unset, .unset, .unset, .unset, .unset, .unset, .unset, .unset, .unset, .unset, .unset, .unset, .unset]) (by show storeLocals _ _ (Value.int (p3 &&& (3:Int32))) = _; rw [hn]; rfl) ?_
   refine XS.iload X1594.here hx rfl (D at_40) rfl ?_
   refine Jvm.Stand.ldcI X1594 hx hown (mvT hZ (own_h hw 1 rfl)) rfl (D at_42) ?_
   refine XS.iand X1594.here hx rfl (D at_44) rfl ?_
   refine XS.bipush X1594.here hx rfl (D at_45) ?_
   refine iremM X1594 hx rfl (D at_47) rfl (by decide) ?_
   refine XS.istore X1594.here hx rfl (D at_48) rfl (l' := #[iv p0, iv p1, iv p2, iv p3, iv p4, iv p5, rv b1586, iv (3:Int32), iv w0_4, .unset, .unset, .unset, .unset, .unset, .unset, .unset, .unset, .unset, .unset, .unset, .unset, .unset, .unset, .unset, .unset, .unset, .unset, .unset, .unset, .unset, .unset]) (by rw [hw0_4]; rfl) ?_
   refine XS.iload X1594.here hx rfl (D at_50) rfl ?_
   refine XS.iconst X1594.here hx rfl (D at_52) ?_
   refine XS.idiv X1594.here hx rfl (D at_53) rfl (by decide) ?_
   refine XS.istore X1594.here hx rfl (D at_54) rfl (l' := #[iv p0, iv p1, iv p2, iv p3, iv p4, iv p5, rv b1586, iv (3:Int32), iv w0_4, iv (w0_4 / (2:Int32)), .unset, .unset, .unset, .unset, .unset, .unset, .unset, .unset, .unset, .unset, .unset, .unset, .unset, .unset, .unset, .unset, .unset, .unset, .unset, .unset, .unset]) rfl ?_
   exact XS.iload X1594.here hx rfl (D at_56) rfl k
  obtain ⟨w0_5, hw0_5⟩ : ∃ z : Int32, z = (if (w0_4 / (2:Int32)) = (0:Int32) then (1:Int32) else (0:Int32)) := ⟨_, rfl⟩
  refine own_pre (A := T1594.setTop (mkF m 66 #[iv p0, iv p1, iv p2, iv p3, iv p4, iv p5, rv b1586, iv (3:Int32), iv w0_4, iv (w0_4 / (2:Int32)), .unset, .unset, .unset, .unset, .unset, .unset, .unset, .unset, .unset, .unset, .unset, .unset, .unset, .unset, .unset, .unset, .unset, .unset, .unset, .unset, .unset] [(.int w0_5)])) (fun t k => ?_) ?_
  ·by_cases hm58_1 : (w0_4 / (2:Int32)) = (0:Int32)
   ·refine XS.ifNo X1594.here hx rfl (D at_58) rfl (XT.i0_ne_f hm58_1) ?_
    refine XS.iconst X1594.here hx rfl (D at_61) ?_
    refine XS.goto X1594.here hx rfl (pc0 := 62) (pc' := 66) rfl (D at_62) (by decide) (by decide) ?_
    rw [hw0_5.trans (if_pos hm58_1)] at k
    exact k
   ·refine XS.ifYes X1594.here hx rfl (pc0 := 58) (pc' := 65) rfl (D at_58) rfl (XT.i0_ne_t hm58_1) (by decide) (by decide) ?_
    refine XS.iconst X1594.here hx rfl (D at_65) ?_
    rw [hw0_5.trans (if_neg hm58_1)] at k
    exact k
  refine own_pA T1594 m 71 #[iv p0, iv p1, iv p2, iv p3, iv p4, iv p5, rv b1586, iv (3:Int32), iv w0_4, iv (w0_4 / (2:Int32)), iv w0_5, .unset, .unset, .unset, .unset, .unset, .unset, .unset, .unset, .unset, .unset, .unset, .unset, .unset, .unset, .unset, .unset, .unset, .unset, .unset, .unset] [(.int (2:Int32)), (.int (w0_4 / (2:Int32)))] (fun t k => ?_) ?_
  ·refine XS.istore X1594.here hx rfl (D at_66) rfl (l' := #[iv p0, iv p1, iv p2, iv p3, iv p4, iv p5, rv b1586, iv (3:Int32), iv w0_4, iv (w0_4 / (2:Int32)), iv w0_5, .unset, .unset, .unset, .unset, .unset, .unset, .unset, .unset, .unset, .unset, .unset, .unset, .unset, .unset, .unset, .unset, .unset, .unset, .unset, .unset]) rfl ?_
   refine XS.iload X1594.here hx rfl (D at_68) rfl ?_
   exact XS.iconst X1594.here hx rfl (D at_70) k
  obtain ⟨w0_6, hw0_6⟩ : ∃ z : Int32, z = (if (w0_4 / (2:Int32)) = (2:Int32) then (1:Int32) else (2:Int32)) := ⟨_, rfl⟩
  refine own_pre (A := T1594.setTop (mkF m 79 #[iv p0, iv p1, iv p2, iv p3, iv p4, iv p5, rv b1586, iv (3:Int32), iv w0_4, iv (w0_4 / (2:Int32)), iv w0_5, .unset, .unset, .unset, .unset, .unset, .unset, .unset, .unset, .unset, .unset, .unset, .unset, .unset, .unset, .unset, .unset, .unset, .unset, .unset, .unset] [(.int w0_6)])) (fun t k => ?_) ?_
  ·by_cases hm71_2 : (w0_4 / (2:Int32)) = (2:Int32)
   ·refine XS.icmpNo X1594.here hx rfl (D at_71) rfl (XT.ii_ne_f hm71_2) ?_
    refine XS.iconst X1594.here hx rfl (D at_74) ?_
    refine XS.goto X1594.here hx rfl (pc0 := 75) (pc' := 79) rfl (D at_75) (by decide) (by decide) ?_
    rw [hw0_6.trans (if_pos hm71_2)] at k
    exact k
   ·refine XS.icmpYes X1594.here hx rfl (pc0 := 71) (pc' := 78) rfl (D at_71) rfl (XT.ii_ne_t hm71_2) (by decide) (by decide) ?_
    refine XS.iconst X1594.here hx rfl (D at_78) ?_
    rw [hw0_6.trans (if_neg hm71_2)] at k
    exact k
  refine own_pA T1594 m 85 #[iv p0, iv p1, iv p2, iv p3, iv p4, iv p5, rv b1586, iv (3:Int32), iv w0_4, iv (w0_4 / (2:Int32)), iv w0_5, iv w0_6, .unset, .unset, .unset, .unset, .unset, .unset, .unset, .unset, .unset, .unset, .unset, .unset, .unset, .unset, .unset, .unset, .unset, .unset, .unset] [(.int (w0_4 &&& (1:Int32)))] (fun t k => ?_) ?_
  ·refine XS.istore X1594.here hx rfl (D at_79) rfl (l' := #[iv p0, iv p1, iv p2, iv p3, iv p4, iv p5, rv b1586, iv (3:Int32), iv w0_4, iv (w0_4 / (2:Int32)), iv w0_5, iv w0_6, .unset, .unset, .unset, .unset, .unset, .unset, .unset, .unset, .unset, .unset, .unset, .unset, .unset, .unset, .unset, .unset, .unset, .unset, .unset]) rfl ?_
   refine XS.iload X1594.here hx rfl (D at_81) rfl ?_
   refine XS.iconst X1594.here hx rfl (D at_83) ?_
   exact XS.iand X1594.here hx rfl (D at_84) rfl k
  obtain ⟨w0_7, hw0_7⟩ : ∃ z : Int32, z = (if (w0_4 &&& (1:Int32)) = (0:Int32) then w0_5 else w0_6) := ⟨_, rfl⟩
  refine own_pre (A := T1594.setTop (mkF m 95 #[iv p0, iv p1, iv p2, iv p3, iv p4, iv p5, rv b1586, iv (3:Int32), iv w0_4, iv (w0_4 / (2:Int32)), iv w0_5, iv w0_6, .unset, .unset, .unset, .unset, .unset, .unset, .unset, .unset, .unset, .unset, .unset, .unset, .unset, .unset, .unset, .unset, .unset, .unset, .unset] [(.int w0_7)])) (fun t k => ?_) ?_
  ·by_cases hm85_3 : (w0_4 &&& (1:Int32)) = (0:Int32)
   ·refine XS.ifNo X1594.here hx rfl (D at_85) rfl (XT.i0_ne_f hm85_3) ?_
    refine XS.iload X1594.here hx rfl (D at_88) rfl ?_
    refine XS.goto X1594.here hx rfl (pc0 := 90) (pc' := 95) rfl (D at_90) (by decide) (by decide) ?_
    rw [hw0_7.trans (if_pos hm85_3)] at k
    exact k
   ·refine XS.ifYes X1594.here hx rfl (pc0 := 85) (pc' := 93) rfl (D at_85) rfl (XT.i0_ne_t hm85_3) (by decide) (by decide) ?_
    refine XS.iload X1594.here hx rfl (D at_93) rfl ?_
    rw [hw0_7.trans (if_neg hm85_3)] at k
    exact k
  refine own_pA T1594 m 101 #[iv p0, iv p1, iv p2, iv p3, iv p4, iv p5, rv b1586, iv (3:Int32), iv w0_4, iv (w0_4 / (2:Int32)), iv w0_5, iv w0_6, iv w0_7, .unset, .unset, .unset, .unset, .unset, .unset, .unset, .unset, .unset, .unset, .unset, .unset, .unset, .unset, .unset, .unset, .unset, .unset] [(.int (w0_4 &&& (1:Int32)))] (fun t k => ?_) ?_
  ·refine XS.istore X1594.here hx rfl (D at_95) rfl (l' := #[iv p0, iv p1, iv p2, iv p3, iv p4, iv p5, rv b1586, iv (3:Int32), iv w0_4, iv (w0_4 / (2:Int32)), iv w0_5, iv w0_6, iv w0_7, .unset, .unset, .unset, .unset, .unset, .unset, .unset, .unset, .unset, .unset, .unset, .unset, .unset, .unset, .unset, .unset, .unset, .unset]) rfl ?_
   refine XS.iload X1594.here hx rfl (D at_97) rfl ?_
   refine XS.iconst X1594.here hx rfl (D at_99) ?_
   exact XS.iand X1594.here hx rfl (D at_100) rfl k
  obtain ⟨w0_8, hw0_8⟩ : ∃ z : Int32, z = (if (w0_4 &&& (1:Int32)) = (0:Int32) then w0_6 else w0_5) := ⟨_, rfl⟩
  refine own_pre (A := T1594.setTop (mkF m 111 #[iv p0, iv p1, iv p2, iv p3, iv p4, iv p5, rv b1586, iv (3:Int32), iv w0_4, iv (w0_4 / (2:Int32)), iv w0_5, iv w0_6, iv w0_7, .unset, .unset, .unset, .unset, .unset, .unset, .unset, .unset, .unset, .unset, .unset, .unset, .unset, .unset, .unset, .unset, .unset, .unset] [(.int w0_8)])) (fun t k => ?_) ?_
  ·by_cases hm101_4 : (w0_4 &&& (1:Int32)) = (0:Int32)
   ·refine XS.ifNo X1594.here hx rfl (D at_101) rfl (XT.i0_ne_f hm101_4) ?_
    refine XS.iload X1594.here hx rfl (D at_104) rfl ?_
    refine XS.goto X1594.here hx rfl (pc0 := 106) (pc' := 111) rfl (D at_106) (by decide) (by decide) ?_
    rw [hw0_8.trans (if_pos hm101_4)] at k
    exact k
   ·refine XS.ifYes X1594.here hx rfl (pc0 := 101) (pc' := 109) rfl (D at_101) rfl (XT.i0_ne_t hm101_4) (by decide) (by decide) ?_
    refine XS.iload X1594.here hx rfl (D at_109) rfl ?_
    rw [hw0_8.trans (if_neg hm101_4)] at k
    exact k
  refine own_pA T1594 m 113 #[iv p0, iv p1, iv p2, iv p3, iv p4, iv p5, rv b1586, iv (3:Int32), iv w0_4, iv (w0_4 / (2:Int32)), iv w0_5, iv w0_6, iv w0_7, iv w0_8, .unset, .unset, .unset, .unset, .unset, .unset, .unset, .unset, .unset, .unset, .unset, .unset, .unset, .unset, .unset, .unset, .unset] [] (fun t k => ?_) ?_
  ·exact XS.istore X1594.here hx rfl (D at_111) rfl (l' := #[iv p0, iv p1, iv p2, iv p3, iv p4, iv p5, rv b1586, iv (3:Int32), iv w0_4, iv (w0_4 / (2:Int32)), iv w0_5, iv w0_6, iv w0_7, iv w0_8, .unset, .unset, .unset, .unset, .unset, .unset, .unset, .unset, .unset, .unset, .unset, .unset, .unset, .unset, .unset, .unset, .unset]) rfl k
  obtain ⟨T1597, h1597, X1597, e1597, E1597, A1597, D1597, -, st1597⟩ := newO X1594 hx hZ hown (own_h hw 2 rfl) (own_h hw 3 rfl) (own_h hw 4 rfl) e1594 (g := (mkF m 113 #[iv p0, iv p1, iv p2, iv p3, iv p4, iv p5, rv b1586, iv (3:Int32), iv w0_4, iv (w0_4 / (2:Int32)), iv w0_5, iv w0_6, iv w0_7, iv w0_8, .unset, .unset, .unset, .unset, .unset, .unset, .unset, .unset, .unset, .unset, .unset, .unset, .unset, .unset, .unset, .unset, .unset] [])) rfl (D at_113) (by decide) (by decide)
  obtain ⟨b1597, g1597⟩ : ∃ z, z = h1594.size := ⟨_, rfl⟩
  rw [← g1597] at A1597 D1597 st1597
  have ge_b1597 : n0 ≤ b1597 := Nat.le_trans Z1596 (Nat.le_of_eq g1597.symm)
  have ne_b1586_b1597 : b1586 ≠ b1597 := Nat.ne_of_lt (Nat.lt_of_lt_of_le Vw1594.lt (Nat.le_of_eq g1597.symm))
  have Z1598 : n0 ≤ h1597.size := Nat.le_trans Z1596 E1597.1
  have F1597_labels : Fld Z h1597 b1597 "com/example/spare_calculus/sparecalculus/bisim/LabelGroups" "labels" "[I" .null := D1597 (Or.inr (own_h hw 12 rfl)) (ty := (.array .int)) (by decide)
  have F1597_moves : Fld Z h1597 b1597 "com/example/spare_calculus/sparecalculus/bisim/LabelGroups" "moves" "[I" .null := D1597 (Or.inr (own_h hw 14 rfl)) (ty := (.array .int)) (by decide)
  have F1597_grouped : Fld Z h1597 b1597 "com/example/spare_calculus/sparecalculus/bisim/LabelGroups" "grouped" "[I" .null := D1597 (Or.inr (own_h hw 16 rfl)) (ty := (.array .int)) (by decide)
  have F1597_groupLabels : Fld Z h1597 b1597 "com/example/spare_calculus/sparecalculus/bisim/LabelGroups" "groupLabels" "[I" .null := D1597 (Or.inr (own_h hw 18 rfl)) (ty := (.array .int)) (by decide)
  have F1597_groupStarts : Fld Z h1597 b1597 "com/example/spare_calculus/sparecalculus/bisim/LabelGroups" "groupStarts" "[I" .null := D1597 (Or.inr (own_h hw 20 rfl)) (ty := (.array .int)) (by decide)
  have F1597_moveCount : Fld Z h1597 b1597 "com/example/spare_calculus/sparecalculus/bisim/LabelGroups" "moveCount" "I" (.int (0:Int32)) := D1597 (Or.inl (own_h hw 27 rfl)) (ty := .int) (by decide)
  have F1597_groupCount : Fld Z h1597 b1597 "com/example/spare_calculus/sparecalculus/bisim/LabelGroups" "groupCount" "I" (.int (0:Int32)) := D1597 (Or.inl (own_h hw 34 rfl)) (ty := .int) (by decide)
  refine own_pre st1597 ?_
  refine own_pA T1597 m 120 #[iv p0, iv p1, iv p2, iv p3, iv p4, iv p5, rv b1586, iv (3:Int32), iv w0_4, iv (w0_4 / (2:Int32)), iv w0_5, iv w0_6, iv w0_7, iv w0_8, .unset, .unset, .unset, .unset, .unset, .unset, .unset, .unset, .unset, .unset, .unset, .unset, .unset, .unset, .unset, .unset, .unset] [(.int (3:Int32)), (.ref b1586), (.ref b1597), (.ref b1597)] (fun t k => ?_) ?_
  ·refine XS.dup X1597.here hx rfl (D at_116) rfl rfl ?_
   refine XS.aload X1597.here hx rfl (D at_117) rfl rfl ?_
   exact XS.iconst X1597.here hx rfl (D at_119) k
  have F1600 := (Vw1594.ext E1597)
  obtain ⟨_, _, ⟨T1599, L1599, k1599, n1599⟩, -, X1599, ⟨Lc1599, hQ1599, l1599, y1599, z1599⟩, st1599⟩ := X1597.specialBack hx (y := (⟨"com/example/spare_calculus/sparecalculus/bisim/LabelGroups", "<init>", "([II)V"⟩ : MethodName)) rfl hown (mvT hZ (own_h hw 5 rfl)) (mvT hZ (own_h hw 6 rfl)) (mvT hZ (own_h hw 7 rfl)) (by decide) (backOf (W := 1) (rm1 l Z aZ hw [] b1597 b1586 w0_1 w0_2 w0_3 h1597 n0 Z1598 A1597 F1597_labels F1597_moves F1597_grouped F1597_groupLabels F1597_groupStarts F1597_moveCount F1597_groupCount F1600 (Ne.symm ne_b1586_b1597) ge_b1597) hZ (own_h hw 7 rfl) (own_h hw 4 rfl) (by decide) (by decide)) (g := (mkF m 120 #[iv p0, iv p1, iv p2, iv p3, iv p4, iv p5, rv b1586, iv (3:Int32), iv w0_4, iv (w0_4 / (2:Int32)), iv w0_5, iv w0_6, iv w0_7, iv w0_8, .unset, .unset, .unset, .unset, .unset, .unset, .unset, .unset, .unset, .unset, .unset, .unset, .unset, .unset, .unset, .unset, .unset] [(.int (3:Int32)), (.ref b1586), (.ref b1597), (.ref b1597)])) rfl (by rw [hml]; rfl) (Steps.refl _) (a := b1597) (argsL := [(.ref b1586), (.int (3:Int32))]) (rest := [(.ref b1597)]) (lenOf own_pd0 rfl) rfl (by show 2 * 0 + _ ≤ _; exact Nat.le_of_eq rfl) (D at_120) (fun _ _ => ⟨rfl, e1597, (by decide : 2 + 4 ≤ _), (by decide : 10 + 12 ≤ _)⟩)
  dsimp only [Pt.U, Pt.locs, Pt.cells, Pt.slots] at X1599 l1599 y1599 z1599 st1599 hQ1599
  subst l1599 y1599 z1599
  obtain ⟨rfl, N1599q, K1599, mv_1601, gr_1602, gl_1603, gs_1604, sz1605, sz1606, sz1607, sz1608, ne1609, ne1610, ne1611, ne1612, ne1613, ne1614, G1615, G1616, G1617, G1618, G1619, G1620, G1621, G1622, G1623, G1624, G1625⟩ := hQ1599
  have N1599 := Fr.app N1594 N1599q
  have Z1626 : n0 ≤ T1599.heap.size := Nat.le_trans Z1598 K1599.1
  have ne1627 : b1586 ≠ mv_1601 := Nat.ne_of_lt (Nat.lt_of_lt_of_le F1600.lt sz1605)
  have ne1628 : b1597 ≠ mv_1601 := Nat.ne_of_lt (Nat.lt_of_lt_of_le A1597.lt sz1605)
  have ge1629 : n0 ≤ mv_1601 := Nat.le_trans Z1598 sz1605
  have ne1630 : b1586 ≠ gr_1602 := Nat.ne_of_lt (Nat.lt_of_lt_of_le F1600.lt sz1606)
  have ne1631 : b1597 ≠ gr_1602 := Nat.ne_of_lt (Nat.lt_of_lt_of_le A1597.lt sz1606)
  have ge1632 : n0 ≤ gr_1602 := Nat.le_trans Z1598 sz1606
  have ne1633 : b1586 ≠ gl_1603 := Nat.ne_of_lt (Nat.lt_of_lt_of_le F1600.lt sz1607)
  have ne1634 : b1597 ≠ gl_1603 := Nat.ne_of_lt (Nat.lt_of_lt_of_le A1597.lt sz1607)
  have ge1635 : n0 ≤ gl_1603 := Nat.le_trans Z1598 sz1607
  have ne1636 : b1586 ≠ gs_1604 := Nat.ne_of_lt (Nat.lt_of_lt_of_le F1600.lt sz1608)
  have ne1637 : b1597 ≠ gs_1604 := Nat.ne_of_lt (Nat.lt_of_lt_of_le A1597.lt sz1608)
  have ge1638 : n0 ≤ gs_1604 := Nat.le_trans Z1598 sz1608
  refine own_pre (fun _ k => st1599.trans k) ?_
  refine own_pA T1599 m 135 #[iv p0, iv p1, iv p2, iv p3, iv p4, iv p5, rv b1586, iv (3:Int32), iv w0_4, iv (w0_4 / (2:Int32)), iv w0_5, iv w0_6, iv w0_7, iv w0_8, rv b1597, .unset, .unset, .unset, .unset, .unset, .unset, .unset, .unset, .unset, .unset, .unset, .unset, .unset, .unset, .unset, .unset] [(.int (w0_4 / (2:Int32))), (.ref b1597)] (fun t k => ?_) ?_
  ·refine XS.astore X1599.here hx rfl (D at_123) rfl rfl (l' := #[iv p0, iv p1, iv p2, iv p3, iv p4, iv p5, rv b1586, iv (3:Int32), iv w0_4, iv (w0_4 / (2:Int32)), iv w0_5, iv w0_6, iv w0_7, iv w0_8, rv b1597, .unset, .unset, .unset, .unset, .unset, .unset, .unset, .unset, .unset, .unset, .unset, .unset, .unset, .unset, .unset, .unset]) rfl ?_
   refine XS.iload X1599.here hx rfl (D at_125) rfl ?_
   refine XS.iconst X1599.here hx rfl (D at_127) ?_
   refine XS.icmpNo X1599.here hx rfl (D at_128) rfl (XT.ii_lt_f (by decide)) ?_
   refine XS.aload X1599.here hx rfl (D at_131) rfl rfl ?_
   exact XS.iload X1599.here hx rfl (D at_133) rfl k
  have F1640 := (A1597.keep K1599)
  refine own_virtG X1599 hx hZ (y := own_y3) hown (own_h hw 21 rfl) (own_h hw 22 rfl) (own_h hw 24 rfl) (own_h hw 23 rfl) (own_h hw 25 rfl) (own_h hw 4 rfl) (by decide) (W := 0) (rm3 l Z aZ hw [] b1597 (w0_4 / (2:Int32)) b1586 mv_1601 gr_1602 gl_1603 gs_1604 [(0:Int32), (0:Int32), (0:Int32)] (0:Int32) T1599.heap n0 Z1626 F1640 G1619 G1615 G1616 G1617 G1618 G1620 G1621 G1622 ne1628 ge_b1597 ge1629 (own_lit rfl)) (by decide) (by decide) rfl F1640 rfl (by rw [hml]; rfl) (argsL := [(.int (w0_4 / (2:Int32)))]) (rest := []) (lenOf own_pd3 rfl) rfl (by show 2 * 0 + _ ≤ _; exact Nat.le_of_eq rfl) (D at_135) rfl (by decide) (by decide) (fun v T1639 L1639 X1639 hQ1639 => ?_)
  obtain ⟨rfl, N1639q, K1639, G1641, G1642, G1643, G1644, G1645, G1646, G1647, G1648⟩ := hQ1639
  have N1639 := Fr.app N1599 N1639q
  have Z1649 : n0 ≤ T1639.heap.size := Nat.le_trans Z1626 K1639.1
  have G1650 : Fld Z T1639.heap b1597 "com/example/spare_calculus/sparecalculus/bisim/LabelGroups" "moveCount" "I" (.int (1:Int32)) := G1646
  have G1651 : own_Ints Z T1639.heap mv_1601 [(w0_4 / (2:Int32)), (0:Int32), (0:Int32)] := G1648
  refine own_pA T1639 m 148 #[iv p0, iv p1, iv p2, iv p3, iv p4, iv p5, rv b1586, iv (3:Int32), iv w0_4, iv (w0_4 / (2:Int32)), iv w0_5, iv w0_6, iv w0_7, iv w0_8, rv b1597, .unset, .unset, .unset, .unset, .unset, .unset, .unset, .unset, .unset, .unset, .unset, .unset, .unset, .unset, .unset, .unset] [(.int w0_7), (.ref b1597)] (fun t k => ?_) ?_
  ·refine XS.iload X1639.here hx rfl (D at_138) rfl ?_
   refine XS.iconst X1639.here hx rfl (D at_140) ?_
   refine XS.icmpNo X1639.here hx rfl (D at_141) rfl (XT.ii_lt_f (by decide)) ?_
   refine XS.aload X1639.here hx rfl (D at_144) rfl rfl ?_
   exact XS.iload X1639.here hx rfl (D at_146) rfl k
  have F1653 := (F1640.keep K1639)
  refine own_virtG X1639 hx hZ (y := own_y3) hown (own_h hw 21 rfl) (own_h hw 22 rfl) (own_h hw 24 rfl) (own_h hw 23 rfl) (own_h hw 25 rfl) (own_h hw 4 rfl) (by decide) (W := 0) (rm3 l Z aZ hw [] b1597 w0_7 b1586 mv_1601 gr_1602 gl_1603 gs_1604 [(w0_4 / (2:Int32)), (0:Int32), (0:Int32)] (1:Int32) T1639.heap n0 Z1649 F1653 G1641 G1642 G1643 G1644 G1645 G1650 G1647 G1651 ne1628 ge_b1597 ge1629 (own_lit rfl)) (by decide) (by decide) rfl F1653 rfl (by rw [hml]; rfl) (argsL := [(.int w0_7)]) (rest := []) (lenOf own_pd3 rfl) rfl (by show 2 * 0 + _ ≤ _; exact Nat.le_of_eq rfl) (D at_148) rfl (by decide) (by decide) (fun v T1652 L1652 X1652 hQ1652 => ?_)
  obtain ⟨rfl, N1652q, K1652, G1654, G1655, G1656, G1657, G1658, G1659, G1660, G1661⟩ := hQ1652
  have N1652 := Fr.app N1639 N1652q
  have Z1662 : n0 ≤ T1652.heap.size := Nat.le_trans Z1649 K1652.1
  have G1663 : Fld Z T1652.heap b1597 "com/example/spare_calculus/sparecalculus/bisim/LabelGroups" "moveCount" "I" (.int (2:Int32)) := G1659
  have G1664 : own_Ints Z T1652.heap mv_1601 [(w0_4 / (2:Int32)), w0_7, (0:Int32)] := G1661
  refine own_pA T1652 m 161 #[iv p0, iv p1, iv p2, iv p3, iv p4, iv p5, rv b1586, iv (3:Int32), iv w0_4, iv (w0_4 / (2:Int32)), iv w0_5, iv w0_6, iv w0_7, iv w0_8, rv b1597, .unset, .unset, .unset, .unset, .unset, .unset, .unset, .unset, .unset, .unset, .unset, .unset, .unset, .unset, .unset, .unset] [(.int w0_8), (.ref b1597)] (fun t k => ?_) ?_
  ·refine XS.iload X1652.here hx rfl (D at_151) rfl ?_
   refine XS.iconst X1652.here hx rfl (D at_153) ?_
   refine XS.icmpNo X1652.here hx rfl (D at_154) rfl (XT.ii_lt_f (by decide)) ?_
   refine XS.aload X1652.here hx rfl (D at_157) rfl rfl ?_
   exact XS.iload X1652.here hx rfl (D at_159) rfl k
  have F1666 := (F1653.keep K1652)
  refine own_virtG X1652 hx hZ (y := own_y3) hown (own_h hw 21 rfl) (own_h hw 22 rfl) (own_h hw 24 rfl) (own_h hw 23 rfl) (own_h hw 25 rfl) (own_h hw 4 rfl) (by decide) (W := 0) (rm3 l Z aZ hw [] b1597 w0_8 b1586 mv_1601 gr_1602 gl_1603 gs_1604 [(w0_4 / (2:Int32)), w0_7, (0:Int32)] (2:Int32) T1652.heap n0 Z1662 F1666 G1654 G1655 G1656 G1657 G1658 G1663 G1660 G1664 ne1628 ge_b1597 ge1629 (own_lit rfl)) (by decide) (by decide) rfl F1666 rfl (by rw [hml]; rfl) (argsL := [(.int w0_8)]) (rest := []) (lenOf own_pd3 rfl) rfl (by show 2 * 0 + _ ≤ _; exact Nat.le_of_eq rfl) (D at_161) rfl (by decide) (by decide) (fun v T1665 L1665 X1665 hQ1665 => ?_)
  obtain ⟨rfl, N1665q, K1665, G1667, G1668, G1669, G1670, G1671, G1672, G1673, G1674⟩ := hQ1665
  have N1665 := Fr.app N1652 N1665q
  have Z1675 : n0 ≤ T1665.heap.size := Nat.le_trans Z1662 K1665.1
  have G1676 : Fld Z T1665.heap b1597 "com/example/spare_calculus/sparecalculus/bisim/LabelGroups" "moveCount" "I" (.int (3:Int32)) := G1672
  have G1677 : own_Ints Z T1665.heap mv_1601 [(w0_4 / (2:Int32)), w0_7, w0_8] := G1674
  refine own_pA T1665 m 166 #[iv p0, iv p1, iv p2, iv p3, iv p4, iv p5, rv b1586, iv (3:Int32), iv w0_4, iv (w0_4 / (2:Int32)), iv w0_5, iv w0_6, iv w0_7, iv w0_8, rv b1597, .unset, .unset, .unset, .unset, .unset, .unset, .unset, .unset, .unset, .unset, .unset, .unset, .unset, .unset, .unset, .unset] [(.ref b1597)] (fun t k => ?_) ?_
  ·exact XS.aload X1665.here hx rfl (D at_164) rfl rfl k
  have F1679 := (F1666.keep K1665)
  have F1680 := ((((F1600.keep K1599 (ninS ne_b1586_b1597 nin0)).keep K1639 (ninS ne_b1586_b1597 (ninS ne1627 nin0))).keep K1652 (ninS ne_b1586_b1597 (ninS ne1627 nin0))).keep K1665 (ninS ne_b1586_b1597 (ninS ne1627 nin0)))
  have F1681 := (((G1623.keep K1639 (ninS (Ne.symm ne1631) (ninS (Ne.symm ne1609) nin0))).keep K1652 (ninS (Ne.symm ne1631) (ninS (Ne.symm ne1609) nin0))).keep K1665 (ninS (Ne.symm ne1631) (ninS (Ne.symm ne1609) nin0)))
  have F1682 := (((G1624.keep K1639 (ninS (Ne.symm ne1634) (ninS (Ne.symm ne1610) nin0))).keep K1652 (ninS (Ne.symm ne1634) (ninS (Ne.symm ne1610) nin0))).keep K1665 (ninS (Ne.symm ne1634) (ninS (Ne.symm ne1610) nin0)))
  have F1683 := (((G1625.keep K1639 (ninS (Ne.symm ne1637) (ninS (Ne.symm ne1611) nin0))).keep K1652 (ninS (Ne.symm ne1637) (ninS (Ne.symm ne1611) nin0))).keep K1665 (ninS (Ne.symm ne1637) (ninS (Ne.symm ne1611) nin0)))
  have hf1685 : own_In (w0_4 / (2:Int32)) [w0_1, w0_2, w0_3].length := by subst hw0_5 hw0_6 hw0_7 hw0_8; exact own_fin1684 w0_1 (own_m3 _ _ hw0_1) w0_2 (own_m3 _ _ hw0_2) w0_3 (own_m3 _ _ hw0_3) w0_4 (own_m6 _ _ hw0_4)
  have hf1687 : own_In (own_at [w0_1, w0_2, w0_3] (w0_4 / (2:Int32))) [(0:Int32), (0:Int32), (0:Int32)].length := by subst hw0_5 hw0_6 hw0_7 hw0_8; exact own_fin1686 w0_1 (own_m3 _ _ hw0_1) w0_2 (own_m3 _ _ hw0_2) w0_3 (own_m3 _ _ hw0_3) w0_4 (own_m6 _ _ hw0_4)
  have hf1689 : own_In w0_7 [w0_1, w0_2, w0_3].length := by subst hw0_5 hw0_6 hw0_7 hw0_8; exact own_fin1688 w0_1 (own_m3 _ _ hw0_1) w0_2 (own_m3 _ _ hw0_2) w0_3 (own_m3 _ _ hw0_3) w0_4 (own_m6 _ _ hw0_4)
  have hf1691 : own_In (own_at [w0_1, w0_2, w0_3] w0_7) (own_v100 w0_1 w0_2 w0_3 (w0_4 / (2:Int32))).length := by subst hw0_5 hw0_6 hw0_7 hw0_8; exact own_fin1690 w0_1 (own_m3 _ _ hw0_1) w0_2 (own_m3 _ _ hw0_2) w0_3 (own_m3 _ _ hw0_3) w0_4 (own_m6 _ _ hw0_4)
  have hf1693 : ((own_at (own_v100 w0_1 w0_2 w0_3 (w0_4 / (2:Int32))) (own_at [w0_1, w0_2, w0_3] w0_7)) = (0:Int32)) → own_In (own_at [w0_1, w0_2, w0_3] w0_7) (own_v100 w0_1 w0_2 w0_3 (w0_4 / (2:Int32))).length := by subst hw0_5 hw0_6 hw0_7 hw0_8; exact own_fin1692 w0_1 (own_m3 _ _ hw0_1) w0_2 (own_m3 _ _ hw0_2) w0_3 (own_m3 _ _ hw0_3) w0_4 (own_m6 _ _ hw0_4)
  have hf1695 : ((own_at (own_v100 w0_1 w0_2 w0_3 (w0_4 / (2:Int32))) (own_at [w0_1, w0_2, w0_3] w0_7)) = (0:Int32)) → own_In w0_8 [w0_1, w0_2, w0_3].length := by subst hw0_5 hw0_6 hw0_7 hw0_8; exact own_fin1694 w0_1 (own_m3 _ _ hw0_1) w0_2 (own_m3 _ _ hw0_2) w0_3 (own_m3 _ _ hw0_3) w0_4 (own_m6 _ _ hw0_4)
  have hf1697 : ((own_at (own_v100 w0_1 w0_2 w0_3 (w0_4 / (2:Int32))) (own_at [w0_1, w0_2, w0_3] w0_7)) = (0:Int32)) → own_In (own_at [w0_1, w0_2, w0_3] w0_8) (own_v223 w0_1 w0_2 w0_3 (w0_4 / (2:Int32)) w0_7).length := by subst hw0_5 hw0_6 hw0_7 hw0_8; exact own_fin1696 w0_1 (own_m3 _ _ hw0_1) w0_2 (own_m3 _ _ hw0_2) w0_3 (own_m3 _ _ hw0_3) w0_4 (own_m6 _ _ hw0_4)
  have hf1699 : ((own_at (own_v100 w0_1 w0_2 w0_3 (w0_4 / (2:Int32))) (own_at [w0_1, w0_2, w0_3] w0_7)) = (0:Int32)) → ((own_at (own_v223 w0_1 w0_2 w0_3 (w0_4 / (2:Int32)) w0_7) (own_at [w0_1, w0_2, w0_3] w0_8)) = (0:Int32)) → own_In (own_at [w0_1, w0_2, w0_3] w0_8) (own_v223 w0_1 w0_2 w0_3 (w0_4 / (2:Int32)) w0_7).length := by subst hw0_5 hw0_6 hw0_7 hw0_8; exact own_fin1698 w0_1 (own_m3 _ _ hw0_1) w0_2 (own_m3 _ _ hw0_2) w0_3 (own_m3 _ _ hw0_3) w0_4 (own_m6 _ _ hw0_4)
  have hf1701 : ((own_at (own_v100 w0_1 w0_2 w0_3 (w0_4 / (2:Int32))) (own_at [w0_1, w0_2, w0_3] w0_7)) = (0:Int32)) → ((own_at (own_v223 w0_1 w0_2 w0_3 (w0_4 / (2:Int32)) w0_7) (own_at [w0_1, w0_2, w0_3] w0_8)) = (0:Int32)) → own_In (own_at [w0_1, w0_2, w0_3] (w0_4 / (2:Int32))) (own_v524 w0_1 w0_2 w0_3 (w0_4 / (2:Int32)) w0_7 w0_8).length := by subst hw0_5 hw0_6 hw0_7 hw0_8; exact own_fin1700 w0_1 (own_m3 _ _ hw0_1) w0_2 (own_m3 _ _ hw0_2) w0_3 (own_m3 _ _ hw0_3) w0_4 (own_m6 _ _ hw0_4)
  have hf1703 : ((own_at (own_v100 w0_1 w0_2 w0_3 (w0_4 / (2:Int32))) (own_at [w0_1, w0_2, w0_3] w0_7)) = (0:Int32)) → ((own_at (own_v223 w0_1 w0_2 w0_3 (w0_4 / (2:Int32)) w0_7) (own_at [w0_1, w0_2, w0_3] w0_8)) = (0:Int32)) → own_In (own_at [w0_1, w0_2, w0_3] w0_7) (own_v541 w0_1 w0_2 w0_3 (w0_4 / (2:Int32)) w0_7 w0_8).length := by subst hw0_5 hw0_6 hw0_7 hw0_8; exact own_fin1702 w0_1 (own_m3 _ _ hw0_1) w0_2 (own_m3 _ _ hw0_2) w0_3 (own_m3 _ _ hw0_3) w0_4 (own_m6 _ _ hw0_4)
  have hf1705 : ((own_at (own_v100 w0_1 w0_2 w0_3 (w0_4 / (2:Int32))) (own_at [w0_1, w0_2, w0_3] w0_7)) = (0:Int32)) → ((own_at (own_v223 w0_1 w0_2 w0_3 (w0_4 / (2:Int32)) w0_7) (own_at [w0_1, w0_2, w0_3] w0_8)) = (0:Int32)) → own_In (own_at [w0_1, w0_2, w0_3] w0_8) (own_v556 w0_1 w0_2 w0_3 (w0_4 / (2:Int32)) w0_7 w0_8).length := by subst hw0_5 hw0_6 hw0_7 hw0_8; exact own_fin1704 w0_1 (own_m3 _ _ hw0_1) w0_2 (own_m3 _ _ hw0_2) w0_3 (own_m3 _ _ hw0_3) w0_4 (own_m6 _ _ hw0_4)
  have hf1707 : ((own_at (own_v100 w0_1 w0_2 w0_3 (w0_4 / (2:Int32))) (own_at [w0_1, w0_2, w0_3] w0_7)) = (0:Int32)) → ((own_at (own_v223 w0_1 w0_2 w0_3 (w0_4 / (2:Int32)) w0_7) (own_at [w0_1, w0_2, w0_3] w0_8)) = (0:Int32)) → own_In w0_8 [w0_1, w0_2, w0_3].length := by subst hw0_5 hw0_6 hw0_7 hw0_8; exact own_fin1706 w0_1 (own_m3 _ _ hw0_1) w0_2 (own_m3 _ _ hw0_2) w0_3 (own_m3 _ _ hw0_3) w0_4 (own_m6 _ _ hw0_4)
  have hf1709 : ((own_at (own_v100 w0_1 w0_2 w0_3 (w0_4 / (2:Int32))) (own_at [w0_1, w0_2, w0_3] w0_7)) = (0:Int32)) → ((own_at (own_v223 w0_1 w0_2 w0_3 (w0_4 / (2:Int32)) w0_7) (own_at [w0_1, w0_2, w0_3] w0_8)) = (0:Int32)) → own_In (own_at [w0_1, w0_2, w0_3] w0_8) (own_v571 w0_1 w0_2 w0_3 (w0_4 / (2:Int32)) w0_7 w0_8).length := by subst hw0_5 hw0_6 hw0_7 hw0_8; exact own_fin1708 w0_1 (own_m3 _ _ hw0_1) w0_2 (own_m3 _ _ hw0_2) w0_3 (own_m3 _ _ hw0_3) w0_4 (own_m6 _ _ hw0_4)
  have hf1711 : ((own_at (own_v100 w0_1 w0_2 w0_3 (w0_4 / (2:Int32))) (own_at [w0_1, w0_2, w0_3] w0_7)) = (0:Int32)) → ((own_at (own_v223 w0_1 w0_2 w0_3 (w0_4 / (2:Int32)) w0_7) (own_at [w0_1, w0_2, w0_3] w0_8)) = (0:Int32)) → own_In (own_at [w0_1, w0_2, w0_3] w0_8) (own_v592 w0_1 w0_2 w0_3 (w0_4 / (2:Int32)) w0_7 w0_8).length := by subst hw0_5 hw0_6 hw0_7 hw0_8; exact own_fin1710 w0_1 (own_m3 _ _ hw0_1) w0_2 (own_m3 _ _ hw0_2) w0_3 (own_m3 _ _ hw0_3) w0_4 (own_m6 _ _ hw0_4)
  have hf1713 : ((own_at (own_v100 w0_1 w0_2 w0_3 (w0_4 / (2:Int32))) (own_at [w0_1, w0_2, w0_3] w0_7)) = (0:Int32)) → ((own_at (own_v223 w0_1 w0_2 w0_3 (w0_4 / (2:Int32)) w0_7) (own_at [w0_1, w0_2, w0_3] w0_8)) = (0:Int32)) → own_In (own_at (own_v592 w0_1 w0_2 w0_3 (w0_4 / (2:Int32)) w0_7 w0_8) (own_at [w0_1, w0_2, w0_3] w0_8)) [(0:Int32), (0:Int32), (0:Int32)].length := by subst hw0_5 hw0_6 hw0_7 hw0_8; exact own_fin1712 w0_1 (own_m3 _ _ hw0_1) w0_2 (own_m3 _ _ hw0_2) w0_3 (own_m3 _ _ hw0_3) w0_4 (own_m6 _ _ hw0_4)
  have hf1715 : ((own_at (own_v100 w0_1 w0_2 w0_3 (w0_4 / (2:Int32))) (own_at [w0_1, w0_2, w0_3] w0_7)) = (0:Int32)) → ((own_at (own_v223 w0_1 w0_2 w0_3 (w0_4 / (2:Int32)) w0_7) (own_at [w0_1, w0_2, w0_3] w0_8)) = (0:Int32)) → own_In w0_7 [w0_1, w0_2, w0_3].length := by subst hw0_5 hw0_6 hw0_7 hw0_8; exact own_fin1714 w0_1 (own_m3 _ _ hw0_1) w0_2 (own_m3 _ _ hw0_2) w0_3 (own_m3 _ _ hw0_3) w0_4 (own_m6 _ _ hw0_4)
  have hf1717 : ((own_at (own_v100 w0_1 w0_2 w0_3 (w0_4 / (2:Int32))) (own_at [w0_1, w0_2, w0_3] w0_7)) = (0:Int32)) → ((own_at (own_v223 w0_1 w0_2 w0_3 (w0_4 / (2:Int32)) w0_7) (own_at [w0_1, w0_2, w0_3] w0_8)) = (0:Int32)) → own_In (own_at [w0_1, w0_2, w0_3] w0_7) (own_v592 w0_1 w0_2 w0_3 (w0_4 / (2:Int32)) w0_7 w0_8).length := by subst hw0_5 hw0_6 hw0_7 hw0_8; exact own_fin1716 w0_1 (own_m3 _ _ hw0_1) w0_2 (own_m3 _ _ hw0_2) w0_3 (own_m3 _ _ hw0_3) w0_4 (own_m6 _ _ hw0_4)
  have hf1719 : ((own_at (own_v100 w0_1 w0_2 w0_3 (w0_4 / (2:Int32))) (own_at [w0_1, w0_2, w0_3] w0_7)) = (0:Int32)) → ((own_at (own_v223 w0_1 w0_2 w0_3 (w0_4 / (2:Int32)) w0_7) (own_at [w0_1, w0_2, w0_3] w0_8)) = (0:Int32)) → own_In (own_at [w0_1, w0_2, w0_3] w0_7) (own_v622 w0_1 w0_2 w0_3 (w0_4 / (2:Int32)) w0_7 w0_8).length := by subst hw0_5 hw0_6 hw0_7 hw0_8; exact own_fin1718 w0_1 (own_m3 _ _ hw0_1) w0_2 (own_m3 _ _ hw0_2) w0_3 (own_m3 _ _ hw0_3) w0_4 (own_m6 _ _ hw0_4)
  have hf1721 : ((own_at (own_v100 w0_1 w0_2 w0_3 (w0_4 / (2:Int32))) (own_at [w0_1, w0_2, w0_3] w0_7)) = (0:Int32)) → ((own_at (own_v223 w0_1 w0_2 w0_3 (w0_4 / (2:Int32)) w0_7) (own_at [w0_1, w0_2, w0_3] w0_8)) = (0:Int32)) → own_In (own_at (own_v622 w0_1 w0_2 w0_3 (w0_4 / (2:Int32)) w0_7 w0_8) (own_at [w0_1, w0_2, w0_3] w0_7)) (own_v604 w0_1 w0_2 w0_3 (w0_4 / (2:Int32)) w0_7 w0_8).length := by subst hw0_5 hw0_6 hw0_7 hw0_8; exact own_fin1720 w0_1 (own_m3 _ _ hw0_1) w0_2 (own_m3 _ _ hw0_2) w0_3 (own_m3 _ _ hw0_3) w0_4 (own_m6 _ _ hw0_4)
  have hf1723 : ((own_at (own_v100 w0_1 w0_2 w0_3 (w0_4 / (2:Int32))) (own_at [w0_1, w0_2, w0_3] w0_7)) = (0:Int32)) → ((own_at (own_v223 w0_1 w0_2 w0_3 (w0_4 / (2:Int32)) w0_7) (own_at [w0_1, w0_2, w0_3] w0_8)) = (0:Int32)) → own_In (w0_4 / (2:Int32)) [w0_1, w0_2, w0_3].length := by subst hw0_5 hw0_6 hw0_7 hw0_8; exact own_fin1722 w0_1 (own_m3 _ _ hw0_1) w0_2 (own_m3 _ _ hw0_2) w0_3 (own_m3 _ _ hw0_3) w0_4 (own_m6 _ _ hw0_4)
  have hf1725 : ((own_at (own_v100 w0_1 w0_2 w0_3 (w0_4 / (2:Int32))) (own_at [w0_1, w0_2, w0_3] w0_7)) = (0:Int32)) → ((own_at (own_v223 w0_1 w0_2 w0_3 (w0_4 / (2:Int32)) w0_7) (own_at [w0_1, w0_2, w0_3] w0_8)) = (0:Int32)) → own_In (own_at [w0_1, w0_2, w0_3] (w0_4 / (2:Int32))) (own_v622 w0_1 w0_2 w0_3 (w0_4 / (2:Int32)) w0_7 w0_8).length := by subst hw0_5 hw0_6 hw0_7 hw0_8; exact own_fin1724 w0_1 (own_m3 _ _ hw0_1) w0_2 (own_m3 _ _ hw0_2) w0_3 (own_m3 _ _ hw0_3) w0_4 (own_m6 _ _ hw0_4)
  have hf1727 : ((own_at (own_v100 w0_1 w0_2 w0_3 (w0_4 / (2:Int32))) (own_at [w0_1, w0_2, w0_3] w0_7)) = (0:Int32)) → ((own_at (own_v223 w0_1 w0_2 w0_3 (w0_4 / (2:Int32)) w0_7) (own_at [w0_1, w0_2, w0_3] w0_8)) = (0:Int32)) → own_In (own_at [w0_1, w0_2, w0_3] (w0_4 / (2:Int32))) (own_v652 w0_1 w0_2 w0_3 (w0_4 / (2:Int32)) w0_7 w0_8).length := by subst hw0_5 hw0_6 hw0_7 hw0_8; exact own_fin1726 w0_1 (own_m3 _ _ hw0_1) w0_2 (own_m3 _ _ hw0_2) w0_3 (own_m3 _ _ hw0_3) w0_4 (own_m6 _ _ hw0_4)
  have hf1729 : ((own_at (own_v100 w0_1 w0_2 w0_3 (w0_4 / (2:Int32))) (own_at [w0_1, w0_2, w0_3] w0_7)) = (0:Int32)) → ((own_at (own_v223 w0_1 w0_2 w0_3 (w0_4 / (2:Int32)) w0_7) (own_at [w0_1, w0_2, w0_3] w0_8)) = (0:Int32)) → own_In (own_at (own_v652 w0_1 w0_2 w0_3 (w0_4 / (2:Int32)) w0_7 w0_8) (own_at [w0_1, w0_2, w0_3] (w0_4 / (2:Int32)))) (own_v634 w0_1 w0_2 w0_3 (w0_4 / (2:Int32)) w0_7 w0_8).length := by subst hw0_5 hw0_6 hw0_7 hw0_8; exact own_fin1728 w0_1 (own_m3 _ _ hw0_1) w0_2 (own_m3 _ _ hw0_2) w0_3 (own_m3 _ _ hw0_3) w0_4 (own_m6 _ _ hw0_4)
  have hf1731 : ((own_at (own_v100 w0_1 w0_2 w0_3 (w0_4 / (2:Int32))) (own_at [w0_1, w0_2, w0_3] w0_7)) = (0:Int32)) → (¬ ((own_at (own_v223 w0_1 w0_2 w0_3 (w0_4 / (2:Int32)) w0_7) (own_at [w0_1, w0_2, w0_3] w0_8)) = (0:Int32))) → own_In (own_at [w0_1, w0_2, w0_3] w0_8) (own_v223 w0_1 w0_2 w0_3 (w0_4 / (2:Int32)) w0_7).length := by subst hw0_5 hw0_6 hw0_7 hw0_8; exact own_fin1730 w0_1 (own_m3 _ _ hw0_1) w0_2 (own_m3 _ _ hw0_2) w0_3 (own_m3 _ _ hw0_3) w0_4 (own_m6 _ _ hw0_4)
  have hf1733 : ((own_at (own_v100 w0_1 w0_2 w0_3 (w0_4 / (2:Int32))) (own_at [w0_1, w0_2, w0_3] w0_7)) = (0:Int32)) → (¬ ((own_at (own_v223 w0_1 w0_2 w0_3 (w0_4 / (2:Int32)) w0_7) (own_at [w0_1, w0_2, w0_3] w0_8)) = (0:Int32))) → own_In (own_at [w0_1, w0_2, w0_3] (w0_4 / (2:Int32))) (own_v524 w0_1 w0_2 w0_3 (w0_4 / (2:Int32)) w0_7 w0_8).length := by subst hw0_5 hw0_6 hw0_7 hw0_8; exact own_fin1732 w0_1 (own_m3 _ _ hw0_1) w0_2 (own_m3 _ _ hw0_2) w0_3 (own_m3 _ _ hw0_3) w0_4 (own_m6 _ _ hw0_4)
  have hf1735 : ((own_at (own_v100 w0_1 w0_2 w0_3 (w0_4 / (2:Int32))) (own_at [w0_1, w0_2, w0_3] w0_7)) = (0:Int32)) → (¬ ((own_at (own_v223 w0_1 w0_2 w0_3 (w0_4 / (2:Int32)) w0_7) (own_at [w0_1, w0_2, w0_3] w0_8)) = (0:Int32))) → own_In (own_at [w0_1, w0_2, w0_3] w0_7) (own_v541 w0_1 w0_2 w0_3 (w0_4 / (2:Int32)) w0_7 w0_8).length := by subst hw0_5 hw0_6 hw0_7 hw0_8; exact own_fin1734 w0_1 (own_m3 _ _ hw0_1) w0_2 (own_m3 _ _ hw0_2) w0_3 (own_m3 _ _ hw0_3) w0_4 (own_m6 _ _ hw0_4)
  have hf1737 : ((own_at (own_v100 w0_1 w0_2 w0_3 (w0_4 / (2:Int32))) (own_at [w0_1, w0_2, w0_3] w0_7)) = (0:Int32)) → (¬ ((own_at (own_v223 w0_1 w0_2 w0_3 (w0_4 / (2:Int32)) w0_7) (own_at [w0_1, w0_2, w0_3] w0_8)) = (0:Int32))) → own_In w0_8 [w0_1, w0_2, w0_3].length := by subst hw0_5 hw0_6 hw0_7 hw0_8; exact own_fin1736 w0_1 (own_m3 _ _ hw0_1) w0_2 (own_m3 _ _ hw0_2) w0_3 (own_m3 _ _ hw0_3) w0_4 (own_m6 _ _ hw0_4)
  have hf1739 : ((own_at (own_v100 w0_1 w0_2 w0_3 (w0_4 / (2:Int32))) (own_at [w0_1, w0_2, w0_3] w0_7)) = (0:Int32)) → (¬ ((own_at (own_v223 w0_1 w0_2 w0_3 (w0_4 / (2:Int32)) w0_7) (own_at [w0_1, w0_2, w0_3] w0_8)) = (0:Int32))) → own_In (own_at [w0_1, w0_2, w0_3] w0_8) (own_v556 w0_1 w0_2 w0_3 (w0_4 / (2:Int32)) w0_7 w0_8).length := by subst hw0_5 hw0_6 hw0_7 hw0_8; exact own_fin1738 w0_1 (own_m3 _ _ hw0_1) w0_2 (own_m3 _ _ hw0_2) w0_3 (own_m3 _ _ hw0_3) w0_4 (own_m6 _ _ hw0_4)
  have hf1741 : ((own_at (own_v100 w0_1 w0_2 w0_3 (w0_4 / (2:Int32))) (own_at [w0_1, w0_2, w0_3] w0_7)) = (0:Int32)) → (¬ ((own_at (own_v223 w0_1 w0_2 w0_3 (w0_4 / (2:Int32)) w0_7) (own_at [w0_1, w0_2, w0_3] w0_8)) = (0:Int32))) → own_In (own_at [w0_1, w0_2, w0_3] w0_8) (own_v732 w0_1 w0_2 w0_3 (w0_4 / (2:Int32)) w0_7 w0_8).length := by subst hw0_5 hw0_6 hw0_7 hw0_8; exact own_fin1740 w0_1 (own_m3 _ _ hw0_1) w0_2 (own_m3 _ _ hw0_2) w0_3 (own_m3 _ _ hw0_3) w0_4 (own_m6 _ _ hw0_4)
  have hf1743 : ((own_at (own_v100 w0_1 w0_2 w0_3 (w0_4 / (2:Int32))) (own_at [w0_1, w0_2, w0_3] w0_7)) = (0:Int32)) → (¬ ((own_at (own_v223 w0_1 w0_2 w0_3 (w0_4 / (2:Int32)) w0_7) (own_at [w0_1, w0_2, w0_3] w0_8)) = (0:Int32))) → own_In (own_at (own_v732 w0_1 w0_2 w0_3 (w0_4 / (2:Int32)) w0_7 w0_8) (own_at [w0_1, w0_2, w0_3] w0_8)) [(0:Int32), (0:Int32), (0:Int32)].length := by subst hw0_5 hw0_6 hw0_7 hw0_8; exact own_fin1742 w0_1 (own_m3 _ _ hw0_1) w0_2 (own_m3 _ _ hw0_2) w0_3 (own_m3 _ _ hw0_3) w0_4 (own_m6 _ _ hw0_4)
  have hf1745 : ((own_at (own_v100 w0_1 w0_2 w0_3 (w0_4 / (2:Int32))) (own_at [w0_1, w0_2, w0_3] w0_7)) = (0:Int32)) → (¬ ((own_at (own_v223 w0_1 w0_2 w0_3 (w0_4 / (2:Int32)) w0_7) (own_at [w0_1, w0_2, w0_3] w0_8)) = (0:Int32))) → own_In w0_7 [w0_1, w0_2, w0_3].length := by subst hw0_5 hw0_6 hw0_7 hw0_8; exact own_fin1744 w0_1 (own_m3 _ _ hw0_1) w0_2 (own_m3 _ _ hw0_2) w0_3 (own_m3 _ _ hw0_3) w0_4 (own_m6 _ _ hw0_4)
  have hf1747 : ((own_at (own_v100 w0_1 w0_2 w0_3 (w0_4 / (2:Int32))) (own_at [w0_1, w0_2, w0_3] w0_7)) = (0:Int32)) → (¬ ((own_at (own_v223 w0_1 w0_2 w0_3 (w0_4 / (2:Int32)) w0_7) (own_at [w0_1, w0_2, w0_3] w0_8)) = (0:Int32))) → own_In (own_at [w0_1, w0_2, w0_3] w0_7) (own_v732 w0_1 w0_2 w0_3 (w0_4 / (2:Int32)) w0_7 w0_8).length := by subst hw0_5 hw0_6 hw0_7 hw0_8; exact own_fin1746 w0_1 (own_m3 _ _ hw0_1) w0_2 (own_m3 _ _ hw0_2) w0_3 (own_m3 _ _ hw0_3) w0_4 (own_m6 _ _ hw0_4)
  have hf1749 : ((own_at (own_v100 w0_1 w0_2 w0_3 (w0_4 / (2:Int32))) (own_at [w0_1, w0_2, w0_3] w0_7)) = (0:Int32)) → (¬ ((own_at (own_v223 w0_1 w0_2 w0_3 (w0_4 / (2:Int32)) w0_7) (own_at [w0_1, w0_2, w0_3] w0_8)) = (0:Int32))) → own_In (own_at [w0_1, w0_2, w0_3] w0_7) (own_v762 w0_1 w0_2 w0_3 (w0_4 / (2:Int32)) w0_7 w0_8).length := by subst hw0_5 hw0_6 hw0_7 hw0_8; exact own_fin1748 w0_1 (own_m3 _ _ hw0_1) w0_2 (own_m3 _ _ hw0_2) w0_3 (own_m3 _ _ hw0_3) w0_4 (own_m6 _ _ hw0_4)
  have hf1751 : ((own_at (own_v100 w0_1 w0_2 w0_3 (w0_4 / (2:Int32))) (own_at [w0_1, w0_2, w0_3] w0_7)) = (0:Int32)) → (¬ ((own_at (own_v223 w0_1 w0_2 w0_3 (w0_4 / (2:Int32)) w0_7) (own_at [w0_1, w0_2, w0_3] w0_8)) = (0:Int32))) → own_In (own_at (own_v762 w0_1 w0_2 w0_3 (w0_4 / (2:Int32)) w0_7 w0_8) (own_at [w0_1, w0_2, w0_3] w0_7)) (own_v744 w0_1 w0_2 w0_3 (w0_4 / (2:Int32)) w0_7 w0_8).length := by subst hw0_5 hw0_6 hw0_7 hw0_8; exact own_fin1750 w0_1 (own_m3 _ _ hw0_1) w0_2 (own_m3 _ _ hw0_2) w0_3 (own_m3 _ _ hw0_3) w0_4 (own_m6 _ _ hw0_4)
  have hf1753 : ((own_at (own_v100 w0_1 w0_2 w0_3 (w0_4 / (2:Int32))) (own_at [w0_1, w0_2, w0_3] w0_7)) = (0:Int32)) → (¬ ((own_at (own_v223 w0_1 w0_2 w0_3 (w0_4 / (2:Int32)) w0_7) (own_at [w0_1, w0_2, w0_3] w0_8)) = (0:Int32))) → own_In (w0_4 / (2:Int32)) [w0_1, w0_2, w0_3].length := by subst hw0_5 hw0_6 hw0_7 hw0_8; exact own_fin1752 w0_1 (own_m3 _ _ hw0_1) w0_2 (own_m3 _ _ hw0_2) w0_3 (own_m3 _ _ hw0_3) w0_4 (own_m6 _ _ hw0_4)
  have hf1755 : ((own_at (own_v100 w0_1 w0_2 w0_3 (w0_4 / (2:Int32))) (own_at [w0_1, w0_2, w0_3] w0_7)) = (0:Int32)) → (¬ ((own_at (own_v223 w0_1 w0_2 w0_3 (w0_4 / (2:Int32)) w0_7) (own_at [w0_1, w0_2, w0_3] w0_8)) = (0:Int32))) → own_In (own_at [w0_1, w0_2, w0_3] (w0_4 / (2:Int32))) (own_v762 w0_1 w0_2 w0_3 (w0_4 / (2:Int32)) w0_7 w0_8).length := by subst hw0_5 hw0_6 hw0_7 hw0_8; exact own_fin1754 w0_1 (own_m3 _ _ hw0_1) w0_2 (own_m3 _ _ hw0_2) w0_3 (own_m3 _ _ hw0_3) w0_4 (own_m6 _ _ hw0_4)
  have hf1757 : ((own_at (own_v100 w0_1 w0_2 w0_3 (w0_4 / (2:Int32))) (own_at [w0_1, w0_2, w0_3] w0_7)) = (0:Int32)) → (¬ ((own_at (own_v223 w0_1 w0_2 w0_3 (w0_4 / (2:Int32)) w0_7) (own_at [w0_1, w0_2, w0_3] w0_8)) = (0:Int32))) → own_In (own_at [w0_1, w0_2, w0_3] (w0_4 / (2:Int32))) (own_v792 w0_1 w0_2 w0_3 (w0_4 / (2:Int32)) w0_7 w0_8).length := by subst hw0_5 hw0_6 hw0_7 hw0_8; exact own_fin1756 w0_1 (own_m3 _ _ hw0_1) w0_2 (own_m3 _ _ hw0_2) w0_3 (own_m3 _ _ hw0_3) w0_4 (own_m6 _ _ hw0_4)
  have hf1759 : ((own_at (own_v100 w0_1 w0_2 w0_3 (w0_4 / (2:Int32))) (own_at [w0_1, w0_2, w0_3] w0_7)) = (0:Int32)) → (¬ ((own_at (own_v223 w0_1 w0_2 w0_3 (w0_4 / (2:Int32)) w0_7) (own_at [w0_1, w0_2, w0_3] w0_8)) = (0:Int32))) → own_In (own_at (own_v792 w0_1 w0_2 w0_3 (w0_4 / (2:Int32)) w0_7 w0_8) (own_at [w0_1, w0_2, w0_3] (w0_4 / (2:Int32)))) (own_v774 w0_1 w0_2 w0_3 (w0_4 / (2:Int32)) w0_7 w0_8).length := by subst hw0_5 hw0_6 hw0_7 hw0_8; exact own_fin1758 w0_1 (own_m3 _ _ hw0_1) w0_2 (own_m3 _ _ hw0_2) w0_3 (own_m3 _ _ hw0_3) w0_4 (own_m6 _ _ hw0_4)
  have hf1761 : (¬ ((own_at (own_v100 w0_1 w0_2 w0_3 (w0_4 / (2:Int32))) (own_at [w0_1, w0_2, w0_3] w0_7)) = (0:Int32))) → own_In (own_at [w0_1, w0_2, w0_3] w0_7) (own_v100 w0_1 w0_2 w0_3 (w0_4 / (2:Int32))).length := by subst hw0_5 hw0_6 hw0_7 hw0_8; exact own_fin1760 w0_1 (own_m3 _ _ hw0_1) w0_2 (own_m3 _ _ hw0_2) w0_3 (own_m3 _ _ hw0_3) w0_4 (own_m6 _ _ hw0_4)
  have hf1763 : (¬ ((own_at (own_v100 w0_1 w0_2 w0_3 (w0_4 / (2:Int32))) (own_at [w0_1, w0_2, w0_3] w0_7)) = (0:Int32))) → own_In w0_8 [w0_1, w0_2, w0_3].length := by subst hw0_5 hw0_6 hw0_7 hw0_8; exact own_fin1762 w0_1 (own_m3 _ _ hw0_1) w0_2 (own_m3 _ _ hw0_2) w0_3 (own_m3 _ _ hw0_3) w0_4 (own_m6 _ _ hw0_4)
  have hf1765 : (¬ ((own_at (own_v100 w0_1 w0_2 w0_3 (w0_4 / (2:Int32))) (own_at [w0_1, w0_2, w0_3] w0_7)) = (0:Int32))) → own_In (own_at [w0_1, w0_2, w0_3] w0_8) (own_v223 w0_1 w0_2 w0_3 (w0_4 / (2:Int32)) w0_7).length := by subst hw0_5 hw0_6 hw0_7 hw0_8; exact own_fin1764 w0_1 (own_m3 _ _ hw0_1) w0_2 (own_m3 _ _ hw0_2) w0_3 (own_m3 _ _ hw0_3) w0_4 (own_m6 _ _ hw0_4)
  have hf1767 : (¬ ((own_at (own_v100 w0_1 w0_2 w0_3 (w0_4 / (2:Int32))) (own_at [w0_1, w0_2, w0_3] w0_7)) = (0:Int32))) → ((own_at (own_v223 w0_1 w0_2 w0_3 (w0_4 / (2:Int32)) w0_7) (own_at [w0_1, w0_2, w0_3] w0_8)) = (0:Int32)) → own_In (own_at [w0_1, w0_2, w0_3] w0_8) (own_v223 w0_1 w0_2 w0_3 (w0_4 / (2:Int32)) w0_7).length := by subst hw0_5 hw0_6 hw0_7 hw0_8; exact own_fin1766 w0_1 (own_m3 _ _ hw0_1) w0_2 (own_m3 _ _ hw0_2) w0_3 (own_m3 _ _ hw0_3) w0_4 (own_m6 _ _ hw0_4)
  have hf1769 : (¬ ((own_at (own_v100 w0_1 w0_2 w0_3 (w0_4 / (2:Int32))) (own_at [w0_1, w0_2, w0_3] w0_7)) = (0:Int32))) → ((own_at (own_v223 w0_1 w0_2 w0_3 (w0_4 / (2:Int32)) w0_7) (own_at [w0_1, w0_2, w0_3] w0_8)) = (0:Int32)) → own_In (own_at [w0_1, w0_2, w0_3] (w0_4 / (2:Int32))) (own_v524 w0_1 w0_2 w0_3 (w0_4 / (2:Int32)) w0_7 w0_8).length := by subst hw0_5 hw0_6 hw0_7 hw0_8; exact own_fin1768 w0_1 (own_m3 _ _ hw0_1) w0_2 (own_m3 _ _ hw0_2) w0_3 (own_m3 _ _ hw0_3) w0_4 (own_m6 _ _ hw0_4)
  have hf1771 : (¬ ((own_at (own_v100 w0_1 w0_2 w0_3 (w0_4 / (2:Int32))) (own_at [w0_1, w0_2, w0_3] w0_7)) = (0:Int32))) → ((own_at (own_v223 w0_1 w0_2 w0_3 (w0_4 / (2:Int32)) w0_7) (own_at [w0_1, w0_2, w0_3] w0_8)) = (0:Int32)) → own_In (own_at [w0_1, w0_2, w0_3] w0_8) (own_v541 w0_1 w0_2 w0_3 (w0_4 / (2:Int32)) w0_7 w0_8).length := by subst hw0_5 hw0_6 hw0_7 hw0_8; exact own_fin1770 w0_1 (own_m3 _ _ hw0_1) w0_2 (own_m3 _ _ hw0_2) w0_3 (own_m3 _ _ hw0_3) w0_4 (own_m6 _ _ hw0_4)
  have hf1773 : (¬ ((own_at (own_v100 w0_1 w0_2 w0_3 (w0_4 / (2:Int32))) (own_at [w0_1, w0_2, w0_3] w0_7)) = (0:Int32))) → ((own_at (own_v223 w0_1 w0_2 w0_3 (w0_4 / (2:Int32)) w0_7) (own_at [w0_1, w0_2, w0_3] w0_8)) = (0:Int32)) → own_In w0_8 [w0_1, w0_2, w0_3].length := by subst hw0_5 hw0_6 hw0_7 hw0_8; exact own_fin1772 w0_1 (own_m3 _ _ hw0_1) w0_2 (own_m3 _ _ hw0_2) w0_3 (own_m3 _ _ hw0_3) w0_4 (own_m6 _ _ hw0_4)
  have hf1775 : (¬ ((own_at (own_v100 w0_1 w0_2 w0_3 (w0_4 / (2:Int32))) (own_at [w0_1, w0_2, w0_3] w0_7)) = (0:Int32))) → ((own_at (own_v223 w0_1 w0_2 w0_3 (w0_4 / (2:Int32)) w0_7) (own_at [w0_1, w0_2, w0_3] w0_8)) = (0:Int32)) → own_In (own_at [w0_1, w0_2, w0_3] w0_8) (own_v888 w0_1 w0_2 w0_3 (w0_4 / (2:Int32)) w0_7 w0_8).length := by subst hw0_5 hw0_6 hw0_7 hw0_8; exact own_fin1774 w0_1 (own_m3 _ _ hw0_1) w0_2 (own_m3 _ _ hw0_2) w0_3 (own_m3 _ _ hw0_3) w0_4 (own_m6 _ _ hw0_4)
  have hf1777 : (¬ ((own_at (own_v100 w0_1 w0_2 w0_3 (w0_4 / (2:Int32))) (own_at [w0_1, w0_2, w0_3] w0_7)) = (0:Int32))) → ((own_at (own_v223 w0_1 w0_2 w0_3 (w0_4 / (2:Int32)) w0_7) (own_at [w0_1, w0_2, w0_3] w0_8)) = (0:Int32)) → own_In (own_at [w0_1, w0_2, w0_3] w0_8) (own_v909 w0_1 w0_2 w0_3 (w0_4 / (2:Int32)) w0_7 w0_8).length := by subst hw0_5 hw0_6 hw0_7 hw0_8; exact own_fin1776 w0_1 (own_m3 _ _ hw0_1) w0_2 (own_m3 _ _ hw0_2) w0_3 (own_m3 _ _ hw0_3) w0_4 (own_m6 _ _ hw0_4)
  have hf1779 : (¬ ((own_at (own_v100 w0_1 w0_2 w0_3 (w0_4 / (2:Int32))) (own_at [w0_1, w0_2, w0_3] w0_7)) = (0:Int32))) → ((own_at (own_v223 w0_1 w0_2 w0_3 (w0_4 / (2:Int32)) w0_7) (own_at [w0_1, w0_2, w0_3] w0_8)) = (0:Int32)) → own_In (own_at (own_v909 w0_1 w0_2 w0_3 (w0_4 / (2:Int32)) w0_7 w0_8) (own_at [w0_1, w0_2, w0_3] w0_8)) [(0:Int32), (0:Int32), (0:Int32)].length := by subst hw0_5 hw0_6 hw0_7 hw0_8; exact own_fin1778 w0_1 (own_m3 _ _ hw0_1) w0_2 (own_m3 _ _ hw0_2) w0_3 (own_m3 _ _ hw0_3) w0_4 (own_m6 _ _ hw0_4)
  have hf1781 : (¬ ((own_at (own_v100 w0_1 w0_2 w0_3 (w0_4 / (2:Int32))) (own_at [w0_1, w0_2, w0_3] w0_7)) = (0:Int32))) → ((own_at (own_v223 w0_1 w0_2 w0_3 (w0_4 / (2:Int32)) w0_7) (own_at [w0_1, w0_2, w0_3] w0_8)) = (0:Int32)) → own_In w0_7 [w0_1, w0_2, w0_3].length := by subst hw0_5 hw0_6 hw0_7 hw0_8; exact own_fin1780 w0_1 (own_m3 _ _ hw0_1) w0_2 (own_m3 _ _ hw0_2) w0_3 (own_m3 _ _ hw0_3) w0_4 (own_m6 _ _ hw0_4)
  have hf1783 : (¬ ((own_at (own_v100 w0_1 w0_2 w0_3 (w0_4 / (2:Int32))) (own_at [w0_1, w0_2, w0_3] w0_7)) = (0:Int32))) → ((own_at (own_v223 w0_1 w0_2 w0_3 (w0_4 / (2:Int32)) w0_7) (own_at [w0_1, w0_2, w0_3] w0_8)) = (0:Int32)) → own_In (own_at [w0_1, w0_2, w0_3] w0_7) (own_v909 w0_1 w0_2 w0_3 (w0_4 / (2:Int32)) w0_7 w0_8).length := by subst hw0_5 hw0_6 hw0_7 hw0_8; exact own_fin1782 w0_1 (own_m3 _ _ hw0_1) w0_2 (own_m3 _ _ hw0_2) w0_3 (own_m3 _ _ hw0_3) w0_4 (own_m6 _ _ hw0_4)
  have hf1785 : (¬ ((own_at (own_v100 w0_1 w0_2 w0_3 (w0_4 / (2:Int32))) (own_at [w0_1, w0_2, w0_3] w0_7)) = (0:Int32))) → ((own_at (own_v223 w0_1 w0_2 w0_3 (w0_4 / (2:Int32)) w0_7) (own_at [w0_1, w0_2, w0_3] w0_8)) = (0:Int32)) → own_In (own_at [w0_1, w0_2, w0_3] w0_7) (own_v939 w0_1 w0_2 w0_3 (w0_4 / (2:Int32)) w0_7 w0_8).length := by subst hw0_5 hw0_6 hw0_7 hw0_8; exact own_fin1784 w0_1 (own_m3 _ _ hw0_1) w0_2 (own_m3 _ _ hw0_2) w0_3 (own_m3 _ _ hw0_3) w0_4 (own_m6 _ _ hw0_4)
  have hf1787 : (¬ ((own_at (own_v100 w0_1 w0_2 w0_3 (w0_4 / (2:Int32))) (own_at [w0_1, w0_2, w0_3] w0_7)) = (0:Int32))) → ((own_at (own_v223 w0_1 w0_2 w0_3 (w0_4 / (2:Int32)) w0_7) (own_at [w0_1, w0_2, w0_3] w0_8)) = (0:Int32)) → own_In (own_at (own_v939 w0_1 w0_2 w0_3 (w0_4 / (2:Int32)) w0_7 w0_8) (own_at [w0_1, w0_2, w0_3] w0_7)) (own_v921 w0_1 w0_2 w0_3 (w0_4 / (2:Int32)) w0_7 w0_8).length := by subst hw0_5 hw0_6 hw0_7 hw0_8; exact own_fin1786 w0_1 (own_m3 _ _ hw0_1) w0_2 (own_m3 _ _ hw0_2) w0_3 (own_m3 _ _ hw0_3) w0_4 (own_m6 _ _ hw0_4)
  have hf1789 : (¬ ((own_at (own_v100 w0_1 w0_2 w0_3 (w0_4 / (2:Int32))) (own_at [w0_1, w0_2, w0_3] w0_7)) = (0:Int32))) → ((own_at (own_v223 w0_1 w0_2 w0_3 (w0_4 / (2:Int32)) w0_7) (own_at [w0_1, w0_2, w0_3] w0_8)) = (0:Int32)) → own_In (w0_4 / (2:Int32)) [w0_1, w0_2, w0_3].length := by subst hw0_5 hw0_6 hw0_7 hw0_8; exact own_fin1788 w0_1 (own_m3 _ _ hw0_1) w0_2 (own_m3 _ _ hw0_2) w0_3 (own_m3 _ _ hw0_3) w0_4 (own_m6 _ _ hw0_4)
  have hf1791 : (¬ ((own_at (own_v100 w0_1 w0_2 w0_3 (w0_4 / (2:Int32))) (own_at [w0_1, w0_2, w0_3] w0_7)) = (0:Int32))) → ((own_at (own_v223 w0_1 w0_2 w0_3 (w0_4 / (2:Int32)) w0_7) (own_at [w0_1, w0_2, w0_3] w0_8)) = (0:Int32)) → own_In (own_at [w0_1, w0_2, w0_3] (w0_4 / (2:Int32))) (own_v939 w0_1 w0_2 w0_3 (w0_4 / (2:Int32)) w0_7 w0_8).length := by subst hw0_5 hw0_6 hw0_7 hw0_8; exact own_fin1790 w0_1 (own_m3 _ _ hw0_1) w0_2 (own_m3 _ _ hw0_2) w0_3 (own_m3 _ _ hw0_3) w0_4 (own_m6 _ _ hw0_4)
  have hf1793 : (¬ ((own_at (own_v100 w0_1 w0_2 w0_3 (w0_4 / (2:Int32))) (own_at [w0_1, w0_2, w0_3] w0_7)) = (0:Int32))) → ((own_at (own_v223 w0_1 w0_2 w0_3 (w0_4 / (2:Int32)) w0_7) (own_at [w0_1, w0_2, w0_3] w0_8)) = (0:Int32)) → own_In (own_at [w0_1, w0_2, w0_3] (w0_4 / (2:Int32))) (own_v969 w0_1 w0_2 w0_3 (w0_4 / (2:Int32)) w0_7 w0_8).length := by subst hw0_5 hw0_6 hw0_7 hw0_8; exact own_fin1792 w0_1 (own_m3 _ _ hw0_1) w0_2 (own_m3 _ _ hw0_2) w0_3 (own_m3 _ _ hw0_3) w0_4 (own_m6 _ _ hw0_4)
  have hf1795 : (¬ ((own_at (own_v100 w0_1 w0_2 w0_3 (w0_4 / (2:Int32))) (own_at [w0_1, w0_2, w0_3] w0_7)) = (0:Int32))) → ((own_at (own_v223 w0_1 w0_2 w0_3 (w0_4 / (2:Int32)) w0_7) (own_at [w0_1, w0_2, w0_3] w0_8)) = (0:Int32)) → own_In (own_at (own_v969 w0_1 w0_2 w0_3 (w0_4 / (2:Int32)) w0_7 w0_8) (own_at [w0_1, w0_2, w0_3] (w0_4 / (2:Int32)))) (own_v951 w0_1 w0_2 w0_3 (w0_4 / (2:Int32)) w0_7 w0_8).length := by subst hw0_5 hw0_6 hw0_7 hw0_8; exact own_fin1794 w0_1 (own_m3 _ _ hw0_1) w0_2 (own_m3 _ _ hw0_2) w0_3 (own_m3 _ _ hw0_3) w0_4 (own_m6 _ _ hw0_4)
  have hf1797 : (¬ ((own_at (own_v100 w0_1 w0_2 w0_3 (w0_4 / (2:Int32))) (own_at [w0_1, w0_2, w0_3] w0_7)) = (0:Int32))) → (¬ ((own_at (own_v223 w0_1 w0_2 w0_3 (w0_4 / (2:Int32)) w0_7) (own_at [w0_1, w0_2, w0_3] w0_8)) = (0:Int32))) → own_In (own_at [w0_1, w0_2, w0_3] w0_8) (own_v223 w0_1 w0_2 w0_3 (w0_4 / (2:Int32)) w0_7).length := by subst hw0_5 hw0_6 hw0_7 hw0_8; exact own_fin1796 w0_1 (own_m3 _ _ hw0_1) w0_2 (own_m3 _ _ hw0_2) w0_3 (own_m3 _ _ hw0_3) w0_4 (own_m6 _ _ hw0_4)
  have hf1799 : (¬ ((own_at (own_v100 w0_1 w0_2 w0_3 (w0_4 / (2:Int32))) (own_at [w0_1, w0_2, w0_3] w0_7)) = (0:Int32))) → (¬ ((own_at (own_v223 w0_1 w0_2 w0_3 (w0_4 / (2:Int32)) w0_7) (own_at [w0_1, w0_2, w0_3] w0_8)) = (0:Int32))) → own_In (own_at [w0_1, w0_2, w0_3] (w0_4 / (2:Int32))) (own_v524 w0_1 w0_2 w0_3 (w0_4 / (2:Int32)) w0_7 w0_8).length := by subst hw0_5 hw0_6 hw0_7 hw0_8; exact own_fin1798 w0_1 (own_m3 _ _ hw0_1) w0_2 (own_m3 _ _ hw0_2) w0_3 (own_m3 _ _ hw0_3) w0_4 (own_m6 _ _ hw0_4)
  have hf1801 : (¬ ((own_at (own_v100 w0_1 w0_2 w0_3 (w0_4 / (2:Int32))) (own_at [w0_1, w0_2, w0_3] w0_7)) = (0:Int32))) → (¬ ((own_at (own_v223 w0_1 w0_2 w0_3 (w0_4 / (2:Int32)) w0_7) (own_at [w0_1, w0_2, w0_3] w0_8)) = (0:Int32))) → own_In w0_8 [w0_1, w0_2, w0_3].length := by subst hw0_5 hw0_6 hw0_7 hw0_8; exact own_fin1800 w0_1 (own_m3 _ _ hw0_1) w0_2 (own_m3 _ _ hw0_2) w0_3 (own_m3 _ _ hw0_3) w0_4 (own_m6 _ _ hw0_4)
  have hf1803 : (¬ ((own_at (own_v100 w0_1 w0_2 w0_3 (w0_4 / (2:Int32))) (own_at [w0_1, w0_2, w0_3] w0_7)) = (0:Int32))) → (¬ ((own_at (own_v223 w0_1 w0_2 w0_3 (w0_4 / (2:Int32)) w0_7) (own_at [w0_1, w0_2, w0_3] w0_8)) = (0:Int32))) → own_In (own_at [w0_1, w0_2, w0_3] w0_8) (own_v541 w0_1 w0_2 w0_3 (w0_4 / (2:Int32)) w0_7 w0_8).length := by subst hw0_5 hw0_6 hw0_7 hw0_8; exact own_fin1802 w0_1 (own_m3 _ _ hw0_1) w0_2 (own_m3 _ _ hw0_2) w0_3 (own_m3 _ _ hw0_3) w0_4 (own_m6 _ _ hw0_4)
  have hf1805 : (¬ ((own_at (own_v100 w0_1 w0_2 w0_3 (w0_4 / (2:Int32))) (own_at [w0_1, w0_2, w0_3] w0_7)) = (0:Int32))) → (¬ ((own_at (own_v223 w0_1 w0_2 w0_3 (w0_4 / (2:Int32)) w0_7) (own_at [w0_1, w0_2, w0_3] w0_8)) = (0:Int32))) → own_In (own_at [w0_1, w0_2, w0_3] w0_8) (own_v1035 w0_1 w0_2 w0_3 (w0_4 / (2:Int32)) w0_7 w0_8).length := by subst hw0_5 hw0_6 hw0_7 hw0_8; exact own_fin1804 w0_1 (own_m3 _ _ hw0_1) w0_2 (own_m3 _ _ hw0_2) w0_3 (own_m3 _ _ hw0_3) w0_4 (own_m6 _ _ hw0_4)
  have hf1807 : (¬ ((own_at (own_v100 w0_1 w0_2 w0_3 (w0_4 / (2:Int32))) (own_at [w0_1, w0_2, w0_3] w0_7)) = (0:Int32))) → (¬ ((own_at (own_v223 w0_1 w0_2 w0_3 (w0_4 / (2:Int32)) w0_7) (own_at [w0_1, w0_2, w0_3] w0_8)) = (0:Int32))) → own_In (own_at (own_v1035 w0_1 w0_2 w0_3 (w0_4 / (2:Int32)) w0_7 w0_8) (own_at [w0_1, w0_2, w0_3] w0_8)) [(0:Int32), (0:Int32), (0:Int32)].length := by subst hw0_5 hw0_6 hw0_7 hw0_8; exact own_fin1806 w0_1 (own_m3 _ _ hw0_1) w0_2 (own_m3 _ _ hw0_2) w0_3 (own_m3 _ _ hw0_3) w0_4 (own_m6 _ _ hw0_4)
  have hf1809 : (¬ ((own_at (own_v100 w0_1 w0_2 w0_3 (w0_4 / (2:Int32))) (own_at [w0_1, w0_2, w0_3] w0_7)) = (0:Int32))) → (¬ ((own_at (own_v223 w0_1 w0_2 w0_3 (w0_4 / (2:Int32)) w0_7) (own_at [w0_1, w0_2, w0_3] w0_8)) = (0:Int32))) → own_In w0_7 [w0_1, w0_2, w0_3].length := by subst hw0_5 hw0_6 hw0_7 hw0_8; exact own_fin1808 w0_1 (own_m3 _ _ hw0_1) w0_2 (own_m3 _ _ hw0_2) w0_3 (own_m3 _ _ hw0_3) w0_4 (own_m6 _ _ hw0_4)
  have hf1811 : (¬ ((own_at (own_v100 w0_1 w0_2 w0_3 (w0_4 / (2:Int32))) (own_at [w0_1, w0_2, w0_3] w0_7)) = (0:Int32))) → (¬ ((own_at (own_v223 w0_1 w0_2 w0_3 (w0_4 / (2:Int32)) w0_7) (own_at [w0_1, w0_2, w0_3] w0_8)) = (0:Int32))) → own_In (own_at [w0_1, w0_2, w0_3] w0_7) (own_v1035 w0_1 w0_2 w0_3 (w0_4 / (2:Int32)) w0_7 w0_8).length := by subst hw0_5 hw0_6 hw0_7 hw0_8; exact own_fin1810 w0_1 (own_m3 _ _ hw0_1) w0_2 (own_m3 _ _ hw0_2) w0_3 (own_m3 _ _ hw0_3) w0_4 (own_m6 _ _ hw0_4)
  have hf1813 : (¬ ((own_at (own_v100 w0_1 w0_2 w0_3 (w0_4 / (2:Int32))) (own_at [w0_1, w0_2, w0_3] w0_7)) = (0:Int32))) → (¬ ((own_at (own_v223 w0_1 w0_2 w0_3 (w0_4 / (2:Int32)) w0_7) (own_at [w0_1, w0_2, w0_3] w0_8)) = (0:Int32))) → own_In (own_at [w0_1, w0_2, w0_3] w0_7) (own_v1065 w0_1 w0_2 w0_3 (w0_4 / (2:Int32)) w0_7 w0_8).length := by subst hw0_5 hw0_6 hw0_7 hw0_8; exact own_fin1812 w0_1 (own_m3 _ _ hw0_1) w0_2 (own_m3 _ _ hw0_2) w0_3 (own_m3 _ _ hw0_3) w0_4 (own_m6 _ _ hw0_4)
  have hf1815 : (¬ ((own_at (own_v100 w0_1 w0_2 w0_3 (w0_4 / (2:Int32))) (own_at [w0_1, w0_2, w0_3] w0_7)) = (0:Int32))) → (¬ ((own_at (own_v223 w0_1 w0_2 w0_3 (w0_4 / (2:Int32)) w0_7) (own_at [w0_1, w0_2, w0_3] w0_8)) = (0:Int32))) → own_In (own_at (own_v1065 w0_1 w0_2 w0_3 (w0_4 / (2:Int32)) w0_7 w0_8) (own_at [w0_1, w0_2, w0_3] w0_7)) (own_v1047 w0_1 w0_2 w0_3 (w0_4 / (2:Int32)) w0_7 w0_8).length := by subst hw0_5 hw0_6 hw0_7 hw0_8; exact own_fin1814 w0_1 (own_m3 _ _ hw0_1) w0_2 (own_m3 _ _ hw0_2) w0_3 (own_m3 _ _ hw0_3) w0_4 (own_m6 _ _ hw0_4)
  have hf1817 : (¬ ((own_at (own_v100 w0_1 w0_2 w0_3 (w0_4 / (2:Int32))) (own_at [w0_1, w0_2, w0_3] w0_7)) = (0:Int32))) → (¬ ((own_at (own_v223 w0_1 w0_2 w0_3 (w0_4 / (2:Int32)) w0_7) (own_at [w0_1, w0_2, w0_3] w0_8)) = (0:Int32))) → own_In (w0_4 / (2:Int32)) [w0_1, w0_2, w0_3].length := by subst hw0_5 hw0_6 hw0_7 hw0_8; exact own_fin1816 w0_1 (own_m3 _ _ hw0_1) w0_2 (own_m3 _ _ hw0_2) w0_3 (own_m3 _ _ hw0_3) w0_4 (own_m6 _ _ hw0_4)
  have hf1819 : (¬ ((own_at (own_v100 w0_1 w0_2 w0_3 (w0_4 / (2:Int32))) (own_at [w0_1, w0_2, w0_3] w0_7)) = (0:Int32))) → (¬ ((own_at (own_v223 w0_1 w0_2 w0_3 (w0_4 / (2:Int32)) w0_7) (own_at [w0_1, w0_2, w0_3] w0_8)) = (0:Int32))) → own_In (own_at [w0_1, w0_2, w0_3] (w0_4 / (2:Int32))) (own_v1065 w0_1 w0_2 w0_3 (w0_4 / (2:Int32)) w0_7 w0_8).length := by subst hw0_5 hw0_6 hw0_7 hw0_8; exact own_fin1818 w0_1 (own_m3 _ _ hw0_1) w0_2 (own_m3 _ _ hw0_2) w0_3 (own_m3 _ _ hw0_3) w0_4 (own_m6 _ _ hw0_4)
  have hf1821 : (¬ ((own_at (own_v100 w0_1 w0_2 w0_3 (w0_4 / (2:Int32))) (own_at [w0_1, w0_2, w0_3] w0_7)) = (0:Int32))) → (¬ ((own_at (own_v223 w0_1 w0_2 w0_3 (w0_4 / (2:Int32)) w0_7) (own_at [w0_1, w0_2, w0_3] w0_8)) = (0:Int32))) → own_In (own_at [w0_1, w0_2, w0_3] (w0_4 / (2:Int32))) (own_v1095 w0_1 w0_2 w0_3 (w0_4 / (2:Int32)) w0_7 w0_8).length := by subst hw0_5 hw0_6 hw0_7 hw0_8; exact own_fin1820 w0_1 (own_m3 _ _ hw0_1) w0_2 (own_m3 _ _ hw0_2) w0_3 (own_m3 _ _ hw0_3) w0_4 (own_m6 _ _ hw0_4)
  have hf1823 : (¬ ((own_at (own_v100 w0_1 w0_2 w0_3 (w0_4 / (2:Int32))) (own_at [w0_1, w0_2, w0_3] w0_7)) = (0:Int32))) → (¬ ((own_at (own_v223 w0_1 w0_2 w0_3 (w0_4 / (2:Int32)) w0_7) (own_at [w0_1, w0_2, w0_3] w0_8)) = (0:Int32))) → own_In (own_at (own_v1095 w0_1 w0_2 w0_3 (w0_4 / (2:Int32)) w0_7 w0_8) (own_at [w0_1, w0_2, w0_3] (w0_4 / (2:Int32)))) (own_v1077 w0_1 w0_2 w0_3 (w0_4 / (2:Int32)) w0_7 w0_8).length := by subst hw0_5 hw0_6 hw0_7 hw0_8; exact own_fin1822 w0_1 (own_m3 _ _ hw0_1) w0_2 (own_m3 _ _ hw0_2) w0_3 (own_m3 _ _ hw0_3) w0_4 (own_m6 _ _ hw0_4)
  refine own_virtG X1665 hx hZ (y := own_y4) hown (own_h hw 28 rfl) (own_h hw 29 rfl) (own_h hw 31 rfl) (own_h hw 30 rfl) (own_h hw 32 rfl) (own_h hw 4 rfl) (by decide) (W := 0) (rm4m3 l Z aZ hw [] b1597 b1586 mv_1601 gr_1602 gl_1603 gs_1604 w0_1 w0_2 w0_3 (w0_4 / (2:Int32)) w0_7 w0_8 T1665.heap n0 Z1675 F1679 G1667 G1668 G1669 G1670 G1671 G1676 G1673 F1680 G1677 F1681 F1682 F1683 (Ne.symm ne_b1586_b1597) ne1628 ne1631 ne1634 ne1637 ne1627 ne1630 ne1633 ne1636 ne1609 ne1610 ne1611 ne1612 ne1613 ne1614 ge_b1597 ge1632 ge1635 ge1638 hf1685 hf1687 hf1689 hf1691 hf1693 hf1695 hf1697 hf1699 hf1701 hf1703 hf1705 hf1707 hf1709 hf1711 hf1713 hf1715 hf1717 hf1719 hf1721 hf1723 hf1725 hf1727 hf1729 hf1731 hf1733 hf1735 hf1737 hf1739 hf1741 hf1743 hf1745 hf1747 hf1749 hf1751 hf1753 hf1755 hf1757 hf1759 hf1761 hf1763 hf1765 hf1767 hf1769 hf1771 hf1773 hf1775 hf1777 hf1779 hf1781 hf1783 hf1785 hf1787 hf1789 hf1791 hf1793 hf1795 hf1797 hf1799 hf1801 hf1803 hf1805 hf1807 hf1809 hf1811 hf1813 hf1815 hf1817 hf1819 hf1821 hf1823) (by decide) (by decide) rfl F1679 rfl (by rw [hml]; rfl) (argsL := []) (rest := []) (lenOf own_pd1 rfl) rfl (by show 2 * 0 + _ ≤ _; exact Nat.le_of_eq rfl) (D at_166) rfl (by decide) (by decide) (fun v T1678 L1678 X1678 hQ1678 => ?_)
  obtain ⟨rfl, N1678q, K1678, G1824, G1825, G1826, G1827, G1828, G1829, G1830, G1831, G1832, G1833⟩ := hQ1678
  have N1678 := Fr.app N1665 N1678q
  have Z1834 : n0 ≤ T1678.heap.size := Nat.le_trans Z1675 K1678.1
  have G1836 : Fld Z T1678.heap b1597 "com/example/spare_calculus/sparecalculus/bisim/LabelGroups" "groupCount" "I" (.int (own_v1835 w0_1 w0_2 w0_3 w0_4 w0_7 w0_8)) := G1830
  have G1838 : own_Ints Z T1678.heap gr_1602 (own_v1837 w0_1 w0_2 w0_3 w0_4 w0_7 w0_8) := G1831
  have G1840 : own_Ints Z T1678.heap gl_1603 (own_v1839 w0_1 w0_2 w0_3 w0_4 w0_7 w0_8) := G1832
  have G1842 : own_Ints Z T1678.heap gs_1604 (own_v1841 w0_1 w0_2 w0_3 w0_4 w0_7 w0_8) := G1833
  have F1844 := (F1680.keep K1678 (ninS ne_b1586_b1597 (ninS ne1630 (ninS ne1633 (ninS ne1636 nin0)))))
  have hbn1846 : own_In (w0_4 / (2:Int32)) [w0_1, w0_2, w0_3].length := (by subst hw0_5 hw0_6 hw0_7 hw0_8; exact own_fin1845 w0_1 (own_m3 _ _ hw0_1) w0_2 (own_m3 _ _ hw0_2) w0_3 (own_m3 _ _ hw0_3) w0_4 (own_m6 _ _ hw0_4))
  have hbn1848 : own_In w0_7 [w0_1, w0_2, w0_3].length := (by subst hw0_5 hw0_6 hw0_7 hw0_8; exact own_fin1847 w0_1 (own_m3 _ _ hw0_1) w0_2 (own_m3 _ _ hw0_2) w0_3 (own_m3 _ _ hw0_3) w0_4 (own_m6 _ _ hw0_4))
  have hbn1850 : own_In w0_8 [w0_1, w0_2, w0_3].length := (by subst hw0_5 hw0_6 hw0_7 hw0_8; exact own_fin1849 w0_1 (own_m3 _ _ hw0_1) w0_2 (own_m3 _ _ hw0_2) w0_3 (own_m3 _ _ hw0_3) w0_4 (own_m6 _ _ hw0_4))
  refine own_pA T1678 m 216 #[.val (.int p0), .val (.int p1), .val (.int p2), .val (.int p3), .val (.int p4), .val (.int p5), .val (.ref b1586), .val (.int (3:Int32)), .val (.int w0_4), .val (.int (w0_4 / (2:Int32))), .val (.int w0_5), .val (.int w0_6), .val (.int w0_7), .val (.int w0_8), .val (.ref b1597), .val (.int (own_v1843 w0_1 w0_2 w0_3 w0_4 w0_7 w0_8)), .val (.int (own_at [w0_1, w0_2, w0_3] (w0_4 / (2:Int32)))), .val (.int (own_at [w0_1, w0_2, w0_3] w0_7)), .val (.int (own_at [w0_1, w0_2, w0_3] w0_8)), .val (.int (0:Int32)), .unset, .unset, .unset, .unset, .unset, .unset, .unset, .unset, .unset, .unset, .unset] [(.int (own_at [w0_1, w0_2, w0_3] (w0_4 / (2:Int32)))), (.int (own_at [w0_1, w0_2, w0_3] w0_7))] (fun t k => ?_) ?_
  ·refine XS.istore X1678.here hx rfl (D at_169) rfl (l' := #[iv p0, iv p1, iv p2, iv p3, iv p4, iv p5, rv b1586, iv (3:Int32), iv w0_4, iv (w0_4 / (2:Int32)), iv w0_5, iv w0_6, iv w0_7, iv w0_8, rv b1597, iv (own_v1843 w0_1 w0_2 w0_3 w0_4 w0_7 w0_8), .unset, .unset, .unset, .unset, .unset, .unset, .unset, .unset, .unset, .unset, .unset, .unset, .unset, .unset, .unset]) rfl ?_
   refine XS.aload X1678.here hx rfl (D at_171) rfl rfl ?_
   refine XS.iload X1678.here hx rfl (D at_173) rfl ?_
   refine own_iaload X1678 hx hZ rfl F1844 hbn1846 rfl rfl (D at_175) ?_
   refine XS.istore X1678.here hx rfl (D at_176) rfl (l' := #[.val (.int p0), .val (.int p1), .val (.int p2), .val (.int p3), .val (.int p4), .val (.int p5), .val (.ref b1586), .val (.int (3:Int32)), .val (.int w0_4), .val (.int (w0_4 / (2:Int32))), .val (.int w0_5), .val (.int w0_6), .val (.int w0_7), .val (.int w0_8), .val (.ref b1597), .val (.int (own_v1843 w0_1 w0_2 w0_3 w0_4 w0_7 w0_8)), .val (.int (own_at [w0_1, w0_2, w0_3] (w0_4 / (2:Int32)))), .unset, .unset, .unset, .unset, .unset, .unset, .unset, .unset, .unset, .unset, .unset, .unset, .unset, .unset]) rfl ?_
   refine XS.aload X1678.here hx rfl (D at_178) rfl rfl ?_
   refine XS.iload X1678.here hx rfl (D at_180) rfl ?_
   refine own_iaload X1678 hx hZ rfl F1844 hbn1848 rfl rfl (D at_182) ?_
   refine XS.istore X1678.here hx rfl (D at_183) rfl (l' := #[.val (.int p0), .val (.int p1), .val (.int p2), .val (.int p3), .val (.int p4), .val (.int p5), .val (.ref b1586), .val (.int (3:Int32)), .val (.int w0_4), .val (.int (w0_4 / (2:Int32))), .val (.int w0_5), .val (.int w0_6), .val (.int w0_7), .val (.int w0_8), .val (.ref b1597), .val (.int (own_v1843 w0_1 w0_2 w0_3 w0_4 w0_7 w0_8)), .val (.int (own_at [w0_1, w0_2, w0_3] (w0_4 / (2:Int32)))), .val (.int (own_at [w0_1, w0_2, w0_3] w0_7)), .unset, .unset, .unset, .unset, .unset, .unset, .unset, .unset, .unset, .unset, .unset, .unset, .unset]) rfl ?_
   refine XS.aload X1678.here hx rfl (D at_185) rfl rfl ?_
   refine XS.iload X1678.here hx rfl (D at_187) rfl ?_
   refine own_iaload X1678 hx hZ rfl F1844 hbn1850 rfl rfl (D at_189) ?_
   refine XS.istore X1678.here hx rfl (D at_190) rfl (l' := #[.val (.int p0), .val (.int p1), .val (.int p2), .val (.int p3), .val (.int p4), .val (.int p5), .val (.ref b1586), .val (.int (3:Int32)), .val (.int w0_4), .val (.int (w0_4 / (2:Int32))), .val (.int w0_5), .val (.int w0_6), .val (.int w0_7), .val (.int w0_8), .val (.ref b1597), .val (.int (own_v1843 w0_1 w0_2 w0_3 w0_4 w0_7 w0_8)), .val (.int (own_at [w0_1, w0_2, w0_3] (w0_4 / (2:Int32)))), .val (.int (own_at [w0_1, w0_2, w0_3] w0_7)), .val (.int (own_at [w0_1, w0_2, w0_3] w0_8)), .unset, .unset, .unset, .unset, .unset, .unset, .unset, .unset, .unset, .unset, .unset, .unset]) rfl ?_
   refine XS.iload X1678.here hx rfl (D at_192) rfl ?_
   refine XS.iconst X1678.here hx rfl (D at_194) ?_
   refine XS.icmpNo X1678.here hx rfl (D at_195) rfl (XT.ii_lt_f (by decide)) ?_
   refine XS.iconst X1678.here hx rfl (D at_198) ?_
   refine XS.goto X1678.here hx rfl (pc0 := 199) (pc' := 204) rfl (D at_199) (by decide) (by decide) ?_
   refine XS.istore X1678.here hx rfl (D at_204) rfl (l' := #[.val (.int p0), .val (.int p1), .val (.int p2), .val (.int p3), .val (.int p4), .val (.int p5), .val (.ref b1586), .val (.int (3:Int32)), .val (.int w0_4), .val (.int (w0_4 / (2:Int32))), .val (.int w0_5), .val (.int w0_6), .val (.int w0_7), .val (.int w0_8), .val (.ref b1597), .val (.int (own_v1843 w0_1 w0_2 w0_3 w0_4 w0_7 w0_8)), .val (.int (own_at [w0_1, w0_2, w0_3] (w0_4 / (2:Int32)))), .val (.int (own_at [w0_1, w0_2, w0_3] w0_7)), .val (.int (own_at [w0_1, w0_2, w0_3] w0_8)), .val (.int (0:Int32)), .unset, .unset, .unset, .unset, .unset, .unset, .unset, .unset, .unset, .unset, .unset]) rfl ?_
   refine XS.iload X1678.here hx rfl (D at_206) rfl ?_
   refine XS.iconst X1678.here hx rfl (D at_208) ?_
   refine XS.icmpNo X1678.here hx rfl (D at_209) rfl (XT.ii_lt_f (by decide)) ?_
   refine XS.iload X1678.here hx rfl (D at_212) rfl ?_
   exact XS.iload X1678.here hx rfl (D at_214) rfl k
  obtain ⟨w0_9, hw0_9⟩ : ∃ z : Int32, z = (if (own_at [w0_1, w0_2, w0_3] w0_7) = (own_at [w0_1, w0_2, w0_3] (w0_4 / (2:Int32))) then (0:Int32) else (1:Int32)) := ⟨_, rfl⟩
  refine own_pre (A := T1678.setTop (mkF m 229 #[.val (.int p0), .val (.int p1), .val (.int p2), .val (.int p3), .val (.int p4), .val (.int p5), .val (.ref b1586), .val (.int (3:Int32)), .val (.int w0_4), .val (.int (w0_4 / (2:Int32))), .val (.int w0_5), .val (.int w0_6), .val (.int w0_7), .val (.int w0_8), .val (.ref b1597), .val (.int (own_v1843 w0_1 w0_2 w0_3 w0_4 w0_7 w0_8)), .val (.int (own_at [w0_1, w0_2, w0_3] (w0_4 / (2:Int32)))), .val (.int (own_at [w0_1, w0_2, w0_3] w0_7)), .val (.int (own_at [w0_1, w0_2, w0_3] w0_8)), .val (.int (0:Int32)), .unset, .unset, .unset, .unset, .unset, .unset, .unset, .unset, .unset, .unset, .unset] [(.int w0_9)])) (fun t k => ?_) ?_
  ·by_cases hm216_5 : (own_at [w0_1, w0_2, w0_3] w0_7) = (own_at [w0_1, w0_2, w0_3] (w0_4 / (2:Int32)))
   ·refine XS.icmpNo X1678.here hx rfl (D at_216) rfl (XT.ii_ne_f hm216_5) ?_
    refine XS.iconst X1678.here hx rfl (D at_219) ?_
    refine XS.goto X1678.here hx rfl (pc0 := 220) (pc' := 229) rfl (D at_220) (by decide) (by decide) ?_
    rw [hw0_9.trans (if_pos hm216_5)] at k
    exact k
   ·refine XS.icmpYes X1678.here hx rfl (pc0 := 216) (pc' := 223) rfl (D at_216) rfl (XT.ii_ne_t hm216_5) (by decide) (by decide) ?_
    refine XS.iconst X1678.here hx rfl (D at_223) ?_
    refine XS.goto X1678.here hx rfl (pc0 := 224) (pc' := 229) rfl (D at_224) (by decide) (by decide) ?_
    rw [hw0_9.trans (if_neg hm216_5)] at k
    exact k
  refine own_pA T1678 m 241 #[.val (.int p0), .val (.int p1), .val (.int p2), .val (.int p3), .val (.int p4), .val (.int p5), .val (.ref b1586), .val (.int (3:Int32)), .val (.int w0_4), .val (.int (w0_4 / (2:Int32))), .val (.int w0_5), .val (.int w0_6), .val (.int w0_7), .val (.int w0_8), .val (.ref b1597), .val (.int (own_v1843 w0_1 w0_2 w0_3 w0_4 w0_7 w0_8)), .val (.int (own_at [w0_1, w0_2, w0_3] (w0_4 / (2:Int32)))), .val (.int (own_at [w0_1, w0_2, w0_3] w0_7)), .val (.int (own_at [w0_1, w0_2, w0_3] w0_8)), .val (.int (0:Int32)), .val (.int w0_9), .unset, .unset, .unset, .unset, .unset, .unset, .unset, .unset, .unset, .unset] [(.int (own_at [w0_1, w0_2, w0_3] (w0_4 / (2:Int32)))), (.int (own_at [w0_1, w0_2, w0_3] w0_8))] (fun t k => ?_) ?_
  ·refine XS.istore X1678.here hx rfl (D at_229) rfl (l' := #[.val (.int p0), .val (.int p1), .val (.int p2), .val (.int p3), .val (.int p4), .val (.int p5), .val (.ref b1586), .val (.int (3:Int32)), .val (.int w0_4), .val (.int (w0_4 / (2:Int32))), .val (.int w0_5), .val (.int w0_6), .val (.int w0_7), .val (.int w0_8), .val (.ref b1597), .val (.int (own_v1843 w0_1 w0_2 w0_3 w0_4 w0_7 w0_8)), .val (.int (own_at [w0_1, w0_2, w0_3] (w0_4 / (2:Int32)))), .val (.int (own_at [w0_1, w0_2, w0_3] w0_7)), .val (.int (own_at [w0_1, w0_2, w0_3] w0_8)), .val (.int (0:Int32)), .val (.int w0_9), .unset, .unset, .unset, .unset, .unset, .unset, .unset, .unset, .unset, .unset]) rfl ?_
   refine XS.iload X1678.here hx rfl (D at_231) rfl ?_
   refine XS.iconst X1678.here hx rfl (D at_233) ?_
   refine XS.icmpNo X1678.here hx rfl (D at_234) rfl (XT.ii_lt_f (by decide)) ?_
   refine XS.iload X1678.here hx rfl (D at_237) rfl ?_
   exact XS.iload X1678.here hx rfl (D at_239) rfl k
  obtain ⟨w0_10, hw0_10⟩ : ∃ z : Int32, z = (if (own_at [w0_1, w0_2, w0_3] w0_8) = (own_at [w0_1, w0_2, w0_3] (w0_4 / (2:Int32))) then (0:Int32) else (if (own_at [w0_1, w0_2, w0_3] w0_8) = (own_at [w0_1, w0_2, w0_3] w0_7) then w0_9 else (w0_9 + (1:Int32)))) := ⟨_, rfl⟩
  refine own_pre (A := T1678.setTop (mkF m 269 #[.val (.int p0), .val (.int p1), .val (.int p2), .val (.int p3), .val (.int p4), .val (.int p5), .val (.ref b1586), .val (.int (3:Int32)), .val (.int w0_4), .val (.int (w0_4 / (2:Int32))), .val (.int w0_5), .val (.int w0_6), .val (.int w0_7), .val (.int w0_8), .val (.ref b1597), .val (.int (own_v1843 w0_1 w0_2 w0_3 w0_4 w0_7 w0_8)), .val (.int (own_at [w0_1, w0_2, w0_3] (w0_4 / (2:Int32)))), .val (.int (own_at [w0_1, w0_2, w0_3] w0_7)), .val (.int (own_at [w0_1, w0_2, w0_3] w0_8)), .val (.int (0:Int32)), .val (.int w0_9), .unset, .unset, .unset, .unset, .unset, .unset, .unset, .unset, .unset, .unset] [(.int w0_10)])) (fun t k => ?_) ?_
  ·by_cases hm241_6 : (own_at [w0_1, w0_2, w0_3] w0_8) = (own_at [w0_1, w0_2, w0_3] (w0_4 / (2:Int32)))
   ·refine XS.icmpNo X1678.here hx rfl (D at_241) rfl (XT.ii_ne_f hm241_6) ?_
    refine XS.iconst X1678.here hx rfl (D at_244) ?_
    refine XS.goto X1678.here hx rfl (pc0 := 245) (pc' := 269) rfl (D at_245) (by decide) (by decide) ?_
    rw [hw0_10.trans (if_pos hm241_6)] at k
    exact k
   ·refine XS.icmpYes X1678.here hx rfl (pc0 := 241) (pc' := 248) rfl (D at_241) rfl (XT.ii_ne_t hm241_6) (by decide) (by decide) ?_
    refine XS.iload X1678.here hx rfl (D at_248) rfl ?_
    refine XS.iload X1678.here hx rfl (D at_250) rfl ?_
    by_cases hm252_7 : (own_at [w0_1, w0_2, w0_3] w0_8) = (own_at [w0_1, w0_2, w0_3] w0_7)
    ·refine XS.icmpNo X1678.here hx rfl (D at_252) rfl (XT.ii_ne_f hm252_7) ?_
     refine XS.iload X1678.here hx rfl (D at_255) rfl ?_
     refine XS.goto X1678.here hx rfl (pc0 := 257) (pc' := 269) rfl (D at_257) (by decide) (by decide) ?_
     rw [hw0_10.trans ((if_neg hm241_6).trans (if_pos hm252_7))] at k
     exact k
    ·refine XS.icmpYes X1678.here hx rfl (pc0 := 252) (pc' := 260) rfl (D at_252) rfl (XT.ii_ne_t hm252_7) (by decide) (by decide) ?_
     refine XS.iload X1678.here hx rfl (D at_260) rfl ?_
     refine XS.iconst X1678.here hx rfl (D at_262) ?_
     refine XS.iadd X1678.here hx rfl (D at_263) rfl ?_
     refine XS.goto X1678.here hx rfl (pc0 := 264) (pc' := 269) rfl (D at_264) (by decide) (by decide) ?_
     rw [hw0_10.trans ((if_neg hm241_6).trans (if_neg hm252_7))] at k
     exact k
  refine own_pA T1678 m 307 #[.val (.int p0), .val (.int p1), .val (.int p2), .val (.int p3), .val (.int p4), .val (.int p5), .val (.ref b1586), .val (.int (3:Int32)), .val (.int w0_4), .val (.int (w0_4 / (2:Int32))), .val (.int w0_5), .val (.int w0_6), .val (.int w0_7), .val (.int w0_8), .val (.ref b1597), .val (.int (own_v1843 w0_1 w0_2 w0_3 w0_4 w0_7 w0_8)), .val (.int (own_at [w0_1, w0_2, w0_3] (w0_4 / (2:Int32)))), .val (.int (own_at [w0_1, w0_2, w0_3] w0_7)), .val (.int (own_at [w0_1, w0_2, w0_3] w0_8)), .val (.int (0:Int32)), .val (.int w0_9), .val (.int w0_10), .unset, .unset, .unset, .unset, .unset, .unset, .unset, .unset, .unset] [(.int w0_10), (.int w0_9)] (fun t k => ?_) ?_
  ·refine XS.istore X1678.here hx rfl (D at_269) rfl (l' := #[.val (.int p0), .val (.int p1), .val (.int p2), .val (.int p3), .val (.int p4), .val (.int p5), .val (.ref b1586), .val (.int (3:Int32)), .val (.int w0_4), .val (.int (w0_4 / (2:Int32))), .val (.int w0_5), .val (.int w0_6), .val (.int w0_7), .val (.int w0_8), .val (.ref b1597), .val (.int (own_v1843 w0_1 w0_2 w0_3 w0_4 w0_7 w0_8)), .val (.int (own_at [w0_1, w0_2, w0_3] (w0_4 / (2:Int32)))), .val (.int (own_at [w0_1, w0_2, w0_3] w0_7)), .val (.int (own_at [w0_1, w0_2, w0_3] w0_8)), .val (.int (0:Int32)), .val (.int w0_9), .val (.int w0_10), .unset, .unset, .unset, .unset, .unset, .unset, .unset, .unset, .unset]) rfl ?_
   refine XS.iload X1678.here hx rfl (D at_271) rfl ?_
   refine XS.ifYes X1678.here hx rfl (pc0 := 273) (pc' := 280) rfl (D at_273) rfl (XT.i0_ne_t (by decide)) (by decide) (by decide) ?_
   refine XS.iload X1678.here hx rfl (D at_280) rfl ?_
   refine XS.iconst X1678.here hx rfl (D at_282) ?_
   refine XS.icmpYes X1678.here hx rfl (pc0 := 283) (pc' := 290) rfl (D at_283) rfl (XT.ii_ne_t (by decide)) (by decide) (by decide) ?_
   refine XS.iload X1678.here hx rfl (D at_290) rfl ?_
   refine XS.iconst X1678.here hx rfl (D at_292) ?_
   refine XS.icmpYes X1678.here hx rfl (pc0 := 293) (pc' := 303) rfl (D at_293) rfl (XT.ii_ne_t (by decide)) (by decide) (by decide) ?_
   refine XS.iload X1678.here hx rfl (D at_303) rfl ?_
   exact XS.iload X1678.here hx rfl (D at_305) rfl k
  refine own_callSG X1678 hx hZ (y := own_y11) hown (own_h hw 62 rfl) (own_h hw 63 rfl) (own_h hw 64 rfl) (own_h hw 65 rfl) (by decide) (W := 0) (rm11 l Z aZ hw [] w0_9 w0_10 T1678.heap n0 Z1834 ) (by decide) (by decide) rfl (by rw [hml]; rfl) (argsL := [(.int w0_9), (.int w0_10)]) (rest := []) (lenOf own_pd2 rfl) rfl (by show 2 * 0 + _ ≤ _; exact Nat.le_of_eq rfl) (D at_307) rfl rfl (by decide) (by decide) (fun v T1851 L1851 X1851 hQ1851 => ?_)
  obtain ⟨rfl, N1851q, eh1851⟩ := hQ1851
  have N1851 := Fr.app N1678 N1851q
  have hd318_8 : (own_v1843 w0_1 w0_2 w0_3 w0_4 w0_7 w0_8) = ((f11 w0_9 w0_10) + (1:Int32)) := (by subst hw0_5 hw0_6 hw0_7 hw0_8 hw0_9 hw0_10; exact own_fin1853 w0_1 (own_m3 _ _ hw0_1) w0_2 (own_m3 _ _ hw0_2) w0_3 (own_m3 _ _ hw0_3) w0_4 (own_m6 _ _ hw0_4))
  refine own_pA T1851 m 332 #[.val (.int p0), .val (.int p1), .val (.int p2), .val (.int p3), .val (.int p4), .val (.int p5), .val (.ref b1586), .val (.int (3:Int32)), .val (.int w0_4), .val (.int (w0_4 / (2:Int32))), .val (.int w0_5), .val (.int w0_6), .val (.int w0_7), .val (.int w0_8), .val (.ref b1597), .val (.int (own_v1843 w0_1 w0_2 w0_3 w0_4 w0_7 w0_8)), .val (.int (own_at [w0_1, w0_2, w0_3] (w0_4 / (2:Int32)))), .val (.int (own_at [w0_1, w0_2, w0_3] w0_7)), .val (.int (own_at [w0_1, w0_2, w0_3] w0_8)), .val (.int (0:Int32)), .val (.int w0_9), .val (.int w0_10), .val (.int ((f11 w0_9 w0_10) + (1:Int32))), .val (.int (1:Int32)), .unset, .unset, .unset, .unset, .unset, .unset, .unset] [(.int (0:Int32)), (.int w0_9)] (fun t k => ?_) ?_
  ·refine XS.iconst X1851.here hx rfl (D at_310) ?_
   refine XS.iadd X1851.here hx rfl (D at_311) rfl ?_
   refine XS.istore X1851.here hx rfl (D at_312) rfl (l' := #[.val (.int p0), .val (.int p1), .val (.int p2), .val (.int p3), .val (.int p4), .val (.int p5), .val (.ref b1586), .val (.int (3:Int32)), .val (.int w0_4), .val (.int (w0_4 / (2:Int32))), .val (.int w0_5), .val (.int w0_6), .val (.int w0_7), .val (.int w0_8), .val (.ref b1597), .val (.int (own_v1843 w0_1 w0_2 w0_3 w0_4 w0_7 w0_8)), .val (.int (own_at [w0_1, w0_2, w0_3] (w0_4 / (2:Int32)))), .val (.int (own_at [w0_1, w0_2, w0_3] w0_7)), .val (.int (own_at [w0_1, w0_2, w0_3] w0_8)), .val (.int (0:Int32)), .val (.int w0_9), .val (.int w0_10), .val (.int ((f11 w0_9 w0_10) + (1:Int32))), .unset, .unset, .unset, .unset, .unset, .unset, .unset, .unset]) rfl ?_
   refine XS.iload X1851.here hx rfl (D at_314) rfl ?_
   refine XS.iload X1851.here hx rfl (D at_316) rfl ?_
   refine XS.icmpNo X1851.here hx rfl (D at_318) rfl (XT.ii_ne_f hd318_8) ?_
   refine XS.iconst X1851.here hx rfl (D at_321) ?_
   refine XS.goto X1851.here hx rfl (pc0 := 322) (pc' := 326) rfl (D at_322) (by decide) (by decide) ?_
   refine XS.istore X1851.here hx rfl (D at_326) rfl (l' := #[.val (.int p0), .val (.int p1), .val (.int p2), .val (.int p3), .val (.int p4), .val (.int p5), .val (.ref b1586), .val (.int (3:Int32)), .val (.int w0_4), .val (.int (w0_4 / (2:Int32))), .val (.int w0_5), .val (.int w0_6), .val (.int w0_7), .val (.int w0_8), .val (.ref b1597), .val (.int (own_v1843 w0_1 w0_2 w0_3 w0_4 w0_7 w0_8)), .val (.int (own_at [w0_1, w0_2, w0_3] (w0_4 / (2:Int32)))), .val (.int (own_at [w0_1, w0_2, w0_3] w0_7)), .val (.int (own_at [w0_1, w0_2, w0_3] w0_8)), .val (.int (0:Int32)), .val (.int w0_9), .val (.int w0_10), .val (.int ((f11 w0_9 w0_10) + (1:Int32))), .val (.int (1:Int32)), .unset, .unset, .unset, .unset, .unset, .unset, .unset]) rfl ?_
   refine XS.iload X1851.here hx rfl (D at_328) rfl ?_
   exact XS.iload X1851.here hx rfl (D at_330) rfl k
  refine own_callSG X1851 hx hZ (y := own_y5) hown (own_h hw 35 rfl) (own_h hw 36 rfl) (own_h hw 37 rfl) (own_h hw 38 rfl) (by decide) (W := 0) (rm5 l Z aZ hw [] w0_9 (0:Int32) T1678.heap n0 Z1834 ) (by decide) (by decide) rfl (by rw [hml]; rfl) (argsL := [(.int w0_9), (.int (0:Int32))]) (rest := []) (lenOf own_pd2 rfl) rfl (by show 2 * 0 + _ ≤ _; exact Nat.le_of_eq rfl) (D at_332) rfl eh1851 (by decide) (by decide) (fun v T1854 L1854 X1854 hQ1854 => ?_)
  obtain ⟨rfl, N1854q, eh1854⟩ := hQ1854
  have N1854 := Fr.app N1851 N1854q
  refine own_pA T1854 m 339 #[.val (.int p0), .val (.int p1), .val (.int p2), .val (.int p3), .val (.int p4), .val (.int p5), .val (.ref b1586), .val (.int (3:Int32)), .val (.int w0_4), .val (.int (w0_4 / (2:Int32))), .val (.int w0_5), .val (.int w0_6), .val (.int w0_7), .val (.int w0_8), .val (.ref b1597), .val (.int (own_v1843 w0_1 w0_2 w0_3 w0_4 w0_7 w0_8)), .val (.int (own_at [w0_1, w0_2, w0_3] (w0_4 / (2:Int32)))), .val (.int (own_at [w0_1, w0_2, w0_3] w0_7)), .val (.int (own_at [w0_1, w0_2, w0_3] w0_8)), .val (.int (0:Int32)), .val (.int w0_9), .val (.int w0_10), .val (.int ((f11 w0_9 w0_10) + (1:Int32))), .val (.int (1:Int32)), .unset, .unset, .unset, .unset, .unset, .unset, .unset] [(.int (0:Int32)), (.int w0_10), (.int (f5 w0_9 (0:Int32)))] (fun t k => ?_) ?_
  ·refine XS.iload X1854.here hx rfl (D at_335) rfl ?_
   exact XS.iload X1854.here hx rfl (D at_337) rfl k
  refine own_callSG X1854 hx hZ (y := own_y5) hown (own_h hw 35 rfl) (own_h hw 36 rfl) (own_h hw 37 rfl) (own_h hw 38 rfl) (by decide) (W := 1) (rm5 l Z aZ hw [] w0_10 (0:Int32) T1678.heap n0 Z1834 ) (by decide) (by decide) rfl (by rw [hml]; rfl) (argsL := [(.int w0_10), (.int (0:Int32))]) (rest := [(.int (f5 w0_9 (0:Int32)))]) (lenOf own_pd2 rfl) rfl (by show 2 * 0 + _ ≤ _; exact Nat.le_of_eq rfl) (D at_339) rfl eh1854 (by decide) (by decide) (fun v T1855 L1855 X1855 hQ1855 => ?_)
  obtain ⟨rfl, N1855q, eh1855⟩ := hQ1855
  have N1855 := Fr.app N1854 N1855q
  refine own_pA T1855 m 349 #[.val (.int p0), .val (.int p1), .val (.int p2), .val (.int p3), .val (.int p4), .val (.int p5), .val (.ref b1586), .val (.int (3:Int32)), .val (.int w0_4), .val (.int (w0_4 / (2:Int32))), .val (.int w0_5), .val (.int w0_6), .val (.int w0_7), .val (.int w0_8), .val (.ref b1597), .val (.int (own_v1843 w0_1 w0_2 w0_3 w0_4 w0_7 w0_8)), .val (.int (own_at [w0_1, w0_2, w0_3] (w0_4 / (2:Int32)))), .val (.int (own_at [w0_1, w0_2, w0_3] w0_7)), .val (.int (own_at [w0_1, w0_2, w0_3] w0_8)), .val (.int (0:Int32)), .val (.int w0_9), .val (.int w0_10), .val (.int ((f11 w0_9 w0_10) + (1:Int32))), .val (.int (1:Int32)), .val (.int ((f5 w0_9 (0:Int32)) + (f5 w0_10 (0:Int32)))), .unset, .unset, .unset, .unset, .unset, .unset] [(.int w0_9), (.int (0:Int32))] (fun t k => ?_) ?_
  ·refine XS.iadd X1855.here hx rfl (D at_342) rfl ?_
   refine XS.istore X1855.here hx rfl (D at_343) rfl (l' := #[.val (.int p0), .val (.int p1), .val (.int p2), .val (.int p3), .val (.int p4), .val (.int p5), .val (.ref b1586), .val (.int (3:Int32)), .val (.int w0_4), .val (.int (w0_4 / (2:Int32))), .val (.int w0_5), .val (.int w0_6), .val (.int w0_7), .val (.int w0_8), .val (.ref b1597), .val (.int (own_v1843 w0_1 w0_2 w0_3 w0_4 w0_7 w0_8)), .val (.int (own_at [w0_1, w0_2, w0_3] (w0_4 / (2:Int32)))), .val (.int (own_at [w0_1, w0_2, w0_3] w0_7)), .val (.int (own_at [w0_1, w0_2, w0_3] w0_8)), .val (.int (0:Int32)), .val (.int w0_9), .val (.int w0_10), .val (.int ((f11 w0_9 w0_10) + (1:Int32))), .val (.int (1:Int32)), .val (.int ((f5 w0_9 (0:Int32)) + (f5 w0_10 (0:Int32)))), .unset, .unset, .unset, .unset, .unset, .unset]) rfl ?_
   refine XS.iload X1855.here hx rfl (D at_345) rfl ?_
   exact XS.iload X1855.here hx rfl (D at_347) rfl k
  refine own_callSG X1855 hx hZ (y := own_y5) hown (own_h hw 35 rfl) (own_h hw 36 rfl) (own_h hw 37 rfl) (own_h hw 38 rfl) (by decide) (W := 0) (rm5 l Z aZ hw [] (0:Int32) w0_9 T1678.heap n0 Z1834 ) (by decide) (by decide) rfl (by rw [hml]; rfl) (argsL := [(.int (0:Int32)), (.int w0_9)]) (rest := []) (lenOf own_pd2 rfl) rfl (by show 2 * 0 + _ ≤ _; exact Nat.le_of_eq rfl) (D at_349) rfl eh1855 (by decide) (by decide) (fun v T1856 L1856 X1856 hQ1856 => ?_)
  obtain ⟨rfl, N1856q, eh1856⟩ := hQ1856
  have N1856 := Fr.app N1855 N1856q
  refine own_pA T1856 m 356 #[.val (.int p0), .val (.int p1), .val (.int p2), .val (.int p3), .val (.int p4), .val (.int p5), .val (.ref b1586), .val (.int (3:Int32)), .val (.int w0_4), .val (.int (w0_4 / (2:Int32))), .val (.int w0_5), .val (.int w0_6), .val (.int w0_7), .val (.int w0_8), .val (.ref b1597), .val (.int (own_v1843 w0_1 w0_2 w0_3 w0_4 w0_7 w0_8)), .val (.int (own_at [w0_1, w0_2, w0_3] (w0_4 / (2:Int32)))), .val (.int (own_at [w0_1, w0_2, w0_3] w0_7)), .val (.int (own_at [w0_1, w0_2, w0_3] w0_8)), .val (.int (0:Int32)), .val (.int w0_9), .val (.int w0_10), .val (.int ((f11 w0_9 w0_10) + (1:Int32))), .val (.int (1:Int32)), .val (.int ((f5 w0_9 (0:Int32)) + (f5 w0_10 (0:Int32)))), .unset, .unset, .unset, .unset, .unset, .unset] [(.int w0_9), (.int w0_10), (.int (f5 (0:Int32) w0_9))] (fun t k => ?_) ?_
  ·refine XS.iload X1856.here hx rfl (D at_352) rfl ?_
   exact XS.iload X1856.here hx rfl (D at_354) rfl k
  refine own_callSG X1856 hx hZ (y := own_y5) hown (own_h hw 35 rfl) (own_h hw 36 rfl) (own_h hw 37 rfl) (own_h hw 38 rfl) (by decide) (W := 1) (rm5 l Z aZ hw [] w0_10 w0_9 T1678.heap n0 Z1834 ) (by decide) (by decide) rfl (by rw [hml]; rfl) (argsL := [(.int w0_10), (.int w0_9)]) (rest := [(.int (f5 (0:Int32) w0_9))]) (lenOf own_pd2 rfl) rfl (by show 2 * 0 + _ ≤ _; exact Nat.le_of_eq rfl) (D at_356) rfl eh1856 (by decide) (by decide) (fun v T1857 L1857 X1857 hQ1857 => ?_)
  obtain ⟨rfl, N1857q, eh1857⟩ := hQ1857
  have N1857 := Fr.app N1856 N1857q
  refine own_pA T1857 m 364 #[.val (.int p0), .val (.int p1), .val (.int p2), .val (.int p3), .val (.int p4), .val (.int p5), .val (.ref b1586), .val (.int (3:Int32)), .val (.int w0_4), .val (.int (w0_4 / (2:Int32))), .val (.int w0_5), .val (.int w0_6), .val (.int w0_7), .val (.int w0_8), .val (.ref b1597), .val (.int (own_v1843 w0_1 w0_2 w0_3 w0_4 w0_7 w0_8)), .val (.int (own_at [w0_1, w0_2, w0_3] (w0_4 / (2:Int32)))), .val (.int (own_at [w0_1, w0_2, w0_3] w0_7)), .val (.int (own_at [w0_1, w0_2, w0_3] w0_8)), .val (.int (0:Int32)), .val (.int w0_9), .val (.int w0_10), .val (.int ((f11 w0_9 w0_10) + (1:Int32))), .val (.int (1:Int32)), .val (.int ((f5 w0_9 (0:Int32)) + (f5 w0_10 (0:Int32)))), .unset, .unset, .unset, .unset, .unset, .unset] [(.int w0_9), (.int (0:Int32)), (.int ((f5 (0:Int32) w0_9) + (f5 w0_10 w0_9)))] (fun t k => ?_) ?_
  ·refine XS.iadd X1857.here hx rfl (D at_359) rfl ?_
   refine XS.iload X1857.here hx rfl (D at_360) rfl ?_
   exact XS.iload X1857.here hx rfl (D at_362) rfl k
  refine own_callSG X1857 hx hZ (y := own_y6) hown (own_h hw 39 rfl) (own_h hw 40 rfl) (own_h hw 37 rfl) (own_h hw 41 rfl) (by decide) (W := 1) (rm6 l Z aZ hw [] (0:Int32) w0_9 T1678.heap n0 Z1834 ) (by decide) (by decide) rfl (by rw [hml]; rfl) (argsL := [(.int (0:Int32)), (.int w0_9)]) (rest := [(.int ((f5 (0:Int32) w0_9) + (f5 w0_10 w0_9)))]) (lenOf own_pd2 rfl) rfl (by show 2 * 0 + _ ≤ _; exact Nat.le_of_eq rfl) (D at_364) rfl eh1857 (by decide) (by decide) (fun v T1858 L1858 X1858 hQ1858 => ?_)
  obtain ⟨rfl, N1858q, eh1858⟩ := hQ1858
  have N1858 := Fr.app N1857 N1858q
  refine own_pA T1858 m 374 #[.val (.int p0), .val (.int p1), .val (.int p2), .val (.int p3), .val (.int p4), .val (.int p5), .val (.ref b1586), .val (.int (3:Int32)), .val (.int w0_4), .val (.int (w0_4 / (2:Int32))), .val (.int w0_5), .val (.int w0_6), .val (.int w0_7), .val (.int w0_8), .val (.ref b1597), .val (.int (own_v1843 w0_1 w0_2 w0_3 w0_4 w0_7 w0_8)), .val (.int (own_at [w0_1, w0_2, w0_3] (w0_4 / (2:Int32)))), .val (.int (own_at [w0_1, w0_2, w0_3] w0_7)), .val (.int (own_at [w0_1, w0_2, w0_3] w0_8)), .val (.int (0:Int32)), .val (.int w0_9), .val (.int w0_10), .val (.int ((f11 w0_9 w0_10) + (1:Int32))), .val (.int (1:Int32)), .val (.int ((f5 w0_9 (0:Int32)) + (f5 w0_10 (0:Int32)))), .val (.int (((f5 (0:Int32) w0_9) + (f5 w0_10 w0_9)) + (f6 (0:Int32) w0_9))), .unset, .unset, .unset, .unset, .unset] [(.int w0_10), (.int (0:Int32))] (fun t k => ?_) ?_
  ·refine XS.iadd X1858.here hx rfl (D at_367) rfl ?_
   refine XS.istore X1858.here hx rfl (D at_368) rfl (l' := #[.val (.int p0), .val (.int p1), .val (.int p2), .val (.int p3), .val (.int p4), .val (.int p5), .val (.ref b1586), .val (.int (3:Int32)), .val (.int w0_4), .val (.int (w0_4 / (2:Int32))), .val (.int w0_5), .val (.int w0_6), .val (.int w0_7), .val (.int w0_8), .val (.ref b1597), .val (.int (own_v1843 w0_1 w0_2 w0_3 w0_4 w0_7 w0_8)), .val (.int (own_at [w0_1, w0_2, w0_3] (w0_4 / (2:Int32)))), .val (.int (own_at [w0_1, w0_2, w0_3] w0_7)), .val (.int (own_at [w0_1, w0_2, w0_3] w0_8)), .val (.int (0:Int32)), .val (.int w0_9), .val (.int w0_10), .val (.int ((f11 w0_9 w0_10) + (1:Int32))), .val (.int (1:Int32)), .val (.int ((f5 w0_9 (0:Int32)) + (f5 w0_10 (0:Int32)))), .val (.int (((f5 (0:Int32) w0_9) + (f5 w0_10 w0_9)) + (f6 (0:Int32) w0_9))), .unset, .unset, .unset, .unset, .unset]) rfl ?_
   refine XS.iload X1858.here hx rfl (D at_370) rfl ?_
   exact XS.iload X1858.here hx rfl (D at_372) rfl k
  refine own_callSG X1858 hx hZ (y := own_y5) hown (own_h hw 35 rfl) (own_h hw 36 rfl) (own_h hw 37 rfl) (own_h hw 38 rfl) (by decide) (W := 0) (rm5 l Z aZ hw [] (0:Int32) w0_10 T1678.heap n0 Z1834 ) (by decide) (by decide) rfl (by rw [hml]; rfl) (argsL := [(.int (0:Int32)), (.int w0_10)]) (rest := []) (lenOf own_pd2 rfl) rfl (by show 2 * 0 + _ ≤ _; exact Nat.le_of_eq rfl) (D at_374) rfl eh1858 (by decide) (by decide) (fun v T1859 L1859 X1859 hQ1859 => ?_)
  obtain ⟨rfl, N1859q, eh1859⟩ := hQ1859
  have N1859 := Fr.app N1858 N1859q
  refine own_pA T1859 m 381 #[.val (.int p0), .val (.int p1), .val (.int p2), .val (.int p3), .val (.int p4), .val (.int p5), .val (.ref b1586), .val (.int (3:Int32)), .val (.int w0_4), .val (.int (w0_4 / (2:Int32))), .val (.int w0_5), .val (.int w0_6), .val (.int w0_7), .val (.int w0_8), .val (.ref b1597), .val (.int (own_v1843 w0_1 w0_2 w0_3 w0_4 w0_7 w0_8)), .val (.int (own_at [w0_1, w0_2, w0_3] (w0_4 / (2:Int32)))), .val (.int (own_at [w0_1, w0_2, w0_3] w0_7)), .val (.int (own_at [w0_1, w0_2, w0_3] w0_8)), .val (.int (0:Int32)), .val (.int w0_9), .val (.int w0_10), .val (.int ((f11 w0_9 w0_10) + (1:Int32))), .val (.int (1:Int32)), .val (.int ((f5 w0_9 (0:Int32)) + (f5 w0_10 (0:Int32)))), .val (.int (((f5 (0:Int32) w0_9) + (f5 w0_10 w0_9)) + (f6 (0:Int32) w0_9))), .unset, .unset, .unset, .unset, .unset] [(.int w0_10), (.int w0_9), (.int (f5 (0:Int32) w0_10))] (fun t k => ?_) ?_
  ·refine XS.iload X1859.here hx rfl (D at_377) rfl ?_
   exact XS.iload X1859.here hx rfl (D at_379) rfl k
  refine own_callSG X1859 hx hZ (y := own_y5) hown (own_h hw 35 rfl) (own_h hw 36 rfl) (own_h hw 37 rfl) (own_h hw 38 rfl) (by decide) (W := 1) (rm5 l Z aZ hw [] w0_9 w0_10 T1678.heap n0 Z1834 ) (by decide) (by decide) rfl (by rw [hml]; rfl) (argsL := [(.int w0_9), (.int w0_10)]) (rest := [(.int (f5 (0:Int32) w0_10))]) (lenOf own_pd2 rfl) rfl (by show 2 * 0 + _ ≤ _; exact Nat.le_of_eq rfl) (D at_381) rfl eh1859 (by decide) (by decide) (fun v T1860 L1860 X1860 hQ1860 => ?_)
  obtain ⟨rfl, N1860q, eh1860⟩ := hQ1860
  have N1860 := Fr.app N1859 N1860q
  refine own_pA T1860 m 389 #[.val (.int p0), .val (.int p1), .val (.int p2), .val (.int p3), .val (.int p4), .val (.int p5), .val (.ref b1586), .val (.int (3:Int32)), .val (.int w0_4), .val (.int (w0_4 / (2:Int32))), .val (.int w0_5), .val (.int w0_6), .val (.int w0_7), .val (.int w0_8), .val (.ref b1597), .val (.int (own_v1843 w0_1 w0_2 w0_3 w0_4 w0_7 w0_8)), .val (.int (own_at [w0_1, w0_2, w0_3] (w0_4 / (2:Int32)))), .val (.int (own_at [w0_1, w0_2, w0_3] w0_7)), .val (.int (own_at [w0_1, w0_2, w0_3] w0_8)), .val (.int (0:Int32)), .val (.int w0_9), .val (.int w0_10), .val (.int ((f11 w0_9 w0_10) + (1:Int32))), .val (.int (1:Int32)), .val (.int ((f5 w0_9 (0:Int32)) + (f5 w0_10 (0:Int32)))), .val (.int (((f5 (0:Int32) w0_9) + (f5 w0_10 w0_9)) + (f6 (0:Int32) w0_9))), .unset, .unset, .unset, .unset, .unset] [(.int w0_10), (.int (0:Int32)), (.int ((f5 (0:Int32) w0_10) + (f5 w0_9 w0_10)))] (fun t k => ?_) ?_
  ·refine XS.iadd X1860.here hx rfl (D at_384) rfl ?_
   refine XS.iload X1860.here hx rfl (D at_385) rfl ?_
   exact XS.iload X1860.here hx rfl (D at_387) rfl k
  refine own_callSG X1860 hx hZ (y := own_y6) hown (own_h hw 39 rfl) (own_h hw 40 rfl) (own_h hw 37 rfl) (own_h hw 41 rfl) (by decide) (W := 1) (rm6 l Z aZ hw [] (0:Int32) w0_10 T1678.heap n0 Z1834 ) (by decide) (by decide) rfl (by rw [hml]; rfl) (argsL := [(.int (0:Int32)), (.int w0_10)]) (rest := [(.int ((f5 (0:Int32) w0_10) + (f5 w0_9 w0_10)))]) (lenOf own_pd2 rfl) rfl (by show 2 * 0 + _ ≤ _; exact Nat.le_of_eq rfl) (D at_389) rfl eh1860 (by decide) (by decide) (fun v T1861 L1861 X1861 hQ1861 => ?_)
  obtain ⟨rfl, N1861q, eh1861⟩ := hQ1861
  have N1861 := Fr.app N1860 N1861q
  refine own_pA T1861 m 397 #[.val (.int p0), .val (.int p1), .val (.int p2), .val (.int p3), .val (.int p4), .val (.int p5), .val (.ref b1586), .val (.int (3:Int32)), .val (.int w0_4), .val (.int (w0_4 / (2:Int32))), .val (.int w0_5), .val (.int w0_6), .val (.int w0_7), .val (.int w0_8), .val (.ref b1597), .val (.int (own_v1843 w0_1 w0_2 w0_3 w0_4 w0_7 w0_8)), .val (.int (own_at [w0_1, w0_2, w0_3] (w0_4 / (2:Int32)))), .val (.int (own_at [w0_1, w0_2, w0_3] w0_7)), .val (.int (own_at [w0_1, w0_2, w0_3] w0_8)), .val (.int (0:Int32)), .val (.int w0_9), .val (.int w0_10), .val (.int ((f11 w0_9 w0_10) + (1:Int32))), .val (.int (1:Int32)), .val (.int ((f5 w0_9 (0:Int32)) + (f5 w0_10 (0:Int32)))), .val (.int (((f5 (0:Int32) w0_9) + (f5 w0_10 w0_9)) + (f6 (0:Int32) w0_9))), .unset, .unset, .unset, .unset, .unset] [(.int w0_10), (.int w0_9), (.int (((f5 (0:Int32) w0_10) + (f5 w0_9 w0_10)) + (f6 (0:Int32) w0_10)))] (fun t k => ?_) ?_
  ·refine XS.iadd X1861.here hx rfl (D at_392) rfl ?_
   refine XS.iload X1861.here hx rfl (D at_393) rfl ?_
   exact XS.iload X1861.here hx rfl (D at_395) rfl k
  refine own_callSG X1861 hx hZ (y := own_y6) hown (own_h hw 39 rfl) (own_h hw 40 rfl) (own_h hw 37 rfl) (own_h hw 41 rfl) (by decide) (W := 1) (rm6 l Z aZ hw [] w0_9 w0_10 T1678.heap n0 Z1834 ) (by decide) (by decide) rfl (by rw [hml]; rfl) (argsL := [(.int w0_9), (.int w0_10)]) (rest := [(.int (((f5 (0:Int32) w0_10) + (f5 w0_9 w0_10)) + (f6 (0:Int32) w0_10)))]) (lenOf own_pd2 rfl) rfl (by show 2 * 0 + _ ≤ _; exact Nat.le_of_eq rfl) (D at_397) rfl eh1861 (by decide) (by decide) (fun v T1862 L1862 X1862 hQ1862 => ?_)
  obtain ⟨rfl, N1862q, eh1862⟩ := hQ1862
  have N1862 := Fr.app N1861 N1862q
  refine own_pA T1862 m 418 #[.val (.int p0), .val (.int p1), .val (.int p2), .val (.int p3), .val (.int p4), .val (.int p5), .val (.ref b1586), .val (.int (3:Int32)), .val (.int w0_4), .val (.int (w0_4 / (2:Int32))), .val (.int w0_5), .val (.int w0_6), .val (.int w0_7), .val (.int w0_8), .val (.ref b1597), .val (.int (own_v1843 w0_1 w0_2 w0_3 w0_4 w0_7 w0_8)), .val (.int (own_at [w0_1, w0_2, w0_3] (w0_4 / (2:Int32)))), .val (.int (own_at [w0_1, w0_2, w0_3] w0_7)), .val (.int (own_at [w0_1, w0_2, w0_3] w0_8)), .val (.int (0:Int32)), .val (.int w0_9), .val (.int w0_10), .val (.int ((f11 w0_9 w0_10) + (1:Int32))), .val (.int (1:Int32)), .val (.int ((f5 w0_9 (0:Int32)) + (f5 w0_10 (0:Int32)))), .val (.int (((f5 (0:Int32) w0_9) + (f5 w0_10 w0_9)) + (f6 (0:Int32) w0_9))), .val (.int ((((f5 (0:Int32) w0_10) + (f5 w0_9 w0_10)) + (f6 (0:Int32) w0_10)) + (f6 w0_9 w0_10))), .unset, .unset, .unset, .unset] [(.int ((f5 w0_9 (0:Int32)) + (f5 w0_10 (0:Int32)))), (.ref b1597)] (fun t k => ?_) ?_
  ·refine XS.iadd X1862.here hx rfl (D at_400) rfl ?_
   refine XS.istore X1862.here hx rfl (D at_401) rfl (l' := #[.val (.int p0), .val (.int p1), .val (.int p2), .val (.int p3), .val (.int p4), .val (.int p5), .val (.ref b1586), .val (.int (3:Int32)), .val (.int w0_4), .val (.int (w0_4 / (2:Int32))), .val (.int w0_5), .val (.int w0_6), .val (.int w0_7), .val (.int w0_8), .val (.ref b1597), .val (.int (own_v1843 w0_1 w0_2 w0_3 w0_4 w0_7 w0_8)), .val (.int (own_at [w0_1, w0_2, w0_3] (w0_4 / (2:Int32)))), .val (.int (own_at [w0_1, w0_2, w0_3] w0_7)), .val (.int (own_at [w0_1, w0_2, w0_3] w0_8)), .val (.int (0:Int32)), .val (.int w0_9), .val (.int w0_10), .val (.int ((f11 w0_9 w0_10) + (1:Int32))), .val (.int (1:Int32)), .val (.int ((f5 w0_9 (0:Int32)) + (f5 w0_10 (0:Int32)))), .val (.int (((f5 (0:Int32) w0_9) + (f5 w0_10 w0_9)) + (f6 (0:Int32) w0_9))), .val (.int ((((f5 (0:Int32) w0_10) + (f5 w0_9 w0_10)) + (f6 (0:Int32) w0_10)) + (f6 w0_9 w0_10))), .unset, .unset, .unset, .unset]) rfl ?_
   refine XS.iload X1862.here hx rfl (D at_403) rfl ?_
   refine XS.ifNo X1862.here hx rfl (D at_405) rfl (XT.i0_eq_f (by decide)) ?_
   refine XS.iload X1862.here hx rfl (D at_408) rfl ?_
   refine XS.iconst X1862.here hx rfl (D at_410) ?_
   refine XS.icmpNo X1862.here hx rfl (D at_411) rfl (XT.ii_lt_f (by decide)) ?_
   refine XS.aload X1862.here hx rfl (D at_414) rfl rfl ?_
   exact XS.iload X1862.here hx rfl (D at_416) rfl k
  have hf1865 : own_In ((f5 w0_9 (0:Int32)) + (f5 w0_10 (0:Int32))) (own_v1837 w0_1 w0_2 w0_3 w0_4 w0_7 w0_8).length := by subst hw0_5 hw0_6 hw0_7 hw0_8 hw0_9 hw0_10; exact own_fin1864 w0_1 (own_m3 _ _ hw0_1) w0_2 (own_m3 _ _ hw0_2) w0_3 (own_m3 _ _ hw0_3) w0_4 (own_m6 _ _ hw0_4)
  have F1866 := (F1679.keep K1678)
  refine own_virtG X1862 hx hZ (y := own_y7) hown (own_h hw 42 rfl) (own_h hw 43 rfl) (own_h hw 45 rfl) (own_h hw 44 rfl) (own_h hw 46 rfl) (own_h hw 4 rfl) (by decide) (W := 0) (rm7 l Z aZ hw [] b1597 ((f5 w0_9 (0:Int32)) + (f5 w0_10 (0:Int32))) gr_1602 (own_v1837 w0_1 w0_2 w0_3 w0_4 w0_7 w0_8) T1678.heap n0 Z1834 G1826 G1838 hf1865) (by decide) (by decide) eh1862 F1866 rfl (by rw [hml]; rfl) (argsL := [(.int ((f5 w0_9 (0:Int32)) + (f5 w0_10 (0:Int32))))]) (rest := []) (lenOf own_pd4 rfl) rfl (by show 2 * 0 + _ ≤ _; exact Nat.le_of_eq rfl) (D at_418) rfl (by decide) (by decide) (fun v T1863 L1863 X1863 hQ1863 => ?_)
  obtain ⟨rfl, N1863q, eh1863⟩ := hQ1863
  have N1863 := Fr.app N1862 N1863q
  have hd423_9 : (own_v1867 w0_9 w0_10 w0_1 w0_2 w0_3 w0_4 w0_7 w0_8) = (w0_4 / (2:Int32)) := (by subst hw0_5 hw0_6 hw0_7 hw0_8 hw0_9 hw0_10; exact own_fin1868 w0_1 (own_m3 _ _ hw0_1) w0_2 (own_m3 _ _ hw0_2) w0_3 (own_m3 _ _ hw0_3) w0_4 (own_m6 _ _ hw0_4))
  refine own_pA T1863 m 448 #[.val (.int p0), .val (.int p1), .val (.int p2), .val (.int p3), .val (.int p4), .val (.int p5), .val (.ref b1586), .val (.int (3:Int32)), .val (.int w0_4), .val (.int (w0_4 / (2:Int32))), .val (.int w0_5), .val (.int w0_6), .val (.int w0_7), .val (.int w0_8), .val (.ref b1597), .val (.int (own_v1843 w0_1 w0_2 w0_3 w0_4 w0_7 w0_8)), .val (.int (own_at [w0_1, w0_2, w0_3] (w0_4 / (2:Int32)))), .val (.int (own_at [w0_1, w0_2, w0_3] w0_7)), .val (.int (own_at [w0_1, w0_2, w0_3] w0_8)), .val (.int (0:Int32)), .val (.int w0_9), .val (.int w0_10), .val (.int ((f11 w0_9 w0_10) + (1:Int32))), .val (.int (1:Int32)), .val (.int ((f5 w0_9 (0:Int32)) + (f5 w0_10 (0:Int32)))), .val (.int (((f5 (0:Int32) w0_9) + (f5 w0_10 w0_9)) + (f6 (0:Int32) w0_9))), .val (.int ((((f5 (0:Int32) w0_10) + (f5 w0_9 w0_10)) + (f6 (0:Int32) w0_10)) + (f6 w0_9 w0_10))), .unset, .unset, .unset, .unset] [(.int (((f5 (0:Int32) w0_9) + (f5 w0_10 w0_9)) + (f6 (0:Int32) w0_9))), (.ref b1597)] (fun t k => ?_) ?_
  ·refine XS.iload X1863.here hx rfl (D at_421) rfl ?_
   refine XS.icmpNo X1863.here hx rfl (D at_423) rfl (XT.ii_ne_f hd423_9) ?_
   refine XS.iconst X1863.here hx rfl (D at_426) ?_
   refine XS.goto X1863.here hx rfl (pc0 := 427) (pc' := 431) rfl (D at_427) (by decide) (by decide) ?_
   refine XS.istore X1863.here hx rfl (D at_431) rfl (l' := #[.val (.int p0), .val (.int p1), .val (.int p2), .val (.int p3), .val (.int p4), .val (.int p5), .val (.ref b1586), .val (.int (3:Int32)), .val (.int w0_4), .val (.int (w0_4 / (2:Int32))), .val (.int w0_5), .val (.int w0_6), .val (.int w0_7), .val (.int w0_8), .val (.ref b1597), .val (.int (own_v1843 w0_1 w0_2 w0_3 w0_4 w0_7 w0_8)), .val (.int (own_at [w0_1, w0_2, w0_3] (w0_4 / (2:Int32)))), .val (.int (own_at [w0_1, w0_2, w0_3] w0_7)), .val (.int (own_at [w0_1, w0_2, w0_3] w0_8)), .val (.int (0:Int32)), .val (.int w0_9), .val (.int w0_10), .val (.int ((f11 w0_9 w0_10) + (1:Int32))), .val (.int (1:Int32)), .val (.int ((f5 w0_9 (0:Int32)) + (f5 w0_10 (0:Int32)))), .val (.int (((f5 (0:Int32) w0_9) + (f5 w0_10 w0_9)) + (f6 (0:Int32) w0_9))), .val (.int ((((f5 (0:Int32) w0_10) + (f5 w0_9 w0_10)) + (f6 (0:Int32) w0_10)) + (f6 w0_9 w0_10))), .unset, .unset, .unset, .unset]) rfl ?_
   refine XS.iload X1863.here hx rfl (D at_433) rfl ?_
   refine XS.ifNo X1863.here hx rfl (D at_435) rfl (XT.i0_eq_f (by decide)) ?_
   refine XS.iload X1863.here hx rfl (D at_438) rfl ?_
   refine XS.iconst X1863.here hx rfl (D at_440) ?_
   refine XS.icmpNo X1863.here hx rfl (D at_441) rfl (XT.ii_lt_f (by decide)) ?_
   refine XS.aload X1863.here hx rfl (D at_444) rfl rfl ?_
   exact XS.iload X1863.here hx rfl (D at_446) rfl k
  have hf1871 : own_In (((f5 (0:Int32) w0_9) + (f5 w0_10 w0_9)) + (f6 (0:Int32) w0_9)) (own_v1837 w0_1 w0_2 w0_3 w0_4 w0_7 w0_8).length := by subst hw0_5 hw0_6 hw0_7 hw0_8 hw0_9 hw0_10; exact own_fin1870 w0_1 (own_m3 _ _ hw0_1) w0_2 (own_m3 _ _ hw0_2) w0_3 (own_m3 _ _ hw0_3) w0_4 (own_m6 _ _ hw0_4)
  refine own_virtG X1863 hx hZ (y := own_y7) hown (own_h hw 42 rfl) (own_h hw 43 rfl) (own_h hw 45 rfl) (own_h hw 44 rfl) (own_h hw 46 rfl) (own_h hw 4 rfl) (by decide) (W := 0) (rm7 l Z aZ hw [] b1597 (((f5 (0:Int32) w0_9) + (f5 w0_10 w0_9)) + (f6 (0:Int32) w0_9)) gr_1602 (own_v1837 w0_1 w0_2 w0_3 w0_4 w0_7 w0_8) T1678.heap n0 Z1834 G1826 G1838 hf1871) (by decide) (by decide) eh1863 F1866 rfl (by rw [hml]; rfl) (argsL := [(.int (((f5 (0:Int32) w0_9) + (f5 w0_10 w0_9)) + (f6 (0:Int32) w0_9)))]) (rest := []) (lenOf own_pd4 rfl) rfl (by show 2 * 0 + _ ≤ _; exact Nat.le_of_eq rfl) (D at_448) rfl (by decide) (by decide) (fun v T1869 L1869 X1869 hQ1869 => ?_)
  obtain ⟨rfl, N1869q, eh1869⟩ := hQ1869
  have N1869 := Fr.app N1863 N1869q
  have hd453_10 : (own_v1872 w0_9 w0_10 w0_1 w0_2 w0_3 w0_4 w0_7 w0_8) = w0_7 := (by subst hw0_5 hw0_6 hw0_7 hw0_8 hw0_9 hw0_10; exact own_fin1873 w0_1 (own_m3 _ _ hw0_1) w0_2 (own_m3 _ _ hw0_2) w0_3 (own_m3 _ _ hw0_3) w0_4 (own_m6 _ _ hw0_4))
  refine own_pA T1869 m 478 #[.val (.int p0), .val (.int p1), .val (.int p2), .val (.int p3), .val (.int p4), .val (.int p5), .val (.ref b1586), .val (.int (3:Int32)), .val (.int w0_4), .val (.int (w0_4 / (2:Int32))), .val (.int w0_5), .val (.int w0_6), .val (.int w0_7), .val (.int w0_8), .val (.ref b1597), .val (.int (own_v1843 w0_1 w0_2 w0_3 w0_4 w0_7 w0_8)), .val (.int (own_at [w0_1, w0_2, w0_3] (w0_4 / (2:Int32)))), .val (.int (own_at [w0_1, w0_2, w0_3] w0_7)), .val (.int (own_at [w0_1, w0_2, w0_3] w0_8)), .val (.int (0:Int32)), .val (.int w0_9), .val (.int w0_10), .val (.int ((f11 w0_9 w0_10) + (1:Int32))), .val (.int (1:Int32)), .val (.int ((f5 w0_9 (0:Int32)) + (f5 w0_10 (0:Int32)))), .val (.int (((f5 (0:Int32) w0_9) + (f5 w0_10 w0_9)) + (f6 (0:Int32) w0_9))), .val (.int ((((f5 (0:Int32) w0_10) + (f5 w0_9 w0_10)) + (f6 (0:Int32) w0_10)) + (f6 w0_9 w0_10))), .unset, .unset, .unset, .unset] [(.int ((((f5 (0:Int32) w0_10) + (f5 w0_9 w0_10)) + (f6 (0:Int32) w0_10)) + (f6 w0_9 w0_10))), (.ref b1597)] (fun t k => ?_) ?_
  ·refine XS.iload X1869.here hx rfl (D at_451) rfl ?_
   refine XS.icmpNo X1869.here hx rfl (D at_453) rfl (XT.ii_ne_f hd453_10) ?_
   refine XS.iconst X1869.here hx rfl (D at_456) ?_
   refine XS.goto X1869.here hx rfl (pc0 := 457) (pc' := 461) rfl (D at_457) (by decide) (by decide) ?_
   refine XS.istore X1869.here hx rfl (D at_461) rfl (l' := #[.val (.int p0), .val (.int p1), .val (.int p2), .val (.int p3), .val (.int p4), .val (.int p5), .val (.ref b1586), .val (.int (3:Int32)), .val (.int w0_4), .val (.int (w0_4 / (2:Int32))), .val (.int w0_5), .val (.int w0_6), .val (.int w0_7), .val (.int w0_8), .val (.ref b1597), .val (.int (own_v1843 w0_1 w0_2 w0_3 w0_4 w0_7 w0_8)), .val (.int (own_at [w0_1, w0_2, w0_3] (w0_4 / (2:Int32)))), .val (.int (own_at [w0_1, w0_2, w0_3] w0_7)), .val (.int (own_at [w0_1, w0_2, w0_3] w0_8)), .val (.int (0:Int32)), .val (.int w0_9), .val (.int w0_10), .val (.int ((f11 w0_9 w0_10) + (1:Int32))), .val (.int (1:Int32)), .val (.int ((f5 w0_9 (0:Int32)) + (f5 w0_10 (0:Int32)))), .val (.int (((f5 (0:Int32) w0_9) + (f5 w0_10 w0_9)) + (f6 (0:Int32) w0_9))), .val (.int ((((f5 (0:Int32) w0_10) + (f5 w0_9 w0_10)) + (f6 (0:Int32) w0_10)) + (f6 w0_9 w0_10))), .unset, .unset, .unset, .unset]) rfl ?_
   refine XS.iload X1869.here hx rfl (D at_463) rfl ?_
   refine XS.ifNo X1869.here hx rfl (D at_465) rfl (XT.i0_eq_f (by decide)) ?_
   refine XS.iload X1869.here hx rfl (D at_468) rfl ?_
   refine XS.iconst X1869.here hx rfl (D at_470) ?_
   refine XS.icmpNo X1869.here hx rfl (D at_471) rfl (XT.ii_lt_f (by decide)) ?_
   refine XS.aload X1869.here hx rfl (D at_474) rfl rfl ?_
   exact XS.iload X1869.here hx rfl (D at_476) rfl k
  have hf1876 : own_In ((((f5 (0:Int32) w0_10) + (f5 w0_9 w0_10)) + (f6 (0:Int32) w0_10)) + (f6 w0_9 w0_10)) (own_v1837 w0_1 w0_2 w0_3 w0_4 w0_7 w0_8).length := by subst hw0_5 hw0_6 hw0_7 hw0_8 hw0_9 hw0_10; exact own_fin1875 w0_1 (own_m3 _ _ hw0_1) w0_2 (own_m3 _ _ hw0_2) w0_3 (own_m3 _ _ hw0_3) w0_4 (own_m6 _ _ hw0_4)
  refine own_virtG X1869 hx hZ (y := own_y7) hown (own_h hw 42 rfl) (own_h hw 43 rfl) (own_h hw 45 rfl) (own_h hw 44 rfl) (own_h hw 46 rfl) (own_h hw 4 rfl) (by decide) (W := 0) (rm7 l Z aZ hw [] b1597 ((((f5 (0:Int32) w0_10) + (f5 w0_9 w0_10)) + (f6 (0:Int32) w0_10)) + (f6 w0_9 w0_10)) gr_1602 (own_v1837 w0_1 w0_2 w0_3 w0_4 w0_7 w0_8) T1678.heap n0 Z1834 G1826 G1838 hf1876) (by decide) (by decide) eh1869 F1866 rfl (by rw [hml]; rfl) (argsL := [(.int ((((f5 (0:Int32) w0_10) + (f5 w0_9 w0_10)) + (f6 (0:Int32) w0_10)) + (f6 w0_9 w0_10)))]) (rest := []) (lenOf own_pd4 rfl) rfl (by show 2 * 0 + _ ≤ _; exact Nat.le_of_eq rfl) (D at_478) rfl (by decide) (by decide) (fun v T1874 L1874 X1874 hQ1874 => ?_)
  obtain ⟨rfl, N1874q, eh1874⟩ := hQ1874
  have N1874 := Fr.app N1869 N1874q
  have hd483_11 : (own_v1877 w0_10 w0_9 w0_1 w0_2 w0_3 w0_4 w0_7 w0_8) = w0_8 := (by subst hw0_5 hw0_6 hw0_7 hw0_8 hw0_9 hw0_10; exact own_fin1878 w0_1 (own_m3 _ _ hw0_1) w0_2 (own_m3 _ _ hw0_2) w0_3 (own_m3 _ _ hw0_3) w0_4 (own_m6 _ _ hw0_4))
  have hd500_12 : (0:Int32) < ((f11 w0_9 w0_10) + (1:Int32)) := (by subst hw0_5 hw0_6 hw0_7 hw0_8 hw0_9 hw0_10; exact own_fin1879 w0_1 (own_m3 _ _ hw0_1) w0_2 (own_m3 _ _ hw0_2) w0_3 (own_m3 _ _ hw0_3) w0_4 (own_m6 _ _ hw0_4))
  obtain ⟨w0_11, hw0_11⟩ : ∃ z : Int32, z = ((p5 &&& (2147483647:Int32)) % ((f11 w0_9 w0_10) + (1:Int32))) := ⟨_, rfl⟩
  have hkm : w0_11 ∈ own_L3 ∧ w0_11 < ((f11 w0_9 w0_10) + (1:Int32)) := own_mk (by subst hw0_5 hw0_6 hw0_7 hw0_8 hw0_9 hw0_10; exact own_fin1881 w0_1 (own_m3 _ _ hw0_1) w0_2 (own_m3 _ _ hw0_2) w0_3 (own_m3 _ _ hw0_3) w0_4 (own_m6 _ _ hw0_4)) hw0_11
  refine own_pA T1874 m 515 #[.val (.int p0), .val (.int p1), .val (.int p2), .val (.int p3), .val (.int p4), .val (.int p5), .val (.ref b1586), .val (.int (3:Int32)), .val (.int w0_4), .val (.int (w0_4 / (2:Int32))), .val (.int w0_5), .val (.int w0_6), .val (.int w0_7), .val (.int w0_8), .val (.ref b1597), .val (.int (own_v1843 w0_1 w0_2 w0_3 w0_4 w0_7 w0_8)), .val (.int (own_at [w0_1, w0_2, w0_3] (w0_4 / (2:Int32)))), .val (.int (own_at [w0_1, w0_2, w0_3] w0_7)), .val (.int (own_at [w0_1, w0_2, w0_3] w0_8)), .val (.int (0:Int32)), .val (.int w0_9), .val (.int w0_10), .val (.int ((f11 w0_9 w0_10) + (1:Int32))), .val (.int (1:Int32)), .val (.int ((f5 w0_9 (0:Int32)) + (f5 w0_10 (0:Int32)))), .val (.int (((f5 (0:Int32) w0_9) + (f5 w0_10 w0_9)) + (f6 (0:Int32) w0_9))), .val (.int ((((f5 (0:Int32) w0_10) + (f5 w0_9 w0_10)) + (f6 (0:Int32) w0_10)) + (f6 w0_9 w0_10))), .val (.int w0_11), .unset, .unset, .unset] [(.int w0_11)] (fun t k => ?_) ?_
  ·refine XS.iload X1874.here hx rfl (D at_481) rfl ?_
   refine XS.icmpNo X1874.here hx rfl (D at_483) rfl (XT.ii_ne_f hd483_11) ?_
   refine XS.iconst X1874.here hx rfl (D at_486) ?_
   refine XS.goto X1874.here hx rfl (pc0 := 487) (pc' := 491) rfl (D at_487) (by decide) (by decide) ?_
   refine XS.istore X1874.here hx rfl (D at_491) rfl (l' := #[.val (.int p0), .val (.int p1), .val (.int p2), .val (.int p3), .val (.int p4), .val (.int p5), .val (.ref b1586), .val (.int (3:Int32)), .val (.int w0_4), .val (.int (w0_4 / (2:Int32))), .val (.int w0_5), .val (.int w0_6), .val (.int w0_7), .val (.int w0_8), .val (.ref b1597), .val (.int (own_v1843 w0_1 w0_2 w0_3 w0_4 w0_7 w0_8)), .val (.int (own_at [w0_1, w0_2, w0_3] (w0_4 / (2:Int32)))), .val (.int (own_at [w0_1, w0_2, w0_3] w0_7)), .val (.int (own_at [w0_1, w0_2, w0_3] w0_8)), .val (.int (0:Int32)), .val (.int w0_9), .val (.int w0_10), .val (.int ((f11 w0_9 w0_10) + (1:Int32))), .val (.int (1:Int32)), .val (.int ((f5 w0_9 (0:Int32)) + (f5 w0_10 (0:Int32)))), .val (.int (((f5 (0:Int32) w0_9) + (f5 w0_10 w0_9)) + (f6 (0:Int32) w0_9))), .val (.int ((((f5 (0:Int32) w0_10) + (f5 w0_9 w0_10)) + (f6 (0:Int32) w0_10)) + (f6 w0_9 w0_10))), .unset, .unset, .unset, .unset]) rfl ?_
   refine XS.iload X1874.here hx rfl (D at_493) rfl ?_
   refine XS.ifNo X1874.here hx rfl (D at_495) rfl (XT.i0_eq_f (by decide)) ?_
   refine XS.iload X1874.here hx rfl (D at_498) rfl ?_
   refine XS.ifNo X1874.here hx rfl (D at_500) rfl (XT.i0_le_f hd500_12) ?_
   refine XS.iload X1874.here hx rfl (D at_503) rfl ?_
   refine Jvm.Stand.ldcI X1874 hx hown (mvT hZ (own_h hw 1 rfl)) rfl (D at_505) ?_
   refine XS.iand X1874.here hx rfl (D at_507) rfl ?_
   refine XS.iload X1874.here hx rfl (D at_508) rfl ?_
   refine iremM X1874 hx rfl (D at_510) rfl (by subst hw0_5 hw0_6 hw0_7 hw0_8 hw0_9 hw0_10; exact own_fin1880 w0_1 (own_m3 _ _ hw0_1) w0_2 (own_m3 _ _ hw0_2) w0_3 (own_m3 _ _ hw0_3) w0_4 (own_m6 _ _ hw0_4)) ?_
   refine XS.istore X1874.here hx rfl (D at_511) rfl (l' := #[.val (.int p0), .val (.int p1), .val (.int p2), .val (.int p3), .val (.int p4), .val (.int p5), .val (.ref b1586), .val (.int (3:Int32)), .val (.int w0_4), .val (.int (w0_4 / (2:Int32))), .val (.int w0_5), .val (.int w0_6), .val (.int w0_7), .val (.int w0_8), .val (.ref b1597), .val (.int (own_v1843 w0_1 w0_2 w0_3 w0_4 w0_7 w0_8)), .val (.int (own_at [w0_1, w0_2, w0_3] (w0_4 / (2:Int32)))), .val (.int (own_at [w0_1, w0_2, w0_3] w0_7)), .val (.int (own_at [w0_1, w0_2, w0_3] w0_8)), .val (.int (0:Int32)), .val (.int w0_9), .val (.int w0_10), .val (.int ((f11 w0_9 w0_10) + (1:Int32))), .val (.int (1:Int32)), .val (.int ((f5 w0_9 (0:Int32)) + (f5 w0_10 (0:Int32)))), .val (.int (((f5 (0:Int32) w0_9) + (f5 w0_10 w0_9)) + (f6 (0:Int32) w0_9))), .val (.int ((((f5 (0:Int32) w0_10) + (f5 w0_9 w0_10)) + (f6 (0:Int32) w0_10)) + (f6 w0_9 w0_10))), .val (.int w0_11), .unset, .unset, .unset]) (by rw [hw0_11]; rfl) ?_
   exact XS.iload X1874.here hx rfl (D at_513) rfl k
  obtain ⟨w0_12, hw0_12⟩ : ∃ z : Int32, z = (if w0_11 = (0:Int32) then (own_at [w0_1, w0_2, w0_3] (w0_4 / (2:Int32))) else (if w0_11 = (1:Int32) then (if w0_9 = (1:Int32) then (own_at [w0_1, w0_2, w0_3] w0_7) else (own_at [w0_1, w0_2, w0_3] w0_8)) else (own_at [w0_1, w0_2, w0_3] w0_8))) := ⟨_, rfl⟩
  refine own_pre (A := T1874.setTop (mkF m 547 #[.val (.int p0), .val (.int p1), .val (.int p2), .val (.int p3), .val (.int p4), .val (.int p5), .val (.ref b1586), .val (.int (3:Int32)), .val (.int w0_4), .val (.int (w0_4 / (2:Int32))), .val (.int w0_5), .val (.int w0_6), .val (.int w0_7), .val (.int w0_8), .val (.ref b1597), .val (.int (own_v1843 w0_1 w0_2 w0_3 w0_4 w0_7 w0_8)), .val (.int (own_at [w0_1, w0_2, w0_3] (w0_4 / (2:Int32)))), .val (.int (own_at [w0_1, w0_2, w0_3] w0_7)), .val (.int (own_at [w0_1, w0_2, w0_3] w0_8)), .val (.int (0:Int32)), .val (.int w0_9), .val (.int w0_10), .val (.int ((f11 w0_9 w0_10) + (1:Int32))), .val (.int (1:Int32)), .val (.int ((f5 w0_9 (0:Int32)) + (f5 w0_10 (0:Int32)))), .val (.int (((f5 (0:Int32) w0_9) + (f5 w0_10 w0_9)) + (f6 (0:Int32) w0_9))), .val (.int ((((f5 (0:Int32) w0_10) + (f5 w0_9 w0_10)) + (f6 (0:Int32) w0_10)) + (f6 w0_9 w0_10))), .val (.int w0_11), .unset, .unset, .unset] [(.int w0_12)])) (fun t k => ?_) ?_
  ·by_cases hm515_13 : w0_11 = (0:Int32)
   ·refine XS.ifNo X1874.here hx rfl (D at_515) rfl (XT.i0_ne_f hm515_13) ?_
    refine XS.iload X1874.here hx rfl (D at_518) rfl ?_
    refine XS.goto X1874.here hx rfl (pc0 := 520) (pc' := 547) rfl (D at_520) (by decide) (by decide) ?_
    rw [hw0_12.trans (if_pos hm515_13)] at k
    exact k
   ·refine XS.ifYes X1874.here hx rfl (pc0 := 515) (pc' := 523) rfl (D at_515) rfl (XT.i0_ne_t hm515_13) (by decide) (by decide) ?_
    refine XS.iload X1874.here hx rfl (D at_523) rfl ?_
    refine XS.iconst X1874.here hx rfl (D at_525) ?_
    by_cases hm526_14 : w0_11 = (1:Int32)
    ·refine XS.icmpNo X1874.here hx rfl (D at_526) rfl (XT.ii_ne_f hm526_14) ?_
     refine XS.iload X1874.here hx rfl (D at_529) rfl ?_
     refine XS.iconst X1874.here hx rfl (D at_531) ?_
     by_cases hm532_15 : w0_9 = (1:Int32)
     ·refine XS.icmpNo X1874.here hx rfl (D at_532) rfl (XT.ii_ne_f hm532_15) ?_
      refine XS.iload X1874.here hx rfl (D at_535) rfl ?_
      refine XS.goto X1874.here hx rfl (pc0 := 537) (pc' := 547) rfl (D at_537) (by decide) (by decide) ?_
      rw [hw0_12.trans (((if_neg hm515_13).trans (if_pos hm526_14)).trans (if_pos hm532_15))] at k
      exact k
     ·refine XS.icmpYes X1874.here hx rfl (pc0 := 532) (pc' := 540) rfl (D at_532) rfl (XT.ii_ne_t hm532_15) (by decide) (by decide) ?_
      refine XS.iload X1874.here hx rfl (D at_540) rfl ?_
      refine XS.goto X1874.here hx rfl (pc0 := 542) (pc' := 547) rfl (D at_542) (by decide) (by decide) ?_
      rw [hw0_12.trans (((if_neg hm515_13).trans (if_pos hm526_14)).trans (if_neg hm532_15))] at k
      exact k
    ·refine XS.icmpYes X1874.here hx rfl (pc0 := 526) (pc' := 545) rfl (D at_526) rfl (XT.ii_ne_t hm526_14) (by decide) (by decide) ?_
     refine XS.iload X1874.here hx rfl (D at_545) rfl ?_
     rw [hw0_12.trans ((if_neg hm515_13).trans (if_neg hm526_14))] at k
     exact k
  refine own_pA T1874 m 553 #[.val (.int p0), .val (.int p1), .val (.int p2), .val (.int p3), .val (.int p4), .val (.int p5), .val (.ref b1586), .val (.int (3:Int32)), .val (.int w0_4), .val (.int (w0_4 / (2:Int32))), .val (.int w0_5), .val (.int w0_6), .val (.int w0_7), .val (.int w0_8), .val (.ref b1597), .val (.int (own_v1843 w0_1 w0_2 w0_3 w0_4 w0_7 w0_8)), .val (.int (own_at [w0_1, w0_2, w0_3] (w0_4 / (2:Int32)))), .val (.int (own_at [w0_1, w0_2, w0_3] w0_7)), .val (.int (own_at [w0_1, w0_2, w0_3] w0_8)), .val (.int (0:Int32)), .val (.int w0_9), .val (.int w0_10), .val (.int ((f11 w0_9 w0_10) + (1:Int32))), .val (.int (1:Int32)), .val (.int ((f5 w0_9 (0:Int32)) + (f5 w0_10 (0:Int32)))), .val (.int (((f5 (0:Int32) w0_9) + (f5 w0_10 w0_9)) + (f6 (0:Int32) w0_9))), .val (.int ((((f5 (0:Int32) w0_10) + (f5 w0_9 w0_10)) + (f6 (0:Int32) w0_10)) + (f6 w0_9 w0_10))), .val (.int w0_11), .val (.int w0_12), .unset, .unset] [(.int w0_11), (.int (0:Int32))] (fun t k => ?_) ?_
  ·refine XS.istore X1874.here hx rfl (D at_547) rfl (l' := #[.val (.int p0), .val (.int p1), .val (.int p2), .val (.int p3), .val (.int p4), .val (.int p5), .val (.ref b1586), .val (.int (3:Int32)), .val (.int w0_4), .val (.int (w0_4 / (2:Int32))), .val (.int w0_5), .val (.int w0_6), .val (.int w0_7), .val (.int w0_8), .val (.ref b1597), .val (.int (own_v1843 w0_1 w0_2 w0_3 w0_4 w0_7 w0_8)), .val (.int (own_at [w0_1, w0_2, w0_3] (w0_4 / (2:Int32)))), .val (.int (own_at [w0_1, w0_2, w0_3] w0_7)), .val (.int (own_at [w0_1, w0_2, w0_3] w0_8)), .val (.int (0:Int32)), .val (.int w0_9), .val (.int w0_10), .val (.int ((f11 w0_9 w0_10) + (1:Int32))), .val (.int (1:Int32)), .val (.int ((f5 w0_9 (0:Int32)) + (f5 w0_10 (0:Int32)))), .val (.int (((f5 (0:Int32) w0_9) + (f5 w0_10 w0_9)) + (f6 (0:Int32) w0_9))), .val (.int ((((f5 (0:Int32) w0_10) + (f5 w0_9 w0_10)) + (f6 (0:Int32) w0_10)) + (f6 w0_9 w0_10))), .val (.int w0_11), .val (.int w0_12), .unset, .unset]) rfl ?_
   refine XS.iload X1874.here hx rfl (D at_549) rfl ?_
   exact XS.iload X1874.here hx rfl (D at_551) rfl k
  refine own_callSG X1874 hx hZ (y := own_y5) hown (own_h hw 35 rfl) (own_h hw 36 rfl) (own_h hw 37 rfl) (own_h hw 38 rfl) (by decide) (W := 0) (rm5 l Z aZ hw [] (0:Int32) w0_11 T1678.heap n0 Z1834 ) (by decide) (by decide) rfl (by rw [hml]; rfl) (argsL := [(.int (0:Int32)), (.int w0_11)]) (rest := []) (lenOf own_pd2 rfl) rfl (by show 2 * 0 + _ ≤ _; exact Nat.le_of_eq rfl) (D at_553) rfl eh1874 (by decide) (by decide) (fun v T1882 L1882 X1882 hQ1882 => ?_)
  obtain ⟨rfl, N1882q, eh1882⟩ := hQ1882
  have N1882 := Fr.app N1874 N1882q
  refine own_pA T1882 m 560 #[.val (.int p0), .val (.int p1), .val (.int p2), .val (.int p3), .val (.int p4), .val (.int p5), .val (.ref b1586), .val (.int (3:Int32)), .val (.int w0_4), .val (.int (w0_4 / (2:Int32))), .val (.int w0_5), .val (.int w0_6), .val (.int w0_7), .val (.int w0_8), .val (.ref b1597), .val (.int (own_v1843 w0_1 w0_2 w0_3 w0_4 w0_7 w0_8)), .val (.int (own_at [w0_1, w0_2, w0_3] (w0_4 / (2:Int32)))), .val (.int (own_at [w0_1, w0_2, w0_3] w0_7)), .val (.int (own_at [w0_1, w0_2, w0_3] w0_8)), .val (.int (0:Int32)), .val (.int w0_9), .val (.int w0_10), .val (.int ((f11 w0_9 w0_10) + (1:Int32))), .val (.int (1:Int32)), .val (.int ((f5 w0_9 (0:Int32)) + (f5 w0_10 (0:Int32)))), .val (.int (((f5 (0:Int32) w0_9) + (f5 w0_10 w0_9)) + (f6 (0:Int32) w0_9))), .val (.int ((((f5 (0:Int32) w0_10) + (f5 w0_9 w0_10)) + (f6 (0:Int32) w0_10)) + (f6 w0_9 w0_10))), .val (.int w0_11), .val (.int w0_12), .unset, .unset] [(.int w0_11), (.int w0_9), (.int (f5 (0:Int32) w0_11))] (fun t k => ?_) ?_
  ·refine XS.iload X1882.here hx rfl (D at_556) rfl ?_
   exact XS.iload X1882.here hx rfl (D at_558) rfl k
  refine own_callSG X1882 hx hZ (y := own_y5) hown (own_h hw 35 rfl) (own_h hw 36 rfl) (own_h hw 37 rfl) (own_h hw 38 rfl) (by decide) (W := 1) (rm5 l Z aZ hw [] w0_9 w0_11 T1678.heap n0 Z1834 ) (by decide) (by decide) rfl (by rw [hml]; rfl) (argsL := [(.int w0_9), (.int w0_11)]) (rest := [(.int (f5 (0:Int32) w0_11))]) (lenOf own_pd2 rfl) rfl (by show 2 * 0 + _ ≤ _; exact Nat.le_of_eq rfl) (D at_560) rfl eh1882 (by decide) (by decide) (fun v T1884 L1884 X1884 hQ1884 => ?_)
  obtain ⟨rfl, N1884q, eh1884⟩ := hQ1884
  have N1884 := Fr.app N1882 N1884q
  refine own_pA T1884 m 568 #[.val (.int p0), .val (.int p1), .val (.int p2), .val (.int p3), .val (.int p4), .val (.int p5), .val (.ref b1586), .val (.int (3:Int32)), .val (.int w0_4), .val (.int (w0_4 / (2:Int32))), .val (.int w0_5), .val (.int w0_6), .val (.int w0_7), .val (.int w0_8), .val (.ref b1597), .val (.int (own_v1843 w0_1 w0_2 w0_3 w0_4 w0_7 w0_8)), .val (.int (own_at [w0_1, w0_2, w0_3] (w0_4 / (2:Int32)))), .val (.int (own_at [w0_1, w0_2, w0_3] w0_7)), .val (.int (own_at [w0_1, w0_2, w0_3] w0_8)), .val (.int (0:Int32)), .val (.int w0_9), .val (.int w0_10), .val (.int ((f11 w0_9 w0_10) + (1:Int32))), .val (.int (1:Int32)), .val (.int ((f5 w0_9 (0:Int32)) + (f5 w0_10 (0:Int32)))), .val (.int (((f5 (0:Int32) w0_9) + (f5 w0_10 w0_9)) + (f6 (0:Int32) w0_9))), .val (.int ((((f5 (0:Int32) w0_10) + (f5 w0_9 w0_10)) + (f6 (0:Int32) w0_10)) + (f6 w0_9 w0_10))), .val (.int w0_11), .val (.int w0_12), .unset, .unset] [(.int w0_11), (.int w0_10), (.int ((f5 (0:Int32) w0_11) + (f5 w0_9 w0_11)))] (fun t k => ?_) ?_
  ·refine XS.iadd X1884.here hx rfl (D at_563) rfl ?_
   refine XS.iload X1884.here hx rfl (D at_564) rfl ?_
   exact XS.iload X1884.here hx rfl (D at_566) rfl k
  refine own_callSG X1884 hx hZ (y := own_y5) hown (own_h hw 35 rfl) (own_h hw 36 rfl) (own_h hw 37 rfl) (own_h hw 38 rfl) (by decide) (W := 1) (rm5 l Z aZ hw [] w0_10 w0_11 T1678.heap n0 Z1834 ) (by decide) (by decide) rfl (by rw [hml]; rfl) (argsL := [(.int w0_10), (.int w0_11)]) (rest := [(.int ((f5 (0:Int32) w0_11) + (f5 w0_9 w0_11)))]) (lenOf own_pd2 rfl) rfl (by show 2 * 0 + _ ≤ _; exact Nat.le_of_eq rfl) (D at_568) rfl eh1884 (by decide) (by decide) (fun v T1885 L1885 X1885 hQ1885 => ?_)
  obtain ⟨rfl, N1885q, eh1885⟩ := hQ1885
  have N1885 := Fr.app N1884 N1885q
  refine own_pA T1885 m 580 #[.val (.int p0), .val (.int p1), .val (.int p2), .val (.int p3), .val (.int p4), .val (.int p5), .val (.ref b1586), .val (.int (3:Int32)), .val (.int w0_4), .val (.int (w0_4 / (2:Int32))), .val (.int w0_5), .val (.int w0_6), .val (.int w0_7), .val (.int w0_8), .val (.ref b1597), .val (.int (own_v1843 w0_1 w0_2 w0_3 w0_4 w0_7 w0_8)), .val (.int (own_at [w0_1, w0_2, w0_3] (w0_4 / (2:Int32)))), .val (.int (own_at [w0_1, w0_2, w0_3] w0_7)), .val (.int (own_at [w0_1, w0_2, w0_3] w0_8)), .val (.int (0:Int32)), .val (.int w0_9), .val (.int w0_10), .val (.int ((f11 w0_9 w0_10) + (1:Int32))), .val (.int (1:Int32)), .val (.int ((f5 w0_9 (0:Int32)) + (f5 w0_10 (0:Int32)))), .val (.int (((f5 (0:Int32) w0_9) + (f5 w0_10 w0_9)) + (f6 (0:Int32) w0_9))), .val (.int ((((f5 (0:Int32) w0_10) + (f5 w0_9 w0_10)) + (f6 (0:Int32) w0_10)) + (f6 w0_9 w0_10))), .val (.int w0_11), .val (.int w0_12), .val (.int (((f5 (0:Int32) w0_11) + (f5 w0_9 w0_11)) + (f5 w0_10 w0_11))), .unset] [(.int (w0_11 + (1:Int32))), (.int (0:Int32))] (fun t k => ?_) ?_
  ·refine XS.iadd X1885.here hx rfl (D at_571) rfl ?_
   refine XS.istore X1885.here hx rfl (D at_572) rfl (l' := #[.val (.int p0), .val (.int p1), .val (.int p2), .val (.int p3), .val (.int p4), .val (.int p5), .val (.ref b1586), .val (.int (3:Int32)), .val (.int w0_4), .val (.int (w0_4 / (2:Int32))), .val (.int w0_5), .val (.int w0_6), .val (.int w0_7), .val (.int w0_8), .val (.ref b1597), .val (.int (own_v1843 w0_1 w0_2 w0_3 w0_4 w0_7 w0_8)), .val (.int (own_at [w0_1, w0_2, w0_3] (w0_4 / (2:Int32)))), .val (.int (own_at [w0_1, w0_2, w0_3] w0_7)), .val (.int (own_at [w0_1, w0_2, w0_3] w0_8)), .val (.int (0:Int32)), .val (.int w0_9), .val (.int w0_10), .val (.int ((f11 w0_9 w0_10) + (1:Int32))), .val (.int (1:Int32)), .val (.int ((f5 w0_9 (0:Int32)) + (f5 w0_10 (0:Int32)))), .val (.int (((f5 (0:Int32) w0_9) + (f5 w0_10 w0_9)) + (f6 (0:Int32) w0_9))), .val (.int ((((f5 (0:Int32) w0_10) + (f5 w0_9 w0_10)) + (f6 (0:Int32) w0_10)) + (f6 w0_9 w0_10))), .val (.int w0_11), .val (.int w0_12), .val (.int (((f5 (0:Int32) w0_11) + (f5 w0_9 w0_11)) + (f5 w0_10 w0_11))), .unset]) rfl ?_
   refine XS.iload X1885.here hx rfl (D at_574) rfl ?_
   refine XS.iload X1885.here hx rfl (D at_576) rfl ?_
   refine XS.iconst X1885.here hx rfl (D at_578) ?_
   exact XS.iadd X1885.here hx rfl (D at_579) rfl k
  refine own_callSG X1885 hx hZ (y := own_y5) hown (own_h hw 35 rfl) (own_h hw 36 rfl) (own_h hw 37 rfl) (own_h hw 38 rfl) (by decide) (W := 0) (rm5 l Z aZ hw [] (0:Int32) (w0_11 + (1:Int32)) T1678.heap n0 Z1834 ) (by decide) (by decide) rfl (by rw [hml]; rfl) (argsL := [(.int (0:Int32)), (.int (w0_11 + (1:Int32)))]) (rest := []) (lenOf own_pd2 rfl) rfl (by show 2 * 0 + _ ≤ _; exact Nat.le_of_eq rfl) (D at_580) rfl eh1885 (by decide) (by decide) (fun v T1886 L1886 X1886 hQ1886 => ?_)
  obtain ⟨rfl, N1886q, eh1886⟩ := hQ1886
  have N1886 := Fr.app N1885 N1886q
  refine own_pA T1886 m 589 #[.val (.int p0), .val (.int p1), .val (.int p2), .val (.int p3), .val (.int p4), .val (.int p5), .val (.ref b1586), .val (.int (3:Int32)), .val (.int w0_4), .val (.int (w0_4 / (2:Int32))), .val (.int w0_5), .val (.int w0_6), .val (.int w0_7), .val (.int w0_8), .val (.ref b1597), .val (.int (own_v1843 w0_1 w0_2 w0_3 w0_4 w0_7 w0_8)), .val (.int (own_at [w0_1, w0_2, w0_3] (w0_4 / (2:Int32)))), .val (.int (own_at [w0_1, w0_2, w0_3] w0_7)), .val (.int (own_at [w0_1, w0_2, w0_3] w0_8)), .val (.int (0:Int32)), .val (.int w0_9), .val (.int w0_10), .val (.int ((f11 w0_9 w0_10) + (1:Int32))), .val (.int (1:Int32)), .val (.int ((f5 w0_9 (0:Int32)) + (f5 w0_10 (0:Int32)))), .val (.int (((f5 (0:Int32) w0_9) + (f5 w0_10 w0_9)) + (f6 (0:Int32) w0_9))), .val (.int ((((f5 (0:Int32) w0_10) + (f5 w0_9 w0_10)) + (f6 (0:Int32) w0_10)) + (f6 w0_9 w0_10))), .val (.int w0_11), .val (.int w0_12), .val (.int (((f5 (0:Int32) w0_11) + (f5 w0_9 w0_11)) + (f5 w0_10 w0_11))), .unset] [(.int (w0_11 + (1:Int32))), (.int w0_9), (.int (f5 (0:Int32) (w0_11 + (1:Int32))))] (fun t k => ?_) ?_
  ·refine XS.iload X1886.here hx rfl (D at_583) rfl ?_
   refine XS.iload X1886.here hx rfl (D at_585) rfl ?_
   refine XS.iconst X1886.here hx rfl (D at_587) ?_
   exact XS.iadd X1886.here hx rfl (D at_588) rfl k
  refine own_callSG X1886 hx hZ (y := own_y5) hown (own_h hw 35 rfl) (own_h hw 36 rfl) (own_h hw 37 rfl) (own_h hw 38 rfl) (by decide) (W := 1) (rm5 l Z aZ hw [] w0_9 (w0_11 + (1:Int32)) T1678.heap n0 Z1834 ) (by decide) (by decide) rfl (by rw [hml]; rfl) (argsL := [(.int w0_9), (.int (w0_11 + (1:Int32)))]) (rest := [(.int (f5 (0:Int32) (w0_11 + (1:Int32))))]) (lenOf own_pd2 rfl) rfl (by show 2 * 0 + _ ≤ _; exact Nat.le_of_eq rfl) (D at_589) rfl eh1886 (by decide) (by decide) (fun v T1887 L1887 X1887 hQ1887 => ?_)
  obtain ⟨rfl, N1887q, eh1887⟩ := hQ1887
  have N1887 := Fr.app N1886 N1887q
  refine own_pA T1887 m 599 #[.val (.int p0), .val (.int p1), .val (.int p2), .val (.int p3), .val (.int p4), .val (.int p5), .val (.ref b1586), .val (.int (3:Int32)), .val (.int w0_4), .val (.int (w0_4 / (2:Int32))), .val (.int w0_5), .val (.int w0_6), .val (.int w0_7), .val (.int w0_8), .val (.ref b1597), .val (.int (own_v1843 w0_1 w0_2 w0_3 w0_4 w0_7 w0_8)), .val (.int (own_at [w0_1, w0_2, w0_3] (w0_4 / (2:Int32)))), .val (.int (own_at [w0_1, w0_2, w0_3] w0_7)), .val (.int (own_at [w0_1, w0_2, w0_3] w0_8)), .val (.int (0:Int32)), .val (.int w0_9), .val (.int w0_10), .val (.int ((f11 w0_9 w0_10) + (1:Int32))), .val (.int (1:Int32)), .val (.int ((f5 w0_9 (0:Int32)) + (f5 w0_10 (0:Int32)))), .val (.int (((f5 (0:Int32) w0_9) + (f5 w0_10 w0_9)) + (f6 (0:Int32) w0_9))), .val (.int ((((f5 (0:Int32) w0_10) + (f5 w0_9 w0_10)) + (f6 (0:Int32) w0_10)) + (f6 w0_9 w0_10))), .val (.int w0_11), .val (.int w0_12), .val (.int (((f5 (0:Int32) w0_11) + (f5 w0_9 w0_11)) + (f5 w0_10 w0_11))), .unset] [(.int (w0_11 + (1:Int32))), (.int w0_10), (.int ((f5 (0:Int32) (w0_11 + (1:Int32))) + (f5 w0_9 (w0_11 + (1:Int32)))))] (fun t k => ?_) ?_
  ·refine XS.iadd X1887.here hx rfl (D at_592) rfl ?_
   refine XS.iload X1887.here hx rfl (D at_593) rfl ?_
   refine XS.iload X1887.here hx rfl (D at_595) rfl ?_
   refine XS.iconst X1887.here hx rfl (D at_597) ?_
   exact XS.iadd X1887.here hx rfl (D at_598) rfl k
  refine own_callSG X1887 hx hZ (y := own_y5) hown (own_h hw 35 rfl) (own_h hw 36 rfl) (own_h hw 37 rfl) (own_h hw 38 rfl) (by decide) (W := 1) (rm5 l Z aZ hw [] w0_10 (w0_11 + (1:Int32)) T1678.heap n0 Z1834 ) (by decide) (by decide) rfl (by rw [hml]; rfl) (argsL := [(.int w0_10), (.int (w0_11 + (1:Int32)))]) (rest := [(.int ((f5 (0:Int32) (w0_11 + (1:Int32))) + (f5 w0_9 (w0_11 + (1:Int32)))))]) (lenOf own_pd2 rfl) rfl (by show 2 * 0 + _ ≤ _; exact Nat.le_of_eq rfl) (D at_599) rfl eh1887 (by decide) (by decide) (fun v T1888 L1888 X1888 hQ1888 => ?_)
  obtain ⟨rfl, N1888q, eh1888⟩ := hQ1888
  have N1888 := Fr.app N1887 N1888q
  refine own_pA T1888 m 609 #[.val (.int p0), .val (.int p1), .val (.int p2), .val (.int p3), .val (.int p4), .val (.int p5), .val (.ref b1586), .val (.int (3:Int32)), .val (.int w0_4), .val (.int (w0_4 / (2:Int32))), .val (.int w0_5), .val (.int w0_6), .val (.int w0_7), .val (.int w0_8), .val (.ref b1597), .val (.int (own_v1843 w0_1 w0_2 w0_3 w0_4 w0_7 w0_8)), .val (.int (own_at [w0_1, w0_2, w0_3] (w0_4 / (2:Int32)))), .val (.int (own_at [w0_1, w0_2, w0_3] w0_7)), .val (.int (own_at [w0_1, w0_2, w0_3] w0_8)), .val (.int (0:Int32)), .val (.int w0_9), .val (.int w0_10), .val (.int ((f11 w0_9 w0_10) + (1:Int32))), .val (.int (1:Int32)), .val (.int ((f5 w0_9 (0:Int32)) + (f5 w0_10 (0:Int32)))), .val (.int (((f5 (0:Int32) w0_9) + (f5 w0_10 w0_9)) + (f6 (0:Int32) w0_9))), .val (.int ((((f5 (0:Int32) w0_10) + (f5 w0_9 w0_10)) + (f6 (0:Int32) w0_10)) + (f6 w0_9 w0_10))), .val (.int w0_11), .val (.int w0_12), .val (.int (((f5 (0:Int32) w0_11) + (f5 w0_9 w0_11)) + (f5 w0_10 w0_11))), .val (.int (((f5 (0:Int32) (w0_11 + (1:Int32))) + (f5 w0_9 (w0_11 + (1:Int32)))) + (f5 w0_10 (w0_11 + (1:Int32)))))] [(.int w0_11), (.ref b1597)] (fun t k => ?_) ?_
  ·refine XS.iadd X1888.here hx rfl (D at_602) rfl ?_
   refine XS.istore X1888.here hx rfl (D at_603) rfl (l' := #[.val (.int p0), .val (.int p1), .val (.int p2), .val (.int p3), .val (.int p4), .val (.int p5), .val (.ref b1586), .val (.int (3:Int32)), .val (.int w0_4), .val (.int (w0_4 / (2:Int32))), .val (.int w0_5), .val (.int w0_6), .val (.int w0_7), .val (.int w0_8), .val (.ref b1597), .val (.int (own_v1843 w0_1 w0_2 w0_3 w0_4 w0_7 w0_8)), .val (.int (own_at [w0_1, w0_2, w0_3] (w0_4 / (2:Int32)))), .val (.int (own_at [w0_1, w0_2, w0_3] w0_7)), .val (.int (own_at [w0_1, w0_2, w0_3] w0_8)), .val (.int (0:Int32)), .val (.int w0_9), .val (.int w0_10), .val (.int ((f11 w0_9 w0_10) + (1:Int32))), .val (.int (1:Int32)), .val (.int ((f5 w0_9 (0:Int32)) + (f5 w0_10 (0:Int32)))), .val (.int (((f5 (0:Int32) w0_9) + (f5 w0_10 w0_9)) + (f6 (0:Int32) w0_9))), .val (.int ((((f5 (0:Int32) w0_10) + (f5 w0_9 w0_10)) + (f6 (0:Int32) w0_10)) + (f6 w0_9 w0_10))), .val (.int w0_11), .val (.int w0_12), .val (.int (((f5 (0:Int32) w0_11) + (f5 w0_9 w0_11)) + (f5 w0_10 w0_11))), .val (.int (((f5 (0:Int32) (w0_11 + (1:Int32))) + (f5 w0_9 (w0_11 + (1:Int32)))) + (f5 w0_10 (w0_11 + (1:Int32)))))]) rfl ?_
   refine XS.aload X1888.here hx rfl (D at_605) rfl rfl ?_
   exact XS.iload X1888.here hx rfl (D at_607) rfl k
  have hf1891 : own_In w0_11 (own_v1839 w0_1 w0_2 w0_3 w0_4 w0_7 w0_8).length := by subst hw0_5 hw0_6 hw0_7 hw0_8 hw0_9 hw0_10 hw0_12; exact own_fin1890 w0_1 (own_m3 _ _ hw0_1) w0_2 (own_m3 _ _ hw0_2) w0_3 (own_m3 _ _ hw0_3) w0_4 (own_m6 _ _ hw0_4) w0_11 hkm.1 hkm.2
  refine own_virtG X1888 hx hZ (y := own_y8) hown (own_h hw 47 rfl) (own_h hw 48 rfl) (own_h hw 50 rfl) (own_h hw 49 rfl) (own_h hw 51 rfl) (own_h hw 4 rfl) (by decide) (W := 0) (rm8 l Z aZ hw [] b1597 w0_11 gl_1603 (own_v1839 w0_1 w0_2 w0_3 w0_4 w0_7 w0_8) T1678.heap n0 Z1834 G1827 G1840 hf1891) (by decide) (by decide) eh1888 F1866 rfl (by rw [hml]; rfl) (argsL := [(.int w0_11)]) (rest := []) (lenOf own_pd4 rfl) rfl (by show 2 * 0 + _ ≤ _; exact Nat.le_of_eq rfl) (D at_609) rfl (by decide) (by decide) (fun v T1889 L1889 X1889 hQ1889 => ?_)
  obtain ⟨rfl, N1889q, eh1889⟩ := hQ1889
  have N1889 := Fr.app N1888 N1889q
  have hd614_16 : (own_v1892 w0_11 w0_1 w0_2 w0_3 w0_4 w0_7 w0_8) = w0_12 := (by subst hw0_5 hw0_6 hw0_7 hw0_8 hw0_9 hw0_10 hw0_12; exact own_fin1893 w0_1 (own_m3 _ _ hw0_1) w0_2 (own_m3 _ _ hw0_2) w0_3 (own_m3 _ _ hw0_3) w0_4 (own_m6 _ _ hw0_4) w0_11 hkm.1 hkm.2)
  refine own_pA T1889 m 621 #[.val (.int p0), .val (.int p1), .val (.int p2), .val (.int p3), .val (.int p4), .val (.int p5), .val (.ref b1586), .val (.int (3:Int32)), .val (.int w0_4), .val (.int (w0_4 / (2:Int32))), .val (.int w0_5), .val (.int w0_6), .val (.int w0_7), .val (.int w0_8), .val (.ref b1597), .val (.int (own_v1843 w0_1 w0_2 w0_3 w0_4 w0_7 w0_8)), .val (.int (own_at [w0_1, w0_2, w0_3] (w0_4 / (2:Int32)))), .val (.int (own_at [w0_1, w0_2, w0_3] w0_7)), .val (.int (own_at [w0_1, w0_2, w0_3] w0_8)), .val (.int (0:Int32)), .val (.int w0_9), .val (.int w0_10), .val (.int ((f11 w0_9 w0_10) + (1:Int32))), .val (.int (1:Int32)), .val (.int ((f5 w0_9 (0:Int32)) + (f5 w0_10 (0:Int32)))), .val (.int (((f5 (0:Int32) w0_9) + (f5 w0_10 w0_9)) + (f6 (0:Int32) w0_9))), .val (.int ((((f5 (0:Int32) w0_10) + (f5 w0_9 w0_10)) + (f6 (0:Int32) w0_10)) + (f6 w0_9 w0_10))), .val (.int w0_11), .val (.int w0_12), .val (.int (((f5 (0:Int32) w0_11) + (f5 w0_9 w0_11)) + (f5 w0_10 w0_11))), .val (.int (((f5 (0:Int32) (w0_11 + (1:Int32))) + (f5 w0_9 (w0_11 + (1:Int32)))) + (f5 w0_10 (w0_11 + (1:Int32)))))] [(.int w0_11), (.ref b1597)] (fun t k => ?_) ?_
  ·refine XS.iload X1889.here hx rfl (D at_612) rfl ?_
   refine XS.icmpNo X1889.here hx rfl (D at_614) rfl (XT.ii_ne_f hd614_16) ?_
   refine XS.aload X1889.here hx rfl (D at_617) rfl rfl ?_
   exact XS.iload X1889.here hx rfl (D at_619) rfl k
  have hf1896 : (own_In w0_11 (own_v1839 w0_1 w0_2 w0_3 w0_4 w0_7 w0_8).length) ∧ (own_In (own_at (own_v1839 w0_1 w0_2 w0_3 w0_4 w0_7 w0_8) w0_11) (own_v1841 w0_1 w0_2 w0_3 w0_4 w0_7 w0_8).length) := by subst hw0_5 hw0_6 hw0_7 hw0_8 hw0_9 hw0_10 hw0_12; exact own_fin1895 w0_1 (own_m3 _ _ hw0_1) w0_2 (own_m3 _ _ hw0_2) w0_3 (own_m3 _ _ hw0_3) w0_4 (own_m6 _ _ hw0_4) w0_11 hkm.1 hkm.2
  refine own_virtG X1889 hx hZ (y := own_y9) hown (own_h hw 52 rfl) (own_h hw 53 rfl) (own_h hw 55 rfl) (own_h hw 54 rfl) (own_h hw 56 rfl) (own_h hw 4 rfl) (by decide) (W := 0) (rm9 l Z aZ hw [] b1597 w0_11 gl_1603 gs_1604 (own_v1839 w0_1 w0_2 w0_3 w0_4 w0_7 w0_8) (own_v1841 w0_1 w0_2 w0_3 w0_4 w0_7 w0_8) T1678.heap n0 Z1834 G1827 G1828 G1840 G1842 hf1896.1 hf1896.2) (by decide) (by decide) eh1889 F1866 rfl (by rw [hml]; rfl) (argsL := [(.int w0_11)]) (rest := []) (lenOf own_pd4 rfl) rfl (by show 2 * 0 + _ ≤ _; exact Nat.le_of_eq rfl) (D at_621) rfl (by decide) (by decide) (fun v T1894 L1894 X1894 hQ1894 => ?_)
  obtain ⟨rfl, N1894q, eh1894⟩ := hQ1894
  have N1894 := Fr.app N1889 N1894q
  have hd626_17 : (own_v1897 w0_11 w0_1 w0_2 w0_3 w0_4 w0_7 w0_8) = (((f5 (0:Int32) w0_11) + (f5 w0_9 w0_11)) + (f5 w0_10 w0_11)) := (by subst hw0_5 hw0_6 hw0_7 hw0_8 hw0_9 hw0_10 hw0_12; exact own_fin1898 w0_1 (own_m3 _ _ hw0_1) w0_2 (own_m3 _ _ hw0_2) w0_3 (own_m3 _ _ hw0_3) w0_4 (own_m6 _ _ hw0_4) w0_11 hkm.1 hkm.2)
  refine own_pA T1894 m 633 #[.val (.int p0), .val (.int p1), .val (.int p2), .val (.int p3), .val (.int p4), .val (.int p5), .val (.ref b1586), .val (.int (3:Int32)), .val (.int w0_4), .val (.int (w0_4 / (2:Int32))), .val (.int w0_5), .val (.int w0_6), .val (.int w0_7), .val (.int w0_8), .val (.ref b1597), .val (.int (own_v1843 w0_1 w0_2 w0_3 w0_4 w0_7 w0_8)), .val (.int (own_at [w0_1, w0_2, w0_3] (w0_4 / (2:Int32)))), .val (.int (own_at [w0_1, w0_2, w0_3] w0_7)), .val (.int (own_at [w0_1, w0_2, w0_3] w0_8)), .val (.int (0:Int32)), .val (.int w0_9), .val (.int w0_10), .val (.int ((f11 w0_9 w0_10) + (1:Int32))), .val (.int (1:Int32)), .val (.int ((f5 w0_9 (0:Int32)) + (f5 w0_10 (0:Int32)))), .val (.int (((f5 (0:Int32) w0_9) + (f5 w0_10 w0_9)) + (f6 (0:Int32) w0_9))), .val (.int ((((f5 (0:Int32) w0_10) + (f5 w0_9 w0_10)) + (f6 (0:Int32) w0_10)) + (f6 w0_9 w0_10))), .val (.int w0_11), .val (.int w0_12), .val (.int (((f5 (0:Int32) w0_11) + (f5 w0_9 w0_11)) + (f5 w0_10 w0_11))), .val (.int (((f5 (0:Int32) (w0_11 + (1:Int32))) + (f5 w0_9 (w0_11 + (1:Int32)))) + (f5 w0_10 (w0_11 + (1:Int32)))))] [(.int w0_11), (.ref b1597)] (fun t k => ?_) ?_
  ·refine XS.iload X1894.here hx rfl (D at_624) rfl ?_
   refine XS.icmpNo X1894.here hx rfl (D at_626) rfl (XT.ii_ne_f hd626_17) ?_
   refine XS.aload X1894.here hx rfl (D at_629) rfl rfl ?_
   exact XS.iload X1894.here hx rfl (D at_631) rfl k
  have hf1901 : ((w0_11 + (1:Int32)) < (own_v1835 w0_1 w0_2 w0_3 w0_4 w0_7 w0_8) → own_In (w0_11 + (1:Int32)) (own_v1839 w0_1 w0_2 w0_3 w0_4 w0_7 w0_8).length) ∧ ((w0_11 + (1:Int32)) < (own_v1835 w0_1 w0_2 w0_3 w0_4 w0_7 w0_8) → own_In (own_at (own_v1839 w0_1 w0_2 w0_3 w0_4 w0_7 w0_8) (w0_11 + (1:Int32))) (own_v1841 w0_1 w0_2 w0_3 w0_4 w0_7 w0_8).length) := by subst hw0_5 hw0_6 hw0_7 hw0_8 hw0_9 hw0_10 hw0_12; exact own_fin1900 w0_1 (own_m3 _ _ hw0_1) w0_2 (own_m3 _ _ hw0_2) w0_3 (own_m3 _ _ hw0_3) w0_4 (own_m6 _ _ hw0_4) w0_11 hkm.1 hkm.2
  refine own_virtG X1894 hx hZ (y := own_y10) hown (own_h hw 57 rfl) (own_h hw 58 rfl) (own_h hw 60 rfl) (own_h hw 59 rfl) (own_h hw 61 rfl) (own_h hw 4 rfl) (by decide) (W := 0) (rm10 l Z aZ hw [] b1597 w0_11 gl_1603 gs_1604 (own_v1839 w0_1 w0_2 w0_3 w0_4 w0_7 w0_8) (own_v1841 w0_1 w0_2 w0_3 w0_4 w0_7 w0_8) (own_v1835 w0_1 w0_2 w0_3 w0_4 w0_7 w0_8) (3:Int32) T1678.heap n0 Z1834 G1827 G1828 G1836 G1829 G1840 G1842 hf1901.1 hf1901.2) (by decide) (by decide) eh1894 F1866 rfl (by rw [hml]; rfl) (argsL := [(.int w0_11)]) (rest := []) (lenOf own_pd4 rfl) rfl (by show 2 * 0 + _ ≤ _; exact Nat.le_of_eq rfl) (D at_633) rfl (by decide) (by decide) (fun v T1899 L1899 X1899 hQ1899 => ?_)
  obtain ⟨rfl, N1899q, eh1899⟩ := hQ1899
  have N1899 := Fr.app N1894 N1899q
  have hd638_18 : (own_v1902 w0_11 w0_1 w0_2 w0_3 w0_4 w0_7 w0_8) = (((f5 (0:Int32) (w0_11 + (1:Int32))) + (f5 w0_9 (w0_11 + (1:Int32)))) + (f5 w0_10 (w0_11 + (1:Int32)))) := (by subst hw0_5 hw0_6 hw0_7 hw0_8 hw0_9 hw0_10 hw0_12; exact own_fin1903 w0_1 (own_m3 _ _ hw0_1) w0_2 (own_m3 _ _ hw0_2) w0_3 (own_m3 _ _ hw0_3) w0_4 (own_m6 _ _ hw0_4) w0_11 hkm.1 hkm.2)
  refine own_pA T1899 m 650 #[.val (.int p0), .val (.int p1), .val (.int p2), .val (.int p3), .val (.int p4), .val (.int p5), .val (.ref b1586), .val (.int (3:Int32)), .val (.int w0_4), .val (.int (w0_4 / (2:Int32))), .val (.int w0_5), .val (.int w0_6), .val (.int w0_7), .val (.int w0_8), .val (.ref b1597), .val (.int (own_v1843 w0_1 w0_2 w0_3 w0_4 w0_7 w0_8)), .val (.int (own_at [w0_1, w0_2, w0_3] (w0_4 / (2:Int32)))), .val (.int (own_at [w0_1, w0_2, w0_3] w0_7)), .val (.int (own_at [w0_1, w0_2, w0_3] w0_8)), .val (.int (0:Int32)), .val (.int w0_9), .val (.int w0_10), .val (.int ((f11 w0_9 w0_10) + (1:Int32))), .val (.int (1:Int32)), .val (.int ((f5 w0_9 (0:Int32)) + (f5 w0_10 (0:Int32)))), .val (.int (((f5 (0:Int32) w0_9) + (f5 w0_10 w0_9)) + (f6 (0:Int32) w0_9))), .val (.int ((((f5 (0:Int32) w0_10) + (f5 w0_9 w0_10)) + (f6 (0:Int32) w0_10)) + (f6 w0_9 w0_10))), .val (.int w0_11), .val (.int w0_12), .val (.int (((f5 (0:Int32) w0_11) + (f5 w0_9 w0_11)) + (f5 w0_10 w0_11))), .val (.int (((f5 (0:Int32) (w0_11 + (1:Int32))) + (f5 w0_9 (w0_11 + (1:Int32)))) + (f5 w0_10 (w0_11 + (1:Int32)))))] [(.int (1:Int32))] (fun t k => ?_) ?_
  ·refine XS.iload X1899.here hx rfl (D at_636) rfl ?_
   refine XS.icmpNo X1899.here hx rfl (D at_638) rfl (XT.ii_ne_f hd638_18) ?_
   refine XS.iconst X1899.here hx rfl (D at_641) ?_
   refine XS.goto X1899.here hx rfl (pc0 := 642) (pc' := 646) rfl (D at_642) (by decide) (by decide) ?_
   refine XS.istore X1899.here hx rfl (D at_646) rfl (l' := #[.val (.int p0), .val (.int p1), .val (.int p2), .val (.int p3), .val (.int p4), .val (.int p5), .val (.ref b1586), .val (.int (3:Int32)), .val (.int w0_4), .val (.int (w0_4 / (2:Int32))), .val (.int w0_5), .val (.int w0_6), .val (.int w0_7), .val (.int w0_8), .val (.ref b1597), .val (.int (own_v1843 w0_1 w0_2 w0_3 w0_4 w0_7 w0_8)), .val (.int (own_at [w0_1, w0_2, w0_3] (w0_4 / (2:Int32)))), .val (.int (own_at [w0_1, w0_2, w0_3] w0_7)), .val (.int (own_at [w0_1, w0_2, w0_3] w0_8)), .val (.int (0:Int32)), .val (.int w0_9), .val (.int w0_10), .val (.int ((f11 w0_9 w0_10) + (1:Int32))), .val (.int (1:Int32)), .val (.int ((f5 w0_9 (0:Int32)) + (f5 w0_10 (0:Int32)))), .val (.int (((f5 (0:Int32) w0_9) + (f5 w0_10 w0_9)) + (f6 (0:Int32) w0_9))), .val (.int ((((f5 (0:Int32) w0_10) + (f5 w0_9 w0_10)) + (f6 (0:Int32) w0_10)) + (f6 w0_9 w0_10))), .val (.int w0_11), .val (.int w0_12), .val (.int (((f5 (0:Int32) w0_11) + (f5 w0_9 w0_11)) + (f5 w0_10 w0_11))), .val (.int (((f5 (0:Int32) (w0_11 + (1:Int32))) + (f5 w0_9 (w0_11 + (1:Int32)))) + (f5 w0_10 (w0_11 + (1:Int32)))))]) rfl ?_
   exact XS.iload X1899.here hx rfl (D at_648) rfl k
  exact own_end X1899 (BodyLoose.notSynchronized Bd) (fun h => by rw [Bd.returns] at h; cases h) (v := some (.int (1:Int32))) (fun fs hr => retN X1899 hx (t := .boolean) Bd.returns (by simp) (D at_650) hr) (by show Q0n3 Z p0 p1 p2 p3 p4 p5 h0 n0 _ T1899.heap _; rw [eh1899]; exact ⟨rfl, N1899⟩) (by decide) (by decide)
set_option maxRecDepth 65536 in
set_option maxHeartbeats 40000000 in
theorem comes_1 {Post : Tables → Env → Array Value → State → Outcome → State → Prop} (hpost : ∀ tb e args s v u, (limb_1_1.after args s (.returned v) u = true ∧ limb_1_2.after args s (.returned v) u = true ∧ True) → FrameEnd s (.returned v) u (Jvm.fieldLocs frame_1_writes args s ++ Jvm.arrayLocs frame_1_arrays args s ++ Jvm.staticLocs frame_1_statics s) 24 128 → Post tb e args s (.returned v) u) :
    ArmFor flags0 classFile x code maxLocals ret World_1 tables_1 room_1 Calls_1 rest_1 Pre_1 Post := by
  intro l hfl _ _ p e ha hc hk s m args below hf hA hF happ hP
  obtain ⟨hcalls, hrest, hpre⟩ := hP
  obtain ⟨-, -, -, hnamed, -, -, -, hat⟩ := (Spec.applies_iff hf).mp happ
  obtain ⟨hg, hn⟩ := and_e (Cond.before_iff.mp (show (Jvm.Cond.and given_1 narrow_1).before args s = true from hpre))
  obtain ⟨g2, g3⟩ := and_e hg
  obtain ⟨g4, g5⟩ := and_e g3
  obtain ⟨g6, g7⟩ := and_e g5
  obtain ⟨g8, g9⟩ := and_e g7
  obtain ⟨g10, g11⟩ := and_e g9
  obtain ⟨g12, g13⟩ := and_e g11
  obtain ⟨w0, w1, w2, w3, w4, w5, rfl⟩ : ∃ w0 w1 w2 w3 w4 w5 : Value, args = #[w0, w1, w2, w3, w4, w5] := by
    have hs : args.size = 6 := by simpa [Cond.value, given_1] using g2
    obtain ⟨L⟩ := args
    match L, hs with
    | [w0, w1, w2, w3, w4, w5], _ => exact ⟨w0, w1, w2, w3, w4, w5, rfl⟩
  have hw := fun d (hd : d ∈ tables_1) => atoms_spec (ws := Jvm.Cond.code x code maxLocals ret :: tables_1) hat d (List.mem_cons_of_mem _ hd)
  obtain ⟨i0, ei0⟩ := is_v g4
  obtain rfl : w0 = (.int i0) := Option.some.inj ei0
  obtain ⟨i1, ei1⟩ := is_v g6
  obtain rfl : w1 = (.int i1) := Option.some.inj ei1
  obtain ⟨i2, ei2⟩ := is_v g8
  obtain rfl : w2 = (.int i2) := Option.some.inj ei2
  obtain ⟨i3, ei3⟩ := is_v g10
  obtain rfl : w3 = (.int i3) := Option.some.inj ei3
  obtain ⟨i4, ei4⟩ := is_v g12
  obtain rfl : w4 = (.int i4) := Option.some.inj ei4
  obtain ⟨i5, ei5⟩ := is_v g13
  obtain rfl : w5 = (.int i5) := Option.some.inj ei5
  rcases own_len4 i3 with hl | hl | hl | hl
  · obtain ⟨n, o, h1, h2, h3, _, L, rfl, ⟨hv, N⟩, hq⟩ := rm0n0 l s _ hw tables_1 i0 i1 i2 i3 i4 i5 s.heap s.heap.size (Nat.le_refl _) hl p e ha hc hk s m _ below hf ((Spec.applies_iff_loose hf).mp happ).1 ⟨rfl, State.Warmed39.refl s, rfl⟩ trivial
    subst hv
    refine ⟨n, _, h1, h2, h3, hpost _ _ _ _ _ _ ⟨Cond.after_iff.mpr rfl, Cond.after_iff.mpr (eq_i res_at (Term.int_eval (1)) rfl), trivial⟩ ⟨hq.1, hq.2.1, (hq.2.2.sift fun y hy => Or.inr (N y hy)).mono (by decide) (by decide)⟩⟩
  · obtain ⟨n, o, h1, h2, h3, _, L, rfl, ⟨hv, N⟩, hq⟩ := rm0n1 l s _ hw tables_1 i0 i1 i2 i3 i4 i5 s.heap s.heap.size (Nat.le_refl _) hl p e ha hc hk s m _ below hf ((Spec.applies_iff_loose hf).mp happ).1 ⟨rfl, State.Warmed39.refl s, rfl⟩ trivial
    subst hv
    refine ⟨n, _, h1, h2, h3, hpost _ _ _ _ _ _ ⟨Cond.after_iff.mpr rfl, Cond.after_iff.mpr (eq_i res_at (Term.int_eval (1)) rfl), trivial⟩ ⟨hq.1, hq.2.1, (hq.2.2.sift fun y hy => Or.inr (N y hy)).mono (by decide) (by decide)⟩⟩
  · obtain ⟨n, o, h1, h2, h3, _, L, rfl, ⟨hv, N⟩, hq⟩ := rm0n2 l s _ hw tables_1 i0 i1 i2 i3 i4 i5 s.heap s.heap.size (Nat.le_refl _) hl p e ha hc hk s m _ below hf ((Spec.applies_iff_loose hf).mp happ).1 ⟨rfl, State.Warmed39.refl s, rfl⟩ trivial
    subst hv
    refine ⟨n, _, h1, h2, h3, hpost _ _ _ _ _ _ ⟨Cond.after_iff.mpr rfl, Cond.after_iff.mpr (eq_i res_at (Term.int_eval (1)) rfl), trivial⟩ ⟨hq.1, hq.2.1, (hq.2.2.sift fun y hy => Or.inr (N y hy)).mono (by decide) (by decide)⟩⟩
  · obtain ⟨n, o, h1, h2, h3, _, L, rfl, ⟨hv, N⟩, hq⟩ := rm0n3 l s _ hw tables_1 i0 i1 i2 i3 i4 i5 s.heap s.heap.size (Nat.le_refl _) hl p e ha hc hk s m _ below hf ((Spec.applies_iff_loose hf).mp happ).1 ⟨rfl, State.Warmed39.refl s, rfl⟩ trivial
    subst hv
    refine ⟨n, _, h1, h2, h3, hpost _ _ _ _ _ _ ⟨Cond.after_iff.mpr rfl, Cond.after_iff.mpr (eq_i res_at (Term.int_eval (1)) rfl), trivial⟩ ⟨hq.1, hq.2.1, (hq.2.2.sift fun y hy => Or.inr (N y hy)).mono (by decide) (by decide)⟩⟩
theorem main_1_1 : Claimed_1_1 := comes_1 fun _ _ _ _ _ _ h hF => ⟨h.1, hF⟩
theorem main_1_2 : Claimed_1_2 := comes_1 fun _ _ _ _ _ _ h hF => ⟨h.2.1, hF⟩
end Jvm.Pilot.@@N@@
namespace Jvm.Pilot.@@N@@
open Jvm Jvm.ClassFile Sem Op Lib Jvm.Free Jvm.Stand Jvm.Pilot.@@N@@.Jvm.D
/-! MADE BY PROGRAM (witnessworld.py) out of the Statement's table words and the real class files: 10 classes; the members and pool entries that the words name. The judged class is class 1, her method 3. -/
namespace start1
open Jvm.ClassFile
def u (s : String) : CpInfo := .utf8 (stringToUtf16 s)
/-- a pool by its gaps: so many unusable entries, then the entry; so many at the end -/
def gap : Nat → List CpInfo → List CpInfo
  | 0, r => r
  | n + 1, r => .unusable :: gap n r
def poolList (es : List (Nat × CpInfo)) (last : Nat) : List CpInfo := es.foldr (fun e r => gap e.1 (e.2 :: r)) (gap last [])
def pool (es : List (Nat × CpInfo)) (last : Nat) : Array CpInfo := ⟨poolList es last⟩
def fileOf (pool : Array CpInfo) (this : Nat) (attrs : Array Attribute := #[]) (ms : Array MethodInfo := #[]) (fl : Nat := 33) (sup : Nat := 0) (ifs : Array Nat := #[]) (fds : Array FieldInfo := #[]) : ClassFile where
  minorVersion := 0
  majorVersion := 65
  constantPool := pool
  accessFlags := fl
  thisClass := this
  superClass := sup
  interfaces := ifs
  fields := fds
  methods := ms
  attributes := attrs
def plain (name : String) (sup : Option ClassId) : Class where
  name := name
  kind := .ordinary
  loader := none
  accessFlags := 33
  super := sup
  interfaces := #[]
  cf := none
  fields := #[]
  methods := #[]
  instanceTypes := #[]
  staticTypes := #[]
  resolved := #[]
  callSites := []
  init := .initialized
  statics := none
  mirror := none

def pool0 : Array CpInfo := pool [(5, u "<init>"), (0, u "()V"), (1, .class_ 10), (1, u "java/lang/Object")] 113

def k0c0 : Code := { maxStack := 0, maxLocals := 1, code := object_method_1_code, exceptionTable := #[], attributes := #[] }
def k0m0 : Method := { name := "<init>", desc := "()V", sig := { parameters := [], returnType := none }, accessFlags := 1, code := some k0c0 }
/-- java/lang/Object -/
def k0 : Class := { plain "java/lang/Object" none with
  accessFlags := 33
  interfaces := #[]
  cf := some (fileOf pool0 8 #[] #[{ accessFlags := 1, nameIndex := 5, descriptorIndex := 6, attributes := #[] }] 33 0 #[] #[])
  fields := #[]
  methods := #[k0m0]
  instanceTypes := #[]
  staticTypes := #[]
  resolved := Array.replicate 124 none
  statics := none }

def pool1 : Array CpInfo := pool [(2, .class_ 4), (1, u "java/lang/Object"), (0, u "<init>"), (0, u "()V"), (0, .integer 2147483647), (0, .class_ 9), (0, u "com/example/spare_calculus/sparecalculus/bisim/LabelGroups"), (0, .methodref 8 11), (0, .nameAndType 5 12), (0, u "([II)V"), (0, .methodref 8 14), (0, .nameAndType 15 16), (0, u "add"), (0, u "(I)V"), (0, .methodref 8 18), (0, .nameAndType 19 20), (0, u "group"), (0, u "()I"), (0, .methodref 22 23), (0, .class_ 24), (0, .nameAndType 25 26), (0, u "java/lang/Math"), (0, u "max"), (0, u "(II)I"), (0, .methodref 28 29), (0, .class_ 30), (0, .nameAndType 31 26), (0, u "com/example/spare_calculus/sparecalculus/bisim/LabelGroupsGroupPinLaw"), (0, u "lt"), (0, .methodref 28 33), (0, .nameAndType 34 26), (0, u "eq"), (0, .methodref 8 36), (0, .nameAndType 37 38), (0, u "move"), (0, u "(I)I"), (0, .methodref 8 40), (0, .nameAndType 41 38), (0, u "label"), (0, .methodref 8 43), (0, .nameAndType 44 38), (0, u "start"), (0, .methodref 8 46), (0, .nameAndType 47 38), (0, u "end"), (3, u "law"), (0, u "(IIIIII)Z")] 4

def k1m0 : Method := { name := "<init>", desc := "()V", sig := { parameters := [], returnType := none }, accessFlags := 1, code := none }
def k1c1 : Code := { maxStack := 2, maxLocals := 2, code := method_2_code, exceptionTable := #[], attributes := #[] }
def k1m1 : Method := { name := "lt", desc := "(II)I", sig := { parameters := [.int, .int], returnType := some .int }, accessFlags := 10, code := some k1c1 }
def k1c2 : Code := { maxStack := 2, maxLocals := 2, code := method_3_code, exceptionTable := #[], attributes := #[] }
def k1m2 : Method := { name := "eq", desc := "(II)I", sig := { parameters := [.int, .int], returnType := some .int }, accessFlags := 10, code := some k1c2 }
def k1c3 : Code := { maxStack := 4, maxLocals := 31, code := code, exceptionTable := #[], attributes := #[] }
def k1m3 : Method := { name := "law", desc := "(IIIIII)Z", sig := { parameters := [.int, .int, .int, .int, .int, .int], returnType := some .boolean }, accessFlags := 9, code := some k1c3 }
/-- com/example/spare_calculus/sparecalculus/bisim/LabelGroupsGroupPinLaw -/
def k1 : Class := { plain "com/example/spare_calculus/sparecalculus/bisim/LabelGroupsGroupPinLaw" (some 0) with
  accessFlags := 49
  interfaces := #[]
  cf := some (fileOf pool1 28 #[] #[{ accessFlags := 1, nameIndex := 5, descriptorIndex := 6, attributes := #[] }, { accessFlags := 10, nameIndex := 31, descriptorIndex := 26, attributes := #[] }, { accessFlags := 10, nameIndex := 34, descriptorIndex := 26, attributes := #[] }, { accessFlags := 9, nameIndex := 51, descriptorIndex := 52, attributes := #[] }] 49 2 #[] #[])
  fields := #[]
  methods := #[k1m0, k1m1, k1m2, k1m3]
  instanceTypes := #[]
  staticTypes := #[]
  resolved := Array.replicate 57 none
  statics := none }

def pool2 : Array CpInfo := pool [(1, .methodref 2 3), (0, .class_ 4), (0, .nameAndType 5 6), (0, u "java/lang/Object"), (0, u "<init>"), (0, u "()V"), (0, .fieldref 8 9), (0, .class_ 10), (0, .nameAndType 11 12), (0, u "com/example/spare_calculus/sparecalculus/bisim/LabelGroups"), (0, u "labels"), (0, u "[I"), (0, .fieldref 8 14), (0, .nameAndType 15 12), (0, u "moves"), (0, .fieldref 8 17), (0, .nameAndType 18 12), (0, u "grouped"), (0, .fieldref 8 20), (0, .nameAndType 21 12), (0, u "groupLabels"), (0, .fieldref 8 23), (0, .nameAndType 24 12), (0, u "groupStarts"), (0, .fieldref 8 26), (0, .nameAndType 27 28), (0, u "moveCount"), (0, u "I"), (0, .fieldref 8 30), (0, .nameAndType 31 28), (0, u "groupCount"), (0, u "([II)V"), (2, u "add"), (0, u "(I)V"), (0, u "group"), (0, u "()I"), (1, u "label"), (0, u "(I)I"), (0, u "start"), (0, u "end"), (0, u "move")] 3

def k2c0 : Code := { maxStack := 2, maxLocals := 3, code := prog_15_method_1_code, exceptionTable := #[], attributes := #[] }
def k2m0 : Method := { name := "<init>", desc := "([II)V", sig := { parameters := [(.array .int), .int], returnType := none }, accessFlags := 0, code := some k2c0 }
def k2c1 : Code := { maxStack := 3, maxLocals := 2, code := prog_15_method_2_code, exceptionTable := #[], attributes := #[] }
def k2m1 : Method := { name := "add", desc := "(I)V", sig := { parameters := [.int], returnType := none }, accessFlags := 0, code := some k2c1 }
def k2c2 : Code := { maxStack := 4, maxLocals := 5, code := prog_15_method_3_code, exceptionTable := #[], attributes := #[] }
def k2m2 : Method := { name := "group", desc := "()I", sig := { parameters := [], returnType := some .int }, accessFlags := 0, code := some k2c2 }
def k2c3 : Code := { maxStack := 2, maxLocals := 2, code := prog_15_method_4_code, exceptionTable := #[], attributes := #[] }
def k2m3 : Method := { name := "label", desc := "(I)I", sig := { parameters := [.int], returnType := some .int }, accessFlags := 0, code := some k2c3 }
def k2c4 : Code := { maxStack := 3, maxLocals := 2, code := prog_15_method_5_code, exceptionTable := #[], attributes := #[] }
def k2m4 : Method := { name := "start", desc := "(I)I", sig := { parameters := [.int], returnType := some .int }, accessFlags := 0, code := some k2c4 }
def k2c5 : Code := { maxStack := 4, maxLocals := 2, code := prog_15_method_6_code, exceptionTable := #[], attributes := #[] }
def k2m5 : Method := { name := "end", desc := "(I)I", sig := { parameters := [.int], returnType := some .int }, accessFlags := 0, code := some k2c5 }
def k2c6 : Code := { maxStack := 2, maxLocals := 2, code := prog_15_method_7_code, exceptionTable := #[], attributes := #[] }
def k2m6 : Method := { name := "move", desc := "(I)I", sig := { parameters := [.int], returnType := some .int }, accessFlags := 0, code := some k2c6 }
/-- com/example/spare_calculus/sparecalculus/bisim/LabelGroups -/
def k2 : Class := { plain "com/example/spare_calculus/sparecalculus/bisim/LabelGroups" (some 0) with
  accessFlags := 32
  interfaces := #[]
  cf := some (fileOf pool2 8 #[] #[{ accessFlags := 0, nameIndex := 5, descriptorIndex := 32, attributes := #[] }, { accessFlags := 0, nameIndex := 35, descriptorIndex := 36, attributes := #[] }, { accessFlags := 0, nameIndex := 37, descriptorIndex := 38, attributes := #[] }, { accessFlags := 0, nameIndex := 40, descriptorIndex := 41, attributes := #[] }, { accessFlags := 0, nameIndex := 42, descriptorIndex := 41, attributes := #[] }, { accessFlags := 0, nameIndex := 43, descriptorIndex := 41, attributes := #[] }, { accessFlags := 0, nameIndex := 44, descriptorIndex := 41, attributes := #[] }] 32 2 #[] #[{ accessFlags := 18, nameIndex := 11, descriptorIndex := 12, attributes := #[] }, { accessFlags := 18, nameIndex := 15, descriptorIndex := 12, attributes := #[] }, { accessFlags := 2, nameIndex := 27, descriptorIndex := 28, attributes := #[] }, { accessFlags := 18, nameIndex := 18, descriptorIndex := 12, attributes := #[] }, { accessFlags := 18, nameIndex := 21, descriptorIndex := 12, attributes := #[] }, { accessFlags := 18, nameIndex := 24, descriptorIndex := 12, attributes := #[] }, { accessFlags := 2, nameIndex := 31, descriptorIndex := 28, attributes := #[] }])
  fields := #[{ name := "labels", type := (.array .int), accessFlags := 18, slot := 0, constantValue := 0 }, { name := "moves", type := (.array .int), accessFlags := 18, slot := 1, constantValue := 0 }, { name := "moveCount", type := .int, accessFlags := 2, slot := 2, constantValue := 0 }, { name := "grouped", type := (.array .int), accessFlags := 18, slot := 3, constantValue := 0 }, { name := "groupLabels", type := (.array .int), accessFlags := 18, slot := 4, constantValue := 0 }, { name := "groupStarts", type := (.array .int), accessFlags := 18, slot := 5, constantValue := 0 }, { name := "groupCount", type := .int, accessFlags := 2, slot := 6, constantValue := 0 }]
  methods := #[k2m0, k2m1, k2m2, k2m3, k2m4, k2m5, k2m6]
  instanceTypes := #[(.array .int), (.array .int), .int, (.array .int), (.array .int), (.array .int), .int]
  staticTypes := #[]
  resolved := Array.replicate 48 none
  statics := none }

def pool3 : Array CpInfo := pool [(1, .class_ 2), (0, u "java/lang/Math"), (1, .class_ 6), (1, u "java/lang/Object"), (0, u "<init>"), (0, u "()V"), (89, .class_ 100), (1, u "java/lang/Math$RandomNumberGeneratorHolder"), (71, u "negativeZeroFloatBits"), (0, u "J"), (2, u "negativeZeroDoubleBits"), (21, u "max"), (46, u "$assertionsDisabled"), (0, u "Z"), (88, u "(II)I"), (2, u "twoToTheDoubleScaleDown"), (0, u "D"), (4, u "twoToTheDoubleScaleUp"), (9, u "E"), (3, u "PI"), (2, u "TAU"), (2, u "DEGREES_TO_RADIANS"), (0, u "RADIANS_TO_DEGREES")] 94

def k3m0 : Method := { name := "<init>", desc := "()V", sig := { parameters := [], returnType := none }, accessFlags := 2, code := none }
def k3c1 : Code := { maxStack := 2, maxLocals := 2, code := jdk_29_method_65_code, exceptionTable := #[], attributes := #[] }
def k3m1 : Method := { name := "max", desc := "(II)I", sig := { parameters := [.int, .int], returnType := some .int }, accessFlags := 9, code := some k3c1 }
/-- java/lang/Math -/
def k3 : Class := { plain "java/lang/Math" (some 0) with
  accessFlags := 49
  interfaces := #[]
  cf := some (fileOf pool3 1 #[.nestMembers #[98]] #[{ accessFlags := 2, nameIndex := 7, descriptorIndex := 8, attributes := #[] }, { accessFlags := 9, nameIndex := 198, descriptorIndex := 335, attributes := #[] }] 49 4 #[] #[{ accessFlags := 25, nameIndex := 354, descriptorIndex := 339, attributes := #[] }, { accessFlags := 25, nameIndex := 358, descriptorIndex := 339, attributes := #[] }, { accessFlags := 25, nameIndex := 361, descriptorIndex := 339, attributes := #[] }, { accessFlags := 26, nameIndex := 364, descriptorIndex := 339, attributes := #[] }, { accessFlags := 26, nameIndex := 365, descriptorIndex := 339, attributes := #[] }, { accessFlags := 26, nameIndex := 172, descriptorIndex := 173, attributes := #[] }, { accessFlags := 26, nameIndex := 176, descriptorIndex := 173, attributes := #[] }, { accessFlags := 8, nameIndex := 344, descriptorIndex := 339, attributes := #[] }, { accessFlags := 8, nameIndex := 338, descriptorIndex := 339, attributes := #[] }, { accessFlags := 4120, nameIndex := 245, descriptorIndex := 246, attributes := #[] }])
  fields := #[{ name := "E", type := .double, accessFlags := 25, slot := 0, constantValue := 0 }, { name := "PI", type := .double, accessFlags := 25, slot := 1, constantValue := 0 }, { name := "TAU", type := .double, accessFlags := 25, slot := 2, constantValue := 0 }, { name := "DEGREES_TO_RADIANS", type := .double, accessFlags := 26, slot := 3, constantValue := 0 }, { name := "RADIANS_TO_DEGREES", type := .double, accessFlags := 26, slot := 4, constantValue := 0 }, { name := "negativeZeroFloatBits", type := .long, accessFlags := 26, slot := 5, constantValue := 0 }, { name := "negativeZeroDoubleBits", type := .long, accessFlags := 26, slot := 6, constantValue := 0 }, { name := "twoToTheDoubleScaleUp", type := .double, accessFlags := 8, slot := 7, constantValue := 0 }, { name := "twoToTheDoubleScaleDown", type := .double, accessFlags := 8, slot := 8, constantValue := 0 }, { name := "$assertionsDisabled", type := .boolean, accessFlags := 4120, slot := 9, constantValue := 0 }]
  methods := #[k3m0, k3m1]
  instanceTypes := #[]
  staticTypes := #[.double, .double, .double, .double, .double, .long, .long, .double, .double, .boolean]
  resolved := Array.replicate 460 none
  statics := none }

def pool4 : Array CpInfo := pool [(1, u "java/lang/Cloneable"), (0, .class_ 1), (0, u "java/lang/Object"), (0, .class_ 3)] 3

/-- java/lang/Cloneable -/
def k4 : Class := { plain "java/lang/Cloneable" (some 0) with
  accessFlags := 1537
  interfaces := #[]
  cf := some (fileOf pool4 2 #[] #[] 1537 4 #[] #[])
  fields := #[]
  methods := #[]
  instanceTypes := #[]
  staticTypes := #[]
  resolved := Array.replicate 8 none
  statics := none }

def pool5 : Array CpInfo := pool [(1, u "java/io/Serializable"), (0, .class_ 1), (0, u "java/lang/Object"), (0, .class_ 3)] 3

/-- java/io/Serializable -/
def k5 : Class := { plain "java/io/Serializable" (some 0) with
  accessFlags := 1537
  interfaces := #[]
  cf := some (fileOf pool5 2 #[] #[] 1537 4 #[] #[])
  fields := #[]
  methods := #[]
  instanceTypes := #[]
  staticTypes := #[]
  resolved := Array.replicate 8 none
  statics := none }

/-- the primitive byte -/
def k6 : Class := { plain "byte" none with kind := .primitive 'B', accessFlags := 0x411 }
/-- [B -/
def k7 : Class := { plain "[B" (some 0) with kind := .array 6 .byte, interfaces := #[4, 5], accessFlags := 1041 }

/-- the primitive int -/
def k8 : Class := { plain "int" none with kind := .primitive 'I', accessFlags := 0x411 }
/-- [I -/
def k9 : Class := { plain "[I" (some 0) with kind := .array 8 .int, interfaces := #[4, 5], accessFlags := 1041 }

def heap : Heap := #[]
def classes : Array Class := #[k0, k1, k2, k3, k4, k5, k6, k7, k8, k9]
def interned : List (Array UInt16 × Addr) := []
def slotsUsed : Nat := 0
def theMethod : MethodId := ⟨1, 3⟩
def args0 : Array Value := #[.int 5, .int 5, .int 5, .int 5, .int 5, .int 5]
def aboutOver (below : List Frame) : State where
  vm := { classes := classes, interned := interned.toArray }
  heap := heap
  slotsUsed := slotsUsed
  threads := #[{ frames := .invoking theMethod args0 :: below }]
def below0 : List Frame := [.native { method := ⟨0, 0⟩, args := #[] }]
def about1 : State := aboutOver below0
def p0 : Program := .bare "" "" ""
def e0 : Env := launch0.env 0 0 0
theorem w_frames : about1.frames = Frame.invoking theMethod args0 :: below0 := rfl
set_option maxRecDepth 65536 in
theorem w_args : argsFit about1.vm theMethod args0 = true := by decide +kernel
set_option maxRecDepth 65536 in
theorem w_heap : heapFits about1 = true := by decide +kernel
set_option maxRecDepth 65536 in
theorem w_runnable : about1.curStatus? = some .runnable := by decide +kernel
set_option maxRecDepth 65536 in
theorem w_alone : about1.alone = true := by decide +kernel
set_option maxRecDepth 65536 in
theorem w_named : about1.methodNamed? x = some theMethod := by decide +kernel
set_option maxRecDepth 65536 in
theorem w_hears : about1.hears theMethod below0 = true := by decide +kernel
set_option maxRecDepth 65536 in
theorem w_ripe : about1.ripe theMethod args0 below0 = true := by decide +kernel
theorem w_running : about1.status = .running := rfl
set_option maxRecDepth 65536 in
theorem w_room : about1.hasRoom e0.platform room_1 = true :=
  launch0.hasRoom_least _ room_1 (by decide +kernel) (by decide +kernel) (by decide +kernel) (by decide +kernel) (by decide +kernel) (by decide +kernel)
theorem allAtoms_all (ts : List Jvm.Cond) (a : Array Jvm.Value) (st : Jvm.State) : (allAtoms ts).before a st = ts.all (fun c => c.before a st) := by
  induction ts with
  | nil => rfl
  | cons c t ih =>
    show (Jvm.Cond.and c (allAtoms t)).before a st = _
    rw [Jvm.Cond.before_and, ih, List.all_cons]
def words1 : List Jvm.Cond := Jvm.Cond.code x code maxLocals ret :: tables_1
/-- a 'code' word, met by the world's own term for the bytes: nothing is compared byte by byte -/
theorem code_word {y : MethodName} {bytes : ByteArray} {mx : Nat} {rt : Option FieldType} {a : Array Value} {s : State} {m : MethodId} {meth : Method} {c : Code} (h1 : s.methodNamed? y = some m) (h2 : s.vm.method? m = some meth) (h3 : meth.code = some c) (h4 : c.code = bytes)
    (h5 : (c.maxLocals == mx && c.exceptionTable.isEmpty && decide (c.maxStack ≤ mostOperands) && decide (meth.sig.returnType = rt) && !meth.locks && decide (parseMethodDescriptor y.desc = some meth.sig)) = true) : (Jvm.Cond.code y bytes mx rt).before a s = true := by
  simp only [Bool.and_eq_true, beq_iff_eq, Bool.not_eq_true', decide_eq_true_eq] at h5
  obtain ⟨⟨⟨⟨⟨g1, g2⟩, g3⟩, g4⟩, g5⟩, g6⟩ := h5
  simp [Cond.before, Cond.holds, Cond.value, h1, h2, h3, h4, g1, g2, g3, g4, g5, g6]
def isCode : Jvm.Cond → Bool
  | .code _ _ _ _ => true
  | _ => false
theorem all_split {L : List Jvm.Cond} {P : Jvm.Cond → Bool} (h1 : L.all (fun c => isCode c || P c) = true) (h2 : ∀ c ∈ L.filter isCode, P c = true) : L.all P = true := by
  refine List.all_eq_true.mpr fun c hc => ?_
  have h := List.all_eq_true.mp h1 c hc
  rcases Bool.eq_false_or_eq_true (isCode c) with hi | hi
  · exact h2 c (List.mem_filter.mpr ⟨hc, hi⟩)
  · simpa [hi] using h
set_option maxRecDepth 65536 in
theorem w_c0 : (Jvm.Cond.code x code maxLocals ret).before args0 about1 = true := code_word (m := ⟨1, 3⟩) (meth := k1m3) (c := k1c3) (by decide +kernel) rfl rfl rfl (by decide +kernel)
set_option maxRecDepth 65536 in
theorem w_c1 : (Jvm.Cond.code ({ cls := "com/example/spare_calculus/sparecalculus/bisim/LabelGroups", name := "<init>", desc := "([II)V" } : Jvm.MethodName) prog_15_method_1_code (3 : Nat) (Option.none : Option Jvm.ClassFile.FieldType)).before args0 about1 = true := code_word (m := ⟨2, 0⟩) (meth := k2m0) (c := k2c0) (by decide +kernel) rfl rfl rfl (by decide +kernel)
set_option maxRecDepth 65536 in
theorem w_c2 : (Jvm.Cond.code ({ cls := "java/lang/Object", name := "<init>", desc := "()V" } : Jvm.MethodName) object_method_1_code (1 : Nat) (Option.none : Option Jvm.ClassFile.FieldType)).before args0 about1 = true := code_word (m := ⟨0, 0⟩) (meth := k0m0) (c := k0c0) (by decide +kernel) rfl rfl rfl (by decide +kernel)
set_option maxRecDepth 65536 in
theorem w_c3 : (Jvm.Cond.code ({ cls := "com/example/spare_calculus/sparecalculus/bisim/LabelGroups", name := "add", desc := "(I)V" } : Jvm.MethodName) prog_15_method_2_code (2 : Nat) (Option.none : Option Jvm.ClassFile.FieldType)).before args0 about1 = true := code_word (m := ⟨2, 1⟩) (meth := k2m1) (c := k2c1) (by decide +kernel) rfl rfl rfl (by decide +kernel)
set_option maxRecDepth 65536 in
theorem w_c4 : (Jvm.Cond.code ({ cls := "com/example/spare_calculus/sparecalculus/bisim/LabelGroups", name := "group", desc := "()I" } : Jvm.MethodName) prog_15_method_3_code (5 : Nat) (Option.some Jvm.ClassFile.FieldType.int)).before args0 about1 = true := code_word (m := ⟨2, 2⟩) (meth := k2m2) (c := k2c2) (by decide +kernel) rfl rfl rfl (by decide +kernel)
set_option maxRecDepth 65536 in
theorem w_c5 : (Jvm.Cond.code ({ cls := "com/example/spare_calculus/sparecalculus/bisim/LabelGroupsGroupPinLaw", name := "lt", desc := "(II)I" } : Jvm.MethodName) method_2_code (2 : Nat) (Option.some Jvm.ClassFile.FieldType.int)).before args0 about1 = true := code_word (m := ⟨1, 1⟩) (meth := k1m1) (c := k1c1) (by decide +kernel) rfl rfl rfl (by decide +kernel)
set_option maxRecDepth 65536 in
theorem w_c6 : (Jvm.Cond.code ({ cls := "com/example/spare_calculus/sparecalculus/bisim/LabelGroupsGroupPinLaw", name := "eq", desc := "(II)I" } : Jvm.MethodName) method_3_code (2 : Nat) (Option.some Jvm.ClassFile.FieldType.int)).before args0 about1 = true := code_word (m := ⟨1, 2⟩) (meth := k1m2) (c := k1c2) (by decide +kernel) rfl rfl rfl (by decide +kernel)
set_option maxRecDepth 65536 in
theorem w_c7 : (Jvm.Cond.code ({ cls := "com/example/spare_calculus/sparecalculus/bisim/LabelGroups", name := "move", desc := "(I)I" } : Jvm.MethodName) prog_15_method_7_code (2 : Nat) (Option.some Jvm.ClassFile.FieldType.int)).before args0 about1 = true := code_word (m := ⟨2, 6⟩) (meth := k2m6) (c := k2c6) (by decide +kernel) rfl rfl rfl (by decide +kernel)
set_option maxRecDepth 65536 in
theorem w_c8 : (Jvm.Cond.code ({ cls := "com/example/spare_calculus/sparecalculus/bisim/LabelGroups", name := "label", desc := "(I)I" } : Jvm.MethodName) prog_15_method_4_code (2 : Nat) (Option.some Jvm.ClassFile.FieldType.int)).before args0 about1 = true := code_word (m := ⟨2, 3⟩) (meth := k2m3) (c := k2c3) (by decide +kernel) rfl rfl rfl (by decide +kernel)
set_option maxRecDepth 65536 in
theorem w_c9 : (Jvm.Cond.code ({ cls := "com/example/spare_calculus/sparecalculus/bisim/LabelGroups", name := "start", desc := "(I)I" } : Jvm.MethodName) prog_15_method_5_code (2 : Nat) (Option.some Jvm.ClassFile.FieldType.int)).before args0 about1 = true := code_word (m := ⟨2, 4⟩) (meth := k2m4) (c := k2c4) (by decide +kernel) rfl rfl rfl (by decide +kernel)
set_option maxRecDepth 65536 in
theorem w_c10 : (Jvm.Cond.code ({ cls := "com/example/spare_calculus/sparecalculus/bisim/LabelGroups", name := "end", desc := "(I)I" } : Jvm.MethodName) prog_15_method_6_code (2 : Nat) (Option.some Jvm.ClassFile.FieldType.int)).before args0 about1 = true := code_word (m := ⟨2, 5⟩) (meth := k2m5) (c := k2c5) (by decide +kernel) rfl rfl rfl (by decide +kernel)
set_option maxRecDepth 65536 in
theorem w_c11 : (Jvm.Cond.code ({ cls := "java/lang/Math", name := "max", desc := "(II)I" } : Jvm.MethodName) jdk_29_method_65_code (2 : Nat) (Option.some Jvm.ClassFile.FieldType.int)).before args0 about1 = true := code_word (m := ⟨3, 1⟩) (meth := k3m1) (c := k3c1) (by decide +kernel) rfl rfl rfl (by decide +kernel)
def codes1 : List Jvm.Cond := [Jvm.Cond.code x code maxLocals ret, Jvm.Cond.code ({ cls := "com/example/spare_calculus/sparecalculus/bisim/LabelGroups", name := "<init>", desc := "([II)V" } : Jvm.MethodName) prog_15_method_1_code (3 : Nat) (Option.none : Option Jvm.ClassFile.FieldType), Jvm.Cond.code ({ cls := "java/lang/Object", name := "<init>", desc := "()V" } : Jvm.MethodName) object_method_1_code (1 : Nat) (Option.none : Option Jvm.ClassFile.FieldType), Jvm.Cond.code ({ cls := "com/example/spare_calculus/sparecalculus/bisim/LabelGroups", name := "add", desc := "(I)V" } : Jvm.MethodName) prog_15_method_2_code (2 : Nat) (Option.none : Option Jvm.ClassFile.FieldType), Jvm.Cond.code ({ cls := "com/example/spare_calculus/sparecalculus/bisim/LabelGroups", name := "group", desc := "()I" } : Jvm.MethodName) prog_15_method_3_code (5 : Nat) (Option.some Jvm.ClassFile.FieldType.int), Jvm.Cond.code ({ cls := "com/example/spare_calculus/sparecalculus/bisim/LabelGroupsGroupPinLaw", name := "lt", desc := "(II)I" } : Jvm.MethodName) method_2_code (2 : Nat) (Option.some Jvm.ClassFile.FieldType.int), Jvm.Cond.code ({ cls := "com/example/spare_calculus/sparecalculus/bisim/LabelGroupsGroupPinLaw", name := "eq", desc := "(II)I" } : Jvm.MethodName) method_3_code (2 : Nat) (Option.some Jvm.ClassFile.FieldType.int), Jvm.Cond.code ({ cls := "com/example/spare_calculus/sparecalculus/bisim/LabelGroups", name := "move", desc := "(I)I" } : Jvm.MethodName) prog_15_method_7_code (2 : Nat) (Option.some Jvm.ClassFile.FieldType.int), Jvm.Cond.code ({ cls := "com/example/spare_calculus/sparecalculus/bisim/LabelGroups", name := "label", desc := "(I)I" } : Jvm.MethodName) prog_15_method_4_code (2 : Nat) (Option.some Jvm.ClassFile.FieldType.int), Jvm.Cond.code ({ cls := "com/example/spare_calculus/sparecalculus/bisim/LabelGroups", name := "start", desc := "(I)I" } : Jvm.MethodName) prog_15_method_5_code (2 : Nat) (Option.some Jvm.ClassFile.FieldType.int), Jvm.Cond.code ({ cls := "com/example/spare_calculus/sparecalculus/bisim/LabelGroups", name := "end", desc := "(I)I" } : Jvm.MethodName) prog_15_method_6_code (2 : Nat) (Option.some Jvm.ClassFile.FieldType.int), Jvm.Cond.code ({ cls := "java/lang/Math", name := "max", desc := "(II)I" } : Jvm.MethodName) jdk_29_method_65_code (2 : Nat) (Option.some Jvm.ClassFile.FieldType.int)]
set_option maxRecDepth 65536 in
theorem codes_eq : words1.filter isCode = codes1 := rfl
theorem w_codes : ∀ c ∈ words1.filter isCode, c.before args0 about1 = true := by
  rw [codes_eq]
  intro c hc
  simp only [codes1, List.mem_cons, List.not_mem_nil, or_false] at hc
  rcases hc with rfl | rfl | rfl | rfl | rfl | rfl | rfl | rfl | rfl | rfl | rfl | rfl
  · exact w_c0
  · exact w_c1
  · exact w_c2
  · exact w_c3
  · exact w_c4
  · exact w_c5
  · exact w_c6
  · exact w_c7
  · exact w_c8
  · exact w_c9
  · exact w_c10
  · exact w_c11
set_option maxRecDepth 65536 in
theorem w_t1 : (words1.take 24).all (fun c => isCode c || c.before args0 about1) = true := by decide +kernel
set_option maxRecDepth 65536 in
theorem w_t2 : ((words1.drop 24).take 24).all (fun c => isCode c || c.before args0 about1) = true := by decide +kernel
set_option maxRecDepth 65536 in
theorem w_t3 : ((words1.drop 24).drop 24).all (fun c => isCode c || c.before args0 about1) = true := by decide +kernel
theorem w_tables : (allAtoms (Jvm.Cond.code x code maxLocals ret :: tables_1)).before args0 about1 = true := by
  rw [allAtoms_all]
  show words1.all (fun c => c.before args0 about1) = true
  refine all_split ?_ w_codes
  rw [← List.take_append_drop 24 words1, List.all_append, w_t1, ← List.take_append_drop 24 (words1.drop 24), List.all_append, w_t2, w_t3]
  rfl
set_option maxRecDepth 65536 in
theorem w_case : (Jvm.Cond.and given_1 narrow_1).before args0 about1 = true := by decide +kernel
theorem w_applies : (headSpec (Jvm.Cond.code x code maxLocals ret :: tables_1) room_1).applies x e0.platform about1 = true :=
  (Spec.applies_iff w_frames).mpr ⟨w_running, w_runnable, w_alone, w_named, w_hears, w_ripe, w_room, w_tables⟩
theorem atStart : AtStart classFile x code maxLocals ret World_1 tables_1 room_1 Calls_1 rest_1 Pre_1 launch0 p0 e0 about1 theMethod args0 below0 :=
  ⟨lists_1, trivial, launch0.admits_env _ _ _, launch0.least_env, fairChoices_fair.cas, fairChoices_fair.clock, w_frames, w_args, w_heap, w_applies, trivial, trivial, w_case⟩
end start1
theorem witness_1 : WitnessClaimed_1 := ⟨start1.p0, start1.e0, start1.about1, start1.theMethod, start1.args0, start1.below0, start1.atStart⟩
end Jvm.Pilot.@@N@@
