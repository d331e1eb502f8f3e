import JvmDerived
import JvmDerived.Pilot.@@N@@Statement
import JvmDerived.Pilot.@@N@@Code
set_option linter.unusedVariables false
set_option linter.unusedSimpArgs false
@@BLOCK:NumsL.lean.txt@@
namespace Jvm.Pilot.@@N@@
open Jvm Jvm.ClassFile Sem Op Lib Jvm.Free Jvm.Stand Jvm.LawKit Jvm.RoadKit Bundle Jvm.Pilot.@@N@@.Jvm.D
def own_Goes (p : Program) (e : Env) (below : List Frame) (s : State) (Q : Option Value → Heap → List Loc → Prop) (ce sl : Nat) (A : State) : Prop :=
  ∃ s₂ o, Steps p.tables e below A s₂ ∧ s₂.status = .running ∧ Ended s₂ below o ∧ ∃ v L, o = .returned v ∧ Q v s₂.heap L ∧ FrameEnd s o s₂ L ce sl
theorem own_pre {p : Program} {e : Env} {below : List Frame} {s : State} {Q : Option Value → Heap → List Loc → Prop} {ce sl : Nat} {A B : State} (h : ∀ t, Steps p.tables e below A t → Steps p.tables e below B t) (G : own_Goes p e below s Q ce sl A) : own_Goes p e below s Q ce sl B := by
  obtain ⟨s₂, o, h1, r⟩ := G
  exact ⟨s₂, o, h _ h1, r⟩
theorem own_end {p : Program} {l : Launch} {e : Env} {R : Room} {s : State} {m : MethodId} {args : Array Value} {below : List Frame} {meth : Method} {c : Code} {T : State} {locs : List Loc} {cells slots : Nat} (X : Stand p l e R s m args below meth c T locs cells slots)
    {v : Option Value} {Q : Option Value → Heap → List Loc → Prop} {ce sl : Nat} {A : State} (hlocks : meth.locks = false) (hv : meth.sig.returnType = none → v = none)
    (hstep : ∀ fs, (∀ (f : JFrame) (acts : List Action), f.method = m → f.locked = none → f.entered = [] → (doReturn e (T.setTop f) acts v).1 = T.setFrames fs) → Steps p.tables e below A (T.setFrames fs))
    (hQ : Q v T.heap locs) (hc : cells ≤ ce) (hs : slots ≤ sl) : own_Goes p e below s Q ce sl A := by
  obtain ⟨fs, hr, hrun, hended, hW, hsame⟩ := X.leave hv hlocks
  exact ⟨_, _, hstep fs hr, hrun, hended, _, _, rfl, hQ, ⟨_, rfl⟩, hW, hsame.mono hc hs⟩
theorem own_lrem_eq (x y : Int64) : x - (x / y) * y = x % y := Int64.toInt_inj.mp (by rw [Jvm.Kit.i64_rem, Int64.toInt_mod])
theorem own_lrem {tb : Tables} [Ours tb] {e : Env} {below : List Frame} {T target : State} {m : MethodId} {c : Code} {g : JFrame} (h : At T m c below) (hx : tb.exec = Jvm.exec) (hg : g.method = m) {x y : Int64} {rest : List Value} (hd : decode c.code g.pc = .ok (.lrem, 1)) (hs : g.stack = .long y :: .long x :: rest) (hy : y ≠ 0)
    (hr : Steps tb e below (T.setTop { g with pc := g.pc + 1, stack := .long (x % y) :: rest }) target) : Steps tb e below (T.setTop g) target :=
  XS.lrem h hx hg hd hs hy (by rw [own_lrem_eq]; exact hr)
theorem own_h {a0 : Array Value} {Z : State} {L : List Jvm.Cond} (hw : ∀ d ∈ L, d.before a0 Z = true) (i : Nat) {d : Jvm.Cond} (h : L[i]? = some d) : d.before a0 Z = true := hw _ (List.mem_of_getElem? h)
abbrev own_In (j : Int32) (n : Nat) : Prop := 0 ≤ j.toInt ∧ j.toInt < (n : Int)
def own_at (xs : List Int32) (j : Int32) : Int32 := xs.getD j.toNatClampNeg 0
def own_atJ (xs : List Int64) (j : Int32) : Int64 := xs.getD j.toNatClampNeg 0
def own_len {α : Type} (xs : List α) : Int32 := xs.length.toInt32
theorem own_getD (xs : List Int32) (i : Nat) : (xs.map Value.int).getD i (.int 0) = .int (xs.getD i 0) := by
  simp only [List.getD_eq_getElem?_getD, List.getElem?_map]
  cases xs[i]? <;> rfl
theorem own_getDJ (xs : List Int64) (i : Nat) : (xs.map Value.long).getD i (.long 0) = .long (xs.getD i 0) := by
  simp only [List.getD_eq_getElem?_getD, List.getElem?_map]
  cases xs[i]? <;> rfl
theorem own_pad {ty : FieldType} {Z : State} {h : Heap} {a : Addr} {k : ClassId} {n : Int32} {dv : Value} (F : Arv Z h a k ty n [] dv) : Arv Z h a k ty n (List.replicate n.toNatClampNeg dv) dv := F.pad (pad_rep [] dv n.toNatClampNeg)
section OwnArr
variable {p : Program} {l : Launch} {e : Env} {R : Room} {s : State} {m : MethodId} {args : Array Value} {below : List Frame} {meth : Method} {c : Code} {T : State} {locs : List Loc} {cells slots : Nat} {Z : State} {h h' : Heap} {a b : Addr} {sl : Nat} {v d : Value} {ws : List Addr} {ty : FieldType} {vs : List Value}
def own_Arr (ty : FieldType) (d : Value) (Z : State) (h : Heap) (a : Addr) (vs : List Value) : Prop := ∃ k n, Arv Z h a k ty n vs d ∧ n.toNatClampNeg = vs.length
theorem own_Arr.ext (F : own_Arr ty d Z h a vs) (E : Ext h h') : own_Arr ty d Z h' a vs := by obtain ⟨k, n, A, r⟩ := F; exact ⟨k, n, A.ext E, r⟩
theorem own_Arr.other (F : own_Arr ty d Z h b vs) (W : Wr h h' a sl v) (q : b ≠ a) : own_Arr ty d Z h' b vs := by obtain ⟨k, n, A, r⟩ := F; exact ⟨k, n, A.other W q, r⟩
theorem own_Arr.keep (F : own_Arr ty d Z h a vs) (K : Keep h h' ws) (q : a ∉ ws) : own_Arr ty d Z h' a vs := by obtain ⟨k, n, A, r⟩ := F; exact ⟨k, n, A.keep K q, r⟩
theorem own_Arr.lt (F : own_Arr ty d Z h a vs) : a < h.size := by obtain ⟨k, n, A, r⟩ := F; exact A.lt
theorem own_inb {cl : Cell} {n j : Int32} {N : Nat} (S : cl.slots.size = n.toNatClampNeg) (q : n.toNatClampNeg = N) (hj : own_In j N) : ¬ (j < 0 ∨ cl.slots.size ≤ j.toNatClampNeg) := by
  rw [S, q]; obtain ⟨q1, q2⟩ := hj
  have e0 : (0 : Int32).toInt = 0 := rfl
  simp only [Int32.lt_iff_toInt_lt, Int32.toNatClampNeg, e0] at *; omega
theorem own_ixlt {j : Int32} {N : Nat} (hj : own_In j N) : j.toNatClampNeg < N := by obtain ⟨q1, q2⟩ := hj; simp only [Int32.toNatClampNeg]; omega
def own_Ints (Z : State) (h : Heap) (a : Addr) (xs : List Int32) : Prop := own_Arr .int (.int 0) Z h a (xs.map Value.int)
def own_Longs (Z : State) (h : Heap) (a : Addr) (xs : List Int64) : Prop := own_Arr .long (.long 0) Z h a (xs.map Value.long)
def own_Bytes (Z : State) (h : Heap) (a : Addr) (xs : List Int32) : Prop := own_Arr .byte (.int 0) Z h a (xs.map Value.int)
def own_Chars (Z : State) (h : Heap) (a : Addr) (xs : List Int32) : Prop := own_Arr .char (.int 0) Z h a (xs.map Value.int)
theorem own_Ints.ext {xs : List Int32} (F : own_Ints Z h a xs) (E : Ext h h') : own_Ints Z h' a xs := own_Arr.ext F E
theorem own_Ints.other {xs : List Int32} (F : own_Ints Z h b xs) (W : Wr h h' a sl v) (q : b ≠ a) : own_Ints Z h' b xs := own_Arr.other F W q
theorem own_Ints.keep {xs : List Int32} (F : own_Ints Z h a xs) (K : Keep h h' ws) (q : a ∉ ws) : own_Ints Z h' a xs := own_Arr.keep F K q
theorem own_Ints.lt {xs : List Int32} (F : own_Ints Z h a xs) : a < h.size := own_Arr.lt F
theorem own_newI {k : ClassId} {n : Int32} (A : Arr Z h a (newA k .int n) .int) (q : ¬ n < 0) : own_Ints Z h a (List.replicate n.toNatClampNeg 0) := by
  refine ⟨k, n, ?_, by simp⟩
  have := own_pad (Arv.new A q)
  rw [List.map_replicate]
  exact this
theorem own_iaload {target : State} (X : Stand p l e R s m args below meth c T locs cells slots) (hx : p.tables.exec = Jvm.exec) (hZ : Z.Warmed39 s.vm) (eT : T.heap = h) {xs : List Int32} {j : Int32} (F : own_Ints Z h a xs) (hj : own_In j xs.length) {g : JFrame} (hg : g.method = m) {rest : List Value} (hs : g.stack = .int j :: .ref a :: rest) (hd : decode c.code g.pc = .ok (.iaload, 1))
    (hr : Steps p.tables e below (T.setTop { g with pc := g.pc + 1, stack := .int (own_at xs j) :: rest }) target) : Steps p.tables e below (T.setTop g) target := by
  obtain ⟨k, n, ⟨cl, A, q1, S, q3, H, G⟩, q⟩ := F
  have hin := own_inb S q (by rw [List.length_map]; exact hj)
  exact X.iaload hx (j := j) (v := .int (own_at xs j)) (by rw [eT]; exact A.1) (State.isArrayOf_alike hZ.alike A.2.1) A.2.2 hin (H.at hin (own_getD xs _)) (g := g) hg hs hd _ hr
theorem own_arrlenI {target : State} (X : Stand p l e R s m args below meth c T locs cells slots) (hx : p.tables.exec = Jvm.exec) (hZ : Z.Warmed39 s.vm) (eT : T.heap = h) {xs : List Int32} (F : own_Ints Z h a xs) {g : JFrame} (hg : g.method = m) {rest : List Value} (hs : g.stack = .ref a :: rest) (hd : decode c.code g.pc = .ok (.arraylength, 1))
    (hr : Steps p.tables e below (T.setTop { g with pc := g.pc + 1, stack := .int (own_len xs) :: rest }) target) : Steps p.tables e below (T.setTop g) target := by
  obtain ⟨k, n, ⟨cl, A, q1, S, q3, H, G⟩, q⟩ := F
  refine X.arraylength hx (by rw [eT]; exact A.1) (State.isArrayOf_alike hZ.alike A.2.1) (g := g) hg hs hd _ ?_
  have e1 : cl.slots.size = xs.length := by rw [S, q, List.length_map]
  rw [e1]
  exact hr
theorem own_iastore (X : Stand p l e R s m args below meth c T locs cells slots) (hx : p.tables.exec = Jvm.exec) (hZ : Z.Warmed39 s.vm) (eT : T.heap = h) {xs : List Int32} {j : Int32} {x : Int32} (F : own_Ints Z h a xs) (hj : own_In j xs.length) {g : JFrame} (hg : g.method = m) {rest : List Value} (hs : g.stack = .int x :: .int j :: .ref a :: rest) (hd : decode c.code g.pc = .ok (.iastore, 1)) :
    ∃ T' h', Stand p l e R s m args below meth c T' (locs ++ [⟨a, j.toNatClampNeg⟩]) cells slots ∧ T'.heap = h' ∧ Wr h h' a j.toNatClampNeg (.int (x)) ∧ own_Ints Z h' a (xs.set j.toNatClampNeg (x)) ∧ ∀ target, Steps p.tables e below (T'.setTop { g with pc := g.pc + 1, stack := rest }) target → Steps p.tables e below (T.setTop g) target := by
  obtain ⟨k, n, ⟨cl, A, q1, S, q3, H, G⟩, q⟩ := F
  have hin := own_inb S q (by rw [List.length_map]; exact hj)
  obtain ⟨T', h', X', e', W, st⟩ := stI X hx hZ eT A (j := j) (x := x) hin (g := g) hg hs hd
  refine ⟨T', h', X', e', W, ⟨k, n, ?_, by rw [q]; simp⟩, st⟩
  rw [List.map_set]
  exact Arv.set A q1 S q3 H G rfl W _ rfl (by rw [List.length_map]; exact own_ixlt hj)
theorem own_Longs.ext {xs : List Int64} (F : own_Longs Z h a xs) (E : Ext h h') : own_Longs Z h' a xs := own_Arr.ext F E
theorem own_Longs.other {xs : List Int64} (F : own_Longs Z h b xs) (W : Wr h h' a sl v) (q : b ≠ a) : own_Longs Z h' b xs := own_Arr.other F W q
theorem own_Longs.keep {xs : List Int64} (F : own_Longs Z h a xs) (K : Keep h h' ws) (q : a ∉ ws) : own_Longs Z h' a xs := own_Arr.keep F K q
theorem own_Longs.lt {xs : List Int64} (F : own_Longs Z h a xs) : a < h.size := own_Arr.lt F
theorem own_newJ {k : ClassId} {n : Int32} (A : Arr Z h a (newA k .long n) .long) (q : ¬ n < 0) : own_Longs Z h a (List.replicate n.toNatClampNeg 0) := by
  refine ⟨k, n, ?_, by simp⟩
  have := own_pad (Arv.new A q)
  rw [List.map_replicate]
  exact this
theorem own_laload {target : State} (X : Stand p l e R s m args below meth c T locs cells slots) (hx : p.tables.exec = Jvm.exec) (hZ : Z.Warmed39 s.vm) (eT : T.heap = h) {xs : List Int64} {j : Int32} (F : own_Longs Z h a xs) (hj : own_In j xs.length) {g : JFrame} (hg : g.method = m) {rest : List Value} (hs : g.stack = .int j :: .ref a :: rest) (hd : decode c.code g.pc = .ok (.laload, 1))
    (hr : Steps p.tables e below (T.setTop { g with pc := g.pc + 1, stack := .long (own_atJ xs j) :: rest }) target) : Steps p.tables e below (T.setTop g) target := by
  obtain ⟨k, n, ⟨cl, A, q1, S, q3, H, G⟩, q⟩ := F
  have hin := own_inb S q (by rw [List.length_map]; exact hj)
  exact X.laload hx (j := j) (v := .long (own_atJ xs j)) (by rw [eT]; exact A.1) (State.isArrayOf_alike hZ.alike A.2.1) A.2.2 hin (H.at hin (own_getDJ xs _)) (g := g) hg hs hd _ hr
theorem own_arrlenJ {target : State} (X : Stand p l e R s m args below meth c T locs cells slots) (hx : p.tables.exec = Jvm.exec) (hZ : Z.Warmed39 s.vm) (eT : T.heap = h) {xs : List Int64} (F : own_Longs Z h a xs) {g : JFrame} (hg : g.method = m) {rest : List Value} (hs : g.stack = .ref a :: rest) (hd : decode c.code g.pc = .ok (.arraylength, 1))
    (hr : Steps p.tables e below (T.setTop { g with pc := g.pc + 1, stack := .int (own_len xs) :: rest }) target) : Steps p.tables e below (T.setTop g) target := by
  obtain ⟨k, n, ⟨cl, A, q1, S, q3, H, G⟩, q⟩ := F
  refine X.arraylength hx (by rw [eT]; exact A.1) (State.isArrayOf_alike hZ.alike A.2.1) (g := g) hg hs hd _ ?_
  have e1 : cl.slots.size = xs.length := by rw [S, q, List.length_map]
  rw [e1]
  exact hr
theorem own_lastore (X : Stand p l e R s m args below meth c T locs cells slots) (hx : p.tables.exec = Jvm.exec) (hZ : Z.Warmed39 s.vm) (eT : T.heap = h) {xs : List Int64} {j : Int32} {x : Int64} (F : own_Longs Z h a xs) (hj : own_In j xs.length) {g : JFrame} (hg : g.method = m) {rest : List Value} (hs : g.stack = .long x :: .int j :: .ref a :: rest) (hd : decode c.code g.pc = .ok (.lastore, 1)) :
    ∃ T' h', Stand p l e R s m args below meth c T' (locs ++ [⟨a, j.toNatClampNeg⟩]) cells slots ∧ T'.heap = h' ∧ Wr h h' a j.toNatClampNeg (.long (x)) ∧ own_Longs Z h' a (xs.set j.toNatClampNeg (x)) ∧ ∀ target, Steps p.tables e below (T'.setTop { g with pc := g.pc + 1, stack := rest }) target → Steps p.tables e below (T.setTop g) target := by
  obtain ⟨k, n, ⟨cl, A, q1, S, q3, H, G⟩, q⟩ := F
  have hin := own_inb S q (by rw [List.length_map]; exact hj)
  obtain ⟨T', h', X', e', W, st⟩ := stJ X hx hZ eT A (j := j) (x := x) hin (g := g) hg hs hd
  refine ⟨T', h', X', e', W, ⟨k, n, ?_, by rw [q]; simp⟩, st⟩
  rw [List.map_set]
  exact Arv.set A q1 S q3 H G rfl W _ rfl (by rw [List.length_map]; exact own_ixlt hj)
theorem own_Bytes.ext {xs : List Int32} (F : own_Bytes Z h a xs) (E : Ext h h') : own_Bytes Z h' a xs := own_Arr.ext F E
theorem own_Bytes.other {xs : List Int32} (F : own_Bytes Z h b xs) (W : Wr h h' a sl v) (q : b ≠ a) : own_Bytes Z h' b xs := own_Arr.other F W q
theorem own_Bytes.keep {xs : List Int32} (F : own_Bytes Z h a xs) (K : Keep h h' ws) (q : a ∉ ws) : own_Bytes Z h' a xs := own_Arr.keep F K q
theorem own_Bytes.lt {xs : List Int32} (F : own_Bytes Z h a xs) : a < h.size := own_Arr.lt F
theorem own_newB {k : ClassId} {n : Int32} (A : Arr Z h a (newA k .byte n) .byte) (q : ¬ n < 0) : own_Bytes Z h a (List.replicate n.toNatClampNeg 0) := by
  refine ⟨k, n, ?_, by simp⟩
  have := own_pad (Arv.new A q)
  rw [List.map_replicate]
  exact this
theorem own_baload {target : State} (X : Stand p l e R s m args below meth c T locs cells slots) (hx : p.tables.exec = Jvm.exec) (hZ : Z.Warmed39 s.vm) (eT : T.heap = h) {xs : List Int32} {j : Int32} (F : own_Bytes Z h a xs) (hj : own_In j xs.length) {g : JFrame} (hg : g.method = m) {rest : List Value} (hs : g.stack = .int j :: .ref a :: rest) (hd : decode c.code g.pc = .ok (.baload, 1))
    (hr : Steps p.tables e below (T.setTop { g with pc := g.pc + 1, stack := .int (own_at xs j) :: rest }) target) : Steps p.tables e below (T.setTop g) target := by
  obtain ⟨k, n, ⟨cl, A, q1, S, q3, H, G⟩, q⟩ := F
  have hin := own_inb S q (by rw [List.length_map]; exact hj)
  exact X.baloadBytes hx (j := j) (v := .int (own_at xs j)) (by rw [eT]; exact A.1) (State.isArrayOf_alike hZ.alike A.2.1) A.2.2 hin (H.at hin (own_getD xs _)) (g := g) hg hs hd _ hr
theorem own_arrlenB {target : State} (X : Stand p l e R s m args below meth c T locs cells slots) (hx : p.tables.exec = Jvm.exec) (hZ : Z.Warmed39 s.vm) (eT : T.heap = h) {xs : List Int32} (F : own_Bytes Z h a xs) {g : JFrame} (hg : g.method = m) {rest : List Value} (hs : g.stack = .ref a :: rest) (hd : decode c.code g.pc = .ok (.arraylength, 1))
    (hr : Steps p.tables e below (T.setTop { g with pc := g.pc + 1, stack := .int (own_len xs) :: rest }) target) : Steps p.tables e below (T.setTop g) target := by
  obtain ⟨k, n, ⟨cl, A, q1, S, q3, H, G⟩, q⟩ := F
  refine X.arraylength hx (by rw [eT]; exact A.1) (State.isArrayOf_alike hZ.alike A.2.1) (g := g) hg hs hd _ ?_
  have e1 : cl.slots.size = xs.length := by rw [S, q, List.length_map]
  rw [e1]
  exact hr
theorem own_bastore (X : Stand p l e R s m args below meth c T locs cells slots) (hx : p.tables.exec = Jvm.exec) (hZ : Z.Warmed39 s.vm) (eT : T.heap = h) {xs : List Int32} {j : Int32} {x : Int32} (F : own_Bytes Z h a xs) (hj : own_In j xs.length) {g : JFrame} (hg : g.method = m) {rest : List Value} (hs : g.stack = .int x :: .int j :: .ref a :: rest) (hd : decode c.code g.pc = .ok (.bastore, 1)) :
    ∃ T' h', Stand p l e R s m args below meth c T' (locs ++ [⟨a, j.toNatClampNeg⟩]) cells slots ∧ T'.heap = h' ∧ Wr h h' a j.toNatClampNeg (.int (x.toInt8.toInt32)) ∧ own_Bytes Z h' a (xs.set j.toNatClampNeg (x.toInt8.toInt32)) ∧ ∀ target, Steps p.tables e below (T'.setTop { g with pc := g.pc + 1, stack := rest }) target → Steps p.tables e below (T.setTop g) target := by
  obtain ⟨k, n, ⟨cl, A, q1, S, q3, H, G⟩, q⟩ := F
  have hin := own_inb S q (by rw [List.length_map]; exact hj)
  obtain ⟨T', h', X', e', W, st⟩ := stB X hx hZ eT A (j := j) (x := x) hin (g := g) hg hs hd
  refine ⟨T', h', X', e', W, ⟨k, n, ?_, by rw [q]; simp⟩, st⟩
  rw [List.map_set]
  exact Arv.set A q1 S q3 H G (fits_nar_byte x) W _ rfl (by rw [List.length_map]; exact own_ixlt hj)
theorem own_Chars.ext {xs : List Int32} (F : own_Chars Z h a xs) (E : Ext h h') : own_Chars Z h' a xs := own_Arr.ext F E
theorem own_Chars.other {xs : List Int32} (F : own_Chars Z h b xs) (W : Wr h h' a sl v) (q : b ≠ a) : own_Chars Z h' b xs := own_Arr.other F W q
theorem own_Chars.keep {xs : List Int32} (F : own_Chars Z h a xs) (K : Keep h h' ws) (q : a ∉ ws) : own_Chars Z h' a xs := own_Arr.keep F K q
theorem own_Chars.lt {xs : List Int32} (F : own_Chars Z h a xs) : a < h.size := own_Arr.lt F
theorem own_newC {k : ClassId} {n : Int32} (A : Arr Z h a (newA k .char n) .char) (q : ¬ n < 0) : own_Chars Z h a (List.replicate n.toNatClampNeg 0) := by
  refine ⟨k, n, ?_, by simp⟩
  have := own_pad (Arv.new A q)
  rw [List.map_replicate]
  exact this
theorem own_caload {target : State} (X : Stand p l e R s m args below meth c T locs cells slots) (hx : p.tables.exec = Jvm.exec) (hZ : Z.Warmed39 s.vm) (eT : T.heap = h) {xs : List Int32} {j : Int32} (F : own_Chars Z h a xs) (hj : own_In j xs.length) {g : JFrame} (hg : g.method = m) {rest : List Value} (hs : g.stack = .int j :: .ref a :: rest) (hd : decode c.code g.pc = .ok (.caload, 1))
    (hr : Steps p.tables e below (T.setTop { g with pc := g.pc + 1, stack := .int (own_at xs j) :: rest }) target) : Steps p.tables e below (T.setTop g) target := by
  obtain ⟨k, n, ⟨cl, A, q1, S, q3, H, G⟩, q⟩ := F
  have hin := own_inb S q (by rw [List.length_map]; exact hj)
  exact X.caload hx (j := j) (v := .int (own_at xs j)) (by rw [eT]; exact A.1) (State.isArrayOf_alike hZ.alike A.2.1) A.2.2 hin (H.at hin (own_getD xs _)) (g := g) hg hs hd _ hr
theorem own_arrlenC {target : State} (X : Stand p l e R s m args below meth c T locs cells slots) (hx : p.tables.exec = Jvm.exec) (hZ : Z.Warmed39 s.vm) (eT : T.heap = h) {xs : List Int32} (F : own_Chars Z h a xs) {g : JFrame} (hg : g.method = m) {rest : List Value} (hs : g.stack = .ref a :: rest) (hd : decode c.code g.pc = .ok (.arraylength, 1))
    (hr : Steps p.tables e below (T.setTop { g with pc := g.pc + 1, stack := .int (own_len xs) :: rest }) target) : Steps p.tables e below (T.setTop g) target := by
  obtain ⟨k, n, ⟨cl, A, q1, S, q3, H, G⟩, q⟩ := F
  refine X.arraylength hx (by rw [eT]; exact A.1) (State.isArrayOf_alike hZ.alike A.2.1) (g := g) hg hs hd _ ?_
  have e1 : cl.slots.size = xs.length := by rw [S, q, List.length_map]
  rw [e1]
  exact hr
theorem own_castore (X : Stand p l e R s m args below meth c T locs cells slots) (hx : p.tables.exec = Jvm.exec) (hZ : Z.Warmed39 s.vm) (eT : T.heap = h) {xs : List Int32} {j : Int32} {x : Int32} (F : own_Chars Z h a xs) (hj : own_In j xs.length) {g : JFrame} (hg : g.method = m) {rest : List Value} (hs : g.stack = .int x :: .int j :: .ref a :: rest) (hd : decode c.code g.pc = .ok (.castore, 1)) :
    ∃ T' h', Stand p l e R s m args below meth c T' (locs ++ [⟨a, j.toNatClampNeg⟩]) cells slots ∧ T'.heap = h' ∧ Wr h h' a j.toNatClampNeg (.int (x.toUInt32.toUInt16.toUInt32.toInt32)) ∧ own_Chars Z h' a (xs.set j.toNatClampNeg (x.toUInt32.toUInt16.toUInt32.toInt32)) ∧ ∀ target, Steps p.tables e below (T'.setTop { g with pc := g.pc + 1, stack := rest }) target → Steps p.tables e below (T.setTop g) target := by
  obtain ⟨k, n, ⟨cl, A, q1, S, q3, H, G⟩, q⟩ := F
  have hin := own_inb S q (by rw [List.length_map]; exact hj)
  obtain ⟨T', h', X', e', W, st⟩ := stC X hx hZ eT A (j := j) (x := x) hin (g := g) hg hs hd
  refine ⟨T', h', X', e', W, ⟨k, n, ?_, by rw [q]; simp⟩, st⟩
  rw [List.map_set]
  exact Arv.set A q1 S q3 H G (fits_nar_char x) W _ rfl (by rw [List.length_map]; exact own_ixlt hj)
end OwnArr
theorem own_lit {j : Int32} {n : Nat} (h : (decide (0 ≤ j.toInt) && decide (j.toInt < (n : Int))) = true) : own_In j n := by
  simp only [Bool.and_eq_true, decide_eq_true_eq] at h; exact h
theorem own_pn0 : plainName "com/example/spare_calculus/sparecalculus/bisim/Partition" = true := by first | (simp [plainName, overriddenIn]; done) | decide +kernel
theorem d1_0 : decode prog_16_method_1_code 0 = .ok (.aload_n 0, 1) := by decide +kernel
theorem d1_1 : decode prog_16_method_1_code 1 = .ok (.invokespecial 1, 3) := by decide +kernel
theorem d1_4 : decode prog_16_method_1_code 4 = .ok (.aload_n 0, 1) := by decide +kernel
theorem d1_5 : decode prog_16_method_1_code 5 = .ok (.iload_n 1, 1) := by decide +kernel
theorem d1_6 : decode prog_16_method_1_code 6 = .ok (.newarray .int, 2) := by decide +kernel
theorem d1_8 : decode prog_16_method_1_code 8 = .ok (.putfield 7, 3) := by decide +kernel
theorem d1_11 : decode prog_16_method_1_code 11 = .ok (.aload_n 0, 1) := by decide +kernel
theorem d1_12 : decode prog_16_method_1_code 12 = .ok (.iload_n 1, 1) := by decide +kernel
theorem d1_13 : decode prog_16_method_1_code 13 = .ok (.newarray .int, 2) := by decide +kernel
theorem d1_15 : decode prog_16_method_1_code 15 = .ok (.putfield 13, 3) := by decide +kernel
theorem d1_18 : decode prog_16_method_1_code 18 = .ok (.iconst 0, 1) := by decide +kernel
theorem d1_19 : decode prog_16_method_1_code 19 = .ok (.istore_n 2, 1) := by decide +kernel
theorem d1_20 : decode prog_16_method_1_code 20 = .ok (.iload_n 2, 1) := by decide +kernel
theorem d1_21 : decode prog_16_method_1_code 21 = .ok (.iload_n 1, 1) := by decide +kernel
theorem d1_22 : decode prog_16_method_1_code 22 = .ok (.if_icmp .ge 23, 3) := by decide +kernel
theorem d1_25 : decode prog_16_method_1_code 25 = .ok (.aload_n 0, 1) := by decide +kernel
theorem d1_26 : decode prog_16_method_1_code 26 = .ok (.getfield 7, 3) := by decide +kernel
theorem d1_29 : decode prog_16_method_1_code 29 = .ok (.iload_n 2, 1) := by decide +kernel
theorem d1_30 : decode prog_16_method_1_code 30 = .ok (.iload_n 2, 1) := by decide +kernel
theorem d1_31 : decode prog_16_method_1_code 31 = .ok (.iastore, 1) := by decide +kernel
theorem d1_32 : decode prog_16_method_1_code 32 = .ok (.aload_n 0, 1) := by decide +kernel
theorem d1_33 : decode prog_16_method_1_code 33 = .ok (.getfield 13, 3) := by decide +kernel
theorem d1_36 : decode prog_16_method_1_code 36 = .ok (.iload_n 2, 1) := by decide +kernel
theorem d1_37 : decode prog_16_method_1_code 37 = .ok (.iload_n 2, 1) := by decide +kernel
theorem d1_38 : decode prog_16_method_1_code 38 = .ok (.iastore, 1) := by decide +kernel
theorem d1_39 : decode prog_16_method_1_code 39 = .ok (.iinc 2 1, 3) := by decide +kernel
theorem d1_42 : decode prog_16_method_1_code 42 = .ok (.goto (-22), 3) := by decide +kernel
theorem d1_45 : decode prog_16_method_1_code 45 = .ok (.aload_n 0, 1) := by decide +kernel
theorem d1_46 : decode prog_16_method_1_code 46 = .ok (.iload_n 1, 1) := by decide +kernel
theorem d1_47 : decode prog_16_method_1_code 47 = .ok (.newarray .int, 2) := by decide +kernel
theorem d1_49 : decode prog_16_method_1_code 49 = .ok (.putfield 16, 3) := by decide +kernel
theorem d1_52 : decode prog_16_method_1_code 52 = .ok (.aload_n 0, 1) := by decide +kernel
theorem d1_53 : decode prog_16_method_1_code 53 = .ok (.iload_n 1, 1) := by decide +kernel
theorem d1_54 : decode prog_16_method_1_code 54 = .ok (.newarray .int, 2) := by decide +kernel
theorem d1_56 : decode prog_16_method_1_code 56 = .ok (.putfield 19, 3) := by decide +kernel
theorem d1_59 : decode prog_16_method_1_code 59 = .ok (.aload_n 0, 1) := by decide +kernel
theorem d1_60 : decode prog_16_method_1_code 60 = .ok (.iload_n 1, 1) := by decide +kernel
theorem d1_61 : decode prog_16_method_1_code 61 = .ok (.newarray .int, 2) := by decide +kernel
theorem d1_63 : decode prog_16_method_1_code 63 = .ok (.putfield 22, 3) := by decide +kernel
theorem d1_66 : decode prog_16_method_1_code 66 = .ok (.aload_n 0, 1) := by decide +kernel
theorem d1_67 : decode prog_16_method_1_code 67 = .ok (.iload_n 1, 1) := by decide +kernel
theorem d1_68 : decode prog_16_method_1_code 68 = .ok (.newarray .int, 2) := by decide +kernel
theorem d1_70 : decode prog_16_method_1_code 70 = .ok (.putfield 25, 3) := by decide +kernel
theorem d1_73 : decode prog_16_method_1_code 73 = .ok (.aload_n 0, 1) := by decide +kernel
theorem d1_74 : decode prog_16_method_1_code 74 = .ok (.iload_n 1, 1) := by decide +kernel
theorem d1_75 : decode prog_16_method_1_code 75 = .ok (.newarray .int, 2) := by decide +kernel
theorem d1_77 : decode prog_16_method_1_code 77 = .ok (.putfield 28, 3) := by decide +kernel
theorem d1_80 : decode prog_16_method_1_code 80 = .ok (.aload_n 0, 1) := by decide +kernel
theorem d1_81 : decode prog_16_method_1_code 81 = .ok (.getfield 22, 3) := by decide +kernel
theorem d1_84 : decode prog_16_method_1_code 84 = .ok (.iconst 0, 1) := by decide +kernel
theorem d1_85 : decode prog_16_method_1_code 85 = .ok (.iload_n 1, 1) := by decide +kernel
theorem d1_86 : decode prog_16_method_1_code 86 = .ok (.iastore, 1) := by decide +kernel
theorem d1_87 : decode prog_16_method_1_code 87 = .ok (.aload_n 0, 1) := by decide +kernel
theorem d1_88 : decode prog_16_method_1_code 88 = .ok (.iconst 1, 1) := by decide +kernel
theorem d1_89 : decode prog_16_method_1_code 89 = .ok (.putfield 31, 3) := by decide +kernel
theorem d1_92 : decode prog_16_method_1_code 92 = .ok (.return_, 1) := by decide +kernel
theorem ef1n1 (m : MethodId) (a0 : Addr) : entryFrame m #[(.ref a0), (.int (1:Int32))] 3 = mkF m 0 #[rv a0, iv (1:Int32), .unset] [] := by first | (simp [entryFrame, mkF, argsToLocals, Value.category]; done) | rfl
def Q1n1 (Z : State) (a0 : Addr)  (h0 : Heap) (n0 : Nat) (v : Option Value) (h : Heap) (L : List Loc) : Prop := v = none ∧ Fr n0 L ∧ Keep h0 h [a0] ∧ ∃ e1 : Addr, ∃ e2 : Addr, ∃ e3 : Addr, ∃ e4 : Addr, ∃ e5 : Addr, ∃ e6 : Addr, ∃ e7 : Addr, h0.size ≤ e1 ∧ h0.size ≤ e2 ∧ h0.size ≤ e3 ∧ h0.size ≤ e4 ∧ h0.size ≤ e5 ∧ h0.size ≤ e6 ∧ h0.size ≤ e7 ∧ e1 ≠ e2 ∧ e1 ≠ e3 ∧ e1 ≠ e4 ∧ e1 ≠ e5 ∧ e1 ≠ e6 ∧ e1 ≠ e7 ∧ e2 ≠ e3 ∧ e2 ≠ e4 ∧ e2 ≠ e5 ∧ e2 ≠ e6 ∧ e2 ≠ e7 ∧ e3 ≠ e4 ∧ e3 ≠ e5 ∧ e3 ≠ e6 ∧ e3 ≠ e7 ∧ e4 ≠ e5 ∧ e4 ≠ e6 ∧ e4 ≠ e7 ∧ e5 ≠ e6 ∧ e5 ≠ e7 ∧ e6 ≠ e7 ∧ Fld Z h a0 "com/example/spare_calculus/sparecalculus/bisim/Partition" "elements" "[I" (.ref e1) ∧ Fld Z h a0 "com/example/spare_calculus/sparecalculus/bisim/Partition" "positions" "[I" (.ref e2) ∧ Fld Z h a0 "com/example/spare_calculus/sparecalculus/bisim/Partition" "blockOf" "[I" (.ref e3) ∧ Fld Z h a0 "com/example/spare_calculus/sparecalculus/bisim/Partition" "blockStart" "[I" (.ref e4) ∧ Fld Z h a0 "com/example/spare_calculus/sparecalculus/bisim/Partition" "blockEnd" "[I" (.ref e5) ∧ Fld Z h a0 "com/example/spare_calculus/sparecalculus/bisim/Partition" "blockMarkedEnd" "[I" (.ref e6) ∧ Fld Z h a0 "com/example/spare_calculus/sparecalculus/bisim/Partition" "touchedBlocks" "[I" (.ref e7) ∧ Fld Z h a0 "com/example/spare_calculus/sparecalculus/bisim/Partition" "blockCount" "I" (.int (1:Int32)) ∧ Fld Z h a0 "com/example/spare_calculus/sparecalculus/bisim/Partition" "touchedBlockCount" "I" (.int (0:Int32)) ∧ own_Ints Z h e1 [(0:Int32)] ∧ own_Ints Z h e2 [(0:Int32)] ∧ own_Ints Z h e3 [(0:Int32)] ∧ own_Ints Z h e4 [(0:Int32)] ∧ own_Ints Z h e5 [(1:Int32)] ∧ own_Ints Z h e6 [(0:Int32)] ∧ own_Ints Z h e7 [(0:Int32)]
set_option maxRecDepth 65536 in
set_option maxHeartbeats 40000000 in
theorem rm1n1 (l : Launch) (Z : State) (aZ : Array Value) (hw : ∀ d ∈ tables_1, d.before aZ Z = true) (ws : List Jvm.Cond) (a0 : Addr)  (h0 : Heap) (n0 : Nat) (Z0 : n0 ≤ h0.size) (P0 : Exa Z h0 a0 "com/example/spare_calculus/sparecalculus/bisim/Partition") (P1 : Fld Z h0 a0 "com/example/spare_calculus/sparecalculus/bisim/Partition" "elements" "[I" .null) (P2 : Fld Z h0 a0 "com/example/spare_calculus/sparecalculus/bisim/Partition" "positions" "[I" .null) (P3 : Fld Z h0 a0 "com/example/spare_calculus/sparecalculus/bisim/Partition" "blockOf" "[I" .null) (P4 : Fld Z h0 a0 "com/example/spare_calculus/sparecalculus/bisim/Partition" "blockStart" "[I" .null) (P5 : Fld Z h0 a0 "com/example/spare_calculus/sparecalculus/bisim/Partition" "blockEnd" "[I" .null) (P6 : Fld Z h0 a0 "com/example/spare_calculus/sparecalculus/bisim/Partition" "blockMarkedEnd" "[I" .null) (P7 : Fld Z h0 a0 "com/example/spare_calculus/sparecalculus/bisim/Partition" "touchedBlocks" "[I" .null) (P8 : Fld Z h0 a0 "com/example/spare_calculus/sparecalculus/bisim/Partition" "blockCount" "I" (.int (0:Int32))) (P9 : Fld Z h0 a0 "com/example/spare_calculus/sparecalculus/bisim/Partition" "touchedBlockCount" "I" (.int (0:Int32))) (gq_a0 : n0 ≤ a0) :
    MetFree l (⟨"com/example/spare_calculus/sparecalculus/bisim/Partition", "<init>", "(I)V"⟩ : MethodName) (head1 (Jvm.Cond.code (⟨"com/example/spare_calculus/sparecalculus/bisim/Partition", "<init>", "(I)V"⟩ : MethodName) prog_16_method_1_code 3 none :: ws) ({ frames := 1, cells := 7, slots := 7, locals := 12 } : Room)) (fun a U => a = #[(.ref a0), (.int (1:Int32))] ∧ Z.Warmed39 U.vm ∧ U.heap = h0) (fun _ _ _ _ _ => True) (fun _ U o U' => ∃ v L, o = .returned v ∧ Q1n1 Z a0 h0 n0 v U'.heap L ∧ FrameEnd U o U' L ({ frames := 1, cells := 7, slots := 7, locals := 12 } : Room).cells ({ frames := 1, cells := 7, slots := 7, locals := 12 } : Room).slots) := by
  refine MetFree.of_bodySF (plainFor_of_name own_pn0) hisR ?_
  intro p e s m args below meth c s₁ Bd hml0 hP hK
  obtain ⟨rfl, hZ, hh⟩ := hP
  have hx := Bd.exec
  have hby := Bd.bytes
  have hml : c.maxLocals = 3 := hml0
  have hown : s.vm.findClass "com/example/spare_calculus/sparecalculus/bisim/Partition" = some m.cls := findClass_of_methodNamed Bd.named
  have hnm := (name_of_methodNamed Bd.named Bd.method).1
  have X0 : Stand p l e ({ frames := 1, cells := 7, slots := 7, locals := 12 } : Room) s m #[(.ref a0), (.int (1:Int32))] below meth c s₁ [] 0 0 := Stand.of_body Bd
  have e0 : s₁.heap = h0 := by rw [← hh, Bd.state]; rfl
  have N0 := Fr.nil n0
  have Kp0 : Keep h0 h0 [a0] := Keep.refl _ _
  show own_Goes p e below s (Q1n1 Z a0 h0 n0) ({ frames := 1, cells := 7, slots := 7, locals := 12 } : Room).cells ({ frames := 1, cells := 7, slots := 7, locals := 12 } : Room).slots _
  refine own_pre (fun t k => castTop (ef1n1 m a0) k) ?_
  refine own_pre (A := s₁.setTop (mkF m 1 #[rv a0, iv (1:Int32), .unset] [(.ref a0)])) (fun t k => ?_) ?_
  · show Steps p.tables e below (s₁.setTop (mkF m 0 #[rv a0, iv (1:Int32), .unset] [])) _
    refine XS.aloadN X0.here hx rfl (hb hby d1_0) rfl rfl ?_
    exact k
  obtain ⟨T1, X1, e1, st1⟩ := initO X0 hx hZ hown (own_h hw 7 rfl) (own_h hw 8 rfl) (own_h hw 9 rfl) e0 (g := (mkF m 1 #[rv a0, iv (1:Int32), .unset] [(.ref a0)])) rfl (by rw [hml]; rfl) rfl (hb hby d1_1) (by decide) (W := 0) (by show 2 * 0 + _ ≤ _; exact Nat.le_of_eq rfl) (by decide)
  refine own_pre st1 ?_
  refine own_pre (A := T1.setTop (mkF m 6 #[rv a0, iv (1:Int32), .unset] [(.int (1:Int32)), (.ref a0)])) (fun t k => ?_) ?_
  · show Steps p.tables e below (T1.setTop (mkF m 4 #[rv a0, iv (1:Int32), .unset] [])) _
    refine XS.aloadN X1.here hx rfl (hb hby d1_4) rfl rfl ?_
    show Steps p.tables e below (T1.setTop (mkF m 5 #[rv a0, iv (1:Int32), .unset] [(.ref a0)])) _
    refine XS.iloadN X1.here hx rfl (hb hby d1_5) rfl ?_
    exact k
  obtain ⟨T2, h2, k2, X2, e2, E2, A2, st2⟩ := newP X1 hx hZ (own_h hw 10 rfl) e1 (g := (mkF m 6 #[rv a0, iv (1:Int32), .unset] [(.int (1:Int32)), (.ref a0)])) rfl (hb hby d1_6) rfl (by decide) (cap := 1) (by decide) (by decide) (by decide) (by decide)
  obtain ⟨b2, g2⟩ : ∃ z, z = h0.size := ⟨_, rfl⟩
  rw [← g2] at A2 st2
  have ge_b2 : n0 ≤ b2 := Nat.le_trans Z0 (Nat.le_of_eq g2.symm)
  have sz_b2 : h0.size ≤ b2 := Nat.le_trans Kp0.1 (Nat.le_of_eq g2.symm)
  have ne_a0_b2 : a0 ≠ b2 := Nat.ne_of_lt (Nat.lt_of_lt_of_le P0.lt (Nat.le_of_eq g2.symm))
  have Kp2 : Keep h0 h2 [a0] := Kp0.ext E2
  have Z3 : n0 ≤ h2.size := Nat.le_trans Z0 E2.1
  have V2 : own_Ints Z h2 b2 [(0:Int32)] := own_newI A2 (by decide)
  refine own_pre st2 ?_
  have F5 := (P0.ext E2)
  have F6 := (P1.ext E2)
  obtain ⟨T4, h4, X4, e4, W4, st4⟩ := putF X2 hx hZ hown (host := "") (Or.inl (own_h hw 11 rfl)) Via.refl e2 F6 F5 (Or.inr ⟨(own_h hw 12 rfl), rfl, hnm⟩) (own_h hw 2 rfl) (ty := (.array .int)) (by decide) rfl rfl (g := (mkF m 8 #[rv a0, iv (1:Int32), .unset] [(.ref b2), (.ref a0)])) rfl rfl (hb hby d1_8)
  have Kp4 : Keep h0 h4 [a0] := Kp2.wr W4 (Or.inl (List.mem_of_getElem? (i := 0) rfl))
  have Z7 : n0 ≤ h4.size := Nat.le_trans Z3 (Nat.le_of_eq W4.size.symm)
  have N4 := Fr.snoc X4 N0 gq_a0
  have Fw4 := F6.same W4
  refine own_pre st4 ?_
  refine own_pre (A := T4.setTop (mkF m 13 #[rv a0, iv (1:Int32), .unset] [(.int (1:Int32)), (.ref a0)])) (fun t k => ?_) ?_
  · show Steps p.tables e below (T4.setTop (mkF m 11 #[rv a0, iv (1:Int32), .unset] [])) _
    refine XS.aloadN X4.here hx rfl (hb hby d1_11) rfl rfl ?_
    show Steps p.tables e below (T4.setTop (mkF m 12 #[rv a0, iv (1:Int32), .unset] [(.ref a0)])) _
    refine XS.iloadN X4.here hx rfl (hb hby d1_12) rfl ?_
    exact k
  have F9 := (F5.wr W4)
  have F10 := (V2.other W4 (Ne.symm ne_a0_b2))
  obtain ⟨T8, h8, k8, X8, e8, E8, A8, st8⟩ := newP X4 hx hZ (own_h hw 10 rfl) e4 (g := (mkF m 13 #[rv a0, iv (1:Int32), .unset] [(.int (1:Int32)), (.ref a0)])) rfl (hb hby d1_13) rfl (by decide) (cap := 1) (by decide) (by decide) (by decide) (by decide)
  obtain ⟨b8, g8⟩ : ∃ z, z = h4.size := ⟨_, rfl⟩
  rw [← g8] at A8 st8
  have ge_b8 : n0 ≤ b8 := Nat.le_trans Z7 (Nat.le_of_eq g8.symm)
  have sz_b8 : h0.size ≤ b8 := Nat.le_trans Kp4.1 (Nat.le_of_eq g8.symm)
  have ne_a0_b8 : a0 ≠ b8 := Nat.ne_of_lt (Nat.lt_of_lt_of_le F9.lt (Nat.le_of_eq g8.symm))
  have ne_b2_b8 : b2 ≠ b8 := Nat.ne_of_lt (Nat.lt_of_lt_of_le F10.lt (Nat.le_of_eq g8.symm))
  have Kp8 : Keep h0 h8 [a0] := Kp4.ext E8
  have Z11 : n0 ≤ h8.size := Nat.le_trans Z7 E8.1
  have V8 : own_Ints Z h8 b8 [(0:Int32)] := own_newI A8 (by decide)
  refine own_pre st8 ?_
  have F13 := (F9.ext E8)
  have F14 := (((P2.ext E2).other W4 (Or.inr (slot_ne (Or.inr (own_h hw 14 rfl)) (Or.inr (own_h hw 12 rfl)) (by decide) (t := (.array .int)) (t' := (.array .int)) (by decide) (by decide)))).ext E8)
  obtain ⟨T12, h12, X12, e12, W12, st12⟩ := putF X8 hx hZ hown (host := "") (Or.inl (own_h hw 13 rfl)) Via.refl e8 F14 F13 (Or.inr ⟨(own_h hw 14 rfl), rfl, hnm⟩) (own_h hw 2 rfl) (ty := (.array .int)) (by decide) rfl rfl (g := (mkF m 15 #[rv a0, iv (1:Int32), .unset] [(.ref b8), (.ref a0)])) rfl rfl (hb hby d1_15)
  have Kp12 : Keep h0 h12 [a0] := Kp8.wr W12 (Or.inl (List.mem_of_getElem? (i := 0) rfl))
  have Z15 : n0 ≤ h12.size := Nat.le_trans Z11 (Nat.le_of_eq W12.size.symm)
  have N12 := Fr.snoc X12 N4 gq_a0
  have Fw12 := F14.same W12
  refine own_pre st12 ?_
  refine own_pre (A := T12.setTop (mkF m 26 #[rv a0, iv (1:Int32), iv (0:Int32)] [(.ref a0)])) (fun t k => ?_) ?_
  · show Steps p.tables e below (T12.setTop (mkF m 18 #[rv a0, iv (1:Int32), .unset] [])) _
    refine XS.iconst X12.here hx rfl (hb hby d1_18) ?_
    show Steps p.tables e below (T12.setTop (mkF m 19 #[rv a0, iv (1:Int32), .unset] [(.int (0:Int32))])) _
    refine XS.istoreN X12.here hx rfl (hb hby d1_19) rfl (l' := #[rv a0, iv (1:Int32), iv (0:Int32)]) rfl ?_
    show Steps p.tables e below (T12.setTop (mkF m 20 #[rv a0, iv (1:Int32), iv (0:Int32)] [])) _
    refine XS.iloadN X12.here hx rfl (hb hby d1_20) rfl ?_
    show Steps p.tables e below (T12.setTop (mkF m 21 #[rv a0, iv (1:Int32), iv (0:Int32)] [(.int (0:Int32))])) _
    refine XS.iloadN X12.here hx rfl (hb hby d1_21) rfl ?_
    show Steps p.tables e below (T12.setTop (mkF m 22 #[rv a0, iv (1:Int32), iv (0:Int32)] [(.int (1:Int32)), (.int (0:Int32))])) _
    refine XS.icmpNo X12.here hx rfl (hb hby d1_22) rfl (XT.ii_ge_f (by decide)) ?_
    show Steps p.tables e below (T12.setTop (mkF m 25 #[rv a0, iv (1:Int32), iv (0:Int32)] [])) _
    refine XS.aloadN X12.here hx rfl (hb hby d1_25) rfl rfl ?_
    exact k
  have F17 := ((Fw4.ext E8).other W12 (Or.inr (slot_ne (Or.inr (own_h hw 12 rfl)) (Or.inr (own_h hw 14 rfl)) (by decide) (t := (.array .int)) (t' := (.array .int)) (by decide) (by decide))))
  obtain ⟨T16, X16, e16, st16⟩ := getF X12 hx hZ hown (host := "") (Or.inl (own_h hw 11 rfl)) Via.refl e12 F17 (g := (mkF m 26 #[rv a0, iv (1:Int32), iv (0:Int32)] [(.ref a0)])) rfl rfl (hb hby d1_26)
  refine own_pre st16 ?_
  refine own_pre (A := T16.setTop (mkF m 31 #[rv a0, iv (1:Int32), iv (0:Int32)] [(.int (0:Int32)), (.int (0:Int32)), (.ref b2)])) (fun t k => ?_) ?_
  · show Steps p.tables e below (T16.setTop (mkF m 29 #[rv a0, iv (1:Int32), iv (0:Int32)] [(.ref b2)])) _
    refine XS.iloadN X16.here hx rfl (hb hby d1_29) rfl ?_
    show Steps p.tables e below (T16.setTop (mkF m 30 #[rv a0, iv (1:Int32), iv (0:Int32)] [(.int (0:Int32)), (.ref b2)])) _
    refine XS.iloadN X16.here hx rfl (hb hby d1_30) rfl ?_
    exact k
  have F19 := ((F10.ext E8).other W12 (Ne.symm ne_a0_b2))
  have hbn20 : own_In (0:Int32) [(0:Int32)].length := own_lit rfl
  obtain ⟨T18, h18, X18, e18, W18, V18, st18⟩ := own_iastore X16 hx hZ e16 F19 (j := (0:Int32)) (x := (0:Int32)) hbn20 (g := (mkF m 31 #[rv a0, iv (1:Int32), iv (0:Int32)] [(.int (0:Int32)), (.int (0:Int32)), (.ref b2)])) rfl rfl (hb hby d1_31)
  have Kp18 : Keep h0 h18 [a0] := Kp12.wr W18 (Or.inr sz_b2)
  have Z21 : n0 ≤ h18.size := Nat.le_trans Z15 (Nat.le_of_eq W18.size.symm)
  have N18 := Fr.snoc X18 N12 ge_b2
  have Vw18 : own_Ints Z h18 b2 [(0:Int32)] := V18
  refine own_pre st18 ?_
  refine own_pre (A := T18.setTop (mkF m 33 #[rv a0, iv (1:Int32), iv (0:Int32)] [(.ref a0)])) (fun t k => ?_) ?_
  · show Steps p.tables e below (T18.setTop (mkF m 32 #[rv a0, iv (1:Int32), iv (0:Int32)] [])) _
    refine XS.aloadN X18.here hx rfl (hb hby d1_32) rfl rfl ?_
    exact k
  have F23 := (Fw12.other W18 (Or.inl ne_a0_b2))
  obtain ⟨T22, X22, e22, st22⟩ := getF X18 hx hZ hown (host := "") (Or.inl (own_h hw 13 rfl)) Via.refl e18 F23 (g := (mkF m 33 #[rv a0, iv (1:Int32), iv (0:Int32)] [(.ref a0)])) rfl rfl (hb hby d1_33)
  refine own_pre st22 ?_
  refine own_pre (A := T22.setTop (mkF m 38 #[rv a0, iv (1:Int32), iv (0:Int32)] [(.int (0:Int32)), (.int (0:Int32)), (.ref b8)])) (fun t k => ?_) ?_
  · show Steps p.tables e below (T22.setTop (mkF m 36 #[rv a0, iv (1:Int32), iv (0:Int32)] [(.ref b8)])) _
    refine XS.iloadN X22.here hx rfl (hb hby d1_36) rfl ?_
    show Steps p.tables e below (T22.setTop (mkF m 37 #[rv a0, iv (1:Int32), iv (0:Int32)] [(.int (0:Int32)), (.ref b8)])) _
    refine XS.iloadN X22.here hx rfl (hb hby d1_37) rfl ?_
    exact k
  have F25 := ((V8.other W12 (Ne.symm ne_a0_b8)).other W18 (Ne.symm ne_b2_b8))
  have hbn26 : own_In (0:Int32) [(0:Int32)].length := own_lit rfl
  obtain ⟨T24, h24, X24, e24, W24, V24, st24⟩ := own_iastore X22 hx hZ e22 F25 (j := (0:Int32)) (x := (0:Int32)) hbn26 (g := (mkF m 38 #[rv a0, iv (1:Int32), iv (0:Int32)] [(.int (0:Int32)), (.int (0:Int32)), (.ref b8)])) rfl rfl (hb hby d1_38)
  have Kp24 : Keep h0 h24 [a0] := Kp18.wr W24 (Or.inr sz_b8)
  have Z27 : n0 ≤ h24.size := Nat.le_trans Z21 (Nat.le_of_eq W24.size.symm)
  have N24 := Fr.snoc X24 N18 ge_b8
  have Vw24 : own_Ints Z h24 b8 [(0:Int32)] := V24
  refine own_pre st24 ?_
  refine own_pre (A := T24.setTop (mkF m 47 #[rv a0, iv (1:Int32), iv (1:Int32)] [(.int (1:Int32)), (.ref a0)])) (fun t k => ?_) ?_
  · show Steps p.tables e below (T24.setTop (mkF m 39 #[rv a0, iv (1:Int32), iv (0:Int32)] [])) _
    refine XS.iinc X24.here hx rfl (hb hby d1_39) rfl (l' := #[rv a0, iv (1:Int32), iv (1:Int32)]) rfl ?_
    show Steps p.tables e below (T24.setTop (mkF m 42 #[rv a0, iv (1:Int32), iv (1:Int32)] [])) _
    refine XS.goto X24.here hx rfl (pc0 := 42) (pc' := 20) rfl (hb hby d1_42) (by decide) (by decide) ?_
    show Steps p.tables e below (T24.setTop (mkF m 20 #[rv a0, iv (1:Int32), iv (1:Int32)] [])) _
    refine XS.iloadN X24.here hx rfl (hb hby d1_20) rfl ?_
    show Steps p.tables e below (T24.setTop (mkF m 21 #[rv a0, iv (1:Int32), iv (1:Int32)] [(.int (1:Int32))])) _
    refine XS.iloadN X24.here hx rfl (hb hby d1_21) rfl ?_
    show Steps p.tables e below (T24.setTop (mkF m 22 #[rv a0, iv (1:Int32), iv (1:Int32)] [(.int (1:Int32)), (.int (1:Int32))])) _
    refine XS.icmpYes X24.here hx rfl (pc0 := 22) (pc' := 45) rfl (hb hby d1_22) rfl (XT.ii_ge_t (by decide)) (by decide) (by decide) ?_
    show Steps p.tables e below (T24.setTop (mkF m 45 #[rv a0, iv (1:Int32), iv (1:Int32)] [])) _
    refine XS.aloadN X24.here hx rfl (hb hby d1_45) rfl rfl ?_
    show Steps p.tables e below (T24.setTop (mkF m 46 #[rv a0, iv (1:Int32), iv (1:Int32)] [(.ref a0)])) _
    refine XS.iloadN X24.here hx rfl (hb hby d1_46) rfl ?_
    exact k
  have F29 := (((F13.wr W12).wr W18).wr W24)
  have F30 := (Vw18.other W24 ne_b2_b8)
  obtain ⟨T28, h28, k28, X28, e28, E28, A28, st28⟩ := newP X24 hx hZ (own_h hw 10 rfl) e24 (g := (mkF m 47 #[rv a0, iv (1:Int32), iv (1:Int32)] [(.int (1:Int32)), (.ref a0)])) rfl (hb hby d1_47) rfl (by decide) (cap := 1) (by decide) (by decide) (by decide) (by decide)
  obtain ⟨b28, g28⟩ : ∃ z, z = h24.size := ⟨_, rfl⟩
  rw [← g28] at A28 st28
  have ge_b28 : n0 ≤ b28 := Nat.le_trans Z27 (Nat.le_of_eq g28.symm)
  have sz_b28 : h0.size ≤ b28 := Nat.le_trans Kp24.1 (Nat.le_of_eq g28.symm)
  have ne_a0_b28 : a0 ≠ b28 := Nat.ne_of_lt (Nat.lt_of_lt_of_le F29.lt (Nat.le_of_eq g28.symm))
  have ne_b2_b28 : b2 ≠ b28 := Nat.ne_of_lt (Nat.lt_of_lt_of_le F30.lt (Nat.le_of_eq g28.symm))
  have ne_b8_b28 : b8 ≠ b28 := Nat.ne_of_lt (Nat.lt_of_lt_of_le Vw24.lt (Nat.le_of_eq g28.symm))
  have Kp28 : Keep h0 h28 [a0] := Kp24.ext E28
  have Z31 : n0 ≤ h28.size := Nat.le_trans Z27 E28.1
  have V28 : own_Ints Z h28 b28 [(0:Int32)] := own_newI A28 (by decide)
  refine own_pre st28 ?_
  have F33 := (F29.ext E28)
  have F34 := (((((((P3.ext E2).other W4 (Or.inr (slot_ne (Or.inr (own_h hw 16 rfl)) (Or.inr (own_h hw 12 rfl)) (by decide) (t := (.array .int)) (t' := (.array .int)) (by decide) (by decide)))).ext E8).other W12 (Or.inr (slot_ne (Or.inr (own_h hw 16 rfl)) (Or.inr (own_h hw 14 rfl)) (by decide) (t := (.array .int)) (t' := (.array .int)) (by decide) (by decide)))).other W18 (Or.inl ne_a0_b2)).other W24 (Or.inl ne_a0_b8)).ext E28)
  obtain ⟨T32, h32, X32, e32, W32, st32⟩ := putF X28 hx hZ hown (host := "") (Or.inl (own_h hw 15 rfl)) Via.refl e28 F34 F33 (Or.inr ⟨(own_h hw 16 rfl), rfl, hnm⟩) (own_h hw 2 rfl) (ty := (.array .int)) (by decide) rfl rfl (g := (mkF m 49 #[rv a0, iv (1:Int32), iv (1:Int32)] [(.ref b28), (.ref a0)])) rfl rfl (hb hby d1_49)
  have Kp32 : Keep h0 h32 [a0] := Kp28.wr W32 (Or.inl (List.mem_of_getElem? (i := 0) rfl))
  have Z35 : n0 ≤ h32.size := Nat.le_trans Z31 (Nat.le_of_eq W32.size.symm)
  have N32 := Fr.snoc X32 N24 gq_a0
  have Fw32 := F34.same W32
  refine own_pre st32 ?_
  refine own_pre (A := T32.setTop (mkF m 54 #[rv a0, iv (1:Int32), iv (1:Int32)] [(.int (1:Int32)), (.ref a0)])) (fun t k => ?_) ?_
  · show Steps p.tables e below (T32.setTop (mkF m 52 #[rv a0, iv (1:Int32), iv (1:Int32)] [])) _
    refine XS.aloadN X32.here hx rfl (hb hby d1_52) rfl rfl ?_
    show Steps p.tables e below (T32.setTop (mkF m 53 #[rv a0, iv (1:Int32), iv (1:Int32)] [(.ref a0)])) _
    refine XS.iloadN X32.here hx rfl (hb hby d1_53) rfl ?_
    exact k
  have F37 := (F33.wr W32)
  have F38 := ((F30.ext E28).other W32 (Ne.symm ne_a0_b2))
  have F39 := (V28.other W32 (Ne.symm ne_a0_b28))
  have F40 := ((Vw24.ext E28).other W32 (Ne.symm ne_a0_b8))
  obtain ⟨T36, h36, k36, X36, e36, E36, A36, st36⟩ := newP X32 hx hZ (own_h hw 10 rfl) e32 (g := (mkF m 54 #[rv a0, iv (1:Int32), iv (1:Int32)] [(.int (1:Int32)), (.ref a0)])) rfl (hb hby d1_54) rfl (by decide) (cap := 1) (by decide) (by decide) (by decide) (by decide)
  obtain ⟨b36, g36⟩ : ∃ z, z = h32.size := ⟨_, rfl⟩
  rw [← g36] at A36 st36
  have ge_b36 : n0 ≤ b36 := Nat.le_trans Z35 (Nat.le_of_eq g36.symm)
  have sz_b36 : h0.size ≤ b36 := Nat.le_trans Kp32.1 (Nat.le_of_eq g36.symm)
  have ne_a0_b36 : a0 ≠ b36 := Nat.ne_of_lt (Nat.lt_of_lt_of_le F37.lt (Nat.le_of_eq g36.symm))
  have ne_b2_b36 : b2 ≠ b36 := Nat.ne_of_lt (Nat.lt_of_lt_of_le F38.lt (Nat.le_of_eq g36.symm))
  have ne_b28_b36 : b28 ≠ b36 := Nat.ne_of_lt (Nat.lt_of_lt_of_le F39.lt (Nat.le_of_eq g36.symm))
  have ne_b8_b36 : b8 ≠ b36 := Nat.ne_of_lt (Nat.lt_of_lt_of_le F40.lt (Nat.le_of_eq g36.symm))
  have Kp36 : Keep h0 h36 [a0] := Kp32.ext E36
  have Z41 : n0 ≤ h36.size := Nat.le_trans Z35 E36.1
  have V36 : own_Ints Z h36 b36 [(0:Int32)] := own_newI A36 (by decide)
  refine own_pre st36 ?_
  have F43 := (F37.ext E36)
  have F44 := (((((((((P4.ext E2).other W4 (Or.inr (slot_ne (Or.inr (own_h hw 18 rfl)) (Or.inr (own_h hw 12 rfl)) (by decide) (t := (.array .int)) (t' := (.array .int)) (by decide) (by decide)))).ext E8).other W12 (Or.inr (slot_ne (Or.inr (own_h hw 18 rfl)) (Or.inr (own_h hw 14 rfl)) (by decide) (t := (.array .int)) (t' := (.array .int)) (by decide) (by decide)))).other W18 (Or.inl ne_a0_b2)).other W24 (Or.inl ne_a0_b8)).ext E28).other W32 (Or.inr (slot_ne (Or.inr (own_h hw 18 rfl)) (Or.inr (own_h hw 16 rfl)) (by decide) (t := (.array .int)) (t' := (.array .int)) (by decide) (by decide)))).ext E36)
  obtain ⟨T42, h42, X42, e42, W42, st42⟩ := putF X36 hx hZ hown (host := "") (Or.inl (own_h hw 17 rfl)) Via.refl e36 F44 F43 (Or.inr ⟨(own_h hw 18 rfl), rfl, hnm⟩) (own_h hw 2 rfl) (ty := (.array .int)) (by decide) rfl rfl (g := (mkF m 56 #[rv a0, iv (1:Int32), iv (1:Int32)] [(.ref b36), (.ref a0)])) rfl rfl (hb hby d1_56)
  have Kp42 : Keep h0 h42 [a0] := Kp36.wr W42 (Or.inl (List.mem_of_getElem? (i := 0) rfl))
  have Z45 : n0 ≤ h42.size := Nat.le_trans Z41 (Nat.le_of_eq W42.size.symm)
  have N42 := Fr.snoc X42 N32 gq_a0
  have Fw42 := F44.same W42
  refine own_pre st42 ?_
  refine own_pre (A := T42.setTop (mkF m 61 #[rv a0, iv (1:Int32), iv (1:Int32)] [(.int (1:Int32)), (.ref a0)])) (fun t k => ?_) ?_
  · show Steps p.tables e below (T42.setTop (mkF m 59 #[rv a0, iv (1:Int32), iv (1:Int32)] [])) _
    refine XS.aloadN X42.here hx rfl (hb hby d1_59) rfl rfl ?_
    show Steps p.tables e below (T42.setTop (mkF m 60 #[rv a0, iv (1:Int32), iv (1:Int32)] [(.ref a0)])) _
    refine XS.iloadN X42.here hx rfl (hb hby d1_60) rfl ?_
    exact k
  have F47 := (F43.wr W42)
  have F48 := ((F38.ext E36).other W42 (Ne.symm ne_a0_b2))
  have F49 := ((F39.ext E36).other W42 (Ne.symm ne_a0_b28))
  have F50 := (V36.other W42 (Ne.symm ne_a0_b36))
  have F51 := ((F40.ext E36).other W42 (Ne.symm ne_a0_b8))
  obtain ⟨T46, h46, k46, X46, e46, E46, A46, st46⟩ := newP X42 hx hZ (own_h hw 10 rfl) e42 (g := (mkF m 61 #[rv a0, iv (1:Int32), iv (1:Int32)] [(.int (1:Int32)), (.ref a0)])) rfl (hb hby d1_61) rfl (by decide) (cap := 1) (by decide) (by decide) (by decide) (by decide)
  obtain ⟨b46, g46⟩ : ∃ z, z = h42.size := ⟨_, rfl⟩
  rw [← g46] at A46 st46
  have ge_b46 : n0 ≤ b46 := Nat.le_trans Z45 (Nat.le_of_eq g46.symm)
  have sz_b46 : h0.size ≤ b46 := Nat.le_trans Kp42.1 (Nat.le_of_eq g46.symm)
  have ne_a0_b46 : a0 ≠ b46 := Nat.ne_of_lt (Nat.lt_of_lt_of_le F47.lt (Nat.le_of_eq g46.symm))
  have ne_b2_b46 : b2 ≠ b46 := Nat.ne_of_lt (Nat.lt_of_lt_of_le F48.lt (Nat.le_of_eq g46.symm))
  have ne_b28_b46 : b28 ≠ b46 := Nat.ne_of_lt (Nat.lt_of_lt_of_le F49.lt (Nat.le_of_eq g46.symm))
  have ne_b36_b46 : b36 ≠ b46 := Nat.ne_of_lt (Nat.lt_of_lt_of_le F50.lt (Nat.le_of_eq g46.symm))
  have ne_b8_b46 : b8 ≠ b46 := Nat.ne_of_lt (Nat.lt_of_lt_of_le F51.lt (Nat.le_of_eq g46.symm))
  have Kp46 : Keep h0 h46 [a0] := Kp42.ext E46
  have Z52 : n0 ≤ h46.size := Nat.le_trans Z45 E46.1
  have V46 : own_Ints Z h46 b46 [(0:Int32)] := own_newI A46 (by decide)
  refine own_pre st46 ?_
  have F54 := (F47.ext E46)
  have F55 := (((((((((((P5.ext E2).other W4 (Or.inr (slot_ne (Or.inr (own_h hw 20 rfl)) (Or.inr (own_h hw 12 rfl)) (by decide) (t := (.array .int)) (t' := (.array .int)) (by decide) (by decide)))).ext E8).other W12 (Or.inr (slot_ne (Or.inr (own_h hw 20 rfl)) (Or.inr (own_h hw 14 rfl)) (by decide) (t := (.array .int)) (t' := (.array .int)) (by decide) (by decide)))).other W18 (Or.inl ne_a0_b2)).other W24 (Or.inl ne_a0_b8)).ext E28).other W32 (Or.inr (slot_ne (Or.inr (own_h hw 20 rfl)) (Or.inr (own_h hw 16 rfl)) (by decide) (t := (.array .int)) (t' := (.array .int)) (by decide) (by decide)))).ext E36).other W42 (Or.inr (slot_ne (Or.inr (own_h hw 20 rfl)) (Or.inr (own_h hw 18 rfl)) (by decide) (t := (.array .int)) (t' := (.array .int)) (by decide) (by decide)))).ext E46)
  obtain ⟨T53, h53, X53, e53, W53, st53⟩ := putF X46 hx hZ hown (host := "") (Or.inl (own_h hw 19 rfl)) Via.refl e46 F55 F54 (Or.inr ⟨(own_h hw 20 rfl), rfl, hnm⟩) (own_h hw 2 rfl) (ty := (.array .int)) (by decide) rfl rfl (g := (mkF m 63 #[rv a0, iv (1:Int32), iv (1:Int32)] [(.ref b46), (.ref a0)])) rfl rfl (hb hby d1_63)
  have Kp53 : Keep h0 h53 [a0] := Kp46.wr W53 (Or.inl (List.mem_of_getElem? (i := 0) rfl))
  have Z56 : n0 ≤ h53.size := Nat.le_trans Z52 (Nat.le_of_eq W53.size.symm)
  have N53 := Fr.snoc X53 N42 gq_a0
  have Fw53 := F55.same W53
  refine own_pre st53 ?_
  refine own_pre (A := T53.setTop (mkF m 68 #[rv a0, iv (1:Int32), iv (1:Int32)] [(.int (1:Int32)), (.ref a0)])) (fun t k => ?_) ?_
  · show Steps p.tables e below (T53.setTop (mkF m 66 #[rv a0, iv (1:Int32), iv (1:Int32)] [])) _
    refine XS.aloadN X53.here hx rfl (hb hby d1_66) rfl rfl ?_
    show Steps p.tables e below (T53.setTop (mkF m 67 #[rv a0, iv (1:Int32), iv (1:Int32)] [(.ref a0)])) _
    refine XS.iloadN X53.here hx rfl (hb hby d1_67) rfl ?_
    exact k
  have F58 := (F54.wr W53)
  have F59 := ((F48.ext E46).other W53 (Ne.symm ne_a0_b2))
  have F60 := ((F49.ext E46).other W53 (Ne.symm ne_a0_b28))
  have F61 := ((F50.ext E46).other W53 (Ne.symm ne_a0_b36))
  have F62 := (V46.other W53 (Ne.symm ne_a0_b46))
  have F63 := ((F51.ext E46).other W53 (Ne.symm ne_a0_b8))
  obtain ⟨T57, h57, k57, X57, e57, E57, A57, st57⟩ := newP X53 hx hZ (own_h hw 10 rfl) e53 (g := (mkF m 68 #[rv a0, iv (1:Int32), iv (1:Int32)] [(.int (1:Int32)), (.ref a0)])) rfl (hb hby d1_68) rfl (by decide) (cap := 1) (by decide) (by decide) (by decide) (by decide)
  obtain ⟨b57, g57⟩ : ∃ z, z = h53.size := ⟨_, rfl⟩
  rw [← g57] at A57 st57
  have ge_b57 : n0 ≤ b57 := Nat.le_trans Z56 (Nat.le_of_eq g57.symm)
  have sz_b57 : h0.size ≤ b57 := Nat.le_trans Kp53.1 (Nat.le_of_eq g57.symm)
  have ne_a0_b57 : a0 ≠ b57 := Nat.ne_of_lt (Nat.lt_of_lt_of_le F58.lt (Nat.le_of_eq g57.symm))
  have ne_b2_b57 : b2 ≠ b57 := Nat.ne_of_lt (Nat.lt_of_lt_of_le F59.lt (Nat.le_of_eq g57.symm))
  have ne_b28_b57 : b28 ≠ b57 := Nat.ne_of_lt (Nat.lt_of_lt_of_le F60.lt (Nat.le_of_eq g57.symm))
  have ne_b36_b57 : b36 ≠ b57 := Nat.ne_of_lt (Nat.lt_of_lt_of_le F61.lt (Nat.le_of_eq g57.symm))
  have ne_b46_b57 : b46 ≠ b57 := Nat.ne_of_lt (Nat.lt_of_lt_of_le F62.lt (Nat.le_of_eq g57.symm))
  have ne_b8_b57 : b8 ≠ b57 := Nat.ne_of_lt (Nat.lt_of_lt_of_le F63.lt (Nat.le_of_eq g57.symm))
  have Kp57 : Keep h0 h57 [a0] := Kp53.ext E57
  have Z64 : n0 ≤ h57.size := Nat.le_trans Z56 E57.1
  have V57 : own_Ints Z h57 b57 [(0:Int32)] := own_newI A57 (by decide)
  refine own_pre st57 ?_
  have F66 := (F58.ext E57)
  have F67 := (((((((((((((P6.ext E2).other W4 (Or.inr (slot_ne (Or.inr (own_h hw 22 rfl)) (Or.inr (own_h hw 12 rfl)) (by decide) (t := (.array .int)) (t' := (.array .int)) (by decide) (by decide)))).ext E8).other W12 (Or.inr (slot_ne (Or.inr (own_h hw 22 rfl)) (Or.inr (own_h hw 14 rfl)) (by decide) (t := (.array .int)) (t' := (.array .int)) (by decide) (by decide)))).other W18 (Or.inl ne_a0_b2)).other W24 (Or.inl ne_a0_b8)).ext E28).other W32 (Or.inr (slot_ne (Or.inr (own_h hw 22 rfl)) (Or.inr (own_h hw 16 rfl)) (by decide) (t := (.array .int)) (t' := (.array .int)) (by decide) (by decide)))).ext E36).other W42 (Or.inr (slot_ne (Or.inr (own_h hw 22 rfl)) (Or.inr (own_h hw 18 rfl)) (by decide) (t := (.array .int)) (t' := (.array .int)) (by decide) (by decide)))).ext E46).other W53 (Or.inr (slot_ne (Or.inr (own_h hw 22 rfl)) (Or.inr (own_h hw 20 rfl)) (by decide) (t := (.array .int)) (t' := (.array .int)) (by decide) (by decide)))).ext E57)
  obtain ⟨T65, h65, X65, e65, W65, st65⟩ := putF X57 hx hZ hown (host := "") (Or.inl (own_h hw 21 rfl)) Via.refl e57 F67 F66 (Or.inr ⟨(own_h hw 22 rfl), rfl, hnm⟩) (own_h hw 2 rfl) (ty := (.array .int)) (by decide) rfl rfl (g := (mkF m 70 #[rv a0, iv (1:Int32), iv (1:Int32)] [(.ref b57), (.ref a0)])) rfl rfl (hb hby d1_70)
  have Kp65 : Keep h0 h65 [a0] := Kp57.wr W65 (Or.inl (List.mem_of_getElem? (i := 0) rfl))
  have Z68 : n0 ≤ h65.size := Nat.le_trans Z64 (Nat.le_of_eq W65.size.symm)
  have N65 := Fr.snoc X65 N53 gq_a0
  have Fw65 := F67.same W65
  refine own_pre st65 ?_
  refine own_pre (A := T65.setTop (mkF m 75 #[rv a0, iv (1:Int32), iv (1:Int32)] [(.int (1:Int32)), (.ref a0)])) (fun t k => ?_) ?_
  · show Steps p.tables e below (T65.setTop (mkF m 73 #[rv a0, iv (1:Int32), iv (1:Int32)] [])) _
    refine XS.aloadN X65.here hx rfl (hb hby d1_73) rfl rfl ?_
    show Steps p.tables e below (T65.setTop (mkF m 74 #[rv a0, iv (1:Int32), iv (1:Int32)] [(.ref a0)])) _
    refine XS.iloadN X65.here hx rfl (hb hby d1_74) rfl ?_
    exact k
  have F70 := (F66.wr W65)
  have F71 := ((F59.ext E57).other W65 (Ne.symm ne_a0_b2))
  have F72 := ((F60.ext E57).other W65 (Ne.symm ne_a0_b28))
  have F73 := ((F61.ext E57).other W65 (Ne.symm ne_a0_b36))
  have F74 := ((F62.ext E57).other W65 (Ne.symm ne_a0_b46))
  have F75 := (V57.other W65 (Ne.symm ne_a0_b57))
  have F76 := ((F63.ext E57).other W65 (Ne.symm ne_a0_b8))
  obtain ⟨T69, h69, k69, X69, e69, E69, A69, st69⟩ := newP X65 hx hZ (own_h hw 10 rfl) e65 (g := (mkF m 75 #[rv a0, iv (1:Int32), iv (1:Int32)] [(.int (1:Int32)), (.ref a0)])) rfl (hb hby d1_75) rfl (by decide) (cap := 1) (by decide) (by decide) (by decide) (by decide)
  obtain ⟨b69, g69⟩ : ∃ z, z = h65.size := ⟨_, rfl⟩
  rw [← g69] at A69 st69
  have ge_b69 : n0 ≤ b69 := Nat.le_trans Z68 (Nat.le_of_eq g69.symm)
  have sz_b69 : h0.size ≤ b69 := Nat.le_trans Kp65.1 (Nat.le_of_eq g69.symm)
  have ne_a0_b69 : a0 ≠ b69 := Nat.ne_of_lt (Nat.lt_of_lt_of_le F70.lt (Nat.le_of_eq g69.symm))
  have ne_b2_b69 : b2 ≠ b69 := Nat.ne_of_lt (Nat.lt_of_lt_of_le F71.lt (Nat.le_of_eq g69.symm))
  have ne_b28_b69 : b28 ≠ b69 := Nat.ne_of_lt (Nat.lt_of_lt_of_le F72.lt (Nat.le_of_eq g69.symm))
  have ne_b36_b69 : b36 ≠ b69 := Nat.ne_of_lt (Nat.lt_of_lt_of_le F73.lt (Nat.le_of_eq g69.symm))
  have ne_b46_b69 : b46 ≠ b69 := Nat.ne_of_lt (Nat.lt_of_lt_of_le F74.lt (Nat.le_of_eq g69.symm))
  have ne_b57_b69 : b57 ≠ b69 := Nat.ne_of_lt (Nat.lt_of_lt_of_le F75.lt (Nat.le_of_eq g69.symm))
  have ne_b8_b69 : b8 ≠ b69 := Nat.ne_of_lt (Nat.lt_of_lt_of_le F76.lt (Nat.le_of_eq g69.symm))
  have Kp69 : Keep h0 h69 [a0] := Kp65.ext E69
  have Z77 : n0 ≤ h69.size := Nat.le_trans Z68 E69.1
  have V69 : own_Ints Z h69 b69 [(0:Int32)] := own_newI A69 (by decide)
  refine own_pre st69 ?_
  have F79 := (F70.ext E69)
  have F80 := (((((((((((((((P7.ext E2).other W4 (Or.inr (slot_ne (Or.inr (own_h hw 24 rfl)) (Or.inr (own_h hw 12 rfl)) (by decide) (t := (.array .int)) (t' := (.array .int)) (by decide) (by decide)))).ext E8).other W12 (Or.inr (slot_ne (Or.inr (own_h hw 24 rfl)) (Or.inr (own_h hw 14 rfl)) (by decide) (t := (.array .int)) (t' := (.array .int)) (by decide) (by decide)))).other W18 (Or.inl ne_a0_b2)).other W24 (Or.inl ne_a0_b8)).ext E28).other W32 (Or.inr (slot_ne (Or.inr (own_h hw 24 rfl)) (Or.inr (own_h hw 16 rfl)) (by decide) (t := (.array .int)) (t' := (.array .int)) (by decide) (by decide)))).ext E36).other W42 (Or.inr (slot_ne (Or.inr (own_h hw 24 rfl)) (Or.inr (own_h hw 18 rfl)) (by decide) (t := (.array .int)) (t' := (.array .int)) (by decide) (by decide)))).ext E46).other W53 (Or.inr (slot_ne (Or.inr (own_h hw 24 rfl)) (Or.inr (own_h hw 20 rfl)) (by decide) (t := (.array .int)) (t' := (.array .int)) (by decide) (by decide)))).ext E57).other W65 (Or.inr (slot_ne (Or.inr (own_h hw 24 rfl)) (Or.inr (own_h hw 22 rfl)) (by decide) (t := (.array .int)) (t' := (.array .int)) (by decide) (by decide)))).ext E69)
  obtain ⟨T78, h78, X78, e78, W78, st78⟩ := putF X69 hx hZ hown (host := "") (Or.inl (own_h hw 23 rfl)) Via.refl e69 F80 F79 (Or.inr ⟨(own_h hw 24 rfl), rfl, hnm⟩) (own_h hw 2 rfl) (ty := (.array .int)) (by decide) rfl rfl (g := (mkF m 77 #[rv a0, iv (1:Int32), iv (1:Int32)] [(.ref b69), (.ref a0)])) rfl rfl (hb hby d1_77)
  have Kp78 : Keep h0 h78 [a0] := Kp69.wr W78 (Or.inl (List.mem_of_getElem? (i := 0) rfl))
  have Z81 : n0 ≤ h78.size := Nat.le_trans Z77 (Nat.le_of_eq W78.size.symm)
  have N78 := Fr.snoc X78 N65 gq_a0
  have Fw78 := F80.same W78
  refine own_pre st78 ?_
  refine own_pre (A := T78.setTop (mkF m 81 #[rv a0, iv (1:Int32), iv (1:Int32)] [(.ref a0)])) (fun t k => ?_) ?_
  · show Steps p.tables e below (T78.setTop (mkF m 80 #[rv a0, iv (1:Int32), iv (1:Int32)] [])) _
    refine XS.aloadN X78.here hx rfl (hb hby d1_80) rfl rfl ?_
    exact k
  have F83 := ((((Fw53.ext E57).other W65 (Or.inr (slot_ne (Or.inr (own_h hw 20 rfl)) (Or.inr (own_h hw 22 rfl)) (by decide) (t := (.array .int)) (t' := (.array .int)) (by decide) (by decide)))).ext E69).other W78 (Or.inr (slot_ne (Or.inr (own_h hw 20 rfl)) (Or.inr (own_h hw 24 rfl)) (by decide) (t := (.array .int)) (t' := (.array .int)) (by decide) (by decide))))
  obtain ⟨T82, X82, e82, st82⟩ := getF X78 hx hZ hown (host := "") (Or.inl (own_h hw 19 rfl)) Via.refl e78 F83 (g := (mkF m 81 #[rv a0, iv (1:Int32), iv (1:Int32)] [(.ref a0)])) rfl rfl (hb hby d1_81)
  refine own_pre st82 ?_
  refine own_pre (A := T82.setTop (mkF m 86 #[rv a0, iv (1:Int32), iv (1:Int32)] [(.int (1:Int32)), (.int (0:Int32)), (.ref b46)])) (fun t k => ?_) ?_
  · show Steps p.tables e below (T82.setTop (mkF m 84 #[rv a0, iv (1:Int32), iv (1:Int32)] [(.ref b46)])) _
    refine XS.iconst X82.here hx rfl (hb hby d1_84) ?_
    show Steps p.tables e below (T82.setTop (mkF m 85 #[rv a0, iv (1:Int32), iv (1:Int32)] [(.int (0:Int32)), (.ref b46)])) _
    refine XS.iloadN X82.here hx rfl (hb hby d1_85) rfl ?_
    exact k
  have F85 := ((F74.ext E69).other W78 (Ne.symm ne_a0_b46))
  have hbn86 : own_In (0:Int32) [(0:Int32)].length := own_lit rfl
  obtain ⟨T84, h84, X84, e84, W84, V84, st84⟩ := own_iastore X82 hx hZ e82 F85 (j := (0:Int32)) (x := (1:Int32)) hbn86 (g := (mkF m 86 #[rv a0, iv (1:Int32), iv (1:Int32)] [(.int (1:Int32)), (.int (0:Int32)), (.ref b46)])) rfl rfl (hb hby d1_86)
  have Kp84 : Keep h0 h84 [a0] := Kp78.wr W84 (Or.inr sz_b46)
  have Z87 : n0 ≤ h84.size := Nat.le_trans Z81 (Nat.le_of_eq W84.size.symm)
  have N84 := Fr.snoc X84 N78 ge_b46
  have Vw84 : own_Ints Z h84 b46 [(1:Int32)] := V84
  refine own_pre st84 ?_
  refine own_pre (A := T84.setTop (mkF m 89 #[rv a0, iv (1:Int32), iv (1:Int32)] [(.int (1:Int32)), (.ref a0)])) (fun t k => ?_) ?_
  · show Steps p.tables e below (T84.setTop (mkF m 87 #[rv a0, iv (1:Int32), iv (1:Int32)] [])) _
    refine XS.aloadN X84.here hx rfl (hb hby d1_87) rfl rfl ?_
    show Steps p.tables e below (T84.setTop (mkF m 88 #[rv a0, iv (1:Int32), iv (1:Int32)] [(.ref a0)])) _
    refine XS.iconst X84.here hx rfl (hb hby d1_88) ?_
    exact k
  have F89 := ((F79.wr W78).wr W84)
  have F90 := (((((((((((((((((P8.ext E2).other W4 (Or.inr (slot_ne (Or.inl (own_h hw 26 rfl)) (Or.inr (own_h hw 12 rfl)) (by decide) (t := .int) (t' := (.array .int)) (by decide) (by decide)))).ext E8).other W12 (Or.inr (slot_ne (Or.inl (own_h hw 26 rfl)) (Or.inr (own_h hw 14 rfl)) (by decide) (t := .int) (t' := (.array .int)) (by decide) (by decide)))).other W18 (Or.inl ne_a0_b2)).other W24 (Or.inl ne_a0_b8)).ext E28).other W32 (Or.inr (slot_ne (Or.inl (own_h hw 26 rfl)) (Or.inr (own_h hw 16 rfl)) (by decide) (t := .int) (t' := (.array .int)) (by decide) (by decide)))).ext E36).other W42 (Or.inr (slot_ne (Or.inl (own_h hw 26 rfl)) (Or.inr (own_h hw 18 rfl)) (by decide) (t := .int) (t' := (.array .int)) (by decide) (by decide)))).ext E46).other W53 (Or.inr (slot_ne (Or.inl (own_h hw 26 rfl)) (Or.inr (own_h hw 20 rfl)) (by decide) (t := .int) (t' := (.array .int)) (by decide) (by decide)))).ext E57).other W65 (Or.inr (slot_ne (Or.inl (own_h hw 26 rfl)) (Or.inr (own_h hw 22 rfl)) (by decide) (t := .int) (t' := (.array .int)) (by decide) (by decide)))).ext E69).other W78 (Or.inr (slot_ne (Or.inl (own_h hw 26 rfl)) (Or.inr (own_h hw 24 rfl)) (by decide) (t := .int) (t' := (.array .int)) (by decide) (by decide)))).other W84 (Or.inl ne_a0_b46))
  obtain ⟨T88, h88, X88, e88, W88, st88⟩ := putF X84 hx hZ hown (host := "") (Or.inl (own_h hw 25 rfl)) Via.refl e84 F90 F89 (Or.inl (own_h hw 26 rfl)) (own_h hw 2 rfl) (ty := .int) (by decide) rfl rfl (g := (mkF m 89 #[rv a0, iv (1:Int32), iv (1:Int32)] [(.int (1:Int32)), (.ref a0)])) rfl rfl (hb hby d1_89)
  have Kp88 : Keep h0 h88 [a0] := Kp84.wr W88 (Or.inl (List.mem_of_getElem? (i := 0) rfl))
  have Z91 : n0 ≤ h88.size := Nat.le_trans Z87 (Nat.le_of_eq W88.size.symm)
  have N88 := Fr.snoc X88 N84 gq_a0
  have Fw88 := F90.same W88
  refine own_pre st88 ?_
  have F92 := ((((((((((((((F17.other W18 (Or.inl ne_a0_b2)).other W24 (Or.inl ne_a0_b8)).ext E28).other W32 (Or.inr (slot_ne (Or.inr (own_h hw 12 rfl)) (Or.inr (own_h hw 16 rfl)) (by decide) (t := (.array .int)) (t' := (.array .int)) (by decide) (by decide)))).ext E36).other W42 (Or.inr (slot_ne (Or.inr (own_h hw 12 rfl)) (Or.inr (own_h hw 18 rfl)) (by decide) (t := (.array .int)) (t' := (.array .int)) (by decide) (by decide)))).ext E46).other W53 (Or.inr (slot_ne (Or.inr (own_h hw 12 rfl)) (Or.inr (own_h hw 20 rfl)) (by decide) (t := (.array .int)) (t' := (.array .int)) (by decide) (by decide)))).ext E57).other W65 (Or.inr (slot_ne (Or.inr (own_h hw 12 rfl)) (Or.inr (own_h hw 22 rfl)) (by decide) (t := (.array .int)) (t' := (.array .int)) (by decide) (by decide)))).ext E69).other W78 (Or.inr (slot_ne (Or.inr (own_h hw 12 rfl)) (Or.inr (own_h hw 24 rfl)) (by decide) (t := (.array .int)) (t' := (.array .int)) (by decide) (by decide)))).other W84 (Or.inl ne_a0_b46)).other W88 (Or.inr (slot_ne (Or.inr (own_h hw 12 rfl)) (Or.inl (own_h hw 26 rfl)) (by decide) (t := (.array .int)) (t' := .int) (by decide) (by decide))))
  have F93 := (((((((((((((F23.other W24 (Or.inl ne_a0_b8)).ext E28).other W32 (Or.inr (slot_ne (Or.inr (own_h hw 14 rfl)) (Or.inr (own_h hw 16 rfl)) (by decide) (t := (.array .int)) (t' := (.array .int)) (by decide) (by decide)))).ext E36).other W42 (Or.inr (slot_ne (Or.inr (own_h hw 14 rfl)) (Or.inr (own_h hw 18 rfl)) (by decide) (t := (.array .int)) (t' := (.array .int)) (by decide) (by decide)))).ext E46).other W53 (Or.inr (slot_ne (Or.inr (own_h hw 14 rfl)) (Or.inr (own_h hw 20 rfl)) (by decide) (t := (.array .int)) (t' := (.array .int)) (by decide) (by decide)))).ext E57).other W65 (Or.inr (slot_ne (Or.inr (own_h hw 14 rfl)) (Or.inr (own_h hw 22 rfl)) (by decide) (t := (.array .int)) (t' := (.array .int)) (by decide) (by decide)))).ext E69).other W78 (Or.inr (slot_ne (Or.inr (own_h hw 14 rfl)) (Or.inr (own_h hw 24 rfl)) (by decide) (t := (.array .int)) (t' := (.array .int)) (by decide) (by decide)))).other W84 (Or.inl ne_a0_b46)).other W88 (Or.inr (slot_ne (Or.inr (own_h hw 14 rfl)) (Or.inl (own_h hw 26 rfl)) (by decide) (t := (.array .int)) (t' := .int) (by decide) (by decide))))
  have F94 := ((((((((((Fw32.ext E36).other W42 (Or.inr (slot_ne (Or.inr (own_h hw 16 rfl)) (Or.inr (own_h hw 18 rfl)) (by decide) (t := (.array .int)) (t' := (.array .int)) (by decide) (by decide)))).ext E46).other W53 (Or.inr (slot_ne (Or.inr (own_h hw 16 rfl)) (Or.inr (own_h hw 20 rfl)) (by decide) (t := (.array .int)) (t' := (.array .int)) (by decide) (by decide)))).ext E57).other W65 (Or.inr (slot_ne (Or.inr (own_h hw 16 rfl)) (Or.inr (own_h hw 22 rfl)) (by decide) (t := (.array .int)) (t' := (.array .int)) (by decide) (by decide)))).ext E69).other W78 (Or.inr (slot_ne (Or.inr (own_h hw 16 rfl)) (Or.inr (own_h hw 24 rfl)) (by decide) (t := (.array .int)) (t' := (.array .int)) (by decide) (by decide)))).other W84 (Or.inl ne_a0_b46)).other W88 (Or.inr (slot_ne (Or.inr (own_h hw 16 rfl)) (Or.inl (own_h hw 26 rfl)) (by decide) (t := (.array .int)) (t' := .int) (by decide) (by decide))))
  have F95 := ((((((((Fw42.ext E46).other W53 (Or.inr (slot_ne (Or.inr (own_h hw 18 rfl)) (Or.inr (own_h hw 20 rfl)) (by decide) (t := (.array .int)) (t' := (.array .int)) (by decide) (by decide)))).ext E57).other W65 (Or.inr (slot_ne (Or.inr (own_h hw 18 rfl)) (Or.inr (own_h hw 22 rfl)) (by decide) (t := (.array .int)) (t' := (.array .int)) (by decide) (by decide)))).ext E69).other W78 (Or.inr (slot_ne (Or.inr (own_h hw 18 rfl)) (Or.inr (own_h hw 24 rfl)) (by decide) (t := (.array .int)) (t' := (.array .int)) (by decide) (by decide)))).other W84 (Or.inl ne_a0_b46)).other W88 (Or.inr (slot_ne (Or.inr (own_h hw 18 rfl)) (Or.inl (own_h hw 26 rfl)) (by decide) (t := (.array .int)) (t' := .int) (by decide) (by decide))))
  have F96 := ((F83.other W84 (Or.inl ne_a0_b46)).other W88 (Or.inr (slot_ne (Or.inr (own_h hw 20 rfl)) (Or.inl (own_h hw 26 rfl)) (by decide) (t := (.array .int)) (t' := .int) (by decide) (by decide))))
  have F97 := ((((Fw65.ext E69).other W78 (Or.inr (slot_ne (Or.inr (own_h hw 22 rfl)) (Or.inr (own_h hw 24 rfl)) (by decide) (t := (.array .int)) (t' := (.array .int)) (by decide) (by decide)))).other W84 (Or.inl ne_a0_b46)).other W88 (Or.inr (slot_ne (Or.inr (own_h hw 22 rfl)) (Or.inl (own_h hw 26 rfl)) (by decide) (t := (.array .int)) (t' := .int) (by decide) (by decide))))
  have F98 := ((Fw78.other W84 (Or.inl ne_a0_b46)).other W88 (Or.inr (slot_ne (Or.inr (own_h hw 24 rfl)) (Or.inl (own_h hw 26 rfl)) (by decide) (t := (.array .int)) (t' := .int) (by decide) (by decide))))
  have F99 := ((((((((((((((((((P9.ext E2).other W4 (Or.inr (slot_ne (Or.inl (own_h hw 33 rfl)) (Or.inr (own_h hw 12 rfl)) (by decide) (t := .int) (t' := (.array .int)) (by decide) (by decide)))).ext E8).other W12 (Or.inr (slot_ne (Or.inl (own_h hw 33 rfl)) (Or.inr (own_h hw 14 rfl)) (by decide) (t := .int) (t' := (.array .int)) (by decide) (by decide)))).other W18 (Or.inl ne_a0_b2)).other W24 (Or.inl ne_a0_b8)).ext E28).other W32 (Or.inr (slot_ne (Or.inl (own_h hw 33 rfl)) (Or.inr (own_h hw 16 rfl)) (by decide) (t := .int) (t' := (.array .int)) (by decide) (by decide)))).ext E36).other W42 (Or.inr (slot_ne (Or.inl (own_h hw 33 rfl)) (Or.inr (own_h hw 18 rfl)) (by decide) (t := .int) (t' := (.array .int)) (by decide) (by decide)))).ext E46).other W53 (Or.inr (slot_ne (Or.inl (own_h hw 33 rfl)) (Or.inr (own_h hw 20 rfl)) (by decide) (t := .int) (t' := (.array .int)) (by decide) (by decide)))).ext E57).other W65 (Or.inr (slot_ne (Or.inl (own_h hw 33 rfl)) (Or.inr (own_h hw 22 rfl)) (by decide) (t := .int) (t' := (.array .int)) (by decide) (by decide)))).ext E69).other W78 (Or.inr (slot_ne (Or.inl (own_h hw 33 rfl)) (Or.inr (own_h hw 24 rfl)) (by decide) (t := .int) (t' := (.array .int)) (by decide) (by decide)))).other W84 (Or.inl ne_a0_b46)).other W88 (Or.inr (slot_ne (Or.inl (own_h hw 33 rfl)) (Or.inl (own_h hw 26 rfl)) (by decide) (t := .int) (t' := .int) (by decide) (by decide))))
  have F100 := ((((F71.ext E69).other W78 (Ne.symm ne_a0_b2)).other W84 ne_b2_b46).other W88 (Ne.symm ne_a0_b2))
  have F101 := ((((F76.ext E69).other W78 (Ne.symm ne_a0_b8)).other W84 ne_b8_b46).other W88 (Ne.symm ne_a0_b8))
  have F102 := ((((F72.ext E69).other W78 (Ne.symm ne_a0_b28)).other W84 ne_b28_b46).other W88 (Ne.symm ne_a0_b28))
  have F103 := ((((F73.ext E69).other W78 (Ne.symm ne_a0_b36)).other W84 ne_b36_b46).other W88 (Ne.symm ne_a0_b36))
  have F104 := (Vw84.other W88 (Ne.symm ne_a0_b46))
  have F105 := ((((F75.ext E69).other W78 (Ne.symm ne_a0_b57)).other W84 (Ne.symm ne_b46_b57)).other W88 (Ne.symm ne_a0_b57))
  have F106 := (((V69.other W78 (Ne.symm ne_a0_b69)).other W84 (Ne.symm ne_b46_b69)).other W88 (Ne.symm ne_a0_b69))
  exact own_end X88 (BodyLoose.notSynchronized Bd) (fun _ => rfl) (v := none) (fun fs hr => X88.returnOut hx Bd.returns (hb hby d1_92) hr) (by show Q1n1 Z a0 h0 n0 _ T88.heap _; rw [e88]; exact ⟨rfl, N88, Kp88, b2, b8, b28, b36, b46, b57, b69, sz_b2, sz_b8, sz_b28, sz_b36, sz_b46, sz_b57, sz_b69, ne_b2_b8, ne_b2_b28, ne_b2_b36, ne_b2_b46, ne_b2_b57, ne_b2_b69, ne_b8_b28, ne_b8_b36, ne_b8_b46, ne_b8_b57, ne_b8_b69, ne_b28_b36, ne_b28_b46, ne_b28_b57, ne_b28_b69, ne_b36_b46, ne_b36_b57, ne_b36_b69, ne_b46_b57, ne_b46_b69, ne_b57_b69, F92, F93, F94, F95, F96, F97, F98, Fw88, F99, F100, F101, F102, F103, F104, F105, F106⟩) (by decide) (by decide)
theorem ef1n2 (m : MethodId) (a0 : Addr) : entryFrame m #[(.ref a0), (.int (2:Int32))] 3 = mkF m 0 #[rv a0, iv (2:Int32), .unset] [] := by first | (simp [entryFrame, mkF, argsToLocals, Value.category]; done) | rfl
def Q1n2 (Z : State) (a0 : Addr)  (h0 : Heap) (n0 : Nat) (v : Option Value) (h : Heap) (L : List Loc) : Prop := v = none ∧ Fr n0 L ∧ Keep h0 h [a0] ∧ ∃ e1 : Addr, ∃ e2 : Addr, ∃ e3 : Addr, ∃ e4 : Addr, ∃ e5 : Addr, ∃ e6 : Addr, ∃ e7 : Addr, h0.size ≤ e1 ∧ h0.size ≤ e2 ∧ h0.size ≤ e3 ∧ h0.size ≤ e4 ∧ h0.size ≤ e5 ∧ h0.size ≤ e6 ∧ h0.size ≤ e7 ∧ e1 ≠ e2 ∧ e1 ≠ e3 ∧ e1 ≠ e4 ∧ e1 ≠ e5 ∧ e1 ≠ e6 ∧ e1 ≠ e7 ∧ e2 ≠ e3 ∧ e2 ≠ e4 ∧ e2 ≠ e5 ∧ e2 ≠ e6 ∧ e2 ≠ e7 ∧ e3 ≠ e4 ∧ e3 ≠ e5 ∧ e3 ≠ e6 ∧ e3 ≠ e7 ∧ e4 ≠ e5 ∧ e4 ≠ e6 ∧ e4 ≠ e7 ∧ e5 ≠ e6 ∧ e5 ≠ e7 ∧ e6 ≠ e7 ∧ Fld Z h a0 "com/example/spare_calculus/sparecalculus/bisim/Partition" "elements" "[I" (.ref e1) ∧ Fld Z h a0 "com/example/spare_calculus/sparecalculus/bisim/Partition" "positions" "[I" (.ref e2) ∧ Fld Z h a0 "com/example/spare_calculus/sparecalculus/bisim/Partition" "blockOf" "[I" (.ref e3) ∧ Fld Z h a0 "com/example/spare_calculus/sparecalculus/bisim/Partition" "blockStart" "[I" (.ref e4) ∧ Fld Z h a0 "com/example/spare_calculus/sparecalculus/bisim/Partition" "blockEnd" "[I" (.ref e5) ∧ Fld Z h a0 "com/example/spare_calculus/sparecalculus/bisim/Partition" "blockMarkedEnd" "[I" (.ref e6) ∧ Fld Z h a0 "com/example/spare_calculus/sparecalculus/bisim/Partition" "touchedBlocks" "[I" (.ref e7) ∧ Fld Z h a0 "com/example/spare_calculus/sparecalculus/bisim/Partition" "blockCount" "I" (.int (1:Int32)) ∧ Fld Z h a0 "com/example/spare_calculus/sparecalculus/bisim/Partition" "touchedBlockCount" "I" (.int (0:Int32)) ∧ own_Ints Z h e1 [(0:Int32), (1:Int32)] ∧ own_Ints Z h e2 [(0:Int32), (1:Int32)] ∧ own_Ints Z h e3 [(0:Int32), (0:Int32)] ∧ own_Ints Z h e4 [(0:Int32), (0:Int32)] ∧ own_Ints Z h e5 [(2:Int32), (0:Int32)] ∧ own_Ints Z h e6 [(0:Int32), (0:Int32)] ∧ own_Ints Z h e7 [(0:Int32), (0:Int32)]
set_option maxRecDepth 65536 in
set_option maxHeartbeats 40000000 in
theorem rm1n2 (l : Launch) (Z : State) (aZ : Array Value) (hw : ∀ d ∈ tables_1, d.before aZ Z = true) (ws : List Jvm.Cond) (a0 : Addr)  (h0 : Heap) (n0 : Nat) (Z0 : n0 ≤ h0.size) (P0 : Exa Z h0 a0 "com/example/spare_calculus/sparecalculus/bisim/Partition") (P1 : Fld Z h0 a0 "com/example/spare_calculus/sparecalculus/bisim/Partition" "elements" "[I" .null) (P2 : Fld Z h0 a0 "com/example/spare_calculus/sparecalculus/bisim/Partition" "positions" "[I" .null) (P3 : Fld Z h0 a0 "com/example/spare_calculus/sparecalculus/bisim/Partition" "blockOf" "[I" .null) (P4 : Fld Z h0 a0 "com/example/spare_calculus/sparecalculus/bisim/Partition" "blockStart" "[I" .null) (P5 : Fld Z h0 a0 "com/example/spare_calculus/sparecalculus/bisim/Partition" "blockEnd" "[I" .null) (P6 : Fld Z h0 a0 "com/example/spare_calculus/sparecalculus/bisim/Partition" "blockMarkedEnd" "[I" .null) (P7 : Fld Z h0 a0 "com/example/spare_calculus/sparecalculus/bisim/Partition" "touchedBlocks" "[I" .null) (P8 : Fld Z h0 a0 "com/example/spare_calculus/sparecalculus/bisim/Partition" "blockCount" "I" (.int (0:Int32))) (P9 : Fld Z h0 a0 "com/example/spare_calculus/sparecalculus/bisim/Partition" "touchedBlockCount" "I" (.int (0:Int32))) (gq_a0 : n0 ≤ a0) :
    MetFree l (⟨"com/example/spare_calculus/sparecalculus/bisim/Partition", "<init>", "(I)V"⟩ : MethodName) (head1 (Jvm.Cond.code (⟨"com/example/spare_calculus/sparecalculus/bisim/Partition", "<init>", "(I)V"⟩ : MethodName) prog_16_method_1_code 3 none :: ws) ({ frames := 1, cells := 7, slots := 14, locals := 12 } : Room)) (fun a U => a = #[(.ref a0), (.int (2:Int32))] ∧ Z.Warmed39 U.vm ∧ U.heap = h0) (fun _ _ _ _ _ => True) (fun _ U o U' => ∃ v L, o = .returned v ∧ Q1n2 Z a0 h0 n0 v U'.heap L ∧ FrameEnd U o U' L ({ frames := 1, cells := 7, slots := 14, locals := 12 } : Room).cells ({ frames := 1, cells := 7, slots := 14, locals := 12 } : Room).slots) := by
  refine MetFree.of_bodySF (plainFor_of_name own_pn0) hisR ?_
  intro p e s m args below meth c s₁ Bd hml0 hP hK
  obtain ⟨rfl, hZ, hh⟩ := hP
  have hx := Bd.exec
  have hby := Bd.bytes
  have hml : c.maxLocals = 3 := hml0
  have hown : s.vm.findClass "com/example/spare_calculus/sparecalculus/bisim/Partition" = some m.cls := findClass_of_methodNamed Bd.named
  have hnm := (name_of_methodNamed Bd.named Bd.method).1
  have X0 : Stand p l e ({ frames := 1, cells := 7, slots := 14, locals := 12 } : Room) s m #[(.ref a0), (.int (2:Int32))] below meth c s₁ [] 0 0 := Stand.of_body Bd
  have e0 : s₁.heap = h0 := by rw [← hh, Bd.state]; rfl
  have N0 := Fr.nil n0
  have Kp0 : Keep h0 h0 [a0] := Keep.refl _ _
  show own_Goes p e below s (Q1n2 Z a0 h0 n0) ({ frames := 1, cells := 7, slots := 14, locals := 12 } : Room).cells ({ frames := 1, cells := 7, slots := 14, locals := 12 } : Room).slots _
  refine own_pre (fun t k => castTop (ef1n2 m a0) k) ?_
  refine own_pre (A := s₁.setTop (mkF m 1 #[rv a0, iv (2:Int32), .unset] [(.ref a0)])) (fun t k => ?_) ?_
  · show Steps p.tables e below (s₁.setTop (mkF m 0 #[rv a0, iv (2:Int32), .unset] [])) _
    refine XS.aloadN X0.here hx rfl (hb hby d1_0) rfl rfl ?_
    exact k
  obtain ⟨T107, X107, e107, st107⟩ := initO X0 hx hZ hown (own_h hw 7 rfl) (own_h hw 8 rfl) (own_h hw 9 rfl) e0 (g := (mkF m 1 #[rv a0, iv (2:Int32), .unset] [(.ref a0)])) rfl (by rw [hml]; rfl) rfl (hb hby d1_1) (by decide) (W := 0) (by show 2 * 0 + _ ≤ _; exact Nat.le_of_eq rfl) (by decide)
  refine own_pre st107 ?_
  refine own_pre (A := T107.setTop (mkF m 6 #[rv a0, iv (2:Int32), .unset] [(.int (2:Int32)), (.ref a0)])) (fun t k => ?_) ?_
  · show Steps p.tables e below (T107.setTop (mkF m 4 #[rv a0, iv (2:Int32), .unset] [])) _
    refine XS.aloadN X107.here hx rfl (hb hby d1_4) rfl rfl ?_
    show Steps p.tables e below (T107.setTop (mkF m 5 #[rv a0, iv (2:Int32), .unset] [(.ref a0)])) _
    refine XS.iloadN X107.here hx rfl (hb hby d1_5) rfl ?_
    exact k
  obtain ⟨T108, h108, k108, X108, e108, E108, A108, st108⟩ := newP X107 hx hZ (own_h hw 10 rfl) e107 (g := (mkF m 6 #[rv a0, iv (2:Int32), .unset] [(.int (2:Int32)), (.ref a0)])) rfl (hb hby d1_6) rfl (by decide) (cap := 2) (by decide) (by decide) (by decide) (by decide)
  obtain ⟨b108, g108⟩ : ∃ z, z = h0.size := ⟨_, rfl⟩
  rw [← g108] at A108 st108
  have ge_b108 : n0 ≤ b108 := Nat.le_trans Z0 (Nat.le_of_eq g108.symm)
  have sz_b108 : h0.size ≤ b108 := Nat.le_trans Kp0.1 (Nat.le_of_eq g108.symm)
  have ne_a0_b108 : a0 ≠ b108 := Nat.ne_of_lt (Nat.lt_of_lt_of_le P0.lt (Nat.le_of_eq g108.symm))
  have Kp108 : Keep h0 h108 [a0] := Kp0.ext E108
  have Z109 : n0 ≤ h108.size := Nat.le_trans Z0 E108.1
  have V108 : own_Ints Z h108 b108 [(0:Int32), (0:Int32)] := own_newI A108 (by decide)
  refine own_pre st108 ?_
  have F111 := (P0.ext E108)
  have F112 := (P1.ext E108)
  obtain ⟨T110, h110, X110, e110, W110, st110⟩ := putF X108 hx hZ hown (host := "") (Or.inl (own_h hw 11 rfl)) Via.refl e108 F112 F111 (Or.inr ⟨(own_h hw 12 rfl), rfl, hnm⟩) (own_h hw 2 rfl) (ty := (.array .int)) (by decide) rfl rfl (g := (mkF m 8 #[rv a0, iv (2:Int32), .unset] [(.ref b108), (.ref a0)])) rfl rfl (hb hby d1_8)
  have Kp110 : Keep h0 h110 [a0] := Kp108.wr W110 (Or.inl (List.mem_of_getElem? (i := 0) rfl))
  have Z113 : n0 ≤ h110.size := Nat.le_trans Z109 (Nat.le_of_eq W110.size.symm)
  have N110 := Fr.snoc X110 N0 gq_a0
  have Fw110 := F112.same W110
  refine own_pre st110 ?_
  refine own_pre (A := T110.setTop (mkF m 13 #[rv a0, iv (2:Int32), .unset] [(.int (2:Int32)), (.ref a0)])) (fun t k => ?_) ?_
  · show Steps p.tables e below (T110.setTop (mkF m 11 #[rv a0, iv (2:Int32), .unset] [])) _
    refine XS.aloadN X110.here hx rfl (hb hby d1_11) rfl rfl ?_
    show Steps p.tables e below (T110.setTop (mkF m 12 #[rv a0, iv (2:Int32), .unset] [(.ref a0)])) _
    refine XS.iloadN X110.here hx rfl (hb hby d1_12) rfl ?_
    exact k
  have F115 := (F111.wr W110)
  have F116 := (V108.other W110 (Ne.symm ne_a0_b108))
  obtain ⟨T114, h114, k114, X114, e114, E114, A114, st114⟩ := newP X110 hx hZ (own_h hw 10 rfl) e110 (g := (mkF m 13 #[rv a0, iv (2:Int32), .unset] [(.int (2:Int32)), (.ref a0)])) rfl (hb hby d1_13) rfl (by decide) (cap := 2) (by decide) (by decide) (by decide) (by decide)
  obtain ⟨b114, g114⟩ : ∃ z, z = h110.size := ⟨_, rfl⟩
  rw [← g114] at A114 st114
  have ge_b114 : n0 ≤ b114 := Nat.le_trans Z113 (Nat.le_of_eq g114.symm)
  have sz_b114 : h0.size ≤ b114 := Nat.le_trans Kp110.1 (Nat.le_of_eq g114.symm)
  have ne_a0_b114 : a0 ≠ b114 := Nat.ne_of_lt (Nat.lt_of_lt_of_le F115.lt (Nat.le_of_eq g114.symm))
  have ne_b108_b114 : b108 ≠ b114 := Nat.ne_of_lt (Nat.lt_of_lt_of_le F116.lt (Nat.le_of_eq g114.symm))
  have Kp114 : Keep h0 h114 [a0] := Kp110.ext E114
  have Z117 : n0 ≤ h114.size := Nat.le_trans Z113 E114.1
  have V114 : own_Ints Z h114 b114 [(0:Int32), (0:Int32)] := own_newI A114 (by decide)
  refine own_pre st114 ?_
  have F119 := (F115.ext E114)
  have F120 := (((P2.ext E108).other W110 (Or.inr (slot_ne (Or.inr (own_h hw 14 rfl)) (Or.inr (own_h hw 12 rfl)) (by decide) (t := (.array .int)) (t' := (.array .int)) (by decide) (by decide)))).ext E114)
  obtain ⟨T118, h118, X118, e118, W118, st118⟩ := putF X114 hx hZ hown (host := "") (Or.inl (own_h hw 13 rfl)) Via.refl e114 F120 F119 (Or.inr ⟨(own_h hw 14 rfl), rfl, hnm⟩) (own_h hw 2 rfl) (ty := (.array .int)) (by decide) rfl rfl (g := (mkF m 15 #[rv a0, iv (2:Int32), .unset] [(.ref b114), (.ref a0)])) rfl rfl (hb hby d1_15)
  have Kp118 : Keep h0 h118 [a0] := Kp114.wr W118 (Or.inl (List.mem_of_getElem? (i := 0) rfl))
  have Z121 : n0 ≤ h118.size := Nat.le_trans Z117 (Nat.le_of_eq W118.size.symm)
  have N118 := Fr.snoc X118 N110 gq_a0
  have Fw118 := F120.same W118
  refine own_pre st118 ?_
  refine own_pre (A := T118.setTop (mkF m 26 #[rv a0, iv (2:Int32), iv (0:Int32)] [(.ref a0)])) (fun t k => ?_) ?_
  · show Steps p.tables e below (T118.setTop (mkF m 18 #[rv a0, iv (2:Int32), .unset] [])) _
    refine XS.iconst X118.here hx rfl (hb hby d1_18) ?_
    show Steps p.tables e below (T118.setTop (mkF m 19 #[rv a0, iv (2:Int32), .unset] [(.int (0:Int32))])) _
    refine XS.istoreN X118.here hx rfl (hb hby d1_19) rfl (l' := #[rv a0, iv (2:Int32), iv (0:Int32)]) rfl ?_
    show Steps p.tables e below (T118.setTop (mkF m 20 #[rv a0, iv (2:Int32), iv (0:Int32)] [])) _
    refine XS.iloadN X118.here hx rfl (hb hby d1_20) rfl ?_
    show Steps p.tables e below (T118.setTop (mkF m 21 #[rv a0, iv (2:Int32), iv (0:Int32)] [(.int (0:Int32))])) _
    refine XS.iloadN X118.here hx rfl (hb hby d1_21) rfl ?_
    show Steps p.tables e below (T118.setTop (mkF m 22 #[rv a0, iv (2:Int32), iv (0:Int32)] [(.int (2:Int32)), (.int (0:Int32))])) _
    refine XS.icmpNo X118.here hx rfl (hb hby d1_22) rfl (XT.ii_ge_f (by decide)) ?_
    show Steps p.tables e below (T118.setTop (mkF m 25 #[rv a0, iv (2:Int32), iv (0:Int32)] [])) _
    refine XS.aloadN X118.here hx rfl (hb hby d1_25) rfl rfl ?_
    exact k
  have F123 := ((Fw110.ext E114).other W118 (Or.inr (slot_ne (Or.inr (own_h hw 12 rfl)) (Or.inr (own_h hw 14 rfl)) (by decide) (t := (.array .int)) (t' := (.array .int)) (by decide) (by decide))))
  obtain ⟨T122, X122, e122, st122⟩ := getF X118 hx hZ hown (host := "") (Or.inl (own_h hw 11 rfl)) Via.refl e118 F123 (g := (mkF m 26 #[rv a0, iv (2:Int32), iv (0:Int32)] [(.ref a0)])) rfl rfl (hb hby d1_26)
  refine own_pre st122 ?_
  refine own_pre (A := T122.setTop (mkF m 31 #[rv a0, iv (2:Int32), iv (0:Int32)] [(.int (0:Int32)), (.int (0:Int32)), (.ref b108)])) (fun t k => ?_) ?_
  · show Steps p.tables e below (T122.setTop (mkF m 29 #[rv a0, iv (2:Int32), iv (0:Int32)] [(.ref b108)])) _
    refine XS.iloadN X122.here hx rfl (hb hby d1_29) rfl ?_
    show Steps p.tables e below (T122.setTop (mkF m 30 #[rv a0, iv (2:Int32), iv (0:Int32)] [(.int (0:Int32)), (.ref b108)])) _
    refine XS.iloadN X122.here hx rfl (hb hby d1_30) rfl ?_
    exact k
  have F125 := ((F116.ext E114).other W118 (Ne.symm ne_a0_b108))
  have hbn126 : own_In (0:Int32) [(0:Int32), (0:Int32)].length := own_lit rfl
  obtain ⟨T124, h124, X124, e124, W124, V124, st124⟩ := own_iastore X122 hx hZ e122 F125 (j := (0:Int32)) (x := (0:Int32)) hbn126 (g := (mkF m 31 #[rv a0, iv (2:Int32), iv (0:Int32)] [(.int (0:Int32)), (.int (0:Int32)), (.ref b108)])) rfl rfl (hb hby d1_31)
  have Kp124 : Keep h0 h124 [a0] := Kp118.wr W124 (Or.inr sz_b108)
  have Z127 : n0 ≤ h124.size := Nat.le_trans Z121 (Nat.le_of_eq W124.size.symm)
  have N124 := Fr.snoc X124 N118 ge_b108
  have Vw124 : own_Ints Z h124 b108 [(0:Int32), (0:Int32)] := V124
  refine own_pre st124 ?_
  refine own_pre (A := T124.setTop (mkF m 33 #[rv a0, iv (2:Int32), iv (0:Int32)] [(.ref a0)])) (fun t k => ?_) ?_
  · show Steps p.tables e below (T124.setTop (mkF m 32 #[rv a0, iv (2:Int32), iv (0:Int32)] [])) _
    refine XS.aloadN X124.here hx rfl (hb hby d1_32) rfl rfl ?_
    exact k
  have F129 := (Fw118.other W124 (Or.inl ne_a0_b108))
  obtain ⟨T128, X128, e128, st128⟩ := getF X124 hx hZ hown (host := "") (Or.inl (own_h hw 13 rfl)) Via.refl e124 F129 (g := (mkF m 33 #[rv a0, iv (2:Int32), iv (0:Int32)] [(.ref a0)])) rfl rfl (hb hby d1_33)
  refine own_pre st128 ?_
  refine own_pre (A := T128.setTop (mkF m 38 #[rv a0, iv (2:Int32), iv (0:Int32)] [(.int (0:Int32)), (.int (0:Int32)), (.ref b114)])) (fun t k => ?_) ?_
  · show Steps p.tables e below (T128.setTop (mkF m 36 #[rv a0, iv (2:Int32), iv (0:Int32)] [(.ref b114)])) _
    refine XS.iloadN X128.here hx rfl (hb hby d1_36) rfl ?_
    show Steps p.tables e below (T128.setTop (mkF m 37 #[rv a0, iv (2:Int32), iv (0:Int32)] [(.int (0:Int32)), (.ref b114)])) _
    refine XS.iloadN X128.here hx rfl (hb hby d1_37) rfl ?_
    exact k
  have F131 := ((V114.other W118 (Ne.symm ne_a0_b114)).other W124 (Ne.symm ne_b108_b114))
  have hbn132 : own_In (0:Int32) [(0:Int32), (0:Int32)].length := own_lit rfl
  obtain ⟨T130, h130, X130, e130, W130, V130, st130⟩ := own_iastore X128 hx hZ e128 F131 (j := (0:Int32)) (x := (0:Int32)) hbn132 (g := (mkF m 38 #[rv a0, iv (2:Int32), iv (0:Int32)] [(.int (0:Int32)), (.int (0:Int32)), (.ref b114)])) rfl rfl (hb hby d1_38)
  have Kp130 : Keep h0 h130 [a0] := Kp124.wr W130 (Or.inr sz_b114)
  have Z133 : n0 ≤ h130.size := Nat.le_trans Z127 (Nat.le_of_eq W130.size.symm)
  have N130 := Fr.snoc X130 N124 ge_b114
  have Vw130 : own_Ints Z h130 b114 [(0:Int32), (0:Int32)] := V130
  refine own_pre st130 ?_
  refine own_pre (A := T130.setTop (mkF m 26 #[rv a0, iv (2:Int32), iv (1:Int32)] [(.ref a0)])) (fun t k => ?_) ?_
  · show Steps p.tables e below (T130.setTop (mkF m 39 #[rv a0, iv (2:Int32), iv (0:Int32)] [])) _
    refine XS.iinc X130.here hx rfl (hb hby d1_39) rfl (l' := #[rv a0, iv (2:Int32), iv (1:Int32)]) rfl ?_
    show Steps p.tables e below (T130.setTop (mkF m 42 #[rv a0, iv (2:Int32), iv (1:Int32)] [])) _
    refine XS.goto X130.here hx rfl (pc0 := 42) (pc' := 20) rfl (hb hby d1_42) (by decide) (by decide) ?_
    show Steps p.tables e below (T130.setTop (mkF m 20 #[rv a0, iv (2:Int32), iv (1:Int32)] [])) _
    refine XS.iloadN X130.here hx rfl (hb hby d1_20) rfl ?_
    show Steps p.tables e below (T130.setTop (mkF m 21 #[rv a0, iv (2:Int32), iv (1:Int32)] [(.int (1:Int32))])) _
    refine XS.iloadN X130.here hx rfl (hb hby d1_21) rfl ?_
    show Steps p.tables e below (T130.setTop (mkF m 22 #[rv a0, iv (2:Int32), iv (1:Int32)] [(.int (2:Int32)), (.int (1:Int32))])) _
    refine XS.icmpNo X130.here hx rfl (hb hby d1_22) rfl (XT.ii_ge_f (by decide)) ?_
    show Steps p.tables e below (T130.setTop (mkF m 25 #[rv a0, iv (2:Int32), iv (1:Int32)] [])) _
    refine XS.aloadN X130.here hx rfl (hb hby d1_25) rfl rfl ?_
    exact k
  have F135 := ((F123.other W124 (Or.inl ne_a0_b108)).other W130 (Or.inl ne_a0_b114))
  obtain ⟨T134, X134, e134, st134⟩ := getF X130 hx hZ hown (host := "") (Or.inl (own_h hw 11 rfl)) Via.refl e130 F135 (g := (mkF m 26 #[rv a0, iv (2:Int32), iv (1:Int32)] [(.ref a0)])) rfl rfl (hb hby d1_26)
  refine own_pre st134 ?_
  refine own_pre (A := T134.setTop (mkF m 31 #[rv a0, iv (2:Int32), iv (1:Int32)] [(.int (1:Int32)), (.int (1:Int32)), (.ref b108)])) (fun t k => ?_) ?_
  · show Steps p.tables e below (T134.setTop (mkF m 29 #[rv a0, iv (2:Int32), iv (1:Int32)] [(.ref b108)])) _
    refine XS.iloadN X134.here hx rfl (hb hby d1_29) rfl ?_
    show Steps p.tables e below (T134.setTop (mkF m 30 #[rv a0, iv (2:Int32), iv (1:Int32)] [(.int (1:Int32)), (.ref b108)])) _
    refine XS.iloadN X134.here hx rfl (hb hby d1_30) rfl ?_
    exact k
  have F137 := (Vw124.other W130 ne_b108_b114)
  have hbn138 : own_In (1:Int32) [(0:Int32), (0:Int32)].length := own_lit rfl
  obtain ⟨T136, h136, X136, e136, W136, V136, st136⟩ := own_iastore X134 hx hZ e134 F137 (j := (1:Int32)) (x := (1:Int32)) hbn138 (g := (mkF m 31 #[rv a0, iv (2:Int32), iv (1:Int32)] [(.int (1:Int32)), (.int (1:Int32)), (.ref b108)])) rfl rfl (hb hby d1_31)
  have Kp136 : Keep h0 h136 [a0] := Kp130.wr W136 (Or.inr sz_b108)
  have Z139 : n0 ≤ h136.size := Nat.le_trans Z133 (Nat.le_of_eq W136.size.symm)
  have N136 := Fr.snoc X136 N130 ge_b108
  have Vw136 : own_Ints Z h136 b108 [(0:Int32), (1:Int32)] := V136
  refine own_pre st136 ?_
  refine own_pre (A := T136.setTop (mkF m 33 #[rv a0, iv (2:Int32), iv (1:Int32)] [(.ref a0)])) (fun t k => ?_) ?_
  · show Steps p.tables e below (T136.setTop (mkF m 32 #[rv a0, iv (2:Int32), iv (1:Int32)] [])) _
    refine XS.aloadN X136.here hx rfl (hb hby d1_32) rfl rfl ?_
    exact k
  have F141 := ((F129.other W130 (Or.inl ne_a0_b114)).other W136 (Or.inl ne_a0_b108))
  obtain ⟨T140, X140, e140, st140⟩ := getF X136 hx hZ hown (host := "") (Or.inl (own_h hw 13 rfl)) Via.refl e136 F141 (g := (mkF m 33 #[rv a0, iv (2:Int32), iv (1:Int32)] [(.ref a0)])) rfl rfl (hb hby d1_33)
  refine own_pre st140 ?_
  refine own_pre (A := T140.setTop (mkF m 38 #[rv a0, iv (2:Int32), iv (1:Int32)] [(.int (1:Int32)), (.int (1:Int32)), (.ref b114)])) (fun t k => ?_) ?_
  · show Steps p.tables e below (T140.setTop (mkF m 36 #[rv a0, iv (2:Int32), iv (1:Int32)] [(.ref b114)])) _
    refine XS.iloadN X140.here hx rfl (hb hby d1_36) rfl ?_
    show Steps p.tables e below (T140.setTop (mkF m 37 #[rv a0, iv (2:Int32), iv (1:Int32)] [(.int (1:Int32)), (.ref b114)])) _
    refine XS.iloadN X140.here hx rfl (hb hby d1_37) rfl ?_
    exact k
  have F143 := (Vw130.other W136 (Ne.symm ne_b108_b114))
  have hbn144 : own_In (1:Int32) [(0:Int32), (0:Int32)].length := own_lit rfl
  obtain ⟨T142, h142, X142, e142, W142, V142, st142⟩ := own_iastore X140 hx hZ e140 F143 (j := (1:Int32)) (x := (1:Int32)) hbn144 (g := (mkF m 38 #[rv a0, iv (2:Int32), iv (1:Int32)] [(.int (1:Int32)), (.int (1:Int32)), (.ref b114)])) rfl rfl (hb hby d1_38)
  have Kp142 : Keep h0 h142 [a0] := Kp136.wr W142 (Or.inr sz_b114)
  have Z145 : n0 ≤ h142.size := Nat.le_trans Z139 (Nat.le_of_eq W142.size.symm)
  have N142 := Fr.snoc X142 N136 ge_b114
  have Vw142 : own_Ints Z h142 b114 [(0:Int32), (1:Int32)] := V142
  refine own_pre st142 ?_
  refine own_pre (A := T142.setTop (mkF m 47 #[rv a0, iv (2:Int32), iv (2:Int32)] [(.int (2:Int32)), (.ref a0)])) (fun t k => ?_) ?_
  · show Steps p.tables e below (T142.setTop (mkF m 39 #[rv a0, iv (2:Int32), iv (1:Int32)] [])) _
    refine XS.iinc X142.here hx rfl (hb hby d1_39) rfl (l' := #[rv a0, iv (2:Int32), iv (2:Int32)]) rfl ?_
    show Steps p.tables e below (T142.setTop (mkF m 42 #[rv a0, iv (2:Int32), iv (2:Int32)] [])) _
    refine XS.goto X142.here hx rfl (pc0 := 42) (pc' := 20) rfl (hb hby d1_42) (by decide) (by decide) ?_
    show Steps p.tables e below (T142.setTop (mkF m 20 #[rv a0, iv (2:Int32), iv (2:Int32)] [])) _
    refine XS.iloadN X142.here hx rfl (hb hby d1_20) rfl ?_
    show Steps p.tables e below (T142.setTop (mkF m 21 #[rv a0, iv (2:Int32), iv (2:Int32)] [(.int (2:Int32))])) _
    refine XS.iloadN X142.here hx rfl (hb hby d1_21) rfl ?_
    show Steps p.tables e below (T142.setTop (mkF m 22 #[rv a0, iv (2:Int32), iv (2:Int32)] [(.int (2:Int32)), (.int (2:Int32))])) _
    refine XS.icmpYes X142.here hx rfl (pc0 := 22) (pc' := 45) rfl (hb hby d1_22) rfl (XT.ii_ge_t (by decide)) (by decide) (by decide) ?_
    show Steps p.tables e below (T142.setTop (mkF m 45 #[rv a0, iv (2:Int32), iv (2:Int32)] [])) _
    refine XS.aloadN X142.here hx rfl (hb hby d1_45) rfl rfl ?_
    show Steps p.tables e below (T142.setTop (mkF m 46 #[rv a0, iv (2:Int32), iv (2:Int32)] [(.ref a0)])) _
    refine XS.iloadN X142.here hx rfl (hb hby d1_46) rfl ?_
    exact k
  have F147 := (((((F119.wr W118).wr W124).wr W130).wr W136).wr W142)
  have F148 := (Vw136.other W142 ne_b108_b114)
  obtain ⟨T146, h146, k146, X146, e146, E146, A146, st146⟩ := newP X142 hx hZ (own_h hw 10 rfl) e142 (g := (mkF m 47 #[rv a0, iv (2:Int32), iv (2:Int32)] [(.int (2:Int32)), (.ref a0)])) rfl (hb hby d1_47) rfl (by decide) (cap := 2) (by decide) (by decide) (by decide) (by decide)
  obtain ⟨b146, g146⟩ : ∃ z, z = h142.size := ⟨_, rfl⟩
  rw [← g146] at A146 st146
  have ge_b146 : n0 ≤ b146 := Nat.le_trans Z145 (Nat.le_of_eq g146.symm)
  have sz_b146 : h0.size ≤ b146 := Nat.le_trans Kp142.1 (Nat.le_of_eq g146.symm)
  have ne_a0_b146 : a0 ≠ b146 := Nat.ne_of_lt (Nat.lt_of_lt_of_le F147.lt (Nat.le_of_eq g146.symm))
  have ne_b108_b146 : b108 ≠ b146 := Nat.ne_of_lt (Nat.lt_of_lt_of_le F148.lt (Nat.le_of_eq g146.symm))
  have ne_b114_b146 : b114 ≠ b146 := Nat.ne_of_lt (Nat.lt_of_lt_of_le Vw142.lt (Nat.le_of_eq g146.symm))
  have Kp146 : Keep h0 h146 [a0] := Kp142.ext E146
  have Z149 : n0 ≤ h146.size := Nat.le_trans Z145 E146.1
  have V146 : own_Ints Z h146 b146 [(0:Int32), (0:Int32)] := own_newI A146 (by decide)
  refine own_pre st146 ?_
  have F151 := (F147.ext E146)
  have F152 := (((((((((P3.ext E108).other W110 (Or.inr (slot_ne (Or.inr (own_h hw 16 rfl)) (Or.inr (own_h hw 12 rfl)) (by decide) (t := (.array .int)) (t' := (.array .int)) (by decide) (by decide)))).ext E114).other W118 (Or.inr (slot_ne (Or.inr (own_h hw 16 rfl)) (Or.inr (own_h hw 14 rfl)) (by decide) (t := (.array .int)) (t' := (.array .int)) (by decide) (by decide)))).other W124 (Or.inl ne_a0_b108)).other W130 (Or.inl ne_a0_b114)).other W136 (Or.inl ne_a0_b108)).other W142 (Or.inl ne_a0_b114)).ext E146)
  obtain ⟨T150, h150, X150, e150, W150, st150⟩ := putF X146 hx hZ hown (host := "") (Or.inl (own_h hw 15 rfl)) Via.refl e146 F152 F151 (Or.inr ⟨(own_h hw 16 rfl), rfl, hnm⟩) (own_h hw 2 rfl) (ty := (.array .int)) (by decide) rfl rfl (g := (mkF m 49 #[rv a0, iv (2:Int32), iv (2:Int32)] [(.ref b146), (.ref a0)])) rfl rfl (hb hby d1_49)
  have Kp150 : Keep h0 h150 [a0] := Kp146.wr W150 (Or.inl (List.mem_of_getElem? (i := 0) rfl))
  have Z153 : n0 ≤ h150.size := Nat.le_trans Z149 (Nat.le_of_eq W150.size.symm)
  have N150 := Fr.snoc X150 N142 gq_a0
  have Fw150 := F152.same W150
  refine own_pre st150 ?_
  refine own_pre (A := T150.setTop (mkF m 54 #[rv a0, iv (2:Int32), iv (2:Int32)] [(.int (2:Int32)), (.ref a0)])) (fun t k => ?_) ?_
  · show Steps p.tables e below (T150.setTop (mkF m 52 #[rv a0, iv (2:Int32), iv (2:Int32)] [])) _
    refine XS.aloadN X150.here hx rfl (hb hby d1_52) rfl rfl ?_
    show Steps p.tables e below (T150.setTop (mkF m 53 #[rv a0, iv (2:Int32), iv (2:Int32)] [(.ref a0)])) _
    refine XS.iloadN X150.here hx rfl (hb hby d1_53) rfl ?_
    exact k
  have F155 := (F151.wr W150)
  have F156 := ((F148.ext E146).other W150 (Ne.symm ne_a0_b108))
  have F157 := ((Vw142.ext E146).other W150 (Ne.symm ne_a0_b114))
  have F158 := (V146.other W150 (Ne.symm ne_a0_b146))
  obtain ⟨T154, h154, k154, X154, e154, E154, A154, st154⟩ := newP X150 hx hZ (own_h hw 10 rfl) e150 (g := (mkF m 54 #[rv a0, iv (2:Int32), iv (2:Int32)] [(.int (2:Int32)), (.ref a0)])) rfl (hb hby d1_54) rfl (by decide) (cap := 2) (by decide) (by decide) (by decide) (by decide)
  obtain ⟨b154, g154⟩ : ∃ z, z = h150.size := ⟨_, rfl⟩
  rw [← g154] at A154 st154
  have ge_b154 : n0 ≤ b154 := Nat.le_trans Z153 (Nat.le_of_eq g154.symm)
  have sz_b154 : h0.size ≤ b154 := Nat.le_trans Kp150.1 (Nat.le_of_eq g154.symm)
  have ne_a0_b154 : a0 ≠ b154 := Nat.ne_of_lt (Nat.lt_of_lt_of_le F155.lt (Nat.le_of_eq g154.symm))
  have ne_b108_b154 : b108 ≠ b154 := Nat.ne_of_lt (Nat.lt_of_lt_of_le F156.lt (Nat.le_of_eq g154.symm))
  have ne_b114_b154 : b114 ≠ b154 := Nat.ne_of_lt (Nat.lt_of_lt_of_le F157.lt (Nat.le_of_eq g154.symm))
  have ne_b146_b154 : b146 ≠ b154 := Nat.ne_of_lt (Nat.lt_of_lt_of_le F158.lt (Nat.le_of_eq g154.symm))
  have Kp154 : Keep h0 h154 [a0] := Kp150.ext E154
  have Z159 : n0 ≤ h154.size := Nat.le_trans Z153 E154.1
  have V154 : own_Ints Z h154 b154 [(0:Int32), (0:Int32)] := own_newI A154 (by decide)
  refine own_pre st154 ?_
  have F161 := (F155.ext E154)
  have F162 := (((((((((((P4.ext E108).other W110 (Or.inr (slot_ne (Or.inr (own_h hw 18 rfl)) (Or.inr (own_h hw 12 rfl)) (by decide) (t := (.array .int)) (t' := (.array .int)) (by decide) (by decide)))).ext E114).other W118 (Or.inr (slot_ne (Or.inr (own_h hw 18 rfl)) (Or.inr (own_h hw 14 rfl)) (by decide) (t := (.array .int)) (t' := (.array .int)) (by decide) (by decide)))).other W124 (Or.inl ne_a0_b108)).other W130 (Or.inl ne_a0_b114)).other W136 (Or.inl ne_a0_b108)).other W142 (Or.inl ne_a0_b114)).ext E146).other W150 (Or.inr (slot_ne (Or.inr (own_h hw 18 rfl)) (Or.inr (own_h hw 16 rfl)) (by decide) (t := (.array .int)) (t' := (.array .int)) (by decide) (by decide)))).ext E154)
  obtain ⟨T160, h160, X160, e160, W160, st160⟩ := putF X154 hx hZ hown (host := "") (Or.inl (own_h hw 17 rfl)) Via.refl e154 F162 F161 (Or.inr ⟨(own_h hw 18 rfl), rfl, hnm⟩) (own_h hw 2 rfl) (ty := (.array .int)) (by decide) rfl rfl (g := (mkF m 56 #[rv a0, iv (2:Int32), iv (2:Int32)] [(.ref b154), (.ref a0)])) rfl rfl (hb hby d1_56)
  have Kp160 : Keep h0 h160 [a0] := Kp154.wr W160 (Or.inl (List.mem_of_getElem? (i := 0) rfl))
  have Z163 : n0 ≤ h160.size := Nat.le_trans Z159 (Nat.le_of_eq W160.size.symm)
  have N160 := Fr.snoc X160 N150 gq_a0
  have Fw160 := F162.same W160
  refine own_pre st160 ?_
  refine own_pre (A := T160.setTop (mkF m 61 #[rv a0, iv (2:Int32), iv (2:Int32)] [(.int (2:Int32)), (.ref a0)])) (fun t k => ?_) ?_
  · show Steps p.tables e below (T160.setTop (mkF m 59 #[rv a0, iv (2:Int32), iv (2:Int32)] [])) _
    refine XS.aloadN X160.here hx rfl (hb hby d1_59) rfl rfl ?_
    show Steps p.tables e below (T160.setTop (mkF m 60 #[rv a0, iv (2:Int32), iv (2:Int32)] [(.ref a0)])) _
    refine XS.iloadN X160.here hx rfl (hb hby d1_60) rfl ?_
    exact k
  have F165 := (F161.wr W160)
  have F166 := ((F156.ext E154).other W160 (Ne.symm ne_a0_b108))
  have F167 := ((F157.ext E154).other W160 (Ne.symm ne_a0_b114))
  have F168 := ((F158.ext E154).other W160 (Ne.symm ne_a0_b146))
  have F169 := (V154.other W160 (Ne.symm ne_a0_b154))
  obtain ⟨T164, h164, k164, X164, e164, E164, A164, st164⟩ := newP X160 hx hZ (own_h hw 10 rfl) e160 (g := (mkF m 61 #[rv a0, iv (2:Int32), iv (2:Int32)] [(.int (2:Int32)), (.ref a0)])) rfl (hb hby d1_61) rfl (by decide) (cap := 2) (by decide) (by decide) (by decide) (by decide)
  obtain ⟨b164, g164⟩ : ∃ z, z = h160.size := ⟨_, rfl⟩
  rw [← g164] at A164 st164
  have ge_b164 : n0 ≤ b164 := Nat.le_trans Z163 (Nat.le_of_eq g164.symm)
  have sz_b164 : h0.size ≤ b164 := Nat.le_trans Kp160.1 (Nat.le_of_eq g164.symm)
  have ne_a0_b164 : a0 ≠ b164 := Nat.ne_of_lt (Nat.lt_of_lt_of_le F165.lt (Nat.le_of_eq g164.symm))
  have ne_b108_b164 : b108 ≠ b164 := Nat.ne_of_lt (Nat.lt_of_lt_of_le F166.lt (Nat.le_of_eq g164.symm))
  have ne_b114_b164 : b114 ≠ b164 := Nat.ne_of_lt (Nat.lt_of_lt_of_le F167.lt (Nat.le_of_eq g164.symm))
  have ne_b146_b164 : b146 ≠ b164 := Nat.ne_of_lt (Nat.lt_of_lt_of_le F168.lt (Nat.le_of_eq g164.symm))
  have ne_b154_b164 : b154 ≠ b164 := Nat.ne_of_lt (Nat.lt_of_lt_of_le F169.lt (Nat.le_of_eq g164.symm))
  have Kp164 : Keep h0 h164 [a0] := Kp160.ext E164
  have Z170 : n0 ≤ h164.size := Nat.le_trans Z163 E164.1
  have V164 : own_Ints Z h164 b164 [(0:Int32), (0:Int32)] := own_newI A164 (by decide)
  refine own_pre st164 ?_
  have F172 := (F165.ext E164)
  have F173 := (((((((((((((P5.ext E108).other W110 (Or.inr (slot_ne (Or.inr (own_h hw 20 rfl)) (Or.inr (own_h hw 12 rfl)) (by decide) (t := (.array .int)) (t' := (.array .int)) (by decide) (by decide)))).ext E114).other W118 (Or.inr (slot_ne (Or.inr (own_h hw 20 rfl)) (Or.inr (own_h hw 14 rfl)) (by decide) (t := (.array .int)) (t' := (.array .int)) (by decide) (by decide)))).other W124 (Or.inl ne_a0_b108)).other W130 (Or.inl ne_a0_b114)).other W136 (Or.inl ne_a0_b108)).other W142 (Or.inl ne_a0_b114)).ext E146).other W150 (Or.inr (slot_ne (Or.inr (own_h hw 20 rfl)) (Or.inr (own_h hw 16 rfl)) (by decide) (t := (.array .int)) (t' := (.array .int)) (by decide) (by decide)))).ext E154).other W160 (Or.inr (slot_ne (Or.inr (own_h hw 20 rfl)) (Or.inr (own_h hw 18 rfl)) (by decide) (t := (.array .int)) (t' := (.array .int)) (by decide) (by decide)))).ext E164)
  obtain ⟨T171, h171, X171, e171, W171, st171⟩ := putF X164 hx hZ hown (host := "") (Or.inl (own_h hw 19 rfl)) Via.refl e164 F173 F172 (Or.inr ⟨(own_h hw 20 rfl), rfl, hnm⟩) (own_h hw 2 rfl) (ty := (.array .int)) (by decide) rfl rfl (g := (mkF m 63 #[rv a0, iv (2:Int32), iv (2:Int32)] [(.ref b164), (.ref a0)])) rfl rfl (hb hby d1_63)
  have Kp171 : Keep h0 h171 [a0] := Kp164.wr W171 (Or.inl (List.mem_of_getElem? (i := 0) rfl))
  have Z174 : n0 ≤ h171.size := Nat.le_trans Z170 (Nat.le_of_eq W171.size.symm)
  have N171 := Fr.snoc X171 N160 gq_a0
  have Fw171 := F173.same W171
  refine own_pre st171 ?_
  refine own_pre (A := T171.setTop (mkF m 68 #[rv a0, iv (2:Int32), iv (2:Int32)] [(.int (2:Int32)), (.ref a0)])) (fun t k => ?_) ?_
  · show Steps p.tables e below (T171.setTop (mkF m 66 #[rv a0, iv (2:Int32), iv (2:Int32)] [])) _
    refine XS.aloadN X171.here hx rfl (hb hby d1_66) rfl rfl ?_
    show Steps p.tables e below (T171.setTop (mkF m 67 #[rv a0, iv (2:Int32), iv (2:Int32)] [(.ref a0)])) _
    refine XS.iloadN X171.here hx rfl (hb hby d1_67) rfl ?_
    exact k
  have F176 := (F172.wr W171)
  have F177 := ((F166.ext E164).other W171 (Ne.symm ne_a0_b108))
  have F178 := ((F167.ext E164).other W171 (Ne.symm ne_a0_b114))
  have F179 := ((F168.ext E164).other W171 (Ne.symm ne_a0_b146))
  have F180 := ((F169.ext E164).other W171 (Ne.symm ne_a0_b154))
  have F181 := (V164.other W171 (Ne.symm ne_a0_b164))
  obtain ⟨T175, h175, k175, X175, e175, E175, A175, st175⟩ := newP X171 hx hZ (own_h hw 10 rfl) e171 (g := (mkF m 68 #[rv a0, iv (2:Int32), iv (2:Int32)] [(.int (2:Int32)), (.ref a0)])) rfl (hb hby d1_68) rfl (by decide) (cap := 2) (by decide) (by decide) (by decide) (by decide)
  obtain ⟨b175, g175⟩ : ∃ z, z = h171.size := ⟨_, rfl⟩
  rw [← g175] at A175 st175
  have ge_b175 : n0 ≤ b175 := Nat.le_trans Z174 (Nat.le_of_eq g175.symm)
  have sz_b175 : h0.size ≤ b175 := Nat.le_trans Kp171.1 (Nat.le_of_eq g175.symm)
  have ne_a0_b175 : a0 ≠ b175 := Nat.ne_of_lt (Nat.lt_of_lt_of_le F176.lt (Nat.le_of_eq g175.symm))
  have ne_b108_b175 : b108 ≠ b175 := Nat.ne_of_lt (Nat.lt_of_lt_of_le F177.lt (Nat.le_of_eq g175.symm))
  have ne_b114_b175 : b114 ≠ b175 := Nat.ne_of_lt (Nat.lt_of_lt_of_le F178.lt (Nat.le_of_eq g175.symm))
  have ne_b146_b175 : b146 ≠ b175 := Nat.ne_of_lt (Nat.lt_of_lt_of_le F179.lt (Nat.le_of_eq g175.symm))
  have ne_b154_b175 : b154 ≠ b175 := Nat.ne_of_lt (Nat.lt_of_lt_of_le F180.lt (Nat.le_of_eq g175.symm))
  have ne_b164_b175 : b164 ≠ b175 := Nat.ne_of_lt (Nat.lt_of_lt_of_le F181.lt (Nat.le_of_eq g175.symm))
  have Kp175 : Keep h0 h175 [a0] := Kp171.ext E175
  have Z182 : n0 ≤ h175.size := Nat.le_trans Z174 E175.1
  have V175 : own_Ints Z h175 b175 [(0:Int32), (0:Int32)] := own_newI A175 (by decide)
  refine own_pre st175 ?_
  have F184 := (F176.ext E175)
  have F185 := (((((((((((((((P6.ext E108).other W110 (Or.inr (slot_ne (Or.inr (own_h hw 22 rfl)) (Or.inr (own_h hw 12 rfl)) (by decide) (t := (.array .int)) (t' := (.array .int)) (by decide) (by decide)))).ext E114).other W118 (Or.inr (slot_ne (Or.inr (own_h hw 22 rfl)) (Or.inr (own_h hw 14 rfl)) (by decide) (t := (.array .int)) (t' := (.array .int)) (by decide) (by decide)))).other W124 (Or.inl ne_a0_b108)).other W130 (Or.inl ne_a0_b114)).other W136 (Or.inl ne_a0_b108)).other W142 (Or.inl ne_a0_b114)).ext E146).other W150 (Or.inr (slot_ne (Or.inr (own_h hw 22 rfl)) (Or.inr (own_h hw 16 rfl)) (by decide) (t := (.array .int)) (t' := (.array .int)) (by decide) (by decide)))).ext E154).other W160 (Or.inr (slot_ne (Or.inr (own_h hw 22 rfl)) (Or.inr (own_h hw 18 rfl)) (by decide) (t := (.array .int)) (t' := (.array .int)) (by decide) (by decide)))).ext E164).other W171 (Or.inr (slot_ne (Or.inr (own_h hw 22 rfl)) (Or.inr (own_h hw 20 rfl)) (by decide) (t := (.array .int)) (t' := (.array .int)) (by decide) (by decide)))).ext E175)
  obtain ⟨T183, h183, X183, e183, W183, st183⟩ := putF X175 hx hZ hown (host := "") (Or.inl (own_h hw 21 rfl)) Via.refl e175 F185 F184 (Or.inr ⟨(own_h hw 22 rfl), rfl, hnm⟩) (own_h hw 2 rfl) (ty := (.array .int)) (by decide) rfl rfl (g := (mkF m 70 #[rv a0, iv (2:Int32), iv (2:Int32)] [(.ref b175), (.ref a0)])) rfl rfl (hb hby d1_70)
  have Kp183 : Keep h0 h183 [a0] := Kp175.wr W183 (Or.inl (List.mem_of_getElem? (i := 0) rfl))
  have Z186 : n0 ≤ h183.size := Nat.le_trans Z182 (Nat.le_of_eq W183.size.symm)
  have N183 := Fr.snoc X183 N171 gq_a0
  have Fw183 := F185.same W183
  refine own_pre st183 ?_
  refine own_pre (A := T183.setTop (mkF m 75 #[rv a0, iv (2:Int32), iv (2:Int32)] [(.int (2:Int32)), (.ref a0)])) (fun t k => ?_) ?_
  · show Steps p.tables e below (T183.setTop (mkF m 73 #[rv a0, iv (2:Int32), iv (2:Int32)] [])) _
    refine XS.aloadN X183.here hx rfl (hb hby d1_73) rfl rfl ?_
    show Steps p.tables e below (T183.setTop (mkF m 74 #[rv a0, iv (2:Int32), iv (2:Int32)] [(.ref a0)])) _
    refine XS.iloadN X183.here hx rfl (hb hby d1_74) rfl ?_
    exact k
  have F188 := (F184.wr W183)
  have F189 := ((F177.ext E175).other W183 (Ne.symm ne_a0_b108))
  have F190 := ((F178.ext E175).other W183 (Ne.symm ne_a0_b114))
  have F191 := ((F179.ext E175).other W183 (Ne.symm ne_a0_b146))
  have F192 := ((F180.ext E175).other W183 (Ne.symm ne_a0_b154))
  have F193 := ((F181.ext E175).other W183 (Ne.symm ne_a0_b164))
  have F194 := (V175.other W183 (Ne.symm ne_a0_b175))
  obtain ⟨T187, h187, k187, X187, e187, E187, A187, st187⟩ := newP X183 hx hZ (own_h hw 10 rfl) e183 (g := (mkF m 75 #[rv a0, iv (2:Int32), iv (2:Int32)] [(.int (2:Int32)), (.ref a0)])) rfl (hb hby d1_75) rfl (by decide) (cap := 2) (by decide) (by decide) (by decide) (by decide)
  obtain ⟨b187, g187⟩ : ∃ z, z = h183.size := ⟨_, rfl⟩
  rw [← g187] at A187 st187
  have ge_b187 : n0 ≤ b187 := Nat.le_trans Z186 (Nat.le_of_eq g187.symm)
  have sz_b187 : h0.size ≤ b187 := Nat.le_trans Kp183.1 (Nat.le_of_eq g187.symm)
  have ne_a0_b187 : a0 ≠ b187 := Nat.ne_of_lt (Nat.lt_of_lt_of_le F188.lt (Nat.le_of_eq g187.symm))
  have ne_b108_b187 : b108 ≠ b187 := Nat.ne_of_lt (Nat.lt_of_lt_of_le F189.lt (Nat.le_of_eq g187.symm))
  have ne_b114_b187 : b114 ≠ b187 := Nat.ne_of_lt (Nat.lt_of_lt_of_le F190.lt (Nat.le_of_eq g187.symm))
  have ne_b146_b187 : b146 ≠ b187 := Nat.ne_of_lt (Nat.lt_of_lt_of_le F191.lt (Nat.le_of_eq g187.symm))
  have ne_b154_b187 : b154 ≠ b187 := Nat.ne_of_lt (Nat.lt_of_lt_of_le F192.lt (Nat.le_of_eq g187.symm))
  have ne_b164_b187 : b164 ≠ b187 := Nat.ne_of_lt (Nat.lt_of_lt_of_le F193.lt (Nat.le_of_eq g187.symm))
  have ne_b175_b187 : b175 ≠ b187 := Nat.ne_of_lt (Nat.lt_of_lt_of_le F194.lt (Nat.le_of_eq g187.symm))
  have Kp187 : Keep h0 h187 [a0] := Kp183.ext E187
  have Z195 : n0 ≤ h187.size := Nat.le_trans Z186 E187.1
  have V187 : own_Ints Z h187 b187 [(0:Int32), (0:Int32)] := own_newI A187 (by decide)
  refine own_pre st187 ?_
  have F197 := (F188.ext E187)
  have F198 := (((((((((((((((((P7.ext E108).other W110 (Or.inr (slot_ne (Or.inr (own_h hw 24 rfl)) (Or.inr (own_h hw 12 rfl)) (by decide) (t := (.array .int)) (t' := (.array .int)) (by decide) (by decide)))).ext E114).other W118 (Or.inr (slot_ne (Or.inr (own_h hw 24 rfl)) (Or.inr (own_h hw 14 rfl)) (by decide) (t := (.array .int)) (t' := (.array .int)) (by decide) (by decide)))).other W124 (Or.inl ne_a0_b108)).other W130 (Or.inl ne_a0_b114)).other W136 (Or.inl ne_a0_b108)).other W142 (Or.inl ne_a0_b114)).ext E146).other W150 (Or.inr (slot_ne (Or.inr (own_h hw 24 rfl)) (Or.inr (own_h hw 16 rfl)) (by decide) (t := (.array .int)) (t' := (.array .int)) (by decide) (by decide)))).ext E154).other W160 (Or.inr (slot_ne (Or.inr (own_h hw 24 rfl)) (Or.inr (own_h hw 18 rfl)) (by decide) (t := (.array .int)) (t' := (.array .int)) (by decide) (by decide)))).ext E164).other W171 (Or.inr (slot_ne (Or.inr (own_h hw 24 rfl)) (Or.inr (own_h hw 20 rfl)) (by decide) (t := (.array .int)) (t' := (.array .int)) (by decide) (by decide)))).ext E175).other W183 (Or.inr (slot_ne (Or.inr (own_h hw 24 rfl)) (Or.inr (own_h hw 22 rfl)) (by decide) (t := (.array .int)) (t' := (.array .int)) (by decide) (by decide)))).ext E187)
  obtain ⟨T196, h196, X196, e196, W196, st196⟩ := putF X187 hx hZ hown (host := "") (Or.inl (own_h hw 23 rfl)) Via.refl e187 F198 F197 (Or.inr ⟨(own_h hw 24 rfl), rfl, hnm⟩) (own_h hw 2 rfl) (ty := (.array .int)) (by decide) rfl rfl (g := (mkF m 77 #[rv a0, iv (2:Int32), iv (2:Int32)] [(.ref b187), (.ref a0)])) rfl rfl (hb hby d1_77)
  have Kp196 : Keep h0 h196 [a0] := Kp187.wr W196 (Or.inl (List.mem_of_getElem? (i := 0) rfl))
  have Z199 : n0 ≤ h196.size := Nat.le_trans Z195 (Nat.le_of_eq W196.size.symm)
  have N196 := Fr.snoc X196 N183 gq_a0
  have Fw196 := F198.same W196
  refine own_pre st196 ?_
  refine own_pre (A := T196.setTop (mkF m 81 #[rv a0, iv (2:Int32), iv (2:Int32)] [(.ref a0)])) (fun t k => ?_) ?_
  · show Steps p.tables e below (T196.setTop (mkF m 80 #[rv a0, iv (2:Int32), iv (2:Int32)] [])) _
    refine XS.aloadN X196.here hx rfl (hb hby d1_80) rfl rfl ?_
    exact k
  have F201 := ((((Fw171.ext E175).other W183 (Or.inr (slot_ne (Or.inr (own_h hw 20 rfl)) (Or.inr (own_h hw 22 rfl)) (by decide) (t := (.array .int)) (t' := (.array .int)) (by decide) (by decide)))).ext E187).other W196 (Or.inr (slot_ne (Or.inr (own_h hw 20 rfl)) (Or.inr (own_h hw 24 rfl)) (by decide) (t := (.array .int)) (t' := (.array .int)) (by decide) (by decide))))
  obtain ⟨T200, X200, e200, st200⟩ := getF X196 hx hZ hown (host := "") (Or.inl (own_h hw 19 rfl)) Via.refl e196 F201 (g := (mkF m 81 #[rv a0, iv (2:Int32), iv (2:Int32)] [(.ref a0)])) rfl rfl (hb hby d1_81)
  refine own_pre st200 ?_
  refine own_pre (A := T200.setTop (mkF m 86 #[rv a0, iv (2:Int32), iv (2:Int32)] [(.int (2:Int32)), (.int (0:Int32)), (.ref b164)])) (fun t k => ?_) ?_
  · show Steps p.tables e below (T200.setTop (mkF m 84 #[rv a0, iv (2:Int32), iv (2:Int32)] [(.ref b164)])) _
    refine XS.iconst X200.here hx rfl (hb hby d1_84) ?_
    show Steps p.tables e below (T200.setTop (mkF m 85 #[rv a0, iv (2:Int32), iv (2:Int32)] [(.int (0:Int32)), (.ref b164)])) _
    refine XS.iloadN X200.here hx rfl (hb hby d1_85) rfl ?_
    exact k
  have F203 := ((F193.ext E187).other W196 (Ne.symm ne_a0_b164))
  have hbn204 : own_In (0:Int32) [(0:Int32), (0:Int32)].length := own_lit rfl
  obtain ⟨T202, h202, X202, e202, W202, V202, st202⟩ := own_iastore X200 hx hZ e200 F203 (j := (0:Int32)) (x := (2:Int32)) hbn204 (g := (mkF m 86 #[rv a0, iv (2:Int32), iv (2:Int32)] [(.int (2:Int32)), (.int (0:Int32)), (.ref b164)])) rfl rfl (hb hby d1_86)
  have Kp202 : Keep h0 h202 [a0] := Kp196.wr W202 (Or.inr sz_b164)
  have Z205 : n0 ≤ h202.size := Nat.le_trans Z199 (Nat.le_of_eq W202.size.symm)
  have N202 := Fr.snoc X202 N196 ge_b164
  have Vw202 : own_Ints Z h202 b164 [(2:Int32), (0:Int32)] := V202
  refine own_pre st202 ?_
  refine own_pre (A := T202.setTop (mkF m 89 #[rv a0, iv (2:Int32), iv (2:Int32)] [(.int (1:Int32)), (.ref a0)])) (fun t k => ?_) ?_
  · show Steps p.tables e below (T202.setTop (mkF m 87 #[rv a0, iv (2:Int32), iv (2:Int32)] [])) _
    refine XS.aloadN X202.here hx rfl (hb hby d1_87) rfl rfl ?_
    show Steps p.tables e below (T202.setTop (mkF m 88 #[rv a0, iv (2:Int32), iv (2:Int32)] [(.ref a0)])) _
    refine XS.iconst X202.here hx rfl (hb hby d1_88) ?_
    exact k
  have F207 := ((F197.wr W196).wr W202)
  have F208 := (((((((((((((((((((P8.ext E108).other W110 (Or.inr (slot_ne (Or.inl (own_h hw 26 rfl)) (Or.inr (own_h hw 12 rfl)) (by decide) (t := .int) (t' := (.array .int)) (by decide) (by decide)))).ext E114).other W118 (Or.inr (slot_ne (Or.inl (own_h hw 26 rfl)) (Or.inr (own_h hw 14 rfl)) (by decide) (t := .int) (t' := (.array .int)) (by decide) (by decide)))).other W124 (Or.inl ne_a0_b108)).other W130 (Or.inl ne_a0_b114)).other W136 (Or.inl ne_a0_b108)).other W142 (Or.inl ne_a0_b114)).ext E146).other W150 (Or.inr (slot_ne (Or.inl (own_h hw 26 rfl)) (Or.inr (own_h hw 16 rfl)) (by decide) (t := .int) (t' := (.array .int)) (by decide) (by decide)))).ext E154).other W160 (Or.inr (slot_ne (Or.inl (own_h hw 26 rfl)) (Or.inr (own_h hw 18 rfl)) (by decide) (t := .int) (t' := (.array .int)) (by decide) (by decide)))).ext E164).other W171 (Or.inr (slot_ne (Or.inl (own_h hw 26 rfl)) (Or.inr (own_h hw 20 rfl)) (by decide) (t := .int) (t' := (.array .int)) (by decide) (by decide)))).ext E175).other W183 (Or.inr (slot_ne (Or.inl (own_h hw 26 rfl)) (Or.inr (own_h hw 22 rfl)) (by decide) (t := .int) (t' := (.array .int)) (by decide) (by decide)))).ext E187).other W196 (Or.inr (slot_ne (Or.inl (own_h hw 26 rfl)) (Or.inr (own_h hw 24 rfl)) (by decide) (t := .int) (t' := (.array .int)) (by decide) (by decide)))).other W202 (Or.inl ne_a0_b164))
  obtain ⟨T206, h206, X206, e206, W206, st206⟩ := putF X202 hx hZ hown (host := "") (Or.inl (own_h hw 25 rfl)) Via.refl e202 F208 F207 (Or.inl (own_h hw 26 rfl)) (own_h hw 2 rfl) (ty := .int) (by decide) rfl rfl (g := (mkF m 89 #[rv a0, iv (2:Int32), iv (2:Int32)] [(.int (1:Int32)), (.ref a0)])) rfl rfl (hb hby d1_89)
  have Kp206 : Keep h0 h206 [a0] := Kp202.wr W206 (Or.inl (List.mem_of_getElem? (i := 0) rfl))
  have Z209 : n0 ≤ h206.size := Nat.le_trans Z205 (Nat.le_of_eq W206.size.symm)
  have N206 := Fr.snoc X206 N202 gq_a0
  have Fw206 := F208.same W206
  refine own_pre st206 ?_
  have F210 := ((((((((((((((F135.other W136 (Or.inl ne_a0_b108)).other W142 (Or.inl ne_a0_b114)).ext E146).other W150 (Or.inr (slot_ne (Or.inr (own_h hw 12 rfl)) (Or.inr (own_h hw 16 rfl)) (by decide) (t := (.array .int)) (t' := (.array .int)) (by decide) (by decide)))).ext E154).other W160 (Or.inr (slot_ne (Or.inr (own_h hw 12 rfl)) (Or.inr (own_h hw 18 rfl)) (by decide) (t := (.array .int)) (t' := (.array .int)) (by decide) (by decide)))).ext E164).other W171 (Or.inr (slot_ne (Or.inr (own_h hw 12 rfl)) (Or.inr (own_h hw 20 rfl)) (by decide) (t := (.array .int)) (t' := (.array .int)) (by decide) (by decide)))).ext E175).other W183 (Or.inr (slot_ne (Or.inr (own_h hw 12 rfl)) (Or.inr (own_h hw 22 rfl)) (by decide) (t := (.array .int)) (t' := (.array .int)) (by decide) (by decide)))).ext E187).other W196 (Or.inr (slot_ne (Or.inr (own_h hw 12 rfl)) (Or.inr (own_h hw 24 rfl)) (by decide) (t := (.array .int)) (t' := (.array .int)) (by decide) (by decide)))).other W202 (Or.inl ne_a0_b164)).other W206 (Or.inr (slot_ne (Or.inr (own_h hw 12 rfl)) (Or.inl (own_h hw 26 rfl)) (by decide) (t := (.array .int)) (t' := .int) (by decide) (by decide))))
  have F211 := (((((((((((((F141.other W142 (Or.inl ne_a0_b114)).ext E146).other W150 (Or.inr (slot_ne (Or.inr (own_h hw 14 rfl)) (Or.inr (own_h hw 16 rfl)) (by decide) (t := (.array .int)) (t' := (.array .int)) (by decide) (by decide)))).ext E154).other W160 (Or.inr (slot_ne (Or.inr (own_h hw 14 rfl)) (Or.inr (own_h hw 18 rfl)) (by decide) (t := (.array .int)) (t' := (.array .int)) (by decide) (by decide)))).ext E164).other W171 (Or.inr (slot_ne (Or.inr (own_h hw 14 rfl)) (Or.inr (own_h hw 20 rfl)) (by decide) (t := (.array .int)) (t' := (.array .int)) (by decide) (by decide)))).ext E175).other W183 (Or.inr (slot_ne (Or.inr (own_h hw 14 rfl)) (Or.inr (own_h hw 22 rfl)) (by decide) (t := (.array .int)) (t' := (.array .int)) (by decide) (by decide)))).ext E187).other W196 (Or.inr (slot_ne (Or.inr (own_h hw 14 rfl)) (Or.inr (own_h hw 24 rfl)) (by decide) (t := (.array .int)) (t' := (.array .int)) (by decide) (by decide)))).other W202 (Or.inl ne_a0_b164)).other W206 (Or.inr (slot_ne (Or.inr (own_h hw 14 rfl)) (Or.inl (own_h hw 26 rfl)) (by decide) (t := (.array .int)) (t' := .int) (by decide) (by decide))))
  have F212 := ((((((((((Fw150.ext E154).other W160 (Or.inr (slot_ne (Or.inr (own_h hw 16 rfl)) (Or.inr (own_h hw 18 rfl)) (by decide) (t := (.array .int)) (t' := (.array .int)) (by decide) (by decide)))).ext E164).other W171 (Or.inr (slot_ne (Or.inr (own_h hw 16 rfl)) (Or.inr (own_h hw 20 rfl)) (by decide) (t := (.array .int)) (t' := (.array .int)) (by decide) (by decide)))).ext E175).other W183 (Or.inr (slot_ne (Or.inr (own_h hw 16 rfl)) (Or.inr (own_h hw 22 rfl)) (by decide) (t := (.array .int)) (t' := (.array .int)) (by decide) (by decide)))).ext E187).other W196 (Or.inr (slot_ne (Or.inr (own_h hw 16 rfl)) (Or.inr (own_h hw 24 rfl)) (by decide) (t := (.array .int)) (t' := (.array .int)) (by decide) (by decide)))).other W202 (Or.inl ne_a0_b164)).other W206 (Or.inr (slot_ne (Or.inr (own_h hw 16 rfl)) (Or.inl (own_h hw 26 rfl)) (by decide) (t := (.array .int)) (t' := .int) (by decide) (by decide))))
  have F213 := ((((((((Fw160.ext E164).other W171 (Or.inr (slot_ne (Or.inr (own_h hw 18 rfl)) (Or.inr (own_h hw 20 rfl)) (by decide) (t := (.array .int)) (t' := (.array .int)) (by decide) (by decide)))).ext E175).other W183 (Or.inr (slot_ne (Or.inr (own_h hw 18 rfl)) (Or.inr (own_h hw 22 rfl)) (by decide) (t := (.array .int)) (t' := (.array .int)) (by decide) (by decide)))).ext E187).other W196 (Or.inr (slot_ne (Or.inr (own_h hw 18 rfl)) (Or.inr (own_h hw 24 rfl)) (by decide) (t := (.array .int)) (t' := (.array .int)) (by decide) (by decide)))).other W202 (Or.inl ne_a0_b164)).other W206 (Or.inr (slot_ne (Or.inr (own_h hw 18 rfl)) (Or.inl (own_h hw 26 rfl)) (by decide) (t := (.array .int)) (t' := .int) (by decide) (by decide))))
  have F214 := ((F201.other W202 (Or.inl ne_a0_b164)).other W206 (Or.inr (slot_ne (Or.inr (own_h hw 20 rfl)) (Or.inl (own_h hw 26 rfl)) (by decide) (t := (.array .int)) (t' := .int) (by decide) (by decide))))
  have F215 := ((((Fw183.ext E187).other W196 (Or.inr (slot_ne (Or.inr (own_h hw 22 rfl)) (Or.inr (own_h hw 24 rfl)) (by decide) (t := (.array .int)) (t' := (.array .int)) (by decide) (by decide)))).other W202 (Or.inl ne_a0_b164)).other W206 (Or.inr (slot_ne (Or.inr (own_h hw 22 rfl)) (Or.inl (own_h hw 26 rfl)) (by decide) (t := (.array .int)) (t' := .int) (by decide) (by decide))))
  have F216 := ((Fw196.other W202 (Or.inl ne_a0_b164)).other W206 (Or.inr (slot_ne (Or.inr (own_h hw 24 rfl)) (Or.inl (own_h hw 26 rfl)) (by decide) (t := (.array .int)) (t' := .int) (by decide) (by decide))))
  have F217 := ((((((((((((((((((((P9.ext E108).other W110 (Or.inr (slot_ne (Or.inl (own_h hw 33 rfl)) (Or.inr (own_h hw 12 rfl)) (by decide) (t := .int) (t' := (.array .int)) (by decide) (by decide)))).ext E114).other W118 (Or.inr (slot_ne (Or.inl (own_h hw 33 rfl)) (Or.inr (own_h hw 14 rfl)) (by decide) (t := .int) (t' := (.array .int)) (by decide) (by decide)))).other W124 (Or.inl ne_a0_b108)).other W130 (Or.inl ne_a0_b114)).other W136 (Or.inl ne_a0_b108)).other W142 (Or.inl ne_a0_b114)).ext E146).other W150 (Or.inr (slot_ne (Or.inl (own_h hw 33 rfl)) (Or.inr (own_h hw 16 rfl)) (by decide) (t := .int) (t' := (.array .int)) (by decide) (by decide)))).ext E154).other W160 (Or.inr (slot_ne (Or.inl (own_h hw 33 rfl)) (Or.inr (own_h hw 18 rfl)) (by decide) (t := .int) (t' := (.array .int)) (by decide) (by decide)))).ext E164).other W171 (Or.inr (slot_ne (Or.inl (own_h hw 33 rfl)) (Or.inr (own_h hw 20 rfl)) (by decide) (t := .int) (t' := (.array .int)) (by decide) (by decide)))).ext E175).other W183 (Or.inr (slot_ne (Or.inl (own_h hw 33 rfl)) (Or.inr (own_h hw 22 rfl)) (by decide) (t := .int) (t' := (.array .int)) (by decide) (by decide)))).ext E187).other W196 (Or.inr (slot_ne (Or.inl (own_h hw 33 rfl)) (Or.inr (own_h hw 24 rfl)) (by decide) (t := .int) (t' := (.array .int)) (by decide) (by decide)))).other W202 (Or.inl ne_a0_b164)).other W206 (Or.inr (slot_ne (Or.inl (own_h hw 33 rfl)) (Or.inl (own_h hw 26 rfl)) (by decide) (t := .int) (t' := .int) (by decide) (by decide))))
  have F218 := ((((F189.ext E187).other W196 (Ne.symm ne_a0_b108)).other W202 ne_b108_b164).other W206 (Ne.symm ne_a0_b108))
  have F219 := ((((F190.ext E187).other W196 (Ne.symm ne_a0_b114)).other W202 ne_b114_b164).other W206 (Ne.symm ne_a0_b114))
  have F220 := ((((F191.ext E187).other W196 (Ne.symm ne_a0_b146)).other W202 ne_b146_b164).other W206 (Ne.symm ne_a0_b146))
  have F221 := ((((F192.ext E187).other W196 (Ne.symm ne_a0_b154)).other W202 ne_b154_b164).other W206 (Ne.symm ne_a0_b154))
  have F222 := (Vw202.other W206 (Ne.symm ne_a0_b164))
  have F223 := ((((F194.ext E187).other W196 (Ne.symm ne_a0_b175)).other W202 (Ne.symm ne_b164_b175)).other W206 (Ne.symm ne_a0_b175))
  have F224 := (((V187.other W196 (Ne.symm ne_a0_b187)).other W202 (Ne.symm ne_b164_b187)).other W206 (Ne.symm ne_a0_b187))
  exact own_end X206 (BodyLoose.notSynchronized Bd) (fun _ => rfl) (v := none) (fun fs hr => X206.returnOut hx Bd.returns (hb hby d1_92) hr) (by show Q1n2 Z a0 h0 n0 _ T206.heap _; rw [e206]; exact ⟨rfl, N206, Kp206, b108, b114, b146, b154, b164, b175, b187, sz_b108, sz_b114, sz_b146, sz_b154, sz_b164, sz_b175, sz_b187, ne_b108_b114, ne_b108_b146, ne_b108_b154, ne_b108_b164, ne_b108_b175, ne_b108_b187, ne_b114_b146, ne_b114_b154, ne_b114_b164, ne_b114_b175, ne_b114_b187, ne_b146_b154, ne_b146_b164, ne_b146_b175, ne_b146_b187, ne_b154_b164, ne_b154_b175, ne_b154_b187, ne_b164_b175, ne_b164_b187, ne_b175_b187, F210, F211, F212, F213, F214, F215, F216, Fw206, F217, F218, F219, F220, F221, F222, F223, F224⟩) (by decide) (by decide)
theorem ef1n3 (m : MethodId) (a0 : Addr) : entryFrame m #[(.ref a0), (.int (3:Int32))] 3 = mkF m 0 #[rv a0, iv (3:Int32), .unset] [] := by first | (simp [entryFrame, mkF, argsToLocals, Value.category]; done) | rfl
def Q1n3 (Z : State) (a0 : Addr)  (h0 : Heap) (n0 : Nat) (v : Option Value) (h : Heap) (L : List Loc) : Prop := v = none ∧ Fr n0 L ∧ Keep h0 h [a0] ∧ ∃ e1 : Addr, ∃ e2 : Addr, ∃ e3 : Addr, ∃ e4 : Addr, ∃ e5 : Addr, ∃ e6 : Addr, ∃ e7 : Addr, h0.size ≤ e1 ∧ h0.size ≤ e2 ∧ h0.size ≤ e3 ∧ h0.size ≤ e4 ∧ h0.size ≤ e5 ∧ h0.size ≤ e6 ∧ h0.size ≤ e7 ∧ e1 ≠ e2 ∧ e1 ≠ e3 ∧ e1 ≠ e4 ∧ e1 ≠ e5 ∧ e1 ≠ e6 ∧ e1 ≠ e7 ∧ e2 ≠ e3 ∧ e2 ≠ e4 ∧ e2 ≠ e5 ∧ e2 ≠ e6 ∧ e2 ≠ e7 ∧ e3 ≠ e4 ∧ e3 ≠ e5 ∧ e3 ≠ e6 ∧ e3 ≠ e7 ∧ e4 ≠ e5 ∧ e4 ≠ e6 ∧ e4 ≠ e7 ∧ e5 ≠ e6 ∧ e5 ≠ e7 ∧ e6 ≠ e7 ∧ Fld Z h a0 "com/example/spare_calculus/sparecalculus/bisim/Partition" "elements" "[I" (.ref e1) ∧ Fld Z h a0 "com/example/spare_calculus/sparecalculus/bisim/Partition" "positions" "[I" (.ref e2) ∧ Fld Z h a0 "com/example/spare_calculus/sparecalculus/bisim/Partition" "blockOf" "[I" (.ref e3) ∧ Fld Z h a0 "com/example/spare_calculus/sparecalculus/bisim/Partition" "blockStart" "[I" (.ref e4) ∧ Fld Z h a0 "com/example/spare_calculus/sparecalculus/bisim/Partition" "blockEnd" "[I" (.ref e5) ∧ Fld Z h a0 "com/example/spare_calculus/sparecalculus/bisim/Partition" "blockMarkedEnd" "[I" (.ref e6) ∧ Fld Z h a0 "com/example/spare_calculus/sparecalculus/bisim/Partition" "touchedBlocks" "[I" (.ref e7) ∧ Fld Z h a0 "com/example/spare_calculus/sparecalculus/bisim/Partition" "blockCount" "I" (.int (1:Int32)) ∧ Fld Z h a0 "com/example/spare_calculus/sparecalculus/bisim/Partition" "touchedBlockCount" "I" (.int (0:Int32)) ∧ own_Ints Z h e1 [(0:Int32), (1:Int32), (2:Int32)] ∧ own_Ints Z h e2 [(0:Int32), (1:Int32), (2:Int32)] ∧ own_Ints Z h e3 [(0:Int32), (0:Int32), (0:Int32)] ∧ own_Ints Z h e4 [(0:Int32), (0:Int32), (0:Int32)] ∧ own_Ints Z h e5 [(3:Int32), (0:Int32), (0:Int32)] ∧ own_Ints Z h e6 [(0:Int32), (0:Int32), (0:Int32)] ∧ own_Ints Z h e7 [(0:Int32), (0:Int32), (0:Int32)]
set_option maxRecDepth 65536 in
set_option maxHeartbeats 40000000 in
theorem rm1n3 (l : Launch) (Z : State) (aZ : Array Value) (hw : ∀ d ∈ tables_1, d.before aZ Z = true) (ws : List Jvm.Cond) (a0 : Addr)  (h0 : Heap) (n0 : Nat) (Z0 : n0 ≤ h0.size) (P0 : Exa Z h0 a0 "com/example/spare_calculus/sparecalculus/bisim/Partition") (P1 : Fld Z h0 a0 "com/example/spare_calculus/sparecalculus/bisim/Partition" "elements" "[I" .null) (P2 : Fld Z h0 a0 "com/example/spare_calculus/sparecalculus/bisim/Partition" "positions" "[I" .null) (P3 : Fld Z h0 a0 "com/example/spare_calculus/sparecalculus/bisim/Partition" "blockOf" "[I" .null) (P4 : Fld Z h0 a0 "com/example/spare_calculus/sparecalculus/bisim/Partition" "blockStart" "[I" .null) (P5 : Fld Z h0 a0 "com/example/spare_calculus/sparecalculus/bisim/Partition" "blockEnd" "[I" .null) (P6 : Fld Z h0 a0 "com/example/spare_calculus/sparecalculus/bisim/Partition" "blockMarkedEnd" "[I" .null) (P7 : Fld Z h0 a0 "com/example/spare_calculus/sparecalculus/bisim/Partition" "touchedBlocks" "[I" .null) (P8 : Fld Z h0 a0 "com/example/spare_calculus/sparecalculus/bisim/Partition" "blockCount" "I" (.int (0:Int32))) (P9 : Fld Z h0 a0 "com/example/spare_calculus/sparecalculus/bisim/Partition" "touchedBlockCount" "I" (.int (0:Int32))) (gq_a0 : n0 ≤ a0) :
    MetFree l (⟨"com/example/spare_calculus/sparecalculus/bisim/Partition", "<init>", "(I)V"⟩ : MethodName) (head1 (Jvm.Cond.code (⟨"com/example/spare_calculus/sparecalculus/bisim/Partition", "<init>", "(I)V"⟩ : MethodName) prog_16_method_1_code 3 none :: ws) ({ frames := 1, cells := 7, slots := 21, locals := 12 } : Room)) (fun a U => a = #[(.ref a0), (.int (3:Int32))] ∧ Z.Warmed39 U.vm ∧ U.heap = h0) (fun _ _ _ _ _ => True) (fun _ U o U' => ∃ v L, o = .returned v ∧ Q1n3 Z a0 h0 n0 v U'.heap L ∧ FrameEnd U o U' L ({ frames := 1, cells := 7, slots := 21, locals := 12 } : Room).cells ({ frames := 1, cells := 7, slots := 21, locals := 12 } : Room).slots) := by
  refine MetFree.of_bodySF (plainFor_of_name own_pn0) hisR ?_
  intro p e s m args below meth c s₁ Bd hml0 hP hK
  obtain ⟨rfl, hZ, hh⟩ := hP
  have hx := Bd.exec
  have hby := Bd.bytes
  have hml : c.maxLocals = 3 := hml0
  have hown : s.vm.findClass "com/example/spare_calculus/sparecalculus/bisim/Partition" = some m.cls := findClass_of_methodNamed Bd.named
  have hnm := (name_of_methodNamed Bd.named Bd.method).1
  have X0 : Stand p l e ({ frames := 1, cells := 7, slots := 21, locals := 12 } : Room) s m #[(.ref a0), (.int (3:Int32))] below meth c s₁ [] 0 0 := Stand.of_body Bd
  have e0 : s₁.heap = h0 := by rw [← hh, Bd.state]; rfl
  have N0 := Fr.nil n0
  have Kp0 : Keep h0 h0 [a0] := Keep.refl _ _
  show own_Goes p e below s (Q1n3 Z a0 h0 n0) ({ frames := 1, cells := 7, slots := 21, locals := 12 } : Room).cells ({ frames := 1, cells := 7, slots := 21, locals := 12 } : Room).slots _
  refine own_pre (fun t k => castTop (ef1n3 m a0) k) ?_
  refine own_pre (A := s₁.setTop (mkF m 1 #[rv a0, iv (3:Int32), .unset] [(.ref a0)])) (fun t k => ?_) ?_
  · show Steps p.tables e below (s₁.setTop (mkF m 0 #[rv a0, iv (3:Int32), .unset] [])) _
    refine XS.aloadN X0.here hx rfl (hb hby d1_0) rfl rfl ?_
    exact k
  obtain ⟨T225, X225, e225, st225⟩ := initO X0 hx hZ hown (own_h hw 7 rfl) (own_h hw 8 rfl) (own_h hw 9 rfl) e0 (g := (mkF m 1 #[rv a0, iv (3:Int32), .unset] [(.ref a0)])) rfl (by rw [hml]; rfl) rfl (hb hby d1_1) (by decide) (W := 0) (by show 2 * 0 + _ ≤ _; exact Nat.le_of_eq rfl) (by decide)
  refine own_pre st225 ?_
  refine own_pre (A := T225.setTop (mkF m 6 #[rv a0, iv (3:Int32), .unset] [(.int (3:Int32)), (.ref a0)])) (fun t k => ?_) ?_
  · show Steps p.tables e below (T225.setTop (mkF m 4 #[rv a0, iv (3:Int32), .unset] [])) _
    refine XS.aloadN X225.here hx rfl (hb hby d1_4) rfl rfl ?_
    show Steps p.tables e below (T225.setTop (mkF m 5 #[rv a0, iv (3:Int32), .unset] [(.ref a0)])) _
    refine XS.iloadN X225.here hx rfl (hb hby d1_5) rfl ?_
    exact k
  obtain ⟨T226, h226, k226, X226, e226, E226, A226, st226⟩ := newP X225 hx hZ (own_h hw 10 rfl) e225 (g := (mkF m 6 #[rv a0, iv (3:Int32), .unset] [(.int (3:Int32)), (.ref a0)])) rfl (hb hby d1_6) rfl (by decide) (cap := 3) (by decide) (by decide) (by decide) (by decide)
  obtain ⟨b226, g226⟩ : ∃ z, z = h0.size := ⟨_, rfl⟩
  rw [← g226] at A226 st226
  have ge_b226 : n0 ≤ b226 := Nat.le_trans Z0 (Nat.le_of_eq g226.symm)
  have sz_b226 : h0.size ≤ b226 := Nat.le_trans Kp0.1 (Nat.le_of_eq g226.symm)
  have ne_a0_b226 : a0 ≠ b226 := Nat.ne_of_lt (Nat.lt_of_lt_of_le P0.lt (Nat.le_of_eq g226.symm))
  have Kp226 : Keep h0 h226 [a0] := Kp0.ext E226
  have Z227 : n0 ≤ h226.size := Nat.le_trans Z0 E226.1
  have V226 : own_Ints Z h226 b226 [(0:Int32), (0:Int32), (0:Int32)] := own_newI A226 (by decide)
  refine own_pre st226 ?_
  have F229 := (P0.ext E226)
  have F230 := (P1.ext E226)
  obtain ⟨T228, h228, X228, e228, W228, st228⟩ := putF X226 hx hZ hown (host := "") (Or.inl (own_h hw 11 rfl)) Via.refl e226 F230 F229 (Or.inr ⟨(own_h hw 12 rfl), rfl, hnm⟩) (own_h hw 2 rfl) (ty := (.array .int)) (by decide) rfl rfl (g := (mkF m 8 #[rv a0, iv (3:Int32), .unset] [(.ref b226), (.ref a0)])) rfl rfl (hb hby d1_8)
  have Kp228 : Keep h0 h228 [a0] := Kp226.wr W228 (Or.inl (List.mem_of_getElem? (i := 0) rfl))
  have Z231 : n0 ≤ h228.size := Nat.le_trans Z227 (Nat.le_of_eq W228.size.symm)
  have N228 := Fr.snoc X228 N0 gq_a0
  have Fw228 := F230.same W228
  refine own_pre st228 ?_
  refine own_pre (A := T228.setTop (mkF m 13 #[rv a0, iv (3:Int32), .unset] [(.int (3:Int32)), (.ref a0)])) (fun t k => ?_) ?_
  · show Steps p.tables e below (T228.setTop (mkF m 11 #[rv a0, iv (3:Int32), .unset] [])) _
    refine XS.aloadN X228.here hx rfl (hb hby d1_11) rfl rfl ?_
    show Steps p.tables e below (T228.setTop (mkF m 12 #[rv a0, iv (3:Int32), .unset] [(.ref a0)])) _
    refine XS.iloadN X228.here hx rfl (hb hby d1_12) rfl ?_
    exact k
  have F233 := (F229.wr W228)
  have F234 := (V226.other W228 (Ne.symm ne_a0_b226))
  obtain ⟨T232, h232, k232, X232, e232, E232, A232, st232⟩ := newP X228 hx hZ (own_h hw 10 rfl) e228 (g := (mkF m 13 #[rv a0, iv (3:Int32), .unset] [(.int (3:Int32)), (.ref a0)])) rfl (hb hby d1_13) rfl (by decide) (cap := 3) (by decide) (by decide) (by decide) (by decide)
  obtain ⟨b232, g232⟩ : ∃ z, z = h228.size := ⟨_, rfl⟩
  rw [← g232] at A232 st232
  have ge_b232 : n0 ≤ b232 := Nat.le_trans Z231 (Nat.le_of_eq g232.symm)
  have sz_b232 : h0.size ≤ b232 := Nat.le_trans Kp228.1 (Nat.le_of_eq g232.symm)
  have ne_a0_b232 : a0 ≠ b232 := Nat.ne_of_lt (Nat.lt_of_lt_of_le F233.lt (Nat.le_of_eq g232.symm))
  have ne_b226_b232 : b226 ≠ b232 := Nat.ne_of_lt (Nat.lt_of_lt_of_le F234.lt (Nat.le_of_eq g232.symm))
  have Kp232 : Keep h0 h232 [a0] := Kp228.ext E232
  have Z235 : n0 ≤ h232.size := Nat.le_trans Z231 E232.1
  have V232 : own_Ints Z h232 b232 [(0:Int32), (0:Int32), (0:Int32)] := own_newI A232 (by decide)
  refine own_pre st232 ?_
  have F237 := (F233.ext E232)
  have F238 := (((P2.ext E226).other W228 (Or.inr (slot_ne (Or.inr (own_h hw 14 rfl)) (Or.inr (own_h hw 12 rfl)) (by decide) (t := (.array .int)) (t' := (.array .int)) (by decide) (by decide)))).ext E232)
  obtain ⟨T236, h236, X236, e236, W236, st236⟩ := putF X232 hx hZ hown (host := "") (Or.inl (own_h hw 13 rfl)) Via.refl e232 F238 F237 (Or.inr ⟨(own_h hw 14 rfl), rfl, hnm⟩) (own_h hw 2 rfl) (ty := (.array .int)) (by decide) rfl rfl (g := (mkF m 15 #[rv a0, iv (3:Int32), .unset] [(.ref b232), (.ref a0)])) rfl rfl (hb hby d1_15)
  have Kp236 : Keep h0 h236 [a0] := Kp232.wr W236 (Or.inl (List.mem_of_getElem? (i := 0) rfl))
  have Z239 : n0 ≤ h236.size := Nat.le_trans Z235 (Nat.le_of_eq W236.size.symm)
  have N236 := Fr.snoc X236 N228 gq_a0
  have Fw236 := F238.same W236
  refine own_pre st236 ?_
  refine own_pre (A := T236.setTop (mkF m 26 #[rv a0, iv (3:Int32), iv (0:Int32)] [(.ref a0)])) (fun t k => ?_) ?_
  · show Steps p.tables e below (T236.setTop (mkF m 18 #[rv a0, iv (3:Int32), .unset] [])) _
    refine XS.iconst X236.here hx rfl (hb hby d1_18) ?_
    show Steps p.tables e below (T236.setTop (mkF m 19 #[rv a0, iv (3:Int32), .unset] [(.int (0:Int32))])) _
    refine XS.istoreN X236.here hx rfl (hb hby d1_19) rfl (l' := #[rv a0, iv (3:Int32), iv (0:Int32)]) rfl ?_
    show Steps p.tables e below (T236.setTop (mkF m 20 #[rv a0, iv (3:Int32), iv (0:Int32)] [])) _
    refine XS.iloadN X236.here hx rfl (hb hby d1_20) rfl ?_
    show Steps p.tables e below (T236.setTop (mkF m 21 #[rv a0, iv (3:Int32), iv (0:Int32)] [(.int (0:Int32))])) _
    refine XS.iloadN X236.here hx rfl (hb hby d1_21) rfl ?_
    show Steps p.tables e below (T236.setTop (mkF m 22 #[rv a0, iv (3:Int32), iv (0:Int32)] [(.int (3:Int32)), (.int (0:Int32))])) _
    refine XS.icmpNo X236.here hx rfl (hb hby d1_22) rfl (XT.ii_ge_f (by decide)) ?_
    show Steps p.tables e below (T236.setTop (mkF m 25 #[rv a0, iv (3:Int32), iv (0:Int32)] [])) _
    refine XS.aloadN X236.here hx rfl (hb hby d1_25) rfl rfl ?_
    exact k
  have F241 := ((Fw228.ext E232).other W236 (Or.inr (slot_ne (Or.inr (own_h hw 12 rfl)) (Or.inr (own_h hw 14 rfl)) (by decide) (t := (.array .int)) (t' := (.array .int)) (by decide) (by decide))))
  obtain ⟨T240, X240, e240, st240⟩ := getF X236 hx hZ hown (host := "") (Or.inl (own_h hw 11 rfl)) Via.refl e236 F241 (g := (mkF m 26 #[rv a0, iv (3:Int32), iv (0:Int32)] [(.ref a0)])) rfl rfl (hb hby d1_26)
  refine own_pre st240 ?_
  refine own_pre (A := T240.setTop (mkF m 31 #[rv a0, iv (3:Int32), iv (0:Int32)] [(.int (0:Int32)), (.int (0:Int32)), (.ref b226)])) (fun t k => ?_) ?_
  · show Steps p.tables e below (T240.setTop (mkF m 29 #[rv a0, iv (3:Int32), iv (0:Int32)] [(.ref b226)])) _
    refine XS.iloadN X240.here hx rfl (hb hby d1_29) rfl ?_
    show Steps p.tables e below (T240.setTop (mkF m 30 #[rv a0, iv (3:Int32), iv (0:Int32)] [(.int (0:Int32)), (.ref b226)])) _
    refine XS.iloadN X240.here hx rfl (hb hby d1_30) rfl ?_
    exact k
  have F243 := ((F234.ext E232).other W236 (Ne.symm ne_a0_b226))
  have hbn244 : own_In (0:Int32) [(0:Int32), (0:Int32), (0:Int32)].length := own_lit rfl
  obtain ⟨T242, h242, X242, e242, W242, V242, st242⟩ := own_iastore X240 hx hZ e240 F243 (j := (0:Int32)) (x := (0:Int32)) hbn244 (g := (mkF m 31 #[rv a0, iv (3:Int32), iv (0:Int32)] [(.int (0:Int32)), (.int (0:Int32)), (.ref b226)])) rfl rfl (hb hby d1_31)
  have Kp242 : Keep h0 h242 [a0] := Kp236.wr W242 (Or.inr sz_b226)
  have Z245 : n0 ≤ h242.size := Nat.le_trans Z239 (Nat.le_of_eq W242.size.symm)
  have N242 := Fr.snoc X242 N236 ge_b226
  have Vw242 : own_Ints Z h242 b226 [(0:Int32), (0:Int32), (0:Int32)] := V242
  refine own_pre st242 ?_
  refine own_pre (A := T242.setTop (mkF m 33 #[rv a0, iv (3:Int32), iv (0:Int32)] [(.ref a0)])) (fun t k => ?_) ?_
  · show Steps p.tables e below (T242.setTop (mkF m 32 #[rv a0, iv (3:Int32), iv (0:Int32)] [])) _
    refine XS.aloadN X242.here hx rfl (hb hby d1_32) rfl rfl ?_
    exact k
  have F247 := (Fw236.other W242 (Or.inl ne_a0_b226))
  obtain ⟨T246, X246, e246, st246⟩ := getF X242 hx hZ hown (host := "") (Or.inl (own_h hw 13 rfl)) Via.refl e242 F247 (g := (mkF m 33 #[rv a0, iv (3:Int32), iv (0:Int32)] [(.ref a0)])) rfl rfl (hb hby d1_33)
  refine own_pre st246 ?_
  refine own_pre (A := T246.setTop (mkF m 38 #[rv a0, iv (3:Int32), iv (0:Int32)] [(.int (0:Int32)), (.int (0:Int32)), (.ref b232)])) (fun t k => ?_) ?_
  · show Steps p.tables e below (T246.setTop (mkF m 36 #[rv a0, iv (3:Int32), iv (0:Int32)] [(.ref b232)])) _
    refine XS.iloadN X246.here hx rfl (hb hby d1_36) rfl ?_
    show Steps p.tables e below (T246.setTop (mkF m 37 #[rv a0, iv (3:Int32), iv (0:Int32)] [(.int (0:Int32)), (.ref b232)])) _
    refine XS.iloadN X246.here hx rfl (hb hby d1_37) rfl ?_
    exact k
  have F249 := ((V232.other W236 (Ne.symm ne_a0_b232)).other W242 (Ne.symm ne_b226_b232))
  have hbn250 : own_In (0:Int32) [(0:Int32), (0:Int32), (0:Int32)].length := own_lit rfl
  obtain ⟨T248, h248, X248, e248, W248, V248, st248⟩ := own_iastore X246 hx hZ e246 F249 (j := (0:Int32)) (x := (0:Int32)) hbn250 (g := (mkF m 38 #[rv a0, iv (3:Int32), iv (0:Int32)] [(.int (0:Int32)), (.int (0:Int32)), (.ref b232)])) rfl rfl (hb hby d1_38)
  have Kp248 : Keep h0 h248 [a0] := Kp242.wr W248 (Or.inr sz_b232)
  have Z251 : n0 ≤ h248.size := Nat.le_trans Z245 (Nat.le_of_eq W248.size.symm)
  have N248 := Fr.snoc X248 N242 ge_b232
  have Vw248 : own_Ints Z h248 b232 [(0:Int32), (0:Int32), (0:Int32)] := V248
  refine own_pre st248 ?_
  refine own_pre (A := T248.setTop (mkF m 26 #[rv a0, iv (3:Int32), iv (1:Int32)] [(.ref a0)])) (fun t k => ?_) ?_
  · show Steps p.tables e below (T248.setTop (mkF m 39 #[rv a0, iv (3:Int32), iv (0:Int32)] [])) _
    refine XS.iinc X248.here hx rfl (hb hby d1_39) rfl (l' := #[rv a0, iv (3:Int32), iv (1:Int32)]) rfl ?_
    show Steps p.tables e below (T248.setTop (mkF m 42 #[rv a0, iv (3:Int32), iv (1:Int32)] [])) _
    refine XS.goto X248.here hx rfl (pc0 := 42) (pc' := 20) rfl (hb hby d1_42) (by decide) (by decide) ?_
    show Steps p.tables e below (T248.setTop (mkF m 20 #[rv a0, iv (3:Int32), iv (1:Int32)] [])) _
    refine XS.iloadN X248.here hx rfl (hb hby d1_20) rfl ?_
    show Steps p.tables e below (T248.setTop (mkF m 21 #[rv a0, iv (3:Int32), iv (1:Int32)] [(.int (1:Int32))])) _
    refine XS.iloadN X248.here hx rfl (hb hby d1_21) rfl ?_
    show Steps p.tables e below (T248.setTop (mkF m 22 #[rv a0, iv (3:Int32), iv (1:Int32)] [(.int (3:Int32)), (.int (1:Int32))])) _
    refine XS.icmpNo X248.here hx rfl (hb hby d1_22) rfl (XT.ii_ge_f (by decide)) ?_
    show Steps p.tables e below (T248.setTop (mkF m 25 #[rv a0, iv (3:Int32), iv (1:Int32)] [])) _
    refine XS.aloadN X248.here hx rfl (hb hby d1_25) rfl rfl ?_
    exact k
  have F253 := ((F241.other W242 (Or.inl ne_a0_b226)).other W248 (Or.inl ne_a0_b232))
  obtain ⟨T252, X252, e252, st252⟩ := getF X248 hx hZ hown (host := "") (Or.inl (own_h hw 11 rfl)) Via.refl e248 F253 (g := (mkF m 26 #[rv a0, iv (3:Int32), iv (1:Int32)] [(.ref a0)])) rfl rfl (hb hby d1_26)
  refine own_pre st252 ?_
  refine own_pre (A := T252.setTop (mkF m 31 #[rv a0, iv (3:Int32), iv (1:Int32)] [(.int (1:Int32)), (.int (1:Int32)), (.ref b226)])) (fun t k => ?_) ?_
  · show Steps p.tables e below (T252.setTop (mkF m 29 #[rv a0, iv (3:Int32), iv (1:Int32)] [(.ref b226)])) _
    refine XS.iloadN X252.here hx rfl (hb hby d1_29) rfl ?_
    show Steps p.tables e below (T252.setTop (mkF m 30 #[rv a0, iv (3:Int32), iv (1:Int32)] [(.int (1:Int32)), (.ref b226)])) _
    refine XS.iloadN X252.here hx rfl (hb hby d1_30) rfl ?_
    exact k
  have F255 := (Vw242.other W248 ne_b226_b232)
  have hbn256 : own_In (1:Int32) [(0:Int32), (0:Int32), (0:Int32)].length := own_lit rfl
  obtain ⟨T254, h254, X254, e254, W254, V254, st254⟩ := own_iastore X252 hx hZ e252 F255 (j := (1:Int32)) (x := (1:Int32)) hbn256 (g := (mkF m 31 #[rv a0, iv (3:Int32), iv (1:Int32)] [(.int (1:Int32)), (.int (1:Int32)), (.ref b226)])) rfl rfl (hb hby d1_31)
  have Kp254 : Keep h0 h254 [a0] := Kp248.wr W254 (Or.inr sz_b226)
  have Z257 : n0 ≤ h254.size := Nat.le_trans Z251 (Nat.le_of_eq W254.size.symm)
  have N254 := Fr.snoc X254 N248 ge_b226
  have Vw254 : own_Ints Z h254 b226 [(0:Int32), (1:Int32), (0:Int32)] := V254
  refine own_pre st254 ?_
  refine own_pre (A := T254.setTop (mkF m 33 #[rv a0, iv (3:Int32), iv (1:Int32)] [(.ref a0)])) (fun t k => ?_) ?_
  · show Steps p.tables e below (T254.setTop (mkF m 32 #[rv a0, iv (3:Int32), iv (1:Int32)] [])) _
    refine XS.aloadN X254.here hx rfl (hb hby d1_32) rfl rfl ?_
    exact k
  have F259 := ((F247.other W248 (Or.inl ne_a0_b232)).other W254 (Or.inl ne_a0_b226))
  obtain ⟨T258, X258, e258, st258⟩ := getF X254 hx hZ hown (host := "") (Or.inl (own_h hw 13 rfl)) Via.refl e254 F259 (g := (mkF m 33 #[rv a0, iv (3:Int32), iv (1:Int32)] [(.ref a0)])) rfl rfl (hb hby d1_33)
  refine own_pre st258 ?_
  refine own_pre (A := T258.setTop (mkF m 38 #[rv a0, iv (3:Int32), iv (1:Int32)] [(.int (1:Int32)), (.int (1:Int32)), (.ref b232)])) (fun t k => ?_) ?_
  · show Steps p.tables e below (T258.setTop (mkF m 36 #[rv a0, iv (3:Int32), iv (1:Int32)] [(.ref b232)])) _
    refine XS.iloadN X258.here hx rfl (hb hby d1_36) rfl ?_
    show Steps p.tables e below (T258.setTop (mkF m 37 #[rv a0, iv (3:Int32), iv (1:Int32)] [(.int (1:Int32)), (.ref b232)])) _
    refine XS.iloadN X258.here hx rfl (hb hby d1_37) rfl ?_
    exact k
  have F261 := (Vw248.other W254 (Ne.symm ne_b226_b232))
  have hbn262 : own_In (1:Int32) [(0:Int32), (0:Int32), (0:Int32)].length := own_lit rfl
  obtain ⟨T260, h260, X260, e260, W260, V260, st260⟩ := own_iastore X258 hx hZ e258 F261 (j := (1:Int32)) (x := (1:Int32)) hbn262 (g := (mkF m 38 #[rv a0, iv (3:Int32), iv (1:Int32)] [(.int (1:Int32)), (.int (1:Int32)), (.ref b232)])) rfl rfl (hb hby d1_38)
  have Kp260 : Keep h0 h260 [a0] := Kp254.wr W260 (Or.inr sz_b232)
  have Z263 : n0 ≤ h260.size := Nat.le_trans Z257 (Nat.le_of_eq W260.size.symm)
  have N260 := Fr.snoc X260 N254 ge_b232
  have Vw260 : own_Ints Z h260 b232 [(0:Int32), (1:Int32), (0:Int32)] := V260
  refine own_pre st260 ?_
  refine own_pre (A := T260.setTop (mkF m 26 #[rv a0, iv (3:Int32), iv (2:Int32)] [(.ref a0)])) (fun t k => ?_) ?_
  · show Steps p.tables e below (T260.setTop (mkF m 39 #[rv a0, iv (3:Int32), iv (1:Int32)] [])) _
    refine XS.iinc X260.here hx rfl (hb hby d1_39) rfl (l' := #[rv a0, iv (3:Int32), iv (2:Int32)]) rfl ?_
    show Steps p.tables e below (T260.setTop (mkF m 42 #[rv a0, iv (3:Int32), iv (2:Int32)] [])) _
    refine XS.goto X260.here hx rfl (pc0 := 42) (pc' := 20) rfl (hb hby d1_42) (by decide) (by decide) ?_
    show Steps p.tables e below (T260.setTop (mkF m 20 #[rv a0, iv (3:Int32), iv (2:Int32)] [])) _
    refine XS.iloadN X260.here hx rfl (hb hby d1_20) rfl ?_
    show Steps p.tables e below (T260.setTop (mkF m 21 #[rv a0, iv (3:Int32), iv (2:Int32)] [(.int (2:Int32))])) _
    refine XS.iloadN X260.here hx rfl (hb hby d1_21) rfl ?_
    show Steps p.tables e below (T260.setTop (mkF m 22 #[rv a0, iv (3:Int32), iv (2:Int32)] [(.int (3:Int32)), (.int (2:Int32))])) _
    refine XS.icmpNo X260.here hx rfl (hb hby d1_22) rfl (XT.ii_ge_f (by decide)) ?_
    show Steps p.tables e below (T260.setTop (mkF m 25 #[rv a0, iv (3:Int32), iv (2:Int32)] [])) _
    refine XS.aloadN X260.here hx rfl (hb hby d1_25) rfl rfl ?_
    exact k
  have F265 := ((F253.other W254 (Or.inl ne_a0_b226)).other W260 (Or.inl ne_a0_b232))
  obtain ⟨T264, X264, e264, st264⟩ := getF X260 hx hZ hown (host := "") (Or.inl (own_h hw 11 rfl)) Via.refl e260 F265 (g := (mkF m 26 #[rv a0, iv (3:Int32), iv (2:Int32)] [(.ref a0)])) rfl rfl (hb hby d1_26)
  refine own_pre st264 ?_
  refine own_pre (A := T264.setTop (mkF m 31 #[rv a0, iv (3:Int32), iv (2:Int32)] [(.int (2:Int32)), (.int (2:Int32)), (.ref b226)])) (fun t k => ?_) ?_
  · show Steps p.tables e below (T264.setTop (mkF m 29 #[rv a0, iv (3:Int32), iv (2:Int32)] [(.ref b226)])) _
    refine XS.iloadN X264.here hx rfl (hb hby d1_29) rfl ?_
    show Steps p.tables e below (T264.setTop (mkF m 30 #[rv a0, iv (3:Int32), iv (2:Int32)] [(.int (2:Int32)), (.ref b226)])) _
    refine XS.iloadN X264.here hx rfl (hb hby d1_30) rfl ?_
    exact k
  have F267 := (Vw254.other W260 ne_b226_b232)
  have hbn268 : own_In (2:Int32) [(0:Int32), (1:Int32), (0:Int32)].length := own_lit rfl
  obtain ⟨T266, h266, X266, e266, W266, V266, st266⟩ := own_iastore X264 hx hZ e264 F267 (j := (2:Int32)) (x := (2:Int32)) hbn268 (g := (mkF m 31 #[rv a0, iv (3:Int32), iv (2:Int32)] [(.int (2:Int32)), (.int (2:Int32)), (.ref b226)])) rfl rfl (hb hby d1_31)
  have Kp266 : Keep h0 h266 [a0] := Kp260.wr W266 (Or.inr sz_b226)
  have Z269 : n0 ≤ h266.size := Nat.le_trans Z263 (Nat.le_of_eq W266.size.symm)
  have N266 := Fr.snoc X266 N260 ge_b226
  have Vw266 : own_Ints Z h266 b226 [(0:Int32), (1:Int32), (2:Int32)] := V266
  refine own_pre st266 ?_
  refine own_pre (A := T266.setTop (mkF m 33 #[rv a0, iv (3:Int32), iv (2:Int32)] [(.ref a0)])) (fun t k => ?_) ?_
  · show Steps p.tables e below (T266.setTop (mkF m 32 #[rv a0, iv (3:Int32), iv (2:Int32)] [])) _
    refine XS.aloadN X266.here hx rfl (hb hby d1_32) rfl rfl ?_
    exact k
  have F271 := ((F259.other W260 (Or.inl ne_a0_b232)).other W266 (Or.inl ne_a0_b226))
  obtain ⟨T270, X270, e270, st270⟩ := getF X266 hx hZ hown (host := "") (Or.inl (own_h hw 13 rfl)) Via.refl e266 F271 (g := (mkF m 33 #[rv a0, iv (3:Int32), iv (2:Int32)] [(.ref a0)])) rfl rfl (hb hby d1_33)
  refine own_pre st270 ?_
  refine own_pre (A := T270.setTop (mkF m 38 #[rv a0, iv (3:Int32), iv (2:Int32)] [(.int (2:Int32)), (.int (2:Int32)), (.ref b232)])) (fun t k => ?_) ?_
  · show Steps p.tables e below (T270.setTop (mkF m 36 #[rv a0, iv (3:Int32), iv (2:Int32)] [(.ref b232)])) _
    refine XS.iloadN X270.here hx rfl (hb hby d1_36) rfl ?_
    show Steps p.tables e below (T270.setTop (mkF m 37 #[rv a0, iv (3:Int32), iv (2:Int32)] [(.int (2:Int32)), (.ref b232)])) _
    refine XS.iloadN X270.here hx rfl (hb hby d1_37) rfl ?_
    exact k
  have F273 := (Vw260.other W266 (Ne.symm ne_b226_b232))
  have hbn274 : own_In (2:Int32) [(0:Int32), (1:Int32), (0:Int32)].length := own_lit rfl
  obtain ⟨T272, h272, X272, e272, W272, V272, st272⟩ := own_iastore X270 hx hZ e270 F273 (j := (2:Int32)) (x := (2:Int32)) hbn274 (g := (mkF m 38 #[rv a0, iv (3:Int32), iv (2:Int32)] [(.int (2:Int32)), (.int (2:Int32)), (.ref b232)])) rfl rfl (hb hby d1_38)
  have Kp272 : Keep h0 h272 [a0] := Kp266.wr W272 (Or.inr sz_b232)
  have Z275 : n0 ≤ h272.size := Nat.le_trans Z269 (Nat.le_of_eq W272.size.symm)
  have N272 := Fr.snoc X272 N266 ge_b232
  have Vw272 : own_Ints Z h272 b232 [(0:Int32), (1:Int32), (2:Int32)] := V272
  refine own_pre st272 ?_
  refine own_pre (A := T272.setTop (mkF m 47 #[rv a0, iv (3:Int32), iv (3:Int32)] [(.int (3:Int32)), (.ref a0)])) (fun t k => ?_) ?_
  · show Steps p.tables e below (T272.setTop (mkF m 39 #[rv a0, iv (3:Int32), iv (2:Int32)] [])) _
    refine XS.iinc X272.here hx rfl (hb hby d1_39) rfl (l' := #[rv a0, iv (3:Int32), iv (3:Int32)]) rfl ?_
    show Steps p.tables e below (T272.setTop (mkF m 42 #[rv a0, iv (3:Int32), iv (3:Int32)] [])) _
    refine XS.goto X272.here hx rfl (pc0 := 42) (pc' := 20) rfl (hb hby d1_42) (by decide) (by decide) ?_
    show Steps p.tables e below (T272.setTop (mkF m 20 #[rv a0, iv (3:Int32), iv (3:Int32)] [])) _
    refine XS.iloadN X272.here hx rfl (hb hby d1_20) rfl ?_
    show Steps p.tables e below (T272.setTop (mkF m 21 #[rv a0, iv (3:Int32), iv (3:Int32)] [(.int (3:Int32))])) _
    refine XS.iloadN X272.here hx rfl (hb hby d1_21) rfl ?_
    show Steps p.tables e below (T272.setTop (mkF m 22 #[rv a0, iv (3:Int32), iv (3:Int32)] [(.int (3:Int32)), (.int (3:Int32))])) _
    refine XS.icmpYes X272.here hx rfl (pc0 := 22) (pc' := 45) rfl (hb hby d1_22) rfl (XT.ii_ge_t (by decide)) (by decide) (by decide) ?_
    show Steps p.tables e below (T272.setTop (mkF m 45 #[rv a0, iv (3:Int32), iv (3:Int32)] [])) _
    refine XS.aloadN X272.here hx rfl (hb hby d1_45) rfl rfl ?_
    show Steps p.tables e below (T272.setTop (mkF m 46 #[rv a0, iv (3:Int32), iv (3:Int32)] [(.ref a0)])) _
    refine XS.iloadN X272.here hx rfl (hb hby d1_46) rfl ?_
    exact k
  have F277 := (((((((F237.wr W236).wr W242).wr W248).wr W254).wr W260).wr W266).wr W272)
  have F278 := (Vw266.other W272 ne_b226_b232)
  obtain ⟨T276, h276, k276, X276, e276, E276, A276, st276⟩ := newP X272 hx hZ (own_h hw 10 rfl) e272 (g := (mkF m 47 #[rv a0, iv (3:Int32), iv (3:Int32)] [(.int (3:Int32)), (.ref a0)])) rfl (hb hby d1_47) rfl (by decide) (cap := 3) (by decide) (by decide) (by decide) (by decide)
  obtain ⟨b276, g276⟩ : ∃ z, z = h272.size := ⟨_, rfl⟩
  rw [← g276] at A276 st276
  have ge_b276 : n0 ≤ b276 := Nat.le_trans Z275 (Nat.le_of_eq g276.symm)
  have sz_b276 : h0.size ≤ b276 := Nat.le_trans Kp272.1 (Nat.le_of_eq g276.symm)
  have ne_a0_b276 : a0 ≠ b276 := Nat.ne_of_lt (Nat.lt_of_lt_of_le F277.lt (Nat.le_of_eq g276.symm))
  have ne_b226_b276 : b226 ≠ b276 := Nat.ne_of_lt (Nat.lt_of_lt_of_le F278.lt (Nat.le_of_eq g276.symm))
  have ne_b232_b276 : b232 ≠ b276 := Nat.ne_of_lt (Nat.lt_of_lt_of_le Vw272.lt (Nat.le_of_eq g276.symm))
  have Kp276 : Keep h0 h276 [a0] := Kp272.ext E276
  have Z279 : n0 ≤ h276.size := Nat.le_trans Z275 E276.1
  have V276 : own_Ints Z h276 b276 [(0:Int32), (0:Int32), (0:Int32)] := own_newI A276 (by decide)
  refine own_pre st276 ?_
  have F281 := (F277.ext E276)
  have F282 := (((((((((((P3.ext E226).other W228 (Or.inr (slot_ne (Or.inr (own_h hw 16 rfl)) (Or.inr (own_h hw 12 rfl)) (by decide) (t := (.array .int)) (t' := (.array .int)) (by decide) (by decide)))).ext E232).other W236 (Or.inr (slot_ne (Or.inr (own_h hw 16 rfl)) (Or.inr (own_h hw 14 rfl)) (by decide) (t := (.array .int)) (t' := (.array .int)) (by decide) (by decide)))).other W242 (Or.inl ne_a0_b226)).other W248 (Or.inl ne_a0_b232)).other W254 (Or.inl ne_a0_b226)).other W260 (Or.inl ne_a0_b232)).other W266 (Or.inl ne_a0_b226)).other W272 (Or.inl ne_a0_b232)).ext E276)
  obtain ⟨T280, h280, X280, e280, W280, st280⟩ := putF X276 hx hZ hown (host := "") (Or.inl (own_h hw 15 rfl)) Via.refl e276 F282 F281 (Or.inr ⟨(own_h hw 16 rfl), rfl, hnm⟩) (own_h hw 2 rfl) (ty := (.array .int)) (by decide) rfl rfl (g := (mkF m 49 #[rv a0, iv (3:Int32), iv (3:Int32)] [(.ref b276), (.ref a0)])) rfl rfl (hb hby d1_49)
  have Kp280 : Keep h0 h280 [a0] := Kp276.wr W280 (Or.inl (List.mem_of_getElem? (i := 0) rfl))
  have Z283 : n0 ≤ h280.size := Nat.le_trans Z279 (Nat.le_of_eq W280.size.symm)
  have N280 := Fr.snoc X280 N272 gq_a0
  have Fw280 := F282.same W280
  refine own_pre st280 ?_
  refine own_pre (A := T280.setTop (mkF m 54 #[rv a0, iv (3:Int32), iv (3:Int32)] [(.int (3:Int32)), (.ref a0)])) (fun t k => ?_) ?_
  · show Steps p.tables e below (T280.setTop (mkF m 52 #[rv a0, iv (3:Int32), iv (3:Int32)] [])) _
    refine XS.aloadN X280.here hx rfl (hb hby d1_52) rfl rfl ?_
    show Steps p.tables e below (T280.setTop (mkF m 53 #[rv a0, iv (3:Int32), iv (3:Int32)] [(.ref a0)])) _
    refine XS.iloadN X280.here hx rfl (hb hby d1_53) rfl ?_
    exact k
  have F285 := (F281.wr W280)
  have F286 := ((F278.ext E276).other W280 (Ne.symm ne_a0_b226))
  have F287 := ((Vw272.ext E276).other W280 (Ne.symm ne_a0_b232))
  have F288 := (V276.other W280 (Ne.symm ne_a0_b276))
  obtain ⟨T284, h284, k284, X284, e284, E284, A284, st284⟩ := newP X280 hx hZ (own_h hw 10 rfl) e280 (g := (mkF m 54 #[rv a0, iv (3:Int32), iv (3:Int32)] [(.int (3:Int32)), (.ref a0)])) rfl (hb hby d1_54) rfl (by decide) (cap := 3) (by decide) (by decide) (by decide) (by decide)
  obtain ⟨b284, g284⟩ : ∃ z, z = h280.size := ⟨_, rfl⟩
  rw [← g284] at A284 st284
  have ge_b284 : n0 ≤ b284 := Nat.le_trans Z283 (Nat.le_of_eq g284.symm)
  have sz_b284 : h0.size ≤ b284 := Nat.le_trans Kp280.1 (Nat.le_of_eq g284.symm)
  have ne_a0_b284 : a0 ≠ b284 := Nat.ne_of_lt (Nat.lt_of_lt_of_le F285.lt (Nat.le_of_eq g284.symm))
  have ne_b226_b284 : b226 ≠ b284 := Nat.ne_of_lt (Nat.lt_of_lt_of_le F286.lt (Nat.le_of_eq g284.symm))
  have ne_b232_b284 : b232 ≠ b284 := Nat.ne_of_lt (Nat.lt_of_lt_of_le F287.lt (Nat.le_of_eq g284.symm))
  have ne_b276_b284 : b276 ≠ b284 := Nat.ne_of_lt (Nat.lt_of_lt_of_le F288.lt (Nat.le_of_eq g284.symm))
  have Kp284 : Keep h0 h284 [a0] := Kp280.ext E284
  have Z289 : n0 ≤ h284.size := Nat.le_trans Z283 E284.1
  have V284 : own_Ints Z h284 b284 [(0:Int32), (0:Int32), (0:Int32)] := own_newI A284 (by decide)
  refine own_pre st284 ?_
  have F291 := (F285.ext E284)
  have F292 := (((((((((((((P4.ext E226).other W228 (Or.inr (slot_ne (Or.inr (own_h hw 18 rfl)) (Or.inr (own_h hw 12 rfl)) (by decide) (t := (.array .int)) (t' := (.array .int)) (by decide) (by decide)))).ext E232).other W236 (Or.inr (slot_ne (Or.inr (own_h hw 18 rfl)) (Or.inr (own_h hw 14 rfl)) (by decide) (t := (.array .int)) (t' := (.array .int)) (by decide) (by decide)))).other W242 (Or.inl ne_a0_b226)).other W248 (Or.inl ne_a0_b232)).other W254 (Or.inl ne_a0_b226)).other W260 (Or.inl ne_a0_b232)).other W266 (Or.inl ne_a0_b226)).other W272 (Or.inl ne_a0_b232)).ext E276).other W280 (Or.inr (slot_ne (Or.inr (own_h hw 18 rfl)) (Or.inr (own_h hw 16 rfl)) (by decide) (t := (.array .int)) (t' := (.array .int)) (by decide) (by decide)))).ext E284)
  obtain ⟨T290, h290, X290, e290, W290, st290⟩ := putF X284 hx hZ hown (host := "") (Or.inl (own_h hw 17 rfl)) Via.refl e284 F292 F291 (Or.inr ⟨(own_h hw 18 rfl), rfl, hnm⟩) (own_h hw 2 rfl) (ty := (.array .int)) (by decide) rfl rfl (g := (mkF m 56 #[rv a0, iv (3:Int32), iv (3:Int32)] [(.ref b284), (.ref a0)])) rfl rfl (hb hby d1_56)
  have Kp290 : Keep h0 h290 [a0] := Kp284.wr W290 (Or.inl (List.mem_of_getElem? (i := 0) rfl))
  have Z293 : n0 ≤ h290.size := Nat.le_trans Z289 (Nat.le_of_eq W290.size.symm)
  have N290 := Fr.snoc X290 N280 gq_a0
  have Fw290 := F292.same W290
  refine own_pre st290 ?_
  refine own_pre (A := T290.setTop (mkF m 61 #[rv a0, iv (3:Int32), iv (3:Int32)] [(.int (3:Int32)), (.ref a0)])) (fun t k => ?_) ?_
  · show Steps p.tables e below (T290.setTop (mkF m 59 #[rv a0, iv (3:Int32), iv (3:Int32)] [])) _
    refine XS.aloadN X290.here hx rfl (hb hby d1_59) rfl rfl ?_
    show Steps p.tables e below (T290.setTop (mkF m 60 #[rv a0, iv (3:Int32), iv (3:Int32)] [(.ref a0)])) _
    refine XS.iloadN X290.here hx rfl (hb hby d1_60) rfl ?_
    exact k
  have F295 := (F291.wr W290)
  have F296 := ((F286.ext E284).other W290 (Ne.symm ne_a0_b226))
  have F297 := ((F287.ext E284).other W290 (Ne.symm ne_a0_b232))
  have F298 := ((F288.ext E284).other W290 (Ne.symm ne_a0_b276))
  have F299 := (V284.other W290 (Ne.symm ne_a0_b284))
  obtain ⟨T294, h294, k294, X294, e294, E294, A294, st294⟩ := newP X290 hx hZ (own_h hw 10 rfl) e290 (g := (mkF m 61 #[rv a0, iv (3:Int32), iv (3:Int32)] [(.int (3:Int32)), (.ref a0)])) rfl (hb hby d1_61) rfl (by decide) (cap := 3) (by decide) (by decide) (by decide) (by decide)
  obtain ⟨b294, g294⟩ : ∃ z, z = h290.size := ⟨_, rfl⟩
  rw [← g294] at A294 st294
  have ge_b294 : n0 ≤ b294 := Nat.le_trans Z293 (Nat.le_of_eq g294.symm)
  have sz_b294 : h0.size ≤ b294 := Nat.le_trans Kp290.1 (Nat.le_of_eq g294.symm)
  have ne_a0_b294 : a0 ≠ b294 := Nat.ne_of_lt (Nat.lt_of_lt_of_le F295.lt (Nat.le_of_eq g294.symm))
  have ne_b226_b294 : b226 ≠ b294 := Nat.ne_of_lt (Nat.lt_of_lt_of_le F296.lt (Nat.le_of_eq g294.symm))
  have ne_b232_b294 : b232 ≠ b294 := Nat.ne_of_lt (Nat.lt_of_lt_of_le F297.lt (Nat.le_of_eq g294.symm))
  have ne_b276_b294 : b276 ≠ b294 := Nat.ne_of_lt (Nat.lt_of_lt_of_le F298.lt (Nat.le_of_eq g294.symm))
  have ne_b284_b294 : b284 ≠ b294 := Nat.ne_of_lt (Nat.lt_of_lt_of_le F299.lt (Nat.le_of_eq g294.symm))
  have Kp294 : Keep h0 h294 [a0] := Kp290.ext E294
  have Z300 : n0 ≤ h294.size := Nat.le_trans Z293 E294.1
  have V294 : own_Ints Z h294 b294 [(0:Int32), (0:Int32), (0:Int32)] := own_newI A294 (by decide)
  refine own_pre st294 ?_
  have F302 := (F295.ext E294)
  have F303 := (((((((((((((((P5.ext E226).other W228 (Or.inr (slot_ne (Or.inr (own_h hw 20 rfl)) (Or.inr (own_h hw 12 rfl)) (by decide) (t := (.array .int)) (t' := (.array .int)) (by decide) (by decide)))).ext E232).other W236 (Or.inr (slot_ne (Or.inr (own_h hw 20 rfl)) (Or.inr (own_h hw 14 rfl)) (by decide) (t := (.array .int)) (t' := (.array .int)) (by decide) (by decide)))).other W242 (Or.inl ne_a0_b226)).other W248 (Or.inl ne_a0_b232)).other W254 (Or.inl ne_a0_b226)).other W260 (Or.inl ne_a0_b232)).other W266 (Or.inl ne_a0_b226)).other W272 (Or.inl ne_a0_b232)).ext E276).other W280 (Or.inr (slot_ne (Or.inr (own_h hw 20 rfl)) (Or.inr (own_h hw 16 rfl)) (by decide) (t := (.array .int)) (t' := (.array .int)) (by decide) (by decide)))).ext E284).other W290 (Or.inr (slot_ne (Or.inr (own_h hw 20 rfl)) (Or.inr (own_h hw 18 rfl)) (by decide) (t := (.array .int)) (t' := (.array .int)) (by decide) (by decide)))).ext E294)
  obtain ⟨T301, h301, X301, e301, W301, st301⟩ := putF X294 hx hZ hown (host := "") (Or.inl (own_h hw 19 rfl)) Via.refl e294 F303 F302 (Or.inr ⟨(own_h hw 20 rfl), rfl, hnm⟩) (own_h hw 2 rfl) (ty := (.array .int)) (by decide) rfl rfl (g := (mkF m 63 #[rv a0, iv (3:Int32), iv (3:Int32)] [(.ref b294), (.ref a0)])) rfl rfl (hb hby d1_63)
  have Kp301 : Keep h0 h301 [a0] := Kp294.wr W301 (Or.inl (List.mem_of_getElem? (i := 0) rfl))
  have Z304 : n0 ≤ h301.size := Nat.le_trans Z300 (Nat.le_of_eq W301.size.symm)
  have N301 := Fr.snoc X301 N290 gq_a0
  have Fw301 := F303.same W301
  refine own_pre st301 ?_
  refine own_pre (A := T301.setTop (mkF m 68 #[rv a0, iv (3:Int32), iv (3:Int32)] [(.int (3:Int32)), (.ref a0)])) (fun t k => ?_) ?_
  · show Steps p.tables e below (T301.setTop (mkF m 66 #[rv a0, iv (3:Int32), iv (3:Int32)] [])) _
    refine XS.aloadN X301.here hx rfl (hb hby d1_66) rfl rfl ?_
    show Steps p.tables e below (T301.setTop (mkF m 67 #[rv a0, iv (3:Int32), iv (3:Int32)] [(.ref a0)])) _
    refine XS.iloadN X301.here hx rfl (hb hby d1_67) rfl ?_
    exact k
  have F306 := (F302.wr W301)
  have F307 := ((F296.ext E294).other W301 (Ne.symm ne_a0_b226))
  have F308 := ((F297.ext E294).other W301 (Ne.symm ne_a0_b232))
  have F309 := ((F298.ext E294).other W301 (Ne.symm ne_a0_b276))
  have F310 := ((F299.ext E294).other W301 (Ne.symm ne_a0_b284))
  have F311 := (V294.other W301 (Ne.symm ne_a0_b294))
  obtain ⟨T305, h305, k305, X305, e305, E305, A305, st305⟩ := newP X301 hx hZ (own_h hw 10 rfl) e301 (g := (mkF m 68 #[rv a0, iv (3:Int32), iv (3:Int32)] [(.int (3:Int32)), (.ref a0)])) rfl (hb hby d1_68) rfl (by decide) (cap := 3) (by decide) (by decide) (by decide) (by decide)
  obtain ⟨b305, g305⟩ : ∃ z, z = h301.size := ⟨_, rfl⟩
  rw [← g305] at A305 st305
  have ge_b305 : n0 ≤ b305 := Nat.le_trans Z304 (Nat.le_of_eq g305.symm)
  have sz_b305 : h0.size ≤ b305 := Nat.le_trans Kp301.1 (Nat.le_of_eq g305.symm)
  have ne_a0_b305 : a0 ≠ b305 := Nat.ne_of_lt (Nat.lt_of_lt_of_le F306.lt (Nat.le_of_eq g305.symm))
  have ne_b226_b305 : b226 ≠ b305 := Nat.ne_of_lt (Nat.lt_of_lt_of_le F307.lt (Nat.le_of_eq g305.symm))
  have ne_b232_b305 : b232 ≠ b305 := Nat.ne_of_lt (Nat.lt_of_lt_of_le F308.lt (Nat.le_of_eq g305.symm))
  have ne_b276_b305 : b276 ≠ b305 := Nat.ne_of_lt (Nat.lt_of_lt_of_le F309.lt (Nat.le_of_eq g305.symm))
  have ne_b284_b305 : b284 ≠ b305 := Nat.ne_of_lt (Nat.lt_of_lt_of_le F310.lt (Nat.le_of_eq g305.symm))
  have ne_b294_b305 : b294 ≠ b305 := Nat.ne_of_lt (Nat.lt_of_lt_of_le F311.lt (Nat.le_of_eq g305.symm))
  have Kp305 : Keep h0 h305 [a0] := Kp301.ext E305
  have Z312 : n0 ≤ h305.size := Nat.le_trans Z304 E305.1
  have V305 : own_Ints Z h305 b305 [(0:Int32), (0:Int32), (0:Int32)] := own_newI A305 (by decide)
  refine own_pre st305 ?_
  have F314 := (F306.ext E305)
  have F315 := (((((((((((((((((P6.ext E226).other W228 (Or.inr (slot_ne (Or.inr (own_h hw 22 rfl)) (Or.inr (own_h hw 12 rfl)) (by decide) (t := (.array .int)) (t' := (.array .int)) (by decide) (by decide)))).ext E232).other W236 (Or.inr (slot_ne (Or.inr (own_h hw 22 rfl)) (Or.inr (own_h hw 14 rfl)) (by decide) (t := (.array .int)) (t' := (.array .int)) (by decide) (by decide)))).other W242 (Or.inl ne_a0_b226)).other W248 (Or.inl ne_a0_b232)).other W254 (Or.inl ne_a0_b226)).other W260 (Or.inl ne_a0_b232)).other W266 (Or.inl ne_a0_b226)).other W272 (Or.inl ne_a0_b232)).ext E276).other W280 (Or.inr (slot_ne (Or.inr (own_h hw 22 rfl)) (Or.inr (own_h hw 16 rfl)) (by decide) (t := (.array .int)) (t' := (.array .int)) (by decide) (by decide)))).ext E284).other W290 (Or.inr (slot_ne (Or.inr (own_h hw 22 rfl)) (Or.inr (own_h hw 18 rfl)) (by decide) (t := (.array .int)) (t' := (.array .int)) (by decide) (by decide)))).ext E294).other W301 (Or.inr (slot_ne (Or.inr (own_h hw 22 rfl)) (Or.inr (own_h hw 20 rfl)) (by decide) (t := (.array .int)) (t' := (.array .int)) (by decide) (by decide)))).ext E305)
  obtain ⟨T313, h313, X313, e313, W313, st313⟩ := putF X305 hx hZ hown (host := "") (Or.inl (own_h hw 21 rfl)) Via.refl e305 F315 F314 (Or.inr ⟨(own_h hw 22 rfl), rfl, hnm⟩) (own_h hw 2 rfl) (ty := (.array .int)) (by decide) rfl rfl (g := (mkF m 70 #[rv a0, iv (3:Int32), iv (3:Int32)] [(.ref b305), (.ref a0)])) rfl rfl (hb hby d1_70)
  have Kp313 : Keep h0 h313 [a0] := Kp305.wr W313 (Or.inl (List.mem_of_getElem? (i := 0) rfl))
  have Z316 : n0 ≤ h313.size := Nat.le_trans Z312 (Nat.le_of_eq W313.size.symm)
  have N313 := Fr.snoc X313 N301 gq_a0
  have Fw313 := F315.same W313
  refine own_pre st313 ?_
  refine own_pre (A := T313.setTop (mkF m 75 #[rv a0, iv (3:Int32), iv (3:Int32)] [(.int (3:Int32)), (.ref a0)])) (fun t k => ?_) ?_
  · show Steps p.tables e below (T313.setTop (mkF m 73 #[rv a0, iv (3:Int32), iv (3:Int32)] [])) _
    refine XS.aloadN X313.here hx rfl (hb hby d1_73) rfl rfl ?_
    show Steps p.tables e below (T313.setTop (mkF m 74 #[rv a0, iv (3:Int32), iv (3:Int32)] [(.ref a0)])) _
    refine XS.iloadN X313.here hx rfl (hb hby d1_74) rfl ?_
    exact k
  have F318 := (F314.wr W313)
  have F319 := ((F307.ext E305).other W313 (Ne.symm ne_a0_b226))
  have F320 := ((F308.ext E305).other W313 (Ne.symm ne_a0_b232))
  have F321 := ((F309.ext E305).other W313 (Ne.symm ne_a0_b276))
  have F322 := ((F310.ext E305).other W313 (Ne.symm ne_a0_b284))
  have F323 := ((F311.ext E305).other W313 (Ne.symm ne_a0_b294))
  have F324 := (V305.other W313 (Ne.symm ne_a0_b305))
  obtain ⟨T317, h317, k317, X317, e317, E317, A317, st317⟩ := newP X313 hx hZ (own_h hw 10 rfl) e313 (g := (mkF m 75 #[rv a0, iv (3:Int32), iv (3:Int32)] [(.int (3:Int32)), (.ref a0)])) rfl (hb hby d1_75) rfl (by decide) (cap := 3) (by decide) (by decide) (by decide) (by decide)
  obtain ⟨b317, g317⟩ : ∃ z, z = h313.size := ⟨_, rfl⟩
  rw [← g317] at A317 st317
  have ge_b317 : n0 ≤ b317 := Nat.le_trans Z316 (Nat.le_of_eq g317.symm)
  have sz_b317 : h0.size ≤ b317 := Nat.le_trans Kp313.1 (Nat.le_of_eq g317.symm)
  have ne_a0_b317 : a0 ≠ b317 := Nat.ne_of_lt (Nat.lt_of_lt_of_le F318.lt (Nat.le_of_eq g317.symm))
  have ne_b226_b317 : b226 ≠ b317 := Nat.ne_of_lt (Nat.lt_of_lt_of_le F319.lt (Nat.le_of_eq g317.symm))
  have ne_b232_b317 : b232 ≠ b317 := Nat.ne_of_lt (Nat.lt_of_lt_of_le F320.lt (Nat.le_of_eq g317.symm))
  have ne_b276_b317 : b276 ≠ b317 := Nat.ne_of_lt (Nat.lt_of_lt_of_le F321.lt (Nat.le_of_eq g317.symm))
  have ne_b284_b317 : b284 ≠ b317 := Nat.ne_of_lt (Nat.lt_of_lt_of_le F322.lt (Nat.le_of_eq g317.symm))
  have ne_b294_b317 : b294 ≠ b317 := Nat.ne_of_lt (Nat.lt_of_lt_of_le F323.lt (Nat.le_of_eq g317.symm))
  have ne_b305_b317 : b305 ≠ b317 := Nat.ne_of_lt (Nat.lt_of_lt_of_le F324.lt (Nat.le_of_eq g317.symm))
  have Kp317 : Keep h0 h317 [a0] := Kp313.ext E317
  have Z325 : n0 ≤ h317.size := Nat.le_trans Z316 E317.1
  have V317 : own_Ints Z h317 b317 [(0:Int32), (0:Int32), (0:Int32)] := own_newI A317 (by decide)
  refine own_pre st317 ?_
  have F327 := (F318.ext E317)
  have F328 := (((((((((((((((((((P7.ext E226).other W228 (Or.inr (slot_ne (Or.inr (own_h hw 24 rfl)) (Or.inr (own_h hw 12 rfl)) (by decide) (t := (.array .int)) (t' := (.array .int)) (by decide) (by decide)))).ext E232).other W236 (Or.inr (slot_ne (Or.inr (own_h hw 24 rfl)) (Or.inr (own_h hw 14 rfl)) (by decide) (t := (.array .int)) (t' := (.array .int)) (by decide) (by decide)))).other W242 (Or.inl ne_a0_b226)).other W248 (Or.inl ne_a0_b232)).other W254 (Or.inl ne_a0_b226)).other W260 (Or.inl ne_a0_b232)).other W266 (Or.inl ne_a0_b226)).other W272 (Or.inl ne_a0_b232)).ext E276).other W280 (Or.inr (slot_ne (Or.inr (own_h hw 24 rfl)) (Or.inr (own_h hw 16 rfl)) (by decide) (t := (.array .int)) (t' := (.array .int)) (by decide) (by decide)))).ext E284).other W290 (Or.inr (slot_ne (Or.inr (own_h hw 24 rfl)) (Or.inr (own_h hw 18 rfl)) (by decide) (t := (.array .int)) (t' := (.array .int)) (by decide) (by decide)))).ext E294).other W301 (Or.inr (slot_ne (Or.inr (own_h hw 24 rfl)) (Or.inr (own_h hw 20 rfl)) (by decide) (t := (.array .int)) (t' := (.array .int)) (by decide) (by decide)))).ext E305).other W313 (Or.inr (slot_ne (Or.inr (own_h hw 24 rfl)) (Or.inr (own_h hw 22 rfl)) (by decide) (t := (.array .int)) (t' := (.array .int)) (by decide) (by decide)))).ext E317)
  obtain ⟨T326, h326, X326, e326, W326, st326⟩ := putF X317 hx hZ hown (host := "") (Or.inl (own_h hw 23 rfl)) Via.refl e317 F328 F327 (Or.inr ⟨(own_h hw 24 rfl), rfl, hnm⟩) (own_h hw 2 rfl) (ty := (.array .int)) (by decide) rfl rfl (g := (mkF m 77 #[rv a0, iv (3:Int32), iv (3:Int32)] [(.ref b317), (.ref a0)])) rfl rfl (hb hby d1_77)
  have Kp326 : Keep h0 h326 [a0] := Kp317.wr W326 (Or.inl (List.mem_of_getElem? (i := 0) rfl))
  have Z329 : n0 ≤ h326.size := Nat.le_trans Z325 (Nat.le_of_eq W326.size.symm)
  have N326 := Fr.snoc X326 N313 gq_a0
  have Fw326 := F328.same W326
  refine own_pre st326 ?_
  refine own_pre (A := T326.setTop (mkF m 81 #[rv a0, iv (3:Int32), iv (3:Int32)] [(.ref a0)])) (fun t k => ?_) ?_
  · show Steps p.tables e below (T326.setTop (mkF m 80 #[rv a0, iv (3:Int32), iv (3:Int32)] [])) _
    refine XS.aloadN X326.here hx rfl (hb hby d1_80) rfl rfl ?_
    exact k
  have F331 := ((((Fw301.ext E305).other W313 (Or.inr (slot_ne (Or.inr (own_h hw 20 rfl)) (Or.inr (own_h hw 22 rfl)) (by decide) (t := (.array .int)) (t' := (.array .int)) (by decide) (by decide)))).ext E317).other W326 (Or.inr (slot_ne (Or.inr (own_h hw 20 rfl)) (Or.inr (own_h hw 24 rfl)) (by decide) (t := (.array .int)) (t' := (.array .int)) (by decide) (by decide))))
  obtain ⟨T330, X330, e330, st330⟩ := getF X326 hx hZ hown (host := "") (Or.inl (own_h hw 19 rfl)) Via.refl e326 F331 (g := (mkF m 81 #[rv a0, iv (3:Int32), iv (3:Int32)] [(.ref a0)])) rfl rfl (hb hby d1_81)
  refine own_pre st330 ?_
  refine own_pre (A := T330.setTop (mkF m 86 #[rv a0, iv (3:Int32), iv (3:Int32)] [(.int (3:Int32)), (.int (0:Int32)), (.ref b294)])) (fun t k => ?_) ?_
  · show Steps p.tables e below (T330.setTop (mkF m 84 #[rv a0, iv (3:Int32), iv (3:Int32)] [(.ref b294)])) _
    refine XS.iconst X330.here hx rfl (hb hby d1_84) ?_
    show Steps p.tables e below (T330.setTop (mkF m 85 #[rv a0, iv (3:Int32), iv (3:Int32)] [(.int (0:Int32)), (.ref b294)])) _
    refine XS.iloadN X330.here hx rfl (hb hby d1_85) rfl ?_
    exact k
  have F333 := ((F323.ext E317).other W326 (Ne.symm ne_a0_b294))
  have hbn334 : own_In (0:Int32) [(0:Int32), (0:Int32), (0:Int32)].length := own_lit rfl
  obtain ⟨T332, h332, X332, e332, W332, V332, st332⟩ := own_iastore X330 hx hZ e330 F333 (j := (0:Int32)) (x := (3:Int32)) hbn334 (g := (mkF m 86 #[rv a0, iv (3:Int32), iv (3:Int32)] [(.int (3:Int32)), (.int (0:Int32)), (.ref b294)])) rfl rfl (hb hby d1_86)
  have Kp332 : Keep h0 h332 [a0] := Kp326.wr W332 (Or.inr sz_b294)
  have Z335 : n0 ≤ h332.size := Nat.le_trans Z329 (Nat.le_of_eq W332.size.symm)
  have N332 := Fr.snoc X332 N326 ge_b294
  have Vw332 : own_Ints Z h332 b294 [(3:Int32), (0:Int32), (0:Int32)] := V332
  refine own_pre st332 ?_
  refine own_pre (A := T332.setTop (mkF m 89 #[rv a0, iv (3:Int32), iv (3:Int32)] [(.int (1:Int32)), (.ref a0)])) (fun t k => ?_) ?_
  · show Steps p.tables e below (T332.setTop (mkF m 87 #[rv a0, iv (3:Int32), iv (3:Int32)] [])) _
    refine XS.aloadN X332.here hx rfl (hb hby d1_87) rfl rfl ?_
    show Steps p.tables e below (T332.setTop (mkF m 88 #[rv a0, iv (3:Int32), iv (3:Int32)] [(.ref a0)])) _
    refine XS.iconst X332.here hx rfl (hb hby d1_88) ?_
    exact k
  have F337 := ((F327.wr W326).wr W332)
  have F338 := (((((((((((((((((((((P8.ext E226).other W228 (Or.inr (slot_ne (Or.inl (own_h hw 26 rfl)) (Or.inr (own_h hw 12 rfl)) (by decide) (t := .int) (t' := (.array .int)) (by decide) (by decide)))).ext E232).other W236 (Or.inr (slot_ne (Or.inl (own_h hw 26 rfl)) (Or.inr (own_h hw 14 rfl)) (by decide) (t := .int) (t' := (.array .int)) (by decide) (by decide)))).other W242 (Or.inl ne_a0_b226)).other W248 (Or.inl ne_a0_b232)).other W254 (Or.inl ne_a0_b226)).other W260 (Or.inl ne_a0_b232)).other W266 (Or.inl ne_a0_b226)).other W272 (Or.inl ne_a0_b232)).ext E276).other W280 (Or.inr (slot_ne (Or.inl (own_h hw 26 rfl)) (Or.inr (own_h hw 16 rfl)) (by decide) (t := .int) (t' := (.array .int)) (by decide) (by decide)))).ext E284).other W290 (Or.inr (slot_ne (Or.inl (own_h hw 26 rfl)) (Or.inr (own_h hw 18 rfl)) (by decide) (t := .int) (t' := (.array .int)) (by decide) (by decide)))).ext E294).other W301 (Or.inr (slot_ne (Or.inl (own_h hw 26 rfl)) (Or.inr (own_h hw 20 rfl)) (by decide) (t := .int) (t' := (.array .int)) (by decide) (by decide)))).ext E305).other W313 (Or.inr (slot_ne (Or.inl (own_h hw 26 rfl)) (Or.inr (own_h hw 22 rfl)) (by decide) (t := .int) (t' := (.array .int)) (by decide) (by decide)))).ext E317).other W326 (Or.inr (slot_ne (Or.inl (own_h hw 26 rfl)) (Or.inr (own_h hw 24 rfl)) (by decide) (t := .int) (t' := (.array .int)) (by decide) (by decide)))).other W332 (Or.inl ne_a0_b294))
  obtain ⟨T336, h336, X336, e336, W336, st336⟩ := putF X332 hx hZ hown (host := "") (Or.inl (own_h hw 25 rfl)) Via.refl e332 F338 F337 (Or.inl (own_h hw 26 rfl)) (own_h hw 2 rfl) (ty := .int) (by decide) rfl rfl (g := (mkF m 89 #[rv a0, iv (3:Int32), iv (3:Int32)] [(.int (1:Int32)), (.ref a0)])) rfl rfl (hb hby d1_89)
  have Kp336 : Keep h0 h336 [a0] := Kp332.wr W336 (Or.inl (List.mem_of_getElem? (i := 0) rfl))
  have Z339 : n0 ≤ h336.size := Nat.le_trans Z335 (Nat.le_of_eq W336.size.symm)
  have N336 := Fr.snoc X336 N332 gq_a0
  have Fw336 := F338.same W336
  refine own_pre st336 ?_
  have F340 := ((((((((((((((F265.other W266 (Or.inl ne_a0_b226)).other W272 (Or.inl ne_a0_b232)).ext E276).other W280 (Or.inr (slot_ne (Or.inr (own_h hw 12 rfl)) (Or.inr (own_h hw 16 rfl)) (by decide) (t := (.array .int)) (t' := (.array .int)) (by decide) (by decide)))).ext E284).other W290 (Or.inr (slot_ne (Or.inr (own_h hw 12 rfl)) (Or.inr (own_h hw 18 rfl)) (by decide) (t := (.array .int)) (t' := (.array .int)) (by decide) (by decide)))).ext E294).other W301 (Or.inr (slot_ne (Or.inr (own_h hw 12 rfl)) (Or.inr (own_h hw 20 rfl)) (by decide) (t := (.array .int)) (t' := (.array .int)) (by decide) (by decide)))).ext E305).other W313 (Or.inr (slot_ne (Or.inr (own_h hw 12 rfl)) (Or.inr (own_h hw 22 rfl)) (by decide) (t := (.array .int)) (t' := (.array .int)) (by decide) (by decide)))).ext E317).other W326 (Or.inr (slot_ne (Or.inr (own_h hw 12 rfl)) (Or.inr (own_h hw 24 rfl)) (by decide) (t := (.array .int)) (t' := (.array .int)) (by decide) (by decide)))).other W332 (Or.inl ne_a0_b294)).other W336 (Or.inr (slot_ne (Or.inr (own_h hw 12 rfl)) (Or.inl (own_h hw 26 rfl)) (by decide) (t := (.array .int)) (t' := .int) (by decide) (by decide))))
  have F341 := (((((((((((((F271.other W272 (Or.inl ne_a0_b232)).ext E276).other W280 (Or.inr (slot_ne (Or.inr (own_h hw 14 rfl)) (Or.inr (own_h hw 16 rfl)) (by decide) (t := (.array .int)) (t' := (.array .int)) (by decide) (by decide)))).ext E284).other W290 (Or.inr (slot_ne (Or.inr (own_h hw 14 rfl)) (Or.inr (own_h hw 18 rfl)) (by decide) (t := (.array .int)) (t' := (.array .int)) (by decide) (by decide)))).ext E294).other W301 (Or.inr (slot_ne (Or.inr (own_h hw 14 rfl)) (Or.inr (own_h hw 20 rfl)) (by decide) (t := (.array .int)) (t' := (.array .int)) (by decide) (by decide)))).ext E305).other W313 (Or.inr (slot_ne (Or.inr (own_h hw 14 rfl)) (Or.inr (own_h hw 22 rfl)) (by decide) (t := (.array .int)) (t' := (.array .int)) (by decide) (by decide)))).ext E317).other W326 (Or.inr (slot_ne (Or.inr (own_h hw 14 rfl)) (Or.inr (own_h hw 24 rfl)) (by decide) (t := (.array .int)) (t' := (.array .int)) (by decide) (by decide)))).other W332 (Or.inl ne_a0_b294)).other W336 (Or.inr (slot_ne (Or.inr (own_h hw 14 rfl)) (Or.inl (own_h hw 26 rfl)) (by decide) (t := (.array .int)) (t' := .int) (by decide) (by decide))))
  have F342 := ((((((((((Fw280.ext E284).other W290 (Or.inr (slot_ne (Or.inr (own_h hw 16 rfl)) (Or.inr (own_h hw 18 rfl)) (by decide) (t := (.array .int)) (t' := (.array .int)) (by decide) (by decide)))).ext E294).other W301 (Or.inr (slot_ne (Or.inr (own_h hw 16 rfl)) (Or.inr (own_h hw 20 rfl)) (by decide) (t := (.array .int)) (t' := (.array .int)) (by decide) (by decide)))).ext E305).other W313 (Or.inr (slot_ne (Or.inr (own_h hw 16 rfl)) (Or.inr (own_h hw 22 rfl)) (by decide) (t := (.array .int)) (t' := (.array .int)) (by decide) (by decide)))).ext E317).other W326 (Or.inr (slot_ne (Or.inr (own_h hw 16 rfl)) (Or.inr (own_h hw 24 rfl)) (by decide) (t := (.array .int)) (t' := (.array .int)) (by decide) (by decide)))).other W332 (Or.inl ne_a0_b294)).other W336 (Or.inr (slot_ne (Or.inr (own_h hw 16 rfl)) (Or.inl (own_h hw 26 rfl)) (by decide) (t := (.array .int)) (t' := .int) (by decide) (by decide))))
  have F343 := ((((((((Fw290.ext E294).other W301 (Or.inr (slot_ne (Or.inr (own_h hw 18 rfl)) (Or.inr (own_h hw 20 rfl)) (by decide) (t := (.array .int)) (t' := (.array .int)) (by decide) (by decide)))).ext E305).other W313 (Or.inr (slot_ne (Or.inr (own_h hw 18 rfl)) (Or.inr (own_h hw 22 rfl)) (by decide) (t := (.array .int)) (t' := (.array .int)) (by decide) (by decide)))).ext E317).other W326 (Or.inr (slot_ne (Or.inr (own_h hw 18 rfl)) (Or.inr (own_h hw 24 rfl)) (by decide) (t := (.array .int)) (t' := (.array .int)) (by decide) (by decide)))).other W332 (Or.inl ne_a0_b294)).other W336 (Or.inr (slot_ne (Or.inr (own_h hw 18 rfl)) (Or.inl (own_h hw 26 rfl)) (by decide) (t := (.array .int)) (t' := .int) (by decide) (by decide))))
  have F344 := ((F331.other W332 (Or.inl ne_a0_b294)).other W336 (Or.inr (slot_ne (Or.inr (own_h hw 20 rfl)) (Or.inl (own_h hw 26 rfl)) (by decide) (t := (.array .int)) (t' := .int) (by decide) (by decide))))
  have F345 := ((((Fw313.ext E317).other W326 (Or.inr (slot_ne (Or.inr (own_h hw 22 rfl)) (Or.inr (own_h hw 24 rfl)) (by decide) (t := (.array .int)) (t' := (.array .int)) (by decide) (by decide)))).other W332 (Or.inl ne_a0_b294)).other W336 (Or.inr (slot_ne (Or.inr (own_h hw 22 rfl)) (Or.inl (own_h hw 26 rfl)) (by decide) (t := (.array .int)) (t' := .int) (by decide) (by decide))))
  have F346 := ((Fw326.other W332 (Or.inl ne_a0_b294)).other W336 (Or.inr (slot_ne (Or.inr (own_h hw 24 rfl)) (Or.inl (own_h hw 26 rfl)) (by decide) (t := (.array .int)) (t' := .int) (by decide) (by decide))))
  have F347 := ((((((((((((((((((((((P9.ext E226).other W228 (Or.inr (slot_ne (Or.inl (own_h hw 33 rfl)) (Or.inr (own_h hw 12 rfl)) (by decide) (t := .int) (t' := (.array .int)) (by decide) (by decide)))).ext E232).other W236 (Or.inr (slot_ne (Or.inl (own_h hw 33 rfl)) (Or.inr (own_h hw 14 rfl)) (by decide) (t := .int) (t' := (.array .int)) (by decide) (by decide)))).other W242 (Or.inl ne_a0_b226)).other W248 (Or.inl ne_a0_b232)).other W254 (Or.inl ne_a0_b226)).other W260 (Or.inl ne_a0_b232)).other W266 (Or.inl ne_a0_b226)).other W272 (Or.inl ne_a0_b232)).ext E276).other W280 (Or.inr (slot_ne (Or.inl (own_h hw 33 rfl)) (Or.inr (own_h hw 16 rfl)) (by decide) (t := .int) (t' := (.array .int)) (by decide) (by decide)))).ext E284).other W290 (Or.inr (slot_ne (Or.inl (own_h hw 33 rfl)) (Or.inr (own_h hw 18 rfl)) (by decide) (t := .int) (t' := (.array .int)) (by decide) (by decide)))).ext E294).other W301 (Or.inr (slot_ne (Or.inl (own_h hw 33 rfl)) (Or.inr (own_h hw 20 rfl)) (by decide) (t := .int) (t' := (.array .int)) (by decide) (by decide)))).ext E305).other W313 (Or.inr (slot_ne (Or.inl (own_h hw 33 rfl)) (Or.inr (own_h hw 22 rfl)) (by decide) (t := .int) (t' := (.array .int)) (by decide) (by decide)))).ext E317).other W326 (Or.inr (slot_ne (Or.inl (own_h hw 33 rfl)) (Or.inr (own_h hw 24 rfl)) (by decide) (t := .int) (t' := (.array .int)) (by decide) (by decide)))).other W332 (Or.inl ne_a0_b294)).other W336 (Or.inr (slot_ne (Or.inl (own_h hw 33 rfl)) (Or.inl (own_h hw 26 rfl)) (by decide) (t := .int) (t' := .int) (by decide) (by decide))))
  have F348 := ((((F319.ext E317).other W326 (Ne.symm ne_a0_b226)).other W332 ne_b226_b294).other W336 (Ne.symm ne_a0_b226))
  have F349 := ((((F320.ext E317).other W326 (Ne.symm ne_a0_b232)).other W332 ne_b232_b294).other W336 (Ne.symm ne_a0_b232))
  have F350 := ((((F321.ext E317).other W326 (Ne.symm ne_a0_b276)).other W332 ne_b276_b294).other W336 (Ne.symm ne_a0_b276))
  have F351 := ((((F322.ext E317).other W326 (Ne.symm ne_a0_b284)).other W332 ne_b284_b294).other W336 (Ne.symm ne_a0_b284))
  have F352 := (Vw332.other W336 (Ne.symm ne_a0_b294))
  have F353 := ((((F324.ext E317).other W326 (Ne.symm ne_a0_b305)).other W332 (Ne.symm ne_b294_b305)).other W336 (Ne.symm ne_a0_b305))
  have F354 := (((V317.other W326 (Ne.symm ne_a0_b317)).other W332 (Ne.symm ne_b294_b317)).other W336 (Ne.symm ne_a0_b317))
  exact own_end X336 (BodyLoose.notSynchronized Bd) (fun _ => rfl) (v := none) (fun fs hr => X336.returnOut hx Bd.returns (hb hby d1_92) hr) (by show Q1n3 Z a0 h0 n0 _ T336.heap _; rw [e336]; exact ⟨rfl, N336, Kp336, b226, b232, b276, b284, b294, b305, b317, sz_b226, sz_b232, sz_b276, sz_b284, sz_b294, sz_b305, sz_b317, ne_b226_b232, ne_b226_b276, ne_b226_b284, ne_b226_b294, ne_b226_b305, ne_b226_b317, ne_b232_b276, ne_b232_b284, ne_b232_b294, ne_b232_b305, ne_b232_b317, ne_b276_b284, ne_b276_b294, ne_b276_b305, ne_b276_b317, ne_b284_b294, ne_b284_b305, ne_b284_b317, ne_b294_b305, ne_b294_b317, ne_b305_b317, F340, F341, F342, F343, F344, F345, F346, Fw336, F347, F348, F349, F350, F351, F352, F353, F354⟩) (by decide) (by decide)
theorem ef1n4 (m : MethodId) (a0 : Addr) : entryFrame m #[(.ref a0), (.int (4:Int32))] 3 = mkF m 0 #[rv a0, iv (4:Int32), .unset] [] := by first | (simp [entryFrame, mkF, argsToLocals, Value.category]; done) | rfl
def Q1n4 (Z : State) (a0 : Addr)  (h0 : Heap) (n0 : Nat) (v : Option Value) (h : Heap) (L : List Loc) : Prop := v = none ∧ Fr n0 L ∧ Keep h0 h [a0] ∧ ∃ e1 : Addr, ∃ e2 : Addr, ∃ e3 : Addr, ∃ e4 : Addr, ∃ e5 : Addr, ∃ e6 : Addr, ∃ e7 : Addr, h0.size ≤ e1 ∧ h0.size ≤ e2 ∧ h0.size ≤ e3 ∧ h0.size ≤ e4 ∧ h0.size ≤ e5 ∧ h0.size ≤ e6 ∧ h0.size ≤ e7 ∧ e1 ≠ e2 ∧ e1 ≠ e3 ∧ e1 ≠ e4 ∧ e1 ≠ e5 ∧ e1 ≠ e6 ∧ e1 ≠ e7 ∧ e2 ≠ e3 ∧ e2 ≠ e4 ∧ e2 ≠ e5 ∧ e2 ≠ e6 ∧ e2 ≠ e7 ∧ e3 ≠ e4 ∧ e3 ≠ e5 ∧ e3 ≠ e6 ∧ e3 ≠ e7 ∧ e4 ≠ e5 ∧ e4 ≠ e6 ∧ e4 ≠ e7 ∧ e5 ≠ e6 ∧ e5 ≠ e7 ∧ e6 ≠ e7 ∧ Fld Z h a0 "com/example/spare_calculus/sparecalculus/bisim/Partition" "elements" "[I" (.ref e1) ∧ Fld Z h a0 "com/example/spare_calculus/sparecalculus/bisim/Partition" "positions" "[I" (.ref e2) ∧ Fld Z h a0 "com/example/spare_calculus/sparecalculus/bisim/Partition" "blockOf" "[I" (.ref e3) ∧ Fld Z h a0 "com/example/spare_calculus/sparecalculus/bisim/Partition" "blockStart" "[I" (.ref e4) ∧ Fld Z h a0 "com/example/spare_calculus/sparecalculus/bisim/Partition" "blockEnd" "[I" (.ref e5) ∧ Fld Z h a0 "com/example/spare_calculus/sparecalculus/bisim/Partition" "blockMarkedEnd" "[I" (.ref e6) ∧ Fld Z h a0 "com/example/spare_calculus/sparecalculus/bisim/Partition" "touchedBlocks" "[I" (.ref e7) ∧ Fld Z h a0 "com/example/spare_calculus/sparecalculus/bisim/Partition" "blockCount" "I" (.int (1:Int32)) ∧ Fld Z h a0 "com/example/spare_calculus/sparecalculus/bisim/Partition" "touchedBlockCount" "I" (.int (0:Int32)) ∧ own_Ints Z h e1 [(0:Int32), (1:Int32), (2:Int32), (3:Int32)] ∧ own_Ints Z h e2 [(0:Int32), (1:Int32), (2:Int32), (3:Int32)] ∧ own_Ints Z h e3 [(0:Int32), (0:Int32), (0:Int32), (0:Int32)] ∧ own_Ints Z h e4 [(0:Int32), (0:Int32), (0:Int32), (0:Int32)] ∧ own_Ints Z h e5 [(4:Int32), (0:Int32), (0:Int32), (0:Int32)] ∧ own_Ints Z h e6 [(0:Int32), (0:Int32), (0:Int32), (0:Int32)] ∧ own_Ints Z h e7 [(0:Int32), (0:Int32), (0:Int32), (0:Int32)]
set_option maxRecDepth 65536 in
set_option maxHeartbeats 40000000 in
theorem rm1n4 (l : Launch) (Z : State) (aZ : Array Value) (hw : ∀ d ∈ tables_1, d.before aZ Z = true) (ws : List Jvm.Cond) (a0 : Addr)  (h0 : Heap) (n0 : Nat) (Z0 : n0 ≤ h0.size) (P0 : Exa Z h0 a0 "com/example/spare_calculus/sparecalculus/bisim/Partition") (P1 : Fld Z h0 a0 "com/example/spare_calculus/sparecalculus/bisim/Partition" "elements" "[I" .null) (P2 : Fld Z h0 a0 "com/example/spare_calculus/sparecalculus/bisim/Partition" "positions" "[I" .null) (P3 : Fld Z h0 a0 "com/example/spare_calculus/sparecalculus/bisim/Partition" "blockOf" "[I" .null) (P4 : Fld Z h0 a0 "com/example/spare_calculus/sparecalculus/bisim/Partition" "blockStart" "[I" .null) (P5 : Fld Z h0 a0 "com/example/spare_calculus/sparecalculus/bisim/Partition" "blockEnd" "[I" .null) (P6 : Fld Z h0 a0 "com/example/spare_calculus/sparecalculus/bisim/Partition" "blockMarkedEnd" "[I" .null) (P7 : Fld Z h0 a0 "com/example/spare_calculus/sparecalculus/bisim/Partition" "touchedBlocks" "[I" .null) (P8 : Fld Z h0 a0 "com/example/spare_calculus/sparecalculus/bisim/Partition" "blockCount" "I" (.int (0:Int32))) (P9 : Fld Z h0 a0 "com/example/spare_calculus/sparecalculus/bisim/Partition" "touchedBlockCount" "I" (.int (0:Int32))) (gq_a0 : n0 ≤ a0) :
    MetFree l (⟨"com/example/spare_calculus/sparecalculus/bisim/Partition", "<init>", "(I)V"⟩ : MethodName) (head1 (Jvm.Cond.code (⟨"com/example/spare_calculus/sparecalculus/bisim/Partition", "<init>", "(I)V"⟩ : MethodName) prog_16_method_1_code 3 none :: ws) ({ frames := 1, cells := 7, slots := 28, locals := 12 } : Room)) (fun a U => a = #[(.ref a0), (.int (4:Int32))] ∧ Z.Warmed39 U.vm ∧ U.heap = h0) (fun _ _ _ _ _ => True) (fun _ U o U' => ∃ v L, o = .returned v ∧ Q1n4 Z a0 h0 n0 v U'.heap L ∧ FrameEnd U o U' L ({ frames := 1, cells := 7, slots := 28, locals := 12 } : Room).cells ({ frames := 1, cells := 7, slots := 28, locals := 12 } : Room).slots) := by
  refine MetFree.of_bodySF (plainFor_of_name own_pn0) hisR ?_
  intro p e s m args below meth c s₁ Bd hml0 hP hK
  obtain ⟨rfl, hZ, hh⟩ := hP
  have hx := Bd.exec
  have hby := Bd.bytes
  have hml : c.maxLocals = 3 := hml0
  have hown : s.vm.findClass "com/example/spare_calculus/sparecalculus/bisim/Partition" = some m.cls := findClass_of_methodNamed Bd.named
  have hnm := (name_of_methodNamed Bd.named Bd.method).1
  have X0 : Stand p l e ({ frames := 1, cells := 7, slots := 28, locals := 12 } : Room) s m #[(.ref a0), (.int (4:Int32))] below meth c s₁ [] 0 0 := Stand.of_body Bd
  have e0 : s₁.heap = h0 := by rw [← hh, Bd.state]; rfl
  have N0 := Fr.nil n0
  have Kp0 : Keep h0 h0 [a0] := Keep.refl _ _
  show own_Goes p e below s (Q1n4 Z a0 h0 n0) ({ frames := 1, cells := 7, slots := 28, locals := 12 } : Room).cells ({ frames := 1, cells := 7, slots := 28, locals := 12 } : Room).slots _
  refine own_pre (fun t k => castTop (ef1n4 m a0) k) ?_
  refine own_pre (A := s₁.setTop (mkF m 1 #[rv a0, iv (4:Int32), .unset] [(.ref a0)])) (fun t k => ?_) ?_
  · show Steps p.tables e below (s₁.setTop (mkF m 0 #[rv a0, iv (4:Int32), .unset] [])) _
    refine XS.aloadN X0.here hx rfl (hb hby d1_0) rfl rfl ?_
    exact k
  obtain ⟨T355, X355, e355, st355⟩ := initO X0 hx hZ hown (own_h hw 7 rfl) (own_h hw 8 rfl) (own_h hw 9 rfl) e0 (g := (mkF m 1 #[rv a0, iv (4:Int32), .unset] [(.ref a0)])) rfl (by rw [hml]; rfl) rfl (hb hby d1_1) (by decide) (W := 0) (by show 2 * 0 + _ ≤ _; exact Nat.le_of_eq rfl) (by decide)
  refine own_pre st355 ?_
  refine own_pre (A := T355.setTop (mkF m 6 #[rv a0, iv (4:Int32), .unset] [(.int (4:Int32)), (.ref a0)])) (fun t k => ?_) ?_
  · show Steps p.tables e below (T355.setTop (mkF m 4 #[rv a0, iv (4:Int32), .unset] [])) _
    refine XS.aloadN X355.here hx rfl (hb hby d1_4) rfl rfl ?_
    show Steps p.tables e below (T355.setTop (mkF m 5 #[rv a0, iv (4:Int32), .unset] [(.ref a0)])) _
    refine XS.iloadN X355.here hx rfl (hb hby d1_5) rfl ?_
    exact k
  obtain ⟨T356, h356, k356, X356, e356, E356, A356, st356⟩ := newP X355 hx hZ (own_h hw 10 rfl) e355 (g := (mkF m 6 #[rv a0, iv (4:Int32), .unset] [(.int (4:Int32)), (.ref a0)])) rfl (hb hby d1_6) rfl (by decide) (cap := 4) (by decide) (by decide) (by decide) (by decide)
  obtain ⟨b356, g356⟩ : ∃ z, z = h0.size := ⟨_, rfl⟩
  rw [← g356] at A356 st356
  have ge_b356 : n0 ≤ b356 := Nat.le_trans Z0 (Nat.le_of_eq g356.symm)
  have sz_b356 : h0.size ≤ b356 := Nat.le_trans Kp0.1 (Nat.le_of_eq g356.symm)
  have ne_a0_b356 : a0 ≠ b356 := Nat.ne_of_lt (Nat.lt_of_lt_of_le P0.lt (Nat.le_of_eq g356.symm))
  have Kp356 : Keep h0 h356 [a0] := Kp0.ext E356
  have Z357 : n0 ≤ h356.size := Nat.le_trans Z0 E356.1
  have V356 : own_Ints Z h356 b356 [(0:Int32), (0:Int32), (0:Int32), (0:Int32)] := own_newI A356 (by decide)
  refine own_pre st356 ?_
  have F359 := (P0.ext E356)
  have F360 := (P1.ext E356)
  obtain ⟨T358, h358, X358, e358, W358, st358⟩ := putF X356 hx hZ hown (host := "") (Or.inl (own_h hw 11 rfl)) Via.refl e356 F360 F359 (Or.inr ⟨(own_h hw 12 rfl), rfl, hnm⟩) (own_h hw 2 rfl) (ty := (.array .int)) (by decide) rfl rfl (g := (mkF m 8 #[rv a0, iv (4:Int32), .unset] [(.ref b356), (.ref a0)])) rfl rfl (hb hby d1_8)
  have Kp358 : Keep h0 h358 [a0] := Kp356.wr W358 (Or.inl (List.mem_of_getElem? (i := 0) rfl))
  have Z361 : n0 ≤ h358.size := Nat.le_trans Z357 (Nat.le_of_eq W358.size.symm)
  have N358 := Fr.snoc X358 N0 gq_a0
  have Fw358 := F360.same W358
  refine own_pre st358 ?_
  refine own_pre (A := T358.setTop (mkF m 13 #[rv a0, iv (4:Int32), .unset] [(.int (4:Int32)), (.ref a0)])) (fun t k => ?_) ?_
  · show Steps p.tables e below (T358.setTop (mkF m 11 #[rv a0, iv (4:Int32), .unset] [])) _
    refine XS.aloadN X358.here hx rfl (hb hby d1_11) rfl rfl ?_
    show Steps p.tables e below (T358.setTop (mkF m 12 #[rv a0, iv (4:Int32), .unset] [(.ref a0)])) _
    refine XS.iloadN X358.here hx rfl (hb hby d1_12) rfl ?_
    exact k
  have F363 := (F359.wr W358)
  have F364 := (V356.other W358 (Ne.symm ne_a0_b356))
  obtain ⟨T362, h362, k362, X362, e362, E362, A362, st362⟩ := newP X358 hx hZ (own_h hw 10 rfl) e358 (g := (mkF m 13 #[rv a0, iv (4:Int32), .unset] [(.int (4:Int32)), (.ref a0)])) rfl (hb hby d1_13) rfl (by decide) (cap := 4) (by decide) (by decide) (by decide) (by decide)
  obtain ⟨b362, g362⟩ : ∃ z, z = h358.size := ⟨_, rfl⟩
  rw [← g362] at A362 st362
  have ge_b362 : n0 ≤ b362 := Nat.le_trans Z361 (Nat.le_of_eq g362.symm)
  have sz_b362 : h0.size ≤ b362 := Nat.le_trans Kp358.1 (Nat.le_of_eq g362.symm)
  have ne_a0_b362 : a0 ≠ b362 := Nat.ne_of_lt (Nat.lt_of_lt_of_le F363.lt (Nat.le_of_eq g362.symm))
  have ne_b356_b362 : b356 ≠ b362 := Nat.ne_of_lt (Nat.lt_of_lt_of_le F364.lt (Nat.le_of_eq g362.symm))
  have Kp362 : Keep h0 h362 [a0] := Kp358.ext E362
  have Z365 : n0 ≤ h362.size := Nat.le_trans Z361 E362.1
  have V362 : own_Ints Z h362 b362 [(0:Int32), (0:Int32), (0:Int32), (0:Int32)] := own_newI A362 (by decide)
  refine own_pre st362 ?_
  have F367 := (F363.ext E362)
  have F368 := (((P2.ext E356).other W358 (Or.inr (slot_ne (Or.inr (own_h hw 14 rfl)) (Or.inr (own_h hw 12 rfl)) (by decide) (t := (.array .int)) (t' := (.array .int)) (by decide) (by decide)))).ext E362)
  obtain ⟨T366, h366, X366, e366, W366, st366⟩ := putF X362 hx hZ hown (host := "") (Or.inl (own_h hw 13 rfl)) Via.refl e362 F368 F367 (Or.inr ⟨(own_h hw 14 rfl), rfl, hnm⟩) (own_h hw 2 rfl) (ty := (.array .int)) (by decide) rfl rfl (g := (mkF m 15 #[rv a0, iv (4:Int32), .unset] [(.ref b362), (.ref a0)])) rfl rfl (hb hby d1_15)
  have Kp366 : Keep h0 h366 [a0] := Kp362.wr W366 (Or.inl (List.mem_of_getElem? (i := 0) rfl))
  have Z369 : n0 ≤ h366.size := Nat.le_trans Z365 (Nat.le_of_eq W366.size.symm)
  have N366 := Fr.snoc X366 N358 gq_a0
  have Fw366 := F368.same W366
  refine own_pre st366 ?_
  refine own_pre (A := T366.setTop (mkF m 26 #[rv a0, iv (4:Int32), iv (0:Int32)] [(.ref a0)])) (fun t k => ?_) ?_
  · show Steps p.tables e below (T366.setTop (mkF m 18 #[rv a0, iv (4:Int32), .unset] [])) _
    refine XS.iconst X366.here hx rfl (hb hby d1_18) ?_
    show Steps p.tables e below (T366.setTop (mkF m 19 #[rv a0, iv (4:Int32), .unset] [(.int (0:Int32))])) _
    refine XS.istoreN X366.here hx rfl (hb hby d1_19) rfl (l' := #[rv a0, iv (4:Int32), iv (0:Int32)]) rfl ?_
    show Steps p.tables e below (T366.setTop (mkF m 20 #[rv a0, iv (4:Int32), iv (0:Int32)] [])) _
    refine XS.iloadN X366.here hx rfl (hb hby d1_20) rfl ?_
    show Steps p.tables e below (T366.setTop (mkF m 21 #[rv a0, iv (4:Int32), iv (0:Int32)] [(.int (0:Int32))])) _
    refine XS.iloadN X366.here hx rfl (hb hby d1_21) rfl ?_
    show Steps p.tables e below (T366.setTop (mkF m 22 #[rv a0, iv (4:Int32), iv (0:Int32)] [(.int (4:Int32)), (.int (0:Int32))])) _
    refine XS.icmpNo X366.here hx rfl (hb hby d1_22) rfl (XT.ii_ge_f (by decide)) ?_
    show Steps p.tables e below (T366.setTop (mkF m 25 #[rv a0, iv (4:Int32), iv (0:Int32)] [])) _
    refine XS.aloadN X366.here hx rfl (hb hby d1_25) rfl rfl ?_
    exact k
  have F371 := ((Fw358.ext E362).other W366 (Or.inr (slot_ne (Or.inr (own_h hw 12 rfl)) (Or.inr (own_h hw 14 rfl)) (by decide) (t := (.array .int)) (t' := (.array .int)) (by decide) (by decide))))
  obtain ⟨T370, X370, e370, st370⟩ := getF X366 hx hZ hown (host := "") (Or.inl (own_h hw 11 rfl)) Via.refl e366 F371 (g := (mkF m 26 #[rv a0, iv (4:Int32), iv (0:Int32)] [(.ref a0)])) rfl rfl (hb hby d1_26)
  refine own_pre st370 ?_
  refine own_pre (A := T370.setTop (mkF m 31 #[rv a0, iv (4:Int32), iv (0:Int32)] [(.int (0:Int32)), (.int (0:Int32)), (.ref b356)])) (fun t k => ?_) ?_
  · show Steps p.tables e below (T370.setTop (mkF m 29 #[rv a0, iv (4:Int32), iv (0:Int32)] [(.ref b356)])) _
    refine XS.iloadN X370.here hx rfl (hb hby d1_29) rfl ?_
    show Steps p.tables e below (T370.setTop (mkF m 30 #[rv a0, iv (4:Int32), iv (0:Int32)] [(.int (0:Int32)), (.ref b356)])) _
    refine XS.iloadN X370.here hx rfl (hb hby d1_30) rfl ?_
    exact k
  have F373 := ((F364.ext E362).other W366 (Ne.symm ne_a0_b356))
  have hbn374 : own_In (0:Int32) [(0:Int32), (0:Int32), (0:Int32), (0:Int32)].length := own_lit rfl
  obtain ⟨T372, h372, X372, e372, W372, V372, st372⟩ := own_iastore X370 hx hZ e370 F373 (j := (0:Int32)) (x := (0:Int32)) hbn374 (g := (mkF m 31 #[rv a0, iv (4:Int32), iv (0:Int32)] [(.int (0:Int32)), (.int (0:Int32)), (.ref b356)])) rfl rfl (hb hby d1_31)
  have Kp372 : Keep h0 h372 [a0] := Kp366.wr W372 (Or.inr sz_b356)
  have Z375 : n0 ≤ h372.size := Nat.le_trans Z369 (Nat.le_of_eq W372.size.symm)
  have N372 := Fr.snoc X372 N366 ge_b356
  have Vw372 : own_Ints Z h372 b356 [(0:Int32), (0:Int32), (0:Int32), (0:Int32)] := V372
  refine own_pre st372 ?_
  refine own_pre (A := T372.setTop (mkF m 33 #[rv a0, iv (4:Int32), iv (0:Int32)] [(.ref a0)])) (fun t k => ?_) ?_
  · show Steps p.tables e below (T372.setTop (mkF m 32 #[rv a0, iv (4:Int32), iv (0:Int32)] [])) _
    refine XS.aloadN X372.here hx rfl (hb hby d1_32) rfl rfl ?_
    exact k
  have F377 := (Fw366.other W372 (Or.inl ne_a0_b356))
  obtain ⟨T376, X376, e376, st376⟩ := getF X372 hx hZ hown (host := "") (Or.inl (own_h hw 13 rfl)) Via.refl e372 F377 (g := (mkF m 33 #[rv a0, iv (4:Int32), iv (0:Int32)] [(.ref a0)])) rfl rfl (hb hby d1_33)
  refine own_pre st376 ?_
  refine own_pre (A := T376.setTop (mkF m 38 #[rv a0, iv (4:Int32), iv (0:Int32)] [(.int (0:Int32)), (.int (0:Int32)), (.ref b362)])) (fun t k => ?_) ?_
  · show Steps p.tables e below (T376.setTop (mkF m 36 #[rv a0, iv (4:Int32), iv (0:Int32)] [(.ref b362)])) _
    refine XS.iloadN X376.here hx rfl (hb hby d1_36) rfl ?_
    show Steps p.tables e below (T376.setTop (mkF m 37 #[rv a0, iv (4:Int32), iv (0:Int32)] [(.int (0:Int32)), (.ref b362)])) _
    refine XS.iloadN X376.here hx rfl (hb hby d1_37) rfl ?_
    exact k
  have F379 := ((V362.other W366 (Ne.symm ne_a0_b362)).other W372 (Ne.symm ne_b356_b362))
  have hbn380 : own_In (0:Int32) [(0:Int32), (0:Int32), (0:Int32), (0:Int32)].length := own_lit rfl
  obtain ⟨T378, h378, X378, e378, W378, V378, st378⟩ := own_iastore X376 hx hZ e376 F379 (j := (0:Int32)) (x := (0:Int32)) hbn380 (g := (mkF m 38 #[rv a0, iv (4:Int32), iv (0:Int32)] [(.int (0:Int32)), (.int (0:Int32)), (.ref b362)])) rfl rfl (hb hby d1_38)
  have Kp378 : Keep h0 h378 [a0] := Kp372.wr W378 (Or.inr sz_b362)
  have Z381 : n0 ≤ h378.size := Nat.le_trans Z375 (Nat.le_of_eq W378.size.symm)
  have N378 := Fr.snoc X378 N372 ge_b362
  have Vw378 : own_Ints Z h378 b362 [(0:Int32), (0:Int32), (0:Int32), (0:Int32)] := V378
  refine own_pre st378 ?_
  refine own_pre (A := T378.setTop (mkF m 26 #[rv a0, iv (4:Int32), iv (1:Int32)] [(.ref a0)])) (fun t k => ?_) ?_
  · show Steps p.tables e below (T378.setTop (mkF m 39 #[rv a0, iv (4:Int32), iv (0:Int32)] [])) _
    refine XS.iinc X378.here hx rfl (hb hby d1_39) rfl (l' := #[rv a0, iv (4:Int32), iv (1:Int32)]) rfl ?_
    show Steps p.tables e below (T378.setTop (mkF m 42 #[rv a0, iv (4:Int32), iv (1:Int32)] [])) _
    refine XS.goto X378.here hx rfl (pc0 := 42) (pc' := 20) rfl (hb hby d1_42) (by decide) (by decide) ?_
    show Steps p.tables e below (T378.setTop (mkF m 20 #[rv a0, iv (4:Int32), iv (1:Int32)] [])) _
    refine XS.iloadN X378.here hx rfl (hb hby d1_20) rfl ?_
    show Steps p.tables e below (T378.setTop (mkF m 21 #[rv a0, iv (4:Int32), iv (1:Int32)] [(.int (1:Int32))])) _
    refine XS.iloadN X378.here hx rfl (hb hby d1_21) rfl ?_
    show Steps p.tables e below (T378.setTop (mkF m 22 #[rv a0, iv (4:Int32), iv (1:Int32)] [(.int (4:Int32)), (.int (1:Int32))])) _
    refine XS.icmpNo X378.here hx rfl (hb hby d1_22) rfl (XT.ii_ge_f (by decide)) ?_
    show Steps p.tables e below (T378.setTop (mkF m 25 #[rv a0, iv (4:Int32), iv (1:Int32)] [])) _
    refine XS.aloadN X378.here hx rfl (hb hby d1_25) rfl rfl ?_
    exact k
  have F383 := ((F371.other W372 (Or.inl ne_a0_b356)).other W378 (Or.inl ne_a0_b362))
  obtain ⟨T382, X382, e382, st382⟩ := getF X378 hx hZ hown (host := "") (Or.inl (own_h hw 11 rfl)) Via.refl e378 F383 (g := (mkF m 26 #[rv a0, iv (4:Int32), iv (1:Int32)] [(.ref a0)])) rfl rfl (hb hby d1_26)
  refine own_pre st382 ?_
  refine own_pre (A := T382.setTop (mkF m 31 #[rv a0, iv (4:Int32), iv (1:Int32)] [(.int (1:Int32)), (.int (1:Int32)), (.ref b356)])) (fun t k => ?_) ?_
  · show Steps p.tables e below (T382.setTop (mkF m 29 #[rv a0, iv (4:Int32), iv (1:Int32)] [(.ref b356)])) _
    refine XS.iloadN X382.here hx rfl (hb hby d1_29) rfl ?_
    show Steps p.tables e below (T382.setTop (mkF m 30 #[rv a0, iv (4:Int32), iv (1:Int32)] [(.int (1:Int32)), (.ref b356)])) _
    refine XS.iloadN X382.here hx rfl (hb hby d1_30) rfl ?_
    exact k
  have F385 := (Vw372.other W378 ne_b356_b362)
  have hbn386 : own_In (1:Int32) [(0:Int32), (0:Int32), (0:Int32), (0:Int32)].length := own_lit rfl
  obtain ⟨T384, h384, X384, e384, W384, V384, st384⟩ := own_iastore X382 hx hZ e382 F385 (j := (1:Int32)) (x := (1:Int32)) hbn386 (g := (mkF m 31 #[rv a0, iv (4:Int32), iv (1:Int32)] [(.int (1:Int32)), (.int (1:Int32)), (.ref b356)])) rfl rfl (hb hby d1_31)
  have Kp384 : Keep h0 h384 [a0] := Kp378.wr W384 (Or.inr sz_b356)
  have Z387 : n0 ≤ h384.size := Nat.le_trans Z381 (Nat.le_of_eq W384.size.symm)
  have N384 := Fr.snoc X384 N378 ge_b356
  have Vw384 : own_Ints Z h384 b356 [(0:Int32), (1:Int32), (0:Int32), (0:Int32)] := V384
  refine own_pre st384 ?_
  refine own_pre (A := T384.setTop (mkF m 33 #[rv a0, iv (4:Int32), iv (1:Int32)] [(.ref a0)])) (fun t k => ?_) ?_
  · show Steps p.tables e below (T384.setTop (mkF m 32 #[rv a0, iv (4:Int32), iv (1:Int32)] [])) _
    refine XS.aloadN X384.here hx rfl (hb hby d1_32) rfl rfl ?_
    exact k
  have F389 := ((F377.other W378 (Or.inl ne_a0_b362)).other W384 (Or.inl ne_a0_b356))
  obtain ⟨T388, X388, e388, st388⟩ := getF X384 hx hZ hown (host := "") (Or.inl (own_h hw 13 rfl)) Via.refl e384 F389 (g := (mkF m 33 #[rv a0, iv (4:Int32), iv (1:Int32)] [(.ref a0)])) rfl rfl (hb hby d1_33)
  refine own_pre st388 ?_
  refine own_pre (A := T388.setTop (mkF m 38 #[rv a0, iv (4:Int32), iv (1:Int32)] [(.int (1:Int32)), (.int (1:Int32)), (.ref b362)])) (fun t k => ?_) ?_
  · show Steps p.tables e below (T388.setTop (mkF m 36 #[rv a0, iv (4:Int32), iv (1:Int32)] [(.ref b362)])) _
    refine XS.iloadN X388.here hx rfl (hb hby d1_36) rfl ?_
    show Steps p.tables e below (T388.setTop (mkF m 37 #[rv a0, iv (4:Int32), iv (1:Int32)] [(.int (1:Int32)), (.ref b362)])) _
    refine XS.iloadN X388.here hx rfl (hb hby d1_37) rfl ?_
    exact k
  have F391 := (Vw378.other W384 (Ne.symm ne_b356_b362))
  have hbn392 : own_In (1:Int32) [(0:Int32), (0:Int32), (0:Int32), (0:Int32)].length := own_lit rfl
  obtain ⟨T390, h390, X390, e390, W390, V390, st390⟩ := own_iastore X388 hx hZ e388 F391 (j := (1:Int32)) (x := (1:Int32)) hbn392 (g := (mkF m 38 #[rv a0, iv (4:Int32), iv (1:Int32)] [(.int (1:Int32)), (.int (1:Int32)), (.ref b362)])) rfl rfl (hb hby d1_38)
  have Kp390 : Keep h0 h390 [a0] := Kp384.wr W390 (Or.inr sz_b362)
  have Z393 : n0 ≤ h390.size := Nat.le_trans Z387 (Nat.le_of_eq W390.size.symm)
  have N390 := Fr.snoc X390 N384 ge_b362
  have Vw390 : own_Ints Z h390 b362 [(0:Int32), (1:Int32), (0:Int32), (0:Int32)] := V390
  refine own_pre st390 ?_
  refine own_pre (A := T390.setTop (mkF m 26 #[rv a0, iv (4:Int32), iv (2:Int32)] [(.ref a0)])) (fun t k => ?_) ?_
  · show Steps p.tables e below (T390.setTop (mkF m 39 #[rv a0, iv (4:Int32), iv (1:Int32)] [])) _
    refine XS.iinc X390.here hx rfl (hb hby d1_39) rfl (l' := #[rv a0, iv (4:Int32), iv (2:Int32)]) rfl ?_
    show Steps p.tables e below (T390.setTop (mkF m 42 #[rv a0, iv (4:Int32), iv (2:Int32)] [])) _
    refine XS.goto X390.here hx rfl (pc0 := 42) (pc' := 20) rfl (hb hby d1_42) (by decide) (by decide) ?_
    show Steps p.tables e below (T390.setTop (mkF m 20 #[rv a0, iv (4:Int32), iv (2:Int32)] [])) _
    refine XS.iloadN X390.here hx rfl (hb hby d1_20) rfl ?_
    show Steps p.tables e below (T390.setTop (mkF m 21 #[rv a0, iv (4:Int32), iv (2:Int32)] [(.int (2:Int32))])) _
    refine XS.iloadN X390.here hx rfl (hb hby d1_21) rfl ?_
    show Steps p.tables e below (T390.setTop (mkF m 22 #[rv a0, iv (4:Int32), iv (2:Int32)] [(.int (4:Int32)), (.int (2:Int32))])) _
    refine XS.icmpNo X390.here hx rfl (hb hby d1_22) rfl (XT.ii_ge_f (by decide)) ?_
    show Steps p.tables e below (T390.setTop (mkF m 25 #[rv a0, iv (4:Int32), iv (2:Int32)] [])) _
    refine XS.aloadN X390.here hx rfl (hb hby d1_25) rfl rfl ?_
    exact k
  have F395 := ((F383.other W384 (Or.inl ne_a0_b356)).other W390 (Or.inl ne_a0_b362))
  obtain ⟨T394, X394, e394, st394⟩ := getF X390 hx hZ hown (host := "") (Or.inl (own_h hw 11 rfl)) Via.refl e390 F395 (g := (mkF m 26 #[rv a0, iv (4:Int32), iv (2:Int32)] [(.ref a0)])) rfl rfl (hb hby d1_26)
  refine own_pre st394 ?_
  refine own_pre (A := T394.setTop (mkF m 31 #[rv a0, iv (4:Int32), iv (2:Int32)] [(.int (2:Int32)), (.int (2:Int32)), (.ref b356)])) (fun t k => ?_) ?_
  · show Steps p.tables e below (T394.setTop (mkF m 29 #[rv a0, iv (4:Int32), iv (2:Int32)] [(.ref b356)])) _
    refine XS.iloadN X394.here hx rfl (hb hby d1_29) rfl ?_
    show Steps p.tables e below (T394.setTop (mkF m 30 #[rv a0, iv (4:Int32), iv (2:Int32)] [(.int (2:Int32)), (.ref b356)])) _
    refine XS.iloadN X394.here hx rfl (hb hby d1_30) rfl ?_
    exact k
  have F397 := (Vw384.other W390 ne_b356_b362)
  have hbn398 : own_In (2:Int32) [(0:Int32), (1:Int32), (0:Int32), (0:Int32)].length := own_lit rfl
  obtain ⟨T396, h396, X396, e396, W396, V396, st396⟩ := own_iastore X394 hx hZ e394 F397 (j := (2:Int32)) (x := (2:Int32)) hbn398 (g := (mkF m 31 #[rv a0, iv (4:Int32), iv (2:Int32)] [(.int (2:Int32)), (.int (2:Int32)), (.ref b356)])) rfl rfl (hb hby d1_31)
  have Kp396 : Keep h0 h396 [a0] := Kp390.wr W396 (Or.inr sz_b356)
  have Z399 : n0 ≤ h396.size := Nat.le_trans Z393 (Nat.le_of_eq W396.size.symm)
  have N396 := Fr.snoc X396 N390 ge_b356
  have Vw396 : own_Ints Z h396 b356 [(0:Int32), (1:Int32), (2:Int32), (0:Int32)] := V396
  refine own_pre st396 ?_
  refine own_pre (A := T396.setTop (mkF m 33 #[rv a0, iv (4:Int32), iv (2:Int32)] [(.ref a0)])) (fun t k => ?_) ?_
  · show Steps p.tables e below (T396.setTop (mkF m 32 #[rv a0, iv (4:Int32), iv (2:Int32)] [])) _
    refine XS.aloadN X396.here hx rfl (hb hby d1_32) rfl rfl ?_
    exact k
  have F401 := ((F389.other W390 (Or.inl ne_a0_b362)).other W396 (Or.inl ne_a0_b356))
  obtain ⟨T400, X400, e400, st400⟩ := getF X396 hx hZ hown (host := "") (Or.inl (own_h hw 13 rfl)) Via.refl e396 F401 (g := (mkF m 33 #[rv a0, iv (4:Int32), iv (2:Int32)] [(.ref a0)])) rfl rfl (hb hby d1_33)
  refine own_pre st400 ?_
  refine own_pre (A := T400.setTop (mkF m 38 #[rv a0, iv (4:Int32), iv (2:Int32)] [(.int (2:Int32)), (.int (2:Int32)), (.ref b362)])) (fun t k => ?_) ?_
  · show Steps p.tables e below (T400.setTop (mkF m 36 #[rv a0, iv (4:Int32), iv (2:Int32)] [(.ref b362)])) _
    refine XS.iloadN X400.here hx rfl (hb hby d1_36) rfl ?_
    show Steps p.tables e below (T400.setTop (mkF m 37 #[rv a0, iv (4:Int32), iv (2:Int32)] [(.int (2:Int32)), (.ref b362)])) _
    refine XS.iloadN X400.here hx rfl (hb hby d1_37) rfl ?_
    exact k
  have F403 := (Vw390.other W396 (Ne.symm ne_b356_b362))
  have hbn404 : own_In (2:Int32) [(0:Int32), (1:Int32), (0:Int32), (0:Int32)].length := own_lit rfl
  obtain ⟨T402, h402, X402, e402, W402, V402, st402⟩ := own_iastore X400 hx hZ e400 F403 (j := (2:Int32)) (x := (2:Int32)) hbn404 (g := (mkF m 38 #[rv a0, iv (4:Int32), iv (2:Int32)] [(.int (2:Int32)), (.int (2:Int32)), (.ref b362)])) rfl rfl (hb hby d1_38)
  have Kp402 : Keep h0 h402 [a0] := Kp396.wr W402 (Or.inr sz_b362)
  have Z405 : n0 ≤ h402.size := Nat.le_trans Z399 (Nat.le_of_eq W402.size.symm)
  have N402 := Fr.snoc X402 N396 ge_b362
  have Vw402 : own_Ints Z h402 b362 [(0:Int32), (1:Int32), (2:Int32), (0:Int32)] := V402
  refine own_pre st402 ?_
  refine own_pre (A := T402.setTop (mkF m 26 #[rv a0, iv (4:Int32), iv (3:Int32)] [(.ref a0)])) (fun t k => ?_) ?_
  · show Steps p.tables e below (T402.setTop (mkF m 39 #[rv a0, iv (4:Int32), iv (2:Int32)] [])) _
    refine XS.iinc X402.here hx rfl (hb hby d1_39) rfl (l' := #[rv a0, iv (4:Int32), iv (3:Int32)]) rfl ?_
    show Steps p.tables e below (T402.setTop (mkF m 42 #[rv a0, iv (4:Int32), iv (3:Int32)] [])) _
    refine XS.goto X402.here hx rfl (pc0 := 42) (pc' := 20) rfl (hb hby d1_42) (by decide) (by decide) ?_
    show Steps p.tables e below (T402.setTop (mkF m 20 #[rv a0, iv (4:Int32), iv (3:Int32)] [])) _
    refine XS.iloadN X402.here hx rfl (hb hby d1_20) rfl ?_
    show Steps p.tables e below (T402.setTop (mkF m 21 #[rv a0, iv (4:Int32), iv (3:Int32)] [(.int (3:Int32))])) _
    refine XS.iloadN X402.here hx rfl (hb hby d1_21) rfl ?_
    show Steps p.tables e below (T402.setTop (mkF m 22 #[rv a0, iv (4:Int32), iv (3:Int32)] [(.int (4:Int32)), (.int (3:Int32))])) _
    refine XS.icmpNo X402.here hx rfl (hb hby d1_22) rfl (XT.ii_ge_f (by decide)) ?_
    show Steps p.tables e below (T402.setTop (mkF m 25 #[rv a0, iv (4:Int32), iv (3:Int32)] [])) _
    refine XS.aloadN X402.here hx rfl (hb hby d1_25) rfl rfl ?_
    exact k
  have F407 := ((F395.other W396 (Or.inl ne_a0_b356)).other W402 (Or.inl ne_a0_b362))
  obtain ⟨T406, X406, e406, st406⟩ := getF X402 hx hZ hown (host := "") (Or.inl (own_h hw 11 rfl)) Via.refl e402 F407 (g := (mkF m 26 #[rv a0, iv (4:Int32), iv (3:Int32)] [(.ref a0)])) rfl rfl (hb hby d1_26)
  refine own_pre st406 ?_
  refine own_pre (A := T406.setTop (mkF m 31 #[rv a0, iv (4:Int32), iv (3:Int32)] [(.int (3:Int32)), (.int (3:Int32)), (.ref b356)])) (fun t k => ?_) ?_
  · show Steps p.tables e below (T406.setTop (mkF m 29 #[rv a0, iv (4:Int32), iv (3:Int32)] [(.ref b356)])) _
    refine XS.iloadN X406.here hx rfl (hb hby d1_29) rfl ?_
    show Steps p.tables e below (T406.setTop (mkF m 30 #[rv a0, iv (4:Int32), iv (3:Int32)] [(.int (3:Int32)), (.ref b356)])) _
    refine XS.iloadN X406.here hx rfl (hb hby d1_30) rfl ?_
    exact k
  have F409 := (Vw396.other W402 ne_b356_b362)
  have hbn410 : own_In (3:Int32) [(0:Int32), (1:Int32), (2:Int32), (0:Int32)].length := own_lit rfl
  obtain ⟨T408, h408, X408, e408, W408, V408, st408⟩ := own_iastore X406 hx hZ e406 F409 (j := (3:Int32)) (x := (3:Int32)) hbn410 (g := (mkF m 31 #[rv a0, iv (4:Int32), iv (3:Int32)] [(.int (3:Int32)), (.int (3:Int32)), (.ref b356)])) rfl rfl (hb hby d1_31)
  have Kp408 : Keep h0 h408 [a0] := Kp402.wr W408 (Or.inr sz_b356)
  have Z411 : n0 ≤ h408.size := Nat.le_trans Z405 (Nat.le_of_eq W408.size.symm)
  have N408 := Fr.snoc X408 N402 ge_b356
  have Vw408 : own_Ints Z h408 b356 [(0:Int32), (1:Int32), (2:Int32), (3:Int32)] := V408
  refine own_pre st408 ?_
  refine own_pre (A := T408.setTop (mkF m 33 #[rv a0, iv (4:Int32), iv (3:Int32)] [(.ref a0)])) (fun t k => ?_) ?_
  · show Steps p.tables e below (T408.setTop (mkF m 32 #[rv a0, iv (4:Int32), iv (3:Int32)] [])) _
    refine XS.aloadN X408.here hx rfl (hb hby d1_32) rfl rfl ?_
    exact k
  have F413 := ((F401.other W402 (Or.inl ne_a0_b362)).other W408 (Or.inl ne_a0_b356))
  obtain ⟨T412, X412, e412, st412⟩ := getF X408 hx hZ hown (host := "") (Or.inl (own_h hw 13 rfl)) Via.refl e408 F413 (g := (mkF m 33 #[rv a0, iv (4:Int32), iv (3:Int32)] [(.ref a0)])) rfl rfl (hb hby d1_33)
  refine own_pre st412 ?_
  refine own_pre (A := T412.setTop (mkF m 38 #[rv a0, iv (4:Int32), iv (3:Int32)] [(.int (3:Int32)), (.int (3:Int32)), (.ref b362)])) (fun t k => ?_) ?_
  · show Steps p.tables e below (T412.setTop (mkF m 36 #[rv a0, iv (4:Int32), iv (3:Int32)] [(.ref b362)])) _
    refine XS.iloadN X412.here hx rfl (hb hby d1_36) rfl ?_
    show Steps p.tables e below (T412.setTop (mkF m 37 #[rv a0, iv (4:Int32), iv (3:Int32)] [(.int (3:Int32)), (.ref b362)])) _
    refine XS.iloadN X412.here hx rfl (hb hby d1_37) rfl ?_
    exact k
  have F415 := (Vw402.other W408 (Ne.symm ne_b356_b362))
  have hbn416 : own_In (3:Int32) [(0:Int32), (1:Int32), (2:Int32), (0:Int32)].length := own_lit rfl
  obtain ⟨T414, h414, X414, e414, W414, V414, st414⟩ := own_iastore X412 hx hZ e412 F415 (j := (3:Int32)) (x := (3:Int32)) hbn416 (g := (mkF m 38 #[rv a0, iv (4:Int32), iv (3:Int32)] [(.int (3:Int32)), (.int (3:Int32)), (.ref b362)])) rfl rfl (hb hby d1_38)
  have Kp414 : Keep h0 h414 [a0] := Kp408.wr W414 (Or.inr sz_b362)
  have Z417 : n0 ≤ h414.size := Nat.le_trans Z411 (Nat.le_of_eq W414.size.symm)
  have N414 := Fr.snoc X414 N408 ge_b362
  have Vw414 : own_Ints Z h414 b362 [(0:Int32), (1:Int32), (2:Int32), (3:Int32)] := V414
  refine own_pre st414 ?_
  refine own_pre (A := T414.setTop (mkF m 47 #[rv a0, iv (4:Int32), iv (4:Int32)] [(.int (4:Int32)), (.ref a0)])) (fun t k => ?_) ?_
  · show Steps p.tables e below (T414.setTop (mkF m 39 #[rv a0, iv (4:Int32), iv (3:Int32)] [])) _
    refine XS.iinc X414.here hx rfl (hb hby d1_39) rfl (l' := #[rv a0, iv (4:Int32), iv (4:Int32)]) rfl ?_
    show Steps p.tables e below (T414.setTop (mkF m 42 #[rv a0, iv (4:Int32), iv (4:Int32)] [])) _
    refine XS.goto X414.here hx rfl (pc0 := 42) (pc' := 20) rfl (hb hby d1_42) (by decide) (by decide) ?_
    show Steps p.tables e below (T414.setTop (mkF m 20 #[rv a0, iv (4:Int32), iv (4:Int32)] [])) _
    refine XS.iloadN X414.here hx rfl (hb hby d1_20) rfl ?_
    show Steps p.tables e below (T414.setTop (mkF m 21 #[rv a0, iv (4:Int32), iv (4:Int32)] [(.int (4:Int32))])) _
    refine XS.iloadN X414.here hx rfl (hb hby d1_21) rfl ?_
    show Steps p.tables e below (T414.setTop (mkF m 22 #[rv a0, iv (4:Int32), iv (4:Int32)] [(.int (4:Int32)), (.int (4:Int32))])) _
    refine XS.icmpYes X414.here hx rfl (pc0 := 22) (pc' := 45) rfl (hb hby d1_22) rfl (XT.ii_ge_t (by decide)) (by decide) (by decide) ?_
    show Steps p.tables e below (T414.setTop (mkF m 45 #[rv a0, iv (4:Int32), iv (4:Int32)] [])) _
    refine XS.aloadN X414.here hx rfl (hb hby d1_45) rfl rfl ?_
    show Steps p.tables e below (T414.setTop (mkF m 46 #[rv a0, iv (4:Int32), iv (4:Int32)] [(.ref a0)])) _
    refine XS.iloadN X414.here hx rfl (hb hby d1_46) rfl ?_
    exact k
  have F419 := (((((((((F367.wr W366).wr W372).wr W378).wr W384).wr W390).wr W396).wr W402).wr W408).wr W414)
  have F420 := (Vw408.other W414 ne_b356_b362)
  obtain ⟨T418, h418, k418, X418, e418, E418, A418, st418⟩ := newP X414 hx hZ (own_h hw 10 rfl) e414 (g := (mkF m 47 #[rv a0, iv (4:Int32), iv (4:Int32)] [(.int (4:Int32)), (.ref a0)])) rfl (hb hby d1_47) rfl (by decide) (cap := 4) (by decide) (by decide) (by decide) (by decide)
  obtain ⟨b418, g418⟩ : ∃ z, z = h414.size := ⟨_, rfl⟩
  rw [← g418] at A418 st418
  have ge_b418 : n0 ≤ b418 := Nat.le_trans Z417 (Nat.le_of_eq g418.symm)
  have sz_b418 : h0.size ≤ b418 := Nat.le_trans Kp414.1 (Nat.le_of_eq g418.symm)
  have ne_a0_b418 : a0 ≠ b418 := Nat.ne_of_lt (Nat.lt_of_lt_of_le F419.lt (Nat.le_of_eq g418.symm))
  have ne_b356_b418 : b356 ≠ b418 := Nat.ne_of_lt (Nat.lt_of_lt_of_le F420.lt (Nat.le_of_eq g418.symm))
  have ne_b362_b418 : b362 ≠ b418 := Nat.ne_of_lt (Nat.lt_of_lt_of_le Vw414.lt (Nat.le_of_eq g418.symm))
  have Kp418 : Keep h0 h418 [a0] := Kp414.ext E418
  have Z421 : n0 ≤ h418.size := Nat.le_trans Z417 E418.1
  have V418 : own_Ints Z h418 b418 [(0:Int32), (0:Int32), (0:Int32), (0:Int32)] := own_newI A418 (by decide)
  refine own_pre st418 ?_
  have F423 := (F419.ext E418)
  have F424 := (((((((((((((P3.ext E356).other W358 (Or.inr (slot_ne (Or.inr (own_h hw 16 rfl)) (Or.inr (own_h hw 12 rfl)) (by decide) (t := (.array .int)) (t' := (.array .int)) (by decide) (by decide)))).ext E362).other W366 (Or.inr (slot_ne (Or.inr (own_h hw 16 rfl)) (Or.inr (own_h hw 14 rfl)) (by decide) (t := (.array .int)) (t' := (.array .int)) (by decide) (by decide)))).other W372 (Or.inl ne_a0_b356)).other W378 (Or.inl ne_a0_b362)).other W384 (Or.inl ne_a0_b356)).other W390 (Or.inl ne_a0_b362)).other W396 (Or.inl ne_a0_b356)).other W402 (Or.inl ne_a0_b362)).other W408 (Or.inl ne_a0_b356)).other W414 (Or.inl ne_a0_b362)).ext E418)
  obtain ⟨T422, h422, X422, e422, W422, st422⟩ := putF X418 hx hZ hown (host := "") (Or.inl (own_h hw 15 rfl)) Via.refl e418 F424 F423 (Or.inr ⟨(own_h hw 16 rfl), rfl, hnm⟩) (own_h hw 2 rfl) (ty := (.array .int)) (by decide) rfl rfl (g := (mkF m 49 #[rv a0, iv (4:Int32), iv (4:Int32)] [(.ref b418), (.ref a0)])) rfl rfl (hb hby d1_49)
  have Kp422 : Keep h0 h422 [a0] := Kp418.wr W422 (Or.inl (List.mem_of_getElem? (i := 0) rfl))
  have Z425 : n0 ≤ h422.size := Nat.le_trans Z421 (Nat.le_of_eq W422.size.symm)
  have N422 := Fr.snoc X422 N414 gq_a0
  have Fw422 := F424.same W422
  refine own_pre st422 ?_
  refine own_pre (A := T422.setTop (mkF m 54 #[rv a0, iv (4:Int32), iv (4:Int32)] [(.int (4:Int32)), (.ref a0)])) (fun t k => ?_) ?_
  · show Steps p.tables e below (T422.setTop (mkF m 52 #[rv a0, iv (4:Int32), iv (4:Int32)] [])) _
    refine XS.aloadN X422.here hx rfl (hb hby d1_52) rfl rfl ?_
    show Steps p.tables e below (T422.setTop (mkF m 53 #[rv a0, iv (4:Int32), iv (4:Int32)] [(.ref a0)])) _
    refine XS.iloadN X422.here hx rfl (hb hby d1_53) rfl ?_
    exact k
  have F427 := (F423.wr W422)
  have F428 := ((F420.ext E418).other W422 (Ne.symm ne_a0_b356))
  have F429 := ((Vw414.ext E418).other W422 (Ne.symm ne_a0_b362))
  have F430 := (V418.other W422 (Ne.symm ne_a0_b418))
  obtain ⟨T426, h426, k426, X426, e426, E426, A426, st426⟩ := newP X422 hx hZ (own_h hw 10 rfl) e422 (g := (mkF m 54 #[rv a0, iv (4:Int32), iv (4:Int32)] [(.int (4:Int32)), (.ref a0)])) rfl (hb hby d1_54) rfl (by decide) (cap := 4) (by decide) (by decide) (by decide) (by decide)
  obtain ⟨b426, g426⟩ : ∃ z, z = h422.size := ⟨_, rfl⟩
  rw [← g426] at A426 st426
  have ge_b426 : n0 ≤ b426 := Nat.le_trans Z425 (Nat.le_of_eq g426.symm)
  have sz_b426 : h0.size ≤ b426 := Nat.le_trans Kp422.1 (Nat.le_of_eq g426.symm)
  have ne_a0_b426 : a0 ≠ b426 := Nat.ne_of_lt (Nat.lt_of_lt_of_le F427.lt (Nat.le_of_eq g426.symm))
  have ne_b356_b426 : b356 ≠ b426 := Nat.ne_of_lt (Nat.lt_of_lt_of_le F428.lt (Nat.le_of_eq g426.symm))
  have ne_b362_b426 : b362 ≠ b426 := Nat.ne_of_lt (Nat.lt_of_lt_of_le F429.lt (Nat.le_of_eq g426.symm))
  have ne_b418_b426 : b418 ≠ b426 := Nat.ne_of_lt (Nat.lt_of_lt_of_le F430.lt (Nat.le_of_eq g426.symm))
  have Kp426 : Keep h0 h426 [a0] := Kp422.ext E426
  have Z431 : n0 ≤ h426.size := Nat.le_trans Z425 E426.1
  have V426 : own_Ints Z h426 b426 [(0:Int32), (0:Int32), (0:Int32), (0:Int32)] := own_newI A426 (by decide)
  refine own_pre st426 ?_
  have F433 := (F427.ext E426)
  have F434 := (((((((((((((((P4.ext E356).other W358 (Or.inr (slot_ne (Or.inr (own_h hw 18 rfl)) (Or.inr (own_h hw 12 rfl)) (by decide) (t := (.array .int)) (t' := (.array .int)) (by decide) (by decide)))).ext E362).other W366 (Or.inr (slot_ne (Or.inr (own_h hw 18 rfl)) (Or.inr (own_h hw 14 rfl)) (by decide) (t := (.array .int)) (t' := (.array .int)) (by decide) (by decide)))).other W372 (Or.inl ne_a0_b356)).other W378 (Or.inl ne_a0_b362)).other W384 (Or.inl ne_a0_b356)).other W390 (Or.inl ne_a0_b362)).other W396 (Or.inl ne_a0_b356)).other W402 (Or.inl ne_a0_b362)).other W408 (Or.inl ne_a0_b356)).other W414 (Or.inl ne_a0_b362)).ext E418).other W422 (Or.inr (slot_ne (Or.inr (own_h hw 18 rfl)) (Or.inr (own_h hw 16 rfl)) (by decide) (t := (.array .int)) (t' := (.array .int)) (by decide) (by decide)))).ext E426)
  obtain ⟨T432, h432, X432, e432, W432, st432⟩ := putF X426 hx hZ hown (host := "") (Or.inl (own_h hw 17 rfl)) Via.refl e426 F434 F433 (Or.inr ⟨(own_h hw 18 rfl), rfl, hnm⟩) (own_h hw 2 rfl) (ty := (.array .int)) (by decide) rfl rfl (g := (mkF m 56 #[rv a0, iv (4:Int32), iv (4:Int32)] [(.ref b426), (.ref a0)])) rfl rfl (hb hby d1_56)
  have Kp432 : Keep h0 h432 [a0] := Kp426.wr W432 (Or.inl (List.mem_of_getElem? (i := 0) rfl))
  have Z435 : n0 ≤ h432.size := Nat.le_trans Z431 (Nat.le_of_eq W432.size.symm)
  have N432 := Fr.snoc X432 N422 gq_a0
  have Fw432 := F434.same W432
  refine own_pre st432 ?_
  refine own_pre (A := T432.setTop (mkF m 61 #[rv a0, iv (4:Int32), iv (4:Int32)] [(.int (4:Int32)), (.ref a0)])) (fun t k => ?_) ?_
  · show Steps p.tables e below (T432.setTop (mkF m 59 #[rv a0, iv (4:Int32), iv (4:Int32)] [])) _
    refine XS.aloadN X432.here hx rfl (hb hby d1_59) rfl rfl ?_
    show Steps p.tables e below (T432.setTop (mkF m 60 #[rv a0, iv (4:Int32), iv (4:Int32)] [(.ref a0)])) _
    refine XS.iloadN X432.here hx rfl (hb hby d1_60) rfl ?_
    exact k
  have F437 := (F433.wr W432)
  have F438 := ((F428.ext E426).other W432 (Ne.symm ne_a0_b356))
  have F439 := ((F429.ext E426).other W432 (Ne.symm ne_a0_b362))
  have F440 := ((F430.ext E426).other W432 (Ne.symm ne_a0_b418))
  have F441 := (V426.other W432 (Ne.symm ne_a0_b426))
  obtain ⟨T436, h436, k436, X436, e436, E436, A436, st436⟩ := newP X432 hx hZ (own_h hw 10 rfl) e432 (g := (mkF m 61 #[rv a0, iv (4:Int32), iv (4:Int32)] [(.int (4:Int32)), (.ref a0)])) rfl (hb hby d1_61) rfl (by decide) (cap := 4) (by decide) (by decide) (by decide) (by decide)
  obtain ⟨b436, g436⟩ : ∃ z, z = h432.size := ⟨_, rfl⟩
  rw [← g436] at A436 st436
  have ge_b436 : n0 ≤ b436 := Nat.le_trans Z435 (Nat.le_of_eq g436.symm)
  have sz_b436 : h0.size ≤ b436 := Nat.le_trans Kp432.1 (Nat.le_of_eq g436.symm)
  have ne_a0_b436 : a0 ≠ b436 := Nat.ne_of_lt (Nat.lt_of_lt_of_le F437.lt (Nat.le_of_eq g436.symm))
  have ne_b356_b436 : b356 ≠ b436 := Nat.ne_of_lt (Nat.lt_of_lt_of_le F438.lt (Nat.le_of_eq g436.symm))
  have ne_b362_b436 : b362 ≠ b436 := Nat.ne_of_lt (Nat.lt_of_lt_of_le F439.lt (Nat.le_of_eq g436.symm))
  have ne_b418_b436 : b418 ≠ b436 := Nat.ne_of_lt (Nat.lt_of_lt_of_le F440.lt (Nat.le_of_eq g436.symm))
  have ne_b426_b436 : b426 ≠ b436 := Nat.ne_of_lt (Nat.lt_of_lt_of_le F441.lt (Nat.le_of_eq g436.symm))
  have Kp436 : Keep h0 h436 [a0] := Kp432.ext E436
  have Z442 : n0 ≤ h436.size := Nat.le_trans Z435 E436.1
  have V436 : own_Ints Z h436 b436 [(0:Int32), (0:Int32), (0:Int32), (0:Int32)] := own_newI A436 (by decide)
  refine own_pre st436 ?_
  have F444 := (F437.ext E436)
  have F445 := (((((((((((((((((P5.ext E356).other W358 (Or.inr (slot_ne (Or.inr (own_h hw 20 rfl)) (Or.inr (own_h hw 12 rfl)) (by decide) (t := (.array .int)) (t' := (.array .int)) (by decide) (by decide)))).ext E362).other W366 (Or.inr (slot_ne (Or.inr (own_h hw 20 rfl)) (Or.inr (own_h hw 14 rfl)) (by decide) (t := (.array .int)) (t' := (.array .int)) (by decide) (by decide)))).other W372 (Or.inl ne_a0_b356)).other W378 (Or.inl ne_a0_b362)).other W384 (Or.inl ne_a0_b356)).other W390 (Or.inl ne_a0_b362)).other W396 (Or.inl ne_a0_b356)).other W402 (Or.inl ne_a0_b362)).other W408 (Or.inl ne_a0_b356)).other W414 (Or.inl ne_a0_b362)).ext E418).other W422 (Or.inr (slot_ne (Or.inr (own_h hw 20 rfl)) (Or.inr (own_h hw 16 rfl)) (by decide) (t := (.array .int)) (t' := (.array .int)) (by decide) (by decide)))).ext E426).other W432 (Or.inr (slot_ne (Or.inr (own_h hw 20 rfl)) (Or.inr (own_h hw 18 rfl)) (by decide) (t := (.array .int)) (t' := (.array .int)) (by decide) (by decide)))).ext E436)
  obtain ⟨T443, h443, X443, e443, W443, st443⟩ := putF X436 hx hZ hown (host := "") (Or.inl (own_h hw 19 rfl)) Via.refl e436 F445 F444 (Or.inr ⟨(own_h hw 20 rfl), rfl, hnm⟩) (own_h hw 2 rfl) (ty := (.array .int)) (by decide) rfl rfl (g := (mkF m 63 #[rv a0, iv (4:Int32), iv (4:Int32)] [(.ref b436), (.ref a0)])) rfl rfl (hb hby d1_63)
  have Kp443 : Keep h0 h443 [a0] := Kp436.wr W443 (Or.inl (List.mem_of_getElem? (i := 0) rfl))
  have Z446 : n0 ≤ h443.size := Nat.le_trans Z442 (Nat.le_of_eq W443.size.symm)
  have N443 := Fr.snoc X443 N432 gq_a0
  have Fw443 := F445.same W443
  refine own_pre st443 ?_
  refine own_pre (A := T443.setTop (mkF m 68 #[rv a0, iv (4:Int32), iv (4:Int32)] [(.int (4:Int32)), (.ref a0)])) (fun t k => ?_) ?_
  · show Steps p.tables e below (T443.setTop (mkF m 66 #[rv a0, iv (4:Int32), iv (4:Int32)] [])) _
    refine XS.aloadN X443.here hx rfl (hb hby d1_66) rfl rfl ?_
    show Steps p.tables e below (T443.setTop (mkF m 67 #[rv a0, iv (4:Int32), iv (4:Int32)] [(.ref a0)])) _
    refine XS.iloadN X443.here hx rfl (hb hby d1_67) rfl ?_
    exact k
  have F448 := (F444.wr W443)
  have F449 := ((F438.ext E436).other W443 (Ne.symm ne_a0_b356))
  have F450 := ((F439.ext E436).other W443 (Ne.symm ne_a0_b362))
  have F451 := ((F440.ext E436).other W443 (Ne.symm ne_a0_b418))
  have F452 := ((F441.ext E436).other W443 (Ne.symm ne_a0_b426))
  have F453 := (V436.other W443 (Ne.symm ne_a0_b436))
  obtain ⟨T447, h447, k447, X447, e447, E447, A447, st447⟩ := newP X443 hx hZ (own_h hw 10 rfl) e443 (g := (mkF m 68 #[rv a0, iv (4:Int32), iv (4:Int32)] [(.int (4:Int32)), (.ref a0)])) rfl (hb hby d1_68) rfl (by decide) (cap := 4) (by decide) (by decide) (by decide) (by decide)
  obtain ⟨b447, g447⟩ : ∃ z, z = h443.size := ⟨_, rfl⟩
  rw [← g447] at A447 st447
  have ge_b447 : n0 ≤ b447 := Nat.le_trans Z446 (Nat.le_of_eq g447.symm)
  have sz_b447 : h0.size ≤ b447 := Nat.le_trans Kp443.1 (Nat.le_of_eq g447.symm)
  have ne_a0_b447 : a0 ≠ b447 := Nat.ne_of_lt (Nat.lt_of_lt_of_le F448.lt (Nat.le_of_eq g447.symm))
  have ne_b356_b447 : b356 ≠ b447 := Nat.ne_of_lt (Nat.lt_of_lt_of_le F449.lt (Nat.le_of_eq g447.symm))
  have ne_b362_b447 : b362 ≠ b447 := Nat.ne_of_lt (Nat.lt_of_lt_of_le F450.lt (Nat.le_of_eq g447.symm))
  have ne_b418_b447 : b418 ≠ b447 := Nat.ne_of_lt (Nat.lt_of_lt_of_le F451.lt (Nat.le_of_eq g447.symm))
  have ne_b426_b447 : b426 ≠ b447 := Nat.ne_of_lt (Nat.lt_of_lt_of_le F452.lt (Nat.le_of_eq g447.symm))
  have ne_b436_b447 : b436 ≠ b447 := Nat.ne_of_lt (Nat.lt_of_lt_of_le F453.lt (Nat.le_of_eq g447.symm))
  have Kp447 : Keep h0 h447 [a0] := Kp443.ext E447
  have Z454 : n0 ≤ h447.size := Nat.le_trans Z446 E447.1
  have V447 : own_Ints Z h447 b447 [(0:Int32), (0:Int32), (0:Int32), (0:Int32)] := own_newI A447 (by decide)
  refine own_pre st447 ?_
  have F456 := (F448.ext E447)
  have F457 := (((((((((((((((((((P6.ext E356).other W358 (Or.inr (slot_ne (Or.inr (own_h hw 22 rfl)) (Or.inr (own_h hw 12 rfl)) (by decide) (t := (.array .int)) (t' := (.array .int)) (by decide) (by decide)))).ext E362).other W366 (Or.inr (slot_ne (Or.inr (own_h hw 22 rfl)) (Or.inr (own_h hw 14 rfl)) (by decide) (t := (.array .int)) (t' := (.array .int)) (by decide) (by decide)))).other W372 (Or.inl ne_a0_b356)).other W378 (Or.inl ne_a0_b362)).other W384 (Or.inl ne_a0_b356)).other W390 (Or.inl ne_a0_b362)).other W396 (Or.inl ne_a0_b356)).other W402 (Or.inl ne_a0_b362)).other W408 (Or.inl ne_a0_b356)).other W414 (Or.inl ne_a0_b362)).ext E418).other W422 (Or.inr (slot_ne (Or.inr (own_h hw 22 rfl)) (Or.inr (own_h hw 16 rfl)) (by decide) (t := (.array .int)) (t' := (.array .int)) (by decide) (by decide)))).ext E426).other W432 (Or.inr (slot_ne (Or.inr (own_h hw 22 rfl)) (Or.inr (own_h hw 18 rfl)) (by decide) (t := (.array .int)) (t' := (.array .int)) (by decide) (by decide)))).ext E436).other W443 (Or.inr (slot_ne (Or.inr (own_h hw 22 rfl)) (Or.inr (own_h hw 20 rfl)) (by decide) (t := (.array .int)) (t' := (.array .int)) (by decide) (by decide)))).ext E447)
  obtain ⟨T455, h455, X455, e455, W455, st455⟩ := putF X447 hx hZ hown (host := "") (Or.inl (own_h hw 21 rfl)) Via.refl e447 F457 F456 (Or.inr ⟨(own_h hw 22 rfl), rfl, hnm⟩) (own_h hw 2 rfl) (ty := (.array .int)) (by decide) rfl rfl (g := (mkF m 70 #[rv a0, iv (4:Int32), iv (4:Int32)] [(.ref b447), (.ref a0)])) rfl rfl (hb hby d1_70)
  have Kp455 : Keep h0 h455 [a0] := Kp447.wr W455 (Or.inl (List.mem_of_getElem? (i := 0) rfl))
  have Z458 : n0 ≤ h455.size := Nat.le_trans Z454 (Nat.le_of_eq W455.size.symm)
  have N455 := Fr.snoc X455 N443 gq_a0
  have Fw455 := F457.same W455
  refine own_pre st455 ?_
  refine own_pre (A := T455.setTop (mkF m 75 #[rv a0, iv (4:Int32), iv (4:Int32)] [(.int (4:Int32)), (.ref a0)])) (fun t k => ?_) ?_
  · show Steps p.tables e below (T455.setTop (mkF m 73 #[rv a0, iv (4:Int32), iv (4:Int32)] [])) _
    refine XS.aloadN X455.here hx rfl (hb hby d1_73) rfl rfl ?_
    show Steps p.tables e below (T455.setTop (mkF m 74 #[rv a0, iv (4:Int32), iv (4:Int32)] [(.ref a0)])) _
    refine XS.iloadN X455.here hx rfl (hb hby d1_74) rfl ?_
    exact k
  have F460 := (F456.wr W455)
  have F461 := ((F449.ext E447).other W455 (Ne.symm ne_a0_b356))
  have F462 := ((F450.ext E447).other W455 (Ne.symm ne_a0_b362))
  have F463 := ((F451.ext E447).other W455 (Ne.symm ne_a0_b418))
  have F464 := ((F452.ext E447).other W455 (Ne.symm ne_a0_b426))
  have F465 := ((F453.ext E447).other W455 (Ne.symm ne_a0_b436))
  have F466 := (V447.other W455 (Ne.symm ne_a0_b447))
  obtain ⟨T459, h459, k459, X459, e459, E459, A459, st459⟩ := newP X455 hx hZ (own_h hw 10 rfl) e455 (g := (mkF m 75 #[rv a0, iv (4:Int32), iv (4:Int32)] [(.int (4:Int32)), (.ref a0)])) rfl (hb hby d1_75) rfl (by decide) (cap := 4) (by decide) (by decide) (by decide) (by decide)
  obtain ⟨b459, g459⟩ : ∃ z, z = h455.size := ⟨_, rfl⟩
  rw [← g459] at A459 st459
  have ge_b459 : n0 ≤ b459 := Nat.le_trans Z458 (Nat.le_of_eq g459.symm)
  have sz_b459 : h0.size ≤ b459 := Nat.le_trans Kp455.1 (Nat.le_of_eq g459.symm)
  have ne_a0_b459 : a0 ≠ b459 := Nat.ne_of_lt (Nat.lt_of_lt_of_le F460.lt (Nat.le_of_eq g459.symm))
  have ne_b356_b459 : b356 ≠ b459 := Nat.ne_of_lt (Nat.lt_of_lt_of_le F461.lt (Nat.le_of_eq g459.symm))
  have ne_b362_b459 : b362 ≠ b459 := Nat.ne_of_lt (Nat.lt_of_lt_of_le F462.lt (Nat.le_of_eq g459.symm))
  have ne_b418_b459 : b418 ≠ b459 := Nat.ne_of_lt (Nat.lt_of_lt_of_le F463.lt (Nat.le_of_eq g459.symm))
  have ne_b426_b459 : b426 ≠ b459 := Nat.ne_of_lt (Nat.lt_of_lt_of_le F464.lt (Nat.le_of_eq g459.symm))
  have ne_b436_b459 : b436 ≠ b459 := Nat.ne_of_lt (Nat.lt_of_lt_of_le F465.lt (Nat.le_of_eq g459.symm))
  have ne_b447_b459 : b447 ≠ b459 := Nat.ne_of_lt (Nat.lt_of_lt_of_le F466.lt (Nat.le_of_eq g459.symm))
  have Kp459 : Keep h0 h459 [a0] := Kp455.ext E459
  have Z467 : n0 ≤ h459.size := Nat.le_trans Z458 E459.1
  have V459 : own_Ints Z h459 b459 [(0:Int32), (0:Int32), (0:Int32), (0:Int32)] := own_newI A459 (by decide)
  refine own_pre st459 ?_
  have F469 := (F460.ext E459)
  have F470 := (((((((((((((((((((((P7.ext E356).other W358 (Or.inr (slot_ne (Or.inr (own_h hw 24 rfl)) (Or.inr (own_h hw 12 rfl)) (by decide) (t := (.array .int)) (t' := (.array .int)) (by decide) (by decide)))).ext E362).other W366 (Or.inr (slot_ne (Or.inr (own_h hw 24 rfl)) (Or.inr (own_h hw 14 rfl)) (by decide) (t := (.array .int)) (t' := (.array .int)) (by decide) (by decide)))).other W372 (Or.inl ne_a0_b356)).other W378 (Or.inl ne_a0_b362)).other W384 (Or.inl ne_a0_b356)).other W390 (Or.inl ne_a0_b362)).other W396 (Or.inl ne_a0_b356)).other W402 (Or.inl ne_a0_b362)).other W408 (Or.inl ne_a0_b356)).other W414 (Or.inl ne_a0_b362)).ext E418).other W422 (Or.inr (slot_ne (Or.inr (own_h hw 24 rfl)) (Or.inr (own_h hw 16 rfl)) (by decide) (t := (.array .int)) (t' := (.array .int)) (by decide) (by decide)))).ext E426).other W432 (Or.inr (slot_ne (Or.inr (own_h hw 24 rfl)) (Or.inr (own_h hw 18 rfl)) (by decide) (t := (.array .int)) (t' := (.array .int)) (by decide) (by decide)))).ext E436).other W443 (Or.inr (slot_ne (Or.inr (own_h hw 24 rfl)) (Or.inr (own_h hw 20 rfl)) (by decide) (t := (.array .int)) (t' := (.array .int)) (by decide) (by decide)))).ext E447).other W455 (Or.inr (slot_ne (Or.inr (own_h hw 24 rfl)) (Or.inr (own_h hw 22 rfl)) (by decide) (t := (.array .int)) (t' := (.array .int)) (by decide) (by decide)))).ext E459)
  obtain ⟨T468, h468, X468, e468, W468, st468⟩ := putF X459 hx hZ hown (host := "") (Or.inl (own_h hw 23 rfl)) Via.refl e459 F470 F469 (Or.inr ⟨(own_h hw 24 rfl), rfl, hnm⟩) (own_h hw 2 rfl) (ty := (.array .int)) (by decide) rfl rfl (g := (mkF m 77 #[rv a0, iv (4:Int32), iv (4:Int32)] [(.ref b459), (.ref a0)])) rfl rfl (hb hby d1_77)
  have Kp468 : Keep h0 h468 [a0] := Kp459.wr W468 (Or.inl (List.mem_of_getElem? (i := 0) rfl))
  have Z471 : n0 ≤ h468.size := Nat.le_trans Z467 (Nat.le_of_eq W468.size.symm)
  have N468 := Fr.snoc X468 N455 gq_a0
  have Fw468 := F470.same W468
  refine own_pre st468 ?_
  refine own_pre (A := T468.setTop (mkF m 81 #[rv a0, iv (4:Int32), iv (4:Int32)] [(.ref a0)])) (fun t k => ?_) ?_
  · show Steps p.tables e below (T468.setTop (mkF m 80 #[rv a0, iv (4:Int32), iv (4:Int32)] [])) _
    refine XS.aloadN X468.here hx rfl (hb hby d1_80) rfl rfl ?_
    exact k
  have F473 := ((((Fw443.ext E447).other W455 (Or.inr (slot_ne (Or.inr (own_h hw 20 rfl)) (Or.inr (own_h hw 22 rfl)) (by decide) (t := (.array .int)) (t' := (.array .int)) (by decide) (by decide)))).ext E459).other W468 (Or.inr (slot_ne (Or.inr (own_h hw 20 rfl)) (Or.inr (own_h hw 24 rfl)) (by decide) (t := (.array .int)) (t' := (.array .int)) (by decide) (by decide))))
  obtain ⟨T472, X472, e472, st472⟩ := getF X468 hx hZ hown (host := "") (Or.inl (own_h hw 19 rfl)) Via.refl e468 F473 (g := (mkF m 81 #[rv a0, iv (4:Int32), iv (4:Int32)] [(.ref a0)])) rfl rfl (hb hby d1_81)
  refine own_pre st472 ?_
  refine own_pre (A := T472.setTop (mkF m 86 #[rv a0, iv (4:Int32), iv (4:Int32)] [(.int (4:Int32)), (.int (0:Int32)), (.ref b436)])) (fun t k => ?_) ?_
  · show Steps p.tables e below (T472.setTop (mkF m 84 #[rv a0, iv (4:Int32), iv (4:Int32)] [(.ref b436)])) _
    refine XS.iconst X472.here hx rfl (hb hby d1_84) ?_
    show Steps p.tables e below (T472.setTop (mkF m 85 #[rv a0, iv (4:Int32), iv (4:Int32)] [(.int (0:Int32)), (.ref b436)])) _
    refine XS.iloadN X472.here hx rfl (hb hby d1_85) rfl ?_
    exact k
  have F475 := ((F465.ext E459).other W468 (Ne.symm ne_a0_b436))
  have hbn476 : own_In (0:Int32) [(0:Int32), (0:Int32), (0:Int32), (0:Int32)].length := own_lit rfl
  obtain ⟨T474, h474, X474, e474, W474, V474, st474⟩ := own_iastore X472 hx hZ e472 F475 (j := (0:Int32)) (x := (4:Int32)) hbn476 (g := (mkF m 86 #[rv a0, iv (4:Int32), iv (4:Int32)] [(.int (4:Int32)), (.int (0:Int32)), (.ref b436)])) rfl rfl (hb hby d1_86)
  have Kp474 : Keep h0 h474 [a0] := Kp468.wr W474 (Or.inr sz_b436)
  have Z477 : n0 ≤ h474.size := Nat.le_trans Z471 (Nat.le_of_eq W474.size.symm)
  have N474 := Fr.snoc X474 N468 ge_b436
  have Vw474 : own_Ints Z h474 b436 [(4:Int32), (0:Int32), (0:Int32), (0:Int32)] := V474
  refine own_pre st474 ?_
  refine own_pre (A := T474.setTop (mkF m 89 #[rv a0, iv (4:Int32), iv (4:Int32)] [(.int (1:Int32)), (.ref a0)])) (fun t k => ?_) ?_
  · show Steps p.tables e below (T474.setTop (mkF m 87 #[rv a0, iv (4:Int32), iv (4:Int32)] [])) _
    refine XS.aloadN X474.here hx rfl (hb hby d1_87) rfl rfl ?_
    show Steps p.tables e below (T474.setTop (mkF m 88 #[rv a0, iv (4:Int32), iv (4:Int32)] [(.ref a0)])) _
    refine XS.iconst X474.here hx rfl (hb hby d1_88) ?_
    exact k
  have F479 := ((F469.wr W468).wr W474)
  have F480 := (((((((((((((((((((((((P8.ext E356).other W358 (Or.inr (slot_ne (Or.inl (own_h hw 26 rfl)) (Or.inr (own_h hw 12 rfl)) (by decide) (t := .int) (t' := (.array .int)) (by decide) (by decide)))).ext E362).other W366 (Or.inr (slot_ne (Or.inl (own_h hw 26 rfl)) (Or.inr (own_h hw 14 rfl)) (by decide) (t := .int) (t' := (.array .int)) (by decide) (by decide)))).other W372 (Or.inl ne_a0_b356)).other W378 (Or.inl ne_a0_b362)).other W384 (Or.inl ne_a0_b356)).other W390 (Or.inl ne_a0_b362)).other W396 (Or.inl ne_a0_b356)).other W402 (Or.inl ne_a0_b362)).other W408 (Or.inl ne_a0_b356)).other W414 (Or.inl ne_a0_b362)).ext E418).other W422 (Or.inr (slot_ne (Or.inl (own_h hw 26 rfl)) (Or.inr (own_h hw 16 rfl)) (by decide) (t := .int) (t' := (.array .int)) (by decide) (by decide)))).ext E426).other W432 (Or.inr (slot_ne (Or.inl (own_h hw 26 rfl)) (Or.inr (own_h hw 18 rfl)) (by decide) (t := .int) (t' := (.array .int)) (by decide) (by decide)))).ext E436).other W443 (Or.inr (slot_ne (Or.inl (own_h hw 26 rfl)) (Or.inr (own_h hw 20 rfl)) (by decide) (t := .int) (t' := (.array .int)) (by decide) (by decide)))).ext E447).other W455 (Or.inr (slot_ne (Or.inl (own_h hw 26 rfl)) (Or.inr (own_h hw 22 rfl)) (by decide) (t := .int) (t' := (.array .int)) (by decide) (by decide)))).ext E459).other W468 (Or.inr (slot_ne (Or.inl (own_h hw 26 rfl)) (Or.inr (own_h hw 24 rfl)) (by decide) (t := .int) (t' := (.array .int)) (by decide) (by decide)))).other W474 (Or.inl ne_a0_b436))
  obtain ⟨T478, h478, X478, e478, W478, st478⟩ := putF X474 hx hZ hown (host := "") (Or.inl (own_h hw 25 rfl)) Via.refl e474 F480 F479 (Or.inl (own_h hw 26 rfl)) (own_h hw 2 rfl) (ty := .int) (by decide) rfl rfl (g := (mkF m 89 #[rv a0, iv (4:Int32), iv (4:Int32)] [(.int (1:Int32)), (.ref a0)])) rfl rfl (hb hby d1_89)
  have Kp478 : Keep h0 h478 [a0] := Kp474.wr W478 (Or.inl (List.mem_of_getElem? (i := 0) rfl))
  have Z481 : n0 ≤ h478.size := Nat.le_trans Z477 (Nat.le_of_eq W478.size.symm)
  have N478 := Fr.snoc X478 N474 gq_a0
  have Fw478 := F480.same W478
  refine own_pre st478 ?_
  have F482 := ((((((((((((((F407.other W408 (Or.inl ne_a0_b356)).other W414 (Or.inl ne_a0_b362)).ext E418).other W422 (Or.inr (slot_ne (Or.inr (own_h hw 12 rfl)) (Or.inr (own_h hw 16 rfl)) (by decide) (t := (.array .int)) (t' := (.array .int)) (by decide) (by decide)))).ext E426).other W432 (Or.inr (slot_ne (Or.inr (own_h hw 12 rfl)) (Or.inr (own_h hw 18 rfl)) (by decide) (t := (.array .int)) (t' := (.array .int)) (by decide) (by decide)))).ext E436).other W443 (Or.inr (slot_ne (Or.inr (own_h hw 12 rfl)) (Or.inr (own_h hw 20 rfl)) (by decide) (t := (.array .int)) (t' := (.array .int)) (by decide) (by decide)))).ext E447).other W455 (Or.inr (slot_ne (Or.inr (own_h hw 12 rfl)) (Or.inr (own_h hw 22 rfl)) (by decide) (t := (.array .int)) (t' := (.array .int)) (by decide) (by decide)))).ext E459).other W468 (Or.inr (slot_ne (Or.inr (own_h hw 12 rfl)) (Or.inr (own_h hw 24 rfl)) (by decide) (t := (.array .int)) (t' := (.array .int)) (by decide) (by decide)))).other W474 (Or.inl ne_a0_b436)).other W478 (Or.inr (slot_ne (Or.inr (own_h hw 12 rfl)) (Or.inl (own_h hw 26 rfl)) (by decide) (t := (.array .int)) (t' := .int) (by decide) (by decide))))
  have F483 := (((((((((((((F413.other W414 (Or.inl ne_a0_b362)).ext E418).other W422 (Or.inr (slot_ne (Or.inr (own_h hw 14 rfl)) (Or.inr (own_h hw 16 rfl)) (by decide) (t := (.array .int)) (t' := (.array .int)) (by decide) (by decide)))).ext E426).other W432 (Or.inr (slot_ne (Or.inr (own_h hw 14 rfl)) (Or.inr (own_h hw 18 rfl)) (by decide) (t := (.array .int)) (t' := (.array .int)) (by decide) (by decide)))).ext E436).other W443 (Or.inr (slot_ne (Or.inr (own_h hw 14 rfl)) (Or.inr (own_h hw 20 rfl)) (by decide) (t := (.array .int)) (t' := (.array .int)) (by decide) (by decide)))).ext E447).other W455 (Or.inr (slot_ne (Or.inr (own_h hw 14 rfl)) (Or.inr (own_h hw 22 rfl)) (by decide) (t := (.array .int)) (t' := (.array .int)) (by decide) (by decide)))).ext E459).other W468 (Or.inr (slot_ne (Or.inr (own_h hw 14 rfl)) (Or.inr (own_h hw 24 rfl)) (by decide) (t := (.array .int)) (t' := (.array .int)) (by decide) (by decide)))).other W474 (Or.inl ne_a0_b436)).other W478 (Or.inr (slot_ne (Or.inr (own_h hw 14 rfl)) (Or.inl (own_h hw 26 rfl)) (by decide) (t := (.array .int)) (t' := .int) (by decide) (by decide))))
  have F484 := ((((((((((Fw422.ext E426).other W432 (Or.inr (slot_ne (Or.inr (own_h hw 16 rfl)) (Or.inr (own_h hw 18 rfl)) (by decide) (t := (.array .int)) (t' := (.array .int)) (by decide) (by decide)))).ext E436).other W443 (Or.inr (slot_ne (Or.inr (own_h hw 16 rfl)) (Or.inr (own_h hw 20 rfl)) (by decide) (t := (.array .int)) (t' := (.array .int)) (by decide) (by decide)))).ext E447).other W455 (Or.inr (slot_ne (Or.inr (own_h hw 16 rfl)) (Or.inr (own_h hw 22 rfl)) (by decide) (t := (.array .int)) (t' := (.array .int)) (by decide) (by decide)))).ext E459).other W468 (Or.inr (slot_ne (Or.inr (own_h hw 16 rfl)) (Or.inr (own_h hw 24 rfl)) (by decide) (t := (.array .int)) (t' := (.array .int)) (by decide) (by decide)))).other W474 (Or.inl ne_a0_b436)).other W478 (Or.inr (slot_ne (Or.inr (own_h hw 16 rfl)) (Or.inl (own_h hw 26 rfl)) (by decide) (t := (.array .int)) (t' := .int) (by decide) (by decide))))
  have F485 := ((((((((Fw432.ext E436).other W443 (Or.inr (slot_ne (Or.inr (own_h hw 18 rfl)) (Or.inr (own_h hw 20 rfl)) (by decide) (t := (.array .int)) (t' := (.array .int)) (by decide) (by decide)))).ext E447).other W455 (Or.inr (slot_ne (Or.inr (own_h hw 18 rfl)) (Or.inr (own_h hw 22 rfl)) (by decide) (t := (.array .int)) (t' := (.array .int)) (by decide) (by decide)))).ext E459).other W468 (Or.inr (slot_ne (Or.inr (own_h hw 18 rfl)) (Or.inr (own_h hw 24 rfl)) (by decide) (t := (.array .int)) (t' := (.array .int)) (by decide) (by decide)))).other W474 (Or.inl ne_a0_b436)).other W478 (Or.inr (slot_ne (Or.inr (own_h hw 18 rfl)) (Or.inl (own_h hw 26 rfl)) (by decide) (t := (.array .int)) (t' := .int) (by decide) (by decide))))
  have F486 := ((F473.other W474 (Or.inl ne_a0_b436)).other W478 (Or.inr (slot_ne (Or.inr (own_h hw 20 rfl)) (Or.inl (own_h hw 26 rfl)) (by decide) (t := (.array .int)) (t' := .int) (by decide) (by decide))))
  have F487 := ((((Fw455.ext E459).other W468 (Or.inr (slot_ne (Or.inr (own_h hw 22 rfl)) (Or.inr (own_h hw 24 rfl)) (by decide) (t := (.array .int)) (t' := (.array .int)) (by decide) (by decide)))).other W474 (Or.inl ne_a0_b436)).other W478 (Or.inr (slot_ne (Or.inr (own_h hw 22 rfl)) (Or.inl (own_h hw 26 rfl)) (by decide) (t := (.array .int)) (t' := .int) (by decide) (by decide))))
  have F488 := ((Fw468.other W474 (Or.inl ne_a0_b436)).other W478 (Or.inr (slot_ne (Or.inr (own_h hw 24 rfl)) (Or.inl (own_h hw 26 rfl)) (by decide) (t := (.array .int)) (t' := .int) (by decide) (by decide))))
  have F489 := ((((((((((((((((((((((((P9.ext E356).other W358 (Or.inr (slot_ne (Or.inl (own_h hw 33 rfl)) (Or.inr (own_h hw 12 rfl)) (by decide) (t := .int) (t' := (.array .int)) (by decide) (by decide)))).ext E362).other W366 (Or.inr (slot_ne (Or.inl (own_h hw 33 rfl)) (Or.inr (own_h hw 14 rfl)) (by decide) (t := .int) (t' := (.array .int)) (by decide) (by decide)))).other W372 (Or.inl ne_a0_b356)).other W378 (Or.inl ne_a0_b362)).other W384 (Or.inl ne_a0_b356)).other W390 (Or.inl ne_a0_b362)).other W396 (Or.inl ne_a0_b356)).other W402 (Or.inl ne_a0_b362)).other W408 (Or.inl ne_a0_b356)).other W414 (Or.inl ne_a0_b362)).ext E418).other W422 (Or.inr (slot_ne (Or.inl (own_h hw 33 rfl)) (Or.inr (own_h hw 16 rfl)) (by decide) (t := .int) (t' := (.array .int)) (by decide) (by decide)))).ext E426).other W432 (Or.inr (slot_ne (Or.inl (own_h hw 33 rfl)) (Or.inr (own_h hw 18 rfl)) (by decide) (t := .int) (t' := (.array .int)) (by decide) (by decide)))).ext E436).other W443 (Or.inr (slot_ne (Or.inl (own_h hw 33 rfl)) (Or.inr (own_h hw 20 rfl)) (by decide) (t := .int) (t' := (.array .int)) (by decide) (by decide)))).ext E447).other W455 (Or.inr (slot_ne (Or.inl (own_h hw 33 rfl)) (Or.inr (own_h hw 22 rfl)) (by decide) (t := .int) (t' := (.array .int)) (by decide) (by decide)))).ext E459).other W468 (Or.inr (slot_ne (Or.inl (own_h hw 33 rfl)) (Or.inr (own_h hw 24 rfl)) (by decide) (t := .int) (t' := (.array .int)) (by decide) (by decide)))).other W474 (Or.inl ne_a0_b436)).other W478 (Or.inr (slot_ne (Or.inl (own_h hw 33 rfl)) (Or.inl (own_h hw 26 rfl)) (by decide) (t := .int) (t' := .int) (by decide) (by decide))))
  have F490 := ((((F461.ext E459).other W468 (Ne.symm ne_a0_b356)).other W474 ne_b356_b436).other W478 (Ne.symm ne_a0_b356))
  have F491 := ((((F462.ext E459).other W468 (Ne.symm ne_a0_b362)).other W474 ne_b362_b436).other W478 (Ne.symm ne_a0_b362))
  have F492 := ((((F463.ext E459).other W468 (Ne.symm ne_a0_b418)).other W474 ne_b418_b436).other W478 (Ne.symm ne_a0_b418))
  have F493 := ((((F464.ext E459).other W468 (Ne.symm ne_a0_b426)).other W474 ne_b426_b436).other W478 (Ne.symm ne_a0_b426))
  have F494 := (Vw474.other W478 (Ne.symm ne_a0_b436))
  have F495 := ((((F466.ext E459).other W468 (Ne.symm ne_a0_b447)).other W474 (Ne.symm ne_b436_b447)).other W478 (Ne.symm ne_a0_b447))
  have F496 := (((V459.other W468 (Ne.symm ne_a0_b459)).other W474 (Ne.symm ne_b436_b459)).other W478 (Ne.symm ne_a0_b459))
  exact own_end X478 (BodyLoose.notSynchronized Bd) (fun _ => rfl) (v := none) (fun fs hr => X478.returnOut hx Bd.returns (hb hby d1_92) hr) (by show Q1n4 Z a0 h0 n0 _ T478.heap _; rw [e478]; exact ⟨rfl, N478, Kp478, b356, b362, b418, b426, b436, b447, b459, sz_b356, sz_b362, sz_b418, sz_b426, sz_b436, sz_b447, sz_b459, ne_b356_b362, ne_b356_b418, ne_b356_b426, ne_b356_b436, ne_b356_b447, ne_b356_b459, ne_b362_b418, ne_b362_b426, ne_b362_b436, ne_b362_b447, ne_b362_b459, ne_b418_b426, ne_b418_b436, ne_b418_b447, ne_b418_b459, ne_b426_b436, ne_b426_b447, ne_b426_b459, ne_b436_b447, ne_b436_b459, ne_b447_b459, F482, F483, F484, F485, F486, F487, F488, Fw478, F489, F490, F491, F492, F493, F494, F495, F496⟩) (by decide) (by decide)
theorem d3_0 : decode prog_16_method_10_code 0 = .ok (.aload_n 0, 1) := by decide +kernel
theorem d3_1 : decode prog_16_method_10_code 1 = .ok (.getfield 16, 3) := by decide +kernel
theorem d3_4 : decode prog_16_method_10_code 4 = .ok (.iload_n 1, 1) := by decide +kernel
theorem d3_5 : decode prog_16_method_10_code 5 = .ok (.iaload, 1) := by decide +kernel
theorem d3_6 : decode prog_16_method_10_code 6 = .ok (.istore_n 2, 1) := by decide +kernel
theorem d3_7 : decode prog_16_method_10_code 7 = .ok (.aload_n 0, 1) := by decide +kernel
theorem d3_8 : decode prog_16_method_10_code 8 = .ok (.getfield 25, 3) := by decide +kernel
theorem d3_11 : decode prog_16_method_10_code 11 = .ok (.iload_n 2, 1) := by decide +kernel
theorem d3_12 : decode prog_16_method_10_code 12 = .ok (.iaload, 1) := by decide +kernel
theorem d3_13 : decode prog_16_method_10_code 13 = .ok (.istore_n 3, 1) := by decide +kernel
theorem d3_14 : decode prog_16_method_10_code 14 = .ok (.aload_n 0, 1) := by decide +kernel
theorem d3_15 : decode prog_16_method_10_code 15 = .ok (.getfield 13, 3) := by decide +kernel
theorem d3_18 : decode prog_16_method_10_code 18 = .ok (.iload_n 1, 1) := by decide +kernel
theorem d3_19 : decode prog_16_method_10_code 19 = .ok (.iaload, 1) := by decide +kernel
theorem d3_20 : decode prog_16_method_10_code 20 = .ok (.istore 4, 2) := by decide +kernel
theorem d3_22 : decode prog_16_method_10_code 22 = .ok (.iload 4, 2) := by decide +kernel
theorem d3_24 : decode prog_16_method_10_code 24 = .ok (.iload_n 3, 1) := by decide +kernel
theorem d3_25 : decode prog_16_method_10_code 25 = .ok (.if_icmp .lt 82, 3) := by decide +kernel
theorem d3_28 : decode prog_16_method_10_code 28 = .ok (.iload_n 3, 1) := by decide +kernel
theorem d3_29 : decode prog_16_method_10_code 29 = .ok (.aload_n 0, 1) := by decide +kernel
theorem d3_30 : decode prog_16_method_10_code 30 = .ok (.getfield 19, 3) := by decide +kernel
theorem d3_33 : decode prog_16_method_10_code 33 = .ok (.iload_n 2, 1) := by decide +kernel
theorem d3_34 : decode prog_16_method_10_code 34 = .ok (.iaload, 1) := by decide +kernel
theorem d3_35 : decode prog_16_method_10_code 35 = .ok (.if_icmp .ne 23, 3) := by decide +kernel
theorem d3_38 : decode prog_16_method_10_code 38 = .ok (.aload_n 0, 1) := by decide +kernel
theorem d3_39 : decode prog_16_method_10_code 39 = .ok (.getfield 28, 3) := by decide +kernel
theorem d3_42 : decode prog_16_method_10_code 42 = .ok (.aload_n 0, 1) := by decide +kernel
theorem d3_43 : decode prog_16_method_10_code 43 = .ok (.getfield 35, 3) := by decide +kernel
theorem d3_46 : decode prog_16_method_10_code 46 = .ok (.iload_n 2, 1) := by decide +kernel
theorem d3_47 : decode prog_16_method_10_code 47 = .ok (.iastore, 1) := by decide +kernel
theorem d3_48 : decode prog_16_method_10_code 48 = .ok (.aload_n 0, 1) := by decide +kernel
theorem d3_49 : decode prog_16_method_10_code 49 = .ok (.dup, 1) := by decide +kernel
theorem d3_50 : decode prog_16_method_10_code 50 = .ok (.getfield 35, 3) := by decide +kernel
theorem d3_53 : decode prog_16_method_10_code 53 = .ok (.iconst 1, 1) := by decide +kernel
theorem d3_54 : decode prog_16_method_10_code 54 = .ok (.iadd, 1) := by decide +kernel
theorem d3_55 : decode prog_16_method_10_code 55 = .ok (.putfield 35, 3) := by decide +kernel
theorem d3_58 : decode prog_16_method_10_code 58 = .ok (.aload_n 0, 1) := by decide +kernel
theorem d3_59 : decode prog_16_method_10_code 59 = .ok (.getfield 7, 3) := by decide +kernel
theorem d3_62 : decode prog_16_method_10_code 62 = .ok (.iload_n 3, 1) := by decide +kernel
theorem d3_63 : decode prog_16_method_10_code 63 = .ok (.iaload, 1) := by decide +kernel
theorem d3_64 : decode prog_16_method_10_code 64 = .ok (.istore 5, 2) := by decide +kernel
theorem d3_66 : decode prog_16_method_10_code 66 = .ok (.aload_n 0, 1) := by decide +kernel
theorem d3_67 : decode prog_16_method_10_code 67 = .ok (.getfield 7, 3) := by decide +kernel
theorem d3_70 : decode prog_16_method_10_code 70 = .ok (.iload_n 3, 1) := by decide +kernel
theorem d3_71 : decode prog_16_method_10_code 71 = .ok (.iload_n 1, 1) := by decide +kernel
theorem d3_72 : decode prog_16_method_10_code 72 = .ok (.iastore, 1) := by decide +kernel
theorem d3_73 : decode prog_16_method_10_code 73 = .ok (.aload_n 0, 1) := by decide +kernel
theorem d3_74 : decode prog_16_method_10_code 74 = .ok (.getfield 13, 3) := by decide +kernel
theorem d3_77 : decode prog_16_method_10_code 77 = .ok (.iload_n 1, 1) := by decide +kernel
theorem d3_78 : decode prog_16_method_10_code 78 = .ok (.iload_n 3, 1) := by decide +kernel
theorem d3_79 : decode prog_16_method_10_code 79 = .ok (.iastore, 1) := by decide +kernel
theorem d3_80 : decode prog_16_method_10_code 80 = .ok (.aload_n 0, 1) := by decide +kernel
theorem d3_81 : decode prog_16_method_10_code 81 = .ok (.getfield 7, 3) := by decide +kernel
theorem d3_84 : decode prog_16_method_10_code 84 = .ok (.iload 4, 2) := by decide +kernel
theorem d3_86 : decode prog_16_method_10_code 86 = .ok (.iload 5, 2) := by decide +kernel
theorem d3_88 : decode prog_16_method_10_code 88 = .ok (.iastore, 1) := by decide +kernel
theorem d3_89 : decode prog_16_method_10_code 89 = .ok (.aload_n 0, 1) := by decide +kernel
theorem d3_90 : decode prog_16_method_10_code 90 = .ok (.getfield 13, 3) := by decide +kernel
theorem d3_93 : decode prog_16_method_10_code 93 = .ok (.iload 5, 2) := by decide +kernel
theorem d3_95 : decode prog_16_method_10_code 95 = .ok (.iload 4, 2) := by decide +kernel
theorem d3_97 : decode prog_16_method_10_code 97 = .ok (.iastore, 1) := by decide +kernel
theorem d3_98 : decode prog_16_method_10_code 98 = .ok (.aload_n 0, 1) := by decide +kernel
theorem d3_99 : decode prog_16_method_10_code 99 = .ok (.getfield 25, 3) := by decide +kernel
theorem d3_102 : decode prog_16_method_10_code 102 = .ok (.iload_n 2, 1) := by decide +kernel
theorem d3_103 : decode prog_16_method_10_code 103 = .ok (.iload_n 3, 1) := by decide +kernel
theorem d3_104 : decode prog_16_method_10_code 104 = .ok (.iconst 1, 1) := by decide +kernel
theorem d3_105 : decode prog_16_method_10_code 105 = .ok (.iadd, 1) := by decide +kernel
theorem d3_106 : decode prog_16_method_10_code 106 = .ok (.iastore, 1) := by decide +kernel
theorem d3_107 : decode prog_16_method_10_code 107 = .ok (.return_, 1) := by decide +kernel
theorem ef3 (m : MethodId) (a0 : Addr) (p1 : Int32) : entryFrame m #[(.ref a0), (.int p1)] 6 = mkF m 0 #[rv a0, iv p1, .unset, .unset, .unset, .unset] [] := by first | (simp [entryFrame, mkF, argsToLocals, Value.category]; done) | rfl
def g3_tc (p1 : Int32) (el : List Int32) (po : List Int32) (bo : List Int32) (bs : List Int32) (bm : List Int32) (tb : List Int32) (bc : Int32) (tc : Int32) : Int32 := (if (own_at po p1) < (own_at bm (own_at bo p1)) then tc else (if (own_at bm (own_at bo p1)) = (own_at bs (own_at bo p1)) then (tc + (1:Int32)) else tc))
def g3_el (p1 : Int32) (el : List Int32) (po : List Int32) (bo : List Int32) (bs : List Int32) (bm : List Int32) (tb : List Int32) (bc : Int32) (tc : Int32) : List Int32 := (if (own_at po p1) < (own_at bm (own_at bo p1)) then el else ((el.set (own_at bm (own_at bo p1)).toNatClampNeg p1).set (own_at po p1).toNatClampNeg (own_at el (own_at bm (own_at bo p1)))))
def g3_po (p1 : Int32) (el : List Int32) (po : List Int32) (bo : List Int32) (bs : List Int32) (bm : List Int32) (tb : List Int32) (bc : Int32) (tc : Int32) : List Int32 := (if (own_at po p1) < (own_at bm (own_at bo p1)) then po else ((po.set p1.toNatClampNeg (own_at bm (own_at bo p1))).set (own_at el (own_at bm (own_at bo p1))).toNatClampNeg (own_at po p1)))
def g3_bm (p1 : Int32) (el : List Int32) (po : List Int32) (bo : List Int32) (bs : List Int32) (bm : List Int32) (tb : List Int32) (bc : Int32) (tc : Int32) : List Int32 := (if (own_at po p1) < (own_at bm (own_at bo p1)) then bm else (bm.set (own_at bo p1).toNatClampNeg ((own_at bm (own_at bo p1)) + (1:Int32))))
def g3_tb (p1 : Int32) (el : List Int32) (po : List Int32) (bo : List Int32) (bs : List Int32) (bm : List Int32) (tb : List Int32) (bc : Int32) (tc : Int32) : List Int32 := (if (own_at po p1) < (own_at bm (own_at bo p1)) then tb else (if (own_at bm (own_at bo p1)) = (own_at bs (own_at bo p1)) then (tb.set tc.toNatClampNeg (own_at bo p1)) else tb))
def Q3 (Z : State) (a0 : Addr) (p1 : Int32) (e1 : Addr) (e2 : Addr) (e3 : Addr) (e4 : Addr) (e5 : Addr) (e6 : Addr) (e7 : Addr) (el : List Int32) (po : List Int32) (bo : List Int32) (bs : List Int32) (bm : List Int32) (tb : List Int32) (bc : Int32) (tc : Int32) (h0 : Heap) (n0 : Nat) (v : Option Value) (h : Heap) (L : List Loc) : Prop := v = none ∧ Fr n0 L ∧ Keep h0 h [a0, e1, e2, e6, e7] ∧ Fld Z h a0 "com/example/spare_calculus/sparecalculus/bisim/Partition" "elements" "[I" (.ref e1) ∧ Fld Z h a0 "com/example/spare_calculus/sparecalculus/bisim/Partition" "positions" "[I" (.ref e2) ∧ Fld Z h a0 "com/example/spare_calculus/sparecalculus/bisim/Partition" "blockOf" "[I" (.ref e3) ∧ Fld Z h a0 "com/example/spare_calculus/sparecalculus/bisim/Partition" "blockStart" "[I" (.ref e4) ∧ Fld Z h a0 "com/example/spare_calculus/sparecalculus/bisim/Partition" "blockEnd" "[I" (.ref e5) ∧ Fld Z h a0 "com/example/spare_calculus/sparecalculus/bisim/Partition" "blockMarkedEnd" "[I" (.ref e6) ∧ Fld Z h a0 "com/example/spare_calculus/sparecalculus/bisim/Partition" "touchedBlocks" "[I" (.ref e7) ∧ Fld Z h a0 "com/example/spare_calculus/sparecalculus/bisim/Partition" "blockCount" "I" (.int bc) ∧ Fld Z h a0 "com/example/spare_calculus/sparecalculus/bisim/Partition" "touchedBlockCount" "I" (.int (g3_tc p1 el po bo bs bm tb bc tc)) ∧ own_Ints Z h e1 (g3_el p1 el po bo bs bm tb bc tc) ∧ own_Ints Z h e2 (g3_po p1 el po bo bs bm tb bc tc) ∧ own_Ints Z h e6 (g3_bm p1 el po bo bs bm tb bc tc) ∧ own_Ints Z h e7 (g3_tb p1 el po bo bs bm tb bc tc)
set_option maxRecDepth 65536 in
set_option maxHeartbeats 40000000 in
theorem rm3 (l : Launch) (Z : State) (aZ : Array Value) (hw : ∀ d ∈ tables_1, d.before aZ Z = true) (ws : List Jvm.Cond) (a0 : Addr) (p1 : Int32) (e1 : Addr) (e2 : Addr) (e3 : Addr) (e4 : Addr) (e5 : Addr) (e6 : Addr) (e7 : Addr) (el : List Int32) (po : List Int32) (bo : List Int32) (bs : List Int32) (bm : List Int32) (tb : List Int32) (bc : Int32) (tc : Int32) (h0 : Heap) (n0 : Nat) (Z0 : n0 ≤ h0.size) (P0 : Exa Z h0 a0 "com/example/spare_calculus/sparecalculus/bisim/Partition") (P1 : Fld Z h0 a0 "com/example/spare_calculus/sparecalculus/bisim/Partition" "elements" "[I" (.ref e1)) (P2 : Fld Z h0 a0 "com/example/spare_calculus/sparecalculus/bisim/Partition" "positions" "[I" (.ref e2)) (P3 : Fld Z h0 a0 "com/example/spare_calculus/sparecalculus/bisim/Partition" "blockOf" "[I" (.ref e3)) (P4 : Fld Z h0 a0 "com/example/spare_calculus/sparecalculus/bisim/Partition" "blockStart" "[I" (.ref e4)) (P5 : Fld Z h0 a0 "com/example/spare_calculus/sparecalculus/bisim/Partition" "blockEnd" "[I" (.ref e5)) (P6 : Fld Z h0 a0 "com/example/spare_calculus/sparecalculus/bisim/Partition" "blockMarkedEnd" "[I" (.ref e6)) (P7 : Fld Z h0 a0 "com/example/spare_calculus/sparecalculus/bisim/Partition" "touchedBlocks" "[I" (.ref e7)) (P8 : Fld Z h0 a0 "com/example/spare_calculus/sparecalculus/bisim/Partition" "blockCount" "I" (.int bc)) (P9 : Fld Z h0 a0 "com/example/spare_calculus/sparecalculus/bisim/Partition" "touchedBlockCount" "I" (.int tc)) (P10 : own_Ints Z h0 e1 el) (P11 : own_Ints Z h0 e2 po) (P12 : own_Ints Z h0 e3 bo) (P13 : own_Ints Z h0 e4 bs) (P14 : own_Ints Z h0 e6 bm) (P15 : own_Ints Z h0 e7 tb) (nq_a0_e1 : a0 ≠ e1) (nq_a0_e2 : a0 ≠ e2) (nq_a0_e3 : a0 ≠ e3) (nq_a0_e4 : a0 ≠ e4) (nq_a0_e6 : a0 ≠ e6) (nq_a0_e7 : a0 ≠ e7) (nq_e1_e2 : e1 ≠ e2) (nq_e1_e3 : e1 ≠ e3) (nq_e1_e4 : e1 ≠ e4) (nq_e1_e6 : e1 ≠ e6) (nq_e1_e7 : e1 ≠ e7) (nq_e2_e3 : e2 ≠ e3) (nq_e2_e4 : e2 ≠ e4) (nq_e2_e6 : e2 ≠ e6) (nq_e2_e7 : e2 ≠ e7) (nq_e3_e4 : e3 ≠ e4) (nq_e3_e6 : e3 ≠ e6) (nq_e3_e7 : e3 ≠ e7) (nq_e4_e6 : e4 ≠ e6) (nq_e4_e7 : e4 ≠ e7) (nq_e6_e7 : e6 ≠ e7) (gq_a0 : n0 ≤ a0) (gq_e1 : n0 ≤ e1) (gq_e2 : n0 ≤ e2) (gq_e6 : n0 ≤ e6) (gq_e7 : n0 ≤ e7) (hb1 : own_In p1 bo.length) (hb2 : own_In (own_at bo p1) bm.length) (hb3 : own_In p1 po.length) (hb4 : ¬ ((own_at po p1) < (own_at bm (own_at bo p1))) → own_In (own_at bo p1) bs.length) (hb5 : ¬ ((own_at po p1) < (own_at bm (own_at bo p1))) → own_In (own_at bm (own_at bo p1)) el.length) (hb6 : ¬ ((own_at po p1) < (own_at bm (own_at bo p1))) → own_In (own_at po p1) el.length) (hb7 : ¬ ((own_at po p1) < (own_at bm (own_at bo p1))) → own_In (own_at el (own_at bm (own_at bo p1))) po.length) (hb8 : ¬ ((own_at po p1) < (own_at bm (own_at bo p1))) → (own_at bm (own_at bo p1)) = (own_at bs (own_at bo p1)) → own_In tc tb.length) :
    MetFree l (⟨"com/example/spare_calculus/sparecalculus/bisim/Partition", "mark", "(I)V"⟩ : MethodName) (head1 (Jvm.Cond.code (⟨"com/example/spare_calculus/sparecalculus/bisim/Partition", "mark", "(I)V"⟩ : MethodName) prog_16_method_10_code 6 none :: ws) ({ frames := 0, cells := 0, slots := 0, locals := 0 } : Room)) (fun a U => a = #[(.ref a0), (.int p1)] ∧ Z.Warmed39 U.vm ∧ U.heap = h0) (fun _ _ _ _ _ => True) (fun _ U o U' => ∃ v L, o = .returned v ∧ Q3 Z a0 p1 e1 e2 e3 e4 e5 e6 e7 el po bo bs bm tb bc tc h0 n0 v U'.heap L ∧ FrameEnd U o U' L ({ frames := 0, cells := 0, slots := 0, locals := 0 } : Room).cells ({ frames := 0, cells := 0, slots := 0, locals := 0 } : Room).slots) := by
  refine MetFree.of_bodySF (plainFor_of_name own_pn0) hisR ?_
  intro p e s m args below meth c s₁ Bd hml0 hP hK
  obtain ⟨rfl, hZ, hh⟩ := hP
  have hx := Bd.exec
  have hby := Bd.bytes
  have hml : c.maxLocals = 6 := hml0
  have hown : s.vm.findClass "com/example/spare_calculus/sparecalculus/bisim/Partition" = some m.cls := findClass_of_methodNamed Bd.named
  have hnm := (name_of_methodNamed Bd.named Bd.method).1
  have X0 : Stand p l e ({ frames := 0, cells := 0, slots := 0, locals := 0 } : Room) s m #[(.ref a0), (.int p1)] below meth c s₁ [] 0 0 := Stand.of_body Bd
  have e0 : s₁.heap = h0 := by rw [← hh, Bd.state]; rfl
  have N0 := Fr.nil n0
  have Kp0 : Keep h0 h0 [a0, e1, e2, e6, e7] := Keep.refl _ _
  show own_Goes p e below s (Q3 Z a0 p1 e1 e2 e3 e4 e5 e6 e7 el po bo bs bm tb bc tc h0 n0) ({ frames := 0, cells := 0, slots := 0, locals := 0 } : Room).cells ({ frames := 0, cells := 0, slots := 0, locals := 0 } : Room).slots _
  refine own_pre (fun t k => castTop (ef3 m a0 p1) k) ?_
  refine own_pre (A := s₁.setTop (mkF m 1 #[rv a0, iv p1, .unset, .unset, .unset, .unset] [(.ref a0)])) (fun t k => ?_) ?_
  · show Steps p.tables e below (s₁.setTop (mkF m 0 #[rv a0, iv p1, .unset, .unset, .unset, .unset] [])) _
    refine XS.aloadN X0.here hx rfl (hb hby d3_0) rfl rfl ?_
    exact k
  obtain ⟨T497, X497, e497, st497⟩ := getF X0 hx hZ hown (host := "") (Or.inl (own_h hw 15 rfl)) Via.refl e0 P3 (g := (mkF m 1 #[rv a0, iv p1, .unset, .unset, .unset, .unset] [(.ref a0)])) rfl rfl (hb hby d3_1)
  refine own_pre st497 ?_
  have hbn498 : own_In p1 bo.length := hb1
  refine own_pre (A := T497.setTop (mkF m 8 #[rv a0, iv p1, iv (own_at bo p1), .unset, .unset, .unset] [(.ref a0)])) (fun t k => ?_) ?_
  · show Steps p.tables e below (T497.setTop (mkF m 4 #[rv a0, iv p1, .unset, .unset, .unset, .unset] [(.ref e3)])) _
    refine XS.iloadN X497.here hx rfl (hb hby d3_4) rfl ?_
    show Steps p.tables e below (T497.setTop (mkF m 5 #[rv a0, iv p1, .unset, .unset, .unset, .unset] [(.int p1), (.ref e3)])) _
    refine own_iaload X497 hx hZ e497 P12 hbn498 rfl rfl (hb hby d3_5) ?_
    show Steps p.tables e below (T497.setTop (mkF m 6 #[rv a0, iv p1, .unset, .unset, .unset, .unset] [(.int (own_at bo p1))])) _
    refine XS.istoreN X497.here hx rfl (hb hby d3_6) rfl (l' := #[rv a0, iv p1, iv (own_at bo p1), .unset, .unset, .unset]) rfl ?_
    show Steps p.tables e below (T497.setTop (mkF m 7 #[rv a0, iv p1, iv (own_at bo p1), .unset, .unset, .unset] [])) _
    refine XS.aloadN X497.here hx rfl (hb hby d3_7) rfl rfl ?_
    exact k
  obtain ⟨T499, X499, e499, st499⟩ := getF X497 hx hZ hown (host := "") (Or.inl (own_h hw 21 rfl)) Via.refl e497 P6 (g := (mkF m 8 #[rv a0, iv p1, iv (own_at bo p1), .unset, .unset, .unset] [(.ref a0)])) rfl rfl (hb hby d3_8)
  refine own_pre st499 ?_
  have hbn500 : own_In (own_at bo p1) bm.length := hb2
  refine own_pre (A := T499.setTop (mkF m 15 #[rv a0, iv p1, iv (own_at bo p1), iv (own_at bm (own_at bo p1)), .unset, .unset] [(.ref a0)])) (fun t k => ?_) ?_
  · show Steps p.tables e below (T499.setTop (mkF m 11 #[rv a0, iv p1, iv (own_at bo p1), .unset, .unset, .unset] [(.ref e6)])) _
    refine XS.iloadN X499.here hx rfl (hb hby d3_11) rfl ?_
    show Steps p.tables e below (T499.setTop (mkF m 12 #[rv a0, iv p1, iv (own_at bo p1), .unset, .unset, .unset] [(.int (own_at bo p1)), (.ref e6)])) _
    refine own_iaload X499 hx hZ e499 P14 hbn500 rfl rfl (hb hby d3_12) ?_
    show Steps p.tables e below (T499.setTop (mkF m 13 #[rv a0, iv p1, iv (own_at bo p1), .unset, .unset, .unset] [(.int (own_at bm (own_at bo p1)))])) _
    refine XS.istoreN X499.here hx rfl (hb hby d3_13) rfl (l' := #[rv a0, iv p1, iv (own_at bo p1), iv (own_at bm (own_at bo p1)), .unset, .unset]) rfl ?_
    show Steps p.tables e below (T499.setTop (mkF m 14 #[rv a0, iv p1, iv (own_at bo p1), iv (own_at bm (own_at bo p1)), .unset, .unset] [])) _
    refine XS.aloadN X499.here hx rfl (hb hby d3_14) rfl rfl ?_
    exact k
  obtain ⟨T501, X501, e501, st501⟩ := getF X499 hx hZ hown (host := "") (Or.inl (own_h hw 13 rfl)) Via.refl e499 P2 (g := (mkF m 15 #[rv a0, iv p1, iv (own_at bo p1), iv (own_at bm (own_at bo p1)), .unset, .unset] [(.ref a0)])) rfl rfl (hb hby d3_15)
  refine own_pre st501 ?_
  have hbn502 : own_In p1 po.length := hb3
  refine own_pre (A := T501.setTop (mkF m 25 #[rv a0, iv p1, iv (own_at bo p1), iv (own_at bm (own_at bo p1)), iv (own_at po p1), .unset] [(.int (own_at bm (own_at bo p1))), (.int (own_at po p1))])) (fun t k => ?_) ?_
  · show Steps p.tables e below (T501.setTop (mkF m 18 #[rv a0, iv p1, iv (own_at bo p1), iv (own_at bm (own_at bo p1)), .unset, .unset] [(.ref e2)])) _
    refine XS.iloadN X501.here hx rfl (hb hby d3_18) rfl ?_
    show Steps p.tables e below (T501.setTop (mkF m 19 #[rv a0, iv p1, iv (own_at bo p1), iv (own_at bm (own_at bo p1)), .unset, .unset] [(.int p1), (.ref e2)])) _
    refine own_iaload X501 hx hZ e501 P11 hbn502 rfl rfl (hb hby d3_19) ?_
    show Steps p.tables e below (T501.setTop (mkF m 20 #[rv a0, iv p1, iv (own_at bo p1), iv (own_at bm (own_at bo p1)), .unset, .unset] [(.int (own_at po p1))])) _
    refine XS.istore X501.here hx rfl (hb hby d3_20) rfl (l' := #[rv a0, iv p1, iv (own_at bo p1), iv (own_at bm (own_at bo p1)), iv (own_at po p1), .unset]) rfl ?_
    show Steps p.tables e below (T501.setTop (mkF m 22 #[rv a0, iv p1, iv (own_at bo p1), iv (own_at bm (own_at bo p1)), iv (own_at po p1), .unset] [])) _
    refine XS.iload X501.here hx rfl (hb hby d3_22) rfl ?_
    show Steps p.tables e below (T501.setTop (mkF m 24 #[rv a0, iv p1, iv (own_at bo p1), iv (own_at bm (own_at bo p1)), iv (own_at po p1), .unset] [(.int (own_at po p1))])) _
    refine XS.iloadN X501.here hx rfl (hb hby d3_24) rfl ?_
    exact k
  by_cases hs25_1 : (own_at po p1) < (own_at bm (own_at bo p1))
  · refine own_pre (A := T501.setTop (mkF m 107 #[rv a0, iv p1, iv (own_at bo p1), iv (own_at bm (own_at bo p1)), iv (own_at po p1), .unset] [])) (fun t k => ?_) ?_
    · show Steps p.tables e below (T501.setTop (mkF m 25 #[rv a0, iv p1, iv (own_at bo p1), iv (own_at bm (own_at bo p1)), iv (own_at po p1), .unset] [(.int (own_at bm (own_at bo p1))), (.int (own_at po p1))])) _
      refine XS.icmpYes X501.here hx rfl (pc0 := 25) (pc' := 107) rfl (hb hby d3_25) rfl (XT.ii_lt_t hs25_1) (by decide) (by decide) ?_
      exact k
    exact own_end X501 (BodyLoose.notSynchronized Bd) (fun _ => rfl) (v := none) (fun fs hr => X501.returnOut hx Bd.returns (hb hby d3_107) hr) (by show Q3 Z a0 p1 e1 e2 e3 e4 e5 e6 e7 el po bo bs bm tb bc tc h0 n0 _ T501.heap _; rw [e501]; exact ⟨rfl, N0, Kp0, (by first | exact P1 | (simp only [if_pos hs25_1]; exact P1)), (by first | exact P2 | (simp only [if_pos hs25_1]; exact P2)), (by first | exact P3 | (simp only [if_pos hs25_1]; exact P3)), (by first | exact P4 | (simp only [if_pos hs25_1]; exact P4)), (by first | exact P5 | (simp only [if_pos hs25_1]; exact P5)), (by first | exact P6 | (simp only [if_pos hs25_1]; exact P6)), (by first | exact P7 | (simp only [if_pos hs25_1]; exact P7)), (by first | exact P8 | (simp only [if_pos hs25_1]; exact P8)), (by simp only [g3_tc, if_pos hs25_1]; exact P9), (by simp only [g3_el, if_pos hs25_1]; exact P10), (by simp only [g3_po, if_pos hs25_1]; exact P11), (by simp only [g3_bm, if_pos hs25_1]; exact P14), (by simp only [g3_tb, if_pos hs25_1]; exact P15)⟩) (by decide) (by decide)
  · refine own_pre (A := T501.setTop (mkF m 30 #[rv a0, iv p1, iv (own_at bo p1), iv (own_at bm (own_at bo p1)), iv (own_at po p1), .unset] [(.ref a0), (.int (own_at bm (own_at bo p1)))])) (fun t k => ?_) ?_
    · show Steps p.tables e below (T501.setTop (mkF m 25 #[rv a0, iv p1, iv (own_at bo p1), iv (own_at bm (own_at bo p1)), iv (own_at po p1), .unset] [(.int (own_at bm (own_at bo p1))), (.int (own_at po p1))])) _
      refine XS.icmpNo X501.here hx rfl (hb hby d3_25) rfl (XT.ii_lt_f hs25_1) ?_
      show Steps p.tables e below (T501.setTop (mkF m 28 #[rv a0, iv p1, iv (own_at bo p1), iv (own_at bm (own_at bo p1)), iv (own_at po p1), .unset] [])) _
      refine XS.iloadN X501.here hx rfl (hb hby d3_28) rfl ?_
      show Steps p.tables e below (T501.setTop (mkF m 29 #[rv a0, iv p1, iv (own_at bo p1), iv (own_at bm (own_at bo p1)), iv (own_at po p1), .unset] [(.int (own_at bm (own_at bo p1)))])) _
      refine XS.aloadN X501.here hx rfl (hb hby d3_29) rfl rfl ?_
      exact k
    obtain ⟨T503, X503, e503, st503⟩ := getF X501 hx hZ hown (host := "") (Or.inl (own_h hw 17 rfl)) Via.refl e501 P4 (g := (mkF m 30 #[rv a0, iv p1, iv (own_at bo p1), iv (own_at bm (own_at bo p1)), iv (own_at po p1), .unset] [(.ref a0), (.int (own_at bm (own_at bo p1)))])) rfl rfl (hb hby d3_30)
    refine own_pre st503 ?_
    have hbn504 : own_In (own_at bo p1) bs.length := hb4 hs25_1
    refine own_pre (A := T503.setTop (mkF m 35 #[rv a0, iv p1, iv (own_at bo p1), iv (own_at bm (own_at bo p1)), iv (own_at po p1), .unset] [(.int (own_at bs (own_at bo p1))), (.int (own_at bm (own_at bo p1)))])) (fun t k => ?_) ?_
    · show Steps p.tables e below (T503.setTop (mkF m 33 #[rv a0, iv p1, iv (own_at bo p1), iv (own_at bm (own_at bo p1)), iv (own_at po p1), .unset] [(.ref e4), (.int (own_at bm (own_at bo p1)))])) _
      refine XS.iloadN X503.here hx rfl (hb hby d3_33) rfl ?_
      show Steps p.tables e below (T503.setTop (mkF m 34 #[rv a0, iv p1, iv (own_at bo p1), iv (own_at bm (own_at bo p1)), iv (own_at po p1), .unset] [(.int (own_at bo p1)), (.ref e4), (.int (own_at bm (own_at bo p1)))])) _
      refine own_iaload X503 hx hZ e503 P13 hbn504 rfl rfl (hb hby d3_34) ?_
      exact k
    by_cases hs35_2 : (own_at bm (own_at bo p1)) = (own_at bs (own_at bo p1))
    · refine own_pre (A := T503.setTop (mkF m 39 #[rv a0, iv p1, iv (own_at bo p1), iv (own_at bm (own_at bo p1)), iv (own_at po p1), .unset] [(.ref a0)])) (fun t k => ?_) ?_
      · show Steps p.tables e below (T503.setTop (mkF m 35 #[rv a0, iv p1, iv (own_at bo p1), iv (own_at bm (own_at bo p1)), iv (own_at po p1), .unset] [(.int (own_at bs (own_at bo p1))), (.int (own_at bm (own_at bo p1)))])) _
        refine XS.icmpNo X503.here hx rfl (hb hby d3_35) rfl (XT.ii_ne_f hs35_2) ?_
        show Steps p.tables e below (T503.setTop (mkF m 38 #[rv a0, iv p1, iv (own_at bo p1), iv (own_at bm (own_at bo p1)), iv (own_at po p1), .unset] [])) _
        refine XS.aloadN X503.here hx rfl (hb hby d3_38) rfl rfl ?_
        exact k
      obtain ⟨T505, X505, e505, st505⟩ := getF X503 hx hZ hown (host := "") (Or.inl (own_h hw 23 rfl)) Via.refl e503 P7 (g := (mkF m 39 #[rv a0, iv p1, iv (own_at bo p1), iv (own_at bm (own_at bo p1)), iv (own_at po p1), .unset] [(.ref a0)])) rfl rfl (hb hby d3_39)
      refine own_pre st505 ?_
      refine own_pre (A := T505.setTop (mkF m 43 #[rv a0, iv p1, iv (own_at bo p1), iv (own_at bm (own_at bo p1)), iv (own_at po p1), .unset] [(.ref a0), (.ref e7)])) (fun t k => ?_) ?_
      · show Steps p.tables e below (T505.setTop (mkF m 42 #[rv a0, iv p1, iv (own_at bo p1), iv (own_at bm (own_at bo p1)), iv (own_at po p1), .unset] [(.ref e7)])) _
        refine XS.aloadN X505.here hx rfl (hb hby d3_42) rfl rfl ?_
        exact k
      obtain ⟨T506, X506, e506, st506⟩ := getF X505 hx hZ hown (host := "") (Or.inl (own_h hw 32 rfl)) Via.refl e505 P9 (g := (mkF m 43 #[rv a0, iv p1, iv (own_at bo p1), iv (own_at bm (own_at bo p1)), iv (own_at po p1), .unset] [(.ref a0), (.ref e7)])) rfl rfl (hb hby d3_43)
      refine own_pre st506 ?_
      refine own_pre (A := T506.setTop (mkF m 47 #[rv a0, iv p1, iv (own_at bo p1), iv (own_at bm (own_at bo p1)), iv (own_at po p1), .unset] [(.int (own_at bo p1)), (.int tc), (.ref e7)])) (fun t k => ?_) ?_
      · show Steps p.tables e below (T506.setTop (mkF m 46 #[rv a0, iv p1, iv (own_at bo p1), iv (own_at bm (own_at bo p1)), iv (own_at po p1), .unset] [(.int tc), (.ref e7)])) _
        refine XS.iloadN X506.here hx rfl (hb hby d3_46) rfl ?_
        exact k
      have hbn508 : own_In tc tb.length := hb8 hs25_1 hs35_2
      obtain ⟨T507, h507, X507, e507, W507, V507, st507⟩ := own_iastore X506 hx hZ e506 P15 (j := tc) (x := (own_at bo p1)) hbn508 (g := (mkF m 47 #[rv a0, iv p1, iv (own_at bo p1), iv (own_at bm (own_at bo p1)), iv (own_at po p1), .unset] [(.int (own_at bo p1)), (.int tc), (.ref e7)])) rfl rfl (hb hby d3_47)
      have Kp507 : Keep h0 h507 [a0, e1, e2, e6, e7] := Kp0.wr W507 (Or.inl (List.mem_of_getElem? (i := 4) rfl))
      have Z509 : n0 ≤ h507.size := Nat.le_trans Z0 (Nat.le_of_eq W507.size.symm)
      have N507 := Fr.snoc X507 N0 gq_e7
      have Vw507 : own_Ints Z h507 e7 (tb.set tc.toNatClampNeg (own_at bo p1)) := V507
      refine own_pre st507 ?_
      refine own_pre (A := T507.setTop (mkF m 50 #[rv a0, iv p1, iv (own_at bo p1), iv (own_at bm (own_at bo p1)), iv (own_at po p1), .unset] [(.ref a0), (.ref a0)])) (fun t k => ?_) ?_
      · show Steps p.tables e below (T507.setTop (mkF m 48 #[rv a0, iv p1, iv (own_at bo p1), iv (own_at bm (own_at bo p1)), iv (own_at po p1), .unset] [])) _
        refine XS.aloadN X507.here hx rfl (hb hby d3_48) rfl rfl ?_
        show Steps p.tables e below (T507.setTop (mkF m 49 #[rv a0, iv p1, iv (own_at bo p1), iv (own_at bm (own_at bo p1)), iv (own_at po p1), .unset] [(.ref a0)])) _
        refine XS.dup X507.here hx rfl (hb hby d3_49) rfl rfl ?_
        exact k
      have F511 := (P9.other W507 (Or.inl nq_a0_e7))
      obtain ⟨T510, X510, e510, st510⟩ := getF X507 hx hZ hown (host := "") (Or.inl (own_h hw 32 rfl)) Via.refl e507 F511 (g := (mkF m 50 #[rv a0, iv p1, iv (own_at bo p1), iv (own_at bm (own_at bo p1)), iv (own_at po p1), .unset] [(.ref a0), (.ref a0)])) rfl rfl (hb hby d3_50)
      refine own_pre st510 ?_
      refine own_pre (A := T510.setTop (mkF m 55 #[rv a0, iv p1, iv (own_at bo p1), iv (own_at bm (own_at bo p1)), iv (own_at po p1), .unset] [(.int (tc + (1:Int32))), (.ref a0)])) (fun t k => ?_) ?_
      · show Steps p.tables e below (T510.setTop (mkF m 53 #[rv a0, iv p1, iv (own_at bo p1), iv (own_at bm (own_at bo p1)), iv (own_at po p1), .unset] [(.int tc), (.ref a0)])) _
        refine XS.iconst X510.here hx rfl (hb hby d3_53) ?_
        show Steps p.tables e below (T510.setTop (mkF m 54 #[rv a0, iv p1, iv (own_at bo p1), iv (own_at bm (own_at bo p1)), iv (own_at po p1), .unset] [(.int (1:Int32)), (.int tc), (.ref a0)])) _
        refine XS.iadd X510.here hx rfl (hb hby d3_54) rfl ?_
        exact k
      have F513 := (P0.wr W507)
      obtain ⟨T512, h512, X512, e512, W512, st512⟩ := putF X510 hx hZ hown (host := "") (Or.inl (own_h hw 32 rfl)) Via.refl e510 F511 F513 (Or.inl (own_h hw 33 rfl)) (own_h hw 2 rfl) (ty := .int) (by decide) rfl rfl (g := (mkF m 55 #[rv a0, iv p1, iv (own_at bo p1), iv (own_at bm (own_at bo p1)), iv (own_at po p1), .unset] [(.int (tc + (1:Int32))), (.ref a0)])) rfl rfl (hb hby d3_55)
      have Kp512 : Keep h0 h512 [a0, e1, e2, e6, e7] := Kp507.wr W512 (Or.inl (List.mem_of_getElem? (i := 0) rfl))
      have Z514 : n0 ≤ h512.size := Nat.le_trans Z509 (Nat.le_of_eq W512.size.symm)
      have N512 := Fr.snoc X512 N507 gq_a0
      have Fw512 := F511.same W512
      refine own_pre st512 ?_
      refine own_pre (A := T512.setTop (mkF m 59 #[rv a0, iv p1, iv (own_at bo p1), iv (own_at bm (own_at bo p1)), iv (own_at po p1), .unset] [(.ref a0)])) (fun t k => ?_) ?_
      · show Steps p.tables e below (T512.setTop (mkF m 58 #[rv a0, iv p1, iv (own_at bo p1), iv (own_at bm (own_at bo p1)), iv (own_at po p1), .unset] [])) _
        refine XS.aloadN X512.here hx rfl (hb hby d3_58) rfl rfl ?_
        exact k
      have F516 := ((P1.other W507 (Or.inl nq_a0_e7)).other W512 (Or.inr (slot_ne (Or.inr (own_h hw 12 rfl)) (Or.inl (own_h hw 33 rfl)) (by decide) (t := (.array .int)) (t' := .int) (by decide) (by decide))))
      obtain ⟨T515, X515, e515, st515⟩ := getF X512 hx hZ hown (host := "") (Or.inl (own_h hw 11 rfl)) Via.refl e512 F516 (g := (mkF m 59 #[rv a0, iv p1, iv (own_at bo p1), iv (own_at bm (own_at bo p1)), iv (own_at po p1), .unset] [(.ref a0)])) rfl rfl (hb hby d3_59)
      refine own_pre st515 ?_
      have F517 := ((P10.other W507 nq_e1_e7).other W512 (Ne.symm nq_a0_e1))
      have hbn518 : own_In (own_at bm (own_at bo p1)) el.length := hb5 hs25_1
      refine own_pre (A := T515.setTop (mkF m 67 #[rv a0, iv p1, iv (own_at bo p1), iv (own_at bm (own_at bo p1)), iv (own_at po p1), iv (own_at el (own_at bm (own_at bo p1)))] [(.ref a0)])) (fun t k => ?_) ?_
      · show Steps p.tables e below (T515.setTop (mkF m 62 #[rv a0, iv p1, iv (own_at bo p1), iv (own_at bm (own_at bo p1)), iv (own_at po p1), .unset] [(.ref e1)])) _
        refine XS.iloadN X515.here hx rfl (hb hby d3_62) rfl ?_
        show Steps p.tables e below (T515.setTop (mkF m 63 #[rv a0, iv p1, iv (own_at bo p1), iv (own_at bm (own_at bo p1)), iv (own_at po p1), .unset] [(.int (own_at bm (own_at bo p1))), (.ref e1)])) _
        refine own_iaload X515 hx hZ e515 F517 hbn518 rfl rfl (hb hby d3_63) ?_
        show Steps p.tables e below (T515.setTop (mkF m 64 #[rv a0, iv p1, iv (own_at bo p1), iv (own_at bm (own_at bo p1)), iv (own_at po p1), .unset] [(.int (own_at el (own_at bm (own_at bo p1))))])) _
        refine XS.istore X515.here hx rfl (hb hby d3_64) rfl (l' := #[rv a0, iv p1, iv (own_at bo p1), iv (own_at bm (own_at bo p1)), iv (own_at po p1), iv (own_at el (own_at bm (own_at bo p1)))]) rfl ?_
        show Steps p.tables e below (T515.setTop (mkF m 66 #[rv a0, iv p1, iv (own_at bo p1), iv (own_at bm (own_at bo p1)), iv (own_at po p1), iv (own_at el (own_at bm (own_at bo p1)))] [])) _
        refine XS.aloadN X515.here hx rfl (hb hby d3_66) rfl rfl ?_
        exact k
      obtain ⟨T519, X519, e519, st519⟩ := getF X515 hx hZ hown (host := "") (Or.inl (own_h hw 11 rfl)) Via.refl e515 F516 (g := (mkF m 67 #[rv a0, iv p1, iv (own_at bo p1), iv (own_at bm (own_at bo p1)), iv (own_at po p1), iv (own_at el (own_at bm (own_at bo p1)))] [(.ref a0)])) rfl rfl (hb hby d3_67)
      refine own_pre st519 ?_
      refine own_pre (A := T519.setTop (mkF m 72 #[rv a0, iv p1, iv (own_at bo p1), iv (own_at bm (own_at bo p1)), iv (own_at po p1), iv (own_at el (own_at bm (own_at bo p1)))] [(.int p1), (.int (own_at bm (own_at bo p1))), (.ref e1)])) (fun t k => ?_) ?_
      · show Steps p.tables e below (T519.setTop (mkF m 70 #[rv a0, iv p1, iv (own_at bo p1), iv (own_at bm (own_at bo p1)), iv (own_at po p1), iv (own_at el (own_at bm (own_at bo p1)))] [(.ref e1)])) _
        refine XS.iloadN X519.here hx rfl (hb hby d3_70) rfl ?_
        show Steps p.tables e below (T519.setTop (mkF m 71 #[rv a0, iv p1, iv (own_at bo p1), iv (own_at bm (own_at bo p1)), iv (own_at po p1), iv (own_at el (own_at bm (own_at bo p1)))] [(.int (own_at bm (own_at bo p1))), (.ref e1)])) _
        refine XS.iloadN X519.here hx rfl (hb hby d3_71) rfl ?_
        exact k
      have hbn521 : own_In (own_at bm (own_at bo p1)) el.length := hb5 hs25_1
      obtain ⟨T520, h520, X520, e520, W520, V520, st520⟩ := own_iastore X519 hx hZ e519 F517 (j := (own_at bm (own_at bo p1))) (x := p1) hbn521 (g := (mkF m 72 #[rv a0, iv p1, iv (own_at bo p1), iv (own_at bm (own_at bo p1)), iv (own_at po p1), iv (own_at el (own_at bm (own_at bo p1)))] [(.int p1), (.int (own_at bm (own_at bo p1))), (.ref e1)])) rfl rfl (hb hby d3_72)
      have Kp520 : Keep h0 h520 [a0, e1, e2, e6, e7] := Kp512.wr W520 (Or.inl (List.mem_of_getElem? (i := 1) rfl))
      have Z522 : n0 ≤ h520.size := Nat.le_trans Z514 (Nat.le_of_eq W520.size.symm)
      have N520 := Fr.snoc X520 N512 gq_e1
      have Vw520 : own_Ints Z h520 e1 (el.set (own_at bm (own_at bo p1)).toNatClampNeg p1) := V520
      refine own_pre st520 ?_
      refine own_pre (A := T520.setTop (mkF m 74 #[rv a0, iv p1, iv (own_at bo p1), iv (own_at bm (own_at bo p1)), iv (own_at po p1), iv (own_at el (own_at bm (own_at bo p1)))] [(.ref a0)])) (fun t k => ?_) ?_
      · show Steps p.tables e below (T520.setTop (mkF m 73 #[rv a0, iv p1, iv (own_at bo p1), iv (own_at bm (own_at bo p1)), iv (own_at po p1), iv (own_at el (own_at bm (own_at bo p1)))] [])) _
        refine XS.aloadN X520.here hx rfl (hb hby d3_73) rfl rfl ?_
        exact k
      have F524 := (((P2.other W507 (Or.inl nq_a0_e7)).other W512 (Or.inr (slot_ne (Or.inr (own_h hw 14 rfl)) (Or.inl (own_h hw 33 rfl)) (by decide) (t := (.array .int)) (t' := .int) (by decide) (by decide)))).other W520 (Or.inl nq_a0_e1))
      obtain ⟨T523, X523, e523, st523⟩ := getF X520 hx hZ hown (host := "") (Or.inl (own_h hw 13 rfl)) Via.refl e520 F524 (g := (mkF m 74 #[rv a0, iv p1, iv (own_at bo p1), iv (own_at bm (own_at bo p1)), iv (own_at po p1), iv (own_at el (own_at bm (own_at bo p1)))] [(.ref a0)])) rfl rfl (hb hby d3_74)
      refine own_pre st523 ?_
      refine own_pre (A := T523.setTop (mkF m 79 #[rv a0, iv p1, iv (own_at bo p1), iv (own_at bm (own_at bo p1)), iv (own_at po p1), iv (own_at el (own_at bm (own_at bo p1)))] [(.int (own_at bm (own_at bo p1))), (.int p1), (.ref e2)])) (fun t k => ?_) ?_
      · show Steps p.tables e below (T523.setTop (mkF m 77 #[rv a0, iv p1, iv (own_at bo p1), iv (own_at bm (own_at bo p1)), iv (own_at po p1), iv (own_at el (own_at bm (own_at bo p1)))] [(.ref e2)])) _
        refine XS.iloadN X523.here hx rfl (hb hby d3_77) rfl ?_
        show Steps p.tables e below (T523.setTop (mkF m 78 #[rv a0, iv p1, iv (own_at bo p1), iv (own_at bm (own_at bo p1)), iv (own_at po p1), iv (own_at el (own_at bm (own_at bo p1)))] [(.int p1), (.ref e2)])) _
        refine XS.iloadN X523.here hx rfl (hb hby d3_78) rfl ?_
        exact k
      have F526 := (((P11.other W507 nq_e2_e7).other W512 (Ne.symm nq_a0_e2)).other W520 (Ne.symm nq_e1_e2))
      have hbn527 : own_In p1 po.length := hb3
      obtain ⟨T525, h525, X525, e525, W525, V525, st525⟩ := own_iastore X523 hx hZ e523 F526 (j := p1) (x := (own_at bm (own_at bo p1))) hbn527 (g := (mkF m 79 #[rv a0, iv p1, iv (own_at bo p1), iv (own_at bm (own_at bo p1)), iv (own_at po p1), iv (own_at el (own_at bm (own_at bo p1)))] [(.int (own_at bm (own_at bo p1))), (.int p1), (.ref e2)])) rfl rfl (hb hby d3_79)
      have Kp525 : Keep h0 h525 [a0, e1, e2, e6, e7] := Kp520.wr W525 (Or.inl (List.mem_of_getElem? (i := 2) rfl))
      have Z528 : n0 ≤ h525.size := Nat.le_trans Z522 (Nat.le_of_eq W525.size.symm)
      have N525 := Fr.snoc X525 N520 gq_e2
      have Vw525 : own_Ints Z h525 e2 (po.set p1.toNatClampNeg (own_at bm (own_at bo p1))) := V525
      refine own_pre st525 ?_
      refine own_pre (A := T525.setTop (mkF m 81 #[rv a0, iv p1, iv (own_at bo p1), iv (own_at bm (own_at bo p1)), iv (own_at po p1), iv (own_at el (own_at bm (own_at bo p1)))] [(.ref a0)])) (fun t k => ?_) ?_
      · show Steps p.tables e below (T525.setTop (mkF m 80 #[rv a0, iv p1, iv (own_at bo p1), iv (own_at bm (own_at bo p1)), iv (own_at po p1), iv (own_at el (own_at bm (own_at bo p1)))] [])) _
        refine XS.aloadN X525.here hx rfl (hb hby d3_80) rfl rfl ?_
        exact k
      have F530 := ((F516.other W520 (Or.inl nq_a0_e1)).other W525 (Or.inl nq_a0_e2))
      obtain ⟨T529, X529, e529, st529⟩ := getF X525 hx hZ hown (host := "") (Or.inl (own_h hw 11 rfl)) Via.refl e525 F530 (g := (mkF m 81 #[rv a0, iv p1, iv (own_at bo p1), iv (own_at bm (own_at bo p1)), iv (own_at po p1), iv (own_at el (own_at bm (own_at bo p1)))] [(.ref a0)])) rfl rfl (hb hby d3_81)
      refine own_pre st529 ?_
      refine own_pre (A := T529.setTop (mkF m 88 #[rv a0, iv p1, iv (own_at bo p1), iv (own_at bm (own_at bo p1)), iv (own_at po p1), iv (own_at el (own_at bm (own_at bo p1)))] [(.int (own_at el (own_at bm (own_at bo p1)))), (.int (own_at po p1)), (.ref e1)])) (fun t k => ?_) ?_
      · show Steps p.tables e below (T529.setTop (mkF m 84 #[rv a0, iv p1, iv (own_at bo p1), iv (own_at bm (own_at bo p1)), iv (own_at po p1), iv (own_at el (own_at bm (own_at bo p1)))] [(.ref e1)])) _
        refine XS.iload X529.here hx rfl (hb hby d3_84) rfl ?_
        show Steps p.tables e below (T529.setTop (mkF m 86 #[rv a0, iv p1, iv (own_at bo p1), iv (own_at bm (own_at bo p1)), iv (own_at po p1), iv (own_at el (own_at bm (own_at bo p1)))] [(.int (own_at po p1)), (.ref e1)])) _
        refine XS.iload X529.here hx rfl (hb hby d3_86) rfl ?_
        exact k
      have F532 := (Vw520.other W525 nq_e1_e2)
      have hbn533 : own_In (own_at po p1) (el.set (own_at bm (own_at bo p1)).toNatClampNeg p1).length := (by first | exact hb6 hs25_1 | (simp only [List.length_set]; exact hb6 hs25_1))
      obtain ⟨T531, h531, X531, e531, W531, V531, st531⟩ := own_iastore X529 hx hZ e529 F532 (j := (own_at po p1)) (x := (own_at el (own_at bm (own_at bo p1)))) hbn533 (g := (mkF m 88 #[rv a0, iv p1, iv (own_at bo p1), iv (own_at bm (own_at bo p1)), iv (own_at po p1), iv (own_at el (own_at bm (own_at bo p1)))] [(.int (own_at el (own_at bm (own_at bo p1)))), (.int (own_at po p1)), (.ref e1)])) rfl rfl (hb hby d3_88)
      have Kp531 : Keep h0 h531 [a0, e1, e2, e6, e7] := Kp525.wr W531 (Or.inl (List.mem_of_getElem? (i := 1) rfl))
      have Z534 : n0 ≤ h531.size := Nat.le_trans Z528 (Nat.le_of_eq W531.size.symm)
      have N531 := Fr.snoc X531 N525 gq_e1
      have Vw531 : own_Ints Z h531 e1 ((el.set (own_at bm (own_at bo p1)).toNatClampNeg p1).set (own_at po p1).toNatClampNeg (own_at el (own_at bm (own_at bo p1)))) := V531
      refine own_pre st531 ?_
      refine own_pre (A := T531.setTop (mkF m 90 #[rv a0, iv p1, iv (own_at bo p1), iv (own_at bm (own_at bo p1)), iv (own_at po p1), iv (own_at el (own_at bm (own_at bo p1)))] [(.ref a0)])) (fun t k => ?_) ?_
      · show Steps p.tables e below (T531.setTop (mkF m 89 #[rv a0, iv p1, iv (own_at bo p1), iv (own_at bm (own_at bo p1)), iv (own_at po p1), iv (own_at el (own_at bm (own_at bo p1)))] [])) _
        refine XS.aloadN X531.here hx rfl (hb hby d3_89) rfl rfl ?_
        exact k
      have F536 := ((F524.other W525 (Or.inl nq_a0_e2)).other W531 (Or.inl nq_a0_e1))
      obtain ⟨T535, X535, e535, st535⟩ := getF X531 hx hZ hown (host := "") (Or.inl (own_h hw 13 rfl)) Via.refl e531 F536 (g := (mkF m 90 #[rv a0, iv p1, iv (own_at bo p1), iv (own_at bm (own_at bo p1)), iv (own_at po p1), iv (own_at el (own_at bm (own_at bo p1)))] [(.ref a0)])) rfl rfl (hb hby d3_90)
      refine own_pre st535 ?_
      refine own_pre (A := T535.setTop (mkF m 97 #[rv a0, iv p1, iv (own_at bo p1), iv (own_at bm (own_at bo p1)), iv (own_at po p1), iv (own_at el (own_at bm (own_at bo p1)))] [(.int (own_at po p1)), (.int (own_at el (own_at bm (own_at bo p1)))), (.ref e2)])) (fun t k => ?_) ?_
      · show Steps p.tables e below (T535.setTop (mkF m 93 #[rv a0, iv p1, iv (own_at bo p1), iv (own_at bm (own_at bo p1)), iv (own_at po p1), iv (own_at el (own_at bm (own_at bo p1)))] [(.ref e2)])) _
        refine XS.iload X535.here hx rfl (hb hby d3_93) rfl ?_
        show Steps p.tables e below (T535.setTop (mkF m 95 #[rv a0, iv p1, iv (own_at bo p1), iv (own_at bm (own_at bo p1)), iv (own_at po p1), iv (own_at el (own_at bm (own_at bo p1)))] [(.int (own_at el (own_at bm (own_at bo p1)))), (.ref e2)])) _
        refine XS.iload X535.here hx rfl (hb hby d3_95) rfl ?_
        exact k
      have F538 := (Vw525.other W531 (Ne.symm nq_e1_e2))
      have hbn539 : own_In (own_at el (own_at bm (own_at bo p1))) (po.set p1.toNatClampNeg (own_at bm (own_at bo p1))).length := (by first | exact hb7 hs25_1 | (simp only [List.length_set]; exact hb7 hs25_1))
      obtain ⟨T537, h537, X537, e537, W537, V537, st537⟩ := own_iastore X535 hx hZ e535 F538 (j := (own_at el (own_at bm (own_at bo p1)))) (x := (own_at po p1)) hbn539 (g := (mkF m 97 #[rv a0, iv p1, iv (own_at bo p1), iv (own_at bm (own_at bo p1)), iv (own_at po p1), iv (own_at el (own_at bm (own_at bo p1)))] [(.int (own_at po p1)), (.int (own_at el (own_at bm (own_at bo p1)))), (.ref e2)])) rfl rfl (hb hby d3_97)
      have Kp537 : Keep h0 h537 [a0, e1, e2, e6, e7] := Kp531.wr W537 (Or.inl (List.mem_of_getElem? (i := 2) rfl))
      have Z540 : n0 ≤ h537.size := Nat.le_trans Z534 (Nat.le_of_eq W537.size.symm)
      have N537 := Fr.snoc X537 N531 gq_e2
      have Vw537 : own_Ints Z h537 e2 ((po.set p1.toNatClampNeg (own_at bm (own_at bo p1))).set (own_at el (own_at bm (own_at bo p1))).toNatClampNeg (own_at po p1)) := V537
      refine own_pre st537 ?_
      refine own_pre (A := T537.setTop (mkF m 99 #[rv a0, iv p1, iv (own_at bo p1), iv (own_at bm (own_at bo p1)), iv (own_at po p1), iv (own_at el (own_at bm (own_at bo p1)))] [(.ref a0)])) (fun t k => ?_) ?_
      · show Steps p.tables e below (T537.setTop (mkF m 98 #[rv a0, iv p1, iv (own_at bo p1), iv (own_at bm (own_at bo p1)), iv (own_at po p1), iv (own_at el (own_at bm (own_at bo p1)))] [])) _
        refine XS.aloadN X537.here hx rfl (hb hby d3_98) rfl rfl ?_
        exact k
      have F542 := ((((((P6.other W507 (Or.inl nq_a0_e7)).other W512 (Or.inr (slot_ne (Or.inr (own_h hw 22 rfl)) (Or.inl (own_h hw 33 rfl)) (by decide) (t := (.array .int)) (t' := .int) (by decide) (by decide)))).other W520 (Or.inl nq_a0_e1)).other W525 (Or.inl nq_a0_e2)).other W531 (Or.inl nq_a0_e1)).other W537 (Or.inl nq_a0_e2))
      obtain ⟨T541, X541, e541, st541⟩ := getF X537 hx hZ hown (host := "") (Or.inl (own_h hw 21 rfl)) Via.refl e537 F542 (g := (mkF m 99 #[rv a0, iv p1, iv (own_at bo p1), iv (own_at bm (own_at bo p1)), iv (own_at po p1), iv (own_at el (own_at bm (own_at bo p1)))] [(.ref a0)])) rfl rfl (hb hby d3_99)
      refine own_pre st541 ?_
      refine own_pre (A := T541.setTop (mkF m 106 #[rv a0, iv p1, iv (own_at bo p1), iv (own_at bm (own_at bo p1)), iv (own_at po p1), iv (own_at el (own_at bm (own_at bo p1)))] [(.int ((own_at bm (own_at bo p1)) + (1:Int32))), (.int (own_at bo p1)), (.ref e6)])) (fun t k => ?_) ?_
      · show Steps p.tables e below (T541.setTop (mkF m 102 #[rv a0, iv p1, iv (own_at bo p1), iv (own_at bm (own_at bo p1)), iv (own_at po p1), iv (own_at el (own_at bm (own_at bo p1)))] [(.ref e6)])) _
        refine XS.iloadN X541.here hx rfl (hb hby d3_102) rfl ?_
        show Steps p.tables e below (T541.setTop (mkF m 103 #[rv a0, iv p1, iv (own_at bo p1), iv (own_at bm (own_at bo p1)), iv (own_at po p1), iv (own_at el (own_at bm (own_at bo p1)))] [(.int (own_at bo p1)), (.ref e6)])) _
        refine XS.iloadN X541.here hx rfl (hb hby d3_103) rfl ?_
        show Steps p.tables e below (T541.setTop (mkF m 104 #[rv a0, iv p1, iv (own_at bo p1), iv (own_at bm (own_at bo p1)), iv (own_at po p1), iv (own_at el (own_at bm (own_at bo p1)))] [(.int (own_at bm (own_at bo p1))), (.int (own_at bo p1)), (.ref e6)])) _
        refine XS.iconst X541.here hx rfl (hb hby d3_104) ?_
        show Steps p.tables e below (T541.setTop (mkF m 105 #[rv a0, iv p1, iv (own_at bo p1), iv (own_at bm (own_at bo p1)), iv (own_at po p1), iv (own_at el (own_at bm (own_at bo p1)))] [(.int (1:Int32)), (.int (own_at bm (own_at bo p1))), (.int (own_at bo p1)), (.ref e6)])) _
        refine XS.iadd X541.here hx rfl (hb hby d3_105) rfl ?_
        exact k
      have F544 := ((((((P14.other W507 nq_e6_e7).other W512 (Ne.symm nq_a0_e6)).other W520 (Ne.symm nq_e1_e6)).other W525 (Ne.symm nq_e2_e6)).other W531 (Ne.symm nq_e1_e6)).other W537 (Ne.symm nq_e2_e6))
      have hbn545 : own_In (own_at bo p1) bm.length := hb2
      obtain ⟨T543, h543, X543, e543, W543, V543, st543⟩ := own_iastore X541 hx hZ e541 F544 (j := (own_at bo p1)) (x := ((own_at bm (own_at bo p1)) + (1:Int32))) hbn545 (g := (mkF m 106 #[rv a0, iv p1, iv (own_at bo p1), iv (own_at bm (own_at bo p1)), iv (own_at po p1), iv (own_at el (own_at bm (own_at bo p1)))] [(.int ((own_at bm (own_at bo p1)) + (1:Int32))), (.int (own_at bo p1)), (.ref e6)])) rfl rfl (hb hby d3_106)
      have Kp543 : Keep h0 h543 [a0, e1, e2, e6, e7] := Kp537.wr W543 (Or.inl (List.mem_of_getElem? (i := 3) rfl))
      have Z546 : n0 ≤ h543.size := Nat.le_trans Z540 (Nat.le_of_eq W543.size.symm)
      have N543 := Fr.snoc X543 N537 gq_e6
      have Vw543 : own_Ints Z h543 e6 (bm.set (own_at bo p1).toNatClampNeg ((own_at bm (own_at bo p1)) + (1:Int32))) := V543
      refine own_pre st543 ?_
      have F547 := (((F530.other W531 (Or.inl nq_a0_e1)).other W537 (Or.inl nq_a0_e2)).other W543 (Or.inl nq_a0_e6))
      have F548 := ((F536.other W537 (Or.inl nq_a0_e2)).other W543 (Or.inl nq_a0_e6))
      have F549 := (((((((P3.other W507 (Or.inl nq_a0_e7)).other W512 (Or.inr (slot_ne (Or.inr (own_h hw 16 rfl)) (Or.inl (own_h hw 33 rfl)) (by decide) (t := (.array .int)) (t' := .int) (by decide) (by decide)))).other W520 (Or.inl nq_a0_e1)).other W525 (Or.inl nq_a0_e2)).other W531 (Or.inl nq_a0_e1)).other W537 (Or.inl nq_a0_e2)).other W543 (Or.inl nq_a0_e6))
      have F550 := (((((((P4.other W507 (Or.inl nq_a0_e7)).other W512 (Or.inr (slot_ne (Or.inr (own_h hw 18 rfl)) (Or.inl (own_h hw 33 rfl)) (by decide) (t := (.array .int)) (t' := .int) (by decide) (by decide)))).other W520 (Or.inl nq_a0_e1)).other W525 (Or.inl nq_a0_e2)).other W531 (Or.inl nq_a0_e1)).other W537 (Or.inl nq_a0_e2)).other W543 (Or.inl nq_a0_e6))
      have F551 := (((((((P5.other W507 (Or.inl nq_a0_e7)).other W512 (Or.inr (slot_ne (Or.inr (own_h hw 20 rfl)) (Or.inl (own_h hw 33 rfl)) (by decide) (t := (.array .int)) (t' := .int) (by decide) (by decide)))).other W520 (Or.inl nq_a0_e1)).other W525 (Or.inl nq_a0_e2)).other W531 (Or.inl nq_a0_e1)).other W537 (Or.inl nq_a0_e2)).other W543 (Or.inl nq_a0_e6))
      have F552 := (F542.other W543 (Or.inl nq_a0_e6))
      have F553 := (((((((P7.other W507 (Or.inl nq_a0_e7)).other W512 (Or.inr (slot_ne (Or.inr (own_h hw 24 rfl)) (Or.inl (own_h hw 33 rfl)) (by decide) (t := (.array .int)) (t' := .int) (by decide) (by decide)))).other W520 (Or.inl nq_a0_e1)).other W525 (Or.inl nq_a0_e2)).other W531 (Or.inl nq_a0_e1)).other W537 (Or.inl nq_a0_e2)).other W543 (Or.inl nq_a0_e6))
      have F554 := (((((((P8.other W507 (Or.inl nq_a0_e7)).other W512 (Or.inr (slot_ne (Or.inl (own_h hw 26 rfl)) (Or.inl (own_h hw 33 rfl)) (by decide) (t := .int) (t' := .int) (by decide) (by decide)))).other W520 (Or.inl nq_a0_e1)).other W525 (Or.inl nq_a0_e2)).other W531 (Or.inl nq_a0_e1)).other W537 (Or.inl nq_a0_e2)).other W543 (Or.inl nq_a0_e6))
      have F555 := (((((Fw512.other W520 (Or.inl nq_a0_e1)).other W525 (Or.inl nq_a0_e2)).other W531 (Or.inl nq_a0_e1)).other W537 (Or.inl nq_a0_e2)).other W543 (Or.inl nq_a0_e6))
      have F556 := ((Vw531.other W537 nq_e1_e2).other W543 nq_e1_e6)
      have F557 := (Vw537.other W543 nq_e2_e6)
      have F558 := ((((((Vw507.other W512 (Ne.symm nq_a0_e7)).other W520 (Ne.symm nq_e1_e7)).other W525 (Ne.symm nq_e2_e7)).other W531 (Ne.symm nq_e1_e7)).other W537 (Ne.symm nq_e2_e7)).other W543 (Ne.symm nq_e6_e7))
      exact own_end X543 (BodyLoose.notSynchronized Bd) (fun _ => rfl) (v := none) (fun fs hr => X543.returnOut hx Bd.returns (hb hby d3_107) hr) (by show Q3 Z a0 p1 e1 e2 e3 e4 e5 e6 e7 el po bo bs bm tb bc tc h0 n0 _ T543.heap _; rw [e543]; exact ⟨rfl, N543, Kp543, (by first | exact F547 | (simp only [if_neg hs25_1, if_pos hs35_2]; exact F547)), (by first | exact F548 | (simp only [if_neg hs25_1, if_pos hs35_2]; exact F548)), (by first | exact F549 | (simp only [if_neg hs25_1, if_pos hs35_2]; exact F549)), (by first | exact F550 | (simp only [if_neg hs25_1, if_pos hs35_2]; exact F550)), (by first | exact F551 | (simp only [if_neg hs25_1, if_pos hs35_2]; exact F551)), (by first | exact F552 | (simp only [if_neg hs25_1, if_pos hs35_2]; exact F552)), (by first | exact F553 | (simp only [if_neg hs25_1, if_pos hs35_2]; exact F553)), (by first | exact F554 | (simp only [if_neg hs25_1, if_pos hs35_2]; exact F554)), (by simp only [g3_tc, if_neg hs25_1, if_pos hs35_2]; exact F555), (by simp only [g3_el, if_neg hs25_1, if_pos hs35_2]; exact F556), (by simp only [g3_po, if_neg hs25_1, if_pos hs35_2]; exact F557), (by simp only [g3_bm, if_neg hs25_1, if_pos hs35_2]; exact Vw543), (by simp only [g3_tb, if_neg hs25_1, if_pos hs35_2]; exact F558)⟩) (by decide) (by decide)
    · refine own_pre (A := T503.setTop (mkF m 59 #[rv a0, iv p1, iv (own_at bo p1), iv (own_at bm (own_at bo p1)), iv (own_at po p1), .unset] [(.ref a0)])) (fun t k => ?_) ?_
      · show Steps p.tables e below (T503.setTop (mkF m 35 #[rv a0, iv p1, iv (own_at bo p1), iv (own_at bm (own_at bo p1)), iv (own_at po p1), .unset] [(.int (own_at bs (own_at bo p1))), (.int (own_at bm (own_at bo p1)))])) _
        refine XS.icmpYes X503.here hx rfl (pc0 := 35) (pc' := 58) rfl (hb hby d3_35) rfl (XT.ii_ne_t hs35_2) (by decide) (by decide) ?_
        show Steps p.tables e below (T503.setTop (mkF m 58 #[rv a0, iv p1, iv (own_at bo p1), iv (own_at bm (own_at bo p1)), iv (own_at po p1), .unset] [])) _
        refine XS.aloadN X503.here hx rfl (hb hby d3_58) rfl rfl ?_
        exact k
      obtain ⟨T559, X559, e559, st559⟩ := getF X503 hx hZ hown (host := "") (Or.inl (own_h hw 11 rfl)) Via.refl e503 P1 (g := (mkF m 59 #[rv a0, iv p1, iv (own_at bo p1), iv (own_at bm (own_at bo p1)), iv (own_at po p1), .unset] [(.ref a0)])) rfl rfl (hb hby d3_59)
      refine own_pre st559 ?_
      have hbn560 : own_In (own_at bm (own_at bo p1)) el.length := hb5 hs25_1
      refine own_pre (A := T559.setTop (mkF m 67 #[rv a0, iv p1, iv (own_at bo p1), iv (own_at bm (own_at bo p1)), iv (own_at po p1), iv (own_at el (own_at bm (own_at bo p1)))] [(.ref a0)])) (fun t k => ?_) ?_
      · show Steps p.tables e below (T559.setTop (mkF m 62 #[rv a0, iv p1, iv (own_at bo p1), iv (own_at bm (own_at bo p1)), iv (own_at po p1), .unset] [(.ref e1)])) _
        refine XS.iloadN X559.here hx rfl (hb hby d3_62) rfl ?_
        show Steps p.tables e below (T559.setTop (mkF m 63 #[rv a0, iv p1, iv (own_at bo p1), iv (own_at bm (own_at bo p1)), iv (own_at po p1), .unset] [(.int (own_at bm (own_at bo p1))), (.ref e1)])) _
        refine own_iaload X559 hx hZ e559 P10 hbn560 rfl rfl (hb hby d3_63) ?_
        show Steps p.tables e below (T559.setTop (mkF m 64 #[rv a0, iv p1, iv (own_at bo p1), iv (own_at bm (own_at bo p1)), iv (own_at po p1), .unset] [(.int (own_at el (own_at bm (own_at bo p1))))])) _
        refine XS.istore X559.here hx rfl (hb hby d3_64) rfl (l' := #[rv a0, iv p1, iv (own_at bo p1), iv (own_at bm (own_at bo p1)), iv (own_at po p1), iv (own_at el (own_at bm (own_at bo p1)))]) rfl ?_
        show Steps p.tables e below (T559.setTop (mkF m 66 #[rv a0, iv p1, iv (own_at bo p1), iv (own_at bm (own_at bo p1)), iv (own_at po p1), iv (own_at el (own_at bm (own_at bo p1)))] [])) _
        refine XS.aloadN X559.here hx rfl (hb hby d3_66) rfl rfl ?_
        exact k
      obtain ⟨T561, X561, e561, st561⟩ := getF X559 hx hZ hown (host := "") (Or.inl (own_h hw 11 rfl)) Via.refl e559 P1 (g := (mkF m 67 #[rv a0, iv p1, iv (own_at bo p1), iv (own_at bm (own_at bo p1)), iv (own_at po p1), iv (own_at el (own_at bm (own_at bo p1)))] [(.ref a0)])) rfl rfl (hb hby d3_67)
      refine own_pre st561 ?_
      refine own_pre (A := T561.setTop (mkF m 72 #[rv a0, iv p1, iv (own_at bo p1), iv (own_at bm (own_at bo p1)), iv (own_at po p1), iv (own_at el (own_at bm (own_at bo p1)))] [(.int p1), (.int (own_at bm (own_at bo p1))), (.ref e1)])) (fun t k => ?_) ?_
      · show Steps p.tables e below (T561.setTop (mkF m 70 #[rv a0, iv p1, iv (own_at bo p1), iv (own_at bm (own_at bo p1)), iv (own_at po p1), iv (own_at el (own_at bm (own_at bo p1)))] [(.ref e1)])) _
        refine XS.iloadN X561.here hx rfl (hb hby d3_70) rfl ?_
        show Steps p.tables e below (T561.setTop (mkF m 71 #[rv a0, iv p1, iv (own_at bo p1), iv (own_at bm (own_at bo p1)), iv (own_at po p1), iv (own_at el (own_at bm (own_at bo p1)))] [(.int (own_at bm (own_at bo p1))), (.ref e1)])) _
        refine XS.iloadN X561.here hx rfl (hb hby d3_71) rfl ?_
        exact k
      have hbn563 : own_In (own_at bm (own_at bo p1)) el.length := hb5 hs25_1
      obtain ⟨T562, h562, X562, e562, W562, V562, st562⟩ := own_iastore X561 hx hZ e561 P10 (j := (own_at bm (own_at bo p1))) (x := p1) hbn563 (g := (mkF m 72 #[rv a0, iv p1, iv (own_at bo p1), iv (own_at bm (own_at bo p1)), iv (own_at po p1), iv (own_at el (own_at bm (own_at bo p1)))] [(.int p1), (.int (own_at bm (own_at bo p1))), (.ref e1)])) rfl rfl (hb hby d3_72)
      have Kp562 : Keep h0 h562 [a0, e1, e2, e6, e7] := Kp0.wr W562 (Or.inl (List.mem_of_getElem? (i := 1) rfl))
      have Z564 : n0 ≤ h562.size := Nat.le_trans Z0 (Nat.le_of_eq W562.size.symm)
      have N562 := Fr.snoc X562 N0 gq_e1
      have Vw562 : own_Ints Z h562 e1 (el.set (own_at bm (own_at bo p1)).toNatClampNeg p1) := V562
      refine own_pre st562 ?_
      refine own_pre (A := T562.setTop (mkF m 74 #[rv a0, iv p1, iv (own_at bo p1), iv (own_at bm (own_at bo p1)), iv (own_at po p1), iv (own_at el (own_at bm (own_at bo p1)))] [(.ref a0)])) (fun t k => ?_) ?_
      · show Steps p.tables e below (T562.setTop (mkF m 73 #[rv a0, iv p1, iv (own_at bo p1), iv (own_at bm (own_at bo p1)), iv (own_at po p1), iv (own_at el (own_at bm (own_at bo p1)))] [])) _
        refine XS.aloadN X562.here hx rfl (hb hby d3_73) rfl rfl ?_
        exact k
      have F566 := (P2.other W562 (Or.inl nq_a0_e1))
      obtain ⟨T565, X565, e565, st565⟩ := getF X562 hx hZ hown (host := "") (Or.inl (own_h hw 13 rfl)) Via.refl e562 F566 (g := (mkF m 74 #[rv a0, iv p1, iv (own_at bo p1), iv (own_at bm (own_at bo p1)), iv (own_at po p1), iv (own_at el (own_at bm (own_at bo p1)))] [(.ref a0)])) rfl rfl (hb hby d3_74)
      refine own_pre st565 ?_
      refine own_pre (A := T565.setTop (mkF m 79 #[rv a0, iv p1, iv (own_at bo p1), iv (own_at bm (own_at bo p1)), iv (own_at po p1), iv (own_at el (own_at bm (own_at bo p1)))] [(.int (own_at bm (own_at bo p1))), (.int p1), (.ref e2)])) (fun t k => ?_) ?_
      · show Steps p.tables e below (T565.setTop (mkF m 77 #[rv a0, iv p1, iv (own_at bo p1), iv (own_at bm (own_at bo p1)), iv (own_at po p1), iv (own_at el (own_at bm (own_at bo p1)))] [(.ref e2)])) _
        refine XS.iloadN X565.here hx rfl (hb hby d3_77) rfl ?_
        show Steps p.tables e below (T565.setTop (mkF m 78 #[rv a0, iv p1, iv (own_at bo p1), iv (own_at bm (own_at bo p1)), iv (own_at po p1), iv (own_at el (own_at bm (own_at bo p1)))] [(.int p1), (.ref e2)])) _
        refine XS.iloadN X565.here hx rfl (hb hby d3_78) rfl ?_
        exact k
      have F568 := (P11.other W562 (Ne.symm nq_e1_e2))
      have hbn569 : own_In p1 po.length := hb3
      obtain ⟨T567, h567, X567, e567, W567, V567, st567⟩ := own_iastore X565 hx hZ e565 F568 (j := p1) (x := (own_at bm (own_at bo p1))) hbn569 (g := (mkF m 79 #[rv a0, iv p1, iv (own_at bo p1), iv (own_at bm (own_at bo p1)), iv (own_at po p1), iv (own_at el (own_at bm (own_at bo p1)))] [(.int (own_at bm (own_at bo p1))), (.int p1), (.ref e2)])) rfl rfl (hb hby d3_79)
      have Kp567 : Keep h0 h567 [a0, e1, e2, e6, e7] := Kp562.wr W567 (Or.inl (List.mem_of_getElem? (i := 2) rfl))
      have Z570 : n0 ≤ h567.size := Nat.le_trans Z564 (Nat.le_of_eq W567.size.symm)
      have N567 := Fr.snoc X567 N562 gq_e2
      have Vw567 : own_Ints Z h567 e2 (po.set p1.toNatClampNeg (own_at bm (own_at bo p1))) := V567
      refine own_pre st567 ?_
      refine own_pre (A := T567.setTop (mkF m 81 #[rv a0, iv p1, iv (own_at bo p1), iv (own_at bm (own_at bo p1)), iv (own_at po p1), iv (own_at el (own_at bm (own_at bo p1)))] [(.ref a0)])) (fun t k => ?_) ?_
      · show Steps p.tables e below (T567.setTop (mkF m 80 #[rv a0, iv p1, iv (own_at bo p1), iv (own_at bm (own_at bo p1)), iv (own_at po p1), iv (own_at el (own_at bm (own_at bo p1)))] [])) _
        refine XS.aloadN X567.here hx rfl (hb hby d3_80) rfl rfl ?_
        exact k
      have F572 := ((P1.other W562 (Or.inl nq_a0_e1)).other W567 (Or.inl nq_a0_e2))
      obtain ⟨T571, X571, e571, st571⟩ := getF X567 hx hZ hown (host := "") (Or.inl (own_h hw 11 rfl)) Via.refl e567 F572 (g := (mkF m 81 #[rv a0, iv p1, iv (own_at bo p1), iv (own_at bm (own_at bo p1)), iv (own_at po p1), iv (own_at el (own_at bm (own_at bo p1)))] [(.ref a0)])) rfl rfl (hb hby d3_81)
      refine own_pre st571 ?_
      refine own_pre (A := T571.setTop (mkF m 88 #[rv a0, iv p1, iv (own_at bo p1), iv (own_at bm (own_at bo p1)), iv (own_at po p1), iv (own_at el (own_at bm (own_at bo p1)))] [(.int (own_at el (own_at bm (own_at bo p1)))), (.int (own_at po p1)), (.ref e1)])) (fun t k => ?_) ?_
      · show Steps p.tables e below (T571.setTop (mkF m 84 #[rv a0, iv p1, iv (own_at bo p1), iv (own_at bm (own_at bo p1)), iv (own_at po p1), iv (own_at el (own_at bm (own_at bo p1)))] [(.ref e1)])) _
        refine XS.iload X571.here hx rfl (hb hby d3_84) rfl ?_
        show Steps p.tables e below (T571.setTop (mkF m 86 #[rv a0, iv p1, iv (own_at bo p1), iv (own_at bm (own_at bo p1)), iv (own_at po p1), iv (own_at el (own_at bm (own_at bo p1)))] [(.int (own_at po p1)), (.ref e1)])) _
        refine XS.iload X571.here hx rfl (hb hby d3_86) rfl ?_
        exact k
      have F574 := (Vw562.other W567 nq_e1_e2)
      have hbn575 : own_In (own_at po p1) (el.set (own_at bm (own_at bo p1)).toNatClampNeg p1).length := (by first | exact hb6 hs25_1 | (simp only [List.length_set]; exact hb6 hs25_1))
      obtain ⟨T573, h573, X573, e573, W573, V573, st573⟩ := own_iastore X571 hx hZ e571 F574 (j := (own_at po p1)) (x := (own_at el (own_at bm (own_at bo p1)))) hbn575 (g := (mkF m 88 #[rv a0, iv p1, iv (own_at bo p1), iv (own_at bm (own_at bo p1)), iv (own_at po p1), iv (own_at el (own_at bm (own_at bo p1)))] [(.int (own_at el (own_at bm (own_at bo p1)))), (.int (own_at po p1)), (.ref e1)])) rfl rfl (hb hby d3_88)
      have Kp573 : Keep h0 h573 [a0, e1, e2, e6, e7] := Kp567.wr W573 (Or.inl (List.mem_of_getElem? (i := 1) rfl))
      have Z576 : n0 ≤ h573.size := Nat.le_trans Z570 (Nat.le_of_eq W573.size.symm)
      have N573 := Fr.snoc X573 N567 gq_e1
      have Vw573 : own_Ints Z h573 e1 ((el.set (own_at bm (own_at bo p1)).toNatClampNeg p1).set (own_at po p1).toNatClampNeg (own_at el (own_at bm (own_at bo p1)))) := V573
      refine own_pre st573 ?_
      refine own_pre (A := T573.setTop (mkF m 90 #[rv a0, iv p1, iv (own_at bo p1), iv (own_at bm (own_at bo p1)), iv (own_at po p1), iv (own_at el (own_at bm (own_at bo p1)))] [(.ref a0)])) (fun t k => ?_) ?_
      · show Steps p.tables e below (T573.setTop (mkF m 89 #[rv a0, iv p1, iv (own_at bo p1), iv (own_at bm (own_at bo p1)), iv (own_at po p1), iv (own_at el (own_at bm (own_at bo p1)))] [])) _
        refine XS.aloadN X573.here hx rfl (hb hby d3_89) rfl rfl ?_
        exact k
      have F578 := ((F566.other W567 (Or.inl nq_a0_e2)).other W573 (Or.inl nq_a0_e1))
      obtain ⟨T577, X577, e577, st577⟩ := getF X573 hx hZ hown (host := "") (Or.inl (own_h hw 13 rfl)) Via.refl e573 F578 (g := (mkF m 90 #[rv a0, iv p1, iv (own_at bo p1), iv (own_at bm (own_at bo p1)), iv (own_at po p1), iv (own_at el (own_at bm (own_at bo p1)))] [(.ref a0)])) rfl rfl (hb hby d3_90)
      refine own_pre st577 ?_
      refine own_pre (A := T577.setTop (mkF m 97 #[rv a0, iv p1, iv (own_at bo p1), iv (own_at bm (own_at bo p1)), iv (own_at po p1), iv (own_at el (own_at bm (own_at bo p1)))] [(.int (own_at po p1)), (.int (own_at el (own_at bm (own_at bo p1)))), (.ref e2)])) (fun t k => ?_) ?_
      · show Steps p.tables e below (T577.setTop (mkF m 93 #[rv a0, iv p1, iv (own_at bo p1), iv (own_at bm (own_at bo p1)), iv (own_at po p1), iv (own_at el (own_at bm (own_at bo p1)))] [(.ref e2)])) _
        refine XS.iload X577.here hx rfl (hb hby d3_93) rfl ?_
        show Steps p.tables e below (T577.setTop (mkF m 95 #[rv a0, iv p1, iv (own_at bo p1), iv (own_at bm (own_at bo p1)), iv (own_at po p1), iv (own_at el (own_at bm (own_at bo p1)))] [(.int (own_at el (own_at bm (own_at bo p1)))), (.ref e2)])) _
        refine XS.iload X577.here hx rfl (hb hby d3_95) rfl ?_
        exact k
      have F580 := (Vw567.other W573 (Ne.symm nq_e1_e2))
      have hbn581 : own_In (own_at el (own_at bm (own_at bo p1))) (po.set p1.toNatClampNeg (own_at bm (own_at bo p1))).length := (by first | exact hb7 hs25_1 | (simp only [List.length_set]; exact hb7 hs25_1))
      obtain ⟨T579, h579, X579, e579, W579, V579, st579⟩ := own_iastore X577 hx hZ e577 F580 (j := (own_at el (own_at bm (own_at bo p1)))) (x := (own_at po p1)) hbn581 (g := (mkF m 97 #[rv a0, iv p1, iv (own_at bo p1), iv (own_at bm (own_at bo p1)), iv (own_at po p1), iv (own_at el (own_at bm (own_at bo p1)))] [(.int (own_at po p1)), (.int (own_at el (own_at bm (own_at bo p1)))), (.ref e2)])) rfl rfl (hb hby d3_97)
      have Kp579 : Keep h0 h579 [a0, e1, e2, e6, e7] := Kp573.wr W579 (Or.inl (List.mem_of_getElem? (i := 2) rfl))
      have Z582 : n0 ≤ h579.size := Nat.le_trans Z576 (Nat.le_of_eq W579.size.symm)
      have N579 := Fr.snoc X579 N573 gq_e2
      have Vw579 : own_Ints Z h579 e2 ((po.set p1.toNatClampNeg (own_at bm (own_at bo p1))).set (own_at el (own_at bm (own_at bo p1))).toNatClampNeg (own_at po p1)) := V579
      refine own_pre st579 ?_
      refine own_pre (A := T579.setTop (mkF m 99 #[rv a0, iv p1, iv (own_at bo p1), iv (own_at bm (own_at bo p1)), iv (own_at po p1), iv (own_at el (own_at bm (own_at bo p1)))] [(.ref a0)])) (fun t k => ?_) ?_
      · show Steps p.tables e below (T579.setTop (mkF m 98 #[rv a0, iv p1, iv (own_at bo p1), iv (own_at bm (own_at bo p1)), iv (own_at po p1), iv (own_at el (own_at bm (own_at bo p1)))] [])) _
        refine XS.aloadN X579.here hx rfl (hb hby d3_98) rfl rfl ?_
        exact k
      have F584 := ((((P6.other W562 (Or.inl nq_a0_e1)).other W567 (Or.inl nq_a0_e2)).other W573 (Or.inl nq_a0_e1)).other W579 (Or.inl nq_a0_e2))
      obtain ⟨T583, X583, e583, st583⟩ := getF X579 hx hZ hown (host := "") (Or.inl (own_h hw 21 rfl)) Via.refl e579 F584 (g := (mkF m 99 #[rv a0, iv p1, iv (own_at bo p1), iv (own_at bm (own_at bo p1)), iv (own_at po p1), iv (own_at el (own_at bm (own_at bo p1)))] [(.ref a0)])) rfl rfl (hb hby d3_99)
      refine own_pre st583 ?_
      refine own_pre (A := T583.setTop (mkF m 106 #[rv a0, iv p1, iv (own_at bo p1), iv (own_at bm (own_at bo p1)), iv (own_at po p1), iv (own_at el (own_at bm (own_at bo p1)))] [(.int ((own_at bm (own_at bo p1)) + (1:Int32))), (.int (own_at bo p1)), (.ref e6)])) (fun t k => ?_) ?_
      · show Steps p.tables e below (T583.setTop (mkF m 102 #[rv a0, iv p1, iv (own_at bo p1), iv (own_at bm (own_at bo p1)), iv (own_at po p1), iv (own_at el (own_at bm (own_at bo p1)))] [(.ref e6)])) _
        refine XS.iloadN X583.here hx rfl (hb hby d3_102) rfl ?_
        show Steps p.tables e below (T583.setTop (mkF m 103 #[rv a0, iv p1, iv (own_at bo p1), iv (own_at bm (own_at bo p1)), iv (own_at po p1), iv (own_at el (own_at bm (own_at bo p1)))] [(.int (own_at bo p1)), (.ref e6)])) _
        refine XS.iloadN X583.here hx rfl (hb hby d3_103) rfl ?_
        show Steps p.tables e below (T583.setTop (mkF m 104 #[rv a0, iv p1, iv (own_at bo p1), iv (own_at bm (own_at bo p1)), iv (own_at po p1), iv (own_at el (own_at bm (own_at bo p1)))] [(.int (own_at bm (own_at bo p1))), (.int (own_at bo p1)), (.ref e6)])) _
        refine XS.iconst X583.here hx rfl (hb hby d3_104) ?_
        show Steps p.tables e below (T583.setTop (mkF m 105 #[rv a0, iv p1, iv (own_at bo p1), iv (own_at bm (own_at bo p1)), iv (own_at po p1), iv (own_at el (own_at bm (own_at bo p1)))] [(.int (1:Int32)), (.int (own_at bm (own_at bo p1))), (.int (own_at bo p1)), (.ref e6)])) _
        refine XS.iadd X583.here hx rfl (hb hby d3_105) rfl ?_
        exact k
      have F586 := ((((P14.other W562 (Ne.symm nq_e1_e6)).other W567 (Ne.symm nq_e2_e6)).other W573 (Ne.symm nq_e1_e6)).other W579 (Ne.symm nq_e2_e6))
      have hbn587 : own_In (own_at bo p1) bm.length := hb2
      obtain ⟨T585, h585, X585, e585, W585, V585, st585⟩ := own_iastore X583 hx hZ e583 F586 (j := (own_at bo p1)) (x := ((own_at bm (own_at bo p1)) + (1:Int32))) hbn587 (g := (mkF m 106 #[rv a0, iv p1, iv (own_at bo p1), iv (own_at bm (own_at bo p1)), iv (own_at po p1), iv (own_at el (own_at bm (own_at bo p1)))] [(.int ((own_at bm (own_at bo p1)) + (1:Int32))), (.int (own_at bo p1)), (.ref e6)])) rfl rfl (hb hby d3_106)
      have Kp585 : Keep h0 h585 [a0, e1, e2, e6, e7] := Kp579.wr W585 (Or.inl (List.mem_of_getElem? (i := 3) rfl))
      have Z588 : n0 ≤ h585.size := Nat.le_trans Z582 (Nat.le_of_eq W585.size.symm)
      have N585 := Fr.snoc X585 N579 gq_e6
      have Vw585 : own_Ints Z h585 e6 (bm.set (own_at bo p1).toNatClampNeg ((own_at bm (own_at bo p1)) + (1:Int32))) := V585
      refine own_pre st585 ?_
      have F589 := (((F572.other W573 (Or.inl nq_a0_e1)).other W579 (Or.inl nq_a0_e2)).other W585 (Or.inl nq_a0_e6))
      have F590 := ((F578.other W579 (Or.inl nq_a0_e2)).other W585 (Or.inl nq_a0_e6))
      have F591 := (((((P3.other W562 (Or.inl nq_a0_e1)).other W567 (Or.inl nq_a0_e2)).other W573 (Or.inl nq_a0_e1)).other W579 (Or.inl nq_a0_e2)).other W585 (Or.inl nq_a0_e6))
      have F592 := (((((P4.other W562 (Or.inl nq_a0_e1)).other W567 (Or.inl nq_a0_e2)).other W573 (Or.inl nq_a0_e1)).other W579 (Or.inl nq_a0_e2)).other W585 (Or.inl nq_a0_e6))
      have F593 := (((((P5.other W562 (Or.inl nq_a0_e1)).other W567 (Or.inl nq_a0_e2)).other W573 (Or.inl nq_a0_e1)).other W579 (Or.inl nq_a0_e2)).other W585 (Or.inl nq_a0_e6))
      have F594 := (F584.other W585 (Or.inl nq_a0_e6))
      have F595 := (((((P7.other W562 (Or.inl nq_a0_e1)).other W567 (Or.inl nq_a0_e2)).other W573 (Or.inl nq_a0_e1)).other W579 (Or.inl nq_a0_e2)).other W585 (Or.inl nq_a0_e6))
      have F596 := (((((P8.other W562 (Or.inl nq_a0_e1)).other W567 (Or.inl nq_a0_e2)).other W573 (Or.inl nq_a0_e1)).other W579 (Or.inl nq_a0_e2)).other W585 (Or.inl nq_a0_e6))
      have F597 := (((((P9.other W562 (Or.inl nq_a0_e1)).other W567 (Or.inl nq_a0_e2)).other W573 (Or.inl nq_a0_e1)).other W579 (Or.inl nq_a0_e2)).other W585 (Or.inl nq_a0_e6))
      have F598 := ((Vw573.other W579 nq_e1_e2).other W585 nq_e1_e6)
      have F599 := (Vw579.other W585 nq_e2_e6)
      have F600 := (((((P15.other W562 (Ne.symm nq_e1_e7)).other W567 (Ne.symm nq_e2_e7)).other W573 (Ne.symm nq_e1_e7)).other W579 (Ne.symm nq_e2_e7)).other W585 (Ne.symm nq_e6_e7))
      exact own_end X585 (BodyLoose.notSynchronized Bd) (fun _ => rfl) (v := none) (fun fs hr => X585.returnOut hx Bd.returns (hb hby d3_107) hr) (by show Q3 Z a0 p1 e1 e2 e3 e4 e5 e6 e7 el po bo bs bm tb bc tc h0 n0 _ T585.heap _; rw [e585]; exact ⟨rfl, N585, Kp585, (by first | exact F589 | (simp only [if_neg hs25_1, if_neg hs35_2]; exact F589)), (by first | exact F590 | (simp only [if_neg hs25_1, if_neg hs35_2]; exact F590)), (by first | exact F591 | (simp only [if_neg hs25_1, if_neg hs35_2]; exact F591)), (by first | exact F592 | (simp only [if_neg hs25_1, if_neg hs35_2]; exact F592)), (by first | exact F593 | (simp only [if_neg hs25_1, if_neg hs35_2]; exact F593)), (by first | exact F594 | (simp only [if_neg hs25_1, if_neg hs35_2]; exact F594)), (by first | exact F595 | (simp only [if_neg hs25_1, if_neg hs35_2]; exact F595)), (by first | exact F596 | (simp only [if_neg hs25_1, if_neg hs35_2]; exact F596)), (by simp only [g3_tc, if_neg hs25_1, if_neg hs35_2]; exact F597), (by simp only [g3_el, if_neg hs25_1, if_neg hs35_2]; exact F598), (by simp only [g3_po, if_neg hs25_1, if_neg hs35_2]; exact F599), (by simp only [g3_bm, if_neg hs25_1, if_neg hs35_2]; exact Vw585), (by simp only [g3_tb, if_neg hs25_1, if_neg hs35_2]; exact F600)⟩) (by decide) (by decide)
theorem d4_0 : decode prog_16_method_8_code 0 = .ok (.aload_n 0, 1) := by decide +kernel
theorem d4_1 : decode prog_16_method_8_code 1 = .ok (.getfield 25, 3) := by decide +kernel
theorem d4_4 : decode prog_16_method_8_code 4 = .ok (.iload_n 1, 1) := by decide +kernel
theorem d4_5 : decode prog_16_method_8_code 5 = .ok (.iaload, 1) := by decide +kernel
theorem d4_6 : decode prog_16_method_8_code 6 = .ok (.ireturn, 1) := by decide +kernel
theorem ef4 (m : MethodId) (a0 : Addr) (p1 : Int32) : entryFrame m #[(.ref a0), (.int p1)] 2 = mkF m 0 #[rv a0, iv p1] [] := by first | (simp [entryFrame, mkF, argsToLocals, Value.category]; done) | rfl
def f4 (p1 : Int32) (bm : List Int32) : Int32 := (own_at bm p1)
def Q4 (Z : State) (a0 : Addr) (p1 : Int32) (e6 : Addr) (bm : List Int32) (h0 : Heap) (n0 : Nat) (v : Option Value) (h : Heap) (L : List Loc) : Prop := v = some (.int (f4 p1 bm)) ∧ Fr n0 L ∧ h = h0
set_option maxRecDepth 65536 in
set_option maxHeartbeats 40000000 in
theorem rm4 (l : Launch) (Z : State) (aZ : Array Value) (hw : ∀ d ∈ tables_1, d.before aZ Z = true) (ws : List Jvm.Cond) (a0 : Addr) (p1 : Int32) (e6 : Addr) (bm : List Int32) (h0 : Heap) (n0 : Nat) (Z0 : n0 ≤ h0.size) (P0 : Fld Z h0 a0 "com/example/spare_calculus/sparecalculus/bisim/Partition" "blockMarkedEnd" "[I" (.ref e6)) (P1 : own_Ints Z h0 e6 bm) (hin : own_In p1 bm.length) :
    MetFree l (⟨"com/example/spare_calculus/sparecalculus/bisim/Partition", "markedEnd", "(I)I"⟩ : MethodName) (head1 (Jvm.Cond.code (⟨"com/example/spare_calculus/sparecalculus/bisim/Partition", "markedEnd", "(I)I"⟩ : MethodName) prog_16_method_8_code 2 (some .int) :: ws) ({ frames := 0, cells := 0, slots := 0, locals := 0 } : Room)) (fun a U => a = #[(.ref a0), (.int p1)] ∧ Z.Warmed39 U.vm ∧ U.heap = h0) (fun _ _ _ _ _ => True) (fun _ U o U' => ∃ v L, o = .returned v ∧ Q4 Z a0 p1 e6 bm h0 n0 v U'.heap L ∧ FrameEnd U o U' L ({ frames := 0, cells := 0, slots := 0, locals := 0 } : Room).cells ({ frames := 0, cells := 0, slots := 0, locals := 0 } : Room).slots) := by
  refine MetFree.of_bodySF (plainFor_of_name own_pn0) hisR ?_
  intro p e s m args below meth c s₁ Bd hml0 hP hK
  obtain ⟨rfl, hZ, hh⟩ := hP
  have hx := Bd.exec
  have hby := Bd.bytes
  have hml : c.maxLocals = 2 := hml0
  have hown : s.vm.findClass "com/example/spare_calculus/sparecalculus/bisim/Partition" = some m.cls := findClass_of_methodNamed Bd.named
  have hnm := (name_of_methodNamed Bd.named Bd.method).1
  have X0 : Stand p l e ({ frames := 0, cells := 0, slots := 0, locals := 0 } : Room) s m #[(.ref a0), (.int p1)] below meth c s₁ [] 0 0 := Stand.of_body Bd
  have e0 : s₁.heap = h0 := by rw [← hh, Bd.state]; rfl
  have N0 := Fr.nil n0
  show own_Goes p e below s (Q4 Z a0 p1 e6 bm h0 n0) ({ frames := 0, cells := 0, slots := 0, locals := 0 } : Room).cells ({ frames := 0, cells := 0, slots := 0, locals := 0 } : Room).slots _
  refine own_pre (fun t k => castTop (ef4 m a0 p1) k) ?_
  refine own_pre (A := s₁.setTop (mkF m 1 #[rv a0, iv p1] [(.ref a0)])) (fun t k => ?_) ?_
  · show Steps p.tables e below (s₁.setTop (mkF m 0 #[rv a0, iv p1] [])) _
    refine XS.aloadN X0.here hx rfl (hb hby d4_0) rfl rfl ?_
    exact k
  obtain ⟨T601, X601, e601, st601⟩ := getF X0 hx hZ hown (host := "") (Or.inl (own_h hw 21 rfl)) Via.refl e0 P0 (g := (mkF m 1 #[rv a0, iv p1] [(.ref a0)])) rfl rfl (hb hby d4_1)
  refine own_pre st601 ?_
  have hbn602 : own_In p1 bm.length := hin
  refine own_pre (A := T601.setTop (mkF m 6 #[rv a0, iv p1] [(.int (own_at bm p1))])) (fun t k => ?_) ?_
  · show Steps p.tables e below (T601.setTop (mkF m 4 #[rv a0, iv p1] [(.ref e6)])) _
    refine XS.iloadN X601.here hx rfl (hb hby d4_4) rfl ?_
    show Steps p.tables e below (T601.setTop (mkF m 5 #[rv a0, iv p1] [(.int p1), (.ref e6)])) _
    refine own_iaload X601 hx hZ e601 P1 hbn602 rfl rfl (hb hby d4_5) ?_
    exact k
  have hv603 : (own_at bm p1) = f4 p1 bm := by rfl
  exact own_end X601 (BodyLoose.notSynchronized Bd) (fun h => by rw [Bd.returns] at h; cases h) (v := some (.int (own_at bm p1))) (fun fs hr => retOut X601 hx Bd.returns rfl (by simp [Value.isRef, FieldType.isReference]) (hb hby d4_6) hr) (by show Q4 Z a0 p1 e6 bm h0 n0 _ T601.heap _; rw [e601]; exact ⟨(congrArg (fun z => some (Value.int z)) hv603), N0, rfl⟩) (by decide) (by decide)
theorem d5_0 : decode prog_16_method_11_code 0 = .ok (.aload_n 0, 1) := by decide +kernel
theorem d5_1 : decode prog_16_method_11_code 1 = .ok (.getfield 35, 3) := by decide +kernel
theorem d5_4 : decode prog_16_method_11_code 4 = .ok (.ireturn, 1) := by decide +kernel
theorem ef5 (m : MethodId) (a0 : Addr) : entryFrame m #[(.ref a0)] 1 = mkF m 0 #[rv a0] [] := by first | (simp [entryFrame, mkF, argsToLocals, Value.category]; done) | rfl
def f5 (iv : Int32) : Int32 := iv
def Q5 (Z : State) (a0 : Addr) (iv : Int32) (h0 : Heap) (n0 : Nat) (v : Option Value) (h : Heap) (L : List Loc) : Prop := v = some (.int (f5 iv)) ∧ Fr n0 L ∧ h = h0
set_option maxRecDepth 65536 in
set_option maxHeartbeats 40000000 in
theorem rm5 (l : Launch) (Z : State) (aZ : Array Value) (hw : ∀ d ∈ tables_1, d.before aZ Z = true) (ws : List Jvm.Cond) (a0 : Addr) (iv : Int32) (h0 : Heap) (n0 : Nat) (Z0 : n0 ≤ h0.size) (P0 : Fld Z h0 a0 "com/example/spare_calculus/sparecalculus/bisim/Partition" "touchedBlockCount" "I" (.int iv)) :
    MetFree l (⟨"com/example/spare_calculus/sparecalculus/bisim/Partition", "touchedCount", "()I"⟩ : MethodName) (head1 (Jvm.Cond.code (⟨"com/example/spare_calculus/sparecalculus/bisim/Partition", "touchedCount", "()I"⟩ : MethodName) prog_16_method_11_code 1 (some .int) :: ws) ({ frames := 0, cells := 0, slots := 0, locals := 0 } : Room)) (fun a U => a = #[(.ref a0)] ∧ Z.Warmed39 U.vm ∧ U.heap = h0) (fun _ _ _ _ _ => True) (fun _ U o U' => ∃ v L, o = .returned v ∧ Q5 Z a0 iv h0 n0 v U'.heap L ∧ FrameEnd U o U' L ({ frames := 0, cells := 0, slots := 0, locals := 0 } : Room).cells ({ frames := 0, cells := 0, slots := 0, locals := 0 } : Room).slots) := by
  refine MetFree.of_bodySF (plainFor_of_name own_pn0) hisR ?_
  intro p e s m args below meth c s₁ Bd hml0 hP hK
  obtain ⟨rfl, hZ, hh⟩ := hP
  have hx := Bd.exec
  have hby := Bd.bytes
  have hml : c.maxLocals = 1 := hml0
  have hown : s.vm.findClass "com/example/spare_calculus/sparecalculus/bisim/Partition" = some m.cls := findClass_of_methodNamed Bd.named
  have hnm := (name_of_methodNamed Bd.named Bd.method).1
  have X0 : Stand p l e ({ frames := 0, cells := 0, slots := 0, locals := 0 } : Room) s m #[(.ref a0)] below meth c s₁ [] 0 0 := Stand.of_body Bd
  have e0 : s₁.heap = h0 := by rw [← hh, Bd.state]; rfl
  have N0 := Fr.nil n0
  show own_Goes p e below s (Q5 Z a0 iv h0 n0) ({ frames := 0, cells := 0, slots := 0, locals := 0 } : Room).cells ({ frames := 0, cells := 0, slots := 0, locals := 0 } : Room).slots _
  refine own_pre (fun t k => castTop (ef5 m a0) k) ?_
  refine own_pre (A := s₁.setTop (mkF m 1 #[rv a0] [(.ref a0)])) (fun t k => ?_) ?_
  · show Steps p.tables e below (s₁.setTop (mkF m 0 #[rv a0] [])) _
    refine XS.aloadN X0.here hx rfl (hb hby d5_0) rfl rfl ?_
    exact k
  obtain ⟨T604, X604, e604, st604⟩ := getF X0 hx hZ hown (host := "") (Or.inl (own_h hw 32 rfl)) Via.refl e0 P0 (g := (mkF m 1 #[rv a0] [(.ref a0)])) rfl rfl (hb hby d5_1)
  refine own_pre st604 ?_
  have hv605 : iv = f5 iv := by rfl
  exact own_end X604 (BodyLoose.notSynchronized Bd) (fun h => by rw [Bd.returns] at h; cases h) (v := some (.int iv)) (fun fs hr => retOut X604 hx Bd.returns rfl (by simp [Value.isRef, FieldType.isReference]) (hb hby d5_4) hr) (by show Q5 Z a0 iv h0 n0 _ T604.heap _; rw [e604]; exact ⟨(congrArg (fun z => some (Value.int z)) hv605), N0, rfl⟩) (by decide) (by decide)
theorem d6_0 : decode prog_16_method_12_code 0 = .ok (.aload_n 0, 1) := by decide +kernel
theorem d6_1 : decode prog_16_method_12_code 1 = .ok (.getfield 28, 3) := by decide +kernel
theorem d6_4 : decode prog_16_method_12_code 4 = .ok (.iload_n 1, 1) := by decide +kernel
theorem d6_5 : decode prog_16_method_12_code 5 = .ok (.iaload, 1) := by decide +kernel
theorem d6_6 : decode prog_16_method_12_code 6 = .ok (.ireturn, 1) := by decide +kernel
theorem ef6 (m : MethodId) (a0 : Addr) (p1 : Int32) : entryFrame m #[(.ref a0), (.int p1)] 2 = mkF m 0 #[rv a0, iv p1] [] := by first | (simp [entryFrame, mkF, argsToLocals, Value.category]; done) | rfl
def f6 (p1 : Int32) (tb : List Int32) : Int32 := (own_at tb p1)
def Q6 (Z : State) (a0 : Addr) (p1 : Int32) (e7 : Addr) (tb : List Int32) (h0 : Heap) (n0 : Nat) (v : Option Value) (h : Heap) (L : List Loc) : Prop := v = some (.int (f6 p1 tb)) ∧ Fr n0 L ∧ h = h0
set_option maxRecDepth 65536 in
set_option maxHeartbeats 40000000 in
theorem rm6 (l : Launch) (Z : State) (aZ : Array Value) (hw : ∀ d ∈ tables_1, d.before aZ Z = true) (ws : List Jvm.Cond) (a0 : Addr) (p1 : Int32) (e7 : Addr) (tb : List Int32) (h0 : Heap) (n0 : Nat) (Z0 : n0 ≤ h0.size) (P0 : Fld Z h0 a0 "com/example/spare_calculus/sparecalculus/bisim/Partition" "touchedBlocks" "[I" (.ref e7)) (P1 : own_Ints Z h0 e7 tb) (hin : own_In p1 tb.length) :
    MetFree l (⟨"com/example/spare_calculus/sparecalculus/bisim/Partition", "touched", "(I)I"⟩ : MethodName) (head1 (Jvm.Cond.code (⟨"com/example/spare_calculus/sparecalculus/bisim/Partition", "touched", "(I)I"⟩ : MethodName) prog_16_method_12_code 2 (some .int) :: ws) ({ frames := 0, cells := 0, slots := 0, locals := 0 } : Room)) (fun a U => a = #[(.ref a0), (.int p1)] ∧ Z.Warmed39 U.vm ∧ U.heap = h0) (fun _ _ _ _ _ => True) (fun _ U o U' => ∃ v L, o = .returned v ∧ Q6 Z a0 p1 e7 tb h0 n0 v U'.heap L ∧ FrameEnd U o U' L ({ frames := 0, cells := 0, slots := 0, locals := 0 } : Room).cells ({ frames := 0, cells := 0, slots := 0, locals := 0 } : Room).slots) := by
  refine MetFree.of_bodySF (plainFor_of_name own_pn0) hisR ?_
  intro p e s m args below meth c s₁ Bd hml0 hP hK
  obtain ⟨rfl, hZ, hh⟩ := hP
  have hx := Bd.exec
  have hby := Bd.bytes
  have hml : c.maxLocals = 2 := hml0
  have hown : s.vm.findClass "com/example/spare_calculus/sparecalculus/bisim/Partition" = some m.cls := findClass_of_methodNamed Bd.named
  have hnm := (name_of_methodNamed Bd.named Bd.method).1
  have X0 : Stand p l e ({ frames := 0, cells := 0, slots := 0, locals := 0 } : Room) s m #[(.ref a0), (.int p1)] below meth c s₁ [] 0 0 := Stand.of_body Bd
  have e0 : s₁.heap = h0 := by rw [← hh, Bd.state]; rfl
  have N0 := Fr.nil n0
  show own_Goes p e below s (Q6 Z a0 p1 e7 tb h0 n0) ({ frames := 0, cells := 0, slots := 0, locals := 0 } : Room).cells ({ frames := 0, cells := 0, slots := 0, locals := 0 } : Room).slots _
  refine own_pre (fun t k => castTop (ef6 m a0 p1) k) ?_
  refine own_pre (A := s₁.setTop (mkF m 1 #[rv a0, iv p1] [(.ref a0)])) (fun t k => ?_) ?_
  · show Steps p.tables e below (s₁.setTop (mkF m 0 #[rv a0, iv p1] [])) _
    refine XS.aloadN X0.here hx rfl (hb hby d6_0) rfl rfl ?_
    exact k
  obtain ⟨T606, X606, e606, st606⟩ := getF X0 hx hZ hown (host := "") (Or.inl (own_h hw 23 rfl)) Via.refl e0 P0 (g := (mkF m 1 #[rv a0, iv p1] [(.ref a0)])) rfl rfl (hb hby d6_1)
  refine own_pre st606 ?_
  have hbn607 : own_In p1 tb.length := hin
  refine own_pre (A := T606.setTop (mkF m 6 #[rv a0, iv p1] [(.int (own_at tb p1))])) (fun t k => ?_) ?_
  · show Steps p.tables e below (T606.setTop (mkF m 4 #[rv a0, iv p1] [(.ref e7)])) _
    refine XS.iloadN X606.here hx rfl (hb hby d6_4) rfl ?_
    show Steps p.tables e below (T606.setTop (mkF m 5 #[rv a0, iv p1] [(.int p1), (.ref e7)])) _
    refine own_iaload X606 hx hZ e606 P1 hbn607 rfl rfl (hb hby d6_5) ?_
    exact k
  have hv608 : (own_at tb p1) = f6 p1 tb := by rfl
  exact own_end X606 (BodyLoose.notSynchronized Bd) (fun h => by rw [Bd.returns] at h; cases h) (v := some (.int (own_at tb p1))) (fun fs hr => retOut X606 hx Bd.returns rfl (by simp [Value.isRef, FieldType.isReference]) (hb hby d6_6) hr) (by show Q6 Z a0 p1 e7 tb h0 n0 _ T606.heap _; rw [e606]; exact ⟨(congrArg (fun z => some (Value.int z)) hv608), N0, rfl⟩) (by decide) (by decide)
theorem d7_0 : decode prog_16_method_7_code 0 = .ok (.aload_n 0, 1) := by decide +kernel
theorem d7_1 : decode prog_16_method_7_code 1 = .ok (.getfield 7, 3) := by decide +kernel
theorem d7_4 : decode prog_16_method_7_code 4 = .ok (.iload_n 1, 1) := by decide +kernel
theorem d7_5 : decode prog_16_method_7_code 5 = .ok (.iaload, 1) := by decide +kernel
theorem d7_6 : decode prog_16_method_7_code 6 = .ok (.ireturn, 1) := by decide +kernel
theorem ef7 (m : MethodId) (a0 : Addr) (p1 : Int32) : entryFrame m #[(.ref a0), (.int p1)] 2 = mkF m 0 #[rv a0, iv p1] [] := by first | (simp [entryFrame, mkF, argsToLocals, Value.category]; done) | rfl
def f7 (p1 : Int32) (el : List Int32) : Int32 := (own_at el p1)
def Q7 (Z : State) (a0 : Addr) (p1 : Int32) (e1 : Addr) (el : List Int32) (h0 : Heap) (n0 : Nat) (v : Option Value) (h : Heap) (L : List Loc) : Prop := v = some (.int (f7 p1 el)) ∧ Fr n0 L ∧ h = h0
set_option maxRecDepth 65536 in
set_option maxHeartbeats 40000000 in
theorem rm7 (l : Launch) (Z : State) (aZ : Array Value) (hw : ∀ d ∈ tables_1, d.before aZ Z = true) (ws : List Jvm.Cond) (a0 : Addr) (p1 : Int32) (e1 : Addr) (el : List Int32) (h0 : Heap) (n0 : Nat) (Z0 : n0 ≤ h0.size) (P0 : Fld Z h0 a0 "com/example/spare_calculus/sparecalculus/bisim/Partition" "elements" "[I" (.ref e1)) (P1 : own_Ints Z h0 e1 el) (hin : own_In p1 el.length) :
    MetFree l (⟨"com/example/spare_calculus/sparecalculus/bisim/Partition", "state", "(I)I"⟩ : MethodName) (head1 (Jvm.Cond.code (⟨"com/example/spare_calculus/sparecalculus/bisim/Partition", "state", "(I)I"⟩ : MethodName) prog_16_method_7_code 2 (some .int) :: ws) ({ frames := 0, cells := 0, slots := 0, locals := 0 } : Room)) (fun a U => a = #[(.ref a0), (.int p1)] ∧ Z.Warmed39 U.vm ∧ U.heap = h0) (fun _ _ _ _ _ => True) (fun _ U o U' => ∃ v L, o = .returned v ∧ Q7 Z a0 p1 e1 el h0 n0 v U'.heap L ∧ FrameEnd U o U' L ({ frames := 0, cells := 0, slots := 0, locals := 0 } : Room).cells ({ frames := 0, cells := 0, slots := 0, locals := 0 } : Room).slots) := by
  refine MetFree.of_bodySF (plainFor_of_name own_pn0) hisR ?_
  intro p e s m args below meth c s₁ Bd hml0 hP hK
  obtain ⟨rfl, hZ, hh⟩ := hP
  have hx := Bd.exec
  have hby := Bd.bytes
  have hml : c.maxLocals = 2 := hml0
  have hown : s.vm.findClass "com/example/spare_calculus/sparecalculus/bisim/Partition" = some m.cls := findClass_of_methodNamed Bd.named
  have hnm := (name_of_methodNamed Bd.named Bd.method).1
  have X0 : Stand p l e ({ frames := 0, cells := 0, slots := 0, locals := 0 } : Room) s m #[(.ref a0), (.int p1)] below meth c s₁ [] 0 0 := Stand.of_body Bd
  have e0 : s₁.heap = h0 := by rw [← hh, Bd.state]; rfl
  have N0 := Fr.nil n0
  show own_Goes p e below s (Q7 Z a0 p1 e1 el h0 n0) ({ frames := 0, cells := 0, slots := 0, locals := 0 } : Room).cells ({ frames := 0, cells := 0, slots := 0, locals := 0 } : Room).slots _
  refine own_pre (fun t k => castTop (ef7 m a0 p1) k) ?_
  refine own_pre (A := s₁.setTop (mkF m 1 #[rv a0, iv p1] [(.ref a0)])) (fun t k => ?_) ?_
  · show Steps p.tables e below (s₁.setTop (mkF m 0 #[rv a0, iv p1] [])) _
    refine XS.aloadN X0.here hx rfl (hb hby d7_0) rfl rfl ?_
    exact k
  obtain ⟨T609, X609, e609, st609⟩ := getF X0 hx hZ hown (host := "") (Or.inl (own_h hw 11 rfl)) Via.refl e0 P0 (g := (mkF m 1 #[rv a0, iv p1] [(.ref a0)])) rfl rfl (hb hby d7_1)
  refine own_pre st609 ?_
  have hbn610 : own_In p1 el.length := hin
  refine own_pre (A := T609.setTop (mkF m 6 #[rv a0, iv p1] [(.int (own_at el p1))])) (fun t k => ?_) ?_
  · show Steps p.tables e below (T609.setTop (mkF m 4 #[rv a0, iv p1] [(.ref e1)])) _
    refine XS.iloadN X609.here hx rfl (hb hby d7_4) rfl ?_
    show Steps p.tables e below (T609.setTop (mkF m 5 #[rv a0, iv p1] [(.int p1), (.ref e1)])) _
    refine own_iaload X609 hx hZ e609 P1 hbn610 rfl rfl (hb hby d7_5) ?_
    exact k
  have hv611 : (own_at el p1) = f7 p1 el := by rfl
  exact own_end X609 (BodyLoose.notSynchronized Bd) (fun h => by rw [Bd.returns] at h; cases h) (v := some (.int (own_at el p1))) (fun fs hr => retOut X609 hx Bd.returns rfl (by simp [Value.isRef, FieldType.isReference]) (hb hby d7_6) hr) (by show Q7 Z a0 p1 e1 el h0 n0 _ T609.heap _; rw [e609]; exact ⟨(congrArg (fun z => some (Value.int z)) hv611), N0, rfl⟩) (by decide) (by decide)
theorem d8_0 : decode prog_16_method_9_code 0 = .ok (.aload_n 0, 1) := by decide +kernel
theorem d8_1 : decode prog_16_method_9_code 1 = .ok (.getfield 13, 3) := by decide +kernel
theorem d8_4 : decode prog_16_method_9_code 4 = .ok (.iload_n 1, 1) := by decide +kernel
theorem d8_5 : decode prog_16_method_9_code 5 = .ok (.iaload, 1) := by decide +kernel
theorem d8_6 : decode prog_16_method_9_code 6 = .ok (.aload_n 0, 1) := by decide +kernel
theorem d8_7 : decode prog_16_method_9_code 7 = .ok (.getfield 25, 3) := by decide +kernel
theorem d8_10 : decode prog_16_method_9_code 10 = .ok (.aload_n 0, 1) := by decide +kernel
theorem d8_11 : decode prog_16_method_9_code 11 = .ok (.getfield 16, 3) := by decide +kernel
theorem d8_14 : decode prog_16_method_9_code 14 = .ok (.iload_n 1, 1) := by decide +kernel
theorem d8_15 : decode prog_16_method_9_code 15 = .ok (.iaload, 1) := by decide +kernel
theorem d8_16 : decode prog_16_method_9_code 16 = .ok (.iaload, 1) := by decide +kernel
theorem d8_17 : decode prog_16_method_9_code 17 = .ok (.if_icmp .ge 7, 3) := by decide +kernel
theorem d8_20 : decode prog_16_method_9_code 20 = .ok (.iconst 1, 1) := by decide +kernel
theorem d8_21 : decode prog_16_method_9_code 21 = .ok (.goto 4, 3) := by decide +kernel
theorem d8_24 : decode prog_16_method_9_code 24 = .ok (.iconst 0, 1) := by decide +kernel
theorem d8_25 : decode prog_16_method_9_code 25 = .ok (.ireturn, 1) := by decide +kernel
theorem ef8 (m : MethodId) (a0 : Addr) (p1 : Int32) : entryFrame m #[(.ref a0), (.int p1)] 2 = mkF m 0 #[rv a0, iv p1] [] := by first | (simp [entryFrame, mkF, argsToLocals, Value.category]; done) | rfl
def f8 (p1 : Int32) (po : List Int32) (bo : List Int32) (bm : List Int32) : Int32 := (let w8_1 : Int32 := (if (own_at po p1) < (own_at bm (own_at bo p1)) then (1:Int32) else (0:Int32)); (w8_1 &&& 1))
def Q8 (Z : State) (a0 : Addr) (p1 : Int32) (e2 : Addr) (e3 : Addr) (e6 : Addr) (po : List Int32) (bo : List Int32) (bm : List Int32) (h0 : Heap) (n0 : Nat) (v : Option Value) (h : Heap) (L : List Loc) : Prop := v = some (.int (f8 p1 po bo bm)) ∧ Fr n0 L ∧ h = h0
set_option maxRecDepth 65536 in
set_option maxHeartbeats 40000000 in
theorem rm8 (l : Launch) (Z : State) (aZ : Array Value) (hw : ∀ d ∈ tables_1, d.before aZ Z = true) (ws : List Jvm.Cond) (a0 : Addr) (p1 : Int32) (e2 : Addr) (e3 : Addr) (e6 : Addr) (po : List Int32) (bo : List Int32) (bm : List Int32) (h0 : Heap) (n0 : Nat) (Z0 : n0 ≤ h0.size) (P0 : Fld Z h0 a0 "com/example/spare_calculus/sparecalculus/bisim/Partition" "positions" "[I" (.ref e2)) (P1 : Fld Z h0 a0 "com/example/spare_calculus/sparecalculus/bisim/Partition" "blockOf" "[I" (.ref e3)) (P2 : Fld Z h0 a0 "com/example/spare_calculus/sparecalculus/bisim/Partition" "blockMarkedEnd" "[I" (.ref e6)) (P3 : own_Ints Z h0 e2 po) (P4 : own_Ints Z h0 e3 bo) (P5 : own_Ints Z h0 e6 bm) (h1 : own_In p1 po.length) (h2 : own_In p1 bo.length) (h3 : own_In (own_at bo p1) bm.length) :
    MetFree l (⟨"com/example/spare_calculus/sparecalculus/bisim/Partition", "marked", "(I)Z"⟩ : MethodName) (head1 (Jvm.Cond.code (⟨"com/example/spare_calculus/sparecalculus/bisim/Partition", "marked", "(I)Z"⟩ : MethodName) prog_16_method_9_code 2 (some .boolean) :: ws) ({ frames := 0, cells := 0, slots := 0, locals := 0 } : Room)) (fun a U => a = #[(.ref a0), (.int p1)] ∧ Z.Warmed39 U.vm ∧ U.heap = h0) (fun _ _ _ _ _ => True) (fun _ U o U' => ∃ v L, o = .returned v ∧ Q8 Z a0 p1 e2 e3 e6 po bo bm h0 n0 v U'.heap L ∧ FrameEnd U o U' L ({ frames := 0, cells := 0, slots := 0, locals := 0 } : Room).cells ({ frames := 0, cells := 0, slots := 0, locals := 0 } : Room).slots) := by
  refine MetFree.of_bodySF (plainFor_of_name own_pn0) hisR ?_
  intro p e s m args below meth c s₁ Bd hml0 hP hK
  obtain ⟨rfl, hZ, hh⟩ := hP
  have hx := Bd.exec
  have hby := Bd.bytes
  have hml : c.maxLocals = 2 := hml0
  have hown : s.vm.findClass "com/example/spare_calculus/sparecalculus/bisim/Partition" = some m.cls := findClass_of_methodNamed Bd.named
  have hnm := (name_of_methodNamed Bd.named Bd.method).1
  have X0 : Stand p l e ({ frames := 0, cells := 0, slots := 0, locals := 0 } : Room) s m #[(.ref a0), (.int p1)] below meth c s₁ [] 0 0 := Stand.of_body Bd
  have e0 : s₁.heap = h0 := by rw [← hh, Bd.state]; rfl
  have N0 := Fr.nil n0
  show own_Goes p e below s (Q8 Z a0 p1 e2 e3 e6 po bo bm h0 n0) ({ frames := 0, cells := 0, slots := 0, locals := 0 } : Room).cells ({ frames := 0, cells := 0, slots := 0, locals := 0 } : Room).slots _
  refine own_pre (fun t k => castTop (ef8 m a0 p1) k) ?_
  refine own_pre (A := s₁.setTop (mkF m 1 #[rv a0, iv p1] [(.ref a0)])) (fun t k => ?_) ?_
  · show Steps p.tables e below (s₁.setTop (mkF m 0 #[rv a0, iv p1] [])) _
    refine XS.aloadN X0.here hx rfl (hb hby d8_0) rfl rfl ?_
    exact k
  obtain ⟨T612, X612, e612, st612⟩ := getF X0 hx hZ hown (host := "") (Or.inl (own_h hw 13 rfl)) Via.refl e0 P0 (g := (mkF m 1 #[rv a0, iv p1] [(.ref a0)])) rfl rfl (hb hby d8_1)
  refine own_pre st612 ?_
  have hbn613 : own_In p1 po.length := h1
  refine own_pre (A := T612.setTop (mkF m 7 #[rv a0, iv p1] [(.ref a0), (.int (own_at po p1))])) (fun t k => ?_) ?_
  · show Steps p.tables e below (T612.setTop (mkF m 4 #[rv a0, iv p1] [(.ref e2)])) _
    refine XS.iloadN X612.here hx rfl (hb hby d8_4) rfl ?_
    show Steps p.tables e below (T612.setTop (mkF m 5 #[rv a0, iv p1] [(.int p1), (.ref e2)])) _
    refine own_iaload X612 hx hZ e612 P3 hbn613 rfl rfl (hb hby d8_5) ?_
    show Steps p.tables e below (T612.setTop (mkF m 6 #[rv a0, iv p1] [(.int (own_at po p1))])) _
    refine XS.aloadN X612.here hx rfl (hb hby d8_6) rfl rfl ?_
    exact k
  obtain ⟨T614, X614, e614, st614⟩ := getF X612 hx hZ hown (host := "") (Or.inl (own_h hw 21 rfl)) Via.refl e612 P2 (g := (mkF m 7 #[rv a0, iv p1] [(.ref a0), (.int (own_at po p1))])) rfl rfl (hb hby d8_7)
  refine own_pre st614 ?_
  refine own_pre (A := T614.setTop (mkF m 11 #[rv a0, iv p1] [(.ref a0), (.ref e6), (.int (own_at po p1))])) (fun t k => ?_) ?_
  · show Steps p.tables e below (T614.setTop (mkF m 10 #[rv a0, iv p1] [(.ref e6), (.int (own_at po p1))])) _
    refine XS.aloadN X614.here hx rfl (hb hby d8_10) rfl rfl ?_
    exact k
  obtain ⟨T615, X615, e615, st615⟩ := getF X614 hx hZ hown (host := "") (Or.inl (own_h hw 15 rfl)) Via.refl e614 P1 (g := (mkF m 11 #[rv a0, iv p1] [(.ref a0), (.ref e6), (.int (own_at po p1))])) rfl rfl (hb hby d8_11)
  refine own_pre st615 ?_
  have hbn616 : own_In p1 bo.length := h2
  have hbn617 : own_In (own_at bo p1) bm.length := h3
  refine own_pre (A := T615.setTop (mkF m 17 #[rv a0, iv p1] [(.int (own_at bm (own_at bo p1))), (.int (own_at po p1))])) (fun t k => ?_) ?_
  · show Steps p.tables e below (T615.setTop (mkF m 14 #[rv a0, iv p1] [(.ref e3), (.ref e6), (.int (own_at po p1))])) _
    refine XS.iloadN X615.here hx rfl (hb hby d8_14) rfl ?_
    show Steps p.tables e below (T615.setTop (mkF m 15 #[rv a0, iv p1] [(.int p1), (.ref e3), (.ref e6), (.int (own_at po p1))])) _
    refine own_iaload X615 hx hZ e615 P4 hbn616 rfl rfl (hb hby d8_15) ?_
    show Steps p.tables e below (T615.setTop (mkF m 16 #[rv a0, iv p1] [(.int (own_at bo p1)), (.ref e6), (.int (own_at po p1))])) _
    refine own_iaload X615 hx hZ e615 P5 hbn617 rfl rfl (hb hby d8_16) ?_
    exact k
  obtain ⟨w8_1, hw8_1⟩ : ∃ z : Int32, z = (if (own_at po p1) < (own_at bm (own_at bo p1)) then (1:Int32) else (0:Int32)) := ⟨_, rfl⟩
  refine own_pre (A := T615.setTop (mkF m 25 #[rv a0, iv p1] [(.int w8_1)])) (fun t k => ?_) ?_
  · show Steps p.tables e below (T615.setTop (mkF m 17 #[rv a0, iv p1] [(.int (own_at bm (own_at bo p1))), (.int (own_at po p1))])) _
    by_cases hm17_1 : (own_at po p1) < (own_at bm (own_at bo p1))
    · refine XS.icmpNo X615.here hx rfl (hb hby d8_17) rfl (XT.ii_ge_f hm17_1) ?_
      show Steps p.tables e below (T615.setTop (mkF m 20 #[rv a0, iv p1] [])) _
      refine XS.iconst X615.here hx rfl (hb hby d8_20) ?_
      show Steps p.tables e below (T615.setTop (mkF m 21 #[rv a0, iv p1] [(.int (1:Int32))])) _
      refine XS.goto X615.here hx rfl (pc0 := 21) (pc' := 25) rfl (hb hby d8_21) (by decide) (by decide) ?_
      rw [hw8_1.trans (if_pos hm17_1)] at k
      exact k
    · refine XS.icmpYes X615.here hx rfl (pc0 := 17) (pc' := 24) rfl (hb hby d8_17) rfl (XT.ii_ge_t hm17_1) (by decide) (by decide) ?_
      show Steps p.tables e below (T615.setTop (mkF m 24 #[rv a0, iv p1] [])) _
      refine XS.iconst X615.here hx rfl (hb hby d8_24) ?_
      rw [hw8_1.trans (if_neg hm17_1)] at k
      exact k
  have hv618 : (w8_1 &&& 1) = f8 p1 po bo bm := by subst hw8_1; rfl
  exact own_end X615 (BodyLoose.notSynchronized Bd) (fun h => by rw [Bd.returns] at h; cases h) (v := some (.int (w8_1 &&& 1))) (fun fs hr => retN X615 hx (t := .boolean) Bd.returns (by simp) (hb hby d8_25) hr) (by show Q8 Z a0 p1 e2 e3 e6 po bo bm h0 n0 _ T615.heap _; rw [e615]; exact ⟨(congrArg (fun z => some (Value.int z)) hv618), N0, rfl⟩) (by decide) (by decide)
theorem own_mem1 (p w : Int32) (hw : w = ((p &&& (2147483647:Int32)) % (1:Int32))) : w ∈ ([(0:Int32)] : List Int32) := by
  have e1 : (p &&& (2147483647:Int32)).toInt = p.toInt % 2 ^ 31 := Jvm.Kit.i32_mask p _ (k := 31) (by decide) (by decide)
  have l : (1:Int32).toInt = 1 := by decide
  have e : w.toInt = (p.toInt % 2 ^ 31) % 1 := by rw [hw, Int32.toInt_mod, e1, l, Int.tmod_eq_emod_of_nonneg (by omega)]
  have l0 : (0:Int32).toInt = 0 := by decide
  simp only [List.mem_cons, List.not_mem_nil, or_false, ← Int32.toInt_inj, e, l0]; omega
theorem own_pn1 : plainName "com/example/spare_calculus/sparecalculus/bisim/PartitionMarkPinLaw" = true := by first | (simp [plainName, overriddenIn]; done) | decide +kernel
theorem own_pd0 : parseMethodDescriptor "(I)V" = some ⟨[.int], none⟩ := by decide +kernel
theorem own_fin690 : ∀ w0_1 ∈ [(0:Int32)], (((own_In w0_1 [(0:Int32)].length) ∧ (own_In (own_at [(0:Int32)] w0_1) [(0:Int32)].length) ∧ (own_In w0_1 [(0:Int32)].length) ∧ (¬ ((own_at [(0:Int32)] w0_1) < (own_at [(0:Int32)] (own_at [(0:Int32)] w0_1))) → own_In (own_at [(0:Int32)] w0_1) [(0:Int32)].length) ∧ (¬ ((own_at [(0:Int32)] w0_1) < (own_at [(0:Int32)] (own_at [(0:Int32)] w0_1))) → own_In (own_at [(0:Int32)] (own_at [(0:Int32)] w0_1)) [(0:Int32)].length) ∧ (¬ ((own_at [(0:Int32)] w0_1) < (own_at [(0:Int32)] (own_at [(0:Int32)] w0_1))) → own_In (own_at [(0:Int32)] w0_1) [(0:Int32)].length) ∧ (¬ ((own_at [(0:Int32)] w0_1) < (own_at [(0:Int32)] (own_at [(0:Int32)] w0_1))) → own_In (own_at [(0:Int32)] (own_at [(0:Int32)] (own_at [(0:Int32)] w0_1))) [(0:Int32)].length) ∧ (¬ ((own_at [(0:Int32)] w0_1) < (own_at [(0:Int32)] (own_at [(0:Int32)] w0_1))) → (own_at [(0:Int32)] (own_at [(0:Int32)] w0_1)) = (own_at [(0:Int32)] (own_at [(0:Int32)] w0_1)) → own_In (0:Int32) [(0:Int32)].length))) := by decide +kernel
def own_v706 (w0_1 : Int32) : Int32 := (g3_tc w0_1 [(0:Int32)] [(0:Int32)] [(0:Int32)] [(0:Int32)] [(0:Int32)] [(0:Int32)] (1:Int32) (0:Int32))
def own_v708 (w0_1 : Int32) : List Int32 := (g3_el w0_1 [(0:Int32)] [(0:Int32)] [(0:Int32)] [(0:Int32)] [(0:Int32)] [(0:Int32)] (1:Int32) (0:Int32))
def own_v710 (w0_1 : Int32) : List Int32 := (g3_po w0_1 [(0:Int32)] [(0:Int32)] [(0:Int32)] [(0:Int32)] [(0:Int32)] [(0:Int32)] (1:Int32) (0:Int32))
def own_v712 (w0_1 : Int32) : List Int32 := (g3_bm w0_1 [(0:Int32)] [(0:Int32)] [(0:Int32)] [(0:Int32)] [(0:Int32)] [(0:Int32)] (1:Int32) (0:Int32))
def own_v714 (w0_1 : Int32) : List Int32 := (g3_tb w0_1 [(0:Int32)] [(0:Int32)] [(0:Int32)] [(0:Int32)] [(0:Int32)] [(0:Int32)] (1:Int32) (0:Int32))
theorem own_fin720 : ∀ w0_1 ∈ [(0:Int32)], ∀ w0_2 ∈ [(0:Int32)], (((own_In w0_2 [(0:Int32)].length) ∧ (own_In (own_at [(0:Int32)] w0_2) (own_v712 w0_1).length) ∧ (own_In w0_2 (own_v710 w0_1).length) ∧ (¬ ((own_at (own_v710 w0_1) w0_2) < (own_at (own_v712 w0_1) (own_at [(0:Int32)] w0_2))) → own_In (own_at [(0:Int32)] w0_2) [(0:Int32)].length) ∧ (¬ ((own_at (own_v710 w0_1) w0_2) < (own_at (own_v712 w0_1) (own_at [(0:Int32)] w0_2))) → own_In (own_at (own_v712 w0_1) (own_at [(0:Int32)] w0_2)) (own_v708 w0_1).length) ∧ (¬ ((own_at (own_v710 w0_1) w0_2) < (own_at (own_v712 w0_1) (own_at [(0:Int32)] w0_2))) → own_In (own_at (own_v710 w0_1) w0_2) (own_v708 w0_1).length) ∧ (¬ ((own_at (own_v710 w0_1) w0_2) < (own_at (own_v712 w0_1) (own_at [(0:Int32)] w0_2))) → own_In (own_at (own_v708 w0_1) (own_at (own_v712 w0_1) (own_at [(0:Int32)] w0_2))) (own_v710 w0_1).length) ∧ (¬ ((own_at (own_v710 w0_1) w0_2) < (own_at (own_v712 w0_1) (own_at [(0:Int32)] w0_2))) → (own_at (own_v712 w0_1) (own_at [(0:Int32)] w0_2)) = (own_at [(0:Int32)] (own_at [(0:Int32)] w0_2)) → own_In (own_v706 w0_1) (own_v714 w0_1).length))) := by decide +kernel
def own_v736 (w0_2 : Int32) (w0_1 : Int32) : Int32 := (g3_tc w0_2 (own_v708 w0_1) (own_v710 w0_1) [(0:Int32)] [(0:Int32)] (own_v712 w0_1) (own_v714 w0_1) (1:Int32) (own_v706 w0_1))
def own_v738 (w0_2 : Int32) (w0_1 : Int32) : List Int32 := (g3_el w0_2 (own_v708 w0_1) (own_v710 w0_1) [(0:Int32)] [(0:Int32)] (own_v712 w0_1) (own_v714 w0_1) (1:Int32) (own_v706 w0_1))
def own_v740 (w0_2 : Int32) (w0_1 : Int32) : List Int32 := (g3_po w0_2 (own_v708 w0_1) (own_v710 w0_1) [(0:Int32)] [(0:Int32)] (own_v712 w0_1) (own_v714 w0_1) (1:Int32) (own_v706 w0_1))
def own_v742 (w0_2 : Int32) (w0_1 : Int32) : List Int32 := (g3_bm w0_2 (own_v708 w0_1) (own_v710 w0_1) [(0:Int32)] [(0:Int32)] (own_v712 w0_1) (own_v714 w0_1) (1:Int32) (own_v706 w0_1))
def own_v744 (w0_2 : Int32) (w0_1 : Int32) : List Int32 := (g3_tb w0_2 (own_v708 w0_1) (own_v710 w0_1) [(0:Int32)] [(0:Int32)] (own_v712 w0_1) (own_v714 w0_1) (1:Int32) (own_v706 w0_1))
theorem own_fin747 : ∀ w0_1 ∈ [(0:Int32)], ∀ w0_2 ∈ [(0:Int32)], ((own_In (0:Int32) (own_v742 w0_2 w0_1).length)) := by decide +kernel
theorem own_pd1 : parseMethodDescriptor "(I)I" = some ⟨[.int], some .int⟩ := by decide +kernel
theorem own_pd2 : parseMethodDescriptor "()I" = some ⟨[], some .int⟩ := by decide +kernel
theorem own_fin752 : ∀ w0_1 ∈ [(0:Int32)], ∀ w0_2 ∈ [(0:Int32)], ((own_In (0:Int32) (own_v744 w0_2 w0_1).length)) := by decide +kernel
theorem own_fin755 : ∀ w0_1 ∈ [(0:Int32)], ∀ w0_2 ∈ [(0:Int32)], ∀ w0_4 ∈ [(0:Int32)], ((own_In w0_4 (own_v738 w0_2 w0_1).length)) := by decide +kernel
theorem own_fin759 : ∀ w0_1 ∈ [(0:Int32)], ∀ w0_2 ∈ [(0:Int32)], ∀ w0_4 ∈ [(0:Int32)], (((own_In (f7 w0_4 (own_v738 w0_2 w0_1)) (own_v740 w0_2 w0_1).length) ∧ (own_In (f7 w0_4 (own_v738 w0_2 w0_1)) [(0:Int32)].length) ∧ (own_In (own_at [(0:Int32)] (f7 w0_4 (own_v738 w0_2 w0_1))) (own_v742 w0_2 w0_1).length))) := by decide +kernel
theorem own_pd3 : parseMethodDescriptor "(I)Z" = some ⟨[.int], some .boolean⟩ := by decide +kernel
def own_v761 (w0_4 : Int32) (w0_2 : Int32) (w0_1 : Int32) : Int32 := (f8 (f7 w0_4 (own_v738 w0_2 w0_1)) (own_v740 w0_2 w0_1) [(0:Int32)] (own_v742 w0_2 w0_1))
theorem own_fin763 : ∀ w0_1 ∈ [(0:Int32)], ∀ w0_2 ∈ [(0:Int32)], ∀ w0_3 ∈ [(0:Int32)], (((own_In w0_3 (own_v740 w0_2 w0_1).length) ∧ (own_In w0_3 [(0:Int32)].length) ∧ (own_In (own_at [(0:Int32)] w0_3) (own_v742 w0_2 w0_1).length))) := by decide +kernel
def own_v765 (w0_3 : Int32) (w0_2 : Int32) (w0_1 : Int32) : Int32 := (f8 w0_3 (own_v740 w0_2 w0_1) [(0:Int32)] (own_v742 w0_2 w0_1))
def own_v766 (w0_1 : Int32) (w0_2 : Int32) : Int32 := (if w0_1 = w0_2 then (1:Int32) else (2:Int32))
theorem own_fin767 : ∀ w0_1 ∈ [(0:Int32)], ∀ w0_2 ∈ [(0:Int32)], ∀ w0_4 ∈ [(0:Int32)], (¬ (((f4 (0:Int32) (own_v742 w0_2 w0_1)) = (own_v766 w0_1 w0_2)) ∧ ((f5 (own_v736 w0_2 w0_1)) = (1:Int32)) ∧ ((f6 (0:Int32) (own_v744 w0_2 w0_1)) = (0:Int32)) ∧ ((f7 w0_4 (own_v738 w0_2 w0_1)) < (0:Int32)))) := by decide +kernel
def own_v768 (w0_4 : Int32) (w0_1 : Int32) (w0_2 : Int32) : Int32 := (if w0_4 < (own_v766 w0_1 w0_2) then (1:Int32) else (0:Int32))
def own_v769 (w0_3 : Int32) (w0_1 : Int32) (w0_2 : Int32) : Int32 := (if w0_3 = w0_1 then (1:Int32) else (if w0_3 = w0_2 then (1:Int32) else (0:Int32)))
theorem own_fin770 : ∀ w0_1 ∈ [(0:Int32)], ∀ w0_2 ∈ [(0:Int32)], ∀ w0_3 ∈ [(0:Int32)], ∀ w0_4 ∈ [(0:Int32)], (¬ (((f4 (0:Int32) (own_v742 w0_2 w0_1)) = (own_v766 w0_1 w0_2)) ∧ ((f5 (own_v736 w0_2 w0_1)) = (1:Int32)) ∧ ((f6 (0:Int32) (own_v744 w0_2 w0_1)) = (0:Int32)) ∧ (¬ ((f7 w0_4 (own_v738 w0_2 w0_1)) < (0:Int32))) ∧ ((f7 w0_4 (own_v738 w0_2 w0_1)) < (1:Int32)) ∧ ((own_v761 w0_4 w0_2 w0_1) = (own_v768 w0_4 w0_1 w0_2)) ∧ (¬ ((own_v765 w0_3 w0_2 w0_1) = (own_v769 w0_3 w0_1 w0_2))))) := by decide +kernel
theorem own_fin771 : ∀ w0_1 ∈ [(0:Int32)], ∀ w0_2 ∈ [(0:Int32)], ∀ w0_4 ∈ [(0:Int32)], (¬ (((f4 (0:Int32) (own_v742 w0_2 w0_1)) = (own_v766 w0_1 w0_2)) ∧ ((f5 (own_v736 w0_2 w0_1)) = (1:Int32)) ∧ ((f6 (0:Int32) (own_v744 w0_2 w0_1)) = (0:Int32)) ∧ (¬ ((f7 w0_4 (own_v738 w0_2 w0_1)) < (0:Int32))) ∧ ((f7 w0_4 (own_v738 w0_2 w0_1)) < (1:Int32)) ∧ (¬ ((own_v761 w0_4 w0_2 w0_1) = (own_v768 w0_4 w0_1 w0_2))))) := by decide +kernel
theorem own_fin772 : ∀ w0_1 ∈ [(0:Int32)], ∀ w0_2 ∈ [(0:Int32)], ∀ w0_4 ∈ [(0:Int32)], (¬ (((f4 (0:Int32) (own_v742 w0_2 w0_1)) = (own_v766 w0_1 w0_2)) ∧ ((f5 (own_v736 w0_2 w0_1)) = (1:Int32)) ∧ ((f6 (0:Int32) (own_v744 w0_2 w0_1)) = (0:Int32)) ∧ (¬ ((f7 w0_4 (own_v738 w0_2 w0_1)) < (0:Int32))) ∧ ((f7 w0_4 (own_v738 w0_2 w0_1)) < (1:Int32)) ∧ (¬ (w0_4 < (own_v766 w0_1 w0_2))) ∧ ((f7 w0_4 (own_v738 w0_2 w0_1)) = w0_1))) := by decide +kernel
theorem own_fin773 : ∀ w0_1 ∈ [(0:Int32)], ∀ w0_2 ∈ [(0:Int32)], ∀ w0_4 ∈ [(0:Int32)], (¬ (((f4 (0:Int32) (own_v742 w0_2 w0_1)) = (own_v766 w0_1 w0_2)) ∧ ((f5 (own_v736 w0_2 w0_1)) = (1:Int32)) ∧ ((f6 (0:Int32) (own_v744 w0_2 w0_1)) = (0:Int32)) ∧ (¬ ((f7 w0_4 (own_v738 w0_2 w0_1)) < (0:Int32))) ∧ ((f7 w0_4 (own_v738 w0_2 w0_1)) < (1:Int32)) ∧ (¬ (w0_4 < (own_v766 w0_1 w0_2))) ∧ (¬ ((f7 w0_4 (own_v738 w0_2 w0_1)) = w0_1)) ∧ ((f7 w0_4 (own_v738 w0_2 w0_1)) = w0_2))) := by decide +kernel
theorem own_fin774 : ∀ w0_1 ∈ [(0:Int32)], ∀ w0_2 ∈ [(0:Int32)], ∀ w0_4 ∈ [(0:Int32)], (¬ (((f4 (0:Int32) (own_v742 w0_2 w0_1)) = (own_v766 w0_1 w0_2)) ∧ ((f5 (own_v736 w0_2 w0_1)) = (1:Int32)) ∧ ((f6 (0:Int32) (own_v744 w0_2 w0_1)) = (0:Int32)) ∧ (¬ ((f7 w0_4 (own_v738 w0_2 w0_1)) < (0:Int32))) ∧ ((f7 w0_4 (own_v738 w0_2 w0_1)) < (1:Int32)) ∧ (w0_4 = (1:Int32)) ∧ (¬ (w0_1 = w0_2)) ∧ (¬ ((f7 w0_4 (own_v738 w0_2 w0_1)) = w0_2)))) := by decide +kernel
theorem own_fin775 : ∀ w0_1 ∈ [(0:Int32)], ∀ w0_2 ∈ [(0:Int32)], ∀ w0_4 ∈ [(0:Int32)], (¬ (((f4 (0:Int32) (own_v742 w0_2 w0_1)) = (own_v766 w0_1 w0_2)) ∧ ((f5 (own_v736 w0_2 w0_1)) = (1:Int32)) ∧ ((f6 (0:Int32) (own_v744 w0_2 w0_1)) = (0:Int32)) ∧ (¬ ((f7 w0_4 (own_v738 w0_2 w0_1)) < (0:Int32))) ∧ ((f7 w0_4 (own_v738 w0_2 w0_1)) < (1:Int32)) ∧ (w0_4 = (0:Int32)) ∧ (¬ ((f7 w0_4 (own_v738 w0_2 w0_1)) = w0_1)))) := by decide +kernel
theorem own_fin776 : ∀ w0_1 ∈ [(0:Int32)], ∀ w0_2 ∈ [(0:Int32)], ∀ w0_4 ∈ [(0:Int32)], (¬ (((f4 (0:Int32) (own_v742 w0_2 w0_1)) = (own_v766 w0_1 w0_2)) ∧ ((f5 (own_v736 w0_2 w0_1)) = (1:Int32)) ∧ ((f6 (0:Int32) (own_v744 w0_2 w0_1)) = (0:Int32)) ∧ (¬ ((f7 w0_4 (own_v738 w0_2 w0_1)) < (0:Int32))) ∧ (¬ ((f7 w0_4 (own_v738 w0_2 w0_1)) < (1:Int32))))) := by decide +kernel
theorem own_fin777 : ∀ w0_1 ∈ [(0:Int32)], ∀ w0_2 ∈ [(0:Int32)], (¬ (((f4 (0:Int32) (own_v742 w0_2 w0_1)) = (own_v766 w0_1 w0_2)) ∧ ((f5 (own_v736 w0_2 w0_1)) = (1:Int32)) ∧ (¬ ((f6 (0:Int32) (own_v744 w0_2 w0_1)) = (0:Int32))))) := by decide +kernel
theorem own_fin778 : ∀ w0_1 ∈ [(0:Int32)], ∀ w0_2 ∈ [(0:Int32)], (¬ (((f4 (0:Int32) (own_v742 w0_2 w0_1)) = (own_v766 w0_1 w0_2)) ∧ (¬ ((f5 (own_v736 w0_2 w0_1)) = (1:Int32))))) := by decide +kernel
theorem own_fin779 : ∀ w0_1 ∈ [(0:Int32)], ∀ w0_2 ∈ [(0:Int32)], (¬ ((¬ ((f4 (0:Int32) (own_v742 w0_2 w0_1)) = (own_v766 w0_1 w0_2))))) := by decide +kernel
theorem ef0n1 (m : MethodId) (p0 : Int32) (p1 : Int32) (p2 : Int32) (p3 : Int32) (p4 : Int32) : entryFrame m #[(.int p0), (.int p1), (.int p2), (.int p3), (.int p4)] maxLocals = mkF m 0 #[iv p0, iv p1, iv p2, iv p3, iv p4, .unset, .unset, .unset, .unset, .unset, .unset, .unset, .unset, .unset, .unset, .unset, .unset, .unset] [] := by first | (simp [entryFrame, mkF, argsToLocals, Value.category, maxLocals]; done) | rfl
def Q0n1 (Z : State) (p0 : Int32) (p1 : Int32) (p2 : Int32) (p3 : Int32) (p4 : Int32)  (h0 : Heap) (n0 : Nat) (v : Option Value) (h : Heap) (L : List Loc) : Prop := v = some (.int (1:Int32)) ∧ Fr n0 L
set_option maxRecDepth 65536 in
set_option maxHeartbeats 40000000 in
theorem rm0n1 (l : Launch) (Z : State) (aZ : Array Value) (hw : ∀ d ∈ tables_1, d.before aZ Z = true) (ws : List Jvm.Cond) (p0 : Int32) (p1 : Int32) (p2 : Int32) (p3 : Int32) (p4 : Int32)  (h0 : Heap) (n0 : Nat) (Z0 : n0 ≤ h0.size) (hlen : ((1:Int32) + (p0 &&& (3:Int32))) = (1:Int32)) :
    MetFree l x (head1 (Jvm.Cond.code x code maxLocals ret :: ws) room_1) (fun a U => a = #[(.int p0), (.int p1), (.int p2), (.int p3), (.int p4)] ∧ Z.Warmed39 U.vm ∧ U.heap = h0) (fun _ _ _ _ _ => True) (fun _ U o U' => ∃ v L, o = .returned v ∧ Q0n1 Z p0 p1 p2 p3 p4 h0 n0 v U'.heap L ∧ FrameEnd U o U' L 8 64) := by
  refine MetFree.of_bodySF (plainFor_of_name own_pn1) hisR ?_
  intro p e s m args below meth c s₁ Bd hml0 hP hK
  obtain ⟨rfl, hZ, hh⟩ := hP
  have hx := Bd.exec
  have hby := Bd.bytes
  have hml : c.maxLocals = 18 := hml0
  have hown : s.vm.findClass "com/example/spare_calculus/sparecalculus/bisim/PartitionMarkPinLaw" = some m.cls := findClass_of_methodNamed Bd.named
  have hnm := (name_of_methodNamed Bd.named Bd.method).1
  have X0 : Stand p l e room_1 s m #[(.int p0), (.int p1), (.int p2), (.int p3), (.int p4)] below meth c s₁ [] 0 0 := Stand.of_body Bd
  have e0 : s₁.heap = h0 := by rw [← hh, Bd.state]; rfl
  have N0 := Fr.nil n0
  show own_Goes p e below s (Q0n1 Z p0 p1 p2 p3 p4 h0 n0) 8 64 _
  refine own_pre (fun t k => castTop (ef0n1 m p0 p1 p2 p3 p4) k) ?_
  obtain ⟨w0_1, hw0_1⟩ : ∃ z : Int32, z = ((p1 &&& (2147483647:Int32)) % (1:Int32)) := ⟨_, rfl⟩
  obtain ⟨w0_2, hw0_2⟩ : ∃ z : Int32, z = ((p2 &&& (2147483647:Int32)) % (1:Int32)) := ⟨_, rfl⟩
  obtain ⟨w0_3, hw0_3⟩ : ∃ z : Int32, z = ((p3 &&& (2147483647:Int32)) % (1:Int32)) := ⟨_, rfl⟩
  obtain ⟨w0_4, hw0_4⟩ : ∃ z : Int32, z = ((p4 &&& (2147483647:Int32)) % (1:Int32)) := ⟨_, rfl⟩
  refine own_pre (A := s₁.setTop (mkF m 44 #[iv p0, iv p1, iv p2, iv p3, iv p4, iv (1:Int32), iv w0_1, iv w0_2, iv w0_3, iv w0_4, .unset, .unset, .unset, .unset, .unset, .unset, .unset, .unset] [])) (fun t k => ?_) ?_
  · show Steps p.tables e below (s₁.setTop (mkF m 0 #[iv p0, iv p1, iv p2, iv p3, iv p4, .unset, .unset, .unset, .unset, .unset, .unset, .unset, .unset, .unset, .unset, .unset, .unset, .unset] [])) _
    refine XS.iconst X0.here hx rfl (hb hby at_0) ?_
    show Steps p.tables e below (s₁.setTop (mkF m 1 #[iv p0, iv p1, iv p2, iv p3, iv p4, .unset, .unset, .unset, .unset, .unset, .unset, .unset, .unset, .unset, .unset, .unset, .unset, .unset] [(.int (1:Int32))])) _
    refine XS.iloadN X0.here hx rfl (hb hby at_1) rfl ?_
    show Steps p.tables e below (s₁.setTop (mkF m 2 #[iv p0, iv p1, iv p2, iv p3, iv p4, .unset, .unset, .unset, .unset, .unset, .unset, .unset, .unset, .unset, .unset, .unset, .unset, .unset] [(.int p0), (.int (1:Int32))])) _
    refine XS.iconst X0.here hx rfl (hb hby at_2) ?_
    show Steps p.tables e below (s₁.setTop (mkF m 3 #[iv p0, iv p1, iv p2, iv p3, iv p4, .unset, .unset, .unset, .unset, .unset, .unset, .unset, .unset, .unset, .unset, .unset, .unset, .unset] [(.int (3:Int32)), (.int p0), (.int (1:Int32))])) _
    refine XS.iand X0.here hx rfl (hb hby at_3) rfl ?_
    show Steps p.tables e below (s₁.setTop (mkF m 4 #[iv p0, iv p1, iv p2, iv p3, iv p4, .unset, .unset, .unset, .unset, .unset, .unset, .unset, .unset, .unset, .unset, .unset, .unset, .unset] [(.int (p0 &&& (3:Int32))), (.int (1:Int32))])) _
    refine XS.iadd X0.here hx rfl (hb hby at_4) rfl ?_
    show Steps p.tables e below (s₁.setTop (mkF m 5 #[iv p0, iv p1, iv p2, iv p3, iv p4, .unset, .unset, .unset, .unset, .unset, .unset, .unset, .unset, .unset, .unset, .unset, .unset, .unset] [(.int ((1:Int32) + (p0 &&& (3:Int32))))])) _
    refine XS.istore X0.here hx rfl (hb hby at_5) rfl (l' := #[iv p0, iv p1, iv p2, iv p3, iv p4, iv (1:Int32), .unset, .unset, .unset, .unset, .unset, .unset, .unset, .unset, .unset, .unset, .unset, .unset]) (by show storeLocals _ _ (Value.int ((1:Int32) + (p0 &&& (3:Int32)))) = _; rw [hlen]; rfl) ?_
    show Steps p.tables e below (s₁.setTop (mkF m 7 #[iv p0, iv p1, iv p2, iv p3, iv p4, iv (1:Int32), .unset, .unset, .unset, .unset, .unset, .unset, .unset, .unset, .unset, .unset, .unset, .unset] [])) _
    refine XS.iloadN X0.here hx rfl (hb hby at_7) rfl ?_
    show Steps p.tables e below (s₁.setTop (mkF m 8 #[iv p0, iv p1, iv p2, iv p3, iv p4, iv (1:Int32), .unset, .unset, .unset, .unset, .unset, .unset, .unset, .unset, .unset, .unset, .unset, .unset] [(.int p1)])) _
    refine Jvm.Stand.ldcI X0 hx hown (mvT hZ (own_h hw 0 rfl)) rfl (hb hby at_8) ?_
    show Steps p.tables e below (s₁.setTop (mkF m 10 #[iv p0, iv p1, iv p2, iv p3, iv p4, iv (1:Int32), .unset, .unset, .unset, .unset, .unset, .unset, .unset, .unset, .unset, .unset, .unset, .unset] [(.int (2147483647:Int32)), (.int p1)])) _
    refine XS.iand X0.here hx rfl (hb hby at_10) rfl ?_
    show Steps p.tables e below (s₁.setTop (mkF m 11 #[iv p0, iv p1, iv p2, iv p3, iv p4, iv (1:Int32), .unset, .unset, .unset, .unset, .unset, .unset, .unset, .unset, .unset, .unset, .unset, .unset] [(.int (p1 &&& (2147483647:Int32)))])) _
    refine XS.iload X0.here hx rfl (hb hby at_11) rfl ?_
    show Steps p.tables e below (s₁.setTop (mkF m 13 #[iv p0, iv p1, iv p2, iv p3, iv p4, iv (1:Int32), .unset, .unset, .unset, .unset, .unset, .unset, .unset, .unset, .unset, .unset, .unset, .unset] [(.int (1:Int32)), (.int (p1 &&& (2147483647:Int32)))])) _
    refine iremM X0 hx rfl (hb hby at_13) rfl (by decide) ?_
    show Steps p.tables e below (s₁.setTop (mkF m 14 #[iv p0, iv p1, iv p2, iv p3, iv p4, iv (1:Int32), .unset, .unset, .unset, .unset, .unset, .unset, .unset, .unset, .unset, .unset, .unset, .unset] [(.int ((p1 &&& (2147483647:Int32)) % (1:Int32)))])) _
    refine XS.istore X0.here hx rfl (hb hby at_14) rfl (l' := #[iv p0, iv p1, iv p2, iv p3, iv p4, iv (1:Int32), iv w0_1, .unset, .unset, .unset, .unset, .unset, .unset, .unset, .unset, .unset, .unset, .unset]) (by rw [hw0_1]; rfl) ?_
    show Steps p.tables e below (s₁.setTop (mkF m 16 #[iv p0, iv p1, iv p2, iv p3, iv p4, iv (1:Int32), iv w0_1, .unset, .unset, .unset, .unset, .unset, .unset, .unset, .unset, .unset, .unset, .unset] [])) _
    refine XS.iloadN X0.here hx rfl (hb hby at_16) rfl ?_
    show Steps p.tables e below (s₁.setTop (mkF m 17 #[iv p0, iv p1, iv p2, iv p3, iv p4, iv (1:Int32), iv w0_1, .unset, .unset, .unset, .unset, .unset, .unset, .unset, .unset, .unset, .unset, .unset] [(.int p2)])) _
    refine Jvm.Stand.ldcI X0 hx hown (mvT hZ (own_h hw 0 rfl)) rfl (hb hby at_17) ?_
    show Steps p.tables e below (s₁.setTop (mkF m 19 #[iv p0, iv p1, iv p2, iv p3, iv p4, iv (1:Int32), iv w0_1, .unset, .unset, .unset, .unset, .unset, .unset, .unset, .unset, .unset, .unset, .unset] [(.int (2147483647:Int32)), (.int p2)])) _
    refine XS.iand X0.here hx rfl (hb hby at_19) rfl ?_
    show Steps p.tables e below (s₁.setTop (mkF m 20 #[iv p0, iv p1, iv p2, iv p3, iv p4, iv (1:Int32), iv w0_1, .unset, .unset, .unset, .unset, .unset, .unset, .unset, .unset, .unset, .unset, .unset] [(.int (p2 &&& (2147483647:Int32)))])) _
    refine XS.iload X0.here hx rfl (hb hby at_20) rfl ?_
    show Steps p.tables e below (s₁.setTop (mkF m 22 #[iv p0, iv p1, iv p2, iv p3, iv p4, iv (1:Int32), iv w0_1, .unset, .unset, .unset, .unset, .unset, .unset, .unset, .unset, .unset, .unset, .unset] [(.int (1:Int32)), (.int (p2 &&& (2147483647:Int32)))])) _
    refine iremM X0 hx rfl (hb hby at_22) rfl (by decide) ?_
    show Steps p.tables e below (s₁.setTop (mkF m 23 #[iv p0, iv p1, iv p2, iv p3, iv p4, iv (1:Int32), iv w0_1, .unset, .unset, .unset, .unset, .unset, .unset, .unset, .unset, .unset, .unset, .unset] [(.int ((p2 &&& (2147483647:Int32)) % (1:Int32)))])) _
    refine XS.istore X0.here hx rfl (hb hby at_23) rfl (l' := #[iv p0, iv p1, iv p2, iv p3, iv p4, iv (1:Int32), iv w0_1, iv w0_2, .unset, .unset, .unset, .unset, .unset, .unset, .unset, .unset, .unset, .unset]) (by rw [hw0_2]; rfl) ?_
    show Steps p.tables e below (s₁.setTop (mkF m 25 #[iv p0, iv p1, iv p2, iv p3, iv p4, iv (1:Int32), iv w0_1, iv w0_2, .unset, .unset, .unset, .unset, .unset, .unset, .unset, .unset, .unset, .unset] [])) _
    refine XS.iloadN X0.here hx rfl (hb hby at_25) rfl ?_
    show Steps p.tables e below (s₁.setTop (mkF m 26 #[iv p0, iv p1, iv p2, iv p3, iv p4, iv (1:Int32), iv w0_1, iv w0_2, .unset, .unset, .unset, .unset, .unset, .unset, .unset, .unset, .unset, .unset] [(.int p3)])) _
    refine Jvm.Stand.ldcI X0 hx hown (mvT hZ (own_h hw 0 rfl)) rfl (hb hby at_26) ?_
    show Steps p.tables e below (s₁.setTop (mkF m 28 #[iv p0, iv p1, iv p2, iv p3, iv p4, iv (1:Int32), iv w0_1, iv w0_2, .unset, .unset, .unset, .unset, .unset, .unset, .unset, .unset, .unset, .unset] [(.int (2147483647:Int32)), (.int p3)])) _
    refine XS.iand X0.here hx rfl (hb hby at_28) rfl ?_
    show Steps p.tables e below (s₁.setTop (mkF m 29 #[iv p0, iv p1, iv p2, iv p3, iv p4, iv (1:Int32), iv w0_1, iv w0_2, .unset, .unset, .unset, .unset, .unset, .unset, .unset, .unset, .unset, .unset] [(.int (p3 &&& (2147483647:Int32)))])) _
    refine XS.iload X0.here hx rfl (hb hby at_29) rfl ?_
    show Steps p.tables e below (s₁.setTop (mkF m 31 #[iv p0, iv p1, iv p2, iv p3, iv p4, iv (1:Int32), iv w0_1, iv w0_2, .unset, .unset, .unset, .unset, .unset, .unset, .unset, .unset, .unset, .unset] [(.int (1:Int32)), (.int (p3 &&& (2147483647:Int32)))])) _
    refine iremM X0 hx rfl (hb hby at_31) rfl (by decide) ?_
    show Steps p.tables e below (s₁.setTop (mkF m 32 #[iv p0, iv p1, iv p2, iv p3, iv p4, iv (1:Int32), iv w0_1, iv w0_2, .unset, .unset, .unset, .unset, .unset, .unset, .unset, .unset, .unset, .unset] [(.int ((p3 &&& (2147483647:Int32)) % (1:Int32)))])) _
    refine XS.istore X0.here hx rfl (hb hby at_32) rfl (l' := #[iv p0, iv p1, iv p2, iv p3, iv p4, iv (1:Int32), iv w0_1, iv w0_2, iv w0_3, .unset, .unset, .unset, .unset, .unset, .unset, .unset, .unset, .unset]) (by rw [hw0_3]; rfl) ?_
    show Steps p.tables e below (s₁.setTop (mkF m 34 #[iv p0, iv p1, iv p2, iv p3, iv p4, iv (1:Int32), iv w0_1, iv w0_2, iv w0_3, .unset, .unset, .unset, .unset, .unset, .unset, .unset, .unset, .unset] [])) _
    refine XS.iload X0.here hx rfl (hb hby at_34) rfl ?_
    show Steps p.tables e below (s₁.setTop (mkF m 36 #[iv p0, iv p1, iv p2, iv p3, iv p4, iv (1:Int32), iv w0_1, iv w0_2, iv w0_3, .unset, .unset, .unset, .unset, .unset, .unset, .unset, .unset, .unset] [(.int p4)])) _
    refine Jvm.Stand.ldcI X0 hx hown (mvT hZ (own_h hw 0 rfl)) rfl (hb hby at_36) ?_
    show Steps p.tables e below (s₁.setTop (mkF m 38 #[iv p0, iv p1, iv p2, iv p3, iv p4, iv (1:Int32), iv w0_1, iv w0_2, iv w0_3, .unset, .unset, .unset, .unset, .unset, .unset, .unset, .unset, .unset] [(.int (2147483647:Int32)), (.int p4)])) _
    refine XS.iand X0.here hx rfl (hb hby at_38) rfl ?_
    show Steps p.tables e below (s₁.setTop (mkF m 39 #[iv p0, iv p1, iv p2, iv p3, iv p4, iv (1:Int32), iv w0_1, iv w0_2, iv w0_3, .unset, .unset, .unset, .unset, .unset, .unset, .unset, .unset, .unset] [(.int (p4 &&& (2147483647:Int32)))])) _
    refine XS.iload X0.here hx rfl (hb hby at_39) rfl ?_
    show Steps p.tables e below (s₁.setTop (mkF m 41 #[iv p0, iv p1, iv p2, iv p3, iv p4, iv (1:Int32), iv w0_1, iv w0_2, iv w0_3, .unset, .unset, .unset, .unset, .unset, .unset, .unset, .unset, .unset] [(.int (1:Int32)), (.int (p4 &&& (2147483647:Int32)))])) _
    refine iremM X0 hx rfl (hb hby at_41) rfl (by decide) ?_
    show Steps p.tables e below (s₁.setTop (mkF m 42 #[iv p0, iv p1, iv p2, iv p3, iv p4, iv (1:Int32), iv w0_1, iv w0_2, iv w0_3, .unset, .unset, .unset, .unset, .unset, .unset, .unset, .unset, .unset] [(.int ((p4 &&& (2147483647:Int32)) % (1:Int32)))])) _
    refine XS.istore X0.here hx rfl (hb hby at_42) rfl (l' := #[iv p0, iv p1, iv p2, iv p3, iv p4, iv (1:Int32), iv w0_1, iv w0_2, iv w0_3, iv w0_4, .unset, .unset, .unset, .unset, .unset, .unset, .unset, .unset]) (by rw [hw0_4]; rfl) ?_
    exact k
  obtain ⟨T619, h619, X619, e619, E619, A619, D619, -, st619⟩ := newO X0 hx hZ hown (own_h hw 1 rfl) (own_h hw 2 rfl) (own_h hw 3 rfl) e0 (g := (mkF m 44 #[iv p0, iv p1, iv p2, iv p3, iv p4, iv (1:Int32), iv w0_1, iv w0_2, iv w0_3, iv w0_4, .unset, .unset, .unset, .unset, .unset, .unset, .unset, .unset] [])) rfl (hb hby at_44) (by decide) (by decide)
  obtain ⟨b619, g619⟩ : ∃ z, z = h0.size := ⟨_, rfl⟩
  rw [← g619] at A619 D619 st619
  have ge_b619 : n0 ≤ b619 := Nat.le_trans Z0 (Nat.le_of_eq g619.symm)
  have Z620 : n0 ≤ h619.size := Nat.le_trans Z0 E619.1
  have F619_elements : Fld Z h619 b619 "com/example/spare_calculus/sparecalculus/bisim/Partition" "elements" "[I" .null := D619 (Or.inr (own_h hw 12 rfl)) (ty := (.array .int)) (by decide)
  have F619_positions : Fld Z h619 b619 "com/example/spare_calculus/sparecalculus/bisim/Partition" "positions" "[I" .null := D619 (Or.inr (own_h hw 14 rfl)) (ty := (.array .int)) (by decide)
  have F619_blockOf : Fld Z h619 b619 "com/example/spare_calculus/sparecalculus/bisim/Partition" "blockOf" "[I" .null := D619 (Or.inr (own_h hw 16 rfl)) (ty := (.array .int)) (by decide)
  have F619_blockStart : Fld Z h619 b619 "com/example/spare_calculus/sparecalculus/bisim/Partition" "blockStart" "[I" .null := D619 (Or.inr (own_h hw 18 rfl)) (ty := (.array .int)) (by decide)
  have F619_blockEnd : Fld Z h619 b619 "com/example/spare_calculus/sparecalculus/bisim/Partition" "blockEnd" "[I" .null := D619 (Or.inr (own_h hw 20 rfl)) (ty := (.array .int)) (by decide)
  have F619_blockMarkedEnd : Fld Z h619 b619 "com/example/spare_calculus/sparecalculus/bisim/Partition" "blockMarkedEnd" "[I" .null := D619 (Or.inr (own_h hw 22 rfl)) (ty := (.array .int)) (by decide)
  have F619_touchedBlocks : Fld Z h619 b619 "com/example/spare_calculus/sparecalculus/bisim/Partition" "touchedBlocks" "[I" .null := D619 (Or.inr (own_h hw 24 rfl)) (ty := (.array .int)) (by decide)
  have F619_blockCount : Fld Z h619 b619 "com/example/spare_calculus/sparecalculus/bisim/Partition" "blockCount" "I" (.int (0:Int32)) := D619 (Or.inl (own_h hw 26 rfl)) (ty := .int) (by decide)
  have F619_touchedBlockCount : Fld Z h619 b619 "com/example/spare_calculus/sparecalculus/bisim/Partition" "touchedBlockCount" "I" (.int (0:Int32)) := D619 (Or.inl (own_h hw 33 rfl)) (ty := .int) (by decide)
  refine own_pre st619 ?_
  refine own_pre (A := T619.setTop (mkF m 50 #[iv p0, iv p1, iv p2, iv p3, iv p4, iv (1:Int32), iv w0_1, iv w0_2, iv w0_3, iv w0_4, .unset, .unset, .unset, .unset, .unset, .unset, .unset, .unset] [(.int (1:Int32)), (.ref b619), (.ref b619)])) (fun t k => ?_) ?_
  · show Steps p.tables e below (T619.setTop (mkF m 47 #[iv p0, iv p1, iv p2, iv p3, iv p4, iv (1:Int32), iv w0_1, iv w0_2, iv w0_3, iv w0_4, .unset, .unset, .unset, .unset, .unset, .unset, .unset, .unset] [(.ref b619)])) _
    refine XS.dup X619.here hx rfl (hb hby at_47) rfl rfl ?_
    show Steps p.tables e below (T619.setTop (mkF m 48 #[iv p0, iv p1, iv p2, iv p3, iv p4, iv (1:Int32), iv w0_1, iv w0_2, iv w0_3, iv w0_4, .unset, .unset, .unset, .unset, .unset, .unset, .unset, .unset] [(.ref b619), (.ref b619)])) _
    refine XS.iload X619.here hx rfl (hb hby at_48) rfl ?_
    exact k
  obtain ⟨_, _, ⟨T621, L621, k621, n621⟩, -, X621, ⟨Lc621, hQ621, l621, y621, z621⟩, st621⟩ := X619.specialBack hx (y := (⟨"com/example/spare_calculus/sparecalculus/bisim/Partition", "<init>", "(I)V"⟩ : MethodName)) rfl hown (mvT hZ (own_h hw 4 rfl)) (mvT hZ (own_h hw 5 rfl)) (mvT hZ (own_h hw 6 rfl)) (by decide) (backOf (W := 1) (rm1n1 l Z aZ hw [] b619 h619 n0 Z620 A619 F619_elements F619_positions F619_blockOf F619_blockStart F619_blockEnd F619_blockMarkedEnd F619_touchedBlocks F619_blockCount F619_touchedBlockCount ge_b619) hZ (own_h hw 6 rfl) (own_h hw 3 rfl) (by decide) (by decide)) (g := (mkF m 50 #[iv p0, iv p1, iv p2, iv p3, iv p4, iv (1:Int32), iv w0_1, iv w0_2, iv w0_3, iv w0_4, .unset, .unset, .unset, .unset, .unset, .unset, .unset, .unset] [(.int (1:Int32)), (.ref b619), (.ref b619)])) rfl (by rw [hml]; rfl) (Steps.refl _) (a := b619) (argsL := [(.int (1:Int32))]) (rest := [(.ref b619)]) (lenOf own_pd0 rfl) rfl (by show 2 * 0 + _ ≤ _; exact Nat.le_of_eq rfl) (hb hby at_50) (fun _ _ => ⟨rfl, e619, (by decide : 1 + 7 ≤ _), (by decide : 9 + 7 ≤ _)⟩)
  dsimp only [Pt.U, Pt.locs, Pt.cells, Pt.slots] at X621 l621 y621 z621 st621 hQ621
  subst l621 y621 z621
  obtain ⟨rfl, N621q, K621, e1_622, e2_623, e3_624, e4_625, e5_626, e6_627, e7_628, sz629, sz630, sz631, sz632, sz633, sz634, sz635, ne636, ne637, ne638, ne639, ne640, ne641, ne642, ne643, ne644, ne645, ne646, ne647, ne648, ne649, ne650, ne651, ne652, ne653, ne654, ne655, ne656, G657, G658, G659, G660, G661, G662, G663, G664, G665, G666, G667, G668, G669, G670, G671, G672⟩ := hQ621
  have N621 := Fr.app N0 N621q
  have Z673 : n0 ≤ T621.heap.size := Nat.le_trans Z620 K621.1
  have ne674 : b619 ≠ e1_622 := Nat.ne_of_lt (Nat.lt_of_lt_of_le A619.lt sz629)
  have ge675 : n0 ≤ e1_622 := Nat.le_trans Z620 sz629
  have ne676 : b619 ≠ e2_623 := Nat.ne_of_lt (Nat.lt_of_lt_of_le A619.lt sz630)
  have ge677 : n0 ≤ e2_623 := Nat.le_trans Z620 sz630
  have ne678 : b619 ≠ e3_624 := Nat.ne_of_lt (Nat.lt_of_lt_of_le A619.lt sz631)
  have ge679 : n0 ≤ e3_624 := Nat.le_trans Z620 sz631
  have ne680 : b619 ≠ e4_625 := Nat.ne_of_lt (Nat.lt_of_lt_of_le A619.lt sz632)
  have ge681 : n0 ≤ e4_625 := Nat.le_trans Z620 sz632
  have ne682 : b619 ≠ e5_626 := Nat.ne_of_lt (Nat.lt_of_lt_of_le A619.lt sz633)
  have ge683 : n0 ≤ e5_626 := Nat.le_trans Z620 sz633
  have ne684 : b619 ≠ e6_627 := Nat.ne_of_lt (Nat.lt_of_lt_of_le A619.lt sz634)
  have ge685 : n0 ≤ e6_627 := Nat.le_trans Z620 sz634
  have ne686 : b619 ≠ e7_628 := Nat.ne_of_lt (Nat.lt_of_lt_of_le A619.lt sz635)
  have ge687 : n0 ≤ e7_628 := Nat.le_trans Z620 sz635
  refine own_pre (fun _ k => st621.trans k) ?_
  refine own_pre (A := T621.setTop (mkF m 59 #[iv p0, iv p1, iv p2, iv p3, iv p4, iv (1:Int32), iv w0_1, iv w0_2, iv w0_3, iv w0_4, rv b619, .unset, .unset, .unset, .unset, .unset, .unset, .unset] [(.int w0_1), (.ref b619)])) (fun t k => ?_) ?_
  · show Steps p.tables e below (T621.setTop (mkF m 53 #[iv p0, iv p1, iv p2, iv p3, iv p4, iv (1:Int32), iv w0_1, iv w0_2, iv w0_3, iv w0_4, .unset, .unset, .unset, .unset, .unset, .unset, .unset, .unset] [(.ref b619)])) _
    refine XS.astore X621.here hx rfl (hb hby at_53) rfl rfl (l' := #[iv p0, iv p1, iv p2, iv p3, iv p4, iv (1:Int32), iv w0_1, iv w0_2, iv w0_3, iv w0_4, rv b619, .unset, .unset, .unset, .unset, .unset, .unset, .unset]) rfl ?_
    show Steps p.tables e below (T621.setTop (mkF m 55 #[iv p0, iv p1, iv p2, iv p3, iv p4, iv (1:Int32), iv w0_1, iv w0_2, iv w0_3, iv w0_4, rv b619, .unset, .unset, .unset, .unset, .unset, .unset, .unset] [])) _
    refine XS.aload X621.here hx rfl (hb hby at_55) rfl rfl ?_
    show Steps p.tables e below (T621.setTop (mkF m 57 #[iv p0, iv p1, iv p2, iv p3, iv p4, iv (1:Int32), iv w0_1, iv w0_2, iv w0_3, iv w0_4, rv b619, .unset, .unset, .unset, .unset, .unset, .unset, .unset] [(.ref b619)])) _
    refine XS.iload X621.here hx rfl (hb hby at_57) rfl ?_
    exact k
  have F689 := (A619.keep K621)
  have hf691 : (own_In w0_1 [(0:Int32)].length) ∧ (own_In (own_at [(0:Int32)] w0_1) [(0:Int32)].length) ∧ (own_In w0_1 [(0:Int32)].length) ∧ (¬ ((own_at [(0:Int32)] w0_1) < (own_at [(0:Int32)] (own_at [(0:Int32)] w0_1))) → own_In (own_at [(0:Int32)] w0_1) [(0:Int32)].length) ∧ (¬ ((own_at [(0:Int32)] w0_1) < (own_at [(0:Int32)] (own_at [(0:Int32)] w0_1))) → own_In (own_at [(0:Int32)] (own_at [(0:Int32)] w0_1)) [(0:Int32)].length) ∧ (¬ ((own_at [(0:Int32)] w0_1) < (own_at [(0:Int32)] (own_at [(0:Int32)] w0_1))) → own_In (own_at [(0:Int32)] w0_1) [(0:Int32)].length) ∧ (¬ ((own_at [(0:Int32)] w0_1) < (own_at [(0:Int32)] (own_at [(0:Int32)] w0_1))) → own_In (own_at [(0:Int32)] (own_at [(0:Int32)] (own_at [(0:Int32)] w0_1))) [(0:Int32)].length) ∧ (¬ ((own_at [(0:Int32)] w0_1) < (own_at [(0:Int32)] (own_at [(0:Int32)] w0_1))) → (own_at [(0:Int32)] (own_at [(0:Int32)] w0_1)) = (own_at [(0:Int32)] (own_at [(0:Int32)] w0_1)) → own_In (0:Int32) [(0:Int32)].length) := by exact own_fin690 w0_1 (own_mem1 _ _ hw0_1)
  obtain ⟨cq688, kq688, q688a, q688b, q688c⟩ := isOf hZ rfl F689
  obtain ⟨_, _, ⟨T688, L688, k688, n688⟩, -, X688, ⟨Lc688, hQ688, l688, y688, z688⟩, st688⟩ := X621.virtualBack hx (y := (⟨"com/example/spare_calculus/sparecalculus/bisim/Partition", "mark", "(I)V"⟩ : MethodName)) (z := (⟨"com/example/spare_calculus/sparecalculus/bisim/Partition", "mark", "(I)V"⟩ : MethodName)) hown (mvT hZ (own_h hw 27 rfl)) (mvT hZ (own_h hw 28 rfl)) (notFace_of_selects (args := #[]) (mvT hZ (own_h hw 30 rfl))) (mvT hZ (own_h hw 30 rfl)) (mvT hZ (own_h hw 29 rfl)) (by decide) (backOf (W := 0) (rm3 l Z aZ hw [] b619 w0_1 e1_622 e2_623 e3_624 e4_625 e5_626 e6_627 e7_628 [(0:Int32)] [(0:Int32)] [(0:Int32)] [(0:Int32)] [(0:Int32)] [(0:Int32)] (1:Int32) (0:Int32) T621.heap n0 Z673 F689 G657 G658 G659 G660 G661 G662 G663 G664 G665 G666 G667 G668 G669 G671 G672 ne674 ne676 ne678 ne680 ne684 ne686 ne636 ne637 ne638 ne640 ne641 ne642 ne643 ne645 ne646 ne647 ne649 ne650 ne652 ne653 ne656 ge_b619 ge675 ge677 ge685 ge687 hf691.1 hf691.2.1 hf691.2.2.1 hf691.2.2.2.1 hf691.2.2.2.2.1 hf691.2.2.2.2.2.1 hf691.2.2.2.2.2.2.1 hf691.2.2.2.2.2.2.2) hZ (own_h hw 31 rfl) (own_h hw 3 rfl) (by decide) (by decide)) q688a q688c (g := (mkF m 59 #[iv p0, iv p1, iv p2, iv p3, iv p4, iv (1:Int32), iv w0_1, iv w0_2, iv w0_3, iv w0_4, rv b619, .unset, .unset, .unset, .unset, .unset, .unset, .unset] [(.int w0_1), (.ref b619)])) rfl (by rw [hml]; rfl) (Steps.refl _) (argsL := [(.int w0_1)]) (rest := []) (lenOf own_pd0 rfl) rfl (by show 2 * 0 + _ ≤ _; exact Nat.le_of_eq rfl) (hb hby at_59) (fun _ _ => ⟨rfl, rfl, (by decide : 8 + 0 ≤ _), (by decide : 16 + 0 ≤ _)⟩)
  dsimp only [Pt.U, Pt.locs, Pt.cells, Pt.slots] at X688 l688 y688 z688 st688 hQ688
  subst l688 y688 z688
  obtain ⟨rfl, N688q, K688, G692, G693, G694, G695, G696, G697, G698, G699, G700, G701, G702, G703, G704⟩ := hQ688
  have N688 := Fr.app N621 N688q
  have Z705 : n0 ≤ T688.heap.size := Nat.le_trans Z673 K688.1
  have G707 : Fld Z T688.heap b619 "com/example/spare_calculus/sparecalculus/bisim/Partition" "touchedBlockCount" "I" (.int (own_v706 w0_1)) := G700
  have G709 : own_Ints Z T688.heap e1_622 (own_v708 w0_1) := G701
  have G711 : own_Ints Z T688.heap e2_623 (own_v710 w0_1) := G702
  have G713 : own_Ints Z T688.heap e6_627 (own_v712 w0_1) := G703
  have G715 : own_Ints Z T688.heap e7_628 (own_v714 w0_1) := G704
  refine own_pre (fun _ k => st688.trans k) ?_
  refine own_pre (A := T688.setTop (mkF m 66 #[iv p0, iv p1, iv p2, iv p3, iv p4, iv (1:Int32), iv w0_1, iv w0_2, iv w0_3, iv w0_4, rv b619, .unset, .unset, .unset, .unset, .unset, .unset, .unset] [(.int w0_2), (.ref b619)])) (fun t k => ?_) ?_
  · show Steps p.tables e below (T688.setTop (mkF m 62 #[iv p0, iv p1, iv p2, iv p3, iv p4, iv (1:Int32), iv w0_1, iv w0_2, iv w0_3, iv w0_4, rv b619, .unset, .unset, .unset, .unset, .unset, .unset, .unset] [])) _
    refine XS.aload X688.here hx rfl (hb hby at_62) rfl rfl ?_
    show Steps p.tables e below (T688.setTop (mkF m 64 #[iv p0, iv p1, iv p2, iv p3, iv p4, iv (1:Int32), iv w0_1, iv w0_2, iv w0_3, iv w0_4, rv b619, .unset, .unset, .unset, .unset, .unset, .unset, .unset] [(.ref b619)])) _
    refine XS.iload X688.here hx rfl (hb hby at_64) rfl ?_
    exact k
  have F717 := (F689.keep K688)
  have F718 := (G668.keep K688 (ninS (Ne.symm ne678) (ninS (Ne.symm ne637) (ninS (Ne.symm ne642) (ninS ne649 (ninS ne650 nin0))))))
  have F719 := (G669.keep K688 (ninS (Ne.symm ne680) (ninS (Ne.symm ne638) (ninS (Ne.symm ne643) (ninS ne652 (ninS ne653 nin0))))))
  have hf721 : (own_In w0_2 [(0:Int32)].length) ∧ (own_In (own_at [(0:Int32)] w0_2) (own_v712 w0_1).length) ∧ (own_In w0_2 (own_v710 w0_1).length) ∧ (¬ ((own_at (own_v710 w0_1) w0_2) < (own_at (own_v712 w0_1) (own_at [(0:Int32)] w0_2))) → own_In (own_at [(0:Int32)] w0_2) [(0:Int32)].length) ∧ (¬ ((own_at (own_v710 w0_1) w0_2) < (own_at (own_v712 w0_1) (own_at [(0:Int32)] w0_2))) → own_In (own_at (own_v712 w0_1) (own_at [(0:Int32)] w0_2)) (own_v708 w0_1).length) ∧ (¬ ((own_at (own_v710 w0_1) w0_2) < (own_at (own_v712 w0_1) (own_at [(0:Int32)] w0_2))) → own_In (own_at (own_v710 w0_1) w0_2) (own_v708 w0_1).length) ∧ (¬ ((own_at (own_v710 w0_1) w0_2) < (own_at (own_v712 w0_1) (own_at [(0:Int32)] w0_2))) → own_In (own_at (own_v708 w0_1) (own_at (own_v712 w0_1) (own_at [(0:Int32)] w0_2))) (own_v710 w0_1).length) ∧ (¬ ((own_at (own_v710 w0_1) w0_2) < (own_at (own_v712 w0_1) (own_at [(0:Int32)] w0_2))) → (own_at (own_v712 w0_1) (own_at [(0:Int32)] w0_2)) = (own_at [(0:Int32)] (own_at [(0:Int32)] w0_2)) → own_In (own_v706 w0_1) (own_v714 w0_1).length) := by exact own_fin720 w0_1 (own_mem1 _ _ hw0_1) w0_2 (own_mem1 _ _ hw0_2)
  obtain ⟨cq716, kq716, q716a, q716b, q716c⟩ := isOf hZ rfl F717
  obtain ⟨_, _, ⟨T716, L716, k716, n716⟩, -, X716, ⟨Lc716, hQ716, l716, y716, z716⟩, st716⟩ := X688.virtualBack hx (y := (⟨"com/example/spare_calculus/sparecalculus/bisim/Partition", "mark", "(I)V"⟩ : MethodName)) (z := (⟨"com/example/spare_calculus/sparecalculus/bisim/Partition", "mark", "(I)V"⟩ : MethodName)) hown (mvT hZ (own_h hw 27 rfl)) (mvT hZ (own_h hw 28 rfl)) (notFace_of_selects (args := #[]) (mvT hZ (own_h hw 30 rfl))) (mvT hZ (own_h hw 30 rfl)) (mvT hZ (own_h hw 29 rfl)) (by decide) (backOf (W := 0) (rm3 l Z aZ hw [] b619 w0_2 e1_622 e2_623 e3_624 e4_625 e5_626 e6_627 e7_628 (own_v708 w0_1) (own_v710 w0_1) [(0:Int32)] [(0:Int32)] (own_v712 w0_1) (own_v714 w0_1) (1:Int32) (own_v706 w0_1) T688.heap n0 Z705 F717 G692 G693 G694 G695 G696 G697 G698 G699 G707 G709 G711 F718 F719 G713 G715 ne674 ne676 ne678 ne680 ne684 ne686 ne636 ne637 ne638 ne640 ne641 ne642 ne643 ne645 ne646 ne647 ne649 ne650 ne652 ne653 ne656 ge_b619 ge675 ge677 ge685 ge687 hf721.1 hf721.2.1 hf721.2.2.1 hf721.2.2.2.1 hf721.2.2.2.2.1 hf721.2.2.2.2.2.1 hf721.2.2.2.2.2.2.1 hf721.2.2.2.2.2.2.2) hZ (own_h hw 31 rfl) (own_h hw 3 rfl) (by decide) (by decide)) q716a q716c (g := (mkF m 66 #[iv p0, iv p1, iv p2, iv p3, iv p4, iv (1:Int32), iv w0_1, iv w0_2, iv w0_3, iv w0_4, rv b619, .unset, .unset, .unset, .unset, .unset, .unset, .unset] [(.int w0_2), (.ref b619)])) rfl (by rw [hml]; rfl) (Steps.refl _) (argsL := [(.int w0_2)]) (rest := []) (lenOf own_pd0 rfl) rfl (by show 2 * 0 + _ ≤ _; exact Nat.le_of_eq rfl) (hb hby at_66) (fun _ _ => ⟨rfl, rfl, (by decide : 8 + 0 ≤ _), (by decide : 16 + 0 ≤ _)⟩)
  dsimp only [Pt.U, Pt.locs, Pt.cells, Pt.slots] at X716 l716 y716 z716 st716 hQ716
  subst l716 y716 z716
  obtain ⟨rfl, N716q, K716, G722, G723, G724, G725, G726, G727, G728, G729, G730, G731, G732, G733, G734⟩ := hQ716
  have N716 := Fr.app N688 N716q
  have Z735 : n0 ≤ T716.heap.size := Nat.le_trans Z705 K716.1
  have G737 : Fld Z T716.heap b619 "com/example/spare_calculus/sparecalculus/bisim/Partition" "touchedBlockCount" "I" (.int (own_v736 w0_2 w0_1)) := G730
  have G739 : own_Ints Z T716.heap e1_622 (own_v738 w0_2 w0_1) := G731
  have G741 : own_Ints Z T716.heap e2_623 (own_v740 w0_2 w0_1) := G732
  have G743 : own_Ints Z T716.heap e6_627 (own_v742 w0_2 w0_1) := G733
  have G745 : own_Ints Z T716.heap e7_628 (own_v744 w0_2 w0_1) := G734
  refine own_pre (fun _ k => st716.trans k) ?_
  refine own_pre (A := T716.setTop (mkF m 72 #[iv p0, iv p1, iv p2, iv p3, iv p4, iv (1:Int32), iv w0_1, iv w0_2, iv w0_3, iv w0_4, rv b619, .unset, .unset, .unset, .unset, .unset, .unset, .unset] [(.int (0:Int32)), (.ref b619)])) (fun t k => ?_) ?_
  · show Steps p.tables e below (T716.setTop (mkF m 69 #[iv p0, iv p1, iv p2, iv p3, iv p4, iv (1:Int32), iv w0_1, iv w0_2, iv w0_3, iv w0_4, rv b619, .unset, .unset, .unset, .unset, .unset, .unset, .unset] [])) _
    refine XS.aload X716.here hx rfl (hb hby at_69) rfl rfl ?_
    show Steps p.tables e below (T716.setTop (mkF m 71 #[iv p0, iv p1, iv p2, iv p3, iv p4, iv (1:Int32), iv w0_1, iv w0_2, iv w0_3, iv w0_4, rv b619, .unset, .unset, .unset, .unset, .unset, .unset, .unset] [(.ref b619)])) _
    refine XS.iconst X716.here hx rfl (hb hby at_71) ?_
    exact k
  have hf748 : own_In (0:Int32) (own_v742 w0_2 w0_1).length := by exact own_fin747 w0_1 (own_mem1 _ _ hw0_1) w0_2 (own_mem1 _ _ hw0_2)
  have F749 := (F717.keep K716)
  obtain ⟨cq746, kq746, q746a, q746b, q746c⟩ := isOf hZ rfl F749
  obtain ⟨_, _, ⟨T746, L746, k746, n746⟩, -, X746, ⟨Lc746, hQ746, l746, y746, z746⟩, st746⟩ := X716.virtualBack hx (y := (⟨"com/example/spare_calculus/sparecalculus/bisim/Partition", "markedEnd", "(I)I"⟩ : MethodName)) (z := (⟨"com/example/spare_calculus/sparecalculus/bisim/Partition", "markedEnd", "(I)I"⟩ : MethodName)) hown (mvT hZ (own_h hw 34 rfl)) (mvT hZ (own_h hw 35 rfl)) (notFace_of_selects (args := #[]) (mvT hZ (own_h hw 37 rfl))) (mvT hZ (own_h hw 37 rfl)) (mvT hZ (own_h hw 36 rfl)) (by decide) (backOf (W := 0) (rm4 l Z aZ hw [] b619 (0:Int32) e6_627 (own_v742 w0_2 w0_1) T716.heap n0 Z735 G727 G743 hf748) hZ (own_h hw 38 rfl) (own_h hw 3 rfl) (by decide) (by decide)) q746a q746c (g := (mkF m 72 #[iv p0, iv p1, iv p2, iv p3, iv p4, iv (1:Int32), iv w0_1, iv w0_2, iv w0_3, iv w0_4, rv b619, .unset, .unset, .unset, .unset, .unset, .unset, .unset] [(.int (0:Int32)), (.ref b619)])) rfl (by rw [hml]; rfl) (Steps.refl _) (argsL := [(.int (0:Int32))]) (rest := []) (lenOf own_pd1 rfl) rfl (by show 2 * 0 + _ ≤ _; exact Nat.le_of_eq rfl) (hb hby at_72) (fun _ _ => ⟨rfl, rfl, (by decide : 8 + 0 ≤ _), (by decide : 16 + 0 ≤ _)⟩)
  dsimp only [Pt.U, Pt.locs, Pt.cells, Pt.slots] at X746 l746 y746 z746 st746 hQ746
  subst l746 y746 z746
  obtain ⟨rfl, N746q, eh746⟩ := hQ746
  have N746 := Fr.app N716 N746q
  refine own_pre (fun _ k => st746.trans k) ?_
  refine own_pre (A := T746.setTop (mkF m 79 #[iv p0, iv p1, iv p2, iv p3, iv p4, iv (1:Int32), iv w0_1, iv w0_2, iv w0_3, iv w0_4, rv b619, iv (f4 (0:Int32) (own_v742 w0_2 w0_1)), .unset, .unset, .unset, .unset, .unset, .unset] [(.ref b619)])) (fun t k => ?_) ?_
  · show Steps p.tables e below (T746.setTop (mkF m 75 #[iv p0, iv p1, iv p2, iv p3, iv p4, iv (1:Int32), iv w0_1, iv w0_2, iv w0_3, iv w0_4, rv b619, .unset, .unset, .unset, .unset, .unset, .unset, .unset] [(.int (f4 (0:Int32) (own_v742 w0_2 w0_1)))])) _
    refine XS.istore X746.here hx rfl (hb hby at_75) rfl (l' := #[iv p0, iv p1, iv p2, iv p3, iv p4, iv (1:Int32), iv w0_1, iv w0_2, iv w0_3, iv w0_4, rv b619, iv (f4 (0:Int32) (own_v742 w0_2 w0_1)), .unset, .unset, .unset, .unset, .unset, .unset]) rfl ?_
    show Steps p.tables e below (T746.setTop (mkF m 77 #[iv p0, iv p1, iv p2, iv p3, iv p4, iv (1:Int32), iv w0_1, iv w0_2, iv w0_3, iv w0_4, rv b619, iv (f4 (0:Int32) (own_v742 w0_2 w0_1)), .unset, .unset, .unset, .unset, .unset, .unset] [])) _
    refine XS.aload X746.here hx rfl (hb hby at_77) rfl rfl ?_
    exact k
  obtain ⟨cq750, kq750, q750a, q750b, q750c⟩ := isOf hZ eh746 F749
  obtain ⟨_, _, ⟨T750, L750, k750, n750⟩, -, X750, ⟨Lc750, hQ750, l750, y750, z750⟩, st750⟩ := X746.virtualBack hx (y := (⟨"com/example/spare_calculus/sparecalculus/bisim/Partition", "touchedCount", "()I"⟩ : MethodName)) (z := (⟨"com/example/spare_calculus/sparecalculus/bisim/Partition", "touchedCount", "()I"⟩ : MethodName)) hown (mvT hZ (own_h hw 39 rfl)) (mvT hZ (own_h hw 40 rfl)) (notFace_of_selects (args := #[]) (mvT hZ (own_h hw 42 rfl))) (mvT hZ (own_h hw 42 rfl)) (mvT hZ (own_h hw 41 rfl)) (by decide) (backOf (W := 0) (rm5 l Z aZ hw [] b619 (own_v736 w0_2 w0_1) T716.heap n0 Z735 G737) hZ (own_h hw 43 rfl) (own_h hw 3 rfl) (by decide) (by decide)) q750a q750c (g := (mkF m 79 #[iv p0, iv p1, iv p2, iv p3, iv p4, iv (1:Int32), iv w0_1, iv w0_2, iv w0_3, iv w0_4, rv b619, iv (f4 (0:Int32) (own_v742 w0_2 w0_1)), .unset, .unset, .unset, .unset, .unset, .unset] [(.ref b619)])) rfl (by rw [hml]; rfl) (Steps.refl _) (argsL := []) (rest := []) (lenOf own_pd2 rfl) rfl (by show 2 * 0 + _ ≤ _; exact Nat.le_of_eq rfl) (hb hby at_79) (fun _ _ => ⟨rfl, eh746, (by decide : 8 + 0 ≤ _), (by decide : 16 + 0 ≤ _)⟩)
  dsimp only [Pt.U, Pt.locs, Pt.cells, Pt.slots] at X750 l750 y750 z750 st750 hQ750
  subst l750 y750 z750
  obtain ⟨rfl, N750q, eh750⟩ := hQ750
  have N750 := Fr.app N746 N750q
  refine own_pre (fun _ k => st750.trans k) ?_
  refine own_pre (A := T750.setTop (mkF m 87 #[iv p0, iv p1, iv p2, iv p3, iv p4, iv (1:Int32), iv w0_1, iv w0_2, iv w0_3, iv w0_4, rv b619, iv (f4 (0:Int32) (own_v742 w0_2 w0_1)), iv (f5 (own_v736 w0_2 w0_1)), .unset, .unset, .unset, .unset, .unset] [(.int (0:Int32)), (.ref b619)])) (fun t k => ?_) ?_
  · show Steps p.tables e below (T750.setTop (mkF m 82 #[iv p0, iv p1, iv p2, iv p3, iv p4, iv (1:Int32), iv w0_1, iv w0_2, iv w0_3, iv w0_4, rv b619, iv (f4 (0:Int32) (own_v742 w0_2 w0_1)), .unset, .unset, .unset, .unset, .unset, .unset] [(.int (f5 (own_v736 w0_2 w0_1)))])) _
    refine XS.istore X750.here hx rfl (hb hby at_82) rfl (l' := #[iv p0, iv p1, iv p2, iv p3, iv p4, iv (1:Int32), iv w0_1, iv w0_2, iv w0_3, iv w0_4, rv b619, iv (f4 (0:Int32) (own_v742 w0_2 w0_1)), iv (f5 (own_v736 w0_2 w0_1)), .unset, .unset, .unset, .unset, .unset]) rfl ?_
    show Steps p.tables e below (T750.setTop (mkF m 84 #[iv p0, iv p1, iv p2, iv p3, iv p4, iv (1:Int32), iv w0_1, iv w0_2, iv w0_3, iv w0_4, rv b619, iv (f4 (0:Int32) (own_v742 w0_2 w0_1)), iv (f5 (own_v736 w0_2 w0_1)), .unset, .unset, .unset, .unset, .unset] [])) _
    refine XS.aload X750.here hx rfl (hb hby at_84) rfl rfl ?_
    show Steps p.tables e below (T750.setTop (mkF m 86 #[iv p0, iv p1, iv p2, iv p3, iv p4, iv (1:Int32), iv w0_1, iv w0_2, iv w0_3, iv w0_4, rv b619, iv (f4 (0:Int32) (own_v742 w0_2 w0_1)), iv (f5 (own_v736 w0_2 w0_1)), .unset, .unset, .unset, .unset, .unset] [(.ref b619)])) _
    refine XS.iconst X750.here hx rfl (hb hby at_86) ?_
    exact k
  have hf753 : own_In (0:Int32) (own_v744 w0_2 w0_1).length := by exact own_fin752 w0_1 (own_mem1 _ _ hw0_1) w0_2 (own_mem1 _ _ hw0_2)
  obtain ⟨cq751, kq751, q751a, q751b, q751c⟩ := isOf hZ eh750 F749
  obtain ⟨_, _, ⟨T751, L751, k751, n751⟩, -, X751, ⟨Lc751, hQ751, l751, y751, z751⟩, st751⟩ := X750.virtualBack hx (y := (⟨"com/example/spare_calculus/sparecalculus/bisim/Partition", "touched", "(I)I"⟩ : MethodName)) (z := (⟨"com/example/spare_calculus/sparecalculus/bisim/Partition", "touched", "(I)I"⟩ : MethodName)) hown (mvT hZ (own_h hw 44 rfl)) (mvT hZ (own_h hw 45 rfl)) (notFace_of_selects (args := #[]) (mvT hZ (own_h hw 47 rfl))) (mvT hZ (own_h hw 47 rfl)) (mvT hZ (own_h hw 46 rfl)) (by decide) (backOf (W := 0) (rm6 l Z aZ hw [] b619 (0:Int32) e7_628 (own_v744 w0_2 w0_1) T716.heap n0 Z735 G728 G745 hf753) hZ (own_h hw 48 rfl) (own_h hw 3 rfl) (by decide) (by decide)) q751a q751c (g := (mkF m 87 #[iv p0, iv p1, iv p2, iv p3, iv p4, iv (1:Int32), iv w0_1, iv w0_2, iv w0_3, iv w0_4, rv b619, iv (f4 (0:Int32) (own_v742 w0_2 w0_1)), iv (f5 (own_v736 w0_2 w0_1)), .unset, .unset, .unset, .unset, .unset] [(.int (0:Int32)), (.ref b619)])) rfl (by rw [hml]; rfl) (Steps.refl _) (argsL := [(.int (0:Int32))]) (rest := []) (lenOf own_pd1 rfl) rfl (by show 2 * 0 + _ ≤ _; exact Nat.le_of_eq rfl) (hb hby at_87) (fun _ _ => ⟨rfl, eh750, (by decide : 8 + 0 ≤ _), (by decide : 16 + 0 ≤ _)⟩)
  dsimp only [Pt.U, Pt.locs, Pt.cells, Pt.slots] at X751 l751 y751 z751 st751 hQ751
  subst l751 y751 z751
  obtain ⟨rfl, N751q, eh751⟩ := hQ751
  have N751 := Fr.app N750 N751q
  refine own_pre (fun _ k => st751.trans k) ?_
  refine own_pre (A := T751.setTop (mkF m 96 #[iv p0, iv p1, iv p2, iv p3, iv p4, iv (1:Int32), iv w0_1, iv w0_2, iv w0_3, iv w0_4, rv b619, iv (f4 (0:Int32) (own_v742 w0_2 w0_1)), iv (f5 (own_v736 w0_2 w0_1)), iv (f6 (0:Int32) (own_v744 w0_2 w0_1)), .unset, .unset, .unset, .unset] [(.int w0_4), (.ref b619)])) (fun t k => ?_) ?_
  · show Steps p.tables e below (T751.setTop (mkF m 90 #[iv p0, iv p1, iv p2, iv p3, iv p4, iv (1:Int32), iv w0_1, iv w0_2, iv w0_3, iv w0_4, rv b619, iv (f4 (0:Int32) (own_v742 w0_2 w0_1)), iv (f5 (own_v736 w0_2 w0_1)), .unset, .unset, .unset, .unset, .unset] [(.int (f6 (0:Int32) (own_v744 w0_2 w0_1)))])) _
    refine XS.istore X751.here hx rfl (hb hby at_90) rfl (l' := #[iv p0, iv p1, iv p2, iv p3, iv p4, iv (1:Int32), iv w0_1, iv w0_2, iv w0_3, iv w0_4, rv b619, iv (f4 (0:Int32) (own_v742 w0_2 w0_1)), iv (f5 (own_v736 w0_2 w0_1)), iv (f6 (0:Int32) (own_v744 w0_2 w0_1)), .unset, .unset, .unset, .unset]) rfl ?_
    show Steps p.tables e below (T751.setTop (mkF m 92 #[iv p0, iv p1, iv p2, iv p3, iv p4, iv (1:Int32), iv w0_1, iv w0_2, iv w0_3, iv w0_4, rv b619, iv (f4 (0:Int32) (own_v742 w0_2 w0_1)), iv (f5 (own_v736 w0_2 w0_1)), iv (f6 (0:Int32) (own_v744 w0_2 w0_1)), .unset, .unset, .unset, .unset] [])) _
    refine XS.aload X751.here hx rfl (hb hby at_92) rfl rfl ?_
    show Steps p.tables e below (T751.setTop (mkF m 94 #[iv p0, iv p1, iv p2, iv p3, iv p4, iv (1:Int32), iv w0_1, iv w0_2, iv w0_3, iv w0_4, rv b619, iv (f4 (0:Int32) (own_v742 w0_2 w0_1)), iv (f5 (own_v736 w0_2 w0_1)), iv (f6 (0:Int32) (own_v744 w0_2 w0_1)), .unset, .unset, .unset, .unset] [(.ref b619)])) _
    refine XS.iload X751.here hx rfl (hb hby at_94) rfl ?_
    exact k
  have hf756 : own_In w0_4 (own_v738 w0_2 w0_1).length := by exact own_fin755 w0_1 (own_mem1 _ _ hw0_1) w0_2 (own_mem1 _ _ hw0_2) w0_4 (own_mem1 _ _ hw0_4)
  obtain ⟨cq754, kq754, q754a, q754b, q754c⟩ := isOf hZ eh751 F749
  obtain ⟨_, _, ⟨T754, L754, k754, n754⟩, -, X754, ⟨Lc754, hQ754, l754, y754, z754⟩, st754⟩ := X751.virtualBack hx (y := (⟨"com/example/spare_calculus/sparecalculus/bisim/Partition", "state", "(I)I"⟩ : MethodName)) (z := (⟨"com/example/spare_calculus/sparecalculus/bisim/Partition", "state", "(I)I"⟩ : MethodName)) hown (mvT hZ (own_h hw 49 rfl)) (mvT hZ (own_h hw 50 rfl)) (notFace_of_selects (args := #[]) (mvT hZ (own_h hw 52 rfl))) (mvT hZ (own_h hw 52 rfl)) (mvT hZ (own_h hw 51 rfl)) (by decide) (backOf (W := 0) (rm7 l Z aZ hw [] b619 w0_4 e1_622 (own_v738 w0_2 w0_1) T716.heap n0 Z735 G722 G739 hf756) hZ (own_h hw 53 rfl) (own_h hw 3 rfl) (by decide) (by decide)) q754a q754c (g := (mkF m 96 #[iv p0, iv p1, iv p2, iv p3, iv p4, iv (1:Int32), iv w0_1, iv w0_2, iv w0_3, iv w0_4, rv b619, iv (f4 (0:Int32) (own_v742 w0_2 w0_1)), iv (f5 (own_v736 w0_2 w0_1)), iv (f6 (0:Int32) (own_v744 w0_2 w0_1)), .unset, .unset, .unset, .unset] [(.int w0_4), (.ref b619)])) rfl (by rw [hml]; rfl) (Steps.refl _) (argsL := [(.int w0_4)]) (rest := []) (lenOf own_pd1 rfl) rfl (by show 2 * 0 + _ ≤ _; exact Nat.le_of_eq rfl) (hb hby at_96) (fun _ _ => ⟨rfl, eh751, (by decide : 8 + 0 ≤ _), (by decide : 16 + 0 ≤ _)⟩)
  dsimp only [Pt.U, Pt.locs, Pt.cells, Pt.slots] at X754 l754 y754 z754 st754 hQ754
  subst l754 y754 z754
  obtain ⟨rfl, N754q, eh754⟩ := hQ754
  have N754 := Fr.app N751 N754q
  refine own_pre (fun _ k => st754.trans k) ?_
  refine own_pre (A := T754.setTop (mkF m 105 #[iv p0, iv p1, iv p2, iv p3, iv p4, iv (1:Int32), iv w0_1, iv w0_2, iv w0_3, iv w0_4, rv b619, iv (f4 (0:Int32) (own_v742 w0_2 w0_1)), iv (f5 (own_v736 w0_2 w0_1)), iv (f6 (0:Int32) (own_v744 w0_2 w0_1)), iv (f7 w0_4 (own_v738 w0_2 w0_1)), .unset, .unset, .unset] [(.int (f7 w0_4 (own_v738 w0_2 w0_1))), (.ref b619)])) (fun t k => ?_) ?_
  · show Steps p.tables e below (T754.setTop (mkF m 99 #[iv p0, iv p1, iv p2, iv p3, iv p4, iv (1:Int32), iv w0_1, iv w0_2, iv w0_3, iv w0_4, rv b619, iv (f4 (0:Int32) (own_v742 w0_2 w0_1)), iv (f5 (own_v736 w0_2 w0_1)), iv (f6 (0:Int32) (own_v744 w0_2 w0_1)), .unset, .unset, .unset, .unset] [(.int (f7 w0_4 (own_v738 w0_2 w0_1)))])) _
    refine XS.istore X754.here hx rfl (hb hby at_99) rfl (l' := #[iv p0, iv p1, iv p2, iv p3, iv p4, iv (1:Int32), iv w0_1, iv w0_2, iv w0_3, iv w0_4, rv b619, iv (f4 (0:Int32) (own_v742 w0_2 w0_1)), iv (f5 (own_v736 w0_2 w0_1)), iv (f6 (0:Int32) (own_v744 w0_2 w0_1)), iv (f7 w0_4 (own_v738 w0_2 w0_1)), .unset, .unset, .unset]) rfl ?_
    show Steps p.tables e below (T754.setTop (mkF m 101 #[iv p0, iv p1, iv p2, iv p3, iv p4, iv (1:Int32), iv w0_1, iv w0_2, iv w0_3, iv w0_4, rv b619, iv (f4 (0:Int32) (own_v742 w0_2 w0_1)), iv (f5 (own_v736 w0_2 w0_1)), iv (f6 (0:Int32) (own_v744 w0_2 w0_1)), iv (f7 w0_4 (own_v738 w0_2 w0_1)), .unset, .unset, .unset] [])) _
    refine XS.aload X754.here hx rfl (hb hby at_101) rfl rfl ?_
    show Steps p.tables e below (T754.setTop (mkF m 103 #[iv p0, iv p1, iv p2, iv p3, iv p4, iv (1:Int32), iv w0_1, iv w0_2, iv w0_3, iv w0_4, rv b619, iv (f4 (0:Int32) (own_v742 w0_2 w0_1)), iv (f5 (own_v736 w0_2 w0_1)), iv (f6 (0:Int32) (own_v744 w0_2 w0_1)), iv (f7 w0_4 (own_v738 w0_2 w0_1)), .unset, .unset, .unset] [(.ref b619)])) _
    refine XS.iload X754.here hx rfl (hb hby at_103) rfl ?_
    exact k
  have F758 := (F718.keep K716 (ninS (Ne.symm ne678) (ninS (Ne.symm ne637) (ninS (Ne.symm ne642) (ninS ne649 (ninS ne650 nin0))))))
  have hf760 : (own_In (f7 w0_4 (own_v738 w0_2 w0_1)) (own_v740 w0_2 w0_1).length) ∧ (own_In (f7 w0_4 (own_v738 w0_2 w0_1)) [(0:Int32)].length) ∧ (own_In (own_at [(0:Int32)] (f7 w0_4 (own_v738 w0_2 w0_1))) (own_v742 w0_2 w0_1).length) := by exact own_fin759 w0_1 (own_mem1 _ _ hw0_1) w0_2 (own_mem1 _ _ hw0_2) w0_4 (own_mem1 _ _ hw0_4)
  obtain ⟨cq757, kq757, q757a, q757b, q757c⟩ := isOf hZ eh754 F749
  obtain ⟨_, _, ⟨T757, L757, k757, n757⟩, -, X757, ⟨Lc757, hQ757, l757, y757, z757⟩, st757⟩ := X754.virtualBack hx (y := (⟨"com/example/spare_calculus/sparecalculus/bisim/Partition", "marked", "(I)Z"⟩ : MethodName)) (z := (⟨"com/example/spare_calculus/sparecalculus/bisim/Partition", "marked", "(I)Z"⟩ : MethodName)) hown (mvT hZ (own_h hw 54 rfl)) (mvT hZ (own_h hw 55 rfl)) (notFace_of_selects (args := #[]) (mvT hZ (own_h hw 57 rfl))) (mvT hZ (own_h hw 57 rfl)) (mvT hZ (own_h hw 56 rfl)) (by decide) (backOf (W := 0) (rm8 l Z aZ hw [] b619 (f7 w0_4 (own_v738 w0_2 w0_1)) e2_623 e3_624 e6_627 (own_v740 w0_2 w0_1) [(0:Int32)] (own_v742 w0_2 w0_1) T716.heap n0 Z735 G723 G724 G727 G741 F758 G743 hf760.1 hf760.2.1 hf760.2.2) hZ (own_h hw 58 rfl) (own_h hw 3 rfl) (by decide) (by decide)) q757a q757c (g := (mkF m 105 #[iv p0, iv p1, iv p2, iv p3, iv p4, iv (1:Int32), iv w0_1, iv w0_2, iv w0_3, iv w0_4, rv b619, iv (f4 (0:Int32) (own_v742 w0_2 w0_1)), iv (f5 (own_v736 w0_2 w0_1)), iv (f6 (0:Int32) (own_v744 w0_2 w0_1)), iv (f7 w0_4 (own_v738 w0_2 w0_1)), .unset, .unset, .unset] [(.int (f7 w0_4 (own_v738 w0_2 w0_1))), (.ref b619)])) rfl (by rw [hml]; rfl) (Steps.refl _) (argsL := [(.int (f7 w0_4 (own_v738 w0_2 w0_1)))]) (rest := []) (lenOf own_pd3 rfl) rfl (by show 2 * 0 + _ ≤ _; exact Nat.le_of_eq rfl) (hb hby at_105) (fun _ _ => ⟨rfl, eh754, (by decide : 8 + 0 ≤ _), (by decide : 16 + 0 ≤ _)⟩)
  dsimp only [Pt.U, Pt.locs, Pt.cells, Pt.slots] at X757 l757 y757 z757 st757 hQ757
  subst l757 y757 z757
  obtain ⟨rfl, N757q, eh757⟩ := hQ757
  have N757 := Fr.app N754 N757q
  refine own_pre (fun _ k => st757.trans k) ?_
  refine own_pre (A := T757.setTop (mkF m 114 #[iv p0, iv p1, iv p2, iv p3, iv p4, iv (1:Int32), iv w0_1, iv w0_2, iv w0_3, iv w0_4, rv b619, iv (f4 (0:Int32) (own_v742 w0_2 w0_1)), iv (f5 (own_v736 w0_2 w0_1)), iv (f6 (0:Int32) (own_v744 w0_2 w0_1)), iv (f7 w0_4 (own_v738 w0_2 w0_1)), iv (own_v761 w0_4 w0_2 w0_1), .unset, .unset] [(.int w0_3), (.ref b619)])) (fun t k => ?_) ?_
  · show Steps p.tables e below (T757.setTop (mkF m 108 #[iv p0, iv p1, iv p2, iv p3, iv p4, iv (1:Int32), iv w0_1, iv w0_2, iv w0_3, iv w0_4, rv b619, iv (f4 (0:Int32) (own_v742 w0_2 w0_1)), iv (f5 (own_v736 w0_2 w0_1)), iv (f6 (0:Int32) (own_v744 w0_2 w0_1)), iv (f7 w0_4 (own_v738 w0_2 w0_1)), .unset, .unset, .unset] [(.int (own_v761 w0_4 w0_2 w0_1))])) _
    refine XS.istore X757.here hx rfl (hb hby at_108) rfl (l' := #[iv p0, iv p1, iv p2, iv p3, iv p4, iv (1:Int32), iv w0_1, iv w0_2, iv w0_3, iv w0_4, rv b619, iv (f4 (0:Int32) (own_v742 w0_2 w0_1)), iv (f5 (own_v736 w0_2 w0_1)), iv (f6 (0:Int32) (own_v744 w0_2 w0_1)), iv (f7 w0_4 (own_v738 w0_2 w0_1)), iv (own_v761 w0_4 w0_2 w0_1), .unset, .unset]) rfl ?_
    show Steps p.tables e below (T757.setTop (mkF m 110 #[iv p0, iv p1, iv p2, iv p3, iv p4, iv (1:Int32), iv w0_1, iv w0_2, iv w0_3, iv w0_4, rv b619, iv (f4 (0:Int32) (own_v742 w0_2 w0_1)), iv (f5 (own_v736 w0_2 w0_1)), iv (f6 (0:Int32) (own_v744 w0_2 w0_1)), iv (f7 w0_4 (own_v738 w0_2 w0_1)), iv (own_v761 w0_4 w0_2 w0_1), .unset, .unset] [])) _
    refine XS.aload X757.here hx rfl (hb hby at_110) rfl rfl ?_
    show Steps p.tables e below (T757.setTop (mkF m 112 #[iv p0, iv p1, iv p2, iv p3, iv p4, iv (1:Int32), iv w0_1, iv w0_2, iv w0_3, iv w0_4, rv b619, iv (f4 (0:Int32) (own_v742 w0_2 w0_1)), iv (f5 (own_v736 w0_2 w0_1)), iv (f6 (0:Int32) (own_v744 w0_2 w0_1)), iv (f7 w0_4 (own_v738 w0_2 w0_1)), iv (own_v761 w0_4 w0_2 w0_1), .unset, .unset] [(.ref b619)])) _
    refine XS.iload X757.here hx rfl (hb hby at_112) rfl ?_
    exact k
  have hf764 : (own_In w0_3 (own_v740 w0_2 w0_1).length) ∧ (own_In w0_3 [(0:Int32)].length) ∧ (own_In (own_at [(0:Int32)] w0_3) (own_v742 w0_2 w0_1).length) := by exact own_fin763 w0_1 (own_mem1 _ _ hw0_1) w0_2 (own_mem1 _ _ hw0_2) w0_3 (own_mem1 _ _ hw0_3)
  obtain ⟨cq762, kq762, q762a, q762b, q762c⟩ := isOf hZ eh757 F749
  obtain ⟨_, _, ⟨T762, L762, k762, n762⟩, -, X762, ⟨Lc762, hQ762, l762, y762, z762⟩, st762⟩ := X757.virtualBack hx (y := (⟨"com/example/spare_calculus/sparecalculus/bisim/Partition", "marked", "(I)Z"⟩ : MethodName)) (z := (⟨"com/example/spare_calculus/sparecalculus/bisim/Partition", "marked", "(I)Z"⟩ : MethodName)) hown (mvT hZ (own_h hw 54 rfl)) (mvT hZ (own_h hw 55 rfl)) (notFace_of_selects (args := #[]) (mvT hZ (own_h hw 57 rfl))) (mvT hZ (own_h hw 57 rfl)) (mvT hZ (own_h hw 56 rfl)) (by decide) (backOf (W := 0) (rm8 l Z aZ hw [] b619 w0_3 e2_623 e3_624 e6_627 (own_v740 w0_2 w0_1) [(0:Int32)] (own_v742 w0_2 w0_1) T716.heap n0 Z735 G723 G724 G727 G741 F758 G743 hf764.1 hf764.2.1 hf764.2.2) hZ (own_h hw 58 rfl) (own_h hw 3 rfl) (by decide) (by decide)) q762a q762c (g := (mkF m 114 #[iv p0, iv p1, iv p2, iv p3, iv p4, iv (1:Int32), iv w0_1, iv w0_2, iv w0_3, iv w0_4, rv b619, iv (f4 (0:Int32) (own_v742 w0_2 w0_1)), iv (f5 (own_v736 w0_2 w0_1)), iv (f6 (0:Int32) (own_v744 w0_2 w0_1)), iv (f7 w0_4 (own_v738 w0_2 w0_1)), iv (own_v761 w0_4 w0_2 w0_1), .unset, .unset] [(.int w0_3), (.ref b619)])) rfl (by rw [hml]; rfl) (Steps.refl _) (argsL := [(.int w0_3)]) (rest := []) (lenOf own_pd3 rfl) rfl (by show 2 * 0 + _ ≤ _; exact Nat.le_of_eq rfl) (hb hby at_114) (fun _ _ => ⟨rfl, eh757, (by decide : 8 + 0 ≤ _), (by decide : 16 + 0 ≤ _)⟩)
  dsimp only [Pt.U, Pt.locs, Pt.cells, Pt.slots] at X762 l762 y762 z762 st762 hQ762
  subst l762 y762 z762
  obtain ⟨rfl, N762q, eh762⟩ := hQ762
  have N762 := Fr.app N757 N762q
  refine own_pre (fun _ k => st762.trans k) ?_
  refine own_pre (A := T762.setTop (mkF m 123 #[iv p0, iv p1, iv p2, iv p3, iv p4, iv (1:Int32), iv w0_1, iv w0_2, iv w0_3, iv w0_4, rv b619, iv (f4 (0:Int32) (own_v742 w0_2 w0_1)), iv (f5 (own_v736 w0_2 w0_1)), iv (f6 (0:Int32) (own_v744 w0_2 w0_1)), iv (f7 w0_4 (own_v738 w0_2 w0_1)), iv (own_v761 w0_4 w0_2 w0_1), iv (own_v765 w0_3 w0_2 w0_1), .unset] [(.int w0_2), (.int w0_1)])) (fun t k => ?_) ?_
  · show Steps p.tables e below (T762.setTop (mkF m 117 #[iv p0, iv p1, iv p2, iv p3, iv p4, iv (1:Int32), iv w0_1, iv w0_2, iv w0_3, iv w0_4, rv b619, iv (f4 (0:Int32) (own_v742 w0_2 w0_1)), iv (f5 (own_v736 w0_2 w0_1)), iv (f6 (0:Int32) (own_v744 w0_2 w0_1)), iv (f7 w0_4 (own_v738 w0_2 w0_1)), iv (own_v761 w0_4 w0_2 w0_1), .unset, .unset] [(.int (own_v765 w0_3 w0_2 w0_1))])) _
    refine XS.istore X762.here hx rfl (hb hby at_117) rfl (l' := #[iv p0, iv p1, iv p2, iv p3, iv p4, iv (1:Int32), iv w0_1, iv w0_2, iv w0_3, iv w0_4, rv b619, iv (f4 (0:Int32) (own_v742 w0_2 w0_1)), iv (f5 (own_v736 w0_2 w0_1)), iv (f6 (0:Int32) (own_v744 w0_2 w0_1)), iv (f7 w0_4 (own_v738 w0_2 w0_1)), iv (own_v761 w0_4 w0_2 w0_1), iv (own_v765 w0_3 w0_2 w0_1), .unset]) rfl ?_
    show Steps p.tables e below (T762.setTop (mkF m 119 #[iv p0, iv p1, iv p2, iv p3, iv p4, iv (1:Int32), iv w0_1, iv w0_2, iv w0_3, iv w0_4, rv b619, iv (f4 (0:Int32) (own_v742 w0_2 w0_1)), iv (f5 (own_v736 w0_2 w0_1)), iv (f6 (0:Int32) (own_v744 w0_2 w0_1)), iv (f7 w0_4 (own_v738 w0_2 w0_1)), iv (own_v761 w0_4 w0_2 w0_1), iv (own_v765 w0_3 w0_2 w0_1), .unset] [])) _
    refine XS.iload X762.here hx rfl (hb hby at_119) rfl ?_
    show Steps p.tables e below (T762.setTop (mkF m 121 #[iv p0, iv p1, iv p2, iv p3, iv p4, iv (1:Int32), iv w0_1, iv w0_2, iv w0_3, iv w0_4, rv b619, iv (f4 (0:Int32) (own_v742 w0_2 w0_1)), iv (f5 (own_v736 w0_2 w0_1)), iv (f6 (0:Int32) (own_v744 w0_2 w0_1)), iv (f7 w0_4 (own_v738 w0_2 w0_1)), iv (own_v761 w0_4 w0_2 w0_1), iv (own_v765 w0_3 w0_2 w0_1), .unset] [(.int w0_1)])) _
    refine XS.iload X762.here hx rfl (hb hby at_121) rfl ?_
    exact k
  obtain ⟨w0_5, hw0_5⟩ : ∃ z : Int32, z = (if w0_1 = w0_2 then (1:Int32) else (2:Int32)) := ⟨_, rfl⟩
  refine own_pre (A := T762.setTop (mkF m 131 #[iv p0, iv p1, iv p2, iv p3, iv p4, iv (1:Int32), iv w0_1, iv w0_2, iv w0_3, iv w0_4, rv b619, iv (f4 (0:Int32) (own_v742 w0_2 w0_1)), iv (f5 (own_v736 w0_2 w0_1)), iv (f6 (0:Int32) (own_v744 w0_2 w0_1)), iv (f7 w0_4 (own_v738 w0_2 w0_1)), iv (own_v761 w0_4 w0_2 w0_1), iv (own_v765 w0_3 w0_2 w0_1), .unset] [(.int w0_5)])) (fun t k => ?_) ?_
  · show Steps p.tables e below (T762.setTop (mkF m 123 #[iv p0, iv p1, iv p2, iv p3, iv p4, iv (1:Int32), iv w0_1, iv w0_2, iv w0_3, iv w0_4, rv b619, iv (f4 (0:Int32) (own_v742 w0_2 w0_1)), iv (f5 (own_v736 w0_2 w0_1)), iv (f6 (0:Int32) (own_v744 w0_2 w0_1)), iv (f7 w0_4 (own_v738 w0_2 w0_1)), iv (own_v761 w0_4 w0_2 w0_1), iv (own_v765 w0_3 w0_2 w0_1), .unset] [(.int w0_2), (.int w0_1)])) _
    by_cases hm123_1 : w0_1 = w0_2
    · refine XS.icmpNo X762.here hx rfl (hb hby at_123) rfl (XT.ii_ne_f hm123_1) ?_
      show Steps p.tables e below (T762.setTop (mkF m 126 #[iv p0, iv p1, iv p2, iv p3, iv p4, iv (1:Int32), iv w0_1, iv w0_2, iv w0_3, iv w0_4, rv b619, iv (f4 (0:Int32) (own_v742 w0_2 w0_1)), iv (f5 (own_v736 w0_2 w0_1)), iv (f6 (0:Int32) (own_v744 w0_2 w0_1)), iv (f7 w0_4 (own_v738 w0_2 w0_1)), iv (own_v761 w0_4 w0_2 w0_1), iv (own_v765 w0_3 w0_2 w0_1), .unset] [])) _
      refine XS.iconst X762.here hx rfl (hb hby at_126) ?_
      show Steps p.tables e below (T762.setTop (mkF m 127 #[iv p0, iv p1, iv p2, iv p3, iv p4, iv (1:Int32), iv w0_1, iv w0_2, iv w0_3, iv w0_4, rv b619, iv (f4 (0:Int32) (own_v742 w0_2 w0_1)), iv (f5 (own_v736 w0_2 w0_1)), iv (f6 (0:Int32) (own_v744 w0_2 w0_1)), iv (f7 w0_4 (own_v738 w0_2 w0_1)), iv (own_v761 w0_4 w0_2 w0_1), iv (own_v765 w0_3 w0_2 w0_1), .unset] [(.int (1:Int32))])) _
      refine XS.goto X762.here hx rfl (pc0 := 127) (pc' := 131) rfl (hb hby at_127) (by decide) (by decide) ?_
      rw [hw0_5.trans (if_pos hm123_1)] at k
      exact k
    · refine XS.icmpYes X762.here hx rfl (pc0 := 123) (pc' := 130) rfl (hb hby at_123) rfl (XT.ii_ne_t hm123_1) (by decide) (by decide) ?_
      show Steps p.tables e below (T762.setTop (mkF m 130 #[iv p0, iv p1, iv p2, iv p3, iv p4, iv (1:Int32), iv w0_1, iv w0_2, iv w0_3, iv w0_4, rv b619, iv (f4 (0:Int32) (own_v742 w0_2 w0_1)), iv (f5 (own_v736 w0_2 w0_1)), iv (f6 (0:Int32) (own_v744 w0_2 w0_1)), iv (f7 w0_4 (own_v738 w0_2 w0_1)), iv (own_v761 w0_4 w0_2 w0_1), iv (own_v765 w0_3 w0_2 w0_1), .unset] [])) _
      refine XS.iconst X762.here hx rfl (hb hby at_130) ?_
      rw [hw0_5.trans (if_neg hm123_1)] at k
      exact k
  refine own_pre (A := T762.setTop (mkF m 137 #[iv p0, iv p1, iv p2, iv p3, iv p4, iv (1:Int32), iv w0_1, iv w0_2, iv w0_3, iv w0_4, rv b619, iv (f4 (0:Int32) (own_v742 w0_2 w0_1)), iv (f5 (own_v736 w0_2 w0_1)), iv (f6 (0:Int32) (own_v744 w0_2 w0_1)), iv (f7 w0_4 (own_v738 w0_2 w0_1)), iv (own_v761 w0_4 w0_2 w0_1), iv (own_v765 w0_3 w0_2 w0_1), iv w0_5] [(.int w0_5), (.int (f4 (0:Int32) (own_v742 w0_2 w0_1)))])) (fun t k => ?_) ?_
  · show Steps p.tables e below (T762.setTop (mkF m 131 #[iv p0, iv p1, iv p2, iv p3, iv p4, iv (1:Int32), iv w0_1, iv w0_2, iv w0_3, iv w0_4, rv b619, iv (f4 (0:Int32) (own_v742 w0_2 w0_1)), iv (f5 (own_v736 w0_2 w0_1)), iv (f6 (0:Int32) (own_v744 w0_2 w0_1)), iv (f7 w0_4 (own_v738 w0_2 w0_1)), iv (own_v761 w0_4 w0_2 w0_1), iv (own_v765 w0_3 w0_2 w0_1), .unset] [(.int w0_5)])) _
    refine XS.istore X762.here hx rfl (hb hby at_131) rfl (l' := #[iv p0, iv p1, iv p2, iv p3, iv p4, iv (1:Int32), iv w0_1, iv w0_2, iv w0_3, iv w0_4, rv b619, iv (f4 (0:Int32) (own_v742 w0_2 w0_1)), iv (f5 (own_v736 w0_2 w0_1)), iv (f6 (0:Int32) (own_v744 w0_2 w0_1)), iv (f7 w0_4 (own_v738 w0_2 w0_1)), iv (own_v761 w0_4 w0_2 w0_1), iv (own_v765 w0_3 w0_2 w0_1), iv w0_5]) rfl ?_
    show Steps p.tables e below (T762.setTop (mkF m 133 #[iv p0, iv p1, iv p2, iv p3, iv p4, iv (1:Int32), iv w0_1, iv w0_2, iv w0_3, iv w0_4, rv b619, iv (f4 (0:Int32) (own_v742 w0_2 w0_1)), iv (f5 (own_v736 w0_2 w0_1)), iv (f6 (0:Int32) (own_v744 w0_2 w0_1)), iv (f7 w0_4 (own_v738 w0_2 w0_1)), iv (own_v761 w0_4 w0_2 w0_1), iv (own_v765 w0_3 w0_2 w0_1), iv w0_5] [])) _
    refine XS.iload X762.here hx rfl (hb hby at_133) rfl ?_
    show Steps p.tables e below (T762.setTop (mkF m 135 #[iv p0, iv p1, iv p2, iv p3, iv p4, iv (1:Int32), iv w0_1, iv w0_2, iv w0_3, iv w0_4, rv b619, iv (f4 (0:Int32) (own_v742 w0_2 w0_1)), iv (f5 (own_v736 w0_2 w0_1)), iv (f6 (0:Int32) (own_v744 w0_2 w0_1)), iv (f7 w0_4 (own_v738 w0_2 w0_1)), iv (own_v761 w0_4 w0_2 w0_1), iv (own_v765 w0_3 w0_2 w0_1), iv w0_5] [(.int (f4 (0:Int32) (own_v742 w0_2 w0_1)))])) _
    refine XS.iload X762.here hx rfl (hb hby at_135) rfl ?_
    exact k
  by_cases hs137_2 : (f4 (0:Int32) (own_v742 w0_2 w0_1)) = w0_5
  · refine own_pre (A := T762.setTop (mkF m 145 #[iv p0, iv p1, iv p2, iv p3, iv p4, iv (1:Int32), iv w0_1, iv w0_2, iv w0_3, iv w0_4, rv b619, iv (f4 (0:Int32) (own_v742 w0_2 w0_1)), iv (f5 (own_v736 w0_2 w0_1)), iv (f6 (0:Int32) (own_v744 w0_2 w0_1)), iv (f7 w0_4 (own_v738 w0_2 w0_1)), iv (own_v761 w0_4 w0_2 w0_1), iv (own_v765 w0_3 w0_2 w0_1), iv w0_5] [(.int (1:Int32)), (.int (f5 (own_v736 w0_2 w0_1)))])) (fun t k => ?_) ?_
    · show Steps p.tables e below (T762.setTop (mkF m 137 #[iv p0, iv p1, iv p2, iv p3, iv p4, iv (1:Int32), iv w0_1, iv w0_2, iv w0_3, iv w0_4, rv b619, iv (f4 (0:Int32) (own_v742 w0_2 w0_1)), iv (f5 (own_v736 w0_2 w0_1)), iv (f6 (0:Int32) (own_v744 w0_2 w0_1)), iv (f7 w0_4 (own_v738 w0_2 w0_1)), iv (own_v761 w0_4 w0_2 w0_1), iv (own_v765 w0_3 w0_2 w0_1), iv w0_5] [(.int w0_5), (.int (f4 (0:Int32) (own_v742 w0_2 w0_1)))])) _
      refine XS.icmpYes X762.here hx rfl (pc0 := 137) (pc' := 142) rfl (hb hby at_137) rfl (XT.ii_eq_t hs137_2) (by decide) (by decide) ?_
      show Steps p.tables e below (T762.setTop (mkF m 142 #[iv p0, iv p1, iv p2, iv p3, iv p4, iv (1:Int32), iv w0_1, iv w0_2, iv w0_3, iv w0_4, rv b619, iv (f4 (0:Int32) (own_v742 w0_2 w0_1)), iv (f5 (own_v736 w0_2 w0_1)), iv (f6 (0:Int32) (own_v744 w0_2 w0_1)), iv (f7 w0_4 (own_v738 w0_2 w0_1)), iv (own_v761 w0_4 w0_2 w0_1), iv (own_v765 w0_3 w0_2 w0_1), iv w0_5] [])) _
      refine XS.iload X762.here hx rfl (hb hby at_142) rfl ?_
      show Steps p.tables e below (T762.setTop (mkF m 144 #[iv p0, iv p1, iv p2, iv p3, iv p4, iv (1:Int32), iv w0_1, iv w0_2, iv w0_3, iv w0_4, rv b619, iv (f4 (0:Int32) (own_v742 w0_2 w0_1)), iv (f5 (own_v736 w0_2 w0_1)), iv (f6 (0:Int32) (own_v744 w0_2 w0_1)), iv (f7 w0_4 (own_v738 w0_2 w0_1)), iv (own_v761 w0_4 w0_2 w0_1), iv (own_v765 w0_3 w0_2 w0_1), iv w0_5] [(.int (f5 (own_v736 w0_2 w0_1)))])) _
      refine XS.iconst X762.here hx rfl (hb hby at_144) ?_
      exact k
    by_cases hs145_3 : (f5 (own_v736 w0_2 w0_1)) = (1:Int32)
    · refine own_pre (A := T762.setTop (mkF m 152 #[iv p0, iv p1, iv p2, iv p3, iv p4, iv (1:Int32), iv w0_1, iv w0_2, iv w0_3, iv w0_4, rv b619, iv (f4 (0:Int32) (own_v742 w0_2 w0_1)), iv (f5 (own_v736 w0_2 w0_1)), iv (f6 (0:Int32) (own_v744 w0_2 w0_1)), iv (f7 w0_4 (own_v738 w0_2 w0_1)), iv (own_v761 w0_4 w0_2 w0_1), iv (own_v765 w0_3 w0_2 w0_1), iv w0_5] [(.int (f6 (0:Int32) (own_v744 w0_2 w0_1)))])) (fun t k => ?_) ?_
      · show Steps p.tables e below (T762.setTop (mkF m 145 #[iv p0, iv p1, iv p2, iv p3, iv p4, iv (1:Int32), iv w0_1, iv w0_2, iv w0_3, iv w0_4, rv b619, iv (f4 (0:Int32) (own_v742 w0_2 w0_1)), iv (f5 (own_v736 w0_2 w0_1)), iv (f6 (0:Int32) (own_v744 w0_2 w0_1)), iv (f7 w0_4 (own_v738 w0_2 w0_1)), iv (own_v761 w0_4 w0_2 w0_1), iv (own_v765 w0_3 w0_2 w0_1), iv w0_5] [(.int (1:Int32)), (.int (f5 (own_v736 w0_2 w0_1)))])) _
        refine XS.icmpYes X762.here hx rfl (pc0 := 145) (pc' := 150) rfl (hb hby at_145) rfl (XT.ii_eq_t hs145_3) (by decide) (by decide) ?_
        show Steps p.tables e below (T762.setTop (mkF m 150 #[iv p0, iv p1, iv p2, iv p3, iv p4, iv (1:Int32), iv w0_1, iv w0_2, iv w0_3, iv w0_4, rv b619, iv (f4 (0:Int32) (own_v742 w0_2 w0_1)), iv (f5 (own_v736 w0_2 w0_1)), iv (f6 (0:Int32) (own_v744 w0_2 w0_1)), iv (f7 w0_4 (own_v738 w0_2 w0_1)), iv (own_v761 w0_4 w0_2 w0_1), iv (own_v765 w0_3 w0_2 w0_1), iv w0_5] [])) _
        refine XS.iload X762.here hx rfl (hb hby at_150) rfl ?_
        exact k
      by_cases hs152_4 : (f6 (0:Int32) (own_v744 w0_2 w0_1)) = (0:Int32)
      · refine own_pre (A := T762.setTop (mkF m 159 #[iv p0, iv p1, iv p2, iv p3, iv p4, iv (1:Int32), iv w0_1, iv w0_2, iv w0_3, iv w0_4, rv b619, iv (f4 (0:Int32) (own_v742 w0_2 w0_1)), iv (f5 (own_v736 w0_2 w0_1)), iv (f6 (0:Int32) (own_v744 w0_2 w0_1)), iv (f7 w0_4 (own_v738 w0_2 w0_1)), iv (own_v761 w0_4 w0_2 w0_1), iv (own_v765 w0_3 w0_2 w0_1), iv w0_5] [(.int (f7 w0_4 (own_v738 w0_2 w0_1)))])) (fun t k => ?_) ?_
        · show Steps p.tables e below (T762.setTop (mkF m 152 #[iv p0, iv p1, iv p2, iv p3, iv p4, iv (1:Int32), iv w0_1, iv w0_2, iv w0_3, iv w0_4, rv b619, iv (f4 (0:Int32) (own_v742 w0_2 w0_1)), iv (f5 (own_v736 w0_2 w0_1)), iv (f6 (0:Int32) (own_v744 w0_2 w0_1)), iv (f7 w0_4 (own_v738 w0_2 w0_1)), iv (own_v761 w0_4 w0_2 w0_1), iv (own_v765 w0_3 w0_2 w0_1), iv w0_5] [(.int (f6 (0:Int32) (own_v744 w0_2 w0_1)))])) _
          refine XS.ifYes X762.here hx rfl (pc0 := 152) (pc' := 157) rfl (hb hby at_152) rfl (XT.i0_eq_t hs152_4) (by decide) (by decide) ?_
          show Steps p.tables e below (T762.setTop (mkF m 157 #[iv p0, iv p1, iv p2, iv p3, iv p4, iv (1:Int32), iv w0_1, iv w0_2, iv w0_3, iv w0_4, rv b619, iv (f4 (0:Int32) (own_v742 w0_2 w0_1)), iv (f5 (own_v736 w0_2 w0_1)), iv (f6 (0:Int32) (own_v744 w0_2 w0_1)), iv (f7 w0_4 (own_v738 w0_2 w0_1)), iv (own_v761 w0_4 w0_2 w0_1), iv (own_v765 w0_3 w0_2 w0_1), iv w0_5] [])) _
          refine XS.iload X762.here hx rfl (hb hby at_157) rfl ?_
          exact k
        by_cases hs159_5 : (f7 w0_4 (own_v738 w0_2 w0_1)) < (0:Int32)
        · refine own_pre (A := T762.setTop (mkF m 170 #[iv p0, iv p1, iv p2, iv p3, iv p4, iv (1:Int32), iv w0_1, iv w0_2, iv w0_3, iv w0_4, rv b619, iv (f4 (0:Int32) (own_v742 w0_2 w0_1)), iv (f5 (own_v736 w0_2 w0_1)), iv (f6 (0:Int32) (own_v744 w0_2 w0_1)), iv (f7 w0_4 (own_v738 w0_2 w0_1)), iv (own_v761 w0_4 w0_2 w0_1), iv (own_v765 w0_3 w0_2 w0_1), iv w0_5] [(.int (0:Int32))])) (fun t k => ?_) ?_
          · show Steps p.tables e below (T762.setTop (mkF m 159 #[iv p0, iv p1, iv p2, iv p3, iv p4, iv (1:Int32), iv w0_1, iv w0_2, iv w0_3, iv w0_4, rv b619, iv (f4 (0:Int32) (own_v742 w0_2 w0_1)), iv (f5 (own_v736 w0_2 w0_1)), iv (f6 (0:Int32) (own_v744 w0_2 w0_1)), iv (f7 w0_4 (own_v738 w0_2 w0_1)), iv (own_v761 w0_4 w0_2 w0_1), iv (own_v765 w0_3 w0_2 w0_1), iv w0_5] [(.int (f7 w0_4 (own_v738 w0_2 w0_1)))])) _
            refine XS.ifYes X762.here hx rfl (pc0 := 159) (pc' := 169) rfl (hb hby at_159) rfl (XT.i0_lt_t hs159_5) (by decide) (by decide) ?_
            show Steps p.tables e below (T762.setTop (mkF m 169 #[iv p0, iv p1, iv p2, iv p3, iv p4, iv (1:Int32), iv w0_1, iv w0_2, iv w0_3, iv w0_4, rv b619, iv (f4 (0:Int32) (own_v742 w0_2 w0_1)), iv (f5 (own_v736 w0_2 w0_1)), iv (f6 (0:Int32) (own_v744 w0_2 w0_1)), iv (f7 w0_4 (own_v738 w0_2 w0_1)), iv (own_v761 w0_4 w0_2 w0_1), iv (own_v765 w0_3 w0_2 w0_1), iv w0_5] [])) _
            refine XS.iconst X762.here hx rfl (hb hby at_169) ?_
            exact k
          exact own_end X762 (BodyLoose.notSynchronized Bd) (fun h => by rw [Bd.returns] at h; cases h) (v := some (.int (0:Int32))) (fun fs hr => retN X762 hx (t := .boolean) Bd.returns (by simp) (hb hby at_170) hr) (by show Q0n1 Z p0 p1 p2 p3 p4 h0 n0 _ T762.heap _; rw [eh762]; exact ⟨(by subst hw0_5; exact absurd ⟨hs137_2, hs145_3, hs152_4, hs159_5⟩ (own_fin767 w0_1 (own_mem1 _ _ hw0_1) w0_2 (own_mem1 _ _ hw0_2) w0_4 (own_mem1 _ _ hw0_4))), N762⟩) (by decide) (by decide)
        · refine own_pre (A := T762.setTop (mkF m 166 #[iv p0, iv p1, iv p2, iv p3, iv p4, iv (1:Int32), iv w0_1, iv w0_2, iv w0_3, iv w0_4, rv b619, iv (f4 (0:Int32) (own_v742 w0_2 w0_1)), iv (f5 (own_v736 w0_2 w0_1)), iv (f6 (0:Int32) (own_v744 w0_2 w0_1)), iv (f7 w0_4 (own_v738 w0_2 w0_1)), iv (own_v761 w0_4 w0_2 w0_1), iv (own_v765 w0_3 w0_2 w0_1), iv w0_5] [(.int (1:Int32)), (.int (f7 w0_4 (own_v738 w0_2 w0_1)))])) (fun t k => ?_) ?_
          · show Steps p.tables e below (T762.setTop (mkF m 159 #[iv p0, iv p1, iv p2, iv p3, iv p4, iv (1:Int32), iv w0_1, iv w0_2, iv w0_3, iv w0_4, rv b619, iv (f4 (0:Int32) (own_v742 w0_2 w0_1)), iv (f5 (own_v736 w0_2 w0_1)), iv (f6 (0:Int32) (own_v744 w0_2 w0_1)), iv (f7 w0_4 (own_v738 w0_2 w0_1)), iv (own_v761 w0_4 w0_2 w0_1), iv (own_v765 w0_3 w0_2 w0_1), iv w0_5] [(.int (f7 w0_4 (own_v738 w0_2 w0_1)))])) _
            refine XS.ifNo X762.here hx rfl (hb hby at_159) rfl (XT.i0_lt_f hs159_5) ?_
            show Steps p.tables e below (T762.setTop (mkF m 162 #[iv p0, iv p1, iv p2, iv p3, iv p4, iv (1:Int32), iv w0_1, iv w0_2, iv w0_3, iv w0_4, rv b619, iv (f4 (0:Int32) (own_v742 w0_2 w0_1)), iv (f5 (own_v736 w0_2 w0_1)), iv (f6 (0:Int32) (own_v744 w0_2 w0_1)), iv (f7 w0_4 (own_v738 w0_2 w0_1)), iv (own_v761 w0_4 w0_2 w0_1), iv (own_v765 w0_3 w0_2 w0_1), iv w0_5] [])) _
            refine XS.iload X762.here hx rfl (hb hby at_162) rfl ?_
            show Steps p.tables e below (T762.setTop (mkF m 164 #[iv p0, iv p1, iv p2, iv p3, iv p4, iv (1:Int32), iv w0_1, iv w0_2, iv w0_3, iv w0_4, rv b619, iv (f4 (0:Int32) (own_v742 w0_2 w0_1)), iv (f5 (own_v736 w0_2 w0_1)), iv (f6 (0:Int32) (own_v744 w0_2 w0_1)), iv (f7 w0_4 (own_v738 w0_2 w0_1)), iv (own_v761 w0_4 w0_2 w0_1), iv (own_v765 w0_3 w0_2 w0_1), iv w0_5] [(.int (f7 w0_4 (own_v738 w0_2 w0_1)))])) _
            refine XS.iload X762.here hx rfl (hb hby at_164) rfl ?_
            exact k
          by_cases hs166_6 : (f7 w0_4 (own_v738 w0_2 w0_1)) < (1:Int32)
          · refine own_pre (A := T762.setTop (mkF m 171 #[iv p0, iv p1, iv p2, iv p3, iv p4, iv (1:Int32), iv w0_1, iv w0_2, iv w0_3, iv w0_4, rv b619, iv (f4 (0:Int32) (own_v742 w0_2 w0_1)), iv (f5 (own_v736 w0_2 w0_1)), iv (f6 (0:Int32) (own_v744 w0_2 w0_1)), iv (f7 w0_4 (own_v738 w0_2 w0_1)), iv (own_v761 w0_4 w0_2 w0_1), iv (own_v765 w0_3 w0_2 w0_1), iv w0_5] [])) (fun t k => ?_) ?_
            · show Steps p.tables e below (T762.setTop (mkF m 166 #[iv p0, iv p1, iv p2, iv p3, iv p4, iv (1:Int32), iv w0_1, iv w0_2, iv w0_3, iv w0_4, rv b619, iv (f4 (0:Int32) (own_v742 w0_2 w0_1)), iv (f5 (own_v736 w0_2 w0_1)), iv (f6 (0:Int32) (own_v744 w0_2 w0_1)), iv (f7 w0_4 (own_v738 w0_2 w0_1)), iv (own_v761 w0_4 w0_2 w0_1), iv (own_v765 w0_3 w0_2 w0_1), iv w0_5] [(.int (1:Int32)), (.int (f7 w0_4 (own_v738 w0_2 w0_1)))])) _
              refine XS.icmpYes X762.here hx rfl (pc0 := 166) (pc' := 171) rfl (hb hby at_166) rfl (XT.ii_lt_t hs166_6) (by decide) (by decide) ?_
              exact k
            have hJ185_7 : own_Goes p e below s (Q0n1 Z p0 p1 p2 p3 p4 h0 n0) 8 64 (T762.setTop (mkF m 185 #[iv p0, iv p1, iv p2, iv p3, iv p4, iv (1:Int32), iv w0_1, iv w0_2, iv w0_3, iv w0_4, rv b619, iv (f4 (0:Int32) (own_v742 w0_2 w0_1)), iv (f5 (own_v736 w0_2 w0_1)), iv (f6 (0:Int32) (own_v744 w0_2 w0_1)), iv (f7 w0_4 (own_v738 w0_2 w0_1)), iv (own_v761 w0_4 w0_2 w0_1), iv (own_v765 w0_3 w0_2 w0_1), iv w0_5] [])) := by
              have hJ207_8 : own_Goes p e below s (Q0n1 Z p0 p1 p2 p3 p4 h0 n0) 8 64 (T762.setTop (mkF m 207 #[iv p0, iv p1, iv p2, iv p3, iv p4, iv (1:Int32), iv w0_1, iv w0_2, iv w0_3, iv w0_4, rv b619, iv (f4 (0:Int32) (own_v742 w0_2 w0_1)), iv (f5 (own_v736 w0_2 w0_1)), iv (f6 (0:Int32) (own_v744 w0_2 w0_1)), iv (f7 w0_4 (own_v738 w0_2 w0_1)), iv (own_v761 w0_4 w0_2 w0_1), iv (own_v765 w0_3 w0_2 w0_1), iv w0_5] [])) := by
                have hJ230_9 : own_Goes p e below s (Q0n1 Z p0 p1 p2 p3 p4 h0 n0) 8 64 (T762.setTop (mkF m 230 #[iv p0, iv p1, iv p2, iv p3, iv p4, iv (1:Int32), iv w0_1, iv w0_2, iv w0_3, iv w0_4, rv b619, iv (f4 (0:Int32) (own_v742 w0_2 w0_1)), iv (f5 (own_v736 w0_2 w0_1)), iv (f6 (0:Int32) (own_v744 w0_2 w0_1)), iv (f7 w0_4 (own_v738 w0_2 w0_1)), iv (own_v761 w0_4 w0_2 w0_1), iv (own_v765 w0_3 w0_2 w0_1), iv w0_5] [])) := by
                  refine own_pre (A := T762.setTop (mkF m 236 #[iv p0, iv p1, iv p2, iv p3, iv p4, iv (1:Int32), iv w0_1, iv w0_2, iv w0_3, iv w0_4, rv b619, iv (f4 (0:Int32) (own_v742 w0_2 w0_1)), iv (f5 (own_v736 w0_2 w0_1)), iv (f6 (0:Int32) (own_v744 w0_2 w0_1)), iv (f7 w0_4 (own_v738 w0_2 w0_1)), iv (own_v761 w0_4 w0_2 w0_1), iv (own_v765 w0_3 w0_2 w0_1), iv w0_5] [(.int w0_5), (.int w0_4), (.int (own_v761 w0_4 w0_2 w0_1))])) (fun t k => ?_) ?_
                  · show Steps p.tables e below (T762.setTop (mkF m 230 #[iv p0, iv p1, iv p2, iv p3, iv p4, iv (1:Int32), iv w0_1, iv w0_2, iv w0_3, iv w0_4, rv b619, iv (f4 (0:Int32) (own_v742 w0_2 w0_1)), iv (f5 (own_v736 w0_2 w0_1)), iv (f6 (0:Int32) (own_v744 w0_2 w0_1)), iv (f7 w0_4 (own_v738 w0_2 w0_1)), iv (own_v761 w0_4 w0_2 w0_1), iv (own_v765 w0_3 w0_2 w0_1), iv w0_5] [])) _
                    refine XS.iload X762.here hx rfl (hb hby at_230) rfl ?_
                    show Steps p.tables e below (T762.setTop (mkF m 232 #[iv p0, iv p1, iv p2, iv p3, iv p4, iv (1:Int32), iv w0_1, iv w0_2, iv w0_3, iv w0_4, rv b619, iv (f4 (0:Int32) (own_v742 w0_2 w0_1)), iv (f5 (own_v736 w0_2 w0_1)), iv (f6 (0:Int32) (own_v744 w0_2 w0_1)), iv (f7 w0_4 (own_v738 w0_2 w0_1)), iv (own_v761 w0_4 w0_2 w0_1), iv (own_v765 w0_3 w0_2 w0_1), iv w0_5] [(.int (own_v761 w0_4 w0_2 w0_1))])) _
                    refine XS.iload X762.here hx rfl (hb hby at_232) rfl ?_
                    show Steps p.tables e below (T762.setTop (mkF m 234 #[iv p0, iv p1, iv p2, iv p3, iv p4, iv (1:Int32), iv w0_1, iv w0_2, iv w0_3, iv w0_4, rv b619, iv (f4 (0:Int32) (own_v742 w0_2 w0_1)), iv (f5 (own_v736 w0_2 w0_1)), iv (f6 (0:Int32) (own_v744 w0_2 w0_1)), iv (f7 w0_4 (own_v738 w0_2 w0_1)), iv (own_v761 w0_4 w0_2 w0_1), iv (own_v765 w0_3 w0_2 w0_1), iv w0_5] [(.int w0_4), (.int (own_v761 w0_4 w0_2 w0_1))])) _
                    refine XS.iload X762.here hx rfl (hb hby at_234) rfl ?_
                    exact k
                  obtain ⟨w0_6, hw0_6⟩ : ∃ z : Int32, z = (if w0_4 < w0_5 then (1:Int32) else (0:Int32)) := ⟨_, rfl⟩
                  refine own_pre (A := T762.setTop (mkF m 244 #[iv p0, iv p1, iv p2, iv p3, iv p4, iv (1:Int32), iv w0_1, iv w0_2, iv w0_3, iv w0_4, rv b619, iv (f4 (0:Int32) (own_v742 w0_2 w0_1)), iv (f5 (own_v736 w0_2 w0_1)), iv (f6 (0:Int32) (own_v744 w0_2 w0_1)), iv (f7 w0_4 (own_v738 w0_2 w0_1)), iv (own_v761 w0_4 w0_2 w0_1), iv (own_v765 w0_3 w0_2 w0_1), iv w0_5] [(.int w0_6), (.int (own_v761 w0_4 w0_2 w0_1))])) (fun t k => ?_) ?_
                  · show Steps p.tables e below (T762.setTop (mkF m 236 #[iv p0, iv p1, iv p2, iv p3, iv p4, iv (1:Int32), iv w0_1, iv w0_2, iv w0_3, iv w0_4, rv b619, iv (f4 (0:Int32) (own_v742 w0_2 w0_1)), iv (f5 (own_v736 w0_2 w0_1)), iv (f6 (0:Int32) (own_v744 w0_2 w0_1)), iv (f7 w0_4 (own_v738 w0_2 w0_1)), iv (own_v761 w0_4 w0_2 w0_1), iv (own_v765 w0_3 w0_2 w0_1), iv w0_5] [(.int w0_5), (.int w0_4), (.int (own_v761 w0_4 w0_2 w0_1))])) _
                    by_cases hm236_10 : w0_4 < w0_5
                    · refine XS.icmpNo X762.here hx rfl (hb hby at_236) rfl (XT.ii_ge_f hm236_10) ?_
                      show Steps p.tables e below (T762.setTop (mkF m 239 #[iv p0, iv p1, iv p2, iv p3, iv p4, iv (1:Int32), iv w0_1, iv w0_2, iv w0_3, iv w0_4, rv b619, iv (f4 (0:Int32) (own_v742 w0_2 w0_1)), iv (f5 (own_v736 w0_2 w0_1)), iv (f6 (0:Int32) (own_v744 w0_2 w0_1)), iv (f7 w0_4 (own_v738 w0_2 w0_1)), iv (own_v761 w0_4 w0_2 w0_1), iv (own_v765 w0_3 w0_2 w0_1), iv w0_5] [(.int (own_v761 w0_4 w0_2 w0_1))])) _
                      refine XS.iconst X762.here hx rfl (hb hby at_239) ?_
                      show Steps p.tables e below (T762.setTop (mkF m 240 #[iv p0, iv p1, iv p2, iv p3, iv p4, iv (1:Int32), iv w0_1, iv w0_2, iv w0_3, iv w0_4, rv b619, iv (f4 (0:Int32) (own_v742 w0_2 w0_1)), iv (f5 (own_v736 w0_2 w0_1)), iv (f6 (0:Int32) (own_v744 w0_2 w0_1)), iv (f7 w0_4 (own_v738 w0_2 w0_1)), iv (own_v761 w0_4 w0_2 w0_1), iv (own_v765 w0_3 w0_2 w0_1), iv w0_5] [(.int (1:Int32)), (.int (own_v761 w0_4 w0_2 w0_1))])) _
                      refine XS.goto X762.here hx rfl (pc0 := 240) (pc' := 244) rfl (hb hby at_240) (by decide) (by decide) ?_
                      rw [hw0_6.trans (if_pos hm236_10)] at k
                      exact k
                    · refine XS.icmpYes X762.here hx rfl (pc0 := 236) (pc' := 243) rfl (hb hby at_236) rfl (XT.ii_ge_t hm236_10) (by decide) (by decide) ?_
                      show Steps p.tables e below (T762.setTop (mkF m 243 #[iv p0, iv p1, iv p2, iv p3, iv p4, iv (1:Int32), iv w0_1, iv w0_2, iv w0_3, iv w0_4, rv b619, iv (f4 (0:Int32) (own_v742 w0_2 w0_1)), iv (f5 (own_v736 w0_2 w0_1)), iv (f6 (0:Int32) (own_v744 w0_2 w0_1)), iv (f7 w0_4 (own_v738 w0_2 w0_1)), iv (own_v761 w0_4 w0_2 w0_1), iv (own_v765 w0_3 w0_2 w0_1), iv w0_5] [(.int (own_v761 w0_4 w0_2 w0_1))])) _
                      refine XS.iconst X762.here hx rfl (hb hby at_243) ?_
                      rw [hw0_6.trans (if_neg hm236_10)] at k
                      exact k
                  by_cases hs244_11 : (own_v761 w0_4 w0_2 w0_1) = w0_6
                  · refine own_pre (A := T762.setTop (mkF m 255 #[iv p0, iv p1, iv p2, iv p3, iv p4, iv (1:Int32), iv w0_1, iv w0_2, iv w0_3, iv w0_4, rv b619, iv (f4 (0:Int32) (own_v742 w0_2 w0_1)), iv (f5 (own_v736 w0_2 w0_1)), iv (f6 (0:Int32) (own_v744 w0_2 w0_1)), iv (f7 w0_4 (own_v738 w0_2 w0_1)), iv (own_v761 w0_4 w0_2 w0_1), iv (own_v765 w0_3 w0_2 w0_1), iv w0_5] [(.int w0_1), (.int w0_3), (.int (own_v765 w0_3 w0_2 w0_1))])) (fun t k => ?_) ?_
                    · show Steps p.tables e below (T762.setTop (mkF m 244 #[iv p0, iv p1, iv p2, iv p3, iv p4, iv (1:Int32), iv w0_1, iv w0_2, iv w0_3, iv w0_4, rv b619, iv (f4 (0:Int32) (own_v742 w0_2 w0_1)), iv (f5 (own_v736 w0_2 w0_1)), iv (f6 (0:Int32) (own_v744 w0_2 w0_1)), iv (f7 w0_4 (own_v738 w0_2 w0_1)), iv (own_v761 w0_4 w0_2 w0_1), iv (own_v765 w0_3 w0_2 w0_1), iv w0_5] [(.int w0_6), (.int (own_v761 w0_4 w0_2 w0_1))])) _
                      refine XS.icmpYes X762.here hx rfl (pc0 := 244) (pc' := 249) rfl (hb hby at_244) rfl (XT.ii_eq_t hs244_11) (by decide) (by decide) ?_
                      show Steps p.tables e below (T762.setTop (mkF m 249 #[iv p0, iv p1, iv p2, iv p3, iv p4, iv (1:Int32), iv w0_1, iv w0_2, iv w0_3, iv w0_4, rv b619, iv (f4 (0:Int32) (own_v742 w0_2 w0_1)), iv (f5 (own_v736 w0_2 w0_1)), iv (f6 (0:Int32) (own_v744 w0_2 w0_1)), iv (f7 w0_4 (own_v738 w0_2 w0_1)), iv (own_v761 w0_4 w0_2 w0_1), iv (own_v765 w0_3 w0_2 w0_1), iv w0_5] [])) _
                      refine XS.iload X762.here hx rfl (hb hby at_249) rfl ?_
                      show Steps p.tables e below (T762.setTop (mkF m 251 #[iv p0, iv p1, iv p2, iv p3, iv p4, iv (1:Int32), iv w0_1, iv w0_2, iv w0_3, iv w0_4, rv b619, iv (f4 (0:Int32) (own_v742 w0_2 w0_1)), iv (f5 (own_v736 w0_2 w0_1)), iv (f6 (0:Int32) (own_v744 w0_2 w0_1)), iv (f7 w0_4 (own_v738 w0_2 w0_1)), iv (own_v761 w0_4 w0_2 w0_1), iv (own_v765 w0_3 w0_2 w0_1), iv w0_5] [(.int (own_v765 w0_3 w0_2 w0_1))])) _
                      refine XS.iload X762.here hx rfl (hb hby at_251) rfl ?_
                      show Steps p.tables e below (T762.setTop (mkF m 253 #[iv p0, iv p1, iv p2, iv p3, iv p4, iv (1:Int32), iv w0_1, iv w0_2, iv w0_3, iv w0_4, rv b619, iv (f4 (0:Int32) (own_v742 w0_2 w0_1)), iv (f5 (own_v736 w0_2 w0_1)), iv (f6 (0:Int32) (own_v744 w0_2 w0_1)), iv (f7 w0_4 (own_v738 w0_2 w0_1)), iv (own_v761 w0_4 w0_2 w0_1), iv (own_v765 w0_3 w0_2 w0_1), iv w0_5] [(.int w0_3), (.int (own_v765 w0_3 w0_2 w0_1))])) _
                      refine XS.iload X762.here hx rfl (hb hby at_253) rfl ?_
                      exact k
                    obtain ⟨w0_7, hw0_7⟩ : ∃ z : Int32, z = (if w0_3 = w0_1 then (1:Int32) else (if w0_3 = w0_2 then (1:Int32) else (0:Int32))) := ⟨_, rfl⟩
                    refine own_pre (A := T762.setTop (mkF m 270 #[iv p0, iv p1, iv p2, iv p3, iv p4, iv (1:Int32), iv w0_1, iv w0_2, iv w0_3, iv w0_4, rv b619, iv (f4 (0:Int32) (own_v742 w0_2 w0_1)), iv (f5 (own_v736 w0_2 w0_1)), iv (f6 (0:Int32) (own_v744 w0_2 w0_1)), iv (f7 w0_4 (own_v738 w0_2 w0_1)), iv (own_v761 w0_4 w0_2 w0_1), iv (own_v765 w0_3 w0_2 w0_1), iv w0_5] [(.int w0_7), (.int (own_v765 w0_3 w0_2 w0_1))])) (fun t k => ?_) ?_
                    · show Steps p.tables e below (T762.setTop (mkF m 255 #[iv p0, iv p1, iv p2, iv p3, iv p4, iv (1:Int32), iv w0_1, iv w0_2, iv w0_3, iv w0_4, rv b619, iv (f4 (0:Int32) (own_v742 w0_2 w0_1)), iv (f5 (own_v736 w0_2 w0_1)), iv (f6 (0:Int32) (own_v744 w0_2 w0_1)), iv (f7 w0_4 (own_v738 w0_2 w0_1)), iv (own_v761 w0_4 w0_2 w0_1), iv (own_v765 w0_3 w0_2 w0_1), iv w0_5] [(.int w0_1), (.int w0_3), (.int (own_v765 w0_3 w0_2 w0_1))])) _
                      by_cases hm255_12 : w0_3 = w0_1
                      · refine XS.icmpYes X762.here hx rfl (pc0 := 255) (pc' := 265) rfl (hb hby at_255) rfl (XT.ii_eq_t hm255_12) (by decide) (by decide) ?_
                        show Steps p.tables e below (T762.setTop (mkF m 265 #[iv p0, iv p1, iv p2, iv p3, iv p4, iv (1:Int32), iv w0_1, iv w0_2, iv w0_3, iv w0_4, rv b619, iv (f4 (0:Int32) (own_v742 w0_2 w0_1)), iv (f5 (own_v736 w0_2 w0_1)), iv (f6 (0:Int32) (own_v744 w0_2 w0_1)), iv (f7 w0_4 (own_v738 w0_2 w0_1)), iv (own_v761 w0_4 w0_2 w0_1), iv (own_v765 w0_3 w0_2 w0_1), iv w0_5] [(.int (own_v765 w0_3 w0_2 w0_1))])) _
                        refine XS.iconst X762.here hx rfl (hb hby at_265) ?_
                        show Steps p.tables e below (T762.setTop (mkF m 266 #[iv p0, iv p1, iv p2, iv p3, iv p4, iv (1:Int32), iv w0_1, iv w0_2, iv w0_3, iv w0_4, rv b619, iv (f4 (0:Int32) (own_v742 w0_2 w0_1)), iv (f5 (own_v736 w0_2 w0_1)), iv (f6 (0:Int32) (own_v744 w0_2 w0_1)), iv (f7 w0_4 (own_v738 w0_2 w0_1)), iv (own_v761 w0_4 w0_2 w0_1), iv (own_v765 w0_3 w0_2 w0_1), iv w0_5] [(.int (1:Int32)), (.int (own_v765 w0_3 w0_2 w0_1))])) _
                        refine XS.goto X762.here hx rfl (pc0 := 266) (pc' := 270) rfl (hb hby at_266) (by decide) (by decide) ?_
                        rw [hw0_7.trans (if_pos hm255_12)] at k
                        exact k
                      · refine XS.icmpNo X762.here hx rfl (hb hby at_255) rfl (XT.ii_eq_f hm255_12) ?_
                        show Steps p.tables e below (T762.setTop (mkF m 258 #[iv p0, iv p1, iv p2, iv p3, iv p4, iv (1:Int32), iv w0_1, iv w0_2, iv w0_3, iv w0_4, rv b619, iv (f4 (0:Int32) (own_v742 w0_2 w0_1)), iv (f5 (own_v736 w0_2 w0_1)), iv (f6 (0:Int32) (own_v744 w0_2 w0_1)), iv (f7 w0_4 (own_v738 w0_2 w0_1)), iv (own_v761 w0_4 w0_2 w0_1), iv (own_v765 w0_3 w0_2 w0_1), iv w0_5] [(.int (own_v765 w0_3 w0_2 w0_1))])) _
                        refine XS.iload X762.here hx rfl (hb hby at_258) rfl ?_
                        show Steps p.tables e below (T762.setTop (mkF m 260 #[iv p0, iv p1, iv p2, iv p3, iv p4, iv (1:Int32), iv w0_1, iv w0_2, iv w0_3, iv w0_4, rv b619, iv (f4 (0:Int32) (own_v742 w0_2 w0_1)), iv (f5 (own_v736 w0_2 w0_1)), iv (f6 (0:Int32) (own_v744 w0_2 w0_1)), iv (f7 w0_4 (own_v738 w0_2 w0_1)), iv (own_v761 w0_4 w0_2 w0_1), iv (own_v765 w0_3 w0_2 w0_1), iv w0_5] [(.int w0_3), (.int (own_v765 w0_3 w0_2 w0_1))])) _
                        refine XS.iload X762.here hx rfl (hb hby at_260) rfl ?_
                        show Steps p.tables e below (T762.setTop (mkF m 262 #[iv p0, iv p1, iv p2, iv p3, iv p4, iv (1:Int32), iv w0_1, iv w0_2, iv w0_3, iv w0_4, rv b619, iv (f4 (0:Int32) (own_v742 w0_2 w0_1)), iv (f5 (own_v736 w0_2 w0_1)), iv (f6 (0:Int32) (own_v744 w0_2 w0_1)), iv (f7 w0_4 (own_v738 w0_2 w0_1)), iv (own_v761 w0_4 w0_2 w0_1), iv (own_v765 w0_3 w0_2 w0_1), iv w0_5] [(.int w0_2), (.int w0_3), (.int (own_v765 w0_3 w0_2 w0_1))])) _
                        by_cases hm262_13 : w0_3 = w0_2
                        · refine XS.icmpNo X762.here hx rfl (hb hby at_262) rfl (XT.ii_ne_f hm262_13) ?_
                          show Steps p.tables e below (T762.setTop (mkF m 265 #[iv p0, iv p1, iv p2, iv p3, iv p4, iv (1:Int32), iv w0_1, iv w0_2, iv w0_3, iv w0_4, rv b619, iv (f4 (0:Int32) (own_v742 w0_2 w0_1)), iv (f5 (own_v736 w0_2 w0_1)), iv (f6 (0:Int32) (own_v744 w0_2 w0_1)), iv (f7 w0_4 (own_v738 w0_2 w0_1)), iv (own_v761 w0_4 w0_2 w0_1), iv (own_v765 w0_3 w0_2 w0_1), iv w0_5] [(.int (own_v765 w0_3 w0_2 w0_1))])) _
                          refine XS.iconst X762.here hx rfl (hb hby at_265) ?_
                          show Steps p.tables e below (T762.setTop (mkF m 266 #[iv p0, iv p1, iv p2, iv p3, iv p4, iv (1:Int32), iv w0_1, iv w0_2, iv w0_3, iv w0_4, rv b619, iv (f4 (0:Int32) (own_v742 w0_2 w0_1)), iv (f5 (own_v736 w0_2 w0_1)), iv (f6 (0:Int32) (own_v744 w0_2 w0_1)), iv (f7 w0_4 (own_v738 w0_2 w0_1)), iv (own_v761 w0_4 w0_2 w0_1), iv (own_v765 w0_3 w0_2 w0_1), iv w0_5] [(.int (1:Int32)), (.int (own_v765 w0_3 w0_2 w0_1))])) _
                          refine XS.goto X762.here hx rfl (pc0 := 266) (pc' := 270) rfl (hb hby at_266) (by decide) (by decide) ?_
                          rw [hw0_7.trans ((if_neg hm255_12).trans (if_pos hm262_13))] at k
                          exact k
                        · refine XS.icmpYes X762.here hx rfl (pc0 := 262) (pc' := 269) rfl (hb hby at_262) rfl (XT.ii_ne_t hm262_13) (by decide) (by decide) ?_
                          show Steps p.tables e below (T762.setTop (mkF m 269 #[iv p0, iv p1, iv p2, iv p3, iv p4, iv (1:Int32), iv w0_1, iv w0_2, iv w0_3, iv w0_4, rv b619, iv (f4 (0:Int32) (own_v742 w0_2 w0_1)), iv (f5 (own_v736 w0_2 w0_1)), iv (f6 (0:Int32) (own_v744 w0_2 w0_1)), iv (f7 w0_4 (own_v738 w0_2 w0_1)), iv (own_v761 w0_4 w0_2 w0_1), iv (own_v765 w0_3 w0_2 w0_1), iv w0_5] [(.int (own_v765 w0_3 w0_2 w0_1))])) _
                          refine XS.iconst X762.here hx rfl (hb hby at_269) ?_
                          rw [hw0_7.trans ((if_neg hm255_12).trans (if_neg hm262_13))] at k
                          exact k
                    by_cases hs270_14 : (own_v765 w0_3 w0_2 w0_1) = w0_7
                    · refine own_pre (A := T762.setTop (mkF m 276 #[iv p0, iv p1, iv p2, iv p3, iv p4, iv (1:Int32), iv w0_1, iv w0_2, iv w0_3, iv w0_4, rv b619, iv (f4 (0:Int32) (own_v742 w0_2 w0_1)), iv (f5 (own_v736 w0_2 w0_1)), iv (f6 (0:Int32) (own_v744 w0_2 w0_1)), iv (f7 w0_4 (own_v738 w0_2 w0_1)), iv (own_v761 w0_4 w0_2 w0_1), iv (own_v765 w0_3 w0_2 w0_1), iv w0_5] [(.int (1:Int32))])) (fun t k => ?_) ?_
                      · show Steps p.tables e below (T762.setTop (mkF m 270 #[iv p0, iv p1, iv p2, iv p3, iv p4, iv (1:Int32), iv w0_1, iv w0_2, iv w0_3, iv w0_4, rv b619, iv (f4 (0:Int32) (own_v742 w0_2 w0_1)), iv (f5 (own_v736 w0_2 w0_1)), iv (f6 (0:Int32) (own_v744 w0_2 w0_1)), iv (f7 w0_4 (own_v738 w0_2 w0_1)), iv (own_v761 w0_4 w0_2 w0_1), iv (own_v765 w0_3 w0_2 w0_1), iv w0_5] [(.int w0_7), (.int (own_v765 w0_3 w0_2 w0_1))])) _
                        refine XS.icmpYes X762.here hx rfl (pc0 := 270) (pc' := 275) rfl (hb hby at_270) rfl (XT.ii_eq_t hs270_14) (by decide) (by decide) ?_
                        show Steps p.tables e below (T762.setTop (mkF m 275 #[iv p0, iv p1, iv p2, iv p3, iv p4, iv (1:Int32), iv w0_1, iv w0_2, iv w0_3, iv w0_4, rv b619, iv (f4 (0:Int32) (own_v742 w0_2 w0_1)), iv (f5 (own_v736 w0_2 w0_1)), iv (f6 (0:Int32) (own_v744 w0_2 w0_1)), iv (f7 w0_4 (own_v738 w0_2 w0_1)), iv (own_v761 w0_4 w0_2 w0_1), iv (own_v765 w0_3 w0_2 w0_1), iv w0_5] [])) _
                        refine XS.iconst X762.here hx rfl (hb hby at_275) ?_
                        exact k
                      exact own_end X762 (BodyLoose.notSynchronized Bd) (fun h => by rw [Bd.returns] at h; cases h) (v := some (.int (1:Int32))) (fun fs hr => retN X762 hx (t := .boolean) Bd.returns (by simp) (hb hby at_276) hr) (by show Q0n1 Z p0 p1 p2 p3 p4 h0 n0 _ T762.heap _; rw [eh762]; exact ⟨rfl, N762⟩) (by decide) (by decide)
                    · refine own_pre (A := T762.setTop (mkF m 274 #[iv p0, iv p1, iv p2, iv p3, iv p4, iv (1:Int32), iv w0_1, iv w0_2, iv w0_3, iv w0_4, rv b619, iv (f4 (0:Int32) (own_v742 w0_2 w0_1)), iv (f5 (own_v736 w0_2 w0_1)), iv (f6 (0:Int32) (own_v744 w0_2 w0_1)), iv (f7 w0_4 (own_v738 w0_2 w0_1)), iv (own_v761 w0_4 w0_2 w0_1), iv (own_v765 w0_3 w0_2 w0_1), iv w0_5] [(.int (0:Int32))])) (fun t k => ?_) ?_
                      · show Steps p.tables e below (T762.setTop (mkF m 270 #[iv p0, iv p1, iv p2, iv p3, iv p4, iv (1:Int32), iv w0_1, iv w0_2, iv w0_3, iv w0_4, rv b619, iv (f4 (0:Int32) (own_v742 w0_2 w0_1)), iv (f5 (own_v736 w0_2 w0_1)), iv (f6 (0:Int32) (own_v744 w0_2 w0_1)), iv (f7 w0_4 (own_v738 w0_2 w0_1)), iv (own_v761 w0_4 w0_2 w0_1), iv (own_v765 w0_3 w0_2 w0_1), iv w0_5] [(.int w0_7), (.int (own_v765 w0_3 w0_2 w0_1))])) _
                        refine XS.icmpNo X762.here hx rfl (hb hby at_270) rfl (XT.ii_eq_f hs270_14) ?_
                        show Steps p.tables e below (T762.setTop (mkF m 273 #[iv p0, iv p1, iv p2, iv p3, iv p4, iv (1:Int32), iv w0_1, iv w0_2, iv w0_3, iv w0_4, rv b619, iv (f4 (0:Int32) (own_v742 w0_2 w0_1)), iv (f5 (own_v736 w0_2 w0_1)), iv (f6 (0:Int32) (own_v744 w0_2 w0_1)), iv (f7 w0_4 (own_v738 w0_2 w0_1)), iv (own_v761 w0_4 w0_2 w0_1), iv (own_v765 w0_3 w0_2 w0_1), iv w0_5] [])) _
                        refine XS.iconst X762.here hx rfl (hb hby at_273) ?_
                        exact k
                      exact own_end X762 (BodyLoose.notSynchronized Bd) (fun h => by rw [Bd.returns] at h; cases h) (v := some (.int (0:Int32))) (fun fs hr => retN X762 hx (t := .boolean) Bd.returns (by simp) (hb hby at_274) hr) (by show Q0n1 Z p0 p1 p2 p3 p4 h0 n0 _ T762.heap _; rw [eh762]; exact ⟨(by subst hw0_5 hw0_6 hw0_7; exact absurd ⟨hs137_2, hs145_3, hs152_4, hs159_5, hs166_6, hs244_11, hs270_14⟩ (own_fin770 w0_1 (own_mem1 _ _ hw0_1) w0_2 (own_mem1 _ _ hw0_2) w0_3 (own_mem1 _ _ hw0_3) w0_4 (own_mem1 _ _ hw0_4))), N762⟩) (by decide) (by decide)
                  · refine own_pre (A := T762.setTop (mkF m 248 #[iv p0, iv p1, iv p2, iv p3, iv p4, iv (1:Int32), iv w0_1, iv w0_2, iv w0_3, iv w0_4, rv b619, iv (f4 (0:Int32) (own_v742 w0_2 w0_1)), iv (f5 (own_v736 w0_2 w0_1)), iv (f6 (0:Int32) (own_v744 w0_2 w0_1)), iv (f7 w0_4 (own_v738 w0_2 w0_1)), iv (own_v761 w0_4 w0_2 w0_1), iv (own_v765 w0_3 w0_2 w0_1), iv w0_5] [(.int (0:Int32))])) (fun t k => ?_) ?_
                    · show Steps p.tables e below (T762.setTop (mkF m 244 #[iv p0, iv p1, iv p2, iv p3, iv p4, iv (1:Int32), iv w0_1, iv w0_2, iv w0_3, iv w0_4, rv b619, iv (f4 (0:Int32) (own_v742 w0_2 w0_1)), iv (f5 (own_v736 w0_2 w0_1)), iv (f6 (0:Int32) (own_v744 w0_2 w0_1)), iv (f7 w0_4 (own_v738 w0_2 w0_1)), iv (own_v761 w0_4 w0_2 w0_1), iv (own_v765 w0_3 w0_2 w0_1), iv w0_5] [(.int w0_6), (.int (own_v761 w0_4 w0_2 w0_1))])) _
                      refine XS.icmpNo X762.here hx rfl (hb hby at_244) rfl (XT.ii_eq_f hs244_11) ?_
                      show Steps p.tables e below (T762.setTop (mkF m 247 #[iv p0, iv p1, iv p2, iv p3, iv p4, iv (1:Int32), iv w0_1, iv w0_2, iv w0_3, iv w0_4, rv b619, iv (f4 (0:Int32) (own_v742 w0_2 w0_1)), iv (f5 (own_v736 w0_2 w0_1)), iv (f6 (0:Int32) (own_v744 w0_2 w0_1)), iv (f7 w0_4 (own_v738 w0_2 w0_1)), iv (own_v761 w0_4 w0_2 w0_1), iv (own_v765 w0_3 w0_2 w0_1), iv w0_5] [])) _
                      refine XS.iconst X762.here hx rfl (hb hby at_247) ?_
                      exact k
                    exact own_end X762 (BodyLoose.notSynchronized Bd) (fun h => by rw [Bd.returns] at h; cases h) (v := some (.int (0:Int32))) (fun fs hr => retN X762 hx (t := .boolean) Bd.returns (by simp) (hb hby at_248) hr) (by show Q0n1 Z p0 p1 p2 p3 p4 h0 n0 _ T762.heap _; rw [eh762]; exact ⟨(by subst hw0_5 hw0_6; exact absurd ⟨hs137_2, hs145_3, hs152_4, hs159_5, hs166_6, hs244_11⟩ (own_fin771 w0_1 (own_mem1 _ _ hw0_1) w0_2 (own_mem1 _ _ hw0_2) w0_4 (own_mem1 _ _ hw0_4))), N762⟩) (by decide) (by decide)
                refine own_pre (A := T762.setTop (mkF m 211 #[iv p0, iv p1, iv p2, iv p3, iv p4, iv (1:Int32), iv w0_1, iv w0_2, iv w0_3, iv w0_4, rv b619, iv (f4 (0:Int32) (own_v742 w0_2 w0_1)), iv (f5 (own_v736 w0_2 w0_1)), iv (f6 (0:Int32) (own_v744 w0_2 w0_1)), iv (f7 w0_4 (own_v738 w0_2 w0_1)), iv (own_v761 w0_4 w0_2 w0_1), iv (own_v765 w0_3 w0_2 w0_1), iv w0_5] [(.int w0_5), (.int w0_4)])) (fun t k => ?_) ?_
                · show Steps p.tables e below (T762.setTop (mkF m 207 #[iv p0, iv p1, iv p2, iv p3, iv p4, iv (1:Int32), iv w0_1, iv w0_2, iv w0_3, iv w0_4, rv b619, iv (f4 (0:Int32) (own_v742 w0_2 w0_1)), iv (f5 (own_v736 w0_2 w0_1)), iv (f6 (0:Int32) (own_v744 w0_2 w0_1)), iv (f7 w0_4 (own_v738 w0_2 w0_1)), iv (own_v761 w0_4 w0_2 w0_1), iv (own_v765 w0_3 w0_2 w0_1), iv w0_5] [])) _
                  refine XS.iload X762.here hx rfl (hb hby at_207) rfl ?_
                  show Steps p.tables e below (T762.setTop (mkF m 209 #[iv p0, iv p1, iv p2, iv p3, iv p4, iv (1:Int32), iv w0_1, iv w0_2, iv w0_3, iv w0_4, rv b619, iv (f4 (0:Int32) (own_v742 w0_2 w0_1)), iv (f5 (own_v736 w0_2 w0_1)), iv (f6 (0:Int32) (own_v744 w0_2 w0_1)), iv (f7 w0_4 (own_v738 w0_2 w0_1)), iv (own_v761 w0_4 w0_2 w0_1), iv (own_v765 w0_3 w0_2 w0_1), iv w0_5] [(.int w0_4)])) _
                  refine XS.iload X762.here hx rfl (hb hby at_209) rfl ?_
                  exact k
                by_cases hs211_15 : w0_4 < w0_5
                · refine own_pre (A := T762.setTop (mkF m 230 #[iv p0, iv p1, iv p2, iv p3, iv p4, iv (1:Int32), iv w0_1, iv w0_2, iv w0_3, iv w0_4, rv b619, iv (f4 (0:Int32) (own_v742 w0_2 w0_1)), iv (f5 (own_v736 w0_2 w0_1)), iv (f6 (0:Int32) (own_v744 w0_2 w0_1)), iv (f7 w0_4 (own_v738 w0_2 w0_1)), iv (own_v761 w0_4 w0_2 w0_1), iv (own_v765 w0_3 w0_2 w0_1), iv w0_5] [])) (fun t k => ?_) ?_
                  · show Steps p.tables e below (T762.setTop (mkF m 211 #[iv p0, iv p1, iv p2, iv p3, iv p4, iv (1:Int32), iv w0_1, iv w0_2, iv w0_3, iv w0_4, rv b619, iv (f4 (0:Int32) (own_v742 w0_2 w0_1)), iv (f5 (own_v736 w0_2 w0_1)), iv (f6 (0:Int32) (own_v744 w0_2 w0_1)), iv (f7 w0_4 (own_v738 w0_2 w0_1)), iv (own_v761 w0_4 w0_2 w0_1), iv (own_v765 w0_3 w0_2 w0_1), iv w0_5] [(.int w0_5), (.int w0_4)])) _
                    refine XS.icmpYes X762.here hx rfl (pc0 := 211) (pc' := 230) rfl (hb hby at_211) rfl (XT.ii_lt_t hs211_15) (by decide) (by decide) ?_
                    exact k
                  exact hJ230_9
                · refine own_pre (A := T762.setTop (mkF m 218 #[iv p0, iv p1, iv p2, iv p3, iv p4, iv (1:Int32), iv w0_1, iv w0_2, iv w0_3, iv w0_4, rv b619, iv (f4 (0:Int32) (own_v742 w0_2 w0_1)), iv (f5 (own_v736 w0_2 w0_1)), iv (f6 (0:Int32) (own_v744 w0_2 w0_1)), iv (f7 w0_4 (own_v738 w0_2 w0_1)), iv (own_v761 w0_4 w0_2 w0_1), iv (own_v765 w0_3 w0_2 w0_1), iv w0_5] [(.int w0_1), (.int (f7 w0_4 (own_v738 w0_2 w0_1)))])) (fun t k => ?_) ?_
                  · show Steps p.tables e below (T762.setTop (mkF m 211 #[iv p0, iv p1, iv p2, iv p3, iv p4, iv (1:Int32), iv w0_1, iv w0_2, iv w0_3, iv w0_4, rv b619, iv (f4 (0:Int32) (own_v742 w0_2 w0_1)), iv (f5 (own_v736 w0_2 w0_1)), iv (f6 (0:Int32) (own_v744 w0_2 w0_1)), iv (f7 w0_4 (own_v738 w0_2 w0_1)), iv (own_v761 w0_4 w0_2 w0_1), iv (own_v765 w0_3 w0_2 w0_1), iv w0_5] [(.int w0_5), (.int w0_4)])) _
                    refine XS.icmpNo X762.here hx rfl (hb hby at_211) rfl (XT.ii_lt_f hs211_15) ?_
                    show Steps p.tables e below (T762.setTop (mkF m 214 #[iv p0, iv p1, iv p2, iv p3, iv p4, iv (1:Int32), iv w0_1, iv w0_2, iv w0_3, iv w0_4, rv b619, iv (f4 (0:Int32) (own_v742 w0_2 w0_1)), iv (f5 (own_v736 w0_2 w0_1)), iv (f6 (0:Int32) (own_v744 w0_2 w0_1)), iv (f7 w0_4 (own_v738 w0_2 w0_1)), iv (own_v761 w0_4 w0_2 w0_1), iv (own_v765 w0_3 w0_2 w0_1), iv w0_5] [])) _
                    refine XS.iload X762.here hx rfl (hb hby at_214) rfl ?_
                    show Steps p.tables e below (T762.setTop (mkF m 216 #[iv p0, iv p1, iv p2, iv p3, iv p4, iv (1:Int32), iv w0_1, iv w0_2, iv w0_3, iv w0_4, rv b619, iv (f4 (0:Int32) (own_v742 w0_2 w0_1)), iv (f5 (own_v736 w0_2 w0_1)), iv (f6 (0:Int32) (own_v744 w0_2 w0_1)), iv (f7 w0_4 (own_v738 w0_2 w0_1)), iv (own_v761 w0_4 w0_2 w0_1), iv (own_v765 w0_3 w0_2 w0_1), iv w0_5] [(.int (f7 w0_4 (own_v738 w0_2 w0_1)))])) _
                    refine XS.iload X762.here hx rfl (hb hby at_216) rfl ?_
                    exact k
                  by_cases hs218_16 : (f7 w0_4 (own_v738 w0_2 w0_1)) = w0_1
                  · refine own_pre (A := T762.setTop (mkF m 229 #[iv p0, iv p1, iv p2, iv p3, iv p4, iv (1:Int32), iv w0_1, iv w0_2, iv w0_3, iv w0_4, rv b619, iv (f4 (0:Int32) (own_v742 w0_2 w0_1)), iv (f5 (own_v736 w0_2 w0_1)), iv (f6 (0:Int32) (own_v744 w0_2 w0_1)), iv (f7 w0_4 (own_v738 w0_2 w0_1)), iv (own_v761 w0_4 w0_2 w0_1), iv (own_v765 w0_3 w0_2 w0_1), iv w0_5] [(.int (0:Int32))])) (fun t k => ?_) ?_
                    · show Steps p.tables e below (T762.setTop (mkF m 218 #[iv p0, iv p1, iv p2, iv p3, iv p4, iv (1:Int32), iv w0_1, iv w0_2, iv w0_3, iv w0_4, rv b619, iv (f4 (0:Int32) (own_v742 w0_2 w0_1)), iv (f5 (own_v736 w0_2 w0_1)), iv (f6 (0:Int32) (own_v744 w0_2 w0_1)), iv (f7 w0_4 (own_v738 w0_2 w0_1)), iv (own_v761 w0_4 w0_2 w0_1), iv (own_v765 w0_3 w0_2 w0_1), iv w0_5] [(.int w0_1), (.int (f7 w0_4 (own_v738 w0_2 w0_1)))])) _
                      refine XS.icmpYes X762.here hx rfl (pc0 := 218) (pc' := 228) rfl (hb hby at_218) rfl (XT.ii_eq_t hs218_16) (by decide) (by decide) ?_
                      show Steps p.tables e below (T762.setTop (mkF m 228 #[iv p0, iv p1, iv p2, iv p3, iv p4, iv (1:Int32), iv w0_1, iv w0_2, iv w0_3, iv w0_4, rv b619, iv (f4 (0:Int32) (own_v742 w0_2 w0_1)), iv (f5 (own_v736 w0_2 w0_1)), iv (f6 (0:Int32) (own_v744 w0_2 w0_1)), iv (f7 w0_4 (own_v738 w0_2 w0_1)), iv (own_v761 w0_4 w0_2 w0_1), iv (own_v765 w0_3 w0_2 w0_1), iv w0_5] [])) _
                      refine XS.iconst X762.here hx rfl (hb hby at_228) ?_
                      exact k
                    exact own_end X762 (BodyLoose.notSynchronized Bd) (fun h => by rw [Bd.returns] at h; cases h) (v := some (.int (0:Int32))) (fun fs hr => retN X762 hx (t := .boolean) Bd.returns (by simp) (hb hby at_229) hr) (by show Q0n1 Z p0 p1 p2 p3 p4 h0 n0 _ T762.heap _; rw [eh762]; exact ⟨(by subst hw0_5; exact absurd ⟨hs137_2, hs145_3, hs152_4, hs159_5, hs166_6, hs211_15, hs218_16⟩ (own_fin772 w0_1 (own_mem1 _ _ hw0_1) w0_2 (own_mem1 _ _ hw0_2) w0_4 (own_mem1 _ _ hw0_4))), N762⟩) (by decide) (by decide)
                  · refine own_pre (A := T762.setTop (mkF m 225 #[iv p0, iv p1, iv p2, iv p3, iv p4, iv (1:Int32), iv w0_1, iv w0_2, iv w0_3, iv w0_4, rv b619, iv (f4 (0:Int32) (own_v742 w0_2 w0_1)), iv (f5 (own_v736 w0_2 w0_1)), iv (f6 (0:Int32) (own_v744 w0_2 w0_1)), iv (f7 w0_4 (own_v738 w0_2 w0_1)), iv (own_v761 w0_4 w0_2 w0_1), iv (own_v765 w0_3 w0_2 w0_1), iv w0_5] [(.int w0_2), (.int (f7 w0_4 (own_v738 w0_2 w0_1)))])) (fun t k => ?_) ?_
                    · show Steps p.tables e below (T762.setTop (mkF m 218 #[iv p0, iv p1, iv p2, iv p3, iv p4, iv (1:Int32), iv w0_1, iv w0_2, iv w0_3, iv w0_4, rv b619, iv (f4 (0:Int32) (own_v742 w0_2 w0_1)), iv (f5 (own_v736 w0_2 w0_1)), iv (f6 (0:Int32) (own_v744 w0_2 w0_1)), iv (f7 w0_4 (own_v738 w0_2 w0_1)), iv (own_v761 w0_4 w0_2 w0_1), iv (own_v765 w0_3 w0_2 w0_1), iv w0_5] [(.int w0_1), (.int (f7 w0_4 (own_v738 w0_2 w0_1)))])) _
                      refine XS.icmpNo X762.here hx rfl (hb hby at_218) rfl (XT.ii_eq_f hs218_16) ?_
                      show Steps p.tables e below (T762.setTop (mkF m 221 #[iv p0, iv p1, iv p2, iv p3, iv p4, iv (1:Int32), iv w0_1, iv w0_2, iv w0_3, iv w0_4, rv b619, iv (f4 (0:Int32) (own_v742 w0_2 w0_1)), iv (f5 (own_v736 w0_2 w0_1)), iv (f6 (0:Int32) (own_v744 w0_2 w0_1)), iv (f7 w0_4 (own_v738 w0_2 w0_1)), iv (own_v761 w0_4 w0_2 w0_1), iv (own_v765 w0_3 w0_2 w0_1), iv w0_5] [])) _
                      refine XS.iload X762.here hx rfl (hb hby at_221) rfl ?_
                      show Steps p.tables e below (T762.setTop (mkF m 223 #[iv p0, iv p1, iv p2, iv p3, iv p4, iv (1:Int32), iv w0_1, iv w0_2, iv w0_3, iv w0_4, rv b619, iv (f4 (0:Int32) (own_v742 w0_2 w0_1)), iv (f5 (own_v736 w0_2 w0_1)), iv (f6 (0:Int32) (own_v744 w0_2 w0_1)), iv (f7 w0_4 (own_v738 w0_2 w0_1)), iv (own_v761 w0_4 w0_2 w0_1), iv (own_v765 w0_3 w0_2 w0_1), iv w0_5] [(.int (f7 w0_4 (own_v738 w0_2 w0_1)))])) _
                      refine XS.iload X762.here hx rfl (hb hby at_223) rfl ?_
                      exact k
                    by_cases hs225_17 : (f7 w0_4 (own_v738 w0_2 w0_1)) = w0_2
                    · refine own_pre (A := T762.setTop (mkF m 229 #[iv p0, iv p1, iv p2, iv p3, iv p4, iv (1:Int32), iv w0_1, iv w0_2, iv w0_3, iv w0_4, rv b619, iv (f4 (0:Int32) (own_v742 w0_2 w0_1)), iv (f5 (own_v736 w0_2 w0_1)), iv (f6 (0:Int32) (own_v744 w0_2 w0_1)), iv (f7 w0_4 (own_v738 w0_2 w0_1)), iv (own_v761 w0_4 w0_2 w0_1), iv (own_v765 w0_3 w0_2 w0_1), iv w0_5] [(.int (0:Int32))])) (fun t k => ?_) ?_
                      · show Steps p.tables e below (T762.setTop (mkF m 225 #[iv p0, iv p1, iv p2, iv p3, iv p4, iv (1:Int32), iv w0_1, iv w0_2, iv w0_3, iv w0_4, rv b619, iv (f4 (0:Int32) (own_v742 w0_2 w0_1)), iv (f5 (own_v736 w0_2 w0_1)), iv (f6 (0:Int32) (own_v744 w0_2 w0_1)), iv (f7 w0_4 (own_v738 w0_2 w0_1)), iv (own_v761 w0_4 w0_2 w0_1), iv (own_v765 w0_3 w0_2 w0_1), iv w0_5] [(.int w0_2), (.int (f7 w0_4 (own_v738 w0_2 w0_1)))])) _
                        refine XS.icmpNo X762.here hx rfl (hb hby at_225) rfl (XT.ii_ne_f hs225_17) ?_
                        show Steps p.tables e below (T762.setTop (mkF m 228 #[iv p0, iv p1, iv p2, iv p3, iv p4, iv (1:Int32), iv w0_1, iv w0_2, iv w0_3, iv w0_4, rv b619, iv (f4 (0:Int32) (own_v742 w0_2 w0_1)), iv (f5 (own_v736 w0_2 w0_1)), iv (f6 (0:Int32) (own_v744 w0_2 w0_1)), iv (f7 w0_4 (own_v738 w0_2 w0_1)), iv (own_v761 w0_4 w0_2 w0_1), iv (own_v765 w0_3 w0_2 w0_1), iv w0_5] [])) _
                        refine XS.iconst X762.here hx rfl (hb hby at_228) ?_
                        exact k
                      exact own_end X762 (BodyLoose.notSynchronized Bd) (fun h => by rw [Bd.returns] at h; cases h) (v := some (.int (0:Int32))) (fun fs hr => retN X762 hx (t := .boolean) Bd.returns (by simp) (hb hby at_229) hr) (by show Q0n1 Z p0 p1 p2 p3 p4 h0 n0 _ T762.heap _; rw [eh762]; exact ⟨(by subst hw0_5; exact absurd ⟨hs137_2, hs145_3, hs152_4, hs159_5, hs166_6, hs211_15, hs218_16, hs225_17⟩ (own_fin773 w0_1 (own_mem1 _ _ hw0_1) w0_2 (own_mem1 _ _ hw0_2) w0_4 (own_mem1 _ _ hw0_4))), N762⟩) (by decide) (by decide)
                    · refine own_pre (A := T762.setTop (mkF m 230 #[iv p0, iv p1, iv p2, iv p3, iv p4, iv (1:Int32), iv w0_1, iv w0_2, iv w0_3, iv w0_4, rv b619, iv (f4 (0:Int32) (own_v742 w0_2 w0_1)), iv (f5 (own_v736 w0_2 w0_1)), iv (f6 (0:Int32) (own_v744 w0_2 w0_1)), iv (f7 w0_4 (own_v738 w0_2 w0_1)), iv (own_v761 w0_4 w0_2 w0_1), iv (own_v765 w0_3 w0_2 w0_1), iv w0_5] [])) (fun t k => ?_) ?_
                      · show Steps p.tables e below (T762.setTop (mkF m 225 #[iv p0, iv p1, iv p2, iv p3, iv p4, iv (1:Int32), iv w0_1, iv w0_2, iv w0_3, iv w0_4, rv b619, iv (f4 (0:Int32) (own_v742 w0_2 w0_1)), iv (f5 (own_v736 w0_2 w0_1)), iv (f6 (0:Int32) (own_v744 w0_2 w0_1)), iv (f7 w0_4 (own_v738 w0_2 w0_1)), iv (own_v761 w0_4 w0_2 w0_1), iv (own_v765 w0_3 w0_2 w0_1), iv w0_5] [(.int w0_2), (.int (f7 w0_4 (own_v738 w0_2 w0_1)))])) _
                        refine XS.icmpYes X762.here hx rfl (pc0 := 225) (pc' := 230) rfl (hb hby at_225) rfl (XT.ii_ne_t hs225_17) (by decide) (by decide) ?_
                        exact k
                      exact hJ230_9
              refine own_pre (A := T762.setTop (mkF m 188 #[iv p0, iv p1, iv p2, iv p3, iv p4, iv (1:Int32), iv w0_1, iv w0_2, iv w0_3, iv w0_4, rv b619, iv (f4 (0:Int32) (own_v742 w0_2 w0_1)), iv (f5 (own_v736 w0_2 w0_1)), iv (f6 (0:Int32) (own_v744 w0_2 w0_1)), iv (f7 w0_4 (own_v738 w0_2 w0_1)), iv (own_v761 w0_4 w0_2 w0_1), iv (own_v765 w0_3 w0_2 w0_1), iv w0_5] [(.int (1:Int32)), (.int w0_4)])) (fun t k => ?_) ?_
              · show Steps p.tables e below (T762.setTop (mkF m 185 #[iv p0, iv p1, iv p2, iv p3, iv p4, iv (1:Int32), iv w0_1, iv w0_2, iv w0_3, iv w0_4, rv b619, iv (f4 (0:Int32) (own_v742 w0_2 w0_1)), iv (f5 (own_v736 w0_2 w0_1)), iv (f6 (0:Int32) (own_v744 w0_2 w0_1)), iv (f7 w0_4 (own_v738 w0_2 w0_1)), iv (own_v761 w0_4 w0_2 w0_1), iv (own_v765 w0_3 w0_2 w0_1), iv w0_5] [])) _
                refine XS.iload X762.here hx rfl (hb hby at_185) rfl ?_
                show Steps p.tables e below (T762.setTop (mkF m 187 #[iv p0, iv p1, iv p2, iv p3, iv p4, iv (1:Int32), iv w0_1, iv w0_2, iv w0_3, iv w0_4, rv b619, iv (f4 (0:Int32) (own_v742 w0_2 w0_1)), iv (f5 (own_v736 w0_2 w0_1)), iv (f6 (0:Int32) (own_v744 w0_2 w0_1)), iv (f7 w0_4 (own_v738 w0_2 w0_1)), iv (own_v761 w0_4 w0_2 w0_1), iv (own_v765 w0_3 w0_2 w0_1), iv w0_5] [(.int w0_4)])) _
                refine XS.iconst X762.here hx rfl (hb hby at_187) ?_
                exact k
              by_cases hs188_18 : w0_4 = (1:Int32)
              · refine own_pre (A := T762.setTop (mkF m 195 #[iv p0, iv p1, iv p2, iv p3, iv p4, iv (1:Int32), iv w0_1, iv w0_2, iv w0_3, iv w0_4, rv b619, iv (f4 (0:Int32) (own_v742 w0_2 w0_1)), iv (f5 (own_v736 w0_2 w0_1)), iv (f6 (0:Int32) (own_v744 w0_2 w0_1)), iv (f7 w0_4 (own_v738 w0_2 w0_1)), iv (own_v761 w0_4 w0_2 w0_1), iv (own_v765 w0_3 w0_2 w0_1), iv w0_5] [(.int w0_2), (.int w0_1)])) (fun t k => ?_) ?_
                · show Steps p.tables e below (T762.setTop (mkF m 188 #[iv p0, iv p1, iv p2, iv p3, iv p4, iv (1:Int32), iv w0_1, iv w0_2, iv w0_3, iv w0_4, rv b619, iv (f4 (0:Int32) (own_v742 w0_2 w0_1)), iv (f5 (own_v736 w0_2 w0_1)), iv (f6 (0:Int32) (own_v744 w0_2 w0_1)), iv (f7 w0_4 (own_v738 w0_2 w0_1)), iv (own_v761 w0_4 w0_2 w0_1), iv (own_v765 w0_3 w0_2 w0_1), iv w0_5] [(.int (1:Int32)), (.int w0_4)])) _
                  refine XS.icmpNo X762.here hx rfl (hb hby at_188) rfl (XT.ii_ne_f hs188_18) ?_
                  show Steps p.tables e below (T762.setTop (mkF m 191 #[iv p0, iv p1, iv p2, iv p3, iv p4, iv (1:Int32), iv w0_1, iv w0_2, iv w0_3, iv w0_4, rv b619, iv (f4 (0:Int32) (own_v742 w0_2 w0_1)), iv (f5 (own_v736 w0_2 w0_1)), iv (f6 (0:Int32) (own_v744 w0_2 w0_1)), iv (f7 w0_4 (own_v738 w0_2 w0_1)), iv (own_v761 w0_4 w0_2 w0_1), iv (own_v765 w0_3 w0_2 w0_1), iv w0_5] [])) _
                  refine XS.iload X762.here hx rfl (hb hby at_191) rfl ?_
                  show Steps p.tables e below (T762.setTop (mkF m 193 #[iv p0, iv p1, iv p2, iv p3, iv p4, iv (1:Int32), iv w0_1, iv w0_2, iv w0_3, iv w0_4, rv b619, iv (f4 (0:Int32) (own_v742 w0_2 w0_1)), iv (f5 (own_v736 w0_2 w0_1)), iv (f6 (0:Int32) (own_v744 w0_2 w0_1)), iv (f7 w0_4 (own_v738 w0_2 w0_1)), iv (own_v761 w0_4 w0_2 w0_1), iv (own_v765 w0_3 w0_2 w0_1), iv w0_5] [(.int w0_1)])) _
                  refine XS.iload X762.here hx rfl (hb hby at_193) rfl ?_
                  exact k
                by_cases hs195_19 : w0_1 = w0_2
                · refine own_pre (A := T762.setTop (mkF m 207 #[iv p0, iv p1, iv p2, iv p3, iv p4, iv (1:Int32), iv w0_1, iv w0_2, iv w0_3, iv w0_4, rv b619, iv (f4 (0:Int32) (own_v742 w0_2 w0_1)), iv (f5 (own_v736 w0_2 w0_1)), iv (f6 (0:Int32) (own_v744 w0_2 w0_1)), iv (f7 w0_4 (own_v738 w0_2 w0_1)), iv (own_v761 w0_4 w0_2 w0_1), iv (own_v765 w0_3 w0_2 w0_1), iv w0_5] [])) (fun t k => ?_) ?_
                  · show Steps p.tables e below (T762.setTop (mkF m 195 #[iv p0, iv p1, iv p2, iv p3, iv p4, iv (1:Int32), iv w0_1, iv w0_2, iv w0_3, iv w0_4, rv b619, iv (f4 (0:Int32) (own_v742 w0_2 w0_1)), iv (f5 (own_v736 w0_2 w0_1)), iv (f6 (0:Int32) (own_v744 w0_2 w0_1)), iv (f7 w0_4 (own_v738 w0_2 w0_1)), iv (own_v761 w0_4 w0_2 w0_1), iv (own_v765 w0_3 w0_2 w0_1), iv w0_5] [(.int w0_2), (.int w0_1)])) _
                    refine XS.icmpYes X762.here hx rfl (pc0 := 195) (pc' := 207) rfl (hb hby at_195) rfl (XT.ii_eq_t hs195_19) (by decide) (by decide) ?_
                    exact k
                  exact hJ207_8
                · refine own_pre (A := T762.setTop (mkF m 202 #[iv p0, iv p1, iv p2, iv p3, iv p4, iv (1:Int32), iv w0_1, iv w0_2, iv w0_3, iv w0_4, rv b619, iv (f4 (0:Int32) (own_v742 w0_2 w0_1)), iv (f5 (own_v736 w0_2 w0_1)), iv (f6 (0:Int32) (own_v744 w0_2 w0_1)), iv (f7 w0_4 (own_v738 w0_2 w0_1)), iv (own_v761 w0_4 w0_2 w0_1), iv (own_v765 w0_3 w0_2 w0_1), iv w0_5] [(.int w0_2), (.int (f7 w0_4 (own_v738 w0_2 w0_1)))])) (fun t k => ?_) ?_
                  · show Steps p.tables e below (T762.setTop (mkF m 195 #[iv p0, iv p1, iv p2, iv p3, iv p4, iv (1:Int32), iv w0_1, iv w0_2, iv w0_3, iv w0_4, rv b619, iv (f4 (0:Int32) (own_v742 w0_2 w0_1)), iv (f5 (own_v736 w0_2 w0_1)), iv (f6 (0:Int32) (own_v744 w0_2 w0_1)), iv (f7 w0_4 (own_v738 w0_2 w0_1)), iv (own_v761 w0_4 w0_2 w0_1), iv (own_v765 w0_3 w0_2 w0_1), iv w0_5] [(.int w0_2), (.int w0_1)])) _
                    refine XS.icmpNo X762.here hx rfl (hb hby at_195) rfl (XT.ii_eq_f hs195_19) ?_
                    show Steps p.tables e below (T762.setTop (mkF m 198 #[iv p0, iv p1, iv p2, iv p3, iv p4, iv (1:Int32), iv w0_1, iv w0_2, iv w0_3, iv w0_4, rv b619, iv (f4 (0:Int32) (own_v742 w0_2 w0_1)), iv (f5 (own_v736 w0_2 w0_1)), iv (f6 (0:Int32) (own_v744 w0_2 w0_1)), iv (f7 w0_4 (own_v738 w0_2 w0_1)), iv (own_v761 w0_4 w0_2 w0_1), iv (own_v765 w0_3 w0_2 w0_1), iv w0_5] [])) _
                    refine XS.iload X762.here hx rfl (hb hby at_198) rfl ?_
                    show Steps p.tables e below (T762.setTop (mkF m 200 #[iv p0, iv p1, iv p2, iv p3, iv p4, iv (1:Int32), iv w0_1, iv w0_2, iv w0_3, iv w0_4, rv b619, iv (f4 (0:Int32) (own_v742 w0_2 w0_1)), iv (f5 (own_v736 w0_2 w0_1)), iv (f6 (0:Int32) (own_v744 w0_2 w0_1)), iv (f7 w0_4 (own_v738 w0_2 w0_1)), iv (own_v761 w0_4 w0_2 w0_1), iv (own_v765 w0_3 w0_2 w0_1), iv w0_5] [(.int (f7 w0_4 (own_v738 w0_2 w0_1)))])) _
                    refine XS.iload X762.here hx rfl (hb hby at_200) rfl ?_
                    exact k
                  by_cases hs202_20 : (f7 w0_4 (own_v738 w0_2 w0_1)) = w0_2
                  · refine own_pre (A := T762.setTop (mkF m 207 #[iv p0, iv p1, iv p2, iv p3, iv p4, iv (1:Int32), iv w0_1, iv w0_2, iv w0_3, iv w0_4, rv b619, iv (f4 (0:Int32) (own_v742 w0_2 w0_1)), iv (f5 (own_v736 w0_2 w0_1)), iv (f6 (0:Int32) (own_v744 w0_2 w0_1)), iv (f7 w0_4 (own_v738 w0_2 w0_1)), iv (own_v761 w0_4 w0_2 w0_1), iv (own_v765 w0_3 w0_2 w0_1), iv w0_5] [])) (fun t k => ?_) ?_
                    · show Steps p.tables e below (T762.setTop (mkF m 202 #[iv p0, iv p1, iv p2, iv p3, iv p4, iv (1:Int32), iv w0_1, iv w0_2, iv w0_3, iv w0_4, rv b619, iv (f4 (0:Int32) (own_v742 w0_2 w0_1)), iv (f5 (own_v736 w0_2 w0_1)), iv (f6 (0:Int32) (own_v744 w0_2 w0_1)), iv (f7 w0_4 (own_v738 w0_2 w0_1)), iv (own_v761 w0_4 w0_2 w0_1), iv (own_v765 w0_3 w0_2 w0_1), iv w0_5] [(.int w0_2), (.int (f7 w0_4 (own_v738 w0_2 w0_1)))])) _
                      refine XS.icmpYes X762.here hx rfl (pc0 := 202) (pc' := 207) rfl (hb hby at_202) rfl (XT.ii_eq_t hs202_20) (by decide) (by decide) ?_
                      exact k
                    exact hJ207_8
                  · refine own_pre (A := T762.setTop (mkF m 206 #[iv p0, iv p1, iv p2, iv p3, iv p4, iv (1:Int32), iv w0_1, iv w0_2, iv w0_3, iv w0_4, rv b619, iv (f4 (0:Int32) (own_v742 w0_2 w0_1)), iv (f5 (own_v736 w0_2 w0_1)), iv (f6 (0:Int32) (own_v744 w0_2 w0_1)), iv (f7 w0_4 (own_v738 w0_2 w0_1)), iv (own_v761 w0_4 w0_2 w0_1), iv (own_v765 w0_3 w0_2 w0_1), iv w0_5] [(.int (0:Int32))])) (fun t k => ?_) ?_
                    · show Steps p.tables e below (T762.setTop (mkF m 202 #[iv p0, iv p1, iv p2, iv p3, iv p4, iv (1:Int32), iv w0_1, iv w0_2, iv w0_3, iv w0_4, rv b619, iv (f4 (0:Int32) (own_v742 w0_2 w0_1)), iv (f5 (own_v736 w0_2 w0_1)), iv (f6 (0:Int32) (own_v744 w0_2 w0_1)), iv (f7 w0_4 (own_v738 w0_2 w0_1)), iv (own_v761 w0_4 w0_2 w0_1), iv (own_v765 w0_3 w0_2 w0_1), iv w0_5] [(.int w0_2), (.int (f7 w0_4 (own_v738 w0_2 w0_1)))])) _
                      refine XS.icmpNo X762.here hx rfl (hb hby at_202) rfl (XT.ii_eq_f hs202_20) ?_
                      show Steps p.tables e below (T762.setTop (mkF m 205 #[iv p0, iv p1, iv p2, iv p3, iv p4, iv (1:Int32), iv w0_1, iv w0_2, iv w0_3, iv w0_4, rv b619, iv (f4 (0:Int32) (own_v742 w0_2 w0_1)), iv (f5 (own_v736 w0_2 w0_1)), iv (f6 (0:Int32) (own_v744 w0_2 w0_1)), iv (f7 w0_4 (own_v738 w0_2 w0_1)), iv (own_v761 w0_4 w0_2 w0_1), iv (own_v765 w0_3 w0_2 w0_1), iv w0_5] [])) _
                      refine XS.iconst X762.here hx rfl (hb hby at_205) ?_
                      exact k
                    exact own_end X762 (BodyLoose.notSynchronized Bd) (fun h => by rw [Bd.returns] at h; cases h) (v := some (.int (0:Int32))) (fun fs hr => retN X762 hx (t := .boolean) Bd.returns (by simp) (hb hby at_206) hr) (by show Q0n1 Z p0 p1 p2 p3 p4 h0 n0 _ T762.heap _; rw [eh762]; exact ⟨(by subst hw0_5; exact absurd ⟨hs137_2, hs145_3, hs152_4, hs159_5, hs166_6, hs188_18, hs195_19, hs202_20⟩ (own_fin774 w0_1 (own_mem1 _ _ hw0_1) w0_2 (own_mem1 _ _ hw0_2) w0_4 (own_mem1 _ _ hw0_4))), N762⟩) (by decide) (by decide)
              · refine own_pre (A := T762.setTop (mkF m 207 #[iv p0, iv p1, iv p2, iv p3, iv p4, iv (1:Int32), iv w0_1, iv w0_2, iv w0_3, iv w0_4, rv b619, iv (f4 (0:Int32) (own_v742 w0_2 w0_1)), iv (f5 (own_v736 w0_2 w0_1)), iv (f6 (0:Int32) (own_v744 w0_2 w0_1)), iv (f7 w0_4 (own_v738 w0_2 w0_1)), iv (own_v761 w0_4 w0_2 w0_1), iv (own_v765 w0_3 w0_2 w0_1), iv w0_5] [])) (fun t k => ?_) ?_
                · show Steps p.tables e below (T762.setTop (mkF m 188 #[iv p0, iv p1, iv p2, iv p3, iv p4, iv (1:Int32), iv w0_1, iv w0_2, iv w0_3, iv w0_4, rv b619, iv (f4 (0:Int32) (own_v742 w0_2 w0_1)), iv (f5 (own_v736 w0_2 w0_1)), iv (f6 (0:Int32) (own_v744 w0_2 w0_1)), iv (f7 w0_4 (own_v738 w0_2 w0_1)), iv (own_v761 w0_4 w0_2 w0_1), iv (own_v765 w0_3 w0_2 w0_1), iv w0_5] [(.int (1:Int32)), (.int w0_4)])) _
                  refine XS.icmpYes X762.here hx rfl (pc0 := 188) (pc' := 207) rfl (hb hby at_188) rfl (XT.ii_ne_t hs188_18) (by decide) (by decide) ?_
                  exact k
                exact hJ207_8
            refine own_pre (A := T762.setTop (mkF m 173 #[iv p0, iv p1, iv p2, iv p3, iv p4, iv (1:Int32), iv w0_1, iv w0_2, iv w0_3, iv w0_4, rv b619, iv (f4 (0:Int32) (own_v742 w0_2 w0_1)), iv (f5 (own_v736 w0_2 w0_1)), iv (f6 (0:Int32) (own_v744 w0_2 w0_1)), iv (f7 w0_4 (own_v738 w0_2 w0_1)), iv (own_v761 w0_4 w0_2 w0_1), iv (own_v765 w0_3 w0_2 w0_1), iv w0_5] [(.int w0_4)])) (fun t k => ?_) ?_
            · show Steps p.tables e below (T762.setTop (mkF m 171 #[iv p0, iv p1, iv p2, iv p3, iv p4, iv (1:Int32), iv w0_1, iv w0_2, iv w0_3, iv w0_4, rv b619, iv (f4 (0:Int32) (own_v742 w0_2 w0_1)), iv (f5 (own_v736 w0_2 w0_1)), iv (f6 (0:Int32) (own_v744 w0_2 w0_1)), iv (f7 w0_4 (own_v738 w0_2 w0_1)), iv (own_v761 w0_4 w0_2 w0_1), iv (own_v765 w0_3 w0_2 w0_1), iv w0_5] [])) _
              refine XS.iload X762.here hx rfl (hb hby at_171) rfl ?_
              exact k
            by_cases hs173_21 : w0_4 = (0:Int32)
            · refine own_pre (A := T762.setTop (mkF m 180 #[iv p0, iv p1, iv p2, iv p3, iv p4, iv (1:Int32), iv w0_1, iv w0_2, iv w0_3, iv w0_4, rv b619, iv (f4 (0:Int32) (own_v742 w0_2 w0_1)), iv (f5 (own_v736 w0_2 w0_1)), iv (f6 (0:Int32) (own_v744 w0_2 w0_1)), iv (f7 w0_4 (own_v738 w0_2 w0_1)), iv (own_v761 w0_4 w0_2 w0_1), iv (own_v765 w0_3 w0_2 w0_1), iv w0_5] [(.int w0_1), (.int (f7 w0_4 (own_v738 w0_2 w0_1)))])) (fun t k => ?_) ?_
              · show Steps p.tables e below (T762.setTop (mkF m 173 #[iv p0, iv p1, iv p2, iv p3, iv p4, iv (1:Int32), iv w0_1, iv w0_2, iv w0_3, iv w0_4, rv b619, iv (f4 (0:Int32) (own_v742 w0_2 w0_1)), iv (f5 (own_v736 w0_2 w0_1)), iv (f6 (0:Int32) (own_v744 w0_2 w0_1)), iv (f7 w0_4 (own_v738 w0_2 w0_1)), iv (own_v761 w0_4 w0_2 w0_1), iv (own_v765 w0_3 w0_2 w0_1), iv w0_5] [(.int w0_4)])) _
                refine XS.ifNo X762.here hx rfl (hb hby at_173) rfl (XT.i0_ne_f hs173_21) ?_
                show Steps p.tables e below (T762.setTop (mkF m 176 #[iv p0, iv p1, iv p2, iv p3, iv p4, iv (1:Int32), iv w0_1, iv w0_2, iv w0_3, iv w0_4, rv b619, iv (f4 (0:Int32) (own_v742 w0_2 w0_1)), iv (f5 (own_v736 w0_2 w0_1)), iv (f6 (0:Int32) (own_v744 w0_2 w0_1)), iv (f7 w0_4 (own_v738 w0_2 w0_1)), iv (own_v761 w0_4 w0_2 w0_1), iv (own_v765 w0_3 w0_2 w0_1), iv w0_5] [])) _
                refine XS.iload X762.here hx rfl (hb hby at_176) rfl ?_
                show Steps p.tables e below (T762.setTop (mkF m 178 #[iv p0, iv p1, iv p2, iv p3, iv p4, iv (1:Int32), iv w0_1, iv w0_2, iv w0_3, iv w0_4, rv b619, iv (f4 (0:Int32) (own_v742 w0_2 w0_1)), iv (f5 (own_v736 w0_2 w0_1)), iv (f6 (0:Int32) (own_v744 w0_2 w0_1)), iv (f7 w0_4 (own_v738 w0_2 w0_1)), iv (own_v761 w0_4 w0_2 w0_1), iv (own_v765 w0_3 w0_2 w0_1), iv w0_5] [(.int (f7 w0_4 (own_v738 w0_2 w0_1)))])) _
                refine XS.iload X762.here hx rfl (hb hby at_178) rfl ?_
                exact k
              by_cases hs180_22 : (f7 w0_4 (own_v738 w0_2 w0_1)) = w0_1
              · refine own_pre (A := T762.setTop (mkF m 185 #[iv p0, iv p1, iv p2, iv p3, iv p4, iv (1:Int32), iv w0_1, iv w0_2, iv w0_3, iv w0_4, rv b619, iv (f4 (0:Int32) (own_v742 w0_2 w0_1)), iv (f5 (own_v736 w0_2 w0_1)), iv (f6 (0:Int32) (own_v744 w0_2 w0_1)), iv (f7 w0_4 (own_v738 w0_2 w0_1)), iv (own_v761 w0_4 w0_2 w0_1), iv (own_v765 w0_3 w0_2 w0_1), iv w0_5] [])) (fun t k => ?_) ?_
                · show Steps p.tables e below (T762.setTop (mkF m 180 #[iv p0, iv p1, iv p2, iv p3, iv p4, iv (1:Int32), iv w0_1, iv w0_2, iv w0_3, iv w0_4, rv b619, iv (f4 (0:Int32) (own_v742 w0_2 w0_1)), iv (f5 (own_v736 w0_2 w0_1)), iv (f6 (0:Int32) (own_v744 w0_2 w0_1)), iv (f7 w0_4 (own_v738 w0_2 w0_1)), iv (own_v761 w0_4 w0_2 w0_1), iv (own_v765 w0_3 w0_2 w0_1), iv w0_5] [(.int w0_1), (.int (f7 w0_4 (own_v738 w0_2 w0_1)))])) _
                  refine XS.icmpYes X762.here hx rfl (pc0 := 180) (pc' := 185) rfl (hb hby at_180) rfl (XT.ii_eq_t hs180_22) (by decide) (by decide) ?_
                  exact k
                exact hJ185_7
              · refine own_pre (A := T762.setTop (mkF m 184 #[iv p0, iv p1, iv p2, iv p3, iv p4, iv (1:Int32), iv w0_1, iv w0_2, iv w0_3, iv w0_4, rv b619, iv (f4 (0:Int32) (own_v742 w0_2 w0_1)), iv (f5 (own_v736 w0_2 w0_1)), iv (f6 (0:Int32) (own_v744 w0_2 w0_1)), iv (f7 w0_4 (own_v738 w0_2 w0_1)), iv (own_v761 w0_4 w0_2 w0_1), iv (own_v765 w0_3 w0_2 w0_1), iv w0_5] [(.int (0:Int32))])) (fun t k => ?_) ?_
                · show Steps p.tables e below (T762.setTop (mkF m 180 #[iv p0, iv p1, iv p2, iv p3, iv p4, iv (1:Int32), iv w0_1, iv w0_2, iv w0_3, iv w0_4, rv b619, iv (f4 (0:Int32) (own_v742 w0_2 w0_1)), iv (f5 (own_v736 w0_2 w0_1)), iv (f6 (0:Int32) (own_v744 w0_2 w0_1)), iv (f7 w0_4 (own_v738 w0_2 w0_1)), iv (own_v761 w0_4 w0_2 w0_1), iv (own_v765 w0_3 w0_2 w0_1), iv w0_5] [(.int w0_1), (.int (f7 w0_4 (own_v738 w0_2 w0_1)))])) _
                  refine XS.icmpNo X762.here hx rfl (hb hby at_180) rfl (XT.ii_eq_f hs180_22) ?_
                  show Steps p.tables e below (T762.setTop (mkF m 183 #[iv p0, iv p1, iv p2, iv p3, iv p4, iv (1:Int32), iv w0_1, iv w0_2, iv w0_3, iv w0_4, rv b619, iv (f4 (0:Int32) (own_v742 w0_2 w0_1)), iv (f5 (own_v736 w0_2 w0_1)), iv (f6 (0:Int32) (own_v744 w0_2 w0_1)), iv (f7 w0_4 (own_v738 w0_2 w0_1)), iv (own_v761 w0_4 w0_2 w0_1), iv (own_v765 w0_3 w0_2 w0_1), iv w0_5] [])) _
                  refine XS.iconst X762.here hx rfl (hb hby at_183) ?_
                  exact k
                exact own_end X762 (BodyLoose.notSynchronized Bd) (fun h => by rw [Bd.returns] at h; cases h) (v := some (.int (0:Int32))) (fun fs hr => retN X762 hx (t := .boolean) Bd.returns (by simp) (hb hby at_184) hr) (by show Q0n1 Z p0 p1 p2 p3 p4 h0 n0 _ T762.heap _; rw [eh762]; exact ⟨(by subst hw0_5; exact absurd ⟨hs137_2, hs145_3, hs152_4, hs159_5, hs166_6, hs173_21, hs180_22⟩ (own_fin775 w0_1 (own_mem1 _ _ hw0_1) w0_2 (own_mem1 _ _ hw0_2) w0_4 (own_mem1 _ _ hw0_4))), N762⟩) (by decide) (by decide)
            · refine own_pre (A := T762.setTop (mkF m 185 #[iv p0, iv p1, iv p2, iv p3, iv p4, iv (1:Int32), iv w0_1, iv w0_2, iv w0_3, iv w0_4, rv b619, iv (f4 (0:Int32) (own_v742 w0_2 w0_1)), iv (f5 (own_v736 w0_2 w0_1)), iv (f6 (0:Int32) (own_v744 w0_2 w0_1)), iv (f7 w0_4 (own_v738 w0_2 w0_1)), iv (own_v761 w0_4 w0_2 w0_1), iv (own_v765 w0_3 w0_2 w0_1), iv w0_5] [])) (fun t k => ?_) ?_
              · show Steps p.tables e below (T762.setTop (mkF m 173 #[iv p0, iv p1, iv p2, iv p3, iv p4, iv (1:Int32), iv w0_1, iv w0_2, iv w0_3, iv w0_4, rv b619, iv (f4 (0:Int32) (own_v742 w0_2 w0_1)), iv (f5 (own_v736 w0_2 w0_1)), iv (f6 (0:Int32) (own_v744 w0_2 w0_1)), iv (f7 w0_4 (own_v738 w0_2 w0_1)), iv (own_v761 w0_4 w0_2 w0_1), iv (own_v765 w0_3 w0_2 w0_1), iv w0_5] [(.int w0_4)])) _
                refine XS.ifYes X762.here hx rfl (pc0 := 173) (pc' := 185) rfl (hb hby at_173) rfl (XT.i0_ne_t hs173_21) (by decide) (by decide) ?_
                exact k
              exact hJ185_7
          · refine own_pre (A := T762.setTop (mkF m 170 #[iv p0, iv p1, iv p2, iv p3, iv p4, iv (1:Int32), iv w0_1, iv w0_2, iv w0_3, iv w0_4, rv b619, iv (f4 (0:Int32) (own_v742 w0_2 w0_1)), iv (f5 (own_v736 w0_2 w0_1)), iv (f6 (0:Int32) (own_v744 w0_2 w0_1)), iv (f7 w0_4 (own_v738 w0_2 w0_1)), iv (own_v761 w0_4 w0_2 w0_1), iv (own_v765 w0_3 w0_2 w0_1), iv w0_5] [(.int (0:Int32))])) (fun t k => ?_) ?_
            · show Steps p.tables e below (T762.setTop (mkF m 166 #[iv p0, iv p1, iv p2, iv p3, iv p4, iv (1:Int32), iv w0_1, iv w0_2, iv w0_3, iv w0_4, rv b619, iv (f4 (0:Int32) (own_v742 w0_2 w0_1)), iv (f5 (own_v736 w0_2 w0_1)), iv (f6 (0:Int32) (own_v744 w0_2 w0_1)), iv (f7 w0_4 (own_v738 w0_2 w0_1)), iv (own_v761 w0_4 w0_2 w0_1), iv (own_v765 w0_3 w0_2 w0_1), iv w0_5] [(.int (1:Int32)), (.int (f7 w0_4 (own_v738 w0_2 w0_1)))])) _
              refine XS.icmpNo X762.here hx rfl (hb hby at_166) rfl (XT.ii_lt_f hs166_6) ?_
              show Steps p.tables e below (T762.setTop (mkF m 169 #[iv p0, iv p1, iv p2, iv p3, iv p4, iv (1:Int32), iv w0_1, iv w0_2, iv w0_3, iv w0_4, rv b619, iv (f4 (0:Int32) (own_v742 w0_2 w0_1)), iv (f5 (own_v736 w0_2 w0_1)), iv (f6 (0:Int32) (own_v744 w0_2 w0_1)), iv (f7 w0_4 (own_v738 w0_2 w0_1)), iv (own_v761 w0_4 w0_2 w0_1), iv (own_v765 w0_3 w0_2 w0_1), iv w0_5] [])) _
              refine XS.iconst X762.here hx rfl (hb hby at_169) ?_
              exact k
            exact own_end X762 (BodyLoose.notSynchronized Bd) (fun h => by rw [Bd.returns] at h; cases h) (v := some (.int (0:Int32))) (fun fs hr => retN X762 hx (t := .boolean) Bd.returns (by simp) (hb hby at_170) hr) (by show Q0n1 Z p0 p1 p2 p3 p4 h0 n0 _ T762.heap _; rw [eh762]; exact ⟨(by subst hw0_5; exact absurd ⟨hs137_2, hs145_3, hs152_4, hs159_5, hs166_6⟩ (own_fin776 w0_1 (own_mem1 _ _ hw0_1) w0_2 (own_mem1 _ _ hw0_2) w0_4 (own_mem1 _ _ hw0_4))), N762⟩) (by decide) (by decide)
      · refine own_pre (A := T762.setTop (mkF m 156 #[iv p0, iv p1, iv p2, iv p3, iv p4, iv (1:Int32), iv w0_1, iv w0_2, iv w0_3, iv w0_4, rv b619, iv (f4 (0:Int32) (own_v742 w0_2 w0_1)), iv (f5 (own_v736 w0_2 w0_1)), iv (f6 (0:Int32) (own_v744 w0_2 w0_1)), iv (f7 w0_4 (own_v738 w0_2 w0_1)), iv (own_v761 w0_4 w0_2 w0_1), iv (own_v765 w0_3 w0_2 w0_1), iv w0_5] [(.int (0:Int32))])) (fun t k => ?_) ?_
        · show Steps p.tables e below (T762.setTop (mkF m 152 #[iv p0, iv p1, iv p2, iv p3, iv p4, iv (1:Int32), iv w0_1, iv w0_2, iv w0_3, iv w0_4, rv b619, iv (f4 (0:Int32) (own_v742 w0_2 w0_1)), iv (f5 (own_v736 w0_2 w0_1)), iv (f6 (0:Int32) (own_v744 w0_2 w0_1)), iv (f7 w0_4 (own_v738 w0_2 w0_1)), iv (own_v761 w0_4 w0_2 w0_1), iv (own_v765 w0_3 w0_2 w0_1), iv w0_5] [(.int (f6 (0:Int32) (own_v744 w0_2 w0_1)))])) _
          refine XS.ifNo X762.here hx rfl (hb hby at_152) rfl (XT.i0_eq_f hs152_4) ?_
          show Steps p.tables e below (T762.setTop (mkF m 155 #[iv p0, iv p1, iv p2, iv p3, iv p4, iv (1:Int32), iv w0_1, iv w0_2, iv w0_3, iv w0_4, rv b619, iv (f4 (0:Int32) (own_v742 w0_2 w0_1)), iv (f5 (own_v736 w0_2 w0_1)), iv (f6 (0:Int32) (own_v744 w0_2 w0_1)), iv (f7 w0_4 (own_v738 w0_2 w0_1)), iv (own_v761 w0_4 w0_2 w0_1), iv (own_v765 w0_3 w0_2 w0_1), iv w0_5] [])) _
          refine XS.iconst X762.here hx rfl (hb hby at_155) ?_
          exact k
        exact own_end X762 (BodyLoose.notSynchronized Bd) (fun h => by rw [Bd.returns] at h; cases h) (v := some (.int (0:Int32))) (fun fs hr => retN X762 hx (t := .boolean) Bd.returns (by simp) (hb hby at_156) hr) (by show Q0n1 Z p0 p1 p2 p3 p4 h0 n0 _ T762.heap _; rw [eh762]; exact ⟨(by subst hw0_5; exact absurd ⟨hs137_2, hs145_3, hs152_4⟩ (own_fin777 w0_1 (own_mem1 _ _ hw0_1) w0_2 (own_mem1 _ _ hw0_2))), N762⟩) (by decide) (by decide)
    · refine own_pre (A := T762.setTop (mkF m 149 #[iv p0, iv p1, iv p2, iv p3, iv p4, iv (1:Int32), iv w0_1, iv w0_2, iv w0_3, iv w0_4, rv b619, iv (f4 (0:Int32) (own_v742 w0_2 w0_1)), iv (f5 (own_v736 w0_2 w0_1)), iv (f6 (0:Int32) (own_v744 w0_2 w0_1)), iv (f7 w0_4 (own_v738 w0_2 w0_1)), iv (own_v761 w0_4 w0_2 w0_1), iv (own_v765 w0_3 w0_2 w0_1), iv w0_5] [(.int (0:Int32))])) (fun t k => ?_) ?_
      · show Steps p.tables e below (T762.setTop (mkF m 145 #[iv p0, iv p1, iv p2, iv p3, iv p4, iv (1:Int32), iv w0_1, iv w0_2, iv w0_3, iv w0_4, rv b619, iv (f4 (0:Int32) (own_v742 w0_2 w0_1)), iv (f5 (own_v736 w0_2 w0_1)), iv (f6 (0:Int32) (own_v744 w0_2 w0_1)), iv (f7 w0_4 (own_v738 w0_2 w0_1)), iv (own_v761 w0_4 w0_2 w0_1), iv (own_v765 w0_3 w0_2 w0_1), iv w0_5] [(.int (1:Int32)), (.int (f5 (own_v736 w0_2 w0_1)))])) _
        refine XS.icmpNo X762.here hx rfl (hb hby at_145) rfl (XT.ii_eq_f hs145_3) ?_
        show Steps p.tables e below (T762.setTop (mkF m 148 #[iv p0, iv p1, iv p2, iv p3, iv p4, iv (1:Int32), iv w0_1, iv w0_2, iv w0_3, iv w0_4, rv b619, iv (f4 (0:Int32) (own_v742 w0_2 w0_1)), iv (f5 (own_v736 w0_2 w0_1)), iv (f6 (0:Int32) (own_v744 w0_2 w0_1)), iv (f7 w0_4 (own_v738 w0_2 w0_1)), iv (own_v761 w0_4 w0_2 w0_1), iv (own_v765 w0_3 w0_2 w0_1), iv w0_5] [])) _
        refine XS.iconst X762.here hx rfl (hb hby at_148) ?_
        exact k
      exact own_end X762 (BodyLoose.notSynchronized Bd) (fun h => by rw [Bd.returns] at h; cases h) (v := some (.int (0:Int32))) (fun fs hr => retN X762 hx (t := .boolean) Bd.returns (by simp) (hb hby at_149) hr) (by show Q0n1 Z p0 p1 p2 p3 p4 h0 n0 _ T762.heap _; rw [eh762]; exact ⟨(by subst hw0_5; exact absurd ⟨hs137_2, hs145_3⟩ (own_fin778 w0_1 (own_mem1 _ _ hw0_1) w0_2 (own_mem1 _ _ hw0_2))), N762⟩) (by decide) (by decide)
  · refine own_pre (A := T762.setTop (mkF m 141 #[iv p0, iv p1, iv p2, iv p3, iv p4, iv (1:Int32), iv w0_1, iv w0_2, iv w0_3, iv w0_4, rv b619, iv (f4 (0:Int32) (own_v742 w0_2 w0_1)), iv (f5 (own_v736 w0_2 w0_1)), iv (f6 (0:Int32) (own_v744 w0_2 w0_1)), iv (f7 w0_4 (own_v738 w0_2 w0_1)), iv (own_v761 w0_4 w0_2 w0_1), iv (own_v765 w0_3 w0_2 w0_1), iv w0_5] [(.int (0:Int32))])) (fun t k => ?_) ?_
    · show Steps p.tables e below (T762.setTop (mkF m 137 #[iv p0, iv p1, iv p2, iv p3, iv p4, iv (1:Int32), iv w0_1, iv w0_2, iv w0_3, iv w0_4, rv b619, iv (f4 (0:Int32) (own_v742 w0_2 w0_1)), iv (f5 (own_v736 w0_2 w0_1)), iv (f6 (0:Int32) (own_v744 w0_2 w0_1)), iv (f7 w0_4 (own_v738 w0_2 w0_1)), iv (own_v761 w0_4 w0_2 w0_1), iv (own_v765 w0_3 w0_2 w0_1), iv w0_5] [(.int w0_5), (.int (f4 (0:Int32) (own_v742 w0_2 w0_1)))])) _
      refine XS.icmpNo X762.here hx rfl (hb hby at_137) rfl (XT.ii_eq_f hs137_2) ?_
      show Steps p.tables e below (T762.setTop (mkF m 140 #[iv p0, iv p1, iv p2, iv p3, iv p4, iv (1:Int32), iv w0_1, iv w0_2, iv w0_3, iv w0_4, rv b619, iv (f4 (0:Int32) (own_v742 w0_2 w0_1)), iv (f5 (own_v736 w0_2 w0_1)), iv (f6 (0:Int32) (own_v744 w0_2 w0_1)), iv (f7 w0_4 (own_v738 w0_2 w0_1)), iv (own_v761 w0_4 w0_2 w0_1), iv (own_v765 w0_3 w0_2 w0_1), iv w0_5] [])) _
      refine XS.iconst X762.here hx rfl (hb hby at_140) ?_
      exact k
    exact own_end X762 (BodyLoose.notSynchronized Bd) (fun h => by rw [Bd.returns] at h; cases h) (v := some (.int (0:Int32))) (fun fs hr => retN X762 hx (t := .boolean) Bd.returns (by simp) (hb hby at_141) hr) (by show Q0n1 Z p0 p1 p2 p3 p4 h0 n0 _ T762.heap _; rw [eh762]; exact ⟨(by subst hw0_5; exact absurd hs137_2 (own_fin779 w0_1 (own_mem1 _ _ hw0_1) w0_2 (own_mem1 _ _ hw0_2))), N762⟩) (by decide) (by decide)
theorem own_mem2 (p w : Int32) (hw : w = ((p &&& (2147483647:Int32)) % (2:Int32))) : w ∈ ([(0:Int32), (1:Int32)] : List Int32) := by
  have e1 : (p &&& (2147483647:Int32)).toInt = p.toInt % 2 ^ 31 := Jvm.Kit.i32_mask p _ (k := 31) (by decide) (by decide)
  have l : (2:Int32).toInt = 2 := by decide
  have e : w.toInt = (p.toInt % 2 ^ 31) % 2 := by rw [hw, Int32.toInt_mod, e1, l, Int.tmod_eq_emod_of_nonneg (by omega)]
  have l0 : (0:Int32).toInt = 0 := by decide
  have l1 : (1:Int32).toInt = 1 := by decide
  simp only [List.mem_cons, List.not_mem_nil, or_false, ← Int32.toInt_inj, e, l0, l1]; omega
theorem own_fin851 : ∀ w0_1 ∈ [(0:Int32), (1:Int32)], (((own_In w0_1 [(0:Int32), (0:Int32)].length) ∧ (own_In (own_at [(0:Int32), (0:Int32)] w0_1) [(0:Int32), (0:Int32)].length) ∧ (own_In w0_1 [(0:Int32), (1:Int32)].length) ∧ (¬ ((own_at [(0:Int32), (1:Int32)] w0_1) < (own_at [(0:Int32), (0:Int32)] (own_at [(0:Int32), (0:Int32)] w0_1))) → own_In (own_at [(0:Int32), (0:Int32)] w0_1) [(0:Int32), (0:Int32)].length) ∧ (¬ ((own_at [(0:Int32), (1:Int32)] w0_1) < (own_at [(0:Int32), (0:Int32)] (own_at [(0:Int32), (0:Int32)] w0_1))) → own_In (own_at [(0:Int32), (0:Int32)] (own_at [(0:Int32), (0:Int32)] w0_1)) [(0:Int32), (1:Int32)].length) ∧ (¬ ((own_at [(0:Int32), (1:Int32)] w0_1) < (own_at [(0:Int32), (0:Int32)] (own_at [(0:Int32), (0:Int32)] w0_1))) → own_In (own_at [(0:Int32), (1:Int32)] w0_1) [(0:Int32), (1:Int32)].length) ∧ (¬ ((own_at [(0:Int32), (1:Int32)] w0_1) < (own_at [(0:Int32), (0:Int32)] (own_at [(0:Int32), (0:Int32)] w0_1))) → own_In (own_at [(0:Int32), (1:Int32)] (own_at [(0:Int32), (0:Int32)] (own_at [(0:Int32), (0:Int32)] w0_1))) [(0:Int32), (1:Int32)].length) ∧ (¬ ((own_at [(0:Int32), (1:Int32)] w0_1) < (own_at [(0:Int32), (0:Int32)] (own_at [(0:Int32), (0:Int32)] w0_1))) → (own_at [(0:Int32), (0:Int32)] (own_at [(0:Int32), (0:Int32)] w0_1)) = (own_at [(0:Int32), (0:Int32)] (own_at [(0:Int32), (0:Int32)] w0_1)) → own_In (0:Int32) [(0:Int32), (0:Int32)].length))) := by decide +kernel
def own_v867 (w0_1 : Int32) : Int32 := (g3_tc w0_1 [(0:Int32), (1:Int32)] [(0:Int32), (1:Int32)] [(0:Int32), (0:Int32)] [(0:Int32), (0:Int32)] [(0:Int32), (0:Int32)] [(0:Int32), (0:Int32)] (1:Int32) (0:Int32))
def own_v869 (w0_1 : Int32) : List Int32 := (g3_el w0_1 [(0:Int32), (1:Int32)] [(0:Int32), (1:Int32)] [(0:Int32), (0:Int32)] [(0:Int32), (0:Int32)] [(0:Int32), (0:Int32)] [(0:Int32), (0:Int32)] (1:Int32) (0:Int32))
def own_v871 (w0_1 : Int32) : List Int32 := (g3_po w0_1 [(0:Int32), (1:Int32)] [(0:Int32), (1:Int32)] [(0:Int32), (0:Int32)] [(0:Int32), (0:Int32)] [(0:Int32), (0:Int32)] [(0:Int32), (0:Int32)] (1:Int32) (0:Int32))
def own_v873 (w0_1 : Int32) : List Int32 := (g3_bm w0_1 [(0:Int32), (1:Int32)] [(0:Int32), (1:Int32)] [(0:Int32), (0:Int32)] [(0:Int32), (0:Int32)] [(0:Int32), (0:Int32)] [(0:Int32), (0:Int32)] (1:Int32) (0:Int32))
def own_v875 (w0_1 : Int32) : List Int32 := (g3_tb w0_1 [(0:Int32), (1:Int32)] [(0:Int32), (1:Int32)] [(0:Int32), (0:Int32)] [(0:Int32), (0:Int32)] [(0:Int32), (0:Int32)] [(0:Int32), (0:Int32)] (1:Int32) (0:Int32))
theorem own_fin881 : ∀ w0_1 ∈ [(0:Int32), (1:Int32)], ∀ w0_2 ∈ [(0:Int32), (1:Int32)], (((own_In w0_2 [(0:Int32), (0:Int32)].length) ∧ (own_In (own_at [(0:Int32), (0:Int32)] w0_2) (own_v873 w0_1).length) ∧ (own_In w0_2 (own_v871 w0_1).length) ∧ (¬ ((own_at (own_v871 w0_1) w0_2) < (own_at (own_v873 w0_1) (own_at [(0:Int32), (0:Int32)] w0_2))) → own_In (own_at [(0:Int32), (0:Int32)] w0_2) [(0:Int32), (0:Int32)].length) ∧ (¬ ((own_at (own_v871 w0_1) w0_2) < (own_at (own_v873 w0_1) (own_at [(0:Int32), (0:Int32)] w0_2))) → own_In (own_at (own_v873 w0_1) (own_at [(0:Int32), (0:Int32)] w0_2)) (own_v869 w0_1).length) ∧ (¬ ((own_at (own_v871 w0_1) w0_2) < (own_at (own_v873 w0_1) (own_at [(0:Int32), (0:Int32)] w0_2))) → own_In (own_at (own_v871 w0_1) w0_2) (own_v869 w0_1).length) ∧ (¬ ((own_at (own_v871 w0_1) w0_2) < (own_at (own_v873 w0_1) (own_at [(0:Int32), (0:Int32)] w0_2))) → own_In (own_at (own_v869 w0_1) (own_at (own_v873 w0_1) (own_at [(0:Int32), (0:Int32)] w0_2))) (own_v871 w0_1).length) ∧ (¬ ((own_at (own_v871 w0_1) w0_2) < (own_at (own_v873 w0_1) (own_at [(0:Int32), (0:Int32)] w0_2))) → (own_at (own_v873 w0_1) (own_at [(0:Int32), (0:Int32)] w0_2)) = (own_at [(0:Int32), (0:Int32)] (own_at [(0:Int32), (0:Int32)] w0_2)) → own_In (own_v867 w0_1) (own_v875 w0_1).length))) := by decide +kernel
def own_v897 (w0_2 : Int32) (w0_1 : Int32) : Int32 := (g3_tc w0_2 (own_v869 w0_1) (own_v871 w0_1) [(0:Int32), (0:Int32)] [(0:Int32), (0:Int32)] (own_v873 w0_1) (own_v875 w0_1) (1:Int32) (own_v867 w0_1))
def own_v899 (w0_2 : Int32) (w0_1 : Int32) : List Int32 := (g3_el w0_2 (own_v869 w0_1) (own_v871 w0_1) [(0:Int32), (0:Int32)] [(0:Int32), (0:Int32)] (own_v873 w0_1) (own_v875 w0_1) (1:Int32) (own_v867 w0_1))
def own_v901 (w0_2 : Int32) (w0_1 : Int32) : List Int32 := (g3_po w0_2 (own_v869 w0_1) (own_v871 w0_1) [(0:Int32), (0:Int32)] [(0:Int32), (0:Int32)] (own_v873 w0_1) (own_v875 w0_1) (1:Int32) (own_v867 w0_1))
def own_v903 (w0_2 : Int32) (w0_1 : Int32) : List Int32 := (g3_bm w0_2 (own_v869 w0_1) (own_v871 w0_1) [(0:Int32), (0:Int32)] [(0:Int32), (0:Int32)] (own_v873 w0_1) (own_v875 w0_1) (1:Int32) (own_v867 w0_1))
def own_v905 (w0_2 : Int32) (w0_1 : Int32) : List Int32 := (g3_tb w0_2 (own_v869 w0_1) (own_v871 w0_1) [(0:Int32), (0:Int32)] [(0:Int32), (0:Int32)] (own_v873 w0_1) (own_v875 w0_1) (1:Int32) (own_v867 w0_1))
theorem own_fin908 : ∀ w0_1 ∈ [(0:Int32), (1:Int32)], ∀ w0_2 ∈ [(0:Int32), (1:Int32)], ((own_In (0:Int32) (own_v903 w0_2 w0_1).length)) := by decide +kernel
theorem own_fin913 : ∀ w0_1 ∈ [(0:Int32), (1:Int32)], ∀ w0_2 ∈ [(0:Int32), (1:Int32)], ((own_In (0:Int32) (own_v905 w0_2 w0_1).length)) := by decide +kernel
theorem own_fin916 : ∀ w0_1 ∈ [(0:Int32), (1:Int32)], ∀ w0_2 ∈ [(0:Int32), (1:Int32)], ∀ w0_4 ∈ [(0:Int32), (1:Int32)], ((own_In w0_4 (own_v899 w0_2 w0_1).length)) := by decide +kernel
theorem own_fin920 : ∀ w0_1 ∈ [(0:Int32), (1:Int32)], ∀ w0_2 ∈ [(0:Int32), (1:Int32)], ∀ w0_4 ∈ [(0:Int32), (1:Int32)], (((own_In (f7 w0_4 (own_v899 w0_2 w0_1)) (own_v901 w0_2 w0_1).length) ∧ (own_In (f7 w0_4 (own_v899 w0_2 w0_1)) [(0:Int32), (0:Int32)].length) ∧ (own_In (own_at [(0:Int32), (0:Int32)] (f7 w0_4 (own_v899 w0_2 w0_1))) (own_v903 w0_2 w0_1).length))) := by decide +kernel
def own_v922 (w0_4 : Int32) (w0_2 : Int32) (w0_1 : Int32) : Int32 := (f8 (f7 w0_4 (own_v899 w0_2 w0_1)) (own_v901 w0_2 w0_1) [(0:Int32), (0:Int32)] (own_v903 w0_2 w0_1))
theorem own_fin924 : ∀ w0_1 ∈ [(0:Int32), (1:Int32)], ∀ w0_2 ∈ [(0:Int32), (1:Int32)], ∀ w0_3 ∈ [(0:Int32), (1:Int32)], (((own_In w0_3 (own_v901 w0_2 w0_1).length) ∧ (own_In w0_3 [(0:Int32), (0:Int32)].length) ∧ (own_In (own_at [(0:Int32), (0:Int32)] w0_3) (own_v903 w0_2 w0_1).length))) := by decide +kernel
def own_v926 (w0_3 : Int32) (w0_2 : Int32) (w0_1 : Int32) : Int32 := (f8 w0_3 (own_v901 w0_2 w0_1) [(0:Int32), (0:Int32)] (own_v903 w0_2 w0_1))
theorem own_fin927 : ∀ w0_1 ∈ [(0:Int32), (1:Int32)], ∀ w0_2 ∈ [(0:Int32), (1:Int32)], ∀ w0_4 ∈ [(0:Int32), (1:Int32)], (¬ (((f4 (0:Int32) (own_v903 w0_2 w0_1)) = (own_v766 w0_1 w0_2)) ∧ ((f5 (own_v897 w0_2 w0_1)) = (1:Int32)) ∧ ((f6 (0:Int32) (own_v905 w0_2 w0_1)) = (0:Int32)) ∧ ((f7 w0_4 (own_v899 w0_2 w0_1)) < (0:Int32)))) := by decide +kernel
theorem own_fin928 : ∀ w0_1 ∈ [(0:Int32), (1:Int32)], ∀ w0_2 ∈ [(0:Int32), (1:Int32)], ∀ w0_3 ∈ [(0:Int32), (1:Int32)], ∀ w0_4 ∈ [(0:Int32), (1:Int32)], (¬ (((f4 (0:Int32) (own_v903 w0_2 w0_1)) = (own_v766 w0_1 w0_2)) ∧ ((f5 (own_v897 w0_2 w0_1)) = (1:Int32)) ∧ ((f6 (0:Int32) (own_v905 w0_2 w0_1)) = (0:Int32)) ∧ (¬ ((f7 w0_4 (own_v899 w0_2 w0_1)) < (0:Int32))) ∧ ((f7 w0_4 (own_v899 w0_2 w0_1)) < (2:Int32)) ∧ ((own_v922 w0_4 w0_2 w0_1) = (own_v768 w0_4 w0_1 w0_2)) ∧ (¬ ((own_v926 w0_3 w0_2 w0_1) = (own_v769 w0_3 w0_1 w0_2))))) := by decide +kernel
theorem own_fin929 : ∀ w0_1 ∈ [(0:Int32), (1:Int32)], ∀ w0_2 ∈ [(0:Int32), (1:Int32)], ∀ w0_4 ∈ [(0:Int32), (1:Int32)], (¬ (((f4 (0:Int32) (own_v903 w0_2 w0_1)) = (own_v766 w0_1 w0_2)) ∧ ((f5 (own_v897 w0_2 w0_1)) = (1:Int32)) ∧ ((f6 (0:Int32) (own_v905 w0_2 w0_1)) = (0:Int32)) ∧ (¬ ((f7 w0_4 (own_v899 w0_2 w0_1)) < (0:Int32))) ∧ ((f7 w0_4 (own_v899 w0_2 w0_1)) < (2:Int32)) ∧ (¬ ((own_v922 w0_4 w0_2 w0_1) = (own_v768 w0_4 w0_1 w0_2))))) := by decide +kernel
theorem own_fin930 : ∀ w0_1 ∈ [(0:Int32), (1:Int32)], ∀ w0_2 ∈ [(0:Int32), (1:Int32)], ∀ w0_4 ∈ [(0:Int32), (1:Int32)], (¬ (((f4 (0:Int32) (own_v903 w0_2 w0_1)) = (own_v766 w0_1 w0_2)) ∧ ((f5 (own_v897 w0_2 w0_1)) = (1:Int32)) ∧ ((f6 (0:Int32) (own_v905 w0_2 w0_1)) = (0:Int32)) ∧ (¬ ((f7 w0_4 (own_v899 w0_2 w0_1)) < (0:Int32))) ∧ ((f7 w0_4 (own_v899 w0_2 w0_1)) < (2:Int32)) ∧ (¬ (w0_4 < (own_v766 w0_1 w0_2))) ∧ ((f7 w0_4 (own_v899 w0_2 w0_1)) = w0_1))) := by decide +kernel
theorem own_fin931 : ∀ w0_1 ∈ [(0:Int32), (1:Int32)], ∀ w0_2 ∈ [(0:Int32), (1:Int32)], ∀ w0_4 ∈ [(0:Int32), (1:Int32)], (¬ (((f4 (0:Int32) (own_v903 w0_2 w0_1)) = (own_v766 w0_1 w0_2)) ∧ ((f5 (own_v897 w0_2 w0_1)) = (1:Int32)) ∧ ((f6 (0:Int32) (own_v905 w0_2 w0_1)) = (0:Int32)) ∧ (¬ ((f7 w0_4 (own_v899 w0_2 w0_1)) < (0:Int32))) ∧ ((f7 w0_4 (own_v899 w0_2 w0_1)) < (2:Int32)) ∧ (¬ (w0_4 < (own_v766 w0_1 w0_2))) ∧ (¬ ((f7 w0_4 (own_v899 w0_2 w0_1)) = w0_1)) ∧ ((f7 w0_4 (own_v899 w0_2 w0_1)) = w0_2))) := by decide +kernel
theorem own_fin932 : ∀ w0_1 ∈ [(0:Int32), (1:Int32)], ∀ w0_2 ∈ [(0:Int32), (1:Int32)], ∀ w0_4 ∈ [(0:Int32), (1:Int32)], (¬ (((f4 (0:Int32) (own_v903 w0_2 w0_1)) = (own_v766 w0_1 w0_2)) ∧ ((f5 (own_v897 w0_2 w0_1)) = (1:Int32)) ∧ ((f6 (0:Int32) (own_v905 w0_2 w0_1)) = (0:Int32)) ∧ (¬ ((f7 w0_4 (own_v899 w0_2 w0_1)) < (0:Int32))) ∧ ((f7 w0_4 (own_v899 w0_2 w0_1)) < (2:Int32)) ∧ (w0_4 = (1:Int32)) ∧ (¬ (w0_1 = w0_2)) ∧ (¬ ((f7 w0_4 (own_v899 w0_2 w0_1)) = w0_2)))) := by decide +kernel
theorem own_fin933 : ∀ w0_1 ∈ [(0:Int32), (1:Int32)], ∀ w0_2 ∈ [(0:Int32), (1:Int32)], ∀ w0_4 ∈ [(0:Int32), (1:Int32)], (¬ (((f4 (0:Int32) (own_v903 w0_2 w0_1)) = (own_v766 w0_1 w0_2)) ∧ ((f5 (own_v897 w0_2 w0_1)) = (1:Int32)) ∧ ((f6 (0:Int32) (own_v905 w0_2 w0_1)) = (0:Int32)) ∧ (¬ ((f7 w0_4 (own_v899 w0_2 w0_1)) < (0:Int32))) ∧ ((f7 w0_4 (own_v899 w0_2 w0_1)) < (2:Int32)) ∧ (w0_4 = (0:Int32)) ∧ (¬ ((f7 w0_4 (own_v899 w0_2 w0_1)) = w0_1)))) := by decide +kernel
theorem own_fin934 : ∀ w0_1 ∈ [(0:Int32), (1:Int32)], ∀ w0_2 ∈ [(0:Int32), (1:Int32)], ∀ w0_4 ∈ [(0:Int32), (1:Int32)], (¬ (((f4 (0:Int32) (own_v903 w0_2 w0_1)) = (own_v766 w0_1 w0_2)) ∧ ((f5 (own_v897 w0_2 w0_1)) = (1:Int32)) ∧ ((f6 (0:Int32) (own_v905 w0_2 w0_1)) = (0:Int32)) ∧ (¬ ((f7 w0_4 (own_v899 w0_2 w0_1)) < (0:Int32))) ∧ (¬ ((f7 w0_4 (own_v899 w0_2 w0_1)) < (2:Int32))))) := by decide +kernel
theorem own_fin935 : ∀ w0_1 ∈ [(0:Int32), (1:Int32)], ∀ w0_2 ∈ [(0:Int32), (1:Int32)], (¬ (((f4 (0:Int32) (own_v903 w0_2 w0_1)) = (own_v766 w0_1 w0_2)) ∧ ((f5 (own_v897 w0_2 w0_1)) = (1:Int32)) ∧ (¬ ((f6 (0:Int32) (own_v905 w0_2 w0_1)) = (0:Int32))))) := by decide +kernel
theorem own_fin936 : ∀ w0_1 ∈ [(0:Int32), (1:Int32)], ∀ w0_2 ∈ [(0:Int32), (1:Int32)], (¬ (((f4 (0:Int32) (own_v903 w0_2 w0_1)) = (own_v766 w0_1 w0_2)) ∧ (¬ ((f5 (own_v897 w0_2 w0_1)) = (1:Int32))))) := by decide +kernel
theorem own_fin937 : ∀ w0_1 ∈ [(0:Int32), (1:Int32)], ∀ w0_2 ∈ [(0:Int32), (1:Int32)], (¬ ((¬ ((f4 (0:Int32) (own_v903 w0_2 w0_1)) = (own_v766 w0_1 w0_2))))) := by decide +kernel
theorem ef0n2 (m : MethodId) (p0 : Int32) (p1 : Int32) (p2 : Int32) (p3 : Int32) (p4 : Int32) : entryFrame m #[(.int p0), (.int p1), (.int p2), (.int p3), (.int p4)] maxLocals = mkF m 0 #[iv p0, iv p1, iv p2, iv p3, iv p4, .unset, .unset, .unset, .unset, .unset, .unset, .unset, .unset, .unset, .unset, .unset, .unset, .unset] [] := by first | (simp [entryFrame, mkF, argsToLocals, Value.category, maxLocals]; done) | rfl
def Q0n2 (Z : State) (p0 : Int32) (p1 : Int32) (p2 : Int32) (p3 : Int32) (p4 : Int32)  (h0 : Heap) (n0 : Nat) (v : Option Value) (h : Heap) (L : List Loc) : Prop := v = some (.int (1:Int32)) ∧ Fr n0 L
set_option maxRecDepth 65536 in
set_option maxHeartbeats 40000000 in
theorem rm0n2 (l : Launch) (Z : State) (aZ : Array Value) (hw : ∀ d ∈ tables_1, d.before aZ Z = true) (ws : List Jvm.Cond) (p0 : Int32) (p1 : Int32) (p2 : Int32) (p3 : Int32) (p4 : Int32)  (h0 : Heap) (n0 : Nat) (Z0 : n0 ≤ h0.size) (hlen : ((1:Int32) + (p0 &&& (3:Int32))) = (2:Int32)) :
    MetFree l x (head1 (Jvm.Cond.code x code maxLocals ret :: ws) room_1) (fun a U => a = #[(.int p0), (.int p1), (.int p2), (.int p3), (.int p4)] ∧ Z.Warmed39 U.vm ∧ U.heap = h0) (fun _ _ _ _ _ => True) (fun _ U o U' => ∃ v L, o = .returned v ∧ Q0n2 Z p0 p1 p2 p3 p4 h0 n0 v U'.heap L ∧ FrameEnd U o U' L 8 64) := by
  refine MetFree.of_bodySF (plainFor_of_name own_pn1) hisR ?_
  intro p e s m args below meth c s₁ Bd hml0 hP hK
  obtain ⟨rfl, hZ, hh⟩ := hP
  have hx := Bd.exec
  have hby := Bd.bytes
  have hml : c.maxLocals = 18 := hml0
  have hown : s.vm.findClass "com/example/spare_calculus/sparecalculus/bisim/PartitionMarkPinLaw" = some m.cls := findClass_of_methodNamed Bd.named
  have hnm := (name_of_methodNamed Bd.named Bd.method).1
  have X0 : Stand p l e room_1 s m #[(.int p0), (.int p1), (.int p2), (.int p3), (.int p4)] below meth c s₁ [] 0 0 := Stand.of_body Bd
  have e0 : s₁.heap = h0 := by rw [← hh, Bd.state]; rfl
  have N0 := Fr.nil n0
  show own_Goes p e below s (Q0n2 Z p0 p1 p2 p3 p4 h0 n0) 8 64 _
  refine own_pre (fun t k => castTop (ef0n2 m p0 p1 p2 p3 p4) k) ?_
  obtain ⟨w0_1, hw0_1⟩ : ∃ z : Int32, z = ((p1 &&& (2147483647:Int32)) % (2:Int32)) := ⟨_, rfl⟩
  obtain ⟨w0_2, hw0_2⟩ : ∃ z : Int32, z = ((p2 &&& (2147483647:Int32)) % (2:Int32)) := ⟨_, rfl⟩
  obtain ⟨w0_3, hw0_3⟩ : ∃ z : Int32, z = ((p3 &&& (2147483647:Int32)) % (2:Int32)) := ⟨_, rfl⟩
  obtain ⟨w0_4, hw0_4⟩ : ∃ z : Int32, z = ((p4 &&& (2147483647:Int32)) % (2:Int32)) := ⟨_, rfl⟩
  refine own_pre (A := s₁.setTop (mkF m 44 #[iv p0, iv p1, iv p2, iv p3, iv p4, iv (2:Int32), iv w0_1, iv w0_2, iv w0_3, iv w0_4, .unset, .unset, .unset, .unset, .unset, .unset, .unset, .unset] [])) (fun t k => ?_) ?_
  · show Steps p.tables e below (s₁.setTop (mkF m 0 #[iv p0, iv p1, iv p2, iv p3, iv p4, .unset, .unset, .unset, .unset, .unset, .unset, .unset, .unset, .unset, .unset, .unset, .unset, .unset] [])) _
    refine XS.iconst X0.here hx rfl (hb hby at_0) ?_
    show Steps p.tables e below (s₁.setTop (mkF m 1 #[iv p0, iv p1, iv p2, iv p3, iv p4, .unset, .unset, .unset, .unset, .unset, .unset, .unset, .unset, .unset, .unset, .unset, .unset, .unset] [(.int (1:Int32))])) _
    refine XS.iloadN X0.here hx rfl (hb hby at_1) rfl ?_
    show Steps p.tables e below (s₁.setTop (mkF m 2 #[iv p0, iv p1, iv p2, iv p3, iv p4, .unset, .unset, .unset, .unset, .unset, .unset, .unset, .unset, .unset, .unset, .unset, .unset, .unset] [(.int p0), (.int (1:Int32))])) _
    refine XS.iconst X0.here hx rfl (hb hby at_2) ?_
    show Steps p.tables e below (s₁.setTop (mkF m 3 #[iv p0, iv p1, iv p2, iv p3, iv p4, .unset, .unset, .unset, .unset, .unset, .unset, .unset, .unset, .unset, .unset, .unset, .unset, .unset] [(.int (3:Int32)), (.int p0), (.int (1:Int32))])) _
    refine XS.iand X0.here hx rfl (hb hby at_3) rfl ?_
    show Steps p.tables e below (s₁.setTop (mkF m 4 #[iv p0, iv p1, iv p2, iv p3, iv p4, .unset, .unset, .unset, .unset, .unset, .unset, .unset, .unset, .unset, .unset, .unset, .unset, .unset] [(.int (p0 &&& (3:Int32))), (.int (1:Int32))])) _
    refine XS.iadd X0.here hx rfl (hb hby at_4) rfl ?_
    show Steps p.tables e below (s₁.setTop (mkF m 5 #[iv p0, iv p1, iv p2, iv p3, iv p4, .unset, .unset, .unset, .unset, .unset, .unset, .unset, .unset, .unset, .unset, .unset, .unset, .unset] [(.int ((1:Int32) + (p0 &&& (3:Int32))))])) _
    refine XS.istore X0.here hx rfl (hb hby at_5) rfl (l' := #[iv p0, iv p1, iv p2, iv p3, iv p4, iv (2:Int32), .unset, .unset, .unset, .unset, .unset, .unset, .unset, .unset, .unset, .unset, .unset, .unset]) (by show storeLocals _ _ (Value.int ((1:Int32) + (p0 &&& (3:Int32)))) = _; rw [hlen]; rfl) ?_
    show Steps p.tables e below (s₁.setTop (mkF m 7 #[iv p0, iv p1, iv p2, iv p3, iv p4, iv (2:Int32), .unset, .unset, .unset, .unset, .unset, .unset, .unset, .unset, .unset, .unset, .unset, .unset] [])) _
    refine XS.iloadN X0.here hx rfl (hb hby at_7) rfl ?_
    show Steps p.tables e below (s₁.setTop (mkF m 8 #[iv p0, iv p1, iv p2, iv p3, iv p4, iv (2:Int32), .unset, .unset, .unset, .unset, .unset, .unset, .unset, .unset, .unset, .unset, .unset, .unset] [(.int p1)])) _
    refine Jvm.Stand.ldcI X0 hx hown (mvT hZ (own_h hw 0 rfl)) rfl (hb hby at_8) ?_
    show Steps p.tables e below (s₁.setTop (mkF m 10 #[iv p0, iv p1, iv p2, iv p3, iv p4, iv (2:Int32), .unset, .unset, .unset, .unset, .unset, .unset, .unset, .unset, .unset, .unset, .unset, .unset] [(.int (2147483647:Int32)), (.int p1)])) _
    refine XS.iand X0.here hx rfl (hb hby at_10) rfl ?_
    show Steps p.tables e below (s₁.setTop (mkF m 11 #[iv p0, iv p1, iv p2, iv p3, iv p4, iv (2:Int32), .unset, .unset, .unset, .unset, .unset, .unset, .unset, .unset, .unset, .unset, .unset, .unset] [(.int (p1 &&& (2147483647:Int32)))])) _
    refine XS.iload X0.here hx rfl (hb hby at_11) rfl ?_
    show Steps p.tables e below (s₁.setTop (mkF m 13 #[iv p0, iv p1, iv p2, iv p3, iv p4, iv (2:Int32), .unset, .unset, .unset, .unset, .unset, .unset, .unset, .unset, .unset, .unset, .unset, .unset] [(.int (2:Int32)), (.int (p1 &&& (2147483647:Int32)))])) _
    refine iremM X0 hx rfl (hb hby at_13) rfl (by decide) ?_
    show Steps p.tables e below (s₁.setTop (mkF m 14 #[iv p0, iv p1, iv p2, iv p3, iv p4, iv (2:Int32), .unset, .unset, .unset, .unset, .unset, .unset, .unset, .unset, .unset, .unset, .unset, .unset] [(.int ((p1 &&& (2147483647:Int32)) % (2:Int32)))])) _
    refine XS.istore X0.here hx rfl (hb hby at_14) rfl (l' := #[iv p0, iv p1, iv p2, iv p3, iv p4, iv (2:Int32), iv w0_1, .unset, .unset, .unset, .unset, .unset, .unset, .unset, .unset, .unset, .unset, .unset]) (by rw [hw0_1]; rfl) ?_
    show Steps p.tables e below (s₁.setTop (mkF m 16 #[iv p0, iv p1, iv p2, iv p3, iv p4, iv (2:Int32), iv w0_1, .unset, .unset, .unset, .unset, .unset, .unset, .unset, .unset, .unset, .unset, .unset] [])) _
    refine XS.iloadN X0.here hx rfl (hb hby at_16) rfl ?_
    show Steps p.tables e below (s₁.setTop (mkF m 17 #[iv p0, iv p1, iv p2, iv p3, iv p4, iv (2:Int32), iv w0_1, .unset, .unset, .unset, .unset, .unset, .unset, .unset, .unset, .unset, .unset, .unset] [(.int p2)])) _
    refine Jvm.Stand.ldcI X0 hx hown (mvT hZ (own_h hw 0 rfl)) rfl (hb hby at_17) ?_
    show Steps p.tables e below (s₁.setTop (mkF m 19 #[iv p0, iv p1, iv p2, iv p3, iv p4, iv (2:Int32), iv w0_1, .unset, .unset, .unset, .unset, .unset, .unset, .unset, .unset, .unset, .unset, .unset] [(.int (2147483647:Int32)), (.int p2)])) _
    refine XS.iand X0.here hx rfl (hb hby at_19) rfl ?_
    show Steps p.tables e below (s₁.setTop (mkF m 20 #[iv p0, iv p1, iv p2, iv p3, iv p4, iv (2:Int32), iv w0_1, .unset, .unset, .unset, .unset, .unset, .unset, .unset, .unset, .unset, .unset, .unset] [(.int (p2 &&& (2147483647:Int32)))])) _
    refine XS.iload X0.here hx rfl (hb hby at_20) rfl ?_
    show Steps p.tables e below (s₁.setTop (mkF m 22 #[iv p0, iv p1, iv p2, iv p3, iv p4, iv (2:Int32), iv w0_1, .unset, .unset, .unset, .unset, .unset, .unset, .unset, .unset, .unset, .unset, .unset] [(.int (2:Int32)), (.int (p2 &&& (2147483647:Int32)))])) _
    refine iremM X0 hx rfl (hb hby at_22) rfl (by decide) ?_
    show Steps p.tables e below (s₁.setTop (mkF m 23 #[iv p0, iv p1, iv p2, iv p3, iv p4, iv (2:Int32), iv w0_1, .unset, .unset, .unset, .unset, .unset, .unset, .unset, .unset, .unset, .unset, .unset] [(.int ((p2 &&& (2147483647:Int32)) % (2:Int32)))])) _
    refine XS.istore X0.here hx rfl (hb hby at_23) rfl (l' := #[iv p0, iv p1, iv p2, iv p3, iv p4, iv (2:Int32), iv w0_1, iv w0_2, .unset, .unset, .unset, .unset, .unset, .unset, .unset, .unset, .unset, .unset]) (by rw [hw0_2]; rfl) ?_
    show Steps p.tables e below (s₁.setTop (mkF m 25 #[iv p0, iv p1, iv p2, iv p3, iv p4, iv (2:Int32), iv w0_1, iv w0_2, .unset, .unset, .unset, .unset, .unset, .unset, .unset, .unset, .unset, .unset] [])) _
    refine XS.iloadN X0.here hx rfl (hb hby at_25) rfl ?_
    show Steps p.tables e below (s₁.setTop (mkF m 26 #[iv p0, iv p1, iv p2, iv p3, iv p4, iv (2:Int32), iv w0_1, iv w0_2, .unset, .unset, .unset, .unset, .unset, .unset, .unset, .unset, .unset, .unset] [(.int p3)])) _
    refine Jvm.Stand.ldcI X0 hx hown (mvT hZ (own_h hw 0 rfl)) rfl (hb hby at_26) ?_
    show Steps p.tables e below (s₁.setTop (mkF m 28 #[iv p0, iv p1, iv p2, iv p3, iv p4, iv (2:Int32), iv w0_1, iv w0_2, .unset, .unset, .unset, .unset, .unset, .unset, .unset, .unset, .unset, .unset] [(.int (2147483647:Int32)), (.int p3)])) _
    refine XS.iand X0.here hx rfl (hb hby at_28) rfl ?_
    show Steps p.tables e below (s₁.setTop (mkF m 29 #[iv p0, iv p1, iv p2, iv p3, iv p4, iv (2:Int32), iv w0_1, iv w0_2, .unset, .unset, .unset, .unset, .unset, .unset, .unset, .unset, .unset, .unset] [(.int (p3 &&& (2147483647:Int32)))])) _
    refine XS.iload X0.here hx rfl (hb hby at_29) rfl ?_
    show Steps p.tables e below (s₁.setTop (mkF m 31 #[iv p0, iv p1, iv p2, iv p3, iv p4, iv (2:Int32), iv w0_1, iv w0_2, .unset, .unset, .unset, .unset, .unset, .unset, .unset, .unset, .unset, .unset] [(.int (2:Int32)), (.int (p3 &&& (2147483647:Int32)))])) _
    refine iremM X0 hx rfl (hb hby at_31) rfl (by decide) ?_
    show Steps p.tables e below (s₁.setTop (mkF m 32 #[iv p0, iv p1, iv p2, iv p3, iv p4, iv (2:Int32), iv w0_1, iv w0_2, .unset, .unset, .unset, .unset, .unset, .unset, .unset, .unset, .unset, .unset] [(.int ((p3 &&& (2147483647:Int32)) % (2:Int32)))])) _
    refine XS.istore X0.here hx rfl (hb hby at_32) rfl (l' := #[iv p0, iv p1, iv p2, iv p3, iv p4, iv (2:Int32), iv w0_1, iv w0_2, iv w0_3, .unset, .unset, .unset, .unset, .unset, .unset, .unset, .unset, .unset]) (by rw [hw0_3]; rfl) ?_
    show Steps p.tables e below (s₁.setTop (mkF m 34 #[iv p0, iv p1, iv p2, iv p3, iv p4, iv (2:Int32), iv w0_1, iv w0_2, iv w0_3, .unset, .unset, .unset, .unset, .unset, .unset, .unset, .unset, .unset] [])) _
    refine XS.iload X0.here hx rfl (hb hby at_34) rfl ?_
    show Steps p.tables e below (s₁.setTop (mkF m 36 #[iv p0, iv p1, iv p2, iv p3, iv p4, iv (2:Int32), iv w0_1, iv w0_2, iv w0_3, .unset, .unset, .unset, .unset, .unset, .unset, .unset, .unset, .unset] [(.int p4)])) _
    refine Jvm.Stand.ldcI X0 hx hown (mvT hZ (own_h hw 0 rfl)) rfl (hb hby at_36) ?_
    show Steps p.tables e below (s₁.setTop (mkF m 38 #[iv p0, iv p1, iv p2, iv p3, iv p4, iv (2:Int32), iv w0_1, iv w0_2, iv w0_3, .unset, .unset, .unset, .unset, .unset, .unset, .unset, .unset, .unset] [(.int (2147483647:Int32)), (.int p4)])) _
    refine XS.iand X0.here hx rfl (hb hby at_38) rfl ?_
    show Steps p.tables e below (s₁.setTop (mkF m 39 #[iv p0, iv p1, iv p2, iv p3, iv p4, iv (2:Int32), iv w0_1, iv w0_2, iv w0_3, .unset, .unset, .unset, .unset, .unset, .unset, .unset, .unset, .unset] [(.int (p4 &&& (2147483647:Int32)))])) _
    refine XS.iload X0.here hx rfl (hb hby at_39) rfl ?_
    show Steps p.tables e below (s₁.setTop (mkF m 41 #[iv p0, iv p1, iv p2, iv p3, iv p4, iv (2:Int32), iv w0_1, iv w0_2, iv w0_3, .unset, .unset, .unset, .unset, .unset, .unset, .unset, .unset, .unset] [(.int (2:Int32)), (.int (p4 &&& (2147483647:Int32)))])) _
    refine iremM X0 hx rfl (hb hby at_41) rfl (by decide) ?_
    show Steps p.tables e below (s₁.setTop (mkF m 42 #[iv p0, iv p1, iv p2, iv p3, iv p4, iv (2:Int32), iv w0_1, iv w0_2, iv w0_3, .unset, .unset, .unset, .unset, .unset, .unset, .unset, .unset, .unset] [(.int ((p4 &&& (2147483647:Int32)) % (2:Int32)))])) _
    refine XS.istore X0.here hx rfl (hb hby at_42) rfl (l' := #[iv p0, iv p1, iv p2, iv p3, iv p4, iv (2:Int32), iv w0_1, iv w0_2, iv w0_3, iv w0_4, .unset, .unset, .unset, .unset, .unset, .unset, .unset, .unset]) (by rw [hw0_4]; rfl) ?_
    exact k
  obtain ⟨T780, h780, X780, e780, E780, A780, D780, -, st780⟩ := newO X0 hx hZ hown (own_h hw 1 rfl) (own_h hw 2 rfl) (own_h hw 3 rfl) e0 (g := (mkF m 44 #[iv p0, iv p1, iv p2, iv p3, iv p4, iv (2:Int32), iv w0_1, iv w0_2, iv w0_3, iv w0_4, .unset, .unset, .unset, .unset, .unset, .unset, .unset, .unset] [])) rfl (hb hby at_44) (by decide) (by decide)
  obtain ⟨b780, g780⟩ : ∃ z, z = h0.size := ⟨_, rfl⟩
  rw [← g780] at A780 D780 st780
  have ge_b780 : n0 ≤ b780 := Nat.le_trans Z0 (Nat.le_of_eq g780.symm)
  have Z781 : n0 ≤ h780.size := Nat.le_trans Z0 E780.1
  have F780_elements : Fld Z h780 b780 "com/example/spare_calculus/sparecalculus/bisim/Partition" "elements" "[I" .null := D780 (Or.inr (own_h hw 12 rfl)) (ty := (.array .int)) (by decide)
  have F780_positions : Fld Z h780 b780 "com/example/spare_calculus/sparecalculus/bisim/Partition" "positions" "[I" .null := D780 (Or.inr (own_h hw 14 rfl)) (ty := (.array .int)) (by decide)
  have F780_blockOf : Fld Z h780 b780 "com/example/spare_calculus/sparecalculus/bisim/Partition" "blockOf" "[I" .null := D780 (Or.inr (own_h hw 16 rfl)) (ty := (.array .int)) (by decide)
  have F780_blockStart : Fld Z h780 b780 "com/example/spare_calculus/sparecalculus/bisim/Partition" "blockStart" "[I" .null := D780 (Or.inr (own_h hw 18 rfl)) (ty := (.array .int)) (by decide)
  have F780_blockEnd : Fld Z h780 b780 "com/example/spare_calculus/sparecalculus/bisim/Partition" "blockEnd" "[I" .null := D780 (Or.inr (own_h hw 20 rfl)) (ty := (.array .int)) (by decide)
  have F780_blockMarkedEnd : Fld Z h780 b780 "com/example/spare_calculus/sparecalculus/bisim/Partition" "blockMarkedEnd" "[I" .null := D780 (Or.inr (own_h hw 22 rfl)) (ty := (.array .int)) (by decide)
  have F780_touchedBlocks : Fld Z h780 b780 "com/example/spare_calculus/sparecalculus/bisim/Partition" "touchedBlocks" "[I" .null := D780 (Or.inr (own_h hw 24 rfl)) (ty := (.array .int)) (by decide)
  have F780_blockCount : Fld Z h780 b780 "com/example/spare_calculus/sparecalculus/bisim/Partition" "blockCount" "I" (.int (0:Int32)) := D780 (Or.inl (own_h hw 26 rfl)) (ty := .int) (by decide)
  have F780_touchedBlockCount : Fld Z h780 b780 "com/example/spare_calculus/sparecalculus/bisim/Partition" "touchedBlockCount" "I" (.int (0:Int32)) := D780 (Or.inl (own_h hw 33 rfl)) (ty := .int) (by decide)
  refine own_pre st780 ?_
  refine own_pre (A := T780.setTop (mkF m 50 #[iv p0, iv p1, iv p2, iv p3, iv p4, iv (2:Int32), iv w0_1, iv w0_2, iv w0_3, iv w0_4, .unset, .unset, .unset, .unset, .unset, .unset, .unset, .unset] [(.int (2:Int32)), (.ref b780), (.ref b780)])) (fun t k => ?_) ?_
  · show Steps p.tables e below (T780.setTop (mkF m 47 #[iv p0, iv p1, iv p2, iv p3, iv p4, iv (2:Int32), iv w0_1, iv w0_2, iv w0_3, iv w0_4, .unset, .unset, .unset, .unset, .unset, .unset, .unset, .unset] [(.ref b780)])) _
    refine XS.dup X780.here hx rfl (hb hby at_47) rfl rfl ?_
    show Steps p.tables e below (T780.setTop (mkF m 48 #[iv p0, iv p1, iv p2, iv p3, iv p4, iv (2:Int32), iv w0_1, iv w0_2, iv w0_3, iv w0_4, .unset, .unset, .unset, .unset, .unset, .unset, .unset, .unset] [(.ref b780), (.ref b780)])) _
    refine XS.iload X780.here hx rfl (hb hby at_48) rfl ?_
    exact k
  obtain ⟨_, _, ⟨T782, L782, k782, n782⟩, -, X782, ⟨Lc782, hQ782, l782, y782, z782⟩, st782⟩ := X780.specialBack hx (y := (⟨"com/example/spare_calculus/sparecalculus/bisim/Partition", "<init>", "(I)V"⟩ : MethodName)) rfl hown (mvT hZ (own_h hw 4 rfl)) (mvT hZ (own_h hw 5 rfl)) (mvT hZ (own_h hw 6 rfl)) (by decide) (backOf (W := 1) (rm1n2 l Z aZ hw [] b780 h780 n0 Z781 A780 F780_elements F780_positions F780_blockOf F780_blockStart F780_blockEnd F780_blockMarkedEnd F780_touchedBlocks F780_blockCount F780_touchedBlockCount ge_b780) hZ (own_h hw 6 rfl) (own_h hw 3 rfl) (by decide) (by decide)) (g := (mkF m 50 #[iv p0, iv p1, iv p2, iv p3, iv p4, iv (2:Int32), iv w0_1, iv w0_2, iv w0_3, iv w0_4, .unset, .unset, .unset, .unset, .unset, .unset, .unset, .unset] [(.int (2:Int32)), (.ref b780), (.ref b780)])) rfl (by rw [hml]; rfl) (Steps.refl _) (a := b780) (argsL := [(.int (2:Int32))]) (rest := [(.ref b780)]) (lenOf own_pd0 rfl) rfl (by show 2 * 0 + _ ≤ _; exact Nat.le_of_eq rfl) (hb hby at_50) (fun _ _ => ⟨rfl, e780, (by decide : 1 + 7 ≤ _), (by decide : 9 + 14 ≤ _)⟩)
  dsimp only [Pt.U, Pt.locs, Pt.cells, Pt.slots] at X782 l782 y782 z782 st782 hQ782
  subst l782 y782 z782
  obtain ⟨rfl, N782q, K782, e1_783, e2_784, e3_785, e4_786, e5_787, e6_788, e7_789, sz790, sz791, sz792, sz793, sz794, sz795, sz796, ne797, ne798, ne799, ne800, ne801, ne802, ne803, ne804, ne805, ne806, ne807, ne808, ne809, ne810, ne811, ne812, ne813, ne814, ne815, ne816, ne817, G818, G819, G820, G821, G822, G823, G824, G825, G826, G827, G828, G829, G830, G831, G832, G833⟩ := hQ782
  have N782 := Fr.app N0 N782q
  have Z834 : n0 ≤ T782.heap.size := Nat.le_trans Z781 K782.1
  have ne835 : b780 ≠ e1_783 := Nat.ne_of_lt (Nat.lt_of_lt_of_le A780.lt sz790)
  have ge836 : n0 ≤ e1_783 := Nat.le_trans Z781 sz790
  have ne837 : b780 ≠ e2_784 := Nat.ne_of_lt (Nat.lt_of_lt_of_le A780.lt sz791)
  have ge838 : n0 ≤ e2_784 := Nat.le_trans Z781 sz791
  have ne839 : b780 ≠ e3_785 := Nat.ne_of_lt (Nat.lt_of_lt_of_le A780.lt sz792)
  have ge840 : n0 ≤ e3_785 := Nat.le_trans Z781 sz792
  have ne841 : b780 ≠ e4_786 := Nat.ne_of_lt (Nat.lt_of_lt_of_le A780.lt sz793)
  have ge842 : n0 ≤ e4_786 := Nat.le_trans Z781 sz793
  have ne843 : b780 ≠ e5_787 := Nat.ne_of_lt (Nat.lt_of_lt_of_le A780.lt sz794)
  have ge844 : n0 ≤ e5_787 := Nat.le_trans Z781 sz794
  have ne845 : b780 ≠ e6_788 := Nat.ne_of_lt (Nat.lt_of_lt_of_le A780.lt sz795)
  have ge846 : n0 ≤ e6_788 := Nat.le_trans Z781 sz795
  have ne847 : b780 ≠ e7_789 := Nat.ne_of_lt (Nat.lt_of_lt_of_le A780.lt sz796)
  have ge848 : n0 ≤ e7_789 := Nat.le_trans Z781 sz796
  refine own_pre (fun _ k => st782.trans k) ?_
  refine own_pre (A := T782.setTop (mkF m 59 #[iv p0, iv p1, iv p2, iv p3, iv p4, iv (2:Int32), iv w0_1, iv w0_2, iv w0_3, iv w0_4, rv b780, .unset, .unset, .unset, .unset, .unset, .unset, .unset] [(.int w0_1), (.ref b780)])) (fun t k => ?_) ?_
  · show Steps p.tables e below (T782.setTop (mkF m 53 #[iv p0, iv p1, iv p2, iv p3, iv p4, iv (2:Int32), iv w0_1, iv w0_2, iv w0_3, iv w0_4, .unset, .unset, .unset, .unset, .unset, .unset, .unset, .unset] [(.ref b780)])) _
    refine XS.astore X782.here hx rfl (hb hby at_53) rfl rfl (l' := #[iv p0, iv p1, iv p2, iv p3, iv p4, iv (2:Int32), iv w0_1, iv w0_2, iv w0_3, iv w0_4, rv b780, .unset, .unset, .unset, .unset, .unset, .unset, .unset]) rfl ?_
    show Steps p.tables e below (T782.setTop (mkF m 55 #[iv p0, iv p1, iv p2, iv p3, iv p4, iv (2:Int32), iv w0_1, iv w0_2, iv w0_3, iv w0_4, rv b780, .unset, .unset, .unset, .unset, .unset, .unset, .unset] [])) _
    refine XS.aload X782.here hx rfl (hb hby at_55) rfl rfl ?_
    show Steps p.tables e below (T782.setTop (mkF m 57 #[iv p0, iv p1, iv p2, iv p3, iv p4, iv (2:Int32), iv w0_1, iv w0_2, iv w0_3, iv w0_4, rv b780, .unset, .unset, .unset, .unset, .unset, .unset, .unset] [(.ref b780)])) _
    refine XS.iload X782.here hx rfl (hb hby at_57) rfl ?_
    exact k
  have F850 := (A780.keep K782)
  have hf852 : (own_In w0_1 [(0:Int32), (0:Int32)].length) ∧ (own_In (own_at [(0:Int32), (0:Int32)] w0_1) [(0:Int32), (0:Int32)].length) ∧ (own_In w0_1 [(0:Int32), (1:Int32)].length) ∧ (¬ ((own_at [(0:Int32), (1:Int32)] w0_1) < (own_at [(0:Int32), (0:Int32)] (own_at [(0:Int32), (0:Int32)] w0_1))) → own_In (own_at [(0:Int32), (0:Int32)] w0_1) [(0:Int32), (0:Int32)].length) ∧ (¬ ((own_at [(0:Int32), (1:Int32)] w0_1) < (own_at [(0:Int32), (0:Int32)] (own_at [(0:Int32), (0:Int32)] w0_1))) → own_In (own_at [(0:Int32), (0:Int32)] (own_at [(0:Int32), (0:Int32)] w0_1)) [(0:Int32), (1:Int32)].length) ∧ (¬ ((own_at [(0:Int32), (1:Int32)] w0_1) < (own_at [(0:Int32), (0:Int32)] (own_at [(0:Int32), (0:Int32)] w0_1))) → own_In (own_at [(0:Int32), (1:Int32)] w0_1) [(0:Int32), (1:Int32)].length) ∧ (¬ ((own_at [(0:Int32), (1:Int32)] w0_1) < (own_at [(0:Int32), (0:Int32)] (own_at [(0:Int32), (0:Int32)] w0_1))) → own_In (own_at [(0:Int32), (1:Int32)] (own_at [(0:Int32), (0:Int32)] (own_at [(0:Int32), (0:Int32)] w0_1))) [(0:Int32), (1:Int32)].length) ∧ (¬ ((own_at [(0:Int32), (1:Int32)] w0_1) < (own_at [(0:Int32), (0:Int32)] (own_at [(0:Int32), (0:Int32)] w0_1))) → (own_at [(0:Int32), (0:Int32)] (own_at [(0:Int32), (0:Int32)] w0_1)) = (own_at [(0:Int32), (0:Int32)] (own_at [(0:Int32), (0:Int32)] w0_1)) → own_In (0:Int32) [(0:Int32), (0:Int32)].length) := by exact own_fin851 w0_1 (own_mem2 _ _ hw0_1)
  obtain ⟨cq849, kq849, q849a, q849b, q849c⟩ := isOf hZ rfl F850
  obtain ⟨_, _, ⟨T849, L849, k849, n849⟩, -, X849, ⟨Lc849, hQ849, l849, y849, z849⟩, st849⟩ := X782.virtualBack hx (y := (⟨"com/example/spare_calculus/sparecalculus/bisim/Partition", "mark", "(I)V"⟩ : MethodName)) (z := (⟨"com/example/spare_calculus/sparecalculus/bisim/Partition", "mark", "(I)V"⟩ : MethodName)) hown (mvT hZ (own_h hw 27 rfl)) (mvT hZ (own_h hw 28 rfl)) (notFace_of_selects (args := #[]) (mvT hZ (own_h hw 30 rfl))) (mvT hZ (own_h hw 30 rfl)) (mvT hZ (own_h hw 29 rfl)) (by decide) (backOf (W := 0) (rm3 l Z aZ hw [] b780 w0_1 e1_783 e2_784 e3_785 e4_786 e5_787 e6_788 e7_789 [(0:Int32), (1:Int32)] [(0:Int32), (1:Int32)] [(0:Int32), (0:Int32)] [(0:Int32), (0:Int32)] [(0:Int32), (0:Int32)] [(0:Int32), (0:Int32)] (1:Int32) (0:Int32) T782.heap n0 Z834 F850 G818 G819 G820 G821 G822 G823 G824 G825 G826 G827 G828 G829 G830 G832 G833 ne835 ne837 ne839 ne841 ne845 ne847 ne797 ne798 ne799 ne801 ne802 ne803 ne804 ne806 ne807 ne808 ne810 ne811 ne813 ne814 ne817 ge_b780 ge836 ge838 ge846 ge848 hf852.1 hf852.2.1 hf852.2.2.1 hf852.2.2.2.1 hf852.2.2.2.2.1 hf852.2.2.2.2.2.1 hf852.2.2.2.2.2.2.1 hf852.2.2.2.2.2.2.2) hZ (own_h hw 31 rfl) (own_h hw 3 rfl) (by decide) (by decide)) q849a q849c (g := (mkF m 59 #[iv p0, iv p1, iv p2, iv p3, iv p4, iv (2:Int32), iv w0_1, iv w0_2, iv w0_3, iv w0_4, rv b780, .unset, .unset, .unset, .unset, .unset, .unset, .unset] [(.int w0_1), (.ref b780)])) rfl (by rw [hml]; rfl) (Steps.refl _) (argsL := [(.int w0_1)]) (rest := []) (lenOf own_pd0 rfl) rfl (by show 2 * 0 + _ ≤ _; exact Nat.le_of_eq rfl) (hb hby at_59) (fun _ _ => ⟨rfl, rfl, (by decide : 8 + 0 ≤ _), (by decide : 23 + 0 ≤ _)⟩)
  dsimp only [Pt.U, Pt.locs, Pt.cells, Pt.slots] at X849 l849 y849 z849 st849 hQ849
  subst l849 y849 z849
  obtain ⟨rfl, N849q, K849, G853, G854, G855, G856, G857, G858, G859, G860, G861, G862, G863, G864, G865⟩ := hQ849
  have N849 := Fr.app N782 N849q
  have Z866 : n0 ≤ T849.heap.size := Nat.le_trans Z834 K849.1
  have G868 : Fld Z T849.heap b780 "com/example/spare_calculus/sparecalculus/bisim/Partition" "touchedBlockCount" "I" (.int (own_v867 w0_1)) := G861
  have G870 : own_Ints Z T849.heap e1_783 (own_v869 w0_1) := G862
  have G872 : own_Ints Z T849.heap e2_784 (own_v871 w0_1) := G863
  have G874 : own_Ints Z T849.heap e6_788 (own_v873 w0_1) := G864
  have G876 : own_Ints Z T849.heap e7_789 (own_v875 w0_1) := G865
  refine own_pre (fun _ k => st849.trans k) ?_
  refine own_pre (A := T849.setTop (mkF m 66 #[iv p0, iv p1, iv p2, iv p3, iv p4, iv (2:Int32), iv w0_1, iv w0_2, iv w0_3, iv w0_4, rv b780, .unset, .unset, .unset, .unset, .unset, .unset, .unset] [(.int w0_2), (.ref b780)])) (fun t k => ?_) ?_
  · show Steps p.tables e below (T849.setTop (mkF m 62 #[iv p0, iv p1, iv p2, iv p3, iv p4, iv (2:Int32), iv w0_1, iv w0_2, iv w0_3, iv w0_4, rv b780, .unset, .unset, .unset, .unset, .unset, .unset, .unset] [])) _
    refine XS.aload X849.here hx rfl (hb hby at_62) rfl rfl ?_
    show Steps p.tables e below (T849.setTop (mkF m 64 #[iv p0, iv p1, iv p2, iv p3, iv p4, iv (2:Int32), iv w0_1, iv w0_2, iv w0_3, iv w0_4, rv b780, .unset, .unset, .unset, .unset, .unset, .unset, .unset] [(.ref b780)])) _
    refine XS.iload X849.here hx rfl (hb hby at_64) rfl ?_
    exact k
  have F878 := (F850.keep K849)
  have F879 := (G829.keep K849 (ninS (Ne.symm ne839) (ninS (Ne.symm ne798) (ninS (Ne.symm ne803) (ninS ne810 (ninS ne811 nin0))))))
  have F880 := (G830.keep K849 (ninS (Ne.symm ne841) (ninS (Ne.symm ne799) (ninS (Ne.symm ne804) (ninS ne813 (ninS ne814 nin0))))))
  have hf882 : (own_In w0_2 [(0:Int32), (0:Int32)].length) ∧ (own_In (own_at [(0:Int32), (0:Int32)] w0_2) (own_v873 w0_1).length) ∧ (own_In w0_2 (own_v871 w0_1).length) ∧ (¬ ((own_at (own_v871 w0_1) w0_2) < (own_at (own_v873 w0_1) (own_at [(0:Int32), (0:Int32)] w0_2))) → own_In (own_at [(0:Int32), (0:Int32)] w0_2) [(0:Int32), (0:Int32)].length) ∧ (¬ ((own_at (own_v871 w0_1) w0_2) < (own_at (own_v873 w0_1) (own_at [(0:Int32), (0:Int32)] w0_2))) → own_In (own_at (own_v873 w0_1) (own_at [(0:Int32), (0:Int32)] w0_2)) (own_v869 w0_1).length) ∧ (¬ ((own_at (own_v871 w0_1) w0_2) < (own_at (own_v873 w0_1) (own_at [(0:Int32), (0:Int32)] w0_2))) → own_In (own_at (own_v871 w0_1) w0_2) (own_v869 w0_1).length) ∧ (¬ ((own_at (own_v871 w0_1) w0_2) < (own_at (own_v873 w0_1) (own_at [(0:Int32), (0:Int32)] w0_2))) → own_In (own_at (own_v869 w0_1) (own_at (own_v873 w0_1) (own_at [(0:Int32), (0:Int32)] w0_2))) (own_v871 w0_1).length) ∧ (¬ ((own_at (own_v871 w0_1) w0_2) < (own_at (own_v873 w0_1) (own_at [(0:Int32), (0:Int32)] w0_2))) → (own_at (own_v873 w0_1) (own_at [(0:Int32), (0:Int32)] w0_2)) = (own_at [(0:Int32), (0:Int32)] (own_at [(0:Int32), (0:Int32)] w0_2)) → own_In (own_v867 w0_1) (own_v875 w0_1).length) := by exact own_fin881 w0_1 (own_mem2 _ _ hw0_1) w0_2 (own_mem2 _ _ hw0_2)
  obtain ⟨cq877, kq877, q877a, q877b, q877c⟩ := isOf hZ rfl F878
  obtain ⟨_, _, ⟨T877, L877, k877, n877⟩, -, X877, ⟨Lc877, hQ877, l877, y877, z877⟩, st877⟩ := X849.virtualBack hx (y := (⟨"com/example/spare_calculus/sparecalculus/bisim/Partition", "mark", "(I)V"⟩ : MethodName)) (z := (⟨"com/example/spare_calculus/sparecalculus/bisim/Partition", "mark", "(I)V"⟩ : MethodName)) hown (mvT hZ (own_h hw 27 rfl)) (mvT hZ (own_h hw 28 rfl)) (notFace_of_selects (args := #[]) (mvT hZ (own_h hw 30 rfl))) (mvT hZ (own_h hw 30 rfl)) (mvT hZ (own_h hw 29 rfl)) (by decide) (backOf (W := 0) (rm3 l Z aZ hw [] b780 w0_2 e1_783 e2_784 e3_785 e4_786 e5_787 e6_788 e7_789 (own_v869 w0_1) (own_v871 w0_1) [(0:Int32), (0:Int32)] [(0:Int32), (0:Int32)] (own_v873 w0_1) (own_v875 w0_1) (1:Int32) (own_v867 w0_1) T849.heap n0 Z866 F878 G853 G854 G855 G856 G857 G858 G859 G860 G868 G870 G872 F879 F880 G874 G876 ne835 ne837 ne839 ne841 ne845 ne847 ne797 ne798 ne799 ne801 ne802 ne803 ne804 ne806 ne807 ne808 ne810 ne811 ne813 ne814 ne817 ge_b780 ge836 ge838 ge846 ge848 hf882.1 hf882.2.1 hf882.2.2.1 hf882.2.2.2.1 hf882.2.2.2.2.1 hf882.2.2.2.2.2.1 hf882.2.2.2.2.2.2.1 hf882.2.2.2.2.2.2.2) hZ (own_h hw 31 rfl) (own_h hw 3 rfl) (by decide) (by decide)) q877a q877c (g := (mkF m 66 #[iv p0, iv p1, iv p2, iv p3, iv p4, iv (2:Int32), iv w0_1, iv w0_2, iv w0_3, iv w0_4, rv b780, .unset, .unset, .unset, .unset, .unset, .unset, .unset] [(.int w0_2), (.ref b780)])) rfl (by rw [hml]; rfl) (Steps.refl _) (argsL := [(.int w0_2)]) (rest := []) (lenOf own_pd0 rfl) rfl (by show 2 * 0 + _ ≤ _; exact Nat.le_of_eq rfl) (hb hby at_66) (fun _ _ => ⟨rfl, rfl, (by decide : 8 + 0 ≤ _), (by decide : 23 + 0 ≤ _)⟩)
  dsimp only [Pt.U, Pt.locs, Pt.cells, Pt.slots] at X877 l877 y877 z877 st877 hQ877
  subst l877 y877 z877
  obtain ⟨rfl, N877q, K877, G883, G884, G885, G886, G887, G888, G889, G890, G891, G892, G893, G894, G895⟩ := hQ877
  have N877 := Fr.app N849 N877q
  have Z896 : n0 ≤ T877.heap.size := Nat.le_trans Z866 K877.1
  have G898 : Fld Z T877.heap b780 "com/example/spare_calculus/sparecalculus/bisim/Partition" "touchedBlockCount" "I" (.int (own_v897 w0_2 w0_1)) := G891
  have G900 : own_Ints Z T877.heap e1_783 (own_v899 w0_2 w0_1) := G892
  have G902 : own_Ints Z T877.heap e2_784 (own_v901 w0_2 w0_1) := G893
  have G904 : own_Ints Z T877.heap e6_788 (own_v903 w0_2 w0_1) := G894
  have G906 : own_Ints Z T877.heap e7_789 (own_v905 w0_2 w0_1) := G895
  refine own_pre (fun _ k => st877.trans k) ?_
  refine own_pre (A := T877.setTop (mkF m 72 #[iv p0, iv p1, iv p2, iv p3, iv p4, iv (2:Int32), iv w0_1, iv w0_2, iv w0_3, iv w0_4, rv b780, .unset, .unset, .unset, .unset, .unset, .unset, .unset] [(.int (0:Int32)), (.ref b780)])) (fun t k => ?_) ?_
  · show Steps p.tables e below (T877.setTop (mkF m 69 #[iv p0, iv p1, iv p2, iv p3, iv p4, iv (2:Int32), iv w0_1, iv w0_2, iv w0_3, iv w0_4, rv b780, .unset, .unset, .unset, .unset, .unset, .unset, .unset] [])) _
    refine XS.aload X877.here hx rfl (hb hby at_69) rfl rfl ?_
    show Steps p.tables e below (T877.setTop (mkF m 71 #[iv p0, iv p1, iv p2, iv p3, iv p4, iv (2:Int32), iv w0_1, iv w0_2, iv w0_3, iv w0_4, rv b780, .unset, .unset, .unset, .unset, .unset, .unset, .unset] [(.ref b780)])) _
    refine XS.iconst X877.here hx rfl (hb hby at_71) ?_
    exact k
  have hf909 : own_In (0:Int32) (own_v903 w0_2 w0_1).length := by exact own_fin908 w0_1 (own_mem2 _ _ hw0_1) w0_2 (own_mem2 _ _ hw0_2)
  have F910 := (F878.keep K877)
  obtain ⟨cq907, kq907, q907a, q907b, q907c⟩ := isOf hZ rfl F910
  obtain ⟨_, _, ⟨T907, L907, k907, n907⟩, -, X907, ⟨Lc907, hQ907, l907, y907, z907⟩, st907⟩ := X877.virtualBack hx (y := (⟨"com/example/spare_calculus/sparecalculus/bisim/Partition", "markedEnd", "(I)I"⟩ : MethodName)) (z := (⟨"com/example/spare_calculus/sparecalculus/bisim/Partition", "markedEnd", "(I)I"⟩ : MethodName)) hown (mvT hZ (own_h hw 34 rfl)) (mvT hZ (own_h hw 35 rfl)) (notFace_of_selects (args := #[]) (mvT hZ (own_h hw 37 rfl))) (mvT hZ (own_h hw 37 rfl)) (mvT hZ (own_h hw 36 rfl)) (by decide) (backOf (W := 0) (rm4 l Z aZ hw [] b780 (0:Int32) e6_788 (own_v903 w0_2 w0_1) T877.heap n0 Z896 G888 G904 hf909) hZ (own_h hw 38 rfl) (own_h hw 3 rfl) (by decide) (by decide)) q907a q907c (g := (mkF m 72 #[iv p0, iv p1, iv p2, iv p3, iv p4, iv (2:Int32), iv w0_1, iv w0_2, iv w0_3, iv w0_4, rv b780, .unset, .unset, .unset, .unset, .unset, .unset, .unset] [(.int (0:Int32)), (.ref b780)])) rfl (by rw [hml]; rfl) (Steps.refl _) (argsL := [(.int (0:Int32))]) (rest := []) (lenOf own_pd1 rfl) rfl (by show 2 * 0 + _ ≤ _; exact Nat.le_of_eq rfl) (hb hby at_72) (fun _ _ => ⟨rfl, rfl, (by decide : 8 + 0 ≤ _), (by decide : 23 + 0 ≤ _)⟩)
  dsimp only [Pt.U, Pt.locs, Pt.cells, Pt.slots] at X907 l907 y907 z907 st907 hQ907
  subst l907 y907 z907
  obtain ⟨rfl, N907q, eh907⟩ := hQ907
  have N907 := Fr.app N877 N907q
  refine own_pre (fun _ k => st907.trans k) ?_
  refine own_pre (A := T907.setTop (mkF m 79 #[iv p0, iv p1, iv p2, iv p3, iv p4, iv (2:Int32), iv w0_1, iv w0_2, iv w0_3, iv w0_4, rv b780, iv (f4 (0:Int32) (own_v903 w0_2 w0_1)), .unset, .unset, .unset, .unset, .unset, .unset] [(.ref b780)])) (fun t k => ?_) ?_
  · show Steps p.tables e below (T907.setTop (mkF m 75 #[iv p0, iv p1, iv p2, iv p3, iv p4, iv (2:Int32), iv w0_1, iv w0_2, iv w0_3, iv w0_4, rv b780, .unset, .unset, .unset, .unset, .unset, .unset, .unset] [(.int (f4 (0:Int32) (own_v903 w0_2 w0_1)))])) _
    refine XS.istore X907.here hx rfl (hb hby at_75) rfl (l' := #[iv p0, iv p1, iv p2, iv p3, iv p4, iv (2:Int32), iv w0_1, iv w0_2, iv w0_3, iv w0_4, rv b780, iv (f4 (0:Int32) (own_v903 w0_2 w0_1)), .unset, .unset, .unset, .unset, .unset, .unset]) rfl ?_
    show Steps p.tables e below (T907.setTop (mkF m 77 #[iv p0, iv p1, iv p2, iv p3, iv p4, iv (2:Int32), iv w0_1, iv w0_2, iv w0_3, iv w0_4, rv b780, iv (f4 (0:Int32) (own_v903 w0_2 w0_1)), .unset, .unset, .unset, .unset, .unset, .unset] [])) _
    refine XS.aload X907.here hx rfl (hb hby at_77) rfl rfl ?_
    exact k
  obtain ⟨cq911, kq911, q911a, q911b, q911c⟩ := isOf hZ eh907 F910
  obtain ⟨_, _, ⟨T911, L911, k911, n911⟩, -, X911, ⟨Lc911, hQ911, l911, y911, z911⟩, st911⟩ := X907.virtualBack hx (y := (⟨"com/example/spare_calculus/sparecalculus/bisim/Partition", "touchedCount", "()I"⟩ : MethodName)) (z := (⟨"com/example/spare_calculus/sparecalculus/bisim/Partition", "touchedCount", "()I"⟩ : MethodName)) hown (mvT hZ (own_h hw 39 rfl)) (mvT hZ (own_h hw 40 rfl)) (notFace_of_selects (args := #[]) (mvT hZ (own_h hw 42 rfl))) (mvT hZ (own_h hw 42 rfl)) (mvT hZ (own_h hw 41 rfl)) (by decide) (backOf (W := 0) (rm5 l Z aZ hw [] b780 (own_v897 w0_2 w0_1) T877.heap n0 Z896 G898) hZ (own_h hw 43 rfl) (own_h hw 3 rfl) (by decide) (by decide)) q911a q911c (g := (mkF m 79 #[iv p0, iv p1, iv p2, iv p3, iv p4, iv (2:Int32), iv w0_1, iv w0_2, iv w0_3, iv w0_4, rv b780, iv (f4 (0:Int32) (own_v903 w0_2 w0_1)), .unset, .unset, .unset, .unset, .unset, .unset] [(.ref b780)])) rfl (by rw [hml]; rfl) (Steps.refl _) (argsL := []) (rest := []) (lenOf own_pd2 rfl) rfl (by show 2 * 0 + _ ≤ _; exact Nat.le_of_eq rfl) (hb hby at_79) (fun _ _ => ⟨rfl, eh907, (by decide : 8 + 0 ≤ _), (by decide : 23 + 0 ≤ _)⟩)
  dsimp only [Pt.U, Pt.locs, Pt.cells, Pt.slots] at X911 l911 y911 z911 st911 hQ911
  subst l911 y911 z911
  obtain ⟨rfl, N911q, eh911⟩ := hQ911
  have N911 := Fr.app N907 N911q
  refine own_pre (fun _ k => st911.trans k) ?_
  refine own_pre (A := T911.setTop (mkF m 87 #[iv p0, iv p1, iv p2, iv p3, iv p4, iv (2:Int32), iv w0_1, iv w0_2, iv w0_3, iv w0_4, rv b780, iv (f4 (0:Int32) (own_v903 w0_2 w0_1)), iv (f5 (own_v897 w0_2 w0_1)), .unset, .unset, .unset, .unset, .unset] [(.int (0:Int32)), (.ref b780)])) (fun t k => ?_) ?_
  · show Steps p.tables e below (T911.setTop (mkF m 82 #[iv p0, iv p1, iv p2, iv p3, iv p4, iv (2:Int32), iv w0_1, iv w0_2, iv w0_3, iv w0_4, rv b780, iv (f4 (0:Int32) (own_v903 w0_2 w0_1)), .unset, .unset, .unset, .unset, .unset, .unset] [(.int (f5 (own_v897 w0_2 w0_1)))])) _
    refine XS.istore X911.here hx rfl (hb hby at_82) rfl (l' := #[iv p0, iv p1, iv p2, iv p3, iv p4, iv (2:Int32), iv w0_1, iv w0_2, iv w0_3, iv w0_4, rv b780, iv (f4 (0:Int32) (own_v903 w0_2 w0_1)), iv (f5 (own_v897 w0_2 w0_1)), .unset, .unset, .unset, .unset, .unset]) rfl ?_
    show Steps p.tables e below (T911.setTop (mkF m 84 #[iv p0, iv p1, iv p2, iv p3, iv p4, iv (2:Int32), iv w0_1, iv w0_2, iv w0_3, iv w0_4, rv b780, iv (f4 (0:Int32) (own_v903 w0_2 w0_1)), iv (f5 (own_v897 w0_2 w0_1)), .unset, .unset, .unset, .unset, .unset] [])) _
    refine XS.aload X911.here hx rfl (hb hby at_84) rfl rfl ?_
    show Steps p.tables e below (T911.setTop (mkF m 86 #[iv p0, iv p1, iv p2, iv p3, iv p4, iv (2:Int32), iv w0_1, iv w0_2, iv w0_3, iv w0_4, rv b780, iv (f4 (0:Int32) (own_v903 w0_2 w0_1)), iv (f5 (own_v897 w0_2 w0_1)), .unset, .unset, .unset, .unset, .unset] [(.ref b780)])) _
    refine XS.iconst X911.here hx rfl (hb hby at_86) ?_
    exact k
  have hf914 : own_In (0:Int32) (own_v905 w0_2 w0_1).length := by exact own_fin913 w0_1 (own_mem2 _ _ hw0_1) w0_2 (own_mem2 _ _ hw0_2)
  obtain ⟨cq912, kq912, q912a, q912b, q912c⟩ := isOf hZ eh911 F910
  obtain ⟨_, _, ⟨T912, L912, k912, n912⟩, -, X912, ⟨Lc912, hQ912, l912, y912, z912⟩, st912⟩ := X911.virtualBack hx (y := (⟨"com/example/spare_calculus/sparecalculus/bisim/Partition", "touched", "(I)I"⟩ : MethodName)) (z := (⟨"com/example/spare_calculus/sparecalculus/bisim/Partition", "touched", "(I)I"⟩ : MethodName)) hown (mvT hZ (own_h hw 44 rfl)) (mvT hZ (own_h hw 45 rfl)) (notFace_of_selects (args := #[]) (mvT hZ (own_h hw 47 rfl))) (mvT hZ (own_h hw 47 rfl)) (mvT hZ (own_h hw 46 rfl)) (by decide) (backOf (W := 0) (rm6 l Z aZ hw [] b780 (0:Int32) e7_789 (own_v905 w0_2 w0_1) T877.heap n0 Z896 G889 G906 hf914) hZ (own_h hw 48 rfl) (own_h hw 3 rfl) (by decide) (by decide)) q912a q912c (g := (mkF m 87 #[iv p0, iv p1, iv p2, iv p3, iv p4, iv (2:Int32), iv w0_1, iv w0_2, iv w0_3, iv w0_4, rv b780, iv (f4 (0:Int32) (own_v903 w0_2 w0_1)), iv (f5 (own_v897 w0_2 w0_1)), .unset, .unset, .unset, .unset, .unset] [(.int (0:Int32)), (.ref b780)])) rfl (by rw [hml]; rfl) (Steps.refl _) (argsL := [(.int (0:Int32))]) (rest := []) (lenOf own_pd1 rfl) rfl (by show 2 * 0 + _ ≤ _; exact Nat.le_of_eq rfl) (hb hby at_87) (fun _ _ => ⟨rfl, eh911, (by decide : 8 + 0 ≤ _), (by decide : 23 + 0 ≤ _)⟩)
  dsimp only [Pt.U, Pt.locs, Pt.cells, Pt.slots] at X912 l912 y912 z912 st912 hQ912
  subst l912 y912 z912
  obtain ⟨rfl, N912q, eh912⟩ := hQ912
  have N912 := Fr.app N911 N912q
  refine own_pre (fun _ k => st912.trans k) ?_
  refine own_pre (A := T912.setTop (mkF m 96 #[iv p0, iv p1, iv p2, iv p3, iv p4, iv (2:Int32), iv w0_1, iv w0_2, iv w0_3, iv w0_4, rv b780, iv (f4 (0:Int32) (own_v903 w0_2 w0_1)), iv (f5 (own_v897 w0_2 w0_1)), iv (f6 (0:Int32) (own_v905 w0_2 w0_1)), .unset, .unset, .unset, .unset] [(.int w0_4), (.ref b780)])) (fun t k => ?_) ?_
  · show Steps p.tables e below (T912.setTop (mkF m 90 #[iv p0, iv p1, iv p2, iv p3, iv p4, iv (2:Int32), iv w0_1, iv w0_2, iv w0_3, iv w0_4, rv b780, iv (f4 (0:Int32) (own_v903 w0_2 w0_1)), iv (f5 (own_v897 w0_2 w0_1)), .unset, .unset, .unset, .unset, .unset] [(.int (f6 (0:Int32) (own_v905 w0_2 w0_1)))])) _
    refine XS.istore X912.here hx rfl (hb hby at_90) rfl (l' := #[iv p0, iv p1, iv p2, iv p3, iv p4, iv (2:Int32), iv w0_1, iv w0_2, iv w0_3, iv w0_4, rv b780, iv (f4 (0:Int32) (own_v903 w0_2 w0_1)), iv (f5 (own_v897 w0_2 w0_1)), iv (f6 (0:Int32) (own_v905 w0_2 w0_1)), .unset, .unset, .unset, .unset]) rfl ?_
    show Steps p.tables e below (T912.setTop (mkF m 92 #[iv p0, iv p1, iv p2, iv p3, iv p4, iv (2:Int32), iv w0_1, iv w0_2, iv w0_3, iv w0_4, rv b780, iv (f4 (0:Int32) (own_v903 w0_2 w0_1)), iv (f5 (own_v897 w0_2 w0_1)), iv (f6 (0:Int32) (own_v905 w0_2 w0_1)), .unset, .unset, .unset, .unset] [])) _
    refine XS.aload X912.here hx rfl (hb hby at_92) rfl rfl ?_
    show Steps p.tables e below (T912.setTop (mkF m 94 #[iv p0, iv p1, iv p2, iv p3, iv p4, iv (2:Int32), iv w0_1, iv w0_2, iv w0_3, iv w0_4, rv b780, iv (f4 (0:Int32) (own_v903 w0_2 w0_1)), iv (f5 (own_v897 w0_2 w0_1)), iv (f6 (0:Int32) (own_v905 w0_2 w0_1)), .unset, .unset, .unset, .unset] [(.ref b780)])) _
    refine XS.iload X912.here hx rfl (hb hby at_94) rfl ?_
    exact k
  have hf917 : own_In w0_4 (own_v899 w0_2 w0_1).length := by exact own_fin916 w0_1 (own_mem2 _ _ hw0_1) w0_2 (own_mem2 _ _ hw0_2) w0_4 (own_mem2 _ _ hw0_4)
  obtain ⟨cq915, kq915, q915a, q915b, q915c⟩ := isOf hZ eh912 F910
  obtain ⟨_, _, ⟨T915, L915, k915, n915⟩, -, X915, ⟨Lc915, hQ915, l915, y915, z915⟩, st915⟩ := X912.virtualBack hx (y := (⟨"com/example/spare_calculus/sparecalculus/bisim/Partition", "state", "(I)I"⟩ : MethodName)) (z := (⟨"com/example/spare_calculus/sparecalculus/bisim/Partition", "state", "(I)I"⟩ : MethodName)) hown (mvT hZ (own_h hw 49 rfl)) (mvT hZ (own_h hw 50 rfl)) (notFace_of_selects (args := #[]) (mvT hZ (own_h hw 52 rfl))) (mvT hZ (own_h hw 52 rfl)) (mvT hZ (own_h hw 51 rfl)) (by decide) (backOf (W := 0) (rm7 l Z aZ hw [] b780 w0_4 e1_783 (own_v899 w0_2 w0_1) T877.heap n0 Z896 G883 G900 hf917) hZ (own_h hw 53 rfl) (own_h hw 3 rfl) (by decide) (by decide)) q915a q915c (g := (mkF m 96 #[iv p0, iv p1, iv p2, iv p3, iv p4, iv (2:Int32), iv w0_1, iv w0_2, iv w0_3, iv w0_4, rv b780, iv (f4 (0:Int32) (own_v903 w0_2 w0_1)), iv (f5 (own_v897 w0_2 w0_1)), iv (f6 (0:Int32) (own_v905 w0_2 w0_1)), .unset, .unset, .unset, .unset] [(.int w0_4), (.ref b780)])) rfl (by rw [hml]; rfl) (Steps.refl _) (argsL := [(.int w0_4)]) (rest := []) (lenOf own_pd1 rfl) rfl (by show 2 * 0 + _ ≤ _; exact Nat.le_of_eq rfl) (hb hby at_96) (fun _ _ => ⟨rfl, eh912, (by decide : 8 + 0 ≤ _), (by decide : 23 + 0 ≤ _)⟩)
  dsimp only [Pt.U, Pt.locs, Pt.cells, Pt.slots] at X915 l915 y915 z915 st915 hQ915
  subst l915 y915 z915
  obtain ⟨rfl, N915q, eh915⟩ := hQ915
  have N915 := Fr.app N912 N915q
  refine own_pre (fun _ k => st915.trans k) ?_
  refine own_pre (A := T915.setTop (mkF m 105 #[iv p0, iv p1, iv p2, iv p3, iv p4, iv (2:Int32), iv w0_1, iv w0_2, iv w0_3, iv w0_4, rv b780, iv (f4 (0:Int32) (own_v903 w0_2 w0_1)), iv (f5 (own_v897 w0_2 w0_1)), iv (f6 (0:Int32) (own_v905 w0_2 w0_1)), iv (f7 w0_4 (own_v899 w0_2 w0_1)), .unset, .unset, .unset] [(.int (f7 w0_4 (own_v899 w0_2 w0_1))), (.ref b780)])) (fun t k => ?_) ?_
  · show Steps p.tables e below (T915.setTop (mkF m 99 #[iv p0, iv p1, iv p2, iv p3, iv p4, iv (2:Int32), iv w0_1, iv w0_2, iv w0_3, iv w0_4, rv b780, iv (f4 (0:Int32) (own_v903 w0_2 w0_1)), iv (f5 (own_v897 w0_2 w0_1)), iv (f6 (0:Int32) (own_v905 w0_2 w0_1)), .unset, .unset, .unset, .unset] [(.int (f7 w0_4 (own_v899 w0_2 w0_1)))])) _
    refine XS.istore X915.here hx rfl (hb hby at_99) rfl (l' := #[iv p0, iv p1, iv p2, iv p3, iv p4, iv (2:Int32), iv w0_1, iv w0_2, iv w0_3, iv w0_4, rv b780, iv (f4 (0:Int32) (own_v903 w0_2 w0_1)), iv (f5 (own_v897 w0_2 w0_1)), iv (f6 (0:Int32) (own_v905 w0_2 w0_1)), iv (f7 w0_4 (own_v899 w0_2 w0_1)), .unset, .unset, .unset]) rfl ?_
    show Steps p.tables e below (T915.setTop (mkF m 101 #[iv p0, iv p1, iv p2, iv p3, iv p4, iv (2:Int32), iv w0_1, iv w0_2, iv w0_3, iv w0_4, rv b780, iv (f4 (0:Int32) (own_v903 w0_2 w0_1)), iv (f5 (own_v897 w0_2 w0_1)), iv (f6 (0:Int32) (own_v905 w0_2 w0_1)), iv (f7 w0_4 (own_v899 w0_2 w0_1)), .unset, .unset, .unset] [])) _
    refine XS.aload X915.here hx rfl (hb hby at_101) rfl rfl ?_
    show Steps p.tables e below (T915.setTop (mkF m 103 #[iv p0, iv p1, iv p2, iv p3, iv p4, iv (2:Int32), iv w0_1, iv w0_2, iv w0_3, iv w0_4, rv b780, iv (f4 (0:Int32) (own_v903 w0_2 w0_1)), iv (f5 (own_v897 w0_2 w0_1)), iv (f6 (0:Int32) (own_v905 w0_2 w0_1)), iv (f7 w0_4 (own_v899 w0_2 w0_1)), .unset, .unset, .unset] [(.ref b780)])) _
    refine XS.iload X915.here hx rfl (hb hby at_103) rfl ?_
    exact k
  have F919 := (F879.keep K877 (ninS (Ne.symm ne839) (ninS (Ne.symm ne798) (ninS (Ne.symm ne803) (ninS ne810 (ninS ne811 nin0))))))
  have hf921 : (own_In (f7 w0_4 (own_v899 w0_2 w0_1)) (own_v901 w0_2 w0_1).length) ∧ (own_In (f7 w0_4 (own_v899 w0_2 w0_1)) [(0:Int32), (0:Int32)].length) ∧ (own_In (own_at [(0:Int32), (0:Int32)] (f7 w0_4 (own_v899 w0_2 w0_1))) (own_v903 w0_2 w0_1).length) := by exact own_fin920 w0_1 (own_mem2 _ _ hw0_1) w0_2 (own_mem2 _ _ hw0_2) w0_4 (own_mem2 _ _ hw0_4)
  obtain ⟨cq918, kq918, q918a, q918b, q918c⟩ := isOf hZ eh915 F910
  obtain ⟨_, _, ⟨T918, L918, k918, n918⟩, -, X918, ⟨Lc918, hQ918, l918, y918, z918⟩, st918⟩ := X915.virtualBack hx (y := (⟨"com/example/spare_calculus/sparecalculus/bisim/Partition", "marked", "(I)Z"⟩ : MethodName)) (z := (⟨"com/example/spare_calculus/sparecalculus/bisim/Partition", "marked", "(I)Z"⟩ : MethodName)) hown (mvT hZ (own_h hw 54 rfl)) (mvT hZ (own_h hw 55 rfl)) (notFace_of_selects (args := #[]) (mvT hZ (own_h hw 57 rfl))) (mvT hZ (own_h hw 57 rfl)) (mvT hZ (own_h hw 56 rfl)) (by decide) (backOf (W := 0) (rm8 l Z aZ hw [] b780 (f7 w0_4 (own_v899 w0_2 w0_1)) e2_784 e3_785 e6_788 (own_v901 w0_2 w0_1) [(0:Int32), (0:Int32)] (own_v903 w0_2 w0_1) T877.heap n0 Z896 G884 G885 G888 G902 F919 G904 hf921.1 hf921.2.1 hf921.2.2) hZ (own_h hw 58 rfl) (own_h hw 3 rfl) (by decide) (by decide)) q918a q918c (g := (mkF m 105 #[iv p0, iv p1, iv p2, iv p3, iv p4, iv (2:Int32), iv w0_1, iv w0_2, iv w0_3, iv w0_4, rv b780, iv (f4 (0:Int32) (own_v903 w0_2 w0_1)), iv (f5 (own_v897 w0_2 w0_1)), iv (f6 (0:Int32) (own_v905 w0_2 w0_1)), iv (f7 w0_4 (own_v899 w0_2 w0_1)), .unset, .unset, .unset] [(.int (f7 w0_4 (own_v899 w0_2 w0_1))), (.ref b780)])) rfl (by rw [hml]; rfl) (Steps.refl _) (argsL := [(.int (f7 w0_4 (own_v899 w0_2 w0_1)))]) (rest := []) (lenOf own_pd3 rfl) rfl (by show 2 * 0 + _ ≤ _; exact Nat.le_of_eq rfl) (hb hby at_105) (fun _ _ => ⟨rfl, eh915, (by decide : 8 + 0 ≤ _), (by decide : 23 + 0 ≤ _)⟩)
  dsimp only [Pt.U, Pt.locs, Pt.cells, Pt.slots] at X918 l918 y918 z918 st918 hQ918
  subst l918 y918 z918
  obtain ⟨rfl, N918q, eh918⟩ := hQ918
  have N918 := Fr.app N915 N918q
  refine own_pre (fun _ k => st918.trans k) ?_
  refine own_pre (A := T918.setTop (mkF m 114 #[iv p0, iv p1, iv p2, iv p3, iv p4, iv (2:Int32), iv w0_1, iv w0_2, iv w0_3, iv w0_4, rv b780, iv (f4 (0:Int32) (own_v903 w0_2 w0_1)), iv (f5 (own_v897 w0_2 w0_1)), iv (f6 (0:Int32) (own_v905 w0_2 w0_1)), iv (f7 w0_4 (own_v899 w0_2 w0_1)), iv (own_v922 w0_4 w0_2 w0_1), .unset, .unset] [(.int w0_3), (.ref b780)])) (fun t k => ?_) ?_
  · show Steps p.tables e below (T918.setTop (mkF m 108 #[iv p0, iv p1, iv p2, iv p3, iv p4, iv (2:Int32), iv w0_1, iv w0_2, iv w0_3, iv w0_4, rv b780, iv (f4 (0:Int32) (own_v903 w0_2 w0_1)), iv (f5 (own_v897 w0_2 w0_1)), iv (f6 (0:Int32) (own_v905 w0_2 w0_1)), iv (f7 w0_4 (own_v899 w0_2 w0_1)), .unset, .unset, .unset] [(.int (own_v922 w0_4 w0_2 w0_1))])) _
    refine XS.istore X918.here hx rfl (hb hby at_108) rfl (l' := #[iv p0, iv p1, iv p2, iv p3, iv p4, iv (2:Int32), iv w0_1, iv w0_2, iv w0_3, iv w0_4, rv b780, iv (f4 (0:Int32) (own_v903 w0_2 w0_1)), iv (f5 (own_v897 w0_2 w0_1)), iv (f6 (0:Int32) (own_v905 w0_2 w0_1)), iv (f7 w0_4 (own_v899 w0_2 w0_1)), iv (own_v922 w0_4 w0_2 w0_1), .unset, .unset]) rfl ?_
    show Steps p.tables e below (T918.setTop (mkF m 110 #[iv p0, iv p1, iv p2, iv p3, iv p4, iv (2:Int32), iv w0_1, iv w0_2, iv w0_3, iv w0_4, rv b780, iv (f4 (0:Int32) (own_v903 w0_2 w0_1)), iv (f5 (own_v897 w0_2 w0_1)), iv (f6 (0:Int32) (own_v905 w0_2 w0_1)), iv (f7 w0_4 (own_v899 w0_2 w0_1)), iv (own_v922 w0_4 w0_2 w0_1), .unset, .unset] [])) _
    refine XS.aload X918.here hx rfl (hb hby at_110) rfl rfl ?_
    show Steps p.tables e below (T918.setTop (mkF m 112 #[iv p0, iv p1, iv p2, iv p3, iv p4, iv (2:Int32), iv w0_1, iv w0_2, iv w0_3, iv w0_4, rv b780, iv (f4 (0:Int32) (own_v903 w0_2 w0_1)), iv (f5 (own_v897 w0_2 w0_1)), iv (f6 (0:Int32) (own_v905 w0_2 w0_1)), iv (f7 w0_4 (own_v899 w0_2 w0_1)), iv (own_v922 w0_4 w0_2 w0_1), .unset, .unset] [(.ref b780)])) _
    refine XS.iload X918.here hx rfl (hb hby at_112) rfl ?_
    exact k
  have hf925 : (own_In w0_3 (own_v901 w0_2 w0_1).length) ∧ (own_In w0_3 [(0:Int32), (0:Int32)].length) ∧ (own_In (own_at [(0:Int32), (0:Int32)] w0_3) (own_v903 w0_2 w0_1).length) := by exact own_fin924 w0_1 (own_mem2 _ _ hw0_1) w0_2 (own_mem2 _ _ hw0_2) w0_3 (own_mem2 _ _ hw0_3)
  obtain ⟨cq923, kq923, q923a, q923b, q923c⟩ := isOf hZ eh918 F910
  obtain ⟨_, _, ⟨T923, L923, k923, n923⟩, -, X923, ⟨Lc923, hQ923, l923, y923, z923⟩, st923⟩ := X918.virtualBack hx (y := (⟨"com/example/spare_calculus/sparecalculus/bisim/Partition", "marked", "(I)Z"⟩ : MethodName)) (z := (⟨"com/example/spare_calculus/sparecalculus/bisim/Partition", "marked", "(I)Z"⟩ : MethodName)) hown (mvT hZ (own_h hw 54 rfl)) (mvT hZ (own_h hw 55 rfl)) (notFace_of_selects (args := #[]) (mvT hZ (own_h hw 57 rfl))) (mvT hZ (own_h hw 57 rfl)) (mvT hZ (own_h hw 56 rfl)) (by decide) (backOf (W := 0) (rm8 l Z aZ hw [] b780 w0_3 e2_784 e3_785 e6_788 (own_v901 w0_2 w0_1) [(0:Int32), (0:Int32)] (own_v903 w0_2 w0_1) T877.heap n0 Z896 G884 G885 G888 G902 F919 G904 hf925.1 hf925.2.1 hf925.2.2) hZ (own_h hw 58 rfl) (own_h hw 3 rfl) (by decide) (by decide)) q923a q923c (g := (mkF m 114 #[iv p0, iv p1, iv p2, iv p3, iv p4, iv (2:Int32), iv w0_1, iv w0_2, iv w0_3, iv w0_4, rv b780, iv (f4 (0:Int32) (own_v903 w0_2 w0_1)), iv (f5 (own_v897 w0_2 w0_1)), iv (f6 (0:Int32) (own_v905 w0_2 w0_1)), iv (f7 w0_4 (own_v899 w0_2 w0_1)), iv (own_v922 w0_4 w0_2 w0_1), .unset, .unset] [(.int w0_3), (.ref b780)])) rfl (by rw [hml]; rfl) (Steps.refl _) (argsL := [(.int w0_3)]) (rest := []) (lenOf own_pd3 rfl) rfl (by show 2 * 0 + _ ≤ _; exact Nat.le_of_eq rfl) (hb hby at_114) (fun _ _ => ⟨rfl, eh918, (by decide : 8 + 0 ≤ _), (by decide : 23 + 0 ≤ _)⟩)
  dsimp only [Pt.U, Pt.locs, Pt.cells, Pt.slots] at X923 l923 y923 z923 st923 hQ923
  subst l923 y923 z923
  obtain ⟨rfl, N923q, eh923⟩ := hQ923
  have N923 := Fr.app N918 N923q
  refine own_pre (fun _ k => st923.trans k) ?_
  refine own_pre (A := T923.setTop (mkF m 123 #[iv p0, iv p1, iv p2, iv p3, iv p4, iv (2:Int32), iv w0_1, iv w0_2, iv w0_3, iv w0_4, rv b780, iv (f4 (0:Int32) (own_v903 w0_2 w0_1)), iv (f5 (own_v897 w0_2 w0_1)), iv (f6 (0:Int32) (own_v905 w0_2 w0_1)), iv (f7 w0_4 (own_v899 w0_2 w0_1)), iv (own_v922 w0_4 w0_2 w0_1), iv (own_v926 w0_3 w0_2 w0_1), .unset] [(.int w0_2), (.int w0_1)])) (fun t k => ?_) ?_
  · show Steps p.tables e below (T923.setTop (mkF m 117 #[iv p0, iv p1, iv p2, iv p3, iv p4, iv (2:Int32), iv w0_1, iv w0_2, iv w0_3, iv w0_4, rv b780, iv (f4 (0:Int32) (own_v903 w0_2 w0_1)), iv (f5 (own_v897 w0_2 w0_1)), iv (f6 (0:Int32) (own_v905 w0_2 w0_1)), iv (f7 w0_4 (own_v899 w0_2 w0_1)), iv (own_v922 w0_4 w0_2 w0_1), .unset, .unset] [(.int (own_v926 w0_3 w0_2 w0_1))])) _
    refine XS.istore X923.here hx rfl (hb hby at_117) rfl (l' := #[iv p0, iv p1, iv p2, iv p3, iv p4, iv (2:Int32), iv w0_1, iv w0_2, iv w0_3, iv w0_4, rv b780, iv (f4 (0:Int32) (own_v903 w0_2 w0_1)), iv (f5 (own_v897 w0_2 w0_1)), iv (f6 (0:Int32) (own_v905 w0_2 w0_1)), iv (f7 w0_4 (own_v899 w0_2 w0_1)), iv (own_v922 w0_4 w0_2 w0_1), iv (own_v926 w0_3 w0_2 w0_1), .unset]) rfl ?_
    show Steps p.tables e below (T923.setTop (mkF m 119 #[iv p0, iv p1, iv p2, iv p3, iv p4, iv (2:Int32), iv w0_1, iv w0_2, iv w0_3, iv w0_4, rv b780, iv (f4 (0:Int32) (own_v903 w0_2 w0_1)), iv (f5 (own_v897 w0_2 w0_1)), iv (f6 (0:Int32) (own_v905 w0_2 w0_1)), iv (f7 w0_4 (own_v899 w0_2 w0_1)), iv (own_v922 w0_4 w0_2 w0_1), iv (own_v926 w0_3 w0_2 w0_1), .unset] [])) _
    refine XS.iload X923.here hx rfl (hb hby at_119) rfl ?_
    show Steps p.tables e below (T923.setTop (mkF m 121 #[iv p0, iv p1, iv p2, iv p3, iv p4, iv (2:Int32), iv w0_1, iv w0_2, iv w0_3, iv w0_4, rv b780, iv (f4 (0:Int32) (own_v903 w0_2 w0_1)), iv (f5 (own_v897 w0_2 w0_1)), iv (f6 (0:Int32) (own_v905 w0_2 w0_1)), iv (f7 w0_4 (own_v899 w0_2 w0_1)), iv (own_v922 w0_4 w0_2 w0_1), iv (own_v926 w0_3 w0_2 w0_1), .unset] [(.int w0_1)])) _
    refine XS.iload X923.here hx rfl (hb hby at_121) rfl ?_
    exact k
  obtain ⟨w0_5, hw0_5⟩ : ∃ z : Int32, z = (if w0_1 = w0_2 then (1:Int32) else (2:Int32)) := ⟨_, rfl⟩
  refine own_pre (A := T923.setTop (mkF m 131 #[iv p0, iv p1, iv p2, iv p3, iv p4, iv (2:Int32), iv w0_1, iv w0_2, iv w0_3, iv w0_4, rv b780, iv (f4 (0:Int32) (own_v903 w0_2 w0_1)), iv (f5 (own_v897 w0_2 w0_1)), iv (f6 (0:Int32) (own_v905 w0_2 w0_1)), iv (f7 w0_4 (own_v899 w0_2 w0_1)), iv (own_v922 w0_4 w0_2 w0_1), iv (own_v926 w0_3 w0_2 w0_1), .unset] [(.int w0_5)])) (fun t k => ?_) ?_
  · show Steps p.tables e below (T923.setTop (mkF m 123 #[iv p0, iv p1, iv p2, iv p3, iv p4, iv (2:Int32), iv w0_1, iv w0_2, iv w0_3, iv w0_4, rv b780, iv (f4 (0:Int32) (own_v903 w0_2 w0_1)), iv (f5 (own_v897 w0_2 w0_1)), iv (f6 (0:Int32) (own_v905 w0_2 w0_1)), iv (f7 w0_4 (own_v899 w0_2 w0_1)), iv (own_v922 w0_4 w0_2 w0_1), iv (own_v926 w0_3 w0_2 w0_1), .unset] [(.int w0_2), (.int w0_1)])) _
    by_cases hm123_1 : w0_1 = w0_2
    · refine XS.icmpNo X923.here hx rfl (hb hby at_123) rfl (XT.ii_ne_f hm123_1) ?_
      show Steps p.tables e below (T923.setTop (mkF m 126 #[iv p0, iv p1, iv p2, iv p3, iv p4, iv (2:Int32), iv w0_1, iv w0_2, iv w0_3, iv w0_4, rv b780, iv (f4 (0:Int32) (own_v903 w0_2 w0_1)), iv (f5 (own_v897 w0_2 w0_1)), iv (f6 (0:Int32) (own_v905 w0_2 w0_1)), iv (f7 w0_4 (own_v899 w0_2 w0_1)), iv (own_v922 w0_4 w0_2 w0_1), iv (own_v926 w0_3 w0_2 w0_1), .unset] [])) _
      refine XS.iconst X923.here hx rfl (hb hby at_126) ?_
      show Steps p.tables e below (T923.setTop (mkF m 127 #[iv p0, iv p1, iv p2, iv p3, iv p4, iv (2:Int32), iv w0_1, iv w0_2, iv w0_3, iv w0_4, rv b780, iv (f4 (0:Int32) (own_v903 w0_2 w0_1)), iv (f5 (own_v897 w0_2 w0_1)), iv (f6 (0:Int32) (own_v905 w0_2 w0_1)), iv (f7 w0_4 (own_v899 w0_2 w0_1)), iv (own_v922 w0_4 w0_2 w0_1), iv (own_v926 w0_3 w0_2 w0_1), .unset] [(.int (1:Int32))])) _
      refine XS.goto X923.here hx rfl (pc0 := 127) (pc' := 131) rfl (hb hby at_127) (by decide) (by decide) ?_
      rw [hw0_5.trans (if_pos hm123_1)] at k
      exact k
    · refine XS.icmpYes X923.here hx rfl (pc0 := 123) (pc' := 130) rfl (hb hby at_123) rfl (XT.ii_ne_t hm123_1) (by decide) (by decide) ?_
      show Steps p.tables e below (T923.setTop (mkF m 130 #[iv p0, iv p1, iv p2, iv p3, iv p4, iv (2:Int32), iv w0_1, iv w0_2, iv w0_3, iv w0_4, rv b780, iv (f4 (0:Int32) (own_v903 w0_2 w0_1)), iv (f5 (own_v897 w0_2 w0_1)), iv (f6 (0:Int32) (own_v905 w0_2 w0_1)), iv (f7 w0_4 (own_v899 w0_2 w0_1)), iv (own_v922 w0_4 w0_2 w0_1), iv (own_v926 w0_3 w0_2 w0_1), .unset] [])) _
      refine XS.iconst X923.here hx rfl (hb hby at_130) ?_
      rw [hw0_5.trans (if_neg hm123_1)] at k
      exact k
  refine own_pre (A := T923.setTop (mkF m 137 #[iv p0, iv p1, iv p2, iv p3, iv p4, iv (2:Int32), iv w0_1, iv w0_2, iv w0_3, iv w0_4, rv b780, iv (f4 (0:Int32) (own_v903 w0_2 w0_1)), iv (f5 (own_v897 w0_2 w0_1)), iv (f6 (0:Int32) (own_v905 w0_2 w0_1)), iv (f7 w0_4 (own_v899 w0_2 w0_1)), iv (own_v922 w0_4 w0_2 w0_1), iv (own_v926 w0_3 w0_2 w0_1), iv w0_5] [(.int w0_5), (.int (f4 (0:Int32) (own_v903 w0_2 w0_1)))])) (fun t k => ?_) ?_
  · show Steps p.tables e below (T923.setTop (mkF m 131 #[iv p0, iv p1, iv p2, iv p3, iv p4, iv (2:Int32), iv w0_1, iv w0_2, iv w0_3, iv w0_4, rv b780, iv (f4 (0:Int32) (own_v903 w0_2 w0_1)), iv (f5 (own_v897 w0_2 w0_1)), iv (f6 (0:Int32) (own_v905 w0_2 w0_1)), iv (f7 w0_4 (own_v899 w0_2 w0_1)), iv (own_v922 w0_4 w0_2 w0_1), iv (own_v926 w0_3 w0_2 w0_1), .unset] [(.int w0_5)])) _
    refine XS.istore X923.here hx rfl (hb hby at_131) rfl (l' := #[iv p0, iv p1, iv p2, iv p3, iv p4, iv (2:Int32), iv w0_1, iv w0_2, iv w0_3, iv w0_4, rv b780, iv (f4 (0:Int32) (own_v903 w0_2 w0_1)), iv (f5 (own_v897 w0_2 w0_1)), iv (f6 (0:Int32) (own_v905 w0_2 w0_1)), iv (f7 w0_4 (own_v899 w0_2 w0_1)), iv (own_v922 w0_4 w0_2 w0_1), iv (own_v926 w0_3 w0_2 w0_1), iv w0_5]) rfl ?_
    show Steps p.tables e below (T923.setTop (mkF m 133 #[iv p0, iv p1, iv p2, iv p3, iv p4, iv (2:Int32), iv w0_1, iv w0_2, iv w0_3, iv w0_4, rv b780, iv (f4 (0:Int32) (own_v903 w0_2 w0_1)), iv (f5 (own_v897 w0_2 w0_1)), iv (f6 (0:Int32) (own_v905 w0_2 w0_1)), iv (f7 w0_4 (own_v899 w0_2 w0_1)), iv (own_v922 w0_4 w0_2 w0_1), iv (own_v926 w0_3 w0_2 w0_1), iv w0_5] [])) _
    refine XS.iload X923.here hx rfl (hb hby at_133) rfl ?_
    show Steps p.tables e below (T923.setTop (mkF m 135 #[iv p0, iv p1, iv p2, iv p3, iv p4, iv (2:Int32), iv w0_1, iv w0_2, iv w0_3, iv w0_4, rv b780, iv (f4 (0:Int32) (own_v903 w0_2 w0_1)), iv (f5 (own_v897 w0_2 w0_1)), iv (f6 (0:Int32) (own_v905 w0_2 w0_1)), iv (f7 w0_4 (own_v899 w0_2 w0_1)), iv (own_v922 w0_4 w0_2 w0_1), iv (own_v926 w0_3 w0_2 w0_1), iv w0_5] [(.int (f4 (0:Int32) (own_v903 w0_2 w0_1)))])) _
    refine XS.iload X923.here hx rfl (hb hby at_135) rfl ?_
    exact k
  by_cases hs137_2 : (f4 (0:Int32) (own_v903 w0_2 w0_1)) = w0_5
  · refine own_pre (A := T923.setTop (mkF m 145 #[iv p0, iv p1, iv p2, iv p3, iv p4, iv (2:Int32), iv w0_1, iv w0_2, iv w0_3, iv w0_4, rv b780, iv (f4 (0:Int32) (own_v903 w0_2 w0_1)), iv (f5 (own_v897 w0_2 w0_1)), iv (f6 (0:Int32) (own_v905 w0_2 w0_1)), iv (f7 w0_4 (own_v899 w0_2 w0_1)), iv (own_v922 w0_4 w0_2 w0_1), iv (own_v926 w0_3 w0_2 w0_1), iv w0_5] [(.int (1:Int32)), (.int (f5 (own_v897 w0_2 w0_1)))])) (fun t k => ?_) ?_
    · show Steps p.tables e below (T923.setTop (mkF m 137 #[iv p0, iv p1, iv p2, iv p3, iv p4, iv (2:Int32), iv w0_1, iv w0_2, iv w0_3, iv w0_4, rv b780, iv (f4 (0:Int32) (own_v903 w0_2 w0_1)), iv (f5 (own_v897 w0_2 w0_1)), iv (f6 (0:Int32) (own_v905 w0_2 w0_1)), iv (f7 w0_4 (own_v899 w0_2 w0_1)), iv (own_v922 w0_4 w0_2 w0_1), iv (own_v926 w0_3 w0_2 w0_1), iv w0_5] [(.int w0_5), (.int (f4 (0:Int32) (own_v903 w0_2 w0_1)))])) _
      refine XS.icmpYes X923.here hx rfl (pc0 := 137) (pc' := 142) rfl (hb hby at_137) rfl (XT.ii_eq_t hs137_2) (by decide) (by decide) ?_
      show Steps p.tables e below (T923.setTop (mkF m 142 #[iv p0, iv p1, iv p2, iv p3, iv p4, iv (2:Int32), iv w0_1, iv w0_2, iv w0_3, iv w0_4, rv b780, iv (f4 (0:Int32) (own_v903 w0_2 w0_1)), iv (f5 (own_v897 w0_2 w0_1)), iv (f6 (0:Int32) (own_v905 w0_2 w0_1)), iv (f7 w0_4 (own_v899 w0_2 w0_1)), iv (own_v922 w0_4 w0_2 w0_1), iv (own_v926 w0_3 w0_2 w0_1), iv w0_5] [])) _
      refine XS.iload X923.here hx rfl (hb hby at_142) rfl ?_
      show Steps p.tables e below (T923.setTop (mkF m 144 #[iv p0, iv p1, iv p2, iv p3, iv p4, iv (2:Int32), iv w0_1, iv w0_2, iv w0_3, iv w0_4, rv b780, iv (f4 (0:Int32) (own_v903 w0_2 w0_1)), iv (f5 (own_v897 w0_2 w0_1)), iv (f6 (0:Int32) (own_v905 w0_2 w0_1)), iv (f7 w0_4 (own_v899 w0_2 w0_1)), iv (own_v922 w0_4 w0_2 w0_1), iv (own_v926 w0_3 w0_2 w0_1), iv w0_5] [(.int (f5 (own_v897 w0_2 w0_1)))])) _
      refine XS.iconst X923.here hx rfl (hb hby at_144) ?_
      exact k
    by_cases hs145_3 : (f5 (own_v897 w0_2 w0_1)) = (1:Int32)
    · refine own_pre (A := T923.setTop (mkF m 152 #[iv p0, iv p1, iv p2, iv p3, iv p4, iv (2:Int32), iv w0_1, iv w0_2, iv w0_3, iv w0_4, rv b780, iv (f4 (0:Int32) (own_v903 w0_2 w0_1)), iv (f5 (own_v897 w0_2 w0_1)), iv (f6 (0:Int32) (own_v905 w0_2 w0_1)), iv (f7 w0_4 (own_v899 w0_2 w0_1)), iv (own_v922 w0_4 w0_2 w0_1), iv (own_v926 w0_3 w0_2 w0_1), iv w0_5] [(.int (f6 (0:Int32) (own_v905 w0_2 w0_1)))])) (fun t k => ?_) ?_
      · show Steps p.tables e below (T923.setTop (mkF m 145 #[iv p0, iv p1, iv p2, iv p3, iv p4, iv (2:Int32), iv w0_1, iv w0_2, iv w0_3, iv w0_4, rv b780, iv (f4 (0:Int32) (own_v903 w0_2 w0_1)), iv (f5 (own_v897 w0_2 w0_1)), iv (f6 (0:Int32) (own_v905 w0_2 w0_1)), iv (f7 w0_4 (own_v899 w0_2 w0_1)), iv (own_v922 w0_4 w0_2 w0_1), iv (own_v926 w0_3 w0_2 w0_1), iv w0_5] [(.int (1:Int32)), (.int (f5 (own_v897 w0_2 w0_1)))])) _
        refine XS.icmpYes X923.here hx rfl (pc0 := 145) (pc' := 150) rfl (hb hby at_145) rfl (XT.ii_eq_t hs145_3) (by decide) (by decide) ?_
        show Steps p.tables e below (T923.setTop (mkF m 150 #[iv p0, iv p1, iv p2, iv p3, iv p4, iv (2:Int32), iv w0_1, iv w0_2, iv w0_3, iv w0_4, rv b780, iv (f4 (0:Int32) (own_v903 w0_2 w0_1)), iv (f5 (own_v897 w0_2 w0_1)), iv (f6 (0:Int32) (own_v905 w0_2 w0_1)), iv (f7 w0_4 (own_v899 w0_2 w0_1)), iv (own_v922 w0_4 w0_2 w0_1), iv (own_v926 w0_3 w0_2 w0_1), iv w0_5] [])) _
        refine XS.iload X923.here hx rfl (hb hby at_150) rfl ?_
        exact k
      by_cases hs152_4 : (f6 (0:Int32) (own_v905 w0_2 w0_1)) = (0:Int32)
      · refine own_pre (A := T923.setTop (mkF m 159 #[iv p0, iv p1, iv p2, iv p3, iv p4, iv (2:Int32), iv w0_1, iv w0_2, iv w0_3, iv w0_4, rv b780, iv (f4 (0:Int32) (own_v903 w0_2 w0_1)), iv (f5 (own_v897 w0_2 w0_1)), iv (f6 (0:Int32) (own_v905 w0_2 w0_1)), iv (f7 w0_4 (own_v899 w0_2 w0_1)), iv (own_v922 w0_4 w0_2 w0_1), iv (own_v926 w0_3 w0_2 w0_1), iv w0_5] [(.int (f7 w0_4 (own_v899 w0_2 w0_1)))])) (fun t k => ?_) ?_
        · show Steps p.tables e below (T923.setTop (mkF m 152 #[iv p0, iv p1, iv p2, iv p3, iv p4, iv (2:Int32), iv w0_1, iv w0_2, iv w0_3, iv w0_4, rv b780, iv (f4 (0:Int32) (own_v903 w0_2 w0_1)), iv (f5 (own_v897 w0_2 w0_1)), iv (f6 (0:Int32) (own_v905 w0_2 w0_1)), iv (f7 w0_4 (own_v899 w0_2 w0_1)), iv (own_v922 w0_4 w0_2 w0_1), iv (own_v926 w0_3 w0_2 w0_1), iv w0_5] [(.int (f6 (0:Int32) (own_v905 w0_2 w0_1)))])) _
          refine XS.ifYes X923.here hx rfl (pc0 := 152) (pc' := 157) rfl (hb hby at_152) rfl (XT.i0_eq_t hs152_4) (by decide) (by decide) ?_
          show Steps p.tables e below (T923.setTop (mkF m 157 #[iv p0, iv p1, iv p2, iv p3, iv p4, iv (2:Int32), iv w0_1, iv w0_2, iv w0_3, iv w0_4, rv b780, iv (f4 (0:Int32) (own_v903 w0_2 w0_1)), iv (f5 (own_v897 w0_2 w0_1)), iv (f6 (0:Int32) (own_v905 w0_2 w0_1)), iv (f7 w0_4 (own_v899 w0_2 w0_1)), iv (own_v922 w0_4 w0_2 w0_1), iv (own_v926 w0_3 w0_2 w0_1), iv w0_5] [])) _
          refine XS.iload X923.here hx rfl (hb hby at_157) rfl ?_
          exact k
        by_cases hs159_5 : (f7 w0_4 (own_v899 w0_2 w0_1)) < (0:Int32)
        · refine own_pre (A := T923.setTop (mkF m 170 #[iv p0, iv p1, iv p2, iv p3, iv p4, iv (2:Int32), iv w0_1, iv w0_2, iv w0_3, iv w0_4, rv b780, iv (f4 (0:Int32) (own_v903 w0_2 w0_1)), iv (f5 (own_v897 w0_2 w0_1)), iv (f6 (0:Int32) (own_v905 w0_2 w0_1)), iv (f7 w0_4 (own_v899 w0_2 w0_1)), iv (own_v922 w0_4 w0_2 w0_1), iv (own_v926 w0_3 w0_2 w0_1), iv w0_5] [(.int (0:Int32))])) (fun t k => ?_) ?_
          · show Steps p.tables e below (T923.setTop (mkF m 159 #[iv p0, iv p1, iv p2, iv p3, iv p4, iv (2:Int32), iv w0_1, iv w0_2, iv w0_3, iv w0_4, rv b780, iv (f4 (0:Int32) (own_v903 w0_2 w0_1)), iv (f5 (own_v897 w0_2 w0_1)), iv (f6 (0:Int32) (own_v905 w0_2 w0_1)), iv (f7 w0_4 (own_v899 w0_2 w0_1)), iv (own_v922 w0_4 w0_2 w0_1), iv (own_v926 w0_3 w0_2 w0_1), iv w0_5] [(.int (f7 w0_4 (own_v899 w0_2 w0_1)))])) _
            refine XS.ifYes X923.here hx rfl (pc0 := 159) (pc' := 169) rfl (hb hby at_159) rfl (XT.i0_lt_t hs159_5) (by decide) (by decide) ?_
            show Steps p.tables e below (T923.setTop (mkF m 169 #[iv p0, iv p1, iv p2, iv p3, iv p4, iv (2:Int32), iv w0_1, iv w0_2, iv w0_3, iv w0_4, rv b780, iv (f4 (0:Int32) (own_v903 w0_2 w0_1)), iv (f5 (own_v897 w0_2 w0_1)), iv (f6 (0:Int32) (own_v905 w0_2 w0_1)), iv (f7 w0_4 (own_v899 w0_2 w0_1)), iv (own_v922 w0_4 w0_2 w0_1), iv (own_v926 w0_3 w0_2 w0_1), iv w0_5] [])) _
            refine XS.iconst X923.here hx rfl (hb hby at_169) ?_
            exact k
          exact own_end X923 (BodyLoose.notSynchronized Bd) (fun h => by rw [Bd.returns] at h; cases h) (v := some (.int (0:Int32))) (fun fs hr => retN X923 hx (t := .boolean) Bd.returns (by simp) (hb hby at_170) hr) (by show Q0n2 Z p0 p1 p2 p3 p4 h0 n0 _ T923.heap _; rw [eh923]; exact ⟨(by subst hw0_5; exact absurd ⟨hs137_2, hs145_3, hs152_4, hs159_5⟩ (own_fin927 w0_1 (own_mem2 _ _ hw0_1) w0_2 (own_mem2 _ _ hw0_2) w0_4 (own_mem2 _ _ hw0_4))), N923⟩) (by decide) (by decide)
        · refine own_pre (A := T923.setTop (mkF m 166 #[iv p0, iv p1, iv p2, iv p3, iv p4, iv (2:Int32), iv w0_1, iv w0_2, iv w0_3, iv w0_4, rv b780, iv (f4 (0:Int32) (own_v903 w0_2 w0_1)), iv (f5 (own_v897 w0_2 w0_1)), iv (f6 (0:Int32) (own_v905 w0_2 w0_1)), iv (f7 w0_4 (own_v899 w0_2 w0_1)), iv (own_v922 w0_4 w0_2 w0_1), iv (own_v926 w0_3 w0_2 w0_1), iv w0_5] [(.int (2:Int32)), (.int (f7 w0_4 (own_v899 w0_2 w0_1)))])) (fun t k => ?_) ?_
          · show Steps p.tables e below (T923.setTop (mkF m 159 #[iv p0, iv p1, iv p2, iv p3, iv p4, iv (2:Int32), iv w0_1, iv w0_2, iv w0_3, iv w0_4, rv b780, iv (f4 (0:Int32) (own_v903 w0_2 w0_1)), iv (f5 (own_v897 w0_2 w0_1)), iv (f6 (0:Int32) (own_v905 w0_2 w0_1)), iv (f7 w0_4 (own_v899 w0_2 w0_1)), iv (own_v922 w0_4 w0_2 w0_1), iv (own_v926 w0_3 w0_2 w0_1), iv w0_5] [(.int (f7 w0_4 (own_v899 w0_2 w0_1)))])) _
            refine XS.ifNo X923.here hx rfl (hb hby at_159) rfl (XT.i0_lt_f hs159_5) ?_
            show Steps p.tables e below (T923.setTop (mkF m 162 #[iv p0, iv p1, iv p2, iv p3, iv p4, iv (2:Int32), iv w0_1, iv w0_2, iv w0_3, iv w0_4, rv b780, iv (f4 (0:Int32) (own_v903 w0_2 w0_1)), iv (f5 (own_v897 w0_2 w0_1)), iv (f6 (0:Int32) (own_v905 w0_2 w0_1)), iv (f7 w0_4 (own_v899 w0_2 w0_1)), iv (own_v922 w0_4 w0_2 w0_1), iv (own_v926 w0_3 w0_2 w0_1), iv w0_5] [])) _
            refine XS.iload X923.here hx rfl (hb hby at_162) rfl ?_
            show Steps p.tables e below (T923.setTop (mkF m 164 #[iv p0, iv p1, iv p2, iv p3, iv p4, iv (2:Int32), iv w0_1, iv w0_2, iv w0_3, iv w0_4, rv b780, iv (f4 (0:Int32) (own_v903 w0_2 w0_1)), iv (f5 (own_v897 w0_2 w0_1)), iv (f6 (0:Int32) (own_v905 w0_2 w0_1)), iv (f7 w0_4 (own_v899 w0_2 w0_1)), iv (own_v922 w0_4 w0_2 w0_1), iv (own_v926 w0_3 w0_2 w0_1), iv w0_5] [(.int (f7 w0_4 (own_v899 w0_2 w0_1)))])) _
            refine XS.iload X923.here hx rfl (hb hby at_164) rfl ?_
            exact k
          by_cases hs166_6 : (f7 w0_4 (own_v899 w0_2 w0_1)) < (2:Int32)
          · refine own_pre (A := T923.setTop (mkF m 171 #[iv p0, iv p1, iv p2, iv p3, iv p4, iv (2:Int32), iv w0_1, iv w0_2, iv w0_3, iv w0_4, rv b780, iv (f4 (0:Int32) (own_v903 w0_2 w0_1)), iv (f5 (own_v897 w0_2 w0_1)), iv (f6 (0:Int32) (own_v905 w0_2 w0_1)), iv (f7 w0_4 (own_v899 w0_2 w0_1)), iv (own_v922 w0_4 w0_2 w0_1), iv (own_v926 w0_3 w0_2 w0_1), iv w0_5] [])) (fun t k => ?_) ?_
            · show Steps p.tables e below (T923.setTop (mkF m 166 #[iv p0, iv p1, iv p2, iv p3, iv p4, iv (2:Int32), iv w0_1, iv w0_2, iv w0_3, iv w0_4, rv b780, iv (f4 (0:Int32) (own_v903 w0_2 w0_1)), iv (f5 (own_v897 w0_2 w0_1)), iv (f6 (0:Int32) (own_v905 w0_2 w0_1)), iv (f7 w0_4 (own_v899 w0_2 w0_1)), iv (own_v922 w0_4 w0_2 w0_1), iv (own_v926 w0_3 w0_2 w0_1), iv w0_5] [(.int (2:Int32)), (.int (f7 w0_4 (own_v899 w0_2 w0_1)))])) _
              refine XS.icmpYes X923.here hx rfl (pc0 := 166) (pc' := 171) rfl (hb hby at_166) rfl (XT.ii_lt_t hs166_6) (by decide) (by decide) ?_
              exact k
            have hJ185_7 : own_Goes p e below s (Q0n2 Z p0 p1 p2 p3 p4 h0 n0) 8 64 (T923.setTop (mkF m 185 #[iv p0, iv p1, iv p2, iv p3, iv p4, iv (2:Int32), iv w0_1, iv w0_2, iv w0_3, iv w0_4, rv b780, iv (f4 (0:Int32) (own_v903 w0_2 w0_1)), iv (f5 (own_v897 w0_2 w0_1)), iv (f6 (0:Int32) (own_v905 w0_2 w0_1)), iv (f7 w0_4 (own_v899 w0_2 w0_1)), iv (own_v922 w0_4 w0_2 w0_1), iv (own_v926 w0_3 w0_2 w0_1), iv w0_5] [])) := by
              have hJ207_8 : own_Goes p e below s (Q0n2 Z p0 p1 p2 p3 p4 h0 n0) 8 64 (T923.setTop (mkF m 207 #[iv p0, iv p1, iv p2, iv p3, iv p4, iv (2:Int32), iv w0_1, iv w0_2, iv w0_3, iv w0_4, rv b780, iv (f4 (0:Int32) (own_v903 w0_2 w0_1)), iv (f5 (own_v897 w0_2 w0_1)), iv (f6 (0:Int32) (own_v905 w0_2 w0_1)), iv (f7 w0_4 (own_v899 w0_2 w0_1)), iv (own_v922 w0_4 w0_2 w0_1), iv (own_v926 w0_3 w0_2 w0_1), iv w0_5] [])) := by
                have hJ230_9 : own_Goes p e below s (Q0n2 Z p0 p1 p2 p3 p4 h0 n0) 8 64 (T923.setTop (mkF m 230 #[iv p0, iv p1, iv p2, iv p3, iv p4, iv (2:Int32), iv w0_1, iv w0_2, iv w0_3, iv w0_4, rv b780, iv (f4 (0:Int32) (own_v903 w0_2 w0_1)), iv (f5 (own_v897 w0_2 w0_1)), iv (f6 (0:Int32) (own_v905 w0_2 w0_1)), iv (f7 w0_4 (own_v899 w0_2 w0_1)), iv (own_v922 w0_4 w0_2 w0_1), iv (own_v926 w0_3 w0_2 w0_1), iv w0_5] [])) := by
                  refine own_pre (A := T923.setTop (mkF m 236 #[iv p0, iv p1, iv p2, iv p3, iv p4, iv (2:Int32), iv w0_1, iv w0_2, iv w0_3, iv w0_4, rv b780, iv (f4 (0:Int32) (own_v903 w0_2 w0_1)), iv (f5 (own_v897 w0_2 w0_1)), iv (f6 (0:Int32) (own_v905 w0_2 w0_1)), iv (f7 w0_4 (own_v899 w0_2 w0_1)), iv (own_v922 w0_4 w0_2 w0_1), iv (own_v926 w0_3 w0_2 w0_1), iv w0_5] [(.int w0_5), (.int w0_4), (.int (own_v922 w0_4 w0_2 w0_1))])) (fun t k => ?_) ?_
                  · show Steps p.tables e below (T923.setTop (mkF m 230 #[iv p0, iv p1, iv p2, iv p3, iv p4, iv (2:Int32), iv w0_1, iv w0_2, iv w0_3, iv w0_4, rv b780, iv (f4 (0:Int32) (own_v903 w0_2 w0_1)), iv (f5 (own_v897 w0_2 w0_1)), iv (f6 (0:Int32) (own_v905 w0_2 w0_1)), iv (f7 w0_4 (own_v899 w0_2 w0_1)), iv (own_v922 w0_4 w0_2 w0_1), iv (own_v926 w0_3 w0_2 w0_1), iv w0_5] [])) _
                    refine XS.iload X923.here hx rfl (hb hby at_230) rfl ?_
                    show Steps p.tables e below (T923.setTop (mkF m 232 #[iv p0, iv p1, iv p2, iv p3, iv p4, iv (2:Int32), iv w0_1, iv w0_2, iv w0_3, iv w0_4, rv b780, iv (f4 (0:Int32) (own_v903 w0_2 w0_1)), iv (f5 (own_v897 w0_2 w0_1)), iv (f6 (0:Int32) (own_v905 w0_2 w0_1)), iv (f7 w0_4 (own_v899 w0_2 w0_1)), iv (own_v922 w0_4 w0_2 w0_1), iv (own_v926 w0_3 w0_2 w0_1), iv w0_5] [(.int (own_v922 w0_4 w0_2 w0_1))])) _
                    refine XS.iload X923.here hx rfl (hb hby at_232) rfl ?_
                    show Steps p.tables e below (T923.setTop (mkF m 234 #[iv p0, iv p1, iv p2, iv p3, iv p4, iv (2:Int32), iv w0_1, iv w0_2, iv w0_3, iv w0_4, rv b780, iv (f4 (0:Int32) (own_v903 w0_2 w0_1)), iv (f5 (own_v897 w0_2 w0_1)), iv (f6 (0:Int32) (own_v905 w0_2 w0_1)), iv (f7 w0_4 (own_v899 w0_2 w0_1)), iv (own_v922 w0_4 w0_2 w0_1), iv (own_v926 w0_3 w0_2 w0_1), iv w0_5] [(.int w0_4), (.int (own_v922 w0_4 w0_2 w0_1))])) _
                    refine XS.iload X923.here hx rfl (hb hby at_234) rfl ?_
                    exact k
                  obtain ⟨w0_6, hw0_6⟩ : ∃ z : Int32, z = (if w0_4 < w0_5 then (1:Int32) else (0:Int32)) := ⟨_, rfl⟩
                  refine own_pre (A := T923.setTop (mkF m 244 #[iv p0, iv p1, iv p2, iv p3, iv p4, iv (2:Int32), iv w0_1, iv w0_2, iv w0_3, iv w0_4, rv b780, iv (f4 (0:Int32) (own_v903 w0_2 w0_1)), iv (f5 (own_v897 w0_2 w0_1)), iv (f6 (0:Int32) (own_v905 w0_2 w0_1)), iv (f7 w0_4 (own_v899 w0_2 w0_1)), iv (own_v922 w0_4 w0_2 w0_1), iv (own_v926 w0_3 w0_2 w0_1), iv w0_5] [(.int w0_6), (.int (own_v922 w0_4 w0_2 w0_1))])) (fun t k => ?_) ?_
                  · show Steps p.tables e below (T923.setTop (mkF m 236 #[iv p0, iv p1, iv p2, iv p3, iv p4, iv (2:Int32), iv w0_1, iv w0_2, iv w0_3, iv w0_4, rv b780, iv (f4 (0:Int32) (own_v903 w0_2 w0_1)), iv (f5 (own_v897 w0_2 w0_1)), iv (f6 (0:Int32) (own_v905 w0_2 w0_1)), iv (f7 w0_4 (own_v899 w0_2 w0_1)), iv (own_v922 w0_4 w0_2 w0_1), iv (own_v926 w0_3 w0_2 w0_1), iv w0_5] [(.int w0_5), (.int w0_4), (.int (own_v922 w0_4 w0_2 w0_1))])) _
                    by_cases hm236_10 : w0_4 < w0_5
                    · refine XS.icmpNo X923.here hx rfl (hb hby at_236) rfl (XT.ii_ge_f hm236_10) ?_
                      show Steps p.tables e below (T923.setTop (mkF m 239 #[iv p0, iv p1, iv p2, iv p3, iv p4, iv (2:Int32), iv w0_1, iv w0_2, iv w0_3, iv w0_4, rv b780, iv (f4 (0:Int32) (own_v903 w0_2 w0_1)), iv (f5 (own_v897 w0_2 w0_1)), iv (f6 (0:Int32) (own_v905 w0_2 w0_1)), iv (f7 w0_4 (own_v899 w0_2 w0_1)), iv (own_v922 w0_4 w0_2 w0_1), iv (own_v926 w0_3 w0_2 w0_1), iv w0_5] [(.int (own_v922 w0_4 w0_2 w0_1))])) _
                      refine XS.iconst X923.here hx rfl (hb hby at_239) ?_
                      show Steps p.tables e below (T923.setTop (mkF m 240 #[iv p0, iv p1, iv p2, iv p3, iv p4, iv (2:Int32), iv w0_1, iv w0_2, iv w0_3, iv w0_4, rv b780, iv (f4 (0:Int32) (own_v903 w0_2 w0_1)), iv (f5 (own_v897 w0_2 w0_1)), iv (f6 (0:Int32) (own_v905 w0_2 w0_1)), iv (f7 w0_4 (own_v899 w0_2 w0_1)), iv (own_v922 w0_4 w0_2 w0_1), iv (own_v926 w0_3 w0_2 w0_1), iv w0_5] [(.int (1:Int32)), (.int (own_v922 w0_4 w0_2 w0_1))])) _
                      refine XS.goto X923.here hx rfl (pc0 := 240) (pc' := 244) rfl (hb hby at_240) (by decide) (by decide) ?_
                      rw [hw0_6.trans (if_pos hm236_10)] at k
                      exact k
                    · refine XS.icmpYes X923.here hx rfl (pc0 := 236) (pc' := 243) rfl (hb hby at_236) rfl (XT.ii_ge_t hm236_10) (by decide) (by decide) ?_
                      show Steps p.tables e below (T923.setTop (mkF m 243 #[iv p0, iv p1, iv p2, iv p3, iv p4, iv (2:Int32), iv w0_1, iv w0_2, iv w0_3, iv w0_4, rv b780, iv (f4 (0:Int32) (own_v903 w0_2 w0_1)), iv (f5 (own_v897 w0_2 w0_1)), iv (f6 (0:Int32) (own_v905 w0_2 w0_1)), iv (f7 w0_4 (own_v899 w0_2 w0_1)), iv (own_v922 w0_4 w0_2 w0_1), iv (own_v926 w0_3 w0_2 w0_1), iv w0_5] [(.int (own_v922 w0_4 w0_2 w0_1))])) _
                      refine XS.iconst X923.here hx rfl (hb hby at_243) ?_
                      rw [hw0_6.trans (if_neg hm236_10)] at k
                      exact k
                  by_cases hs244_11 : (own_v922 w0_4 w0_2 w0_1) = w0_6
                  · refine own_pre (A := T923.setTop (mkF m 255 #[iv p0, iv p1, iv p2, iv p3, iv p4, iv (2:Int32), iv w0_1, iv w0_2, iv w0_3, iv w0_4, rv b780, iv (f4 (0:Int32) (own_v903 w0_2 w0_1)), iv (f5 (own_v897 w0_2 w0_1)), iv (f6 (0:Int32) (own_v905 w0_2 w0_1)), iv (f7 w0_4 (own_v899 w0_2 w0_1)), iv (own_v922 w0_4 w0_2 w0_1), iv (own_v926 w0_3 w0_2 w0_1), iv w0_5] [(.int w0_1), (.int w0_3), (.int (own_v926 w0_3 w0_2 w0_1))])) (fun t k => ?_) ?_
                    · show Steps p.tables e below (T923.setTop (mkF m 244 #[iv p0, iv p1, iv p2, iv p3, iv p4, iv (2:Int32), iv w0_1, iv w0_2, iv w0_3, iv w0_4, rv b780, iv (f4 (0:Int32) (own_v903 w0_2 w0_1)), iv (f5 (own_v897 w0_2 w0_1)), iv (f6 (0:Int32) (own_v905 w0_2 w0_1)), iv (f7 w0_4 (own_v899 w0_2 w0_1)), iv (own_v922 w0_4 w0_2 w0_1), iv (own_v926 w0_3 w0_2 w0_1), iv w0_5] [(.int w0_6), (.int (own_v922 w0_4 w0_2 w0_1))])) _
                      refine XS.icmpYes X923.here hx rfl (pc0 := 244) (pc' := 249) rfl (hb hby at_244) rfl (XT.ii_eq_t hs244_11) (by decide) (by decide) ?_
                      show Steps p.tables e below (T923.setTop (mkF m 249 #[iv p0, iv p1, iv p2, iv p3, iv p4, iv (2:Int32), iv w0_1, iv w0_2, iv w0_3, iv w0_4, rv b780, iv (f4 (0:Int32) (own_v903 w0_2 w0_1)), iv (f5 (own_v897 w0_2 w0_1)), iv (f6 (0:Int32) (own_v905 w0_2 w0_1)), iv (f7 w0_4 (own_v899 w0_2 w0_1)), iv (own_v922 w0_4 w0_2 w0_1), iv (own_v926 w0_3 w0_2 w0_1), iv w0_5] [])) _
                      refine XS.iload X923.here hx rfl (hb hby at_249) rfl ?_
                      show Steps p.tables e below (T923.setTop (mkF m 251 #[iv p0, iv p1, iv p2, iv p3, iv p4, iv (2:Int32), iv w0_1, iv w0_2, iv w0_3, iv w0_4, rv b780, iv (f4 (0:Int32) (own_v903 w0_2 w0_1)), iv (f5 (own_v897 w0_2 w0_1)), iv (f6 (0:Int32) (own_v905 w0_2 w0_1)), iv (f7 w0_4 (own_v899 w0_2 w0_1)), iv (own_v922 w0_4 w0_2 w0_1), iv (own_v926 w0_3 w0_2 w0_1), iv w0_5] [(.int (own_v926 w0_3 w0_2 w0_1))])) _
                      refine XS.iload X923.here hx rfl (hb hby at_251) rfl ?_
                      show Steps p.tables e below (T923.setTop (mkF m 253 #[iv p0, iv p1, iv p2, iv p3, iv p4, iv (2:Int32), iv w0_1, iv w0_2, iv w0_3, iv w0_4, rv b780, iv (f4 (0:Int32) (own_v903 w0_2 w0_1)), iv (f5 (own_v897 w0_2 w0_1)), iv (f6 (0:Int32) (own_v905 w0_2 w0_1)), iv (f7 w0_4 (own_v899 w0_2 w0_1)), iv (own_v922 w0_4 w0_2 w0_1), iv (own_v926 w0_3 w0_2 w0_1), iv w0_5] [(.int w0_3), (.int (own_v926 w0_3 w0_2 w0_1))])) _
                      refine XS.iload X923.here hx rfl (hb hby at_253) rfl ?_
                      exact k
                    obtain ⟨w0_7, hw0_7⟩ : ∃ z : Int32, z = (if w0_3 = w0_1 then (1:Int32) else (if w0_3 = w0_2 then (1:Int32) else (0:Int32))) := ⟨_, rfl⟩
                    refine own_pre (A := T923.setTop (mkF m 270 #[iv p0, iv p1, iv p2, iv p3, iv p4, iv (2:Int32), iv w0_1, iv w0_2, iv w0_3, iv w0_4, rv b780, iv (f4 (0:Int32) (own_v903 w0_2 w0_1)), iv (f5 (own_v897 w0_2 w0_1)), iv (f6 (0:Int32) (own_v905 w0_2 w0_1)), iv (f7 w0_4 (own_v899 w0_2 w0_1)), iv (own_v922 w0_4 w0_2 w0_1), iv (own_v926 w0_3 w0_2 w0_1), iv w0_5] [(.int w0_7), (.int (own_v926 w0_3 w0_2 w0_1))])) (fun t k => ?_) ?_
                    · show Steps p.tables e below (T923.setTop (mkF m 255 #[iv p0, iv p1, iv p2, iv p3, iv p4, iv (2:Int32), iv w0_1, iv w0_2, iv w0_3, iv w0_4, rv b780, iv (f4 (0:Int32) (own_v903 w0_2 w0_1)), iv (f5 (own_v897 w0_2 w0_1)), iv (f6 (0:Int32) (own_v905 w0_2 w0_1)), iv (f7 w0_4 (own_v899 w0_2 w0_1)), iv (own_v922 w0_4 w0_2 w0_1), iv (own_v926 w0_3 w0_2 w0_1), iv w0_5] [(.int w0_1), (.int w0_3), (.int (own_v926 w0_3 w0_2 w0_1))])) _
                      by_cases hm255_12 : w0_3 = w0_1
                      · refine XS.icmpYes X923.here hx rfl (pc0 := 255) (pc' := 265) rfl (hb hby at_255) rfl (XT.ii_eq_t hm255_12) (by decide) (by decide) ?_
                        show Steps p.tables e below (T923.setTop (mkF m 265 #[iv p0, iv p1, iv p2, iv p3, iv p4, iv (2:Int32), iv w0_1, iv w0_2, iv w0_3, iv w0_4, rv b780, iv (f4 (0:Int32) (own_v903 w0_2 w0_1)), iv (f5 (own_v897 w0_2 w0_1)), iv (f6 (0:Int32) (own_v905 w0_2 w0_1)), iv (f7 w0_4 (own_v899 w0_2 w0_1)), iv (own_v922 w0_4 w0_2 w0_1), iv (own_v926 w0_3 w0_2 w0_1), iv w0_5] [(.int (own_v926 w0_3 w0_2 w0_1))])) _
                        refine XS.iconst X923.here hx rfl (hb hby at_265) ?_
                        show Steps p.tables e below (T923.setTop (mkF m 266 #[iv p0, iv p1, iv p2, iv p3, iv p4, iv (2:Int32), iv w0_1, iv w0_2, iv w0_3, iv w0_4, rv b780, iv (f4 (0:Int32) (own_v903 w0_2 w0_1)), iv (f5 (own_v897 w0_2 w0_1)), iv (f6 (0:Int32) (own_v905 w0_2 w0_1)), iv (f7 w0_4 (own_v899 w0_2 w0_1)), iv (own_v922 w0_4 w0_2 w0_1), iv (own_v926 w0_3 w0_2 w0_1), iv w0_5] [(.int (1:Int32)), (.int (own_v926 w0_3 w0_2 w0_1))])) _
                        refine XS.goto X923.here hx rfl (pc0 := 266) (pc' := 270) rfl (hb hby at_266) (by decide) (by decide) ?_
                        rw [hw0_7.trans (if_pos hm255_12)] at k
                        exact k
                      · refine XS.icmpNo X923.here hx rfl (hb hby at_255) rfl (XT.ii_eq_f hm255_12) ?_
                        show Steps p.tables e below (T923.setTop (mkF m 258 #[iv p0, iv p1, iv p2, iv p3, iv p4, iv (2:Int32), iv w0_1, iv w0_2, iv w0_3, iv w0_4, rv b780, iv (f4 (0:Int32) (own_v903 w0_2 w0_1)), iv (f5 (own_v897 w0_2 w0_1)), iv (f6 (0:Int32) (own_v905 w0_2 w0_1)), iv (f7 w0_4 (own_v899 w0_2 w0_1)), iv (own_v922 w0_4 w0_2 w0_1), iv (own_v926 w0_3 w0_2 w0_1), iv w0_5] [(.int (own_v926 w0_3 w0_2 w0_1))])) _
                        refine XS.iload X923.here hx rfl (hb hby at_258) rfl ?_
                        show Steps p.tables e below (T923.setTop (mkF m 260 #[iv p0, iv p1, iv p2, iv p3, iv p4, iv (2:Int32), iv w0_1, iv w0_2, iv w0_3, iv w0_4, rv b780, iv (f4 (0:Int32) (own_v903 w0_2 w0_1)), iv (f5 (own_v897 w0_2 w0_1)), iv (f6 (0:Int32) (own_v905 w0_2 w0_1)), iv (f7 w0_4 (own_v899 w0_2 w0_1)), iv (own_v922 w0_4 w0_2 w0_1), iv (own_v926 w0_3 w0_2 w0_1), iv w0_5] [(.int w0_3), (.int (own_v926 w0_3 w0_2 w0_1))])) _
                        refine XS.iload X923.here hx rfl (hb hby at_260) rfl ?_
                        show Steps p.tables e below (T923.setTop (mkF m 262 #[iv p0, iv p1, iv p2, iv p3, iv p4, iv (2:Int32), iv w0_1, iv w0_2, iv w0_3, iv w0_4, rv b780, iv (f4 (0:Int32) (own_v903 w0_2 w0_1)), iv (f5 (own_v897 w0_2 w0_1)), iv (f6 (0:Int32) (own_v905 w0_2 w0_1)), iv (f7 w0_4 (own_v899 w0_2 w0_1)), iv (own_v922 w0_4 w0_2 w0_1), iv (own_v926 w0_3 w0_2 w0_1), iv w0_5] [(.int w0_2), (.int w0_3), (.int (own_v926 w0_3 w0_2 w0_1))])) _
                        by_cases hm262_13 : w0_3 = w0_2
                        · refine XS.icmpNo X923.here hx rfl (hb hby at_262) rfl (XT.ii_ne_f hm262_13) ?_
                          show Steps p.tables e below (T923.setTop (mkF m 265 #[iv p0, iv p1, iv p2, iv p3, iv p4, iv (2:Int32), iv w0_1, iv w0_2, iv w0_3, iv w0_4, rv b780, iv (f4 (0:Int32) (own_v903 w0_2 w0_1)), iv (f5 (own_v897 w0_2 w0_1)), iv (f6 (0:Int32) (own_v905 w0_2 w0_1)), iv (f7 w0_4 (own_v899 w0_2 w0_1)), iv (own_v922 w0_4 w0_2 w0_1), iv (own_v926 w0_3 w0_2 w0_1), iv w0_5] [(.int (own_v926 w0_3 w0_2 w0_1))])) _
                          refine XS.iconst X923.here hx rfl (hb hby at_265) ?_
                          show Steps p.tables e below (T923.setTop (mkF m 266 #[iv p0, iv p1, iv p2, iv p3, iv p4, iv (2:Int32), iv w0_1, iv w0_2, iv w0_3, iv w0_4, rv b780, iv (f4 (0:Int32) (own_v903 w0_2 w0_1)), iv (f5 (own_v897 w0_2 w0_1)), iv (f6 (0:Int32) (own_v905 w0_2 w0_1)), iv (f7 w0_4 (own_v899 w0_2 w0_1)), iv (own_v922 w0_4 w0_2 w0_1), iv (own_v926 w0_3 w0_2 w0_1), iv w0_5] [(.int (1:Int32)), (.int (own_v926 w0_3 w0_2 w0_1))])) _
                          refine XS.goto X923.here hx rfl (pc0 := 266) (pc' := 270) rfl (hb hby at_266) (by decide) (by decide) ?_
                          rw [hw0_7.trans ((if_neg hm255_12).trans (if_pos hm262_13))] at k
                          exact k
                        · refine XS.icmpYes X923.here hx rfl (pc0 := 262) (pc' := 269) rfl (hb hby at_262) rfl (XT.ii_ne_t hm262_13) (by decide) (by decide) ?_
                          show Steps p.tables e below (T923.setTop (mkF m 269 #[iv p0, iv p1, iv p2, iv p3, iv p4, iv (2:Int32), iv w0_1, iv w0_2, iv w0_3, iv w0_4, rv b780, iv (f4 (0:Int32) (own_v903 w0_2 w0_1)), iv (f5 (own_v897 w0_2 w0_1)), iv (f6 (0:Int32) (own_v905 w0_2 w0_1)), iv (f7 w0_4 (own_v899 w0_2 w0_1)), iv (own_v922 w0_4 w0_2 w0_1), iv (own_v926 w0_3 w0_2 w0_1), iv w0_5] [(.int (own_v926 w0_3 w0_2 w0_1))])) _
                          refine XS.iconst X923.here hx rfl (hb hby at_269) ?_
                          rw [hw0_7.trans ((if_neg hm255_12).trans (if_neg hm262_13))] at k
                          exact k
                    by_cases hs270_14 : (own_v926 w0_3 w0_2 w0_1) = w0_7
                    · refine own_pre (A := T923.setTop (mkF m 276 #[iv p0, iv p1, iv p2, iv p3, iv p4, iv (2:Int32), iv w0_1, iv w0_2, iv w0_3, iv w0_4, rv b780, iv (f4 (0:Int32) (own_v903 w0_2 w0_1)), iv (f5 (own_v897 w0_2 w0_1)), iv (f6 (0:Int32) (own_v905 w0_2 w0_1)), iv (f7 w0_4 (own_v899 w0_2 w0_1)), iv (own_v922 w0_4 w0_2 w0_1), iv (own_v926 w0_3 w0_2 w0_1), iv w0_5] [(.int (1:Int32))])) (fun t k => ?_) ?_
                      · show Steps p.tables e below (T923.setTop (mkF m 270 #[iv p0, iv p1, iv p2, iv p3, iv p4, iv (2:Int32), iv w0_1, iv w0_2, iv w0_3, iv w0_4, rv b780, iv (f4 (0:Int32) (own_v903 w0_2 w0_1)), iv (f5 (own_v897 w0_2 w0_1)), iv (f6 (0:Int32) (own_v905 w0_2 w0_1)), iv (f7 w0_4 (own_v899 w0_2 w0_1)), iv (own_v922 w0_4 w0_2 w0_1), iv (own_v926 w0_3 w0_2 w0_1), iv w0_5] [(.int w0_7), (.int (own_v926 w0_3 w0_2 w0_1))])) _
                        refine XS.icmpYes X923.here hx rfl (pc0 := 270) (pc' := 275) rfl (hb hby at_270) rfl (XT.ii_eq_t hs270_14) (by decide) (by decide) ?_
                        show Steps p.tables e below (T923.setTop (mkF m 275 #[iv p0, iv p1, iv p2, iv p3, iv p4, iv (2:Int32), iv w0_1, iv w0_2, iv w0_3, iv w0_4, rv b780, iv (f4 (0:Int32) (own_v903 w0_2 w0_1)), iv (f5 (own_v897 w0_2 w0_1)), iv (f6 (0:Int32) (own_v905 w0_2 w0_1)), iv (f7 w0_4 (own_v899 w0_2 w0_1)), iv (own_v922 w0_4 w0_2 w0_1), iv (own_v926 w0_3 w0_2 w0_1), iv w0_5] [])) _
                        refine XS.iconst X923.here hx rfl (hb hby at_275) ?_
                        exact k
                      exact own_end X923 (BodyLoose.notSynchronized Bd) (fun h => by rw [Bd.returns] at h; cases h) (v := some (.int (1:Int32))) (fun fs hr => retN X923 hx (t := .boolean) Bd.returns (by simp) (hb hby at_276) hr) (by show Q0n2 Z p0 p1 p2 p3 p4 h0 n0 _ T923.heap _; rw [eh923]; exact ⟨rfl, N923⟩) (by decide) (by decide)
                    · refine own_pre (A := T923.setTop (mkF m 274 #[iv p0, iv p1, iv p2, iv p3, iv p4, iv (2:Int32), iv w0_1, iv w0_2, iv w0_3, iv w0_4, rv b780, iv (f4 (0:Int32) (own_v903 w0_2 w0_1)), iv (f5 (own_v897 w0_2 w0_1)), iv (f6 (0:Int32) (own_v905 w0_2 w0_1)), iv (f7 w0_4 (own_v899 w0_2 w0_1)), iv (own_v922 w0_4 w0_2 w0_1), iv (own_v926 w0_3 w0_2 w0_1), iv w0_5] [(.int (0:Int32))])) (fun t k => ?_) ?_
                      · show Steps p.tables e below (T923.setTop (mkF m 270 #[iv p0, iv p1, iv p2, iv p3, iv p4, iv (2:Int32), iv w0_1, iv w0_2, iv w0_3, iv w0_4, rv b780, iv (f4 (0:Int32) (own_v903 w0_2 w0_1)), iv (f5 (own_v897 w0_2 w0_1)), iv (f6 (0:Int32) (own_v905 w0_2 w0_1)), iv (f7 w0_4 (own_v899 w0_2 w0_1)), iv (own_v922 w0_4 w0_2 w0_1), iv (own_v926 w0_3 w0_2 w0_1), iv w0_5] [(.int w0_7), (.int (own_v926 w0_3 w0_2 w0_1))])) _
                        refine XS.icmpNo X923.here hx rfl (hb hby at_270) rfl (XT.ii_eq_f hs270_14) ?_
                        show Steps p.tables e below (T923.setTop (mkF m 273 #[iv p0, iv p1, iv p2, iv p3, iv p4, iv (2:Int32), iv w0_1, iv w0_2, iv w0_3, iv w0_4, rv b780, iv (f4 (0:Int32) (own_v903 w0_2 w0_1)), iv (f5 (own_v897 w0_2 w0_1)), iv (f6 (0:Int32) (own_v905 w0_2 w0_1)), iv (f7 w0_4 (own_v899 w0_2 w0_1)), iv (own_v922 w0_4 w0_2 w0_1), iv (own_v926 w0_3 w0_2 w0_1), iv w0_5] [])) _
                        refine XS.iconst X923.here hx rfl (hb hby at_273) ?_
                        exact k
                      exact own_end X923 (BodyLoose.notSynchronized Bd) (fun h => by rw [Bd.returns] at h; cases h) (v := some (.int (0:Int32))) (fun fs hr => retN X923 hx (t := .boolean) Bd.returns (by simp) (hb hby at_274) hr) (by show Q0n2 Z p0 p1 p2 p3 p4 h0 n0 _ T923.heap _; rw [eh923]; exact ⟨(by subst hw0_5 hw0_6 hw0_7; exact absurd ⟨hs137_2, hs145_3, hs152_4, hs159_5, hs166_6, hs244_11, hs270_14⟩ (own_fin928 w0_1 (own_mem2 _ _ hw0_1) w0_2 (own_mem2 _ _ hw0_2) w0_3 (own_mem2 _ _ hw0_3) w0_4 (own_mem2 _ _ hw0_4))), N923⟩) (by decide) (by decide)
                  · refine own_pre (A := T923.setTop (mkF m 248 #[iv p0, iv p1, iv p2, iv p3, iv p4, iv (2:Int32), iv w0_1, iv w0_2, iv w0_3, iv w0_4, rv b780, iv (f4 (0:Int32) (own_v903 w0_2 w0_1)), iv (f5 (own_v897 w0_2 w0_1)), iv (f6 (0:Int32) (own_v905 w0_2 w0_1)), iv (f7 w0_4 (own_v899 w0_2 w0_1)), iv (own_v922 w0_4 w0_2 w0_1), iv (own_v926 w0_3 w0_2 w0_1), iv w0_5] [(.int (0:Int32))])) (fun t k => ?_) ?_
                    · show Steps p.tables e below (T923.setTop (mkF m 244 #[iv p0, iv p1, iv p2, iv p3, iv p4, iv (2:Int32), iv w0_1, iv w0_2, iv w0_3, iv w0_4, rv b780, iv (f4 (0:Int32) (own_v903 w0_2 w0_1)), iv (f5 (own_v897 w0_2 w0_1)), iv (f6 (0:Int32) (own_v905 w0_2 w0_1)), iv (f7 w0_4 (own_v899 w0_2 w0_1)), iv (own_v922 w0_4 w0_2 w0_1), iv (own_v926 w0_3 w0_2 w0_1), iv w0_5] [(.int w0_6), (.int (own_v922 w0_4 w0_2 w0_1))])) _
                      refine XS.icmpNo X923.here hx rfl (hb hby at_244) rfl (XT.ii_eq_f hs244_11) ?_
                      show Steps p.tables e below (T923.setTop (mkF m 247 #[iv p0, iv p1, iv p2, iv p3, iv p4, iv (2:Int32), iv w0_1, iv w0_2, iv w0_3, iv w0_4, rv b780, iv (f4 (0:Int32) (own_v903 w0_2 w0_1)), iv (f5 (own_v897 w0_2 w0_1)), iv (f6 (0:Int32) (own_v905 w0_2 w0_1)), iv (f7 w0_4 (own_v899 w0_2 w0_1)), iv (own_v922 w0_4 w0_2 w0_1), iv (own_v926 w0_3 w0_2 w0_1), iv w0_5] [])) _
                      refine XS.iconst X923.here hx rfl (hb hby at_247) ?_
                      exact k
                    exact own_end X923 (BodyLoose.notSynchronized Bd) (fun h => by rw [Bd.returns] at h; cases h) (v := some (.int (0:Int32))) (fun fs hr => retN X923 hx (t := .boolean) Bd.returns (by simp) (hb hby at_248) hr) (by show Q0n2 Z p0 p1 p2 p3 p4 h0 n0 _ T923.heap _; rw [eh923]; exact ⟨(by subst hw0_5 hw0_6; exact absurd ⟨hs137_2, hs145_3, hs152_4, hs159_5, hs166_6, hs244_11⟩ (own_fin929 w0_1 (own_mem2 _ _ hw0_1) w0_2 (own_mem2 _ _ hw0_2) w0_4 (own_mem2 _ _ hw0_4))), N923⟩) (by decide) (by decide)
                refine own_pre (A := T923.setTop (mkF m 211 #[iv p0, iv p1, iv p2, iv p3, iv p4, iv (2:Int32), iv w0_1, iv w0_2, iv w0_3, iv w0_4, rv b780, iv (f4 (0:Int32) (own_v903 w0_2 w0_1)), iv (f5 (own_v897 w0_2 w0_1)), iv (f6 (0:Int32) (own_v905 w0_2 w0_1)), iv (f7 w0_4 (own_v899 w0_2 w0_1)), iv (own_v922 w0_4 w0_2 w0_1), iv (own_v926 w0_3 w0_2 w0_1), iv w0_5] [(.int w0_5), (.int w0_4)])) (fun t k => ?_) ?_
                · show Steps p.tables e below (T923.setTop (mkF m 207 #[iv p0, iv p1, iv p2, iv p3, iv p4, iv (2:Int32), iv w0_1, iv w0_2, iv w0_3, iv w0_4, rv b780, iv (f4 (0:Int32) (own_v903 w0_2 w0_1)), iv (f5 (own_v897 w0_2 w0_1)), iv (f6 (0:Int32) (own_v905 w0_2 w0_1)), iv (f7 w0_4 (own_v899 w0_2 w0_1)), iv (own_v922 w0_4 w0_2 w0_1), iv (own_v926 w0_3 w0_2 w0_1), iv w0_5] [])) _
                  refine XS.iload X923.here hx rfl (hb hby at_207) rfl ?_
                  show Steps p.tables e below (T923.setTop (mkF m 209 #[iv p0, iv p1, iv p2, iv p3, iv p4, iv (2:Int32), iv w0_1, iv w0_2, iv w0_3, iv w0_4, rv b780, iv (f4 (0:Int32) (own_v903 w0_2 w0_1)), iv (f5 (own_v897 w0_2 w0_1)), iv (f6 (0:Int32) (own_v905 w0_2 w0_1)), iv (f7 w0_4 (own_v899 w0_2 w0_1)), iv (own_v922 w0_4 w0_2 w0_1), iv (own_v926 w0_3 w0_2 w0_1), iv w0_5] [(.int w0_4)])) _
                  refine XS.iload X923.here hx rfl (hb hby at_209) rfl ?_
                  exact k
                by_cases hs211_15 : w0_4 < w0_5
                · refine own_pre (A := T923.setTop (mkF m 230 #[iv p0, iv p1, iv p2, iv p3, iv p4, iv (2:Int32), iv w0_1, iv w0_2, iv w0_3, iv w0_4, rv b780, iv (f4 (0:Int32) (own_v903 w0_2 w0_1)), iv (f5 (own_v897 w0_2 w0_1)), iv (f6 (0:Int32) (own_v905 w0_2 w0_1)), iv (f7 w0_4 (own_v899 w0_2 w0_1)), iv (own_v922 w0_4 w0_2 w0_1), iv (own_v926 w0_3 w0_2 w0_1), iv w0_5] [])) (fun t k => ?_) ?_
                  · show Steps p.tables e below (T923.setTop (mkF m 211 #[iv p0, iv p1, iv p2, iv p3, iv p4, iv (2:Int32), iv w0_1, iv w0_2, iv w0_3, iv w0_4, rv b780, iv (f4 (0:Int32) (own_v903 w0_2 w0_1)), iv (f5 (own_v897 w0_2 w0_1)), iv (f6 (0:Int32) (own_v905 w0_2 w0_1)), iv (f7 w0_4 (own_v899 w0_2 w0_1)), iv (own_v922 w0_4 w0_2 w0_1), iv (own_v926 w0_3 w0_2 w0_1), iv w0_5] [(.int w0_5), (.int w0_4)])) _
                    refine XS.icmpYes X923.here hx rfl (pc0 := 211) (pc' := 230) rfl (hb hby at_211) rfl (XT.ii_lt_t hs211_15) (by decide) (by decide) ?_
                    exact k
                  exact hJ230_9
                · refine own_pre (A := T923.setTop (mkF m 218 #[iv p0, iv p1, iv p2, iv p3, iv p4, iv (2:Int32), iv w0_1, iv w0_2, iv w0_3, iv w0_4, rv b780, iv (f4 (0:Int32) (own_v903 w0_2 w0_1)), iv (f5 (own_v897 w0_2 w0_1)), iv (f6 (0:Int32) (own_v905 w0_2 w0_1)), iv (f7 w0_4 (own_v899 w0_2 w0_1)), iv (own_v922 w0_4 w0_2 w0_1), iv (own_v926 w0_3 w0_2 w0_1), iv w0_5] [(.int w0_1), (.int (f7 w0_4 (own_v899 w0_2 w0_1)))])) (fun t k => ?_) ?_
                  · show Steps p.tables e below (T923.setTop (mkF m 211 #[iv p0, iv p1, iv p2, iv p3, iv p4, iv (2:Int32), iv w0_1, iv w0_2, iv w0_3, iv w0_4, rv b780, iv (f4 (0:Int32) (own_v903 w0_2 w0_1)), iv (f5 (own_v897 w0_2 w0_1)), iv (f6 (0:Int32) (own_v905 w0_2 w0_1)), iv (f7 w0_4 (own_v899 w0_2 w0_1)), iv (own_v922 w0_4 w0_2 w0_1), iv (own_v926 w0_3 w0_2 w0_1), iv w0_5] [(.int w0_5), (.int w0_4)])) _
                    refine XS.icmpNo X923.here hx rfl (hb hby at_211) rfl (XT.ii_lt_f hs211_15) ?_
                    show Steps p.tables e below (T923.setTop (mkF m 214 #[iv p0, iv p1, iv p2, iv p3, iv p4, iv (2:Int32), iv w0_1, iv w0_2, iv w0_3, iv w0_4, rv b780, iv (f4 (0:Int32) (own_v903 w0_2 w0_1)), iv (f5 (own_v897 w0_2 w0_1)), iv (f6 (0:Int32) (own_v905 w0_2 w0_1)), iv (f7 w0_4 (own_v899 w0_2 w0_1)), iv (own_v922 w0_4 w0_2 w0_1), iv (own_v926 w0_3 w0_2 w0_1), iv w0_5] [])) _
                    refine XS.iload X923.here hx rfl (hb hby at_214) rfl ?_
                    show Steps p.tables e below (T923.setTop (mkF m 216 #[iv p0, iv p1, iv p2, iv p3, iv p4, iv (2:Int32), iv w0_1, iv w0_2, iv w0_3, iv w0_4, rv b780, iv (f4 (0:Int32) (own_v903 w0_2 w0_1)), iv (f5 (own_v897 w0_2 w0_1)), iv (f6 (0:Int32) (own_v905 w0_2 w0_1)), iv (f7 w0_4 (own_v899 w0_2 w0_1)), iv (own_v922 w0_4 w0_2 w0_1), iv (own_v926 w0_3 w0_2 w0_1), iv w0_5] [(.int (f7 w0_4 (own_v899 w0_2 w0_1)))])) _
                    refine XS.iload X923.here hx rfl (hb hby at_216) rfl ?_
                    exact k
                  by_cases hs218_16 : (f7 w0_4 (own_v899 w0_2 w0_1)) = w0_1
                  · refine own_pre (A := T923.setTop (mkF m 229 #[iv p0, iv p1, iv p2, iv p3, iv p4, iv (2:Int32), iv w0_1, iv w0_2, iv w0_3, iv w0_4, rv b780, iv (f4 (0:Int32) (own_v903 w0_2 w0_1)), iv (f5 (own_v897 w0_2 w0_1)), iv (f6 (0:Int32) (own_v905 w0_2 w0_1)), iv (f7 w0_4 (own_v899 w0_2 w0_1)), iv (own_v922 w0_4 w0_2 w0_1), iv (own_v926 w0_3 w0_2 w0_1), iv w0_5] [(.int (0:Int32))])) (fun t k => ?_) ?_
                    · show Steps p.tables e below (T923.setTop (mkF m 218 #[iv p0, iv p1, iv p2, iv p3, iv p4, iv (2:Int32), iv w0_1, iv w0_2, iv w0_3, iv w0_4, rv b780, iv (f4 (0:Int32) (own_v903 w0_2 w0_1)), iv (f5 (own_v897 w0_2 w0_1)), iv (f6 (0:Int32) (own_v905 w0_2 w0_1)), iv (f7 w0_4 (own_v899 w0_2 w0_1)), iv (own_v922 w0_4 w0_2 w0_1), iv (own_v926 w0_3 w0_2 w0_1), iv w0_5] [(.int w0_1), (.int (f7 w0_4 (own_v899 w0_2 w0_1)))])) _
                      refine XS.icmpYes X923.here hx rfl (pc0 := 218) (pc' := 228) rfl (hb hby at_218) rfl (XT.ii_eq_t hs218_16) (by decide) (by decide) ?_
                      show Steps p.tables e below (T923.setTop (mkF m 228 #[iv p0, iv p1, iv p2, iv p3, iv p4, iv (2:Int32), iv w0_1, iv w0_2, iv w0_3, iv w0_4, rv b780, iv (f4 (0:Int32) (own_v903 w0_2 w0_1)), iv (f5 (own_v897 w0_2 w0_1)), iv (f6 (0:Int32) (own_v905 w0_2 w0_1)), iv (f7 w0_4 (own_v899 w0_2 w0_1)), iv (own_v922 w0_4 w0_2 w0_1), iv (own_v926 w0_3 w0_2 w0_1), iv w0_5] [])) _
                      refine XS.iconst X923.here hx rfl (hb hby at_228) ?_
                      exact k
                    exact own_end X923 (BodyLoose.notSynchronized Bd) (fun h => by rw [Bd.returns] at h; cases h) (v := some (.int (0:Int32))) (fun fs hr => retN X923 hx (t := .boolean) Bd.returns (by simp) (hb hby at_229) hr) (by show Q0n2 Z p0 p1 p2 p3 p4 h0 n0 _ T923.heap _; rw [eh923]; exact ⟨(by subst hw0_5; exact absurd ⟨hs137_2, hs145_3, hs152_4, hs159_5, hs166_6, hs211_15, hs218_16⟩ (own_fin930 w0_1 (own_mem2 _ _ hw0_1) w0_2 (own_mem2 _ _ hw0_2) w0_4 (own_mem2 _ _ hw0_4))), N923⟩) (by decide) (by decide)
                  · refine own_pre (A := T923.setTop (mkF m 225 #[iv p0, iv p1, iv p2, iv p3, iv p4, iv (2:Int32), iv w0_1, iv w0_2, iv w0_3, iv w0_4, rv b780, iv (f4 (0:Int32) (own_v903 w0_2 w0_1)), iv (f5 (own_v897 w0_2 w0_1)), iv (f6 (0:Int32) (own_v905 w0_2 w0_1)), iv (f7 w0_4 (own_v899 w0_2 w0_1)), iv (own_v922 w0_4 w0_2 w0_1), iv (own_v926 w0_3 w0_2 w0_1), iv w0_5] [(.int w0_2), (.int (f7 w0_4 (own_v899 w0_2 w0_1)))])) (fun t k => ?_) ?_
                    · show Steps p.tables e below (T923.setTop (mkF m 218 #[iv p0, iv p1, iv p2, iv p3, iv p4, iv (2:Int32), iv w0_1, iv w0_2, iv w0_3, iv w0_4, rv b780, iv (f4 (0:Int32) (own_v903 w0_2 w0_1)), iv (f5 (own_v897 w0_2 w0_1)), iv (f6 (0:Int32) (own_v905 w0_2 w0_1)), iv (f7 w0_4 (own_v899 w0_2 w0_1)), iv (own_v922 w0_4 w0_2 w0_1), iv (own_v926 w0_3 w0_2 w0_1), iv w0_5] [(.int w0_1), (.int (f7 w0_4 (own_v899 w0_2 w0_1)))])) _
                      refine XS.icmpNo X923.here hx rfl (hb hby at_218) rfl (XT.ii_eq_f hs218_16) ?_
                      show Steps p.tables e below (T923.setTop (mkF m 221 #[iv p0, iv p1, iv p2, iv p3, iv p4, iv (2:Int32), iv w0_1, iv w0_2, iv w0_3, iv w0_4, rv b780, iv (f4 (0:Int32) (own_v903 w0_2 w0_1)), iv (f5 (own_v897 w0_2 w0_1)), iv (f6 (0:Int32) (own_v905 w0_2 w0_1)), iv (f7 w0_4 (own_v899 w0_2 w0_1)), iv (own_v922 w0_4 w0_2 w0_1), iv (own_v926 w0_3 w0_2 w0_1), iv w0_5] [])) _
                      refine XS.iload X923.here hx rfl (hb hby at_221) rfl ?_
                      show Steps p.tables e below (T923.setTop (mkF m 223 #[iv p0, iv p1, iv p2, iv p3, iv p4, iv (2:Int32), iv w0_1, iv w0_2, iv w0_3, iv w0_4, rv b780, iv (f4 (0:Int32) (own_v903 w0_2 w0_1)), iv (f5 (own_v897 w0_2 w0_1)), iv (f6 (0:Int32) (own_v905 w0_2 w0_1)), iv (f7 w0_4 (own_v899 w0_2 w0_1)), iv (own_v922 w0_4 w0_2 w0_1), iv (own_v926 w0_3 w0_2 w0_1), iv w0_5] [(.int (f7 w0_4 (own_v899 w0_2 w0_1)))])) _
                      refine XS.iload X923.here hx rfl (hb hby at_223) rfl ?_
                      exact k
                    by_cases hs225_17 : (f7 w0_4 (own_v899 w0_2 w0_1)) = w0_2
                    · refine own_pre (A := T923.setTop (mkF m 229 #[iv p0, iv p1, iv p2, iv p3, iv p4, iv (2:Int32), iv w0_1, iv w0_2, iv w0_3, iv w0_4, rv b780, iv (f4 (0:Int32) (own_v903 w0_2 w0_1)), iv (f5 (own_v897 w0_2 w0_1)), iv (f6 (0:Int32) (own_v905 w0_2 w0_1)), iv (f7 w0_4 (own_v899 w0_2 w0_1)), iv (own_v922 w0_4 w0_2 w0_1), iv (own_v926 w0_3 w0_2 w0_1), iv w0_5] [(.int (0:Int32))])) (fun t k => ?_) ?_
                      · show Steps p.tables e below (T923.setTop (mkF m 225 #[iv p0, iv p1, iv p2, iv p3, iv p4, iv (2:Int32), iv w0_1, iv w0_2, iv w0_3, iv w0_4, rv b780, iv (f4 (0:Int32) (own_v903 w0_2 w0_1)), iv (f5 (own_v897 w0_2 w0_1)), iv (f6 (0:Int32) (own_v905 w0_2 w0_1)), iv (f7 w0_4 (own_v899 w0_2 w0_1)), iv (own_v922 w0_4 w0_2 w0_1), iv (own_v926 w0_3 w0_2 w0_1), iv w0_5] [(.int w0_2), (.int (f7 w0_4 (own_v899 w0_2 w0_1)))])) _
                        refine XS.icmpNo X923.here hx rfl (hb hby at_225) rfl (XT.ii_ne_f hs225_17) ?_
                        show Steps p.tables e below (T923.setTop (mkF m 228 #[iv p0, iv p1, iv p2, iv p3, iv p4, iv (2:Int32), iv w0_1, iv w0_2, iv w0_3, iv w0_4, rv b780, iv (f4 (0:Int32) (own_v903 w0_2 w0_1)), iv (f5 (own_v897 w0_2 w0_1)), iv (f6 (0:Int32) (own_v905 w0_2 w0_1)), iv (f7 w0_4 (own_v899 w0_2 w0_1)), iv (own_v922 w0_4 w0_2 w0_1), iv (own_v926 w0_3 w0_2 w0_1), iv w0_5] [])) _
                        refine XS.iconst X923.here hx rfl (hb hby at_228) ?_
                        exact k
                      exact own_end X923 (BodyLoose.notSynchronized Bd) (fun h => by rw [Bd.returns] at h; cases h) (v := some (.int (0:Int32))) (fun fs hr => retN X923 hx (t := .boolean) Bd.returns (by simp) (hb hby at_229) hr) (by show Q0n2 Z p0 p1 p2 p3 p4 h0 n0 _ T923.heap _; rw [eh923]; exact ⟨(by subst hw0_5; exact absurd ⟨hs137_2, hs145_3, hs152_4, hs159_5, hs166_6, hs211_15, hs218_16, hs225_17⟩ (own_fin931 w0_1 (own_mem2 _ _ hw0_1) w0_2 (own_mem2 _ _ hw0_2) w0_4 (own_mem2 _ _ hw0_4))), N923⟩) (by decide) (by decide)
                    · refine own_pre (A := T923.setTop (mkF m 230 #[iv p0, iv p1, iv p2, iv p3, iv p4, iv (2:Int32), iv w0_1, iv w0_2, iv w0_3, iv w0_4, rv b780, iv (f4 (0:Int32) (own_v903 w0_2 w0_1)), iv (f5 (own_v897 w0_2 w0_1)), iv (f6 (0:Int32) (own_v905 w0_2 w0_1)), iv (f7 w0_4 (own_v899 w0_2 w0_1)), iv (own_v922 w0_4 w0_2 w0_1), iv (own_v926 w0_3 w0_2 w0_1), iv w0_5] [])) (fun t k => ?_) ?_
                      · show Steps p.tables e below (T923.setTop (mkF m 225 #[iv p0, iv p1, iv p2, iv p3, iv p4, iv (2:Int32), iv w0_1, iv w0_2, iv w0_3, iv w0_4, rv b780, iv (f4 (0:Int32) (own_v903 w0_2 w0_1)), iv (f5 (own_v897 w0_2 w0_1)), iv (f6 (0:Int32) (own_v905 w0_2 w0_1)), iv (f7 w0_4 (own_v899 w0_2 w0_1)), iv (own_v922 w0_4 w0_2 w0_1), iv (own_v926 w0_3 w0_2 w0_1), iv w0_5] [(.int w0_2), (.int (f7 w0_4 (own_v899 w0_2 w0_1)))])) _
                        refine XS.icmpYes X923.here hx rfl (pc0 := 225) (pc' := 230) rfl (hb hby at_225) rfl (XT.ii_ne_t hs225_17) (by decide) (by decide) ?_
                        exact k
                      exact hJ230_9
              refine own_pre (A := T923.setTop (mkF m 188 #[iv p0, iv p1, iv p2, iv p3, iv p4, iv (2:Int32), iv w0_1, iv w0_2, iv w0_3, iv w0_4, rv b780, iv (f4 (0:Int32) (own_v903 w0_2 w0_1)), iv (f5 (own_v897 w0_2 w0_1)), iv (f6 (0:Int32) (own_v905 w0_2 w0_1)), iv (f7 w0_4 (own_v899 w0_2 w0_1)), iv (own_v922 w0_4 w0_2 w0_1), iv (own_v926 w0_3 w0_2 w0_1), iv w0_5] [(.int (1:Int32)), (.int w0_4)])) (fun t k => ?_) ?_
              · show Steps p.tables e below (T923.setTop (mkF m 185 #[iv p0, iv p1, iv p2, iv p3, iv p4, iv (2:Int32), iv w0_1, iv w0_2, iv w0_3, iv w0_4, rv b780, iv (f4 (0:Int32) (own_v903 w0_2 w0_1)), iv (f5 (own_v897 w0_2 w0_1)), iv (f6 (0:Int32) (own_v905 w0_2 w0_1)), iv (f7 w0_4 (own_v899 w0_2 w0_1)), iv (own_v922 w0_4 w0_2 w0_1), iv (own_v926 w0_3 w0_2 w0_1), iv w0_5] [])) _
                refine XS.iload X923.here hx rfl (hb hby at_185) rfl ?_
                show Steps p.tables e below (T923.setTop (mkF m 187 #[iv p0, iv p1, iv p2, iv p3, iv p4, iv (2:Int32), iv w0_1, iv w0_2, iv w0_3, iv w0_4, rv b780, iv (f4 (0:Int32) (own_v903 w0_2 w0_1)), iv (f5 (own_v897 w0_2 w0_1)), iv (f6 (0:Int32) (own_v905 w0_2 w0_1)), iv (f7 w0_4 (own_v899 w0_2 w0_1)), iv (own_v922 w0_4 w0_2 w0_1), iv (own_v926 w0_3 w0_2 w0_1), iv w0_5] [(.int w0_4)])) _
                refine XS.iconst X923.here hx rfl (hb hby at_187) ?_
                exact k
              by_cases hs188_18 : w0_4 = (1:Int32)
              · refine own_pre (A := T923.setTop (mkF m 195 #[iv p0, iv p1, iv p2, iv p3, iv p4, iv (2:Int32), iv w0_1, iv w0_2, iv w0_3, iv w0_4, rv b780, iv (f4 (0:Int32) (own_v903 w0_2 w0_1)), iv (f5 (own_v897 w0_2 w0_1)), iv (f6 (0:Int32) (own_v905 w0_2 w0_1)), iv (f7 w0_4 (own_v899 w0_2 w0_1)), iv (own_v922 w0_4 w0_2 w0_1), iv (own_v926 w0_3 w0_2 w0_1), iv w0_5] [(.int w0_2), (.int w0_1)])) (fun t k => ?_) ?_
                · show Steps p.tables e below (T923.setTop (mkF m 188 #[iv p0, iv p1, iv p2, iv p3, iv p4, iv (2:Int32), iv w0_1, iv w0_2, iv w0_3, iv w0_4, rv b780, iv (f4 (0:Int32) (own_v903 w0_2 w0_1)), iv (f5 (own_v897 w0_2 w0_1)), iv (f6 (0:Int32) (own_v905 w0_2 w0_1)), iv (f7 w0_4 (own_v899 w0_2 w0_1)), iv (own_v922 w0_4 w0_2 w0_1), iv (own_v926 w0_3 w0_2 w0_1), iv w0_5] [(.int (1:Int32)), (.int w0_4)])) _
                  refine XS.icmpNo X923.here hx rfl (hb hby at_188) rfl (XT.ii_ne_f hs188_18) ?_
                  show Steps p.tables e below (T923.setTop (mkF m 191 #[iv p0, iv p1, iv p2, iv p3, iv p4, iv (2:Int32), iv w0_1, iv w0_2, iv w0_3, iv w0_4, rv b780, iv (f4 (0:Int32) (own_v903 w0_2 w0_1)), iv (f5 (own_v897 w0_2 w0_1)), iv (f6 (0:Int32) (own_v905 w0_2 w0_1)), iv (f7 w0_4 (own_v899 w0_2 w0_1)), iv (own_v922 w0_4 w0_2 w0_1), iv (own_v926 w0_3 w0_2 w0_1), iv w0_5] [])) _
                  refine XS.iload X923.here hx rfl (hb hby at_191) rfl ?_
                  show Steps p.tables e below (T923.setTop (mkF m 193 #[iv p0, iv p1, iv p2, iv p3, iv p4, iv (2:Int32), iv w0_1, iv w0_2, iv w0_3, iv w0_4, rv b780, iv (f4 (0:Int32) (own_v903 w0_2 w0_1)), iv (f5 (own_v897 w0_2 w0_1)), iv (f6 (0:Int32) (own_v905 w0_2 w0_1)), iv (f7 w0_4 (own_v899 w0_2 w0_1)), iv (own_v922 w0_4 w0_2 w0_1), iv (own_v926 w0_3 w0_2 w0_1), iv w0_5] [(.int w0_1)])) _
                  refine XS.iload X923.here hx rfl (hb hby at_193) rfl ?_
                  exact k
                by_cases hs195_19 : w0_1 = w0_2
                · refine own_pre (A := T923.setTop (mkF m 207 #[iv p0, iv p1, iv p2, iv p3, iv p4, iv (2:Int32), iv w0_1, iv w0_2, iv w0_3, iv w0_4, rv b780, iv (f4 (0:Int32) (own_v903 w0_2 w0_1)), iv (f5 (own_v897 w0_2 w0_1)), iv (f6 (0:Int32) (own_v905 w0_2 w0_1)), iv (f7 w0_4 (own_v899 w0_2 w0_1)), iv (own_v922 w0_4 w0_2 w0_1), iv (own_v926 w0_3 w0_2 w0_1), iv w0_5] [])) (fun t k => ?_) ?_
                  · show Steps p.tables e below (T923.setTop (mkF m 195 #[iv p0, iv p1, iv p2, iv p3, iv p4, iv (2:Int32), iv w0_1, iv w0_2, iv w0_3, iv w0_4, rv b780, iv (f4 (0:Int32) (own_v903 w0_2 w0_1)), iv (f5 (own_v897 w0_2 w0_1)), iv (f6 (0:Int32) (own_v905 w0_2 w0_1)), iv (f7 w0_4 (own_v899 w0_2 w0_1)), iv (own_v922 w0_4 w0_2 w0_1), iv (own_v926 w0_3 w0_2 w0_1), iv w0_5] [(.int w0_2), (.int w0_1)])) _
                    refine XS.icmpYes X923.here hx rfl (pc0 := 195) (pc' := 207) rfl (hb hby at_195) rfl (XT.ii_eq_t hs195_19) (by decide) (by decide) ?_
                    exact k
                  exact hJ207_8
                · refine own_pre (A := T923.setTop (mkF m 202 #[iv p0, iv p1, iv p2, iv p3, iv p4, iv (2:Int32), iv w0_1, iv w0_2, iv w0_3, iv w0_4, rv b780, iv (f4 (0:Int32) (own_v903 w0_2 w0_1)), iv (f5 (own_v897 w0_2 w0_1)), iv (f6 (0:Int32) (own_v905 w0_2 w0_1)), iv (f7 w0_4 (own_v899 w0_2 w0_1)), iv (own_v922 w0_4 w0_2 w0_1), iv (own_v926 w0_3 w0_2 w0_1), iv w0_5] [(.int w0_2), (.int (f7 w0_4 (own_v899 w0_2 w0_1)))])) (fun t k => ?_) ?_
                  · show Steps p.tables e below (T923.setTop (mkF m 195 #[iv p0, iv p1, iv p2, iv p3, iv p4, iv (2:Int32), iv w0_1, iv w0_2, iv w0_3, iv w0_4, rv b780, iv (f4 (0:Int32) (own_v903 w0_2 w0_1)), iv (f5 (own_v897 w0_2 w0_1)), iv (f6 (0:Int32) (own_v905 w0_2 w0_1)), iv (f7 w0_4 (own_v899 w0_2 w0_1)), iv (own_v922 w0_4 w0_2 w0_1), iv (own_v926 w0_3 w0_2 w0_1), iv w0_5] [(.int w0_2), (.int w0_1)])) _
                    refine XS.icmpNo X923.here hx rfl (hb hby at_195) rfl (XT.ii_eq_f hs195_19) ?_
                    show Steps p.tables e below (T923.setTop (mkF m 198 #[iv p0, iv p1, iv p2, iv p3, iv p4, iv (2:Int32), iv w0_1, iv w0_2, iv w0_3, iv w0_4, rv b780, iv (f4 (0:Int32) (own_v903 w0_2 w0_1)), iv (f5 (own_v897 w0_2 w0_1)), iv (f6 (0:Int32) (own_v905 w0_2 w0_1)), iv (f7 w0_4 (own_v899 w0_2 w0_1)), iv (own_v922 w0_4 w0_2 w0_1), iv (own_v926 w0_3 w0_2 w0_1), iv w0_5] [])) _
                    refine XS.iload X923.here hx rfl (hb hby at_198) rfl ?_
                    show Steps p.tables e below (T923.setTop (mkF m 200 #[iv p0, iv p1, iv p2, iv p3, iv p4, iv (2:Int32), iv w0_1, iv w0_2, iv w0_3, iv w0_4, rv b780, iv (f4 (0:Int32) (own_v903 w0_2 w0_1)), iv (f5 (own_v897 w0_2 w0_1)), iv (f6 (0:Int32) (own_v905 w0_2 w0_1)), iv (f7 w0_4 (own_v899 w0_2 w0_1)), iv (own_v922 w0_4 w0_2 w0_1), iv (own_v926 w0_3 w0_2 w0_1), iv w0_5] [(.int (f7 w0_4 (own_v899 w0_2 w0_1)))])) _
                    refine XS.iload X923.here hx rfl (hb hby at_200) rfl ?_
                    exact k
                  by_cases hs202_20 : (f7 w0_4 (own_v899 w0_2 w0_1)) = w0_2
                  · refine own_pre (A := T923.setTop (mkF m 207 #[iv p0, iv p1, iv p2, iv p3, iv p4, iv (2:Int32), iv w0_1, iv w0_2, iv w0_3, iv w0_4, rv b780, iv (f4 (0:Int32) (own_v903 w0_2 w0_1)), iv (f5 (own_v897 w0_2 w0_1)), iv (f6 (0:Int32) (own_v905 w0_2 w0_1)), iv (f7 w0_4 (own_v899 w0_2 w0_1)), iv (own_v922 w0_4 w0_2 w0_1), iv (own_v926 w0_3 w0_2 w0_1), iv w0_5] [])) (fun t k => ?_) ?_
                    · show Steps p.tables e below (T923.setTop (mkF m 202 #[iv p0, iv p1, iv p2, iv p3, iv p4, iv (2:Int32), iv w0_1, iv w0_2, iv w0_3, iv w0_4, rv b780, iv (f4 (0:Int32) (own_v903 w0_2 w0_1)), iv (f5 (own_v897 w0_2 w0_1)), iv (f6 (0:Int32) (own_v905 w0_2 w0_1)), iv (f7 w0_4 (own_v899 w0_2 w0_1)), iv (own_v922 w0_4 w0_2 w0_1), iv (own_v926 w0_3 w0_2 w0_1), iv w0_5] [(.int w0_2), (.int (f7 w0_4 (own_v899 w0_2 w0_1)))])) _
                      refine XS.icmpYes X923.here hx rfl (pc0 := 202) (pc' := 207) rfl (hb hby at_202) rfl (XT.ii_eq_t hs202_20) (by decide) (by decide) ?_
                      exact k
                    exact hJ207_8
                  · refine own_pre (A := T923.setTop (mkF m 206 #[iv p0, iv p1, iv p2, iv p3, iv p4, iv (2:Int32), iv w0_1, iv w0_2, iv w0_3, iv w0_4, rv b780, iv (f4 (0:Int32) (own_v903 w0_2 w0_1)), iv (f5 (own_v897 w0_2 w0_1)), iv (f6 (0:Int32) (own_v905 w0_2 w0_1)), iv (f7 w0_4 (own_v899 w0_2 w0_1)), iv (own_v922 w0_4 w0_2 w0_1), iv (own_v926 w0_3 w0_2 w0_1), iv w0_5] [(.int (0:Int32))])) (fun t k => ?_) ?_
                    · show Steps p.tables e below (T923.setTop (mkF m 202 #[iv p0, iv p1, iv p2, iv p3, iv p4, iv (2:Int32), iv w0_1, iv w0_2, iv w0_3, iv w0_4, rv b780, iv (f4 (0:Int32) (own_v903 w0_2 w0_1)), iv (f5 (own_v897 w0_2 w0_1)), iv (f6 (0:Int32) (own_v905 w0_2 w0_1)), iv (f7 w0_4 (own_v899 w0_2 w0_1)), iv (own_v922 w0_4 w0_2 w0_1), iv (own_v926 w0_3 w0_2 w0_1), iv w0_5] [(.int w0_2), (.int (f7 w0_4 (own_v899 w0_2 w0_1)))])) _
                      refine XS.icmpNo X923.here hx rfl (hb hby at_202) rfl (XT.ii_eq_f hs202_20) ?_
                      show Steps p.tables e below (T923.setTop (mkF m 205 #[iv p0, iv p1, iv p2, iv p3, iv p4, iv (2:Int32), iv w0_1, iv w0_2, iv w0_3, iv w0_4, rv b780, iv (f4 (0:Int32) (own_v903 w0_2 w0_1)), iv (f5 (own_v897 w0_2 w0_1)), iv (f6 (0:Int32) (own_v905 w0_2 w0_1)), iv (f7 w0_4 (own_v899 w0_2 w0_1)), iv (own_v922 w0_4 w0_2 w0_1), iv (own_v926 w0_3 w0_2 w0_1), iv w0_5] [])) _
                      refine XS.iconst X923.here hx rfl (hb hby at_205) ?_
                      exact k
                    exact own_end X923 (BodyLoose.notSynchronized Bd) (fun h => by rw [Bd.returns] at h; cases h) (v := some (.int (0:Int32))) (fun fs hr => retN X923 hx (t := .boolean) Bd.returns (by simp) (hb hby at_206) hr) (by show Q0n2 Z p0 p1 p2 p3 p4 h0 n0 _ T923.heap _; rw [eh923]; exact ⟨(by subst hw0_5; exact absurd ⟨hs137_2, hs145_3, hs152_4, hs159_5, hs166_6, hs188_18, hs195_19, hs202_20⟩ (own_fin932 w0_1 (own_mem2 _ _ hw0_1) w0_2 (own_mem2 _ _ hw0_2) w0_4 (own_mem2 _ _ hw0_4))), N923⟩) (by decide) (by decide)
              · refine own_pre (A := T923.setTop (mkF m 207 #[iv p0, iv p1, iv p2, iv p3, iv p4, iv (2:Int32), iv w0_1, iv w0_2, iv w0_3, iv w0_4, rv b780, iv (f4 (0:Int32) (own_v903 w0_2 w0_1)), iv (f5 (own_v897 w0_2 w0_1)), iv (f6 (0:Int32) (own_v905 w0_2 w0_1)), iv (f7 w0_4 (own_v899 w0_2 w0_1)), iv (own_v922 w0_4 w0_2 w0_1), iv (own_v926 w0_3 w0_2 w0_1), iv w0_5] [])) (fun t k => ?_) ?_
                · show Steps p.tables e below (T923.setTop (mkF m 188 #[iv p0, iv p1, iv p2, iv p3, iv p4, iv (2:Int32), iv w0_1, iv w0_2, iv w0_3, iv w0_4, rv b780, iv (f4 (0:Int32) (own_v903 w0_2 w0_1)), iv (f5 (own_v897 w0_2 w0_1)), iv (f6 (0:Int32) (own_v905 w0_2 w0_1)), iv (f7 w0_4 (own_v899 w0_2 w0_1)), iv (own_v922 w0_4 w0_2 w0_1), iv (own_v926 w0_3 w0_2 w0_1), iv w0_5] [(.int (1:Int32)), (.int w0_4)])) _
                  refine XS.icmpYes X923.here hx rfl (pc0 := 188) (pc' := 207) rfl (hb hby at_188) rfl (XT.ii_ne_t hs188_18) (by decide) (by decide) ?_
                  exact k
                exact hJ207_8
            refine own_pre (A := T923.setTop (mkF m 173 #[iv p0, iv p1, iv p2, iv p3, iv p4, iv (2:Int32), iv w0_1, iv w0_2, iv w0_3, iv w0_4, rv b780, iv (f4 (0:Int32) (own_v903 w0_2 w0_1)), iv (f5 (own_v897 w0_2 w0_1)), iv (f6 (0:Int32) (own_v905 w0_2 w0_1)), iv (f7 w0_4 (own_v899 w0_2 w0_1)), iv (own_v922 w0_4 w0_2 w0_1), iv (own_v926 w0_3 w0_2 w0_1), iv w0_5] [(.int w0_4)])) (fun t k => ?_) ?_
            · show Steps p.tables e below (T923.setTop (mkF m 171 #[iv p0, iv p1, iv p2, iv p3, iv p4, iv (2:Int32), iv w0_1, iv w0_2, iv w0_3, iv w0_4, rv b780, iv (f4 (0:Int32) (own_v903 w0_2 w0_1)), iv (f5 (own_v897 w0_2 w0_1)), iv (f6 (0:Int32) (own_v905 w0_2 w0_1)), iv (f7 w0_4 (own_v899 w0_2 w0_1)), iv (own_v922 w0_4 w0_2 w0_1), iv (own_v926 w0_3 w0_2 w0_1), iv w0_5] [])) _
              refine XS.iload X923.here hx rfl (hb hby at_171) rfl ?_
              exact k
            by_cases hs173_21 : w0_4 = (0:Int32)
            · refine own_pre (A := T923.setTop (mkF m 180 #[iv p0, iv p1, iv p2, iv p3, iv p4, iv (2:Int32), iv w0_1, iv w0_2, iv w0_3, iv w0_4, rv b780, iv (f4 (0:Int32) (own_v903 w0_2 w0_1)), iv (f5 (own_v897 w0_2 w0_1)), iv (f6 (0:Int32) (own_v905 w0_2 w0_1)), iv (f7 w0_4 (own_v899 w0_2 w0_1)), iv (own_v922 w0_4 w0_2 w0_1), iv (own_v926 w0_3 w0_2 w0_1), iv w0_5] [(.int w0_1), (.int (f7 w0_4 (own_v899 w0_2 w0_1)))])) (fun t k => ?_) ?_
              · show Steps p.tables e below (T923.setTop (mkF m 173 #[iv p0, iv p1, iv p2, iv p3, iv p4, iv (2:Int32), iv w0_1, iv w0_2, iv w0_3, iv w0_4, rv b780, iv (f4 (0:Int32) (own_v903 w0_2 w0_1)), iv (f5 (own_v897 w0_2 w0_1)), iv (f6 (0:Int32) (own_v905 w0_2 w0_1)), iv (f7 w0_4 (own_v899 w0_2 w0_1)), iv (own_v922 w0_4 w0_2 w0_1), iv (own_v926 w0_3 w0_2 w0_1), iv w0_5] [(.int w0_4)])) _
                refine XS.ifNo X923.here hx rfl (hb hby at_173) rfl (XT.i0_ne_f hs173_21) ?_
                show Steps p.tables e below (T923.setTop (mkF m 176 #[iv p0, iv p1, iv p2, iv p3, iv p4, iv (2:Int32), iv w0_1, iv w0_2, iv w0_3, iv w0_4, rv b780, iv (f4 (0:Int32) (own_v903 w0_2 w0_1)), iv (f5 (own_v897 w0_2 w0_1)), iv (f6 (0:Int32) (own_v905 w0_2 w0_1)), iv (f7 w0_4 (own_v899 w0_2 w0_1)), iv (own_v922 w0_4 w0_2 w0_1), iv (own_v926 w0_3 w0_2 w0_1), iv w0_5] [])) _
                refine XS.iload X923.here hx rfl (hb hby at_176) rfl ?_
                show Steps p.tables e below (T923.setTop (mkF m 178 #[iv p0, iv p1, iv p2, iv p3, iv p4, iv (2:Int32), iv w0_1, iv w0_2, iv w0_3, iv w0_4, rv b780, iv (f4 (0:Int32) (own_v903 w0_2 w0_1)), iv (f5 (own_v897 w0_2 w0_1)), iv (f6 (0:Int32) (own_v905 w0_2 w0_1)), iv (f7 w0_4 (own_v899 w0_2 w0_1)), iv (own_v922 w0_4 w0_2 w0_1), iv (own_v926 w0_3 w0_2 w0_1), iv w0_5] [(.int (f7 w0_4 (own_v899 w0_2 w0_1)))])) _
                refine XS.iload X923.here hx rfl (hb hby at_178) rfl ?_
                exact k
              by_cases hs180_22 : (f7 w0_4 (own_v899 w0_2 w0_1)) = w0_1
              · refine own_pre (A := T923.setTop (mkF m 185 #[iv p0, iv p1, iv p2, iv p3, iv p4, iv (2:Int32), iv w0_1, iv w0_2, iv w0_3, iv w0_4, rv b780, iv (f4 (0:Int32) (own_v903 w0_2 w0_1)), iv (f5 (own_v897 w0_2 w0_1)), iv (f6 (0:Int32) (own_v905 w0_2 w0_1)), iv (f7 w0_4 (own_v899 w0_2 w0_1)), iv (own_v922 w0_4 w0_2 w0_1), iv (own_v926 w0_3 w0_2 w0_1), iv w0_5] [])) (fun t k => ?_) ?_
                · show Steps p.tables e below (T923.setTop (mkF m 180 #[iv p0, iv p1, iv p2, iv p3, iv p4, iv (2:Int32), iv w0_1, iv w0_2, iv w0_3, iv w0_4, rv b780, iv (f4 (0:Int32) (own_v903 w0_2 w0_1)), iv (f5 (own_v897 w0_2 w0_1)), iv (f6 (0:Int32) (own_v905 w0_2 w0_1)), iv (f7 w0_4 (own_v899 w0_2 w0_1)), iv (own_v922 w0_4 w0_2 w0_1), iv (own_v926 w0_3 w0_2 w0_1), iv w0_5] [(.int w0_1), (.int (f7 w0_4 (own_v899 w0_2 w0_1)))])) _
                  refine XS.icmpYes X923.here hx rfl (pc0 := 180) (pc' := 185) rfl (hb hby at_180) rfl (XT.ii_eq_t hs180_22) (by decide) (by decide) ?_
                  exact k
                exact hJ185_7
              · refine own_pre (A := T923.setTop (mkF m 184 #[iv p0, iv p1, iv p2, iv p3, iv p4, iv (2:Int32), iv w0_1, iv w0_2, iv w0_3, iv w0_4, rv b780, iv (f4 (0:Int32) (own_v903 w0_2 w0_1)), iv (f5 (own_v897 w0_2 w0_1)), iv (f6 (0:Int32) (own_v905 w0_2 w0_1)), iv (f7 w0_4 (own_v899 w0_2 w0_1)), iv (own_v922 w0_4 w0_2 w0_1), iv (own_v926 w0_3 w0_2 w0_1), iv w0_5] [(.int (0:Int32))])) (fun t k => ?_) ?_
                · show Steps p.tables e below (T923.setTop (mkF m 180 #[iv p0, iv p1, iv p2, iv p3, iv p4, iv (2:Int32), iv w0_1, iv w0_2, iv w0_3, iv w0_4, rv b780, iv (f4 (0:Int32) (own_v903 w0_2 w0_1)), iv (f5 (own_v897 w0_2 w0_1)), iv (f6 (0:Int32) (own_v905 w0_2 w0_1)), iv (f7 w0_4 (own_v899 w0_2 w0_1)), iv (own_v922 w0_4 w0_2 w0_1), iv (own_v926 w0_3 w0_2 w0_1), iv w0_5] [(.int w0_1), (.int (f7 w0_4 (own_v899 w0_2 w0_1)))])) _
                  refine XS.icmpNo X923.here hx rfl (hb hby at_180) rfl (XT.ii_eq_f hs180_22) ?_
                  show Steps p.tables e below (T923.setTop (mkF m 183 #[iv p0, iv p1, iv p2, iv p3, iv p4, iv (2:Int32), iv w0_1, iv w0_2, iv w0_3, iv w0_4, rv b780, iv (f4 (0:Int32) (own_v903 w0_2 w0_1)), iv (f5 (own_v897 w0_2 w0_1)), iv (f6 (0:Int32) (own_v905 w0_2 w0_1)), iv (f7 w0_4 (own_v899 w0_2 w0_1)), iv (own_v922 w0_4 w0_2 w0_1), iv (own_v926 w0_3 w0_2 w0_1), iv w0_5] [])) _
                  refine XS.iconst X923.here hx rfl (hb hby at_183) ?_
                  exact k
                exact own_end X923 (BodyLoose.notSynchronized Bd) (fun h => by rw [Bd.returns] at h; cases h) (v := some (.int (0:Int32))) (fun fs hr => retN X923 hx (t := .boolean) Bd.returns (by simp) (hb hby at_184) hr) (by show Q0n2 Z p0 p1 p2 p3 p4 h0 n0 _ T923.heap _; rw [eh923]; exact ⟨(by subst hw0_5; exact absurd ⟨hs137_2, hs145_3, hs152_4, hs159_5, hs166_6, hs173_21, hs180_22⟩ (own_fin933 w0_1 (own_mem2 _ _ hw0_1) w0_2 (own_mem2 _ _ hw0_2) w0_4 (own_mem2 _ _ hw0_4))), N923⟩) (by decide) (by decide)
            · refine own_pre (A := T923.setTop (mkF m 185 #[iv p0, iv p1, iv p2, iv p3, iv p4, iv (2:Int32), iv w0_1, iv w0_2, iv w0_3, iv w0_4, rv b780, iv (f4 (0:Int32) (own_v903 w0_2 w0_1)), iv (f5 (own_v897 w0_2 w0_1)), iv (f6 (0:Int32) (own_v905 w0_2 w0_1)), iv (f7 w0_4 (own_v899 w0_2 w0_1)), iv (own_v922 w0_4 w0_2 w0_1), iv (own_v926 w0_3 w0_2 w0_1), iv w0_5] [])) (fun t k => ?_) ?_
              · show Steps p.tables e below (T923.setTop (mkF m 173 #[iv p0, iv p1, iv p2, iv p3, iv p4, iv (2:Int32), iv w0_1, iv w0_2, iv w0_3, iv w0_4, rv b780, iv (f4 (0:Int32) (own_v903 w0_2 w0_1)), iv (f5 (own_v897 w0_2 w0_1)), iv (f6 (0:Int32) (own_v905 w0_2 w0_1)), iv (f7 w0_4 (own_v899 w0_2 w0_1)), iv (own_v922 w0_4 w0_2 w0_1), iv (own_v926 w0_3 w0_2 w0_1), iv w0_5] [(.int w0_4)])) _
                refine XS.ifYes X923.here hx rfl (pc0 := 173) (pc' := 185) rfl (hb hby at_173) rfl (XT.i0_ne_t hs173_21) (by decide) (by decide) ?_
                exact k
              exact hJ185_7
          · refine own_pre (A := T923.setTop (mkF m 170 #[iv p0, iv p1, iv p2, iv p3, iv p4, iv (2:Int32), iv w0_1, iv w0_2, iv w0_3, iv w0_4, rv b780, iv (f4 (0:Int32) (own_v903 w0_2 w0_1)), iv (f5 (own_v897 w0_2 w0_1)), iv (f6 (0:Int32) (own_v905 w0_2 w0_1)), iv (f7 w0_4 (own_v899 w0_2 w0_1)), iv (own_v922 w0_4 w0_2 w0_1), iv (own_v926 w0_3 w0_2 w0_1), iv w0_5] [(.int (0:Int32))])) (fun t k => ?_) ?_
            · show Steps p.tables e below (T923.setTop (mkF m 166 #[iv p0, iv p1, iv p2, iv p3, iv p4, iv (2:Int32), iv w0_1, iv w0_2, iv w0_3, iv w0_4, rv b780, iv (f4 (0:Int32) (own_v903 w0_2 w0_1)), iv (f5 (own_v897 w0_2 w0_1)), iv (f6 (0:Int32) (own_v905 w0_2 w0_1)), iv (f7 w0_4 (own_v899 w0_2 w0_1)), iv (own_v922 w0_4 w0_2 w0_1), iv (own_v926 w0_3 w0_2 w0_1), iv w0_5] [(.int (2:Int32)), (.int (f7 w0_4 (own_v899 w0_2 w0_1)))])) _
              refine XS.icmpNo X923.here hx rfl (hb hby at_166) rfl (XT.ii_lt_f hs166_6) ?_
              show Steps p.tables e below (T923.setTop (mkF m 169 #[iv p0, iv p1, iv p2, iv p3, iv p4, iv (2:Int32), iv w0_1, iv w0_2, iv w0_3, iv w0_4, rv b780, iv (f4 (0:Int32) (own_v903 w0_2 w0_1)), iv (f5 (own_v897 w0_2 w0_1)), iv (f6 (0:Int32) (own_v905 w0_2 w0_1)), iv (f7 w0_4 (own_v899 w0_2 w0_1)), iv (own_v922 w0_4 w0_2 w0_1), iv (own_v926 w0_3 w0_2 w0_1), iv w0_5] [])) _
              refine XS.iconst X923.here hx rfl (hb hby at_169) ?_
              exact k
            exact own_end X923 (BodyLoose.notSynchronized Bd) (fun h => by rw [Bd.returns] at h; cases h) (v := some (.int (0:Int32))) (fun fs hr => retN X923 hx (t := .boolean) Bd.returns (by simp) (hb hby at_170) hr) (by show Q0n2 Z p0 p1 p2 p3 p4 h0 n0 _ T923.heap _; rw [eh923]; exact ⟨(by subst hw0_5; exact absurd ⟨hs137_2, hs145_3, hs152_4, hs159_5, hs166_6⟩ (own_fin934 w0_1 (own_mem2 _ _ hw0_1) w0_2 (own_mem2 _ _ hw0_2) w0_4 (own_mem2 _ _ hw0_4))), N923⟩) (by decide) (by decide)
      · refine own_pre (A := T923.setTop (mkF m 156 #[iv p0, iv p1, iv p2, iv p3, iv p4, iv (2:Int32), iv w0_1, iv w0_2, iv w0_3, iv w0_4, rv b780, iv (f4 (0:Int32) (own_v903 w0_2 w0_1)), iv (f5 (own_v897 w0_2 w0_1)), iv (f6 (0:Int32) (own_v905 w0_2 w0_1)), iv (f7 w0_4 (own_v899 w0_2 w0_1)), iv (own_v922 w0_4 w0_2 w0_1), iv (own_v926 w0_3 w0_2 w0_1), iv w0_5] [(.int (0:Int32))])) (fun t k => ?_) ?_
        · show Steps p.tables e below (T923.setTop (mkF m 152 #[iv p0, iv p1, iv p2, iv p3, iv p4, iv (2:Int32), iv w0_1, iv w0_2, iv w0_3, iv w0_4, rv b780, iv (f4 (0:Int32) (own_v903 w0_2 w0_1)), iv (f5 (own_v897 w0_2 w0_1)), iv (f6 (0:Int32) (own_v905 w0_2 w0_1)), iv (f7 w0_4 (own_v899 w0_2 w0_1)), iv (own_v922 w0_4 w0_2 w0_1), iv (own_v926 w0_3 w0_2 w0_1), iv w0_5] [(.int (f6 (0:Int32) (own_v905 w0_2 w0_1)))])) _
          refine XS.ifNo X923.here hx rfl (hb hby at_152) rfl (XT.i0_eq_f hs152_4) ?_
          show Steps p.tables e below (T923.setTop (mkF m 155 #[iv p0, iv p1, iv p2, iv p3, iv p4, iv (2:Int32), iv w0_1, iv w0_2, iv w0_3, iv w0_4, rv b780, iv (f4 (0:Int32) (own_v903 w0_2 w0_1)), iv (f5 (own_v897 w0_2 w0_1)), iv (f6 (0:Int32) (own_v905 w0_2 w0_1)), iv (f7 w0_4 (own_v899 w0_2 w0_1)), iv (own_v922 w0_4 w0_2 w0_1), iv (own_v926 w0_3 w0_2 w0_1), iv w0_5] [])) _
          refine XS.iconst X923.here hx rfl (hb hby at_155) ?_
          exact k
        exact own_end X923 (BodyLoose.notSynchronized Bd) (fun h => by rw [Bd.returns] at h; cases h) (v := some (.int (0:Int32))) (fun fs hr => retN X923 hx (t := .boolean) Bd.returns (by simp) (hb hby at_156) hr) (by show Q0n2 Z p0 p1 p2 p3 p4 h0 n0 _ T923.heap _; rw [eh923]; exact ⟨(by subst hw0_5; exact absurd ⟨hs137_2, hs145_3, hs152_4⟩ (own_fin935 w0_1 (own_mem2 _ _ hw0_1) w0_2 (own_mem2 _ _ hw0_2))), N923⟩) (by decide) (by decide)
    · refine own_pre (A := T923.setTop (mkF m 149 #[iv p0, iv p1, iv p2, iv p3, iv p4, iv (2:Int32), iv w0_1, iv w0_2, iv w0_3, iv w0_4, rv b780, iv (f4 (0:Int32) (own_v903 w0_2 w0_1)), iv (f5 (own_v897 w0_2 w0_1)), iv (f6 (0:Int32) (own_v905 w0_2 w0_1)), iv (f7 w0_4 (own_v899 w0_2 w0_1)), iv (own_v922 w0_4 w0_2 w0_1), iv (own_v926 w0_3 w0_2 w0_1), iv w0_5] [(.int (0:Int32))])) (fun t k => ?_) ?_
      · show Steps p.tables e below (T923.setTop (mkF m 145 #[iv p0, iv p1, iv p2, iv p3, iv p4, iv (2:Int32), iv w0_1, iv w0_2, iv w0_3, iv w0_4, rv b780, iv (f4 (0:Int32) (own_v903 w0_2 w0_1)), iv (f5 (own_v897 w0_2 w0_1)), iv (f6 (0:Int32) (own_v905 w0_2 w0_1)), iv (f7 w0_4 (own_v899 w0_2 w0_1)), iv (own_v922 w0_4 w0_2 w0_1), iv (own_v926 w0_3 w0_2 w0_1), iv w0_5] [(.int (1:Int32)), (.int (f5 (own_v897 w0_2 w0_1)))])) _
        refine XS.icmpNo X923.here hx rfl (hb hby at_145) rfl (XT.ii_eq_f hs145_3) ?_
        show Steps p.tables e below (T923.setTop (mkF m 148 #[iv p0, iv p1, iv p2, iv p3, iv p4, iv (2:Int32), iv w0_1, iv w0_2, iv w0_3, iv w0_4, rv b780, iv (f4 (0:Int32) (own_v903 w0_2 w0_1)), iv (f5 (own_v897 w0_2 w0_1)), iv (f6 (0:Int32) (own_v905 w0_2 w0_1)), iv (f7 w0_4 (own_v899 w0_2 w0_1)), iv (own_v922 w0_4 w0_2 w0_1), iv (own_v926 w0_3 w0_2 w0_1), iv w0_5] [])) _
        refine XS.iconst X923.here hx rfl (hb hby at_148) ?_
        exact k
      exact own_end X923 (BodyLoose.notSynchronized Bd) (fun h => by rw [Bd.returns] at h; cases h) (v := some (.int (0:Int32))) (fun fs hr => retN X923 hx (t := .boolean) Bd.returns (by simp) (hb hby at_149) hr) (by show Q0n2 Z p0 p1 p2 p3 p4 h0 n0 _ T923.heap _; rw [eh923]; exact ⟨(by subst hw0_5; exact absurd ⟨hs137_2, hs145_3⟩ (own_fin936 w0_1 (own_mem2 _ _ hw0_1) w0_2 (own_mem2 _ _ hw0_2))), N923⟩) (by decide) (by decide)
  · refine own_pre (A := T923.setTop (mkF m 141 #[iv p0, iv p1, iv p2, iv p3, iv p4, iv (2:Int32), iv w0_1, iv w0_2, iv w0_3, iv w0_4, rv b780, iv (f4 (0:Int32) (own_v903 w0_2 w0_1)), iv (f5 (own_v897 w0_2 w0_1)), iv (f6 (0:Int32) (own_v905 w0_2 w0_1)), iv (f7 w0_4 (own_v899 w0_2 w0_1)), iv (own_v922 w0_4 w0_2 w0_1), iv (own_v926 w0_3 w0_2 w0_1), iv w0_5] [(.int (0:Int32))])) (fun t k => ?_) ?_
    · show Steps p.tables e below (T923.setTop (mkF m 137 #[iv p0, iv p1, iv p2, iv p3, iv p4, iv (2:Int32), iv w0_1, iv w0_2, iv w0_3, iv w0_4, rv b780, iv (f4 (0:Int32) (own_v903 w0_2 w0_1)), iv (f5 (own_v897 w0_2 w0_1)), iv (f6 (0:Int32) (own_v905 w0_2 w0_1)), iv (f7 w0_4 (own_v899 w0_2 w0_1)), iv (own_v922 w0_4 w0_2 w0_1), iv (own_v926 w0_3 w0_2 w0_1), iv w0_5] [(.int w0_5), (.int (f4 (0:Int32) (own_v903 w0_2 w0_1)))])) _
      refine XS.icmpNo X923.here hx rfl (hb hby at_137) rfl (XT.ii_eq_f hs137_2) ?_
      show Steps p.tables e below (T923.setTop (mkF m 140 #[iv p0, iv p1, iv p2, iv p3, iv p4, iv (2:Int32), iv w0_1, iv w0_2, iv w0_3, iv w0_4, rv b780, iv (f4 (0:Int32) (own_v903 w0_2 w0_1)), iv (f5 (own_v897 w0_2 w0_1)), iv (f6 (0:Int32) (own_v905 w0_2 w0_1)), iv (f7 w0_4 (own_v899 w0_2 w0_1)), iv (own_v922 w0_4 w0_2 w0_1), iv (own_v926 w0_3 w0_2 w0_1), iv w0_5] [])) _
      refine XS.iconst X923.here hx rfl (hb hby at_140) ?_
      exact k
    exact own_end X923 (BodyLoose.notSynchronized Bd) (fun h => by rw [Bd.returns] at h; cases h) (v := some (.int (0:Int32))) (fun fs hr => retN X923 hx (t := .boolean) Bd.returns (by simp) (hb hby at_141) hr) (by show Q0n2 Z p0 p1 p2 p3 p4 h0 n0 _ T923.heap _; rw [eh923]; exact ⟨(by subst hw0_5; exact absurd hs137_2 (own_fin937 w0_1 (own_mem2 _ _ hw0_1) w0_2 (own_mem2 _ _ hw0_2))), N923⟩) (by decide) (by decide)
theorem own_mem3 (p w : Int32) (hw : w = ((p &&& (2147483647:Int32)) % (3:Int32))) : w ∈ ([(0:Int32), (1:Int32), (2:Int32)] : List Int32) := by
  have e1 : (p &&& (2147483647:Int32)).toInt = p.toInt % 2 ^ 31 := Jvm.Kit.i32_mask p _ (k := 31) (by decide) (by decide)
  have l : (3:Int32).toInt = 3 := by decide
  have e : w.toInt = (p.toInt % 2 ^ 31) % 3 := by rw [hw, Int32.toInt_mod, e1, l, Int.tmod_eq_emod_of_nonneg (by omega)]
  have l0 : (0:Int32).toInt = 0 := by decide
  have l1 : (1:Int32).toInt = 1 := by decide
  have l2 : (2:Int32).toInt = 2 := by decide
  simp only [List.mem_cons, List.not_mem_nil, or_false, ← Int32.toInt_inj, e, l0, l1, l2]; omega
theorem own_fin1009 : ∀ w0_1 ∈ [(0:Int32), (1:Int32), (2:Int32)], ((own_In w0_1 [(0:Int32), (0:Int32), (0:Int32)].length)) := by decide +kernel
theorem own_fin1011 : ∀ w0_1 ∈ [(0:Int32), (1:Int32), (2:Int32)], ((own_In (own_at [(0:Int32), (0:Int32), (0:Int32)] w0_1) [(0:Int32), (0:Int32), (0:Int32)].length)) := by decide +kernel
theorem own_fin1013 : ∀ w0_1 ∈ [(0:Int32), (1:Int32), (2:Int32)], ((own_In w0_1 [(0:Int32), (1:Int32), (2:Int32)].length)) := by decide +kernel
theorem own_fin1015 : ∀ w0_1 ∈ [(0:Int32), (1:Int32), (2:Int32)], ((¬ ((own_at [(0:Int32), (1:Int32), (2:Int32)] w0_1) < (own_at [(0:Int32), (0:Int32), (0:Int32)] (own_at [(0:Int32), (0:Int32), (0:Int32)] w0_1))) → own_In (own_at [(0:Int32), (0:Int32), (0:Int32)] w0_1) [(0:Int32), (0:Int32), (0:Int32)].length)) := by decide +kernel
theorem own_fin1017 : ∀ w0_1 ∈ [(0:Int32), (1:Int32), (2:Int32)], ((¬ ((own_at [(0:Int32), (1:Int32), (2:Int32)] w0_1) < (own_at [(0:Int32), (0:Int32), (0:Int32)] (own_at [(0:Int32), (0:Int32), (0:Int32)] w0_1))) → own_In (own_at [(0:Int32), (0:Int32), (0:Int32)] (own_at [(0:Int32), (0:Int32), (0:Int32)] w0_1)) [(0:Int32), (1:Int32), (2:Int32)].length)) := by decide +kernel
theorem own_fin1019 : ∀ w0_1 ∈ [(0:Int32), (1:Int32), (2:Int32)], ((¬ ((own_at [(0:Int32), (1:Int32), (2:Int32)] w0_1) < (own_at [(0:Int32), (0:Int32), (0:Int32)] (own_at [(0:Int32), (0:Int32), (0:Int32)] w0_1))) → own_In (own_at [(0:Int32), (1:Int32), (2:Int32)] w0_1) [(0:Int32), (1:Int32), (2:Int32)].length)) := by decide +kernel
theorem own_fin1021 : ∀ w0_1 ∈ [(0:Int32), (1:Int32), (2:Int32)], ((¬ ((own_at [(0:Int32), (1:Int32), (2:Int32)] w0_1) < (own_at [(0:Int32), (0:Int32), (0:Int32)] (own_at [(0:Int32), (0:Int32), (0:Int32)] w0_1))) → own_In (own_at [(0:Int32), (1:Int32), (2:Int32)] (own_at [(0:Int32), (0:Int32), (0:Int32)] (own_at [(0:Int32), (0:Int32), (0:Int32)] w0_1))) [(0:Int32), (1:Int32), (2:Int32)].length)) := by decide +kernel
theorem own_fin1023 : ∀ w0_1 ∈ [(0:Int32), (1:Int32), (2:Int32)], ((¬ ((own_at [(0:Int32), (1:Int32), (2:Int32)] w0_1) < (own_at [(0:Int32), (0:Int32), (0:Int32)] (own_at [(0:Int32), (0:Int32), (0:Int32)] w0_1))) → (own_at [(0:Int32), (0:Int32), (0:Int32)] (own_at [(0:Int32), (0:Int32), (0:Int32)] w0_1)) = (own_at [(0:Int32), (0:Int32), (0:Int32)] (own_at [(0:Int32), (0:Int32), (0:Int32)] w0_1)) → own_In (0:Int32) [(0:Int32), (0:Int32), (0:Int32)].length)) := by decide +kernel
def own_v1039 (w0_1 : Int32) : Int32 := (g3_tc w0_1 [(0:Int32), (1:Int32), (2:Int32)] [(0:Int32), (1:Int32), (2:Int32)] [(0:Int32), (0:Int32), (0:Int32)] [(0:Int32), (0:Int32), (0:Int32)] [(0:Int32), (0:Int32), (0:Int32)] [(0:Int32), (0:Int32), (0:Int32)] (1:Int32) (0:Int32))
def own_v1041 (w0_1 : Int32) : List Int32 := (g3_el w0_1 [(0:Int32), (1:Int32), (2:Int32)] [(0:Int32), (1:Int32), (2:Int32)] [(0:Int32), (0:Int32), (0:Int32)] [(0:Int32), (0:Int32), (0:Int32)] [(0:Int32), (0:Int32), (0:Int32)] [(0:Int32), (0:Int32), (0:Int32)] (1:Int32) (0:Int32))
def own_v1043 (w0_1 : Int32) : List Int32 := (g3_po w0_1 [(0:Int32), (1:Int32), (2:Int32)] [(0:Int32), (1:Int32), (2:Int32)] [(0:Int32), (0:Int32), (0:Int32)] [(0:Int32), (0:Int32), (0:Int32)] [(0:Int32), (0:Int32), (0:Int32)] [(0:Int32), (0:Int32), (0:Int32)] (1:Int32) (0:Int32))
def own_v1045 (w0_1 : Int32) : List Int32 := (g3_bm w0_1 [(0:Int32), (1:Int32), (2:Int32)] [(0:Int32), (1:Int32), (2:Int32)] [(0:Int32), (0:Int32), (0:Int32)] [(0:Int32), (0:Int32), (0:Int32)] [(0:Int32), (0:Int32), (0:Int32)] [(0:Int32), (0:Int32), (0:Int32)] (1:Int32) (0:Int32))
def own_v1047 (w0_1 : Int32) : List Int32 := (g3_tb w0_1 [(0:Int32), (1:Int32), (2:Int32)] [(0:Int32), (1:Int32), (2:Int32)] [(0:Int32), (0:Int32), (0:Int32)] [(0:Int32), (0:Int32), (0:Int32)] [(0:Int32), (0:Int32), (0:Int32)] [(0:Int32), (0:Int32), (0:Int32)] (1:Int32) (0:Int32))
theorem own_fin1053 : ∀ w0_1 ∈ [(0:Int32), (1:Int32), (2:Int32)], ∀ w0_2 ∈ [(0:Int32), (1:Int32), (2:Int32)], (((own_In w0_2 [(0:Int32), (0:Int32), (0:Int32)].length) ∧ (own_In (own_at [(0:Int32), (0:Int32), (0:Int32)] w0_2) (own_v1045 w0_1).length) ∧ (own_In w0_2 (own_v1043 w0_1).length) ∧ (¬ ((own_at (own_v1043 w0_1) w0_2) < (own_at (own_v1045 w0_1) (own_at [(0:Int32), (0:Int32), (0:Int32)] w0_2))) → own_In (own_at [(0:Int32), (0:Int32), (0:Int32)] w0_2) [(0:Int32), (0:Int32), (0:Int32)].length) ∧ (¬ ((own_at (own_v1043 w0_1) w0_2) < (own_at (own_v1045 w0_1) (own_at [(0:Int32), (0:Int32), (0:Int32)] w0_2))) → own_In (own_at (own_v1045 w0_1) (own_at [(0:Int32), (0:Int32), (0:Int32)] w0_2)) (own_v1041 w0_1).length) ∧ (¬ ((own_at (own_v1043 w0_1) w0_2) < (own_at (own_v1045 w0_1) (own_at [(0:Int32), (0:Int32), (0:Int32)] w0_2))) → own_In (own_at (own_v1043 w0_1) w0_2) (own_v1041 w0_1).length) ∧ (¬ ((own_at (own_v1043 w0_1) w0_2) < (own_at (own_v1045 w0_1) (own_at [(0:Int32), (0:Int32), (0:Int32)] w0_2))) → own_In (own_at (own_v1041 w0_1) (own_at (own_v1045 w0_1) (own_at [(0:Int32), (0:Int32), (0:Int32)] w0_2))) (own_v1043 w0_1).length) ∧ (¬ ((own_at (own_v1043 w0_1) w0_2) < (own_at (own_v1045 w0_1) (own_at [(0:Int32), (0:Int32), (0:Int32)] w0_2))) → (own_at (own_v1045 w0_1) (own_at [(0:Int32), (0:Int32), (0:Int32)] w0_2)) = (own_at [(0:Int32), (0:Int32), (0:Int32)] (own_at [(0:Int32), (0:Int32), (0:Int32)] w0_2)) → own_In (own_v1039 w0_1) (own_v1047 w0_1).length))) := by decide +kernel
def own_v1069 (w0_2 : Int32) (w0_1 : Int32) : Int32 := (g3_tc w0_2 (own_v1041 w0_1) (own_v1043 w0_1) [(0:Int32), (0:Int32), (0:Int32)] [(0:Int32), (0:Int32), (0:Int32)] (own_v1045 w0_1) (own_v1047 w0_1) (1:Int32) (own_v1039 w0_1))
def own_v1071 (w0_2 : Int32) (w0_1 : Int32) : List Int32 := (g3_el w0_2 (own_v1041 w0_1) (own_v1043 w0_1) [(0:Int32), (0:Int32), (0:Int32)] [(0:Int32), (0:Int32), (0:Int32)] (own_v1045 w0_1) (own_v1047 w0_1) (1:Int32) (own_v1039 w0_1))
def own_v1073 (w0_2 : Int32) (w0_1 : Int32) : List Int32 := (g3_po w0_2 (own_v1041 w0_1) (own_v1043 w0_1) [(0:Int32), (0:Int32), (0:Int32)] [(0:Int32), (0:Int32), (0:Int32)] (own_v1045 w0_1) (own_v1047 w0_1) (1:Int32) (own_v1039 w0_1))
def own_v1075 (w0_2 : Int32) (w0_1 : Int32) : List Int32 := (g3_bm w0_2 (own_v1041 w0_1) (own_v1043 w0_1) [(0:Int32), (0:Int32), (0:Int32)] [(0:Int32), (0:Int32), (0:Int32)] (own_v1045 w0_1) (own_v1047 w0_1) (1:Int32) (own_v1039 w0_1))
def own_v1077 (w0_2 : Int32) (w0_1 : Int32) : List Int32 := (g3_tb w0_2 (own_v1041 w0_1) (own_v1043 w0_1) [(0:Int32), (0:Int32), (0:Int32)] [(0:Int32), (0:Int32), (0:Int32)] (own_v1045 w0_1) (own_v1047 w0_1) (1:Int32) (own_v1039 w0_1))
theorem own_fin1080 : ∀ w0_1 ∈ [(0:Int32), (1:Int32), (2:Int32)], ∀ w0_2 ∈ [(0:Int32), (1:Int32), (2:Int32)], ((own_In (0:Int32) (own_v1075 w0_2 w0_1).length)) := by decide +kernel
theorem own_fin1085 : ∀ w0_1 ∈ [(0:Int32), (1:Int32), (2:Int32)], ∀ w0_2 ∈ [(0:Int32), (1:Int32), (2:Int32)], ((own_In (0:Int32) (own_v1077 w0_2 w0_1).length)) := by decide +kernel
theorem own_fin1088 : ∀ w0_1 ∈ [(0:Int32), (1:Int32), (2:Int32)], ∀ w0_2 ∈ [(0:Int32), (1:Int32), (2:Int32)], ∀ w0_4 ∈ [(0:Int32), (1:Int32), (2:Int32)], ((own_In w0_4 (own_v1071 w0_2 w0_1).length)) := by decide +kernel
theorem own_fin1092 : ∀ w0_1 ∈ [(0:Int32), (1:Int32), (2:Int32)], ∀ w0_2 ∈ [(0:Int32), (1:Int32), (2:Int32)], ∀ w0_4 ∈ [(0:Int32), (1:Int32), (2:Int32)], (((own_In (f7 w0_4 (own_v1071 w0_2 w0_1)) (own_v1073 w0_2 w0_1).length) ∧ (own_In (f7 w0_4 (own_v1071 w0_2 w0_1)) [(0:Int32), (0:Int32), (0:Int32)].length) ∧ (own_In (own_at [(0:Int32), (0:Int32), (0:Int32)] (f7 w0_4 (own_v1071 w0_2 w0_1))) (own_v1075 w0_2 w0_1).length))) := by decide +kernel
def own_v1094 (w0_4 : Int32) (w0_2 : Int32) (w0_1 : Int32) : Int32 := (f8 (f7 w0_4 (own_v1071 w0_2 w0_1)) (own_v1073 w0_2 w0_1) [(0:Int32), (0:Int32), (0:Int32)] (own_v1075 w0_2 w0_1))
theorem own_fin1096 : ∀ w0_1 ∈ [(0:Int32), (1:Int32), (2:Int32)], ∀ w0_2 ∈ [(0:Int32), (1:Int32), (2:Int32)], ∀ w0_3 ∈ [(0:Int32), (1:Int32), (2:Int32)], (((own_In w0_3 (own_v1073 w0_2 w0_1).length) ∧ (own_In w0_3 [(0:Int32), (0:Int32), (0:Int32)].length) ∧ (own_In (own_at [(0:Int32), (0:Int32), (0:Int32)] w0_3) (own_v1075 w0_2 w0_1).length))) := by decide +kernel
def own_v1098 (w0_3 : Int32) (w0_2 : Int32) (w0_1 : Int32) : Int32 := (f8 w0_3 (own_v1073 w0_2 w0_1) [(0:Int32), (0:Int32), (0:Int32)] (own_v1075 w0_2 w0_1))
theorem own_fin1099 : ∀ w0_1 ∈ [(0:Int32), (1:Int32), (2:Int32)], ∀ w0_2 ∈ [(0:Int32), (1:Int32), (2:Int32)], ∀ w0_4 ∈ [(0:Int32), (1:Int32), (2:Int32)], (¬ (((f4 (0:Int32) (own_v1075 w0_2 w0_1)) = (own_v766 w0_1 w0_2)) ∧ ((f5 (own_v1069 w0_2 w0_1)) = (1:Int32)) ∧ ((f6 (0:Int32) (own_v1077 w0_2 w0_1)) = (0:Int32)) ∧ ((f7 w0_4 (own_v1071 w0_2 w0_1)) < (0:Int32)))) := by decide +kernel
theorem own_fin1100 : ∀ w0_1 ∈ [(0:Int32), (1:Int32), (2:Int32)], ∀ w0_2 ∈ [(0:Int32), (1:Int32), (2:Int32)], ∀ w0_3 ∈ [(0:Int32), (1:Int32), (2:Int32)], ∀ w0_4 ∈ [(0:Int32), (1:Int32), (2:Int32)], (¬ (((f4 (0:Int32) (own_v1075 w0_2 w0_1)) = (own_v766 w0_1 w0_2)) ∧ ((f5 (own_v1069 w0_2 w0_1)) = (1:Int32)) ∧ ((f6 (0:Int32) (own_v1077 w0_2 w0_1)) = (0:Int32)) ∧ (¬ ((f7 w0_4 (own_v1071 w0_2 w0_1)) < (0:Int32))) ∧ ((f7 w0_4 (own_v1071 w0_2 w0_1)) < (3:Int32)) ∧ ((own_v1094 w0_4 w0_2 w0_1) = (own_v768 w0_4 w0_1 w0_2)) ∧ (¬ ((own_v1098 w0_3 w0_2 w0_1) = (own_v769 w0_3 w0_1 w0_2))))) := by decide +kernel
theorem own_fin1101 : ∀ w0_1 ∈ [(0:Int32), (1:Int32), (2:Int32)], ∀ w0_2 ∈ [(0:Int32), (1:Int32), (2:Int32)], ∀ w0_4 ∈ [(0:Int32), (1:Int32), (2:Int32)], (¬ (((f4 (0:Int32) (own_v1075 w0_2 w0_1)) = (own_v766 w0_1 w0_2)) ∧ ((f5 (own_v1069 w0_2 w0_1)) = (1:Int32)) ∧ ((f6 (0:Int32) (own_v1077 w0_2 w0_1)) = (0:Int32)) ∧ (¬ ((f7 w0_4 (own_v1071 w0_2 w0_1)) < (0:Int32))) ∧ ((f7 w0_4 (own_v1071 w0_2 w0_1)) < (3:Int32)) ∧ (¬ ((own_v1094 w0_4 w0_2 w0_1) = (own_v768 w0_4 w0_1 w0_2))))) := by decide +kernel
theorem own_fin1102 : ∀ w0_1 ∈ [(0:Int32), (1:Int32), (2:Int32)], ∀ w0_2 ∈ [(0:Int32), (1:Int32), (2:Int32)], ∀ w0_4 ∈ [(0:Int32), (1:Int32), (2:Int32)], (¬ (((f4 (0:Int32) (own_v1075 w0_2 w0_1)) = (own_v766 w0_1 w0_2)) ∧ ((f5 (own_v1069 w0_2 w0_1)) = (1:Int32)) ∧ ((f6 (0:Int32) (own_v1077 w0_2 w0_1)) = (0:Int32)) ∧ (¬ ((f7 w0_4 (own_v1071 w0_2 w0_1)) < (0:Int32))) ∧ ((f7 w0_4 (own_v1071 w0_2 w0_1)) < (3:Int32)) ∧ (¬ (w0_4 < (own_v766 w0_1 w0_2))) ∧ ((f7 w0_4 (own_v1071 w0_2 w0_1)) = w0_1))) := by decide +kernel
theorem own_fin1103 : ∀ w0_1 ∈ [(0:Int32), (1:Int32), (2:Int32)], ∀ w0_2 ∈ [(0:Int32), (1:Int32), (2:Int32)], ∀ w0_4 ∈ [(0:Int32), (1:Int32), (2:Int32)], (¬ (((f4 (0:Int32) (own_v1075 w0_2 w0_1)) = (own_v766 w0_1 w0_2)) ∧ ((f5 (own_v1069 w0_2 w0_1)) = (1:Int32)) ∧ ((f6 (0:Int32) (own_v1077 w0_2 w0_1)) = (0:Int32)) ∧ (¬ ((f7 w0_4 (own_v1071 w0_2 w0_1)) < (0:Int32))) ∧ ((f7 w0_4 (own_v1071 w0_2 w0_1)) < (3:Int32)) ∧ (¬ (w0_4 < (own_v766 w0_1 w0_2))) ∧ (¬ ((f7 w0_4 (own_v1071 w0_2 w0_1)) = w0_1)) ∧ ((f7 w0_4 (own_v1071 w0_2 w0_1)) = w0_2))) := by decide +kernel
theorem own_fin1104 : ∀ w0_1 ∈ [(0:Int32), (1:Int32), (2:Int32)], ∀ w0_2 ∈ [(0:Int32), (1:Int32), (2:Int32)], ∀ w0_4 ∈ [(0:Int32), (1:Int32), (2:Int32)], (¬ (((f4 (0:Int32) (own_v1075 w0_2 w0_1)) = (own_v766 w0_1 w0_2)) ∧ ((f5 (own_v1069 w0_2 w0_1)) = (1:Int32)) ∧ ((f6 (0:Int32) (own_v1077 w0_2 w0_1)) = (0:Int32)) ∧ (¬ ((f7 w0_4 (own_v1071 w0_2 w0_1)) < (0:Int32))) ∧ ((f7 w0_4 (own_v1071 w0_2 w0_1)) < (3:Int32)) ∧ (w0_4 = (1:Int32)) ∧ (¬ (w0_1 = w0_2)) ∧ (¬ ((f7 w0_4 (own_v1071 w0_2 w0_1)) = w0_2)))) := by decide +kernel
theorem own_fin1105 : ∀ w0_1 ∈ [(0:Int32), (1:Int32), (2:Int32)], ∀ w0_2 ∈ [(0:Int32), (1:Int32), (2:Int32)], ∀ w0_4 ∈ [(0:Int32), (1:Int32), (2:Int32)], (¬ (((f4 (0:Int32) (own_v1075 w0_2 w0_1)) = (own_v766 w0_1 w0_2)) ∧ ((f5 (own_v1069 w0_2 w0_1)) = (1:Int32)) ∧ ((f6 (0:Int32) (own_v1077 w0_2 w0_1)) = (0:Int32)) ∧ (¬ ((f7 w0_4 (own_v1071 w0_2 w0_1)) < (0:Int32))) ∧ ((f7 w0_4 (own_v1071 w0_2 w0_1)) < (3:Int32)) ∧ (w0_4 = (0:Int32)) ∧ (¬ ((f7 w0_4 (own_v1071 w0_2 w0_1)) = w0_1)))) := by decide +kernel
theorem own_fin1106 : ∀ w0_1 ∈ [(0:Int32), (1:Int32), (2:Int32)], ∀ w0_2 ∈ [(0:Int32), (1:Int32), (2:Int32)], ∀ w0_4 ∈ [(0:Int32), (1:Int32), (2:Int32)], (¬ (((f4 (0:Int32) (own_v1075 w0_2 w0_1)) = (own_v766 w0_1 w0_2)) ∧ ((f5 (own_v1069 w0_2 w0_1)) = (1:Int32)) ∧ ((f6 (0:Int32) (own_v1077 w0_2 w0_1)) = (0:Int32)) ∧ (¬ ((f7 w0_4 (own_v1071 w0_2 w0_1)) < (0:Int32))) ∧ (¬ ((f7 w0_4 (own_v1071 w0_2 w0_1)) < (3:Int32))))) := by decide +kernel
theorem own_fin1107 : ∀ w0_1 ∈ [(0:Int32), (1:Int32), (2:Int32)], ∀ w0_2 ∈ [(0:Int32), (1:Int32), (2:Int32)], (¬ (((f4 (0:Int32) (own_v1075 w0_2 w0_1)) = (own_v766 w0_1 w0_2)) ∧ ((f5 (own_v1069 w0_2 w0_1)) = (1:Int32)) ∧ (¬ ((f6 (0:Int32) (own_v1077 w0_2 w0_1)) = (0:Int32))))) := by decide +kernel
theorem own_fin1108 : ∀ w0_1 ∈ [(0:Int32), (1:Int32), (2:Int32)], ∀ w0_2 ∈ [(0:Int32), (1:Int32), (2:Int32)], (¬ (((f4 (0:Int32) (own_v1075 w0_2 w0_1)) = (own_v766 w0_1 w0_2)) ∧ (¬ ((f5 (own_v1069 w0_2 w0_1)) = (1:Int32))))) := by decide +kernel
theorem own_fin1109 : ∀ w0_1 ∈ [(0:Int32), (1:Int32), (2:Int32)], ∀ w0_2 ∈ [(0:Int32), (1:Int32), (2:Int32)], (¬ ((¬ ((f4 (0:Int32) (own_v1075 w0_2 w0_1)) = (own_v766 w0_1 w0_2))))) := by decide +kernel
theorem ef0n3 (m : MethodId) (p0 : Int32) (p1 : Int32) (p2 : Int32) (p3 : Int32) (p4 : Int32) : entryFrame m #[(.int p0), (.int p1), (.int p2), (.int p3), (.int p4)] maxLocals = mkF m 0 #[iv p0, iv p1, iv p2, iv p3, iv p4, .unset, .unset, .unset, .unset, .unset, .unset, .unset, .unset, .unset, .unset, .unset, .unset, .unset] [] := by first | (simp [entryFrame, mkF, argsToLocals, Value.category, maxLocals]; done) | rfl
def Q0n3 (Z : State) (p0 : Int32) (p1 : Int32) (p2 : Int32) (p3 : Int32) (p4 : Int32)  (h0 : Heap) (n0 : Nat) (v : Option Value) (h : Heap) (L : List Loc) : Prop := v = some (.int (1:Int32)) ∧ Fr n0 L
set_option maxRecDepth 65536 in
set_option maxHeartbeats 40000000 in
theorem rm0n3 (l : Launch) (Z : State) (aZ : Array Value) (hw : ∀ d ∈ tables_1, d.before aZ Z = true) (ws : List Jvm.Cond) (p0 : Int32) (p1 : Int32) (p2 : Int32) (p3 : Int32) (p4 : Int32)  (h0 : Heap) (n0 : Nat) (Z0 : n0 ≤ h0.size) (hlen : ((1:Int32) + (p0 &&& (3:Int32))) = (3:Int32)) :
    MetFree l x (head1 (Jvm.Cond.code x code maxLocals ret :: ws) room_1) (fun a U => a = #[(.int p0), (.int p1), (.int p2), (.int p3), (.int p4)] ∧ Z.Warmed39 U.vm ∧ U.heap = h0) (fun _ _ _ _ _ => True) (fun _ U o U' => ∃ v L, o = .returned v ∧ Q0n3 Z p0 p1 p2 p3 p4 h0 n0 v U'.heap L ∧ FrameEnd U o U' L 8 64) := by
  refine MetFree.of_bodySF (plainFor_of_name own_pn1) hisR ?_
  intro p e s m args below meth c s₁ Bd hml0 hP hK
  obtain ⟨rfl, hZ, hh⟩ := hP
  have hx := Bd.exec
  have hby := Bd.bytes
  have hml : c.maxLocals = 18 := hml0
  have hown : s.vm.findClass "com/example/spare_calculus/sparecalculus/bisim/PartitionMarkPinLaw" = some m.cls := findClass_of_methodNamed Bd.named
  have hnm := (name_of_methodNamed Bd.named Bd.method).1
  have X0 : Stand p l e room_1 s m #[(.int p0), (.int p1), (.int p2), (.int p3), (.int p4)] below meth c s₁ [] 0 0 := Stand.of_body Bd
  have e0 : s₁.heap = h0 := by rw [← hh, Bd.state]; rfl
  have N0 := Fr.nil n0
  show own_Goes p e below s (Q0n3 Z p0 p1 p2 p3 p4 h0 n0) 8 64 _
  refine own_pre (fun t k => castTop (ef0n3 m p0 p1 p2 p3 p4) k) ?_
  obtain ⟨w0_1, hw0_1⟩ : ∃ z : Int32, z = ((p1 &&& (2147483647:Int32)) % (3:Int32)) := ⟨_, rfl⟩
  obtain ⟨w0_2, hw0_2⟩ : ∃ z : Int32, z = ((p2 &&& (2147483647:Int32)) % (3:Int32)) := ⟨_, rfl⟩
  obtain ⟨w0_3, hw0_3⟩ : ∃ z : Int32, z = ((p3 &&& (2147483647:Int32)) % (3:Int32)) := ⟨_, rfl⟩
  obtain ⟨w0_4, hw0_4⟩ : ∃ z : Int32, z = ((p4 &&& (2147483647:Int32)) % (3:Int32)) := ⟨_, rfl⟩
  refine own_pre (A := s₁.setTop (mkF m 44 #[iv p0, iv p1, iv p2, iv p3, iv p4, iv (3:Int32), iv w0_1, iv w0_2, iv w0_3, iv w0_4, .unset, .unset, .unset, .unset, .unset, .unset, .unset, .unset] [])) (fun t k => ?_) ?_
  · show Steps p.tables e below (s₁.setTop (mkF m 0 #[iv p0, iv p1, iv p2, iv p3, iv p4, .unset, .unset, .unset, .unset, .unset, .unset, .unset, .unset, .unset, .unset, .unset, .unset, .unset] [])) _
    refine XS.iconst X0.here hx rfl (hb hby at_0) ?_
    show Steps p.tables e below (s₁.setTop (mkF m 1 #[iv p0, iv p1, iv p2, iv p3, iv p4, .unset, .unset, .unset, .unset, .unset, .unset, .unset, .unset, .unset, .unset, .unset, .unset, .unset] [(.int (1:Int32))])) _
    refine XS.iloadN X0.here hx rfl (hb hby at_1) rfl ?_
    show Steps p.tables e below (s₁.setTop (mkF m 2 #[iv p0, iv p1, iv p2, iv p3, iv p4, .unset, .unset, .unset, .unset, .unset, .unset, .unset, .unset, .unset, .unset, .unset, .unset, .unset] [(.int p0), (.int (1:Int32))])) _
    refine XS.iconst X0.here hx rfl (hb hby at_2) ?_
    show Steps p.tables e below (s₁.setTop (mkF m 3 #[iv p0, iv p1, iv p2, iv p3, iv p4, .unset, .unset, .unset, .unset, .unset, .unset, .unset, .unset, .unset, .unset, .unset, .unset, .unset] [(.int (3:Int32)), (.int p0), (.int (1:Int32))])) _
    refine XS.iand X0.here hx rfl (hb hby at_3) rfl ?_
    show Steps p.tables e below (s₁.setTop (mkF m 4 #[iv p0, iv p1, iv p2, iv p3, iv p4, .unset, .unset, .unset, .unset, .unset, .unset, .unset, .unset, .unset, .unset, .unset, .unset, .unset] [(.int (p0 &&& (3:Int32))), (.int (1:Int32))])) _
    refine XS.iadd X0.here hx rfl (hb hby at_4) rfl ?_
    show Steps p.tables e below (s₁.setTop (mkF m 5 #[iv p0, iv p1, iv p2, iv p3, iv p4, .unset, .unset, .unset, .unset, .unset, .unset, .unset, .unset, .unset, .unset, .unset, .unset, .unset] [(.int ((1:Int32) + (p0 &&& (3:Int32))))])) _
    refine XS.istore X0.here hx rfl (hb hby at_5) rfl (l' := #[iv p0, iv p1, iv p2, iv p3, iv p4, iv (3:Int32), .unset, .unset, .unset, .unset, .unset, .unset, .unset, .unset, .unset, .unset, .unset, .unset]) (by show storeLocals _ _ (Value.int ((1:Int32) + (p0 &&& (3:Int32)))) = _; rw [hlen]; rfl) ?_
    show Steps p.tables e below (s₁.setTop (mkF m 7 #[iv p0, iv p1, iv p2, iv p3, iv p4, iv (3:Int32), .unset, .unset, .unset, .unset, .unset, .unset, .unset, .unset, .unset, .unset, .unset, .unset] [])) _
    refine XS.iloadN X0.here hx rfl (hb hby at_7) rfl ?_
    show Steps p.tables e below (s₁.setTop (mkF m 8 #[iv p0, iv p1, iv p2, iv p3, iv p4, iv (3:Int32), .unset, .unset, .unset, .unset, .unset, .unset, .unset, .unset, .unset, .unset, .unset, .unset] [(.int p1)])) _
    refine Jvm.Stand.ldcI X0 hx hown (mvT hZ (own_h hw 0 rfl)) rfl (hb hby at_8) ?_
    show Steps p.tables e below (s₁.setTop (mkF m 10 #[iv p0, iv p1, iv p2, iv p3, iv p4, iv (3:Int32), .unset, .unset, .unset, .unset, .unset, .unset, .unset, .unset, .unset, .unset, .unset, .unset] [(.int (2147483647:Int32)), (.int p1)])) _
    refine XS.iand X0.here hx rfl (hb hby at_10) rfl ?_
    show Steps p.tables e below (s₁.setTop (mkF m 11 #[iv p0, iv p1, iv p2, iv p3, iv p4, iv (3:Int32), .unset, .unset, .unset, .unset, .unset, .unset, .unset, .unset, .unset, .unset, .unset, .unset] [(.int (p1 &&& (2147483647:Int32)))])) _
    refine XS.iload X0.here hx rfl (hb hby at_11) rfl ?_
    show Steps p.tables e below (s₁.setTop (mkF m 13 #[iv p0, iv p1, iv p2, iv p3, iv p4, iv (3:Int32), .unset, .unset, .unset, .unset, .unset, .unset, .unset, .unset, .unset, .unset, .unset, .unset] [(.int (3:Int32)), (.int (p1 &&& (2147483647:Int32)))])) _
    refine iremM X0 hx rfl (hb hby at_13) rfl (by decide) ?_
    show Steps p.tables e below (s₁.setTop (mkF m 14 #[iv p0, iv p1, iv p2, iv p3, iv p4, iv (3:Int32), .unset, .unset, .unset, .unset, .unset, .unset, .unset, .unset, .unset, .unset, .unset, .unset] [(.int ((p1 &&& (2147483647:Int32)) % (3:Int32)))])) _
    refine XS.istore X0.here hx rfl (hb hby at_14) rfl (l' := #[iv p0, iv p1, iv p2, iv p3, iv p4, iv (3:Int32), iv w0_1, .unset, .unset, .unset, .unset, .unset, .unset, .unset, .unset, .unset, .unset, .unset]) (by rw [hw0_1]; rfl) ?_
    show Steps p.tables e below (s₁.setTop (mkF m 16 #[iv p0, iv p1, iv p2, iv p3, iv p4, iv (3:Int32), iv w0_1, .unset, .unset, .unset, .unset, .unset, .unset, .unset, .unset, .unset, .unset, .unset] [])) _
    refine XS.iloadN X0.here hx rfl (hb hby at_16) rfl ?_
    show Steps p.tables e below (s₁.setTop (mkF m 17 #[iv p0, iv p1, iv p2, iv p3, iv p4, iv (3:Int32), iv w0_1, .unset, .unset, .unset, .unset, .unset, .unset, .unset, .unset, .unset, .unset, .unset] [(.int p2)])) _
    refine Jvm.Stand.ldcI X0 hx hown (mvT hZ (own_h hw 0 rfl)) rfl (hb hby at_17) ?_
    show Steps p.tables e below (s₁.setTop (mkF m 19 #[iv p0, iv p1, iv p2, iv p3, iv p4, iv (3:Int32), iv w0_1, .unset, .unset, .unset, .unset, .unset, .unset, .unset, .unset, .unset, .unset, .unset] [(.int (2147483647:Int32)), (.int p2)])) _
    refine XS.iand X0.here hx rfl (hb hby at_19) rfl ?_
    show Steps p.tables e below (s₁.setTop (mkF m 20 #[iv p0, iv p1, iv p2, iv p3, iv p4, iv (3:Int32), iv w0_1, .unset, .unset, .unset, .unset, .unset, .unset, .unset, .unset, .unset, .unset, .unset] [(.int (p2 &&& (2147483647:Int32)))])) _
    refine XS.iload X0.here hx rfl (hb hby at_20) rfl ?_
    show Steps p.tables e below (s₁.setTop (mkF m 22 #[iv p0, iv p1, iv p2, iv p3, iv p4, iv (3:Int32), iv w0_1, .unset, .unset, .unset, .unset, .unset, .unset, .unset, .unset, .unset, .unset, .unset] [(.int (3:Int32)), (.int (p2 &&& (2147483647:Int32)))])) _
    refine iremM X0 hx rfl (hb hby at_22) rfl (by decide) ?_
    show Steps p.tables e below (s₁.setTop (mkF m 23 #[iv p0, iv p1, iv p2, iv p3, iv p4, iv (3:Int32), iv w0_1, .unset, .unset, .unset, .unset, .unset, .unset, .unset, .unset, .unset, .unset, .unset] [(.int ((p2 &&& (2147483647:Int32)) % (3:Int32)))])) _
    refine XS.istore X0.here hx rfl (hb hby at_23) rfl (l' := #[iv p0, iv p1, iv p2, iv p3, iv p4, iv (3:Int32), iv w0_1, iv w0_2, .unset, .unset, .unset, .unset, .unset, .unset, .unset, .unset, .unset, .unset]) (by rw [hw0_2]; rfl) ?_
    show Steps p.tables e below (s₁.setTop (mkF m 25 #[iv p0, iv p1, iv p2, iv p3, iv p4, iv (3:Int32), iv w0_1, iv w0_2, .unset, .unset, .unset, .unset, .unset, .unset, .unset, .unset, .unset, .unset] [])) _
    refine XS.iloadN X0.here hx rfl (hb hby at_25) rfl ?_
    show Steps p.tables e below (s₁.setTop (mkF m 26 #[iv p0, iv p1, iv p2, iv p3, iv p4, iv (3:Int32), iv w0_1, iv w0_2, .unset, .unset, .unset, .unset, .unset, .unset, .unset, .unset, .unset, .unset] [(.int p3)])) _
    refine Jvm.Stand.ldcI X0 hx hown (mvT hZ (own_h hw 0 rfl)) rfl (hb hby at_26) ?_
    show Steps p.tables e below (s₁.setTop (mkF m 28 #[iv p0, iv p1, iv p2, iv p3, iv p4, iv (3:Int32), iv w0_1, iv w0_2, .unset, .unset, .unset, .unset, .unset, .unset, .unset, .unset, .unset, .unset] [(.int (2147483647:Int32)), (.int p3)])) _
    refine XS.iand X0.here hx rfl (hb hby at_28) rfl ?_
    show Steps p.tables e below (s₁.setTop (mkF m 29 #[iv p0, iv p1, iv p2, iv p3, iv p4, iv (3:Int32), iv w0_1, iv w0_2, .unset, .unset, .unset, .unset, .unset, .unset, .unset, .unset, .unset, .unset] [(.int (p3 &&& (2147483647:Int32)))])) _
    refine XS.iload X0.here hx rfl (hb hby at_29) rfl ?_
    show Steps p.tables e below (s₁.setTop (mkF m 31 #[iv p0, iv p1, iv p2, iv p3, iv p4, iv (3:Int32), iv w0_1, iv w0_2, .unset, .unset, .unset, .unset, .unset, .unset, .unset, .unset, .unset, .unset] [(.int (3:Int32)), (.int (p3 &&& (2147483647:Int32)))])) _
    refine iremM X0 hx rfl (hb hby at_31) rfl (by decide) ?_
    show Steps p.tables e below (s₁.setTop (mkF m 32 #[iv p0, iv p1, iv p2, iv p3, iv p4, iv (3:Int32), iv w0_1, iv w0_2, .unset, .unset, .unset, .unset, .unset, .unset, .unset, .unset, .unset, .unset] [(.int ((p3 &&& (2147483647:Int32)) % (3:Int32)))])) _
    refine XS.istore X0.here hx rfl (hb hby at_32) rfl (l' := #[iv p0, iv p1, iv p2, iv p3, iv p4, iv (3:Int32), iv w0_1, iv w0_2, iv w0_3, .unset, .unset, .unset, .unset, .unset, .unset, .unset, .unset, .unset]) (by rw [hw0_3]; rfl) ?_
    show Steps p.tables e below (s₁.setTop (mkF m 34 #[iv p0, iv p1, iv p2, iv p3, iv p4, iv (3:Int32), iv w0_1, iv w0_2, iv w0_3, .unset, .unset, .unset, .unset, .unset, .unset, .unset, .unset, .unset] [])) _
    refine XS.iload X0.here hx rfl (hb hby at_34) rfl ?_
    show Steps p.tables e below (s₁.setTop (mkF m 36 #[iv p0, iv p1, iv p2, iv p3, iv p4, iv (3:Int32), iv w0_1, iv w0_2, iv w0_3, .unset, .unset, .unset, .unset, .unset, .unset, .unset, .unset, .unset] [(.int p4)])) _
    refine Jvm.Stand.ldcI X0 hx hown (mvT hZ (own_h hw 0 rfl)) rfl (hb hby at_36) ?_
    show Steps p.tables e below (s₁.setTop (mkF m 38 #[iv p0, iv p1, iv p2, iv p3, iv p4, iv (3:Int32), iv w0_1, iv w0_2, iv w0_3, .unset, .unset, .unset, .unset, .unset, .unset, .unset, .unset, .unset] [(.int (2147483647:Int32)), (.int p4)])) _
    refine XS.iand X0.here hx rfl (hb hby at_38) rfl ?_
    show Steps p.tables e below (s₁.setTop (mkF m 39 #[iv p0, iv p1, iv p2, iv p3, iv p4, iv (3:Int32), iv w0_1, iv w0_2, iv w0_3, .unset, .unset, .unset, .unset, .unset, .unset, .unset, .unset, .unset] [(.int (p4 &&& (2147483647:Int32)))])) _
    refine XS.iload X0.here hx rfl (hb hby at_39) rfl ?_
    show Steps p.tables e below (s₁.setTop (mkF m 41 #[iv p0, iv p1, iv p2, iv p3, iv p4, iv (3:Int32), iv w0_1, iv w0_2, iv w0_3, .unset, .unset, .unset, .unset, .unset, .unset, .unset, .unset, .unset] [(.int (3:Int32)), (.int (p4 &&& (2147483647:Int32)))])) _
    refine iremM X0 hx rfl (hb hby at_41) rfl (by decide) ?_
    show Steps p.tables e below (s₁.setTop (mkF m 42 #[iv p0, iv p1, iv p2, iv p3, iv p4, iv (3:Int32), iv w0_1, iv w0_2, iv w0_3, .unset, .unset, .unset, .unset, .unset, .unset, .unset, .unset, .unset] [(.int ((p4 &&& (2147483647:Int32)) % (3:Int32)))])) _
    refine XS.istore X0.here hx rfl (hb hby at_42) rfl (l' := #[iv p0, iv p1, iv p2, iv p3, iv p4, iv (3:Int32), iv w0_1, iv w0_2, iv w0_3, iv w0_4, .unset, .unset, .unset, .unset, .unset, .unset, .unset, .unset]) (by rw [hw0_4]; rfl) ?_
    exact k
  obtain ⟨T938, h938, X938, e938, E938, A938, D938, -, st938⟩ := newO X0 hx hZ hown (own_h hw 1 rfl) (own_h hw 2 rfl) (own_h hw 3 rfl) e0 (g := (mkF m 44 #[iv p0, iv p1, iv p2, iv p3, iv p4, iv (3:Int32), iv w0_1, iv w0_2, iv w0_3, iv w0_4, .unset, .unset, .unset, .unset, .unset, .unset, .unset, .unset] [])) rfl (hb hby at_44) (by decide) (by decide)
  obtain ⟨b938, g938⟩ : ∃ z, z = h0.size := ⟨_, rfl⟩
  rw [← g938] at A938 D938 st938
  have ge_b938 : n0 ≤ b938 := Nat.le_trans Z0 (Nat.le_of_eq g938.symm)
  have Z939 : n0 ≤ h938.size := Nat.le_trans Z0 E938.1
  have F938_elements : Fld Z h938 b938 "com/example/spare_calculus/sparecalculus/bisim/Partition" "elements" "[I" .null := D938 (Or.inr (own_h hw 12 rfl)) (ty := (.array .int)) (by decide)
  have F938_positions : Fld Z h938 b938 "com/example/spare_calculus/sparecalculus/bisim/Partition" "positions" "[I" .null := D938 (Or.inr (own_h hw 14 rfl)) (ty := (.array .int)) (by decide)
  have F938_blockOf : Fld Z h938 b938 "com/example/spare_calculus/sparecalculus/bisim/Partition" "blockOf" "[I" .null := D938 (Or.inr (own_h hw 16 rfl)) (ty := (.array .int)) (by decide)
  have F938_blockStart : Fld Z h938 b938 "com/example/spare_calculus/sparecalculus/bisim/Partition" "blockStart" "[I" .null := D938 (Or.inr (own_h hw 18 rfl)) (ty := (.array .int)) (by decide)
  have F938_blockEnd : Fld Z h938 b938 "com/example/spare_calculus/sparecalculus/bisim/Partition" "blockEnd" "[I" .null := D938 (Or.inr (own_h hw 20 rfl)) (ty := (.array .int)) (by decide)
  have F938_blockMarkedEnd : Fld Z h938 b938 "com/example/spare_calculus/sparecalculus/bisim/Partition" "blockMarkedEnd" "[I" .null := D938 (Or.inr (own_h hw 22 rfl)) (ty := (.array .int)) (by decide)
  have F938_touchedBlocks : Fld Z h938 b938 "com/example/spare_calculus/sparecalculus/bisim/Partition" "touchedBlocks" "[I" .null := D938 (Or.inr (own_h hw 24 rfl)) (ty := (.array .int)) (by decide)
  have F938_blockCount : Fld Z h938 b938 "com/example/spare_calculus/sparecalculus/bisim/Partition" "blockCount" "I" (.int (0:Int32)) := D938 (Or.inl (own_h hw 26 rfl)) (ty := .int) (by decide)
  have F938_touchedBlockCount : Fld Z h938 b938 "com/example/spare_calculus/sparecalculus/bisim/Partition" "touchedBlockCount" "I" (.int (0:Int32)) := D938 (Or.inl (own_h hw 33 rfl)) (ty := .int) (by decide)
  refine own_pre st938 ?_
  refine own_pre (A := T938.setTop (mkF m 50 #[iv p0, iv p1, iv p2, iv p3, iv p4, iv (3:Int32), iv w0_1, iv w0_2, iv w0_3, iv w0_4, .unset, .unset, .unset, .unset, .unset, .unset, .unset, .unset] [(.int (3:Int32)), (.ref b938), (.ref b938)])) (fun t k => ?_) ?_
  · show Steps p.tables e below (T938.setTop (mkF m 47 #[iv p0, iv p1, iv p2, iv p3, iv p4, iv (3:Int32), iv w0_1, iv w0_2, iv w0_3, iv w0_4, .unset, .unset, .unset, .unset, .unset, .unset, .unset, .unset] [(.ref b938)])) _
    refine XS.dup X938.here hx rfl (hb hby at_47) rfl rfl ?_
    show Steps p.tables e below (T938.setTop (mkF m 48 #[iv p0, iv p1, iv p2, iv p3, iv p4, iv (3:Int32), iv w0_1, iv w0_2, iv w0_3, iv w0_4, .unset, .unset, .unset, .unset, .unset, .unset, .unset, .unset] [(.ref b938), (.ref b938)])) _
    refine XS.iload X938.here hx rfl (hb hby at_48) rfl ?_
    exact k
  obtain ⟨_, _, ⟨T940, L940, k940, n940⟩, -, X940, ⟨Lc940, hQ940, l940, y940, z940⟩, st940⟩ := X938.specialBack hx (y := (⟨"com/example/spare_calculus/sparecalculus/bisim/Partition", "<init>", "(I)V"⟩ : MethodName)) rfl hown (mvT hZ (own_h hw 4 rfl)) (mvT hZ (own_h hw 5 rfl)) (mvT hZ (own_h hw 6 rfl)) (by decide) (backOf (W := 1) (rm1n3 l Z aZ hw [] b938 h938 n0 Z939 A938 F938_elements F938_positions F938_blockOf F938_blockStart F938_blockEnd F938_blockMarkedEnd F938_touchedBlocks F938_blockCount F938_touchedBlockCount ge_b938) hZ (own_h hw 6 rfl) (own_h hw 3 rfl) (by decide) (by decide)) (g := (mkF m 50 #[iv p0, iv p1, iv p2, iv p3, iv p4, iv (3:Int32), iv w0_1, iv w0_2, iv w0_3, iv w0_4, .unset, .unset, .unset, .unset, .unset, .unset, .unset, .unset] [(.int (3:Int32)), (.ref b938), (.ref b938)])) rfl (by rw [hml]; rfl) (Steps.refl _) (a := b938) (argsL := [(.int (3:Int32))]) (rest := [(.ref b938)]) (lenOf own_pd0 rfl) rfl (by show 2 * 0 + _ ≤ _; exact Nat.le_of_eq rfl) (hb hby at_50) (fun _ _ => ⟨rfl, e938, (by decide : 1 + 7 ≤ _), (by decide : 9 + 21 ≤ _)⟩)
  dsimp only [Pt.U, Pt.locs, Pt.cells, Pt.slots] at X940 l940 y940 z940 st940 hQ940
  subst l940 y940 z940
  obtain ⟨rfl, N940q, K940, e1_941, e2_942, e3_943, e4_944, e5_945, e6_946, e7_947, sz948, sz949, sz950, sz951, sz952, sz953, sz954, ne955, ne956, ne957, ne958, ne959, ne960, ne961, ne962, ne963, ne964, ne965, ne966, ne967, ne968, ne969, ne970, ne971, ne972, ne973, ne974, ne975, G976, G977, G978, G979, G980, G981, G982, G983, G984, G985, G986, G987, G988, G989, G990, G991⟩ := hQ940
  have N940 := Fr.app N0 N940q
  have Z992 : n0 ≤ T940.heap.size := Nat.le_trans Z939 K940.1
  have ne993 : b938 ≠ e1_941 := Nat.ne_of_lt (Nat.lt_of_lt_of_le A938.lt sz948)
  have ge994 : n0 ≤ e1_941 := Nat.le_trans Z939 sz948
  have ne995 : b938 ≠ e2_942 := Nat.ne_of_lt (Nat.lt_of_lt_of_le A938.lt sz949)
  have ge996 : n0 ≤ e2_942 := Nat.le_trans Z939 sz949
  have ne997 : b938 ≠ e3_943 := Nat.ne_of_lt (Nat.lt_of_lt_of_le A938.lt sz950)
  have ge998 : n0 ≤ e3_943 := Nat.le_trans Z939 sz950
  have ne999 : b938 ≠ e4_944 := Nat.ne_of_lt (Nat.lt_of_lt_of_le A938.lt sz951)
  have ge1000 : n0 ≤ e4_944 := Nat.le_trans Z939 sz951
  have ne1001 : b938 ≠ e5_945 := Nat.ne_of_lt (Nat.lt_of_lt_of_le A938.lt sz952)
  have ge1002 : n0 ≤ e5_945 := Nat.le_trans Z939 sz952
  have ne1003 : b938 ≠ e6_946 := Nat.ne_of_lt (Nat.lt_of_lt_of_le A938.lt sz953)
  have ge1004 : n0 ≤ e6_946 := Nat.le_trans Z939 sz953
  have ne1005 : b938 ≠ e7_947 := Nat.ne_of_lt (Nat.lt_of_lt_of_le A938.lt sz954)
  have ge1006 : n0 ≤ e7_947 := Nat.le_trans Z939 sz954
  refine own_pre (fun _ k => st940.trans k) ?_
  refine own_pre (A := T940.setTop (mkF m 59 #[iv p0, iv p1, iv p2, iv p3, iv p4, iv (3:Int32), iv w0_1, iv w0_2, iv w0_3, iv w0_4, rv b938, .unset, .unset, .unset, .unset, .unset, .unset, .unset] [(.int w0_1), (.ref b938)])) (fun t k => ?_) ?_
  · show Steps p.tables e below (T940.setTop (mkF m 53 #[iv p0, iv p1, iv p2, iv p3, iv p4, iv (3:Int32), iv w0_1, iv w0_2, iv w0_3, iv w0_4, .unset, .unset, .unset, .unset, .unset, .unset, .unset, .unset] [(.ref b938)])) _
    refine XS.astore X940.here hx rfl (hb hby at_53) rfl rfl (l' := #[iv p0, iv p1, iv p2, iv p3, iv p4, iv (3:Int32), iv w0_1, iv w0_2, iv w0_3, iv w0_4, rv b938, .unset, .unset, .unset, .unset, .unset, .unset, .unset]) rfl ?_
    show Steps p.tables e below (T940.setTop (mkF m 55 #[iv p0, iv p1, iv p2, iv p3, iv p4, iv (3:Int32), iv w0_1, iv w0_2, iv w0_3, iv w0_4, rv b938, .unset, .unset, .unset, .unset, .unset, .unset, .unset] [])) _
    refine XS.aload X940.here hx rfl (hb hby at_55) rfl rfl ?_
    show Steps p.tables e below (T940.setTop (mkF m 57 #[iv p0, iv p1, iv p2, iv p3, iv p4, iv (3:Int32), iv w0_1, iv w0_2, iv w0_3, iv w0_4, rv b938, .unset, .unset, .unset, .unset, .unset, .unset, .unset] [(.ref b938)])) _
    refine XS.iload X940.here hx rfl (hb hby at_57) rfl ?_
    exact k
  have F1008 := (A938.keep K940)
  have hf1010 : own_In w0_1 [(0:Int32), (0:Int32), (0:Int32)].length := by exact own_fin1009 w0_1 (own_mem3 _ _ hw0_1)
  have hf1012 : own_In (own_at [(0:Int32), (0:Int32), (0:Int32)] w0_1) [(0:Int32), (0:Int32), (0:Int32)].length := by exact own_fin1011 w0_1 (own_mem3 _ _ hw0_1)
  have hf1014 : own_In w0_1 [(0:Int32), (1:Int32), (2:Int32)].length := by exact own_fin1013 w0_1 (own_mem3 _ _ hw0_1)
  have hf1016 : ¬ ((own_at [(0:Int32), (1:Int32), (2:Int32)] w0_1) < (own_at [(0:Int32), (0:Int32), (0:Int32)] (own_at [(0:Int32), (0:Int32), (0:Int32)] w0_1))) → own_In (own_at [(0:Int32), (0:Int32), (0:Int32)] w0_1) [(0:Int32), (0:Int32), (0:Int32)].length := by exact own_fin1015 w0_1 (own_mem3 _ _ hw0_1)
  have hf1018 : ¬ ((own_at [(0:Int32), (1:Int32), (2:Int32)] w0_1) < (own_at [(0:Int32), (0:Int32), (0:Int32)] (own_at [(0:Int32), (0:Int32), (0:Int32)] w0_1))) → own_In (own_at [(0:Int32), (0:Int32), (0:Int32)] (own_at [(0:Int32), (0:Int32), (0:Int32)] w0_1)) [(0:Int32), (1:Int32), (2:Int32)].length := by exact own_fin1017 w0_1 (own_mem3 _ _ hw0_1)
  have hf1020 : ¬ ((own_at [(0:Int32), (1:Int32), (2:Int32)] w0_1) < (own_at [(0:Int32), (0:Int32), (0:Int32)] (own_at [(0:Int32), (0:Int32), (0:Int32)] w0_1))) → own_In (own_at [(0:Int32), (1:Int32), (2:Int32)] w0_1) [(0:Int32), (1:Int32), (2:Int32)].length := by exact own_fin1019 w0_1 (own_mem3 _ _ hw0_1)
  have hf1022 : ¬ ((own_at [(0:Int32), (1:Int32), (2:Int32)] w0_1) < (own_at [(0:Int32), (0:Int32), (0:Int32)] (own_at [(0:Int32), (0:Int32), (0:Int32)] w0_1))) → own_In (own_at [(0:Int32), (1:Int32), (2:Int32)] (own_at [(0:Int32), (0:Int32), (0:Int32)] (own_at [(0:Int32), (0:Int32), (0:Int32)] w0_1))) [(0:Int32), (1:Int32), (2:Int32)].length := by exact own_fin1021 w0_1 (own_mem3 _ _ hw0_1)
  have hf1024 : ¬ ((own_at [(0:Int32), (1:Int32), (2:Int32)] w0_1) < (own_at [(0:Int32), (0:Int32), (0:Int32)] (own_at [(0:Int32), (0:Int32), (0:Int32)] w0_1))) → (own_at [(0:Int32), (0:Int32), (0:Int32)] (own_at [(0:Int32), (0:Int32), (0:Int32)] w0_1)) = (own_at [(0:Int32), (0:Int32), (0:Int32)] (own_at [(0:Int32), (0:Int32), (0:Int32)] w0_1)) → own_In (0:Int32) [(0:Int32), (0:Int32), (0:Int32)].length := by exact own_fin1023 w0_1 (own_mem3 _ _ hw0_1)
  obtain ⟨cq1007, kq1007, q1007a, q1007b, q1007c⟩ := isOf hZ rfl F1008
  obtain ⟨_, _, ⟨T1007, L1007, k1007, n1007⟩, -, X1007, ⟨Lc1007, hQ1007, l1007, y1007, z1007⟩, st1007⟩ := X940.virtualBack hx (y := (⟨"com/example/spare_calculus/sparecalculus/bisim/Partition", "mark", "(I)V"⟩ : MethodName)) (z := (⟨"com/example/spare_calculus/sparecalculus/bisim/Partition", "mark", "(I)V"⟩ : MethodName)) hown (mvT hZ (own_h hw 27 rfl)) (mvT hZ (own_h hw 28 rfl)) (notFace_of_selects (args := #[]) (mvT hZ (own_h hw 30 rfl))) (mvT hZ (own_h hw 30 rfl)) (mvT hZ (own_h hw 29 rfl)) (by decide) (backOf (W := 0) (rm3 l Z aZ hw [] b938 w0_1 e1_941 e2_942 e3_943 e4_944 e5_945 e6_946 e7_947 [(0:Int32), (1:Int32), (2:Int32)] [(0:Int32), (1:Int32), (2:Int32)] [(0:Int32), (0:Int32), (0:Int32)] [(0:Int32), (0:Int32), (0:Int32)] [(0:Int32), (0:Int32), (0:Int32)] [(0:Int32), (0:Int32), (0:Int32)] (1:Int32) (0:Int32) T940.heap n0 Z992 F1008 G976 G977 G978 G979 G980 G981 G982 G983 G984 G985 G986 G987 G988 G990 G991 ne993 ne995 ne997 ne999 ne1003 ne1005 ne955 ne956 ne957 ne959 ne960 ne961 ne962 ne964 ne965 ne966 ne968 ne969 ne971 ne972 ne975 ge_b938 ge994 ge996 ge1004 ge1006 hf1010 hf1012 hf1014 hf1016 hf1018 hf1020 hf1022 hf1024) hZ (own_h hw 31 rfl) (own_h hw 3 rfl) (by decide) (by decide)) q1007a q1007c (g := (mkF m 59 #[iv p0, iv p1, iv p2, iv p3, iv p4, iv (3:Int32), iv w0_1, iv w0_2, iv w0_3, iv w0_4, rv b938, .unset, .unset, .unset, .unset, .unset, .unset, .unset] [(.int w0_1), (.ref b938)])) rfl (by rw [hml]; rfl) (Steps.refl _) (argsL := [(.int w0_1)]) (rest := []) (lenOf own_pd0 rfl) rfl (by show 2 * 0 + _ ≤ _; exact Nat.le_of_eq rfl) (hb hby at_59) (fun _ _ => ⟨rfl, rfl, (by decide : 8 + 0 ≤ _), (by decide : 30 + 0 ≤ _)⟩)
  dsimp only [Pt.U, Pt.locs, Pt.cells, Pt.slots] at X1007 l1007 y1007 z1007 st1007 hQ1007
  subst l1007 y1007 z1007
  obtain ⟨rfl, N1007q, K1007, G1025, G1026, G1027, G1028, G1029, G1030, G1031, G1032, G1033, G1034, G1035, G1036, G1037⟩ := hQ1007
  have N1007 := Fr.app N940 N1007q
  have Z1038 : n0 ≤ T1007.heap.size := Nat.le_trans Z992 K1007.1
  have G1040 : Fld Z T1007.heap b938 "com/example/spare_calculus/sparecalculus/bisim/Partition" "touchedBlockCount" "I" (.int (own_v1039 w0_1)) := G1033
  have G1042 : own_Ints Z T1007.heap e1_941 (own_v1041 w0_1) := G1034
  have G1044 : own_Ints Z T1007.heap e2_942 (own_v1043 w0_1) := G1035
  have G1046 : own_Ints Z T1007.heap e6_946 (own_v1045 w0_1) := G1036
  have G1048 : own_Ints Z T1007.heap e7_947 (own_v1047 w0_1) := G1037
  refine own_pre (fun _ k => st1007.trans k) ?_
  refine own_pre (A := T1007.setTop (mkF m 66 #[iv p0, iv p1, iv p2, iv p3, iv p4, iv (3:Int32), iv w0_1, iv w0_2, iv w0_3, iv w0_4, rv b938, .unset, .unset, .unset, .unset, .unset, .unset, .unset] [(.int w0_2), (.ref b938)])) (fun t k => ?_) ?_
  · show Steps p.tables e below (T1007.setTop (mkF m 62 #[iv p0, iv p1, iv p2, iv p3, iv p4, iv (3:Int32), iv w0_1, iv w0_2, iv w0_3, iv w0_4, rv b938, .unset, .unset, .unset, .unset, .unset, .unset, .unset] [])) _
    refine XS.aload X1007.here hx rfl (hb hby at_62) rfl rfl ?_
    show Steps p.tables e below (T1007.setTop (mkF m 64 #[iv p0, iv p1, iv p2, iv p3, iv p4, iv (3:Int32), iv w0_1, iv w0_2, iv w0_3, iv w0_4, rv b938, .unset, .unset, .unset, .unset, .unset, .unset, .unset] [(.ref b938)])) _
    refine XS.iload X1007.here hx rfl (hb hby at_64) rfl ?_
    exact k
  have F1050 := (F1008.keep K1007)
  have F1051 := (G987.keep K1007 (ninS (Ne.symm ne997) (ninS (Ne.symm ne956) (ninS (Ne.symm ne961) (ninS ne968 (ninS ne969 nin0))))))
  have F1052 := (G988.keep K1007 (ninS (Ne.symm ne999) (ninS (Ne.symm ne957) (ninS (Ne.symm ne962) (ninS ne971 (ninS ne972 nin0))))))
  have hf1054 : (own_In w0_2 [(0:Int32), (0:Int32), (0:Int32)].length) ∧ (own_In (own_at [(0:Int32), (0:Int32), (0:Int32)] w0_2) (own_v1045 w0_1).length) ∧ (own_In w0_2 (own_v1043 w0_1).length) ∧ (¬ ((own_at (own_v1043 w0_1) w0_2) < (own_at (own_v1045 w0_1) (own_at [(0:Int32), (0:Int32), (0:Int32)] w0_2))) → own_In (own_at [(0:Int32), (0:Int32), (0:Int32)] w0_2) [(0:Int32), (0:Int32), (0:Int32)].length) ∧ (¬ ((own_at (own_v1043 w0_1) w0_2) < (own_at (own_v1045 w0_1) (own_at [(0:Int32), (0:Int32), (0:Int32)] w0_2))) → own_In (own_at (own_v1045 w0_1) (own_at [(0:Int32), (0:Int32), (0:Int32)] w0_2)) (own_v1041 w0_1).length) ∧ (¬ ((own_at (own_v1043 w0_1) w0_2) < (own_at (own_v1045 w0_1) (own_at [(0:Int32), (0:Int32), (0:Int32)] w0_2))) → own_In (own_at (own_v1043 w0_1) w0_2) (own_v1041 w0_1).length) ∧ (¬ ((own_at (own_v1043 w0_1) w0_2) < (own_at (own_v1045 w0_1) (own_at [(0:Int32), (0:Int32), (0:Int32)] w0_2))) → own_In (own_at (own_v1041 w0_1) (own_at (own_v1045 w0_1) (own_at [(0:Int32), (0:Int32), (0:Int32)] w0_2))) (own_v1043 w0_1).length) ∧ (¬ ((own_at (own_v1043 w0_1) w0_2) < (own_at (own_v1045 w0_1) (own_at [(0:Int32), (0:Int32), (0:Int32)] w0_2))) → (own_at (own_v1045 w0_1) (own_at [(0:Int32), (0:Int32), (0:Int32)] w0_2)) = (own_at [(0:Int32), (0:Int32), (0:Int32)] (own_at [(0:Int32), (0:Int32), (0:Int32)] w0_2)) → own_In (own_v1039 w0_1) (own_v1047 w0_1).length) := by exact own_fin1053 w0_1 (own_mem3 _ _ hw0_1) w0_2 (own_mem3 _ _ hw0_2)
  obtain ⟨cq1049, kq1049, q1049a, q1049b, q1049c⟩ := isOf hZ rfl F1050
  obtain ⟨_, _, ⟨T1049, L1049, k1049, n1049⟩, -, X1049, ⟨Lc1049, hQ1049, l1049, y1049, z1049⟩, st1049⟩ := X1007.virtualBack hx (y := (⟨"com/example/spare_calculus/sparecalculus/bisim/Partition", "mark", "(I)V"⟩ : MethodName)) (z := (⟨"com/example/spare_calculus/sparecalculus/bisim/Partition", "mark", "(I)V"⟩ : MethodName)) hown (mvT hZ (own_h hw 27 rfl)) (mvT hZ (own_h hw 28 rfl)) (notFace_of_selects (args := #[]) (mvT hZ (own_h hw 30 rfl))) (mvT hZ (own_h hw 30 rfl)) (mvT hZ (own_h hw 29 rfl)) (by decide) (backOf (W := 0) (rm3 l Z aZ hw [] b938 w0_2 e1_941 e2_942 e3_943 e4_944 e5_945 e6_946 e7_947 (own_v1041 w0_1) (own_v1043 w0_1) [(0:Int32), (0:Int32), (0:Int32)] [(0:Int32), (0:Int32), (0:Int32)] (own_v1045 w0_1) (own_v1047 w0_1) (1:Int32) (own_v1039 w0_1) T1007.heap n0 Z1038 F1050 G1025 G1026 G1027 G1028 G1029 G1030 G1031 G1032 G1040 G1042 G1044 F1051 F1052 G1046 G1048 ne993 ne995 ne997 ne999 ne1003 ne1005 ne955 ne956 ne957 ne959 ne960 ne961 ne962 ne964 ne965 ne966 ne968 ne969 ne971 ne972 ne975 ge_b938 ge994 ge996 ge1004 ge1006 hf1054.1 hf1054.2.1 hf1054.2.2.1 hf1054.2.2.2.1 hf1054.2.2.2.2.1 hf1054.2.2.2.2.2.1 hf1054.2.2.2.2.2.2.1 hf1054.2.2.2.2.2.2.2) hZ (own_h hw 31 rfl) (own_h hw 3 rfl) (by decide) (by decide)) q1049a q1049c (g := (mkF m 66 #[iv p0, iv p1, iv p2, iv p3, iv p4, iv (3:Int32), iv w0_1, iv w0_2, iv w0_3, iv w0_4, rv b938, .unset, .unset, .unset, .unset, .unset, .unset, .unset] [(.int w0_2), (.ref b938)])) rfl (by rw [hml]; rfl) (Steps.refl _) (argsL := [(.int w0_2)]) (rest := []) (lenOf own_pd0 rfl) rfl (by show 2 * 0 + _ ≤ _; exact Nat.le_of_eq rfl) (hb hby at_66) (fun _ _ => ⟨rfl, rfl, (by decide : 8 + 0 ≤ _), (by decide : 30 + 0 ≤ _)⟩)
  dsimp only [Pt.U, Pt.locs, Pt.cells, Pt.slots] at X1049 l1049 y1049 z1049 st1049 hQ1049
  subst l1049 y1049 z1049
  obtain ⟨rfl, N1049q, K1049, G1055, G1056, G1057, G1058, G1059, G1060, G1061, G1062, G1063, G1064, G1065, G1066, G1067⟩ := hQ1049
  have N1049 := Fr.app N1007 N1049q
  have Z1068 : n0 ≤ T1049.heap.size := Nat.le_trans Z1038 K1049.1
  have G1070 : Fld Z T1049.heap b938 "com/example/spare_calculus/sparecalculus/bisim/Partition" "touchedBlockCount" "I" (.int (own_v1069 w0_2 w0_1)) := G1063
  have G1072 : own_Ints Z T1049.heap e1_941 (own_v1071 w0_2 w0_1) := G1064
  have G1074 : own_Ints Z T1049.heap e2_942 (own_v1073 w0_2 w0_1) := G1065
  have G1076 : own_Ints Z T1049.heap e6_946 (own_v1075 w0_2 w0_1) := G1066
  have G1078 : own_Ints Z T1049.heap e7_947 (own_v1077 w0_2 w0_1) := G1067
  refine own_pre (fun _ k => st1049.trans k) ?_
  refine own_pre (A := T1049.setTop (mkF m 72 #[iv p0, iv p1, iv p2, iv p3, iv p4, iv (3:Int32), iv w0_1, iv w0_2, iv w0_3, iv w0_4, rv b938, .unset, .unset, .unset, .unset, .unset, .unset, .unset] [(.int (0:Int32)), (.ref b938)])) (fun t k => ?_) ?_
  · show Steps p.tables e below (T1049.setTop (mkF m 69 #[iv p0, iv p1, iv p2, iv p3, iv p4, iv (3:Int32), iv w0_1, iv w0_2, iv w0_3, iv w0_4, rv b938, .unset, .unset, .unset, .unset, .unset, .unset, .unset] [])) _
    refine XS.aload X1049.here hx rfl (hb hby at_69) rfl rfl ?_
    show Steps p.tables e below (T1049.setTop (mkF m 71 #[iv p0, iv p1, iv p2, iv p3, iv p4, iv (3:Int32), iv w0_1, iv w0_2, iv w0_3, iv w0_4, rv b938, .unset, .unset, .unset, .unset, .unset, .unset, .unset] [(.ref b938)])) _
    refine XS.iconst X1049.here hx rfl (hb hby at_71) ?_
    exact k
  have hf1081 : own_In (0:Int32) (own_v1075 w0_2 w0_1).length := by exact own_fin1080 w0_1 (own_mem3 _ _ hw0_1) w0_2 (own_mem3 _ _ hw0_2)
  have F1082 := (F1050.keep K1049)
  obtain ⟨cq1079, kq1079, q1079a, q1079b, q1079c⟩ := isOf hZ rfl F1082
  obtain ⟨_, _, ⟨T1079, L1079, k1079, n1079⟩, -, X1079, ⟨Lc1079, hQ1079, l1079, y1079, z1079⟩, st1079⟩ := X1049.virtualBack hx (y := (⟨"com/example/spare_calculus/sparecalculus/bisim/Partition", "markedEnd", "(I)I"⟩ : MethodName)) (z := (⟨"com/example/spare_calculus/sparecalculus/bisim/Partition", "markedEnd", "(I)I"⟩ : MethodName)) hown (mvT hZ (own_h hw 34 rfl)) (mvT hZ (own_h hw 35 rfl)) (notFace_of_selects (args := #[]) (mvT hZ (own_h hw 37 rfl))) (mvT hZ (own_h hw 37 rfl)) (mvT hZ (own_h hw 36 rfl)) (by decide) (backOf (W := 0) (rm4 l Z aZ hw [] b938 (0:Int32) e6_946 (own_v1075 w0_2 w0_1) T1049.heap n0 Z1068 G1060 G1076 hf1081) hZ (own_h hw 38 rfl) (own_h hw 3 rfl) (by decide) (by decide)) q1079a q1079c (g := (mkF m 72 #[iv p0, iv p1, iv p2, iv p3, iv p4, iv (3:Int32), iv w0_1, iv w0_2, iv w0_3, iv w0_4, rv b938, .unset, .unset, .unset, .unset, .unset, .unset, .unset] [(.int (0:Int32)), (.ref b938)])) rfl (by rw [hml]; rfl) (Steps.refl _) (argsL := [(.int (0:Int32))]) (rest := []) (lenOf own_pd1 rfl) rfl (by show 2 * 0 + _ ≤ _; exact Nat.le_of_eq rfl) (hb hby at_72) (fun _ _ => ⟨rfl, rfl, (by decide : 8 + 0 ≤ _), (by decide : 30 + 0 ≤ _)⟩)
  dsimp only [Pt.U, Pt.locs, Pt.cells, Pt.slots] at X1079 l1079 y1079 z1079 st1079 hQ1079
  subst l1079 y1079 z1079
  obtain ⟨rfl, N1079q, eh1079⟩ := hQ1079
  have N1079 := Fr.app N1049 N1079q
  refine own_pre (fun _ k => st1079.trans k) ?_
  refine own_pre (A := T1079.setTop (mkF m 79 #[iv p0, iv p1, iv p2, iv p3, iv p4, iv (3:Int32), iv w0_1, iv w0_2, iv w0_3, iv w0_4, rv b938, iv (f4 (0:Int32) (own_v1075 w0_2 w0_1)), .unset, .unset, .unset, .unset, .unset, .unset] [(.ref b938)])) (fun t k => ?_) ?_
  · show Steps p.tables e below (T1079.setTop (mkF m 75 #[iv p0, iv p1, iv p2, iv p3, iv p4, iv (3:Int32), iv w0_1, iv w0_2, iv w0_3, iv w0_4, rv b938, .unset, .unset, .unset, .unset, .unset, .unset, .unset] [(.int (f4 (0:Int32) (own_v1075 w0_2 w0_1)))])) _
    refine XS.istore X1079.here hx rfl (hb hby at_75) rfl (l' := #[iv p0, iv p1, iv p2, iv p3, iv p4, iv (3:Int32), iv w0_1, iv w0_2, iv w0_3, iv w0_4, rv b938, iv (f4 (0:Int32) (own_v1075 w0_2 w0_1)), .unset, .unset, .unset, .unset, .unset, .unset]) rfl ?_
    show Steps p.tables e below (T1079.setTop (mkF m 77 #[iv p0, iv p1, iv p2, iv p3, iv p4, iv (3:Int32), iv w0_1, iv w0_2, iv w0_3, iv w0_4, rv b938, iv (f4 (0:Int32) (own_v1075 w0_2 w0_1)), .unset, .unset, .unset, .unset, .unset, .unset] [])) _
    refine XS.aload X1079.here hx rfl (hb hby at_77) rfl rfl ?_
    exact k
  obtain ⟨cq1083, kq1083, q1083a, q1083b, q1083c⟩ := isOf hZ eh1079 F1082
  obtain ⟨_, _, ⟨T1083, L1083, k1083, n1083⟩, -, X1083, ⟨Lc1083, hQ1083, l1083, y1083, z1083⟩, st1083⟩ := X1079.virtualBack hx (y := (⟨"com/example/spare_calculus/sparecalculus/bisim/Partition", "touchedCount", "()I"⟩ : MethodName)) (z := (⟨"com/example/spare_calculus/sparecalculus/bisim/Partition", "touchedCount", "()I"⟩ : MethodName)) hown (mvT hZ (own_h hw 39 rfl)) (mvT hZ (own_h hw 40 rfl)) (notFace_of_selects (args := #[]) (mvT hZ (own_h hw 42 rfl))) (mvT hZ (own_h hw 42 rfl)) (mvT hZ (own_h hw 41 rfl)) (by decide) (backOf (W := 0) (rm5 l Z aZ hw [] b938 (own_v1069 w0_2 w0_1) T1049.heap n0 Z1068 G1070) hZ (own_h hw 43 rfl) (own_h hw 3 rfl) (by decide) (by decide)) q1083a q1083c (g := (mkF m 79 #[iv p0, iv p1, iv p2, iv p3, iv p4, iv (3:Int32), iv w0_1, iv w0_2, iv w0_3, iv w0_4, rv b938, iv (f4 (0:Int32) (own_v1075 w0_2 w0_1)), .unset, .unset, .unset, .unset, .unset, .unset] [(.ref b938)])) rfl (by rw [hml]; rfl) (Steps.refl _) (argsL := []) (rest := []) (lenOf own_pd2 rfl) rfl (by show 2 * 0 + _ ≤ _; exact Nat.le_of_eq rfl) (hb hby at_79) (fun _ _ => ⟨rfl, eh1079, (by decide : 8 + 0 ≤ _), (by decide : 30 + 0 ≤ _)⟩)
  dsimp only [Pt.U, Pt.locs, Pt.cells, Pt.slots] at X1083 l1083 y1083 z1083 st1083 hQ1083
  subst l1083 y1083 z1083
  obtain ⟨rfl, N1083q, eh1083⟩ := hQ1083
  have N1083 := Fr.app N1079 N1083q
  refine own_pre (fun _ k => st1083.trans k) ?_
  refine own_pre (A := T1083.setTop (mkF m 87 #[iv p0, iv p1, iv p2, iv p3, iv p4, iv (3:Int32), iv w0_1, iv w0_2, iv w0_3, iv w0_4, rv b938, iv (f4 (0:Int32) (own_v1075 w0_2 w0_1)), iv (f5 (own_v1069 w0_2 w0_1)), .unset, .unset, .unset, .unset, .unset] [(.int (0:Int32)), (.ref b938)])) (fun t k => ?_) ?_
  · show Steps p.tables e below (T1083.setTop (mkF m 82 #[iv p0, iv p1, iv p2, iv p3, iv p4, iv (3:Int32), iv w0_1, iv w0_2, iv w0_3, iv w0_4, rv b938, iv (f4 (0:Int32) (own_v1075 w0_2 w0_1)), .unset, .unset, .unset, .unset, .unset, .unset] [(.int (f5 (own_v1069 w0_2 w0_1)))])) _
    refine XS.istore X1083.here hx rfl (hb hby at_82) rfl (l' := #[iv p0, iv p1, iv p2, iv p3, iv p4, iv (3:Int32), iv w0_1, iv w0_2, iv w0_3, iv w0_4, rv b938, iv (f4 (0:Int32) (own_v1075 w0_2 w0_1)), iv (f5 (own_v1069 w0_2 w0_1)), .unset, .unset, .unset, .unset, .unset]) rfl ?_
    show Steps p.tables e below (T1083.setTop (mkF m 84 #[iv p0, iv p1, iv p2, iv p3, iv p4, iv (3:Int32), iv w0_1, iv w0_2, iv w0_3, iv w0_4, rv b938, iv (f4 (0:Int32) (own_v1075 w0_2 w0_1)), iv (f5 (own_v1069 w0_2 w0_1)), .unset, .unset, .unset, .unset, .unset] [])) _
    refine XS.aload X1083.here hx rfl (hb hby at_84) rfl rfl ?_
    show Steps p.tables e below (T1083.setTop (mkF m 86 #[iv p0, iv p1, iv p2, iv p3, iv p4, iv (3:Int32), iv w0_1, iv w0_2, iv w0_3, iv w0_4, rv b938, iv (f4 (0:Int32) (own_v1075 w0_2 w0_1)), iv (f5 (own_v1069 w0_2 w0_1)), .unset, .unset, .unset, .unset, .unset] [(.ref b938)])) _
    refine XS.iconst X1083.here hx rfl (hb hby at_86) ?_
    exact k
  have hf1086 : own_In (0:Int32) (own_v1077 w0_2 w0_1).length := by exact own_fin1085 w0_1 (own_mem3 _ _ hw0_1) w0_2 (own_mem3 _ _ hw0_2)
  obtain ⟨cq1084, kq1084, q1084a, q1084b, q1084c⟩ := isOf hZ eh1083 F1082
  obtain ⟨_, _, ⟨T1084, L1084, k1084, n1084⟩, -, X1084, ⟨Lc1084, hQ1084, l1084, y1084, z1084⟩, st1084⟩ := X1083.virtualBack hx (y := (⟨"com/example/spare_calculus/sparecalculus/bisim/Partition", "touched", "(I)I"⟩ : MethodName)) (z := (⟨"com/example/spare_calculus/sparecalculus/bisim/Partition", "touched", "(I)I"⟩ : MethodName)) hown (mvT hZ (own_h hw 44 rfl)) (mvT hZ (own_h hw 45 rfl)) (notFace_of_selects (args := #[]) (mvT hZ (own_h hw 47 rfl))) (mvT hZ (own_h hw 47 rfl)) (mvT hZ (own_h hw 46 rfl)) (by decide) (backOf (W := 0) (rm6 l Z aZ hw [] b938 (0:Int32) e7_947 (own_v1077 w0_2 w0_1) T1049.heap n0 Z1068 G1061 G1078 hf1086) hZ (own_h hw 48 rfl) (own_h hw 3 rfl) (by decide) (by decide)) q1084a q1084c (g := (mkF m 87 #[iv p0, iv p1, iv p2, iv p3, iv p4, iv (3:Int32), iv w0_1, iv w0_2, iv w0_3, iv w0_4, rv b938, iv (f4 (0:Int32) (own_v1075 w0_2 w0_1)), iv (f5 (own_v1069 w0_2 w0_1)), .unset, .unset, .unset, .unset, .unset] [(.int (0:Int32)), (.ref b938)])) rfl (by rw [hml]; rfl) (Steps.refl _) (argsL := [(.int (0:Int32))]) (rest := []) (lenOf own_pd1 rfl) rfl (by show 2 * 0 + _ ≤ _; exact Nat.le_of_eq rfl) (hb hby at_87) (fun _ _ => ⟨rfl, eh1083, (by decide : 8 + 0 ≤ _), (by decide : 30 + 0 ≤ _)⟩)
  dsimp only [Pt.U, Pt.locs, Pt.cells, Pt.slots] at X1084 l1084 y1084 z1084 st1084 hQ1084
  subst l1084 y1084 z1084
  obtain ⟨rfl, N1084q, eh1084⟩ := hQ1084
  have N1084 := Fr.app N1083 N1084q
  refine own_pre (fun _ k => st1084.trans k) ?_
  refine own_pre (A := T1084.setTop (mkF m 96 #[iv p0, iv p1, iv p2, iv p3, iv p4, iv (3:Int32), iv w0_1, iv w0_2, iv w0_3, iv w0_4, rv b938, iv (f4 (0:Int32) (own_v1075 w0_2 w0_1)), iv (f5 (own_v1069 w0_2 w0_1)), iv (f6 (0:Int32) (own_v1077 w0_2 w0_1)), .unset, .unset, .unset, .unset] [(.int w0_4), (.ref b938)])) (fun t k => ?_) ?_
  · show Steps p.tables e below (T1084.setTop (mkF m 90 #[iv p0, iv p1, iv p2, iv p3, iv p4, iv (3:Int32), iv w0_1, iv w0_2, iv w0_3, iv w0_4, rv b938, iv (f4 (0:Int32) (own_v1075 w0_2 w0_1)), iv (f5 (own_v1069 w0_2 w0_1)), .unset, .unset, .unset, .unset, .unset] [(.int (f6 (0:Int32) (own_v1077 w0_2 w0_1)))])) _
    refine XS.istore X1084.here hx rfl (hb hby at_90) rfl (l' := #[iv p0, iv p1, iv p2, iv p3, iv p4, iv (3:Int32), iv w0_1, iv w0_2, iv w0_3, iv w0_4, rv b938, iv (f4 (0:Int32) (own_v1075 w0_2 w0_1)), iv (f5 (own_v1069 w0_2 w0_1)), iv (f6 (0:Int32) (own_v1077 w0_2 w0_1)), .unset, .unset, .unset, .unset]) rfl ?_
    show Steps p.tables e below (T1084.setTop (mkF m 92 #[iv p0, iv p1, iv p2, iv p3, iv p4, iv (3:Int32), iv w0_1, iv w0_2, iv w0_3, iv w0_4, rv b938, iv (f4 (0:Int32) (own_v1075 w0_2 w0_1)), iv (f5 (own_v1069 w0_2 w0_1)), iv (f6 (0:Int32) (own_v1077 w0_2 w0_1)), .unset, .unset, .unset, .unset] [])) _
    refine XS.aload X1084.here hx rfl (hb hby at_92) rfl rfl ?_
    show Steps p.tables e below (T1084.setTop (mkF m 94 #[iv p0, iv p1, iv p2, iv p3, iv p4, iv (3:Int32), iv w0_1, iv w0_2, iv w0_3, iv w0_4, rv b938, iv (f4 (0:Int32) (own_v1075 w0_2 w0_1)), iv (f5 (own_v1069 w0_2 w0_1)), iv (f6 (0:Int32) (own_v1077 w0_2 w0_1)), .unset, .unset, .unset, .unset] [(.ref b938)])) _
    refine XS.iload X1084.here hx rfl (hb hby at_94) rfl ?_
    exact k
  have hf1089 : own_In w0_4 (own_v1071 w0_2 w0_1).length := by exact own_fin1088 w0_1 (own_mem3 _ _ hw0_1) w0_2 (own_mem3 _ _ hw0_2) w0_4 (own_mem3 _ _ hw0_4)
  obtain ⟨cq1087, kq1087, q1087a, q1087b, q1087c⟩ := isOf hZ eh1084 F1082
  obtain ⟨_, _, ⟨T1087, L1087, k1087, n1087⟩, -, X1087, ⟨Lc1087, hQ1087, l1087, y1087, z1087⟩, st1087⟩ := X1084.virtualBack hx (y := (⟨"com/example/spare_calculus/sparecalculus/bisim/Partition", "state", "(I)I"⟩ : MethodName)) (z := (⟨"com/example/spare_calculus/sparecalculus/bisim/Partition", "state", "(I)I"⟩ : MethodName)) hown (mvT hZ (own_h hw 49 rfl)) (mvT hZ (own_h hw 50 rfl)) (notFace_of_selects (args := #[]) (mvT hZ (own_h hw 52 rfl))) (mvT hZ (own_h hw 52 rfl)) (mvT hZ (own_h hw 51 rfl)) (by decide) (backOf (W := 0) (rm7 l Z aZ hw [] b938 w0_4 e1_941 (own_v1071 w0_2 w0_1) T1049.heap n0 Z1068 G1055 G1072 hf1089) hZ (own_h hw 53 rfl) (own_h hw 3 rfl) (by decide) (by decide)) q1087a q1087c (g := (mkF m 96 #[iv p0, iv p1, iv p2, iv p3, iv p4, iv (3:Int32), iv w0_1, iv w0_2, iv w0_3, iv w0_4, rv b938, iv (f4 (0:Int32) (own_v1075 w0_2 w0_1)), iv (f5 (own_v1069 w0_2 w0_1)), iv (f6 (0:Int32) (own_v1077 w0_2 w0_1)), .unset, .unset, .unset, .unset] [(.int w0_4), (.ref b938)])) rfl (by rw [hml]; rfl) (Steps.refl _) (argsL := [(.int w0_4)]) (rest := []) (lenOf own_pd1 rfl) rfl (by show 2 * 0 + _ ≤ _; exact Nat.le_of_eq rfl) (hb hby at_96) (fun _ _ => ⟨rfl, eh1084, (by decide : 8 + 0 ≤ _), (by decide : 30 + 0 ≤ _)⟩)
  dsimp only [Pt.U, Pt.locs, Pt.cells, Pt.slots] at X1087 l1087 y1087 z1087 st1087 hQ1087
  subst l1087 y1087 z1087
  obtain ⟨rfl, N1087q, eh1087⟩ := hQ1087
  have N1087 := Fr.app N1084 N1087q
  refine own_pre (fun _ k => st1087.trans k) ?_
  refine own_pre (A := T1087.setTop (mkF m 105 #[iv p0, iv p1, iv p2, iv p3, iv p4, iv (3:Int32), iv w0_1, iv w0_2, iv w0_3, iv w0_4, rv b938, iv (f4 (0:Int32) (own_v1075 w0_2 w0_1)), iv (f5 (own_v1069 w0_2 w0_1)), iv (f6 (0:Int32) (own_v1077 w0_2 w0_1)), iv (f7 w0_4 (own_v1071 w0_2 w0_1)), .unset, .unset, .unset] [(.int (f7 w0_4 (own_v1071 w0_2 w0_1))), (.ref b938)])) (fun t k => ?_) ?_
  · show Steps p.tables e below (T1087.setTop (mkF m 99 #[iv p0, iv p1, iv p2, iv p3, iv p4, iv (3:Int32), iv w0_1, iv w0_2, iv w0_3, iv w0_4, rv b938, iv (f4 (0:Int32) (own_v1075 w0_2 w0_1)), iv (f5 (own_v1069 w0_2 w0_1)), iv (f6 (0:Int32) (own_v1077 w0_2 w0_1)), .unset, .unset, .unset, .unset] [(.int (f7 w0_4 (own_v1071 w0_2 w0_1)))])) _
    refine XS.istore X1087.here hx rfl (hb hby at_99) rfl (l' := #[iv p0, iv p1, iv p2, iv p3, iv p4, iv (3:Int32), iv w0_1, iv w0_2, iv w0_3, iv w0_4, rv b938, iv (f4 (0:Int32) (own_v1075 w0_2 w0_1)), iv (f5 (own_v1069 w0_2 w0_1)), iv (f6 (0:Int32) (own_v1077 w0_2 w0_1)), iv (f7 w0_4 (own_v1071 w0_2 w0_1)), .unset, .unset, .unset]) rfl ?_
    show Steps p.tables e below (T1087.setTop (mkF m 101 #[iv p0, iv p1, iv p2, iv p3, iv p4, iv (3:Int32), iv w0_1, iv w0_2, iv w0_3, iv w0_4, rv b938, iv (f4 (0:Int32) (own_v1075 w0_2 w0_1)), iv (f5 (own_v1069 w0_2 w0_1)), iv (f6 (0:Int32) (own_v1077 w0_2 w0_1)), iv (f7 w0_4 (own_v1071 w0_2 w0_1)), .unset, .unset, .unset] [])) _
    refine XS.aload X1087.here hx rfl (hb hby at_101) rfl rfl ?_
    show Steps p.tables e below (T1087.setTop (mkF m 103 #[iv p0, iv p1, iv p2, iv p3, iv p4, iv (3:Int32), iv w0_1, iv w0_2, iv w0_3, iv w0_4, rv b938, iv (f4 (0:Int32) (own_v1075 w0_2 w0_1)), iv (f5 (own_v1069 w0_2 w0_1)), iv (f6 (0:Int32) (own_v1077 w0_2 w0_1)), iv (f7 w0_4 (own_v1071 w0_2 w0_1)), .unset, .unset, .unset] [(.ref b938)])) _
    refine XS.iload X1087.here hx rfl (hb hby at_103) rfl ?_
    exact k
  have F1091 := (F1051.keep K1049 (ninS (Ne.symm ne997) (ninS (Ne.symm ne956) (ninS (Ne.symm ne961) (ninS ne968 (ninS ne969 nin0))))))
  have hf1093 : (own_In (f7 w0_4 (own_v1071 w0_2 w0_1)) (own_v1073 w0_2 w0_1).length) ∧ (own_In (f7 w0_4 (own_v1071 w0_2 w0_1)) [(0:Int32), (0:Int32), (0:Int32)].length) ∧ (own_In (own_at [(0:Int32), (0:Int32), (0:Int32)] (f7 w0_4 (own_v1071 w0_2 w0_1))) (own_v1075 w0_2 w0_1).length) := by exact own_fin1092 w0_1 (own_mem3 _ _ hw0_1) w0_2 (own_mem3 _ _ hw0_2) w0_4 (own_mem3 _ _ hw0_4)
  obtain ⟨cq1090, kq1090, q1090a, q1090b, q1090c⟩ := isOf hZ eh1087 F1082
  obtain ⟨_, _, ⟨T1090, L1090, k1090, n1090⟩, -, X1090, ⟨Lc1090, hQ1090, l1090, y1090, z1090⟩, st1090⟩ := X1087.virtualBack hx (y := (⟨"com/example/spare_calculus/sparecalculus/bisim/Partition", "marked", "(I)Z"⟩ : MethodName)) (z := (⟨"com/example/spare_calculus/sparecalculus/bisim/Partition", "marked", "(I)Z"⟩ : MethodName)) hown (mvT hZ (own_h hw 54 rfl)) (mvT hZ (own_h hw 55 rfl)) (notFace_of_selects (args := #[]) (mvT hZ (own_h hw 57 rfl))) (mvT hZ (own_h hw 57 rfl)) (mvT hZ (own_h hw 56 rfl)) (by decide) (backOf (W := 0) (rm8 l Z aZ hw [] b938 (f7 w0_4 (own_v1071 w0_2 w0_1)) e2_942 e3_943 e6_946 (own_v1073 w0_2 w0_1) [(0:Int32), (0:Int32), (0:Int32)] (own_v1075 w0_2 w0_1) T1049.heap n0 Z1068 G1056 G1057 G1060 G1074 F1091 G1076 hf1093.1 hf1093.2.1 hf1093.2.2) hZ (own_h hw 58 rfl) (own_h hw 3 rfl) (by decide) (by decide)) q1090a q1090c (g := (mkF m 105 #[iv p0, iv p1, iv p2, iv p3, iv p4, iv (3:Int32), iv w0_1, iv w0_2, iv w0_3, iv w0_4, rv b938, iv (f4 (0:Int32) (own_v1075 w0_2 w0_1)), iv (f5 (own_v1069 w0_2 w0_1)), iv (f6 (0:Int32) (own_v1077 w0_2 w0_1)), iv (f7 w0_4 (own_v1071 w0_2 w0_1)), .unset, .unset, .unset] [(.int (f7 w0_4 (own_v1071 w0_2 w0_1))), (.ref b938)])) rfl (by rw [hml]; rfl) (Steps.refl _) (argsL := [(.int (f7 w0_4 (own_v1071 w0_2 w0_1)))]) (rest := []) (lenOf own_pd3 rfl) rfl (by show 2 * 0 + _ ≤ _; exact Nat.le_of_eq rfl) (hb hby at_105) (fun _ _ => ⟨rfl, eh1087, (by decide : 8 + 0 ≤ _), (by decide : 30 + 0 ≤ _)⟩)
  dsimp only [Pt.U, Pt.locs, Pt.cells, Pt.slots] at X1090 l1090 y1090 z1090 st1090 hQ1090
  subst l1090 y1090 z1090
  obtain ⟨rfl, N1090q, eh1090⟩ := hQ1090
  have N1090 := Fr.app N1087 N1090q
  refine own_pre (fun _ k => st1090.trans k) ?_
  refine own_pre (A := T1090.setTop (mkF m 114 #[iv p0, iv p1, iv p2, iv p3, iv p4, iv (3:Int32), iv w0_1, iv w0_2, iv w0_3, iv w0_4, rv b938, iv (f4 (0:Int32) (own_v1075 w0_2 w0_1)), iv (f5 (own_v1069 w0_2 w0_1)), iv (f6 (0:Int32) (own_v1077 w0_2 w0_1)), iv (f7 w0_4 (own_v1071 w0_2 w0_1)), iv (own_v1094 w0_4 w0_2 w0_1), .unset, .unset] [(.int w0_3), (.ref b938)])) (fun t k => ?_) ?_
  · show Steps p.tables e below (T1090.setTop (mkF m 108 #[iv p0, iv p1, iv p2, iv p3, iv p4, iv (3:Int32), iv w0_1, iv w0_2, iv w0_3, iv w0_4, rv b938, iv (f4 (0:Int32) (own_v1075 w0_2 w0_1)), iv (f5 (own_v1069 w0_2 w0_1)), iv (f6 (0:Int32) (own_v1077 w0_2 w0_1)), iv (f7 w0_4 (own_v1071 w0_2 w0_1)), .unset, .unset, .unset] [(.int (own_v1094 w0_4 w0_2 w0_1))])) _
    refine XS.istore X1090.here hx rfl (hb hby at_108) rfl (l' := #[iv p0, iv p1, iv p2, iv p3, iv p4, iv (3:Int32), iv w0_1, iv w0_2, iv w0_3, iv w0_4, rv b938, iv (f4 (0:Int32) (own_v1075 w0_2 w0_1)), iv (f5 (own_v1069 w0_2 w0_1)), iv (f6 (0:Int32) (own_v1077 w0_2 w0_1)), iv (f7 w0_4 (own_v1071 w0_2 w0_1)), iv (own_v1094 w0_4 w0_2 w0_1), .unset, .unset]) rfl ?_
    show Steps p.tables e below (T1090.setTop (mkF m 110 #[iv p0, iv p1, iv p2, iv p3, iv p4, iv (3:Int32), iv w0_1, iv w0_2, iv w0_3, iv w0_4, rv b938, iv (f4 (0:Int32) (own_v1075 w0_2 w0_1)), iv (f5 (own_v1069 w0_2 w0_1)), iv (f6 (0:Int32) (own_v1077 w0_2 w0_1)), iv (f7 w0_4 (own_v1071 w0_2 w0_1)), iv (own_v1094 w0_4 w0_2 w0_1), .unset, .unset] [])) _
    refine XS.aload X1090.here hx rfl (hb hby at_110) rfl rfl ?_
    show Steps p.tables e below (T1090.setTop (mkF m 112 #[iv p0, iv p1, iv p2, iv p3, iv p4, iv (3:Int32), iv w0_1, iv w0_2, iv w0_3, iv w0_4, rv b938, iv (f4 (0:Int32) (own_v1075 w0_2 w0_1)), iv (f5 (own_v1069 w0_2 w0_1)), iv (f6 (0:Int32) (own_v1077 w0_2 w0_1)), iv (f7 w0_4 (own_v1071 w0_2 w0_1)), iv (own_v1094 w0_4 w0_2 w0_1), .unset, .unset] [(.ref b938)])) _
    refine XS.iload X1090.here hx rfl (hb hby at_112) rfl ?_
    exact k
  have hf1097 : (own_In w0_3 (own_v1073 w0_2 w0_1).length) ∧ (own_In w0_3 [(0:Int32), (0:Int32), (0:Int32)].length) ∧ (own_In (own_at [(0:Int32), (0:Int32), (0:Int32)] w0_3) (own_v1075 w0_2 w0_1).length) := by exact own_fin1096 w0_1 (own_mem3 _ _ hw0_1) w0_2 (own_mem3 _ _ hw0_2) w0_3 (own_mem3 _ _ hw0_3)
  obtain ⟨cq1095, kq1095, q1095a, q1095b, q1095c⟩ := isOf hZ eh1090 F1082
  obtain ⟨_, _, ⟨T1095, L1095, k1095, n1095⟩, -, X1095, ⟨Lc1095, hQ1095, l1095, y1095, z1095⟩, st1095⟩ := X1090.virtualBack hx (y := (⟨"com/example/spare_calculus/sparecalculus/bisim/Partition", "marked", "(I)Z"⟩ : MethodName)) (z := (⟨"com/example/spare_calculus/sparecalculus/bisim/Partition", "marked", "(I)Z"⟩ : MethodName)) hown (mvT hZ (own_h hw 54 rfl)) (mvT hZ (own_h hw 55 rfl)) (notFace_of_selects (args := #[]) (mvT hZ (own_h hw 57 rfl))) (mvT hZ (own_h hw 57 rfl)) (mvT hZ (own_h hw 56 rfl)) (by decide) (backOf (W := 0) (rm8 l Z aZ hw [] b938 w0_3 e2_942 e3_943 e6_946 (own_v1073 w0_2 w0_1) [(0:Int32), (0:Int32), (0:Int32)] (own_v1075 w0_2 w0_1) T1049.heap n0 Z1068 G1056 G1057 G1060 G1074 F1091 G1076 hf1097.1 hf1097.2.1 hf1097.2.2) hZ (own_h hw 58 rfl) (own_h hw 3 rfl) (by decide) (by decide)) q1095a q1095c (g := (mkF m 114 #[iv p0, iv p1, iv p2, iv p3, iv p4, iv (3:Int32), iv w0_1, iv w0_2, iv w0_3, iv w0_4, rv b938, iv (f4 (0:Int32) (own_v1075 w0_2 w0_1)), iv (f5 (own_v1069 w0_2 w0_1)), iv (f6 (0:Int32) (own_v1077 w0_2 w0_1)), iv (f7 w0_4 (own_v1071 w0_2 w0_1)), iv (own_v1094 w0_4 w0_2 w0_1), .unset, .unset] [(.int w0_3), (.ref b938)])) rfl (by rw [hml]; rfl) (Steps.refl _) (argsL := [(.int w0_3)]) (rest := []) (lenOf own_pd3 rfl) rfl (by show 2 * 0 + _ ≤ _; exact Nat.le_of_eq rfl) (hb hby at_114) (fun _ _ => ⟨rfl, eh1090, (by decide : 8 + 0 ≤ _), (by decide : 30 + 0 ≤ _)⟩)
  dsimp only [Pt.U, Pt.locs, Pt.cells, Pt.slots] at X1095 l1095 y1095 z1095 st1095 hQ1095
  subst l1095 y1095 z1095
  obtain ⟨rfl, N1095q, eh1095⟩ := hQ1095
  have N1095 := Fr.app N1090 N1095q
  refine own_pre (fun _ k => st1095.trans k) ?_
  refine own_pre (A := T1095.setTop (mkF m 123 #[iv p0, iv p1, iv p2, iv p3, iv p4, iv (3:Int32), iv w0_1, iv w0_2, iv w0_3, iv w0_4, rv b938, iv (f4 (0:Int32) (own_v1075 w0_2 w0_1)), iv (f5 (own_v1069 w0_2 w0_1)), iv (f6 (0:Int32) (own_v1077 w0_2 w0_1)), iv (f7 w0_4 (own_v1071 w0_2 w0_1)), iv (own_v1094 w0_4 w0_2 w0_1), iv (own_v1098 w0_3 w0_2 w0_1), .unset] [(.int w0_2), (.int w0_1)])) (fun t k => ?_) ?_
  · show Steps p.tables e below (T1095.setTop (mkF m 117 #[iv p0, iv p1, iv p2, iv p3, iv p4, iv (3:Int32), iv w0_1, iv w0_2, iv w0_3, iv w0_4, rv b938, iv (f4 (0:Int32) (own_v1075 w0_2 w0_1)), iv (f5 (own_v1069 w0_2 w0_1)), iv (f6 (0:Int32) (own_v1077 w0_2 w0_1)), iv (f7 w0_4 (own_v1071 w0_2 w0_1)), iv (own_v1094 w0_4 w0_2 w0_1), .unset, .unset] [(.int (own_v1098 w0_3 w0_2 w0_1))])) _
    refine XS.istore X1095.here hx rfl (hb hby at_117) rfl (l' := #[iv p0, iv p1, iv p2, iv p3, iv p4, iv (3:Int32), iv w0_1, iv w0_2, iv w0_3, iv w0_4, rv b938, iv (f4 (0:Int32) (own_v1075 w0_2 w0_1)), iv (f5 (own_v1069 w0_2 w0_1)), iv (f6 (0:Int32) (own_v1077 w0_2 w0_1)), iv (f7 w0_4 (own_v1071 w0_2 w0_1)), iv (own_v1094 w0_4 w0_2 w0_1), iv (own_v1098 w0_3 w0_2 w0_1), .unset]) rfl ?_
    show Steps p.tables e below (T1095.setTop (mkF m 119 #[iv p0, iv p1, iv p2, iv p3, iv p4, iv (3:Int32), iv w0_1, iv w0_2, iv w0_3, iv w0_4, rv b938, iv (f4 (0:Int32) (own_v1075 w0_2 w0_1)), iv (f5 (own_v1069 w0_2 w0_1)), iv (f6 (0:Int32) (own_v1077 w0_2 w0_1)), iv (f7 w0_4 (own_v1071 w0_2 w0_1)), iv (own_v1094 w0_4 w0_2 w0_1), iv (own_v1098 w0_3 w0_2 w0_1), .unset] [])) _
    refine XS.iload X1095.here hx rfl (hb hby at_119) rfl ?_
    show Steps p.tables e below (T1095.setTop (mkF m 121 #[iv p0, iv p1, iv p2, iv p3, iv p4, iv (3:Int32), iv w0_1, iv w0_2, iv w0_3, iv w0_4, rv b938, iv (f4 (0:Int32) (own_v1075 w0_2 w0_1)), iv (f5 (own_v1069 w0_2 w0_1)), iv (f6 (0:Int32) (own_v1077 w0_2 w0_1)), iv (f7 w0_4 (own_v1071 w0_2 w0_1)), iv (own_v1094 w0_4 w0_2 w0_1), iv (own_v1098 w0_3 w0_2 w0_1), .unset] [(.int w0_1)])) _
    refine XS.iload X1095.here hx rfl (hb hby at_121) rfl ?_
    exact k
  obtain ⟨w0_5, hw0_5⟩ : ∃ z : Int32, z = (if w0_1 = w0_2 then (1:Int32) else (2:Int32)) := ⟨_, rfl⟩
  refine own_pre (A := T1095.setTop (mkF m 131 #[iv p0, iv p1, iv p2, iv p3, iv p4, iv (3:Int32), iv w0_1, iv w0_2, iv w0_3, iv w0_4, rv b938, iv (f4 (0:Int32) (own_v1075 w0_2 w0_1)), iv (f5 (own_v1069 w0_2 w0_1)), iv (f6 (0:Int32) (own_v1077 w0_2 w0_1)), iv (f7 w0_4 (own_v1071 w0_2 w0_1)), iv (own_v1094 w0_4 w0_2 w0_1), iv (own_v1098 w0_3 w0_2 w0_1), .unset] [(.int w0_5)])) (fun t k => ?_) ?_
  · show Steps p.tables e below (T1095.setTop (mkF m 123 #[iv p0, iv p1, iv p2, iv p3, iv p4, iv (3:Int32), iv w0_1, iv w0_2, iv w0_3, iv w0_4, rv b938, iv (f4 (0:Int32) (own_v1075 w0_2 w0_1)), iv (f5 (own_v1069 w0_2 w0_1)), iv (f6 (0:Int32) (own_v1077 w0_2 w0_1)), iv (f7 w0_4 (own_v1071 w0_2 w0_1)), iv (own_v1094 w0_4 w0_2 w0_1), iv (own_v1098 w0_3 w0_2 w0_1), .unset] [(.int w0_2), (.int w0_1)])) _
    by_cases hm123_1 : w0_1 = w0_2
    · refine XS.icmpNo X1095.here hx rfl (hb hby at_123) rfl (XT.ii_ne_f hm123_1) ?_
      show Steps p.tables e below (T1095.setTop (mkF m 126 #[iv p0, iv p1, iv p2, iv p3, iv p4, iv (3:Int32), iv w0_1, iv w0_2, iv w0_3, iv w0_4, rv b938, iv (f4 (0:Int32) (own_v1075 w0_2 w0_1)), iv (f5 (own_v1069 w0_2 w0_1)), iv (f6 (0:Int32) (own_v1077 w0_2 w0_1)), iv (f7 w0_4 (own_v1071 w0_2 w0_1)), iv (own_v1094 w0_4 w0_2 w0_1), iv (own_v1098 w0_3 w0_2 w0_1), .unset] [])) _
      refine XS.iconst X1095.here hx rfl (hb hby at_126) ?_
      show Steps p.tables e below (T1095.setTop (mkF m 127 #[iv p0, iv p1, iv p2, iv p3, iv p4, iv (3:Int32), iv w0_1, iv w0_2, iv w0_3, iv w0_4, rv b938, iv (f4 (0:Int32) (own_v1075 w0_2 w0_1)), iv (f5 (own_v1069 w0_2 w0_1)), iv (f6 (0:Int32) (own_v1077 w0_2 w0_1)), iv (f7 w0_4 (own_v1071 w0_2 w0_1)), iv (own_v1094 w0_4 w0_2 w0_1), iv (own_v1098 w0_3 w0_2 w0_1), .unset] [(.int (1:Int32))])) _
      refine XS.goto X1095.here hx rfl (pc0 := 127) (pc' := 131) rfl (hb hby at_127) (by decide) (by decide) ?_
      rw [hw0_5.trans (if_pos hm123_1)] at k
      exact k
    · refine XS.icmpYes X1095.here hx rfl (pc0 := 123) (pc' := 130) rfl (hb hby at_123) rfl (XT.ii_ne_t hm123_1) (by decide) (by decide) ?_
      show Steps p.tables e below (T1095.setTop (mkF m 130 #[iv p0, iv p1, iv p2, iv p3, iv p4, iv (3:Int32), iv w0_1, iv w0_2, iv w0_3, iv w0_4, rv b938, iv (f4 (0:Int32) (own_v1075 w0_2 w0_1)), iv (f5 (own_v1069 w0_2 w0_1)), iv (f6 (0:Int32) (own_v1077 w0_2 w0_1)), iv (f7 w0_4 (own_v1071 w0_2 w0_1)), iv (own_v1094 w0_4 w0_2 w0_1), iv (own_v1098 w0_3 w0_2 w0_1), .unset] [])) _
      refine XS.iconst X1095.here hx rfl (hb hby at_130) ?_
      rw [hw0_5.trans (if_neg hm123_1)] at k
      exact k
  refine own_pre (A := T1095.setTop (mkF m 137 #[iv p0, iv p1, iv p2, iv p3, iv p4, iv (3:Int32), iv w0_1, iv w0_2, iv w0_3, iv w0_4, rv b938, iv (f4 (0:Int32) (own_v1075 w0_2 w0_1)), iv (f5 (own_v1069 w0_2 w0_1)), iv (f6 (0:Int32) (own_v1077 w0_2 w0_1)), iv (f7 w0_4 (own_v1071 w0_2 w0_1)), iv (own_v1094 w0_4 w0_2 w0_1), iv (own_v1098 w0_3 w0_2 w0_1), iv w0_5] [(.int w0_5), (.int (f4 (0:Int32) (own_v1075 w0_2 w0_1)))])) (fun t k => ?_) ?_
  · show Steps p.tables e below (T1095.setTop (mkF m 131 #[iv p0, iv p1, iv p2, iv p3, iv p4, iv (3:Int32), iv w0_1, iv w0_2, iv w0_3, iv w0_4, rv b938, iv (f4 (0:Int32) (own_v1075 w0_2 w0_1)), iv (f5 (own_v1069 w0_2 w0_1)), iv (f6 (0:Int32) (own_v1077 w0_2 w0_1)), iv (f7 w0_4 (own_v1071 w0_2 w0_1)), iv (own_v1094 w0_4 w0_2 w0_1), iv (own_v1098 w0_3 w0_2 w0_1), .unset] [(.int w0_5)])) _
    refine XS.istore X1095.here hx rfl (hb hby at_131) rfl (l' := #[iv p0, iv p1, iv p2, iv p3, iv p4, iv (3:Int32), iv w0_1, iv w0_2, iv w0_3, iv w0_4, rv b938, iv (f4 (0:Int32) (own_v1075 w0_2 w0_1)), iv (f5 (own_v1069 w0_2 w0_1)), iv (f6 (0:Int32) (own_v1077 w0_2 w0_1)), iv (f7 w0_4 (own_v1071 w0_2 w0_1)), iv (own_v1094 w0_4 w0_2 w0_1), iv (own_v1098 w0_3 w0_2 w0_1), iv w0_5]) rfl ?_
    show Steps p.tables e below (T1095.setTop (mkF m 133 #[iv p0, iv p1, iv p2, iv p3, iv p4, iv (3:Int32), iv w0_1, iv w0_2, iv w0_3, iv w0_4, rv b938, iv (f4 (0:Int32) (own_v1075 w0_2 w0_1)), iv (f5 (own_v1069 w0_2 w0_1)), iv (f6 (0:Int32) (own_v1077 w0_2 w0_1)), iv (f7 w0_4 (own_v1071 w0_2 w0_1)), iv (own_v1094 w0_4 w0_2 w0_1), iv (own_v1098 w0_3 w0_2 w0_1), iv w0_5] [])) _
    refine XS.iload X1095.here hx rfl (hb hby at_133) rfl ?_
    show Steps p.tables e below (T1095.setTop (mkF m 135 #[iv p0, iv p1, iv p2, iv p3, iv p4, iv (3:Int32), iv w0_1, iv w0_2, iv w0_3, iv w0_4, rv b938, iv (f4 (0:Int32) (own_v1075 w0_2 w0_1)), iv (f5 (own_v1069 w0_2 w0_1)), iv (f6 (0:Int32) (own_v1077 w0_2 w0_1)), iv (f7 w0_4 (own_v1071 w0_2 w0_1)), iv (own_v1094 w0_4 w0_2 w0_1), iv (own_v1098 w0_3 w0_2 w0_1), iv w0_5] [(.int (f4 (0:Int32) (own_v1075 w0_2 w0_1)))])) _
    refine XS.iload X1095.here hx rfl (hb hby at_135) rfl ?_
    exact k
  by_cases hs137_2 : (f4 (0:Int32) (own_v1075 w0_2 w0_1)) = w0_5
  · refine own_pre (A := T1095.setTop (mkF m 145 #[iv p0, iv p1, iv p2, iv p3, iv p4, iv (3:Int32), iv w0_1, iv w0_2, iv w0_3, iv w0_4, rv b938, iv (f4 (0:Int32) (own_v1075 w0_2 w0_1)), iv (f5 (own_v1069 w0_2 w0_1)), iv (f6 (0:Int32) (own_v1077 w0_2 w0_1)), iv (f7 w0_4 (own_v1071 w0_2 w0_1)), iv (own_v1094 w0_4 w0_2 w0_1), iv (own_v1098 w0_3 w0_2 w0_1), iv w0_5] [(.int (1:Int32)), (.int (f5 (own_v1069 w0_2 w0_1)))])) (fun t k => ?_) ?_
    · show Steps p.tables e below (T1095.setTop (mkF m 137 #[iv p0, iv p1, iv p2, iv p3, iv p4, iv (3:Int32), iv w0_1, iv w0_2, iv w0_3, iv w0_4, rv b938, iv (f4 (0:Int32) (own_v1075 w0_2 w0_1)), iv (f5 (own_v1069 w0_2 w0_1)), iv (f6 (0:Int32) (own_v1077 w0_2 w0_1)), iv (f7 w0_4 (own_v1071 w0_2 w0_1)), iv (own_v1094 w0_4 w0_2 w0_1), iv (own_v1098 w0_3 w0_2 w0_1), iv w0_5] [(.int w0_5), (.int (f4 (0:Int32) (own_v1075 w0_2 w0_1)))])) _
      refine XS.icmpYes X1095.here hx rfl (pc0 := 137) (pc' := 142) rfl (hb hby at_137) rfl (XT.ii_eq_t hs137_2) (by decide) (by decide) ?_
      show Steps p.tables e below (T1095.setTop (mkF m 142 #[iv p0, iv p1, iv p2, iv p3, iv p4, iv (3:Int32), iv w0_1, iv w0_2, iv w0_3, iv w0_4, rv b938, iv (f4 (0:Int32) (own_v1075 w0_2 w0_1)), iv (f5 (own_v1069 w0_2 w0_1)), iv (f6 (0:Int32) (own_v1077 w0_2 w0_1)), iv (f7 w0_4 (own_v1071 w0_2 w0_1)), iv (own_v1094 w0_4 w0_2 w0_1), iv (own_v1098 w0_3 w0_2 w0_1), iv w0_5] [])) _
      refine XS.iload X1095.here hx rfl (hb hby at_142) rfl ?_
      show Steps p.tables e below (T1095.setTop (mkF m 144 #[iv p0, iv p1, iv p2, iv p3, iv p4, iv (3:Int32), iv w0_1, iv w0_2, iv w0_3, iv w0_4, rv b938, iv (f4 (0:Int32) (own_v1075 w0_2 w0_1)), iv (f5 (own_v1069 w0_2 w0_1)), iv (f6 (0:Int32) (own_v1077 w0_2 w0_1)), iv (f7 w0_4 (own_v1071 w0_2 w0_1)), iv (own_v1094 w0_4 w0_2 w0_1), iv (own_v1098 w0_3 w0_2 w0_1), iv w0_5] [(.int (f5 (own_v1069 w0_2 w0_1)))])) _
      refine XS.iconst X1095.here hx rfl (hb hby at_144) ?_
      exact k
    by_cases hs145_3 : (f5 (own_v1069 w0_2 w0_1)) = (1:Int32)
    · refine own_pre (A := T1095.setTop (mkF m 152 #[iv p0, iv p1, iv p2, iv p3, iv p4, iv (3:Int32), iv w0_1, iv w0_2, iv w0_3, iv w0_4, rv b938, iv (f4 (0:Int32) (own_v1075 w0_2 w0_1)), iv (f5 (own_v1069 w0_2 w0_1)), iv (f6 (0:Int32) (own_v1077 w0_2 w0_1)), iv (f7 w0_4 (own_v1071 w0_2 w0_1)), iv (own_v1094 w0_4 w0_2 w0_1), iv (own_v1098 w0_3 w0_2 w0_1), iv w0_5] [(.int (f6 (0:Int32) (own_v1077 w0_2 w0_1)))])) (fun t k => ?_) ?_
      · show Steps p.tables e below (T1095.setTop (mkF m 145 #[iv p0, iv p1, iv p2, iv p3, iv p4, iv (3:Int32), iv w0_1, iv w0_2, iv w0_3, iv w0_4, rv b938, iv (f4 (0:Int32) (own_v1075 w0_2 w0_1)), iv (f5 (own_v1069 w0_2 w0_1)), iv (f6 (0:Int32) (own_v1077 w0_2 w0_1)), iv (f7 w0_4 (own_v1071 w0_2 w0_1)), iv (own_v1094 w0_4 w0_2 w0_1), iv (own_v1098 w0_3 w0_2 w0_1), iv w0_5] [(.int (1:Int32)), (.int (f5 (own_v1069 w0_2 w0_1)))])) _
        refine XS.icmpYes X1095.here hx rfl (pc0 := 145) (pc' := 150) rfl (hb hby at_145) rfl (XT.ii_eq_t hs145_3) (by decide) (by decide) ?_
        show Steps p.tables e below (T1095.setTop (mkF m 150 #[iv p0, iv p1, iv p2, iv p3, iv p4, iv (3:Int32), iv w0_1, iv w0_2, iv w0_3, iv w0_4, rv b938, iv (f4 (0:Int32) (own_v1075 w0_2 w0_1)), iv (f5 (own_v1069 w0_2 w0_1)), iv (f6 (0:Int32) (own_v1077 w0_2 w0_1)), iv (f7 w0_4 (own_v1071 w0_2 w0_1)), iv (own_v1094 w0_4 w0_2 w0_1), iv (own_v1098 w0_3 w0_2 w0_1), iv w0_5] [])) _
        refine XS.iload X1095.here hx rfl (hb hby at_150) rfl ?_
        exact k
      by_cases hs152_4 : (f6 (0:Int32) (own_v1077 w0_2 w0_1)) = (0:Int32)
      · refine own_pre (A := T1095.setTop (mkF m 159 #[iv p0, iv p1, iv p2, iv p3, iv p4, iv (3:Int32), iv w0_1, iv w0_2, iv w0_3, iv w0_4, rv b938, iv (f4 (0:Int32) (own_v1075 w0_2 w0_1)), iv (f5 (own_v1069 w0_2 w0_1)), iv (f6 (0:Int32) (own_v1077 w0_2 w0_1)), iv (f7 w0_4 (own_v1071 w0_2 w0_1)), iv (own_v1094 w0_4 w0_2 w0_1), iv (own_v1098 w0_3 w0_2 w0_1), iv w0_5] [(.int (f7 w0_4 (own_v1071 w0_2 w0_1)))])) (fun t k => ?_) ?_
        · show Steps p.tables e below (T1095.setTop (mkF m 152 #[iv p0, iv p1, iv p2, iv p3, iv p4, iv (3:Int32), iv w0_1, iv w0_2, iv w0_3, iv w0_4, rv b938, iv (f4 (0:Int32) (own_v1075 w0_2 w0_1)), iv (f5 (own_v1069 w0_2 w0_1)), iv (f6 (0:Int32) (own_v1077 w0_2 w0_1)), iv (f7 w0_4 (own_v1071 w0_2 w0_1)), iv (own_v1094 w0_4 w0_2 w0_1), iv (own_v1098 w0_3 w0_2 w0_1), iv w0_5] [(.int (f6 (0:Int32) (own_v1077 w0_2 w0_1)))])) _
          refine XS.ifYes X1095.here hx rfl (pc0 := 152) (pc' := 157) rfl (hb hby at_152) rfl (XT.i0_eq_t hs152_4) (by decide) (by decide) ?_
          show Steps p.tables e below (T1095.setTop (mkF m 157 #[iv p0, iv p1, iv p2, iv p3, iv p4, iv (3:Int32), iv w0_1, iv w0_2, iv w0_3, iv w0_4, rv b938, iv (f4 (0:Int32) (own_v1075 w0_2 w0_1)), iv (f5 (own_v1069 w0_2 w0_1)), iv (f6 (0:Int32) (own_v1077 w0_2 w0_1)), iv (f7 w0_4 (own_v1071 w0_2 w0_1)), iv (own_v1094 w0_4 w0_2 w0_1), iv (own_v1098 w0_3 w0_2 w0_1), iv w0_5] [])) _
          refine XS.iload X1095.here hx rfl (hb hby at_157) rfl ?_
          exact k
        by_cases hs159_5 : (f7 w0_4 (own_v1071 w0_2 w0_1)) < (0:Int32)
        · refine own_pre (A := T1095.setTop (mkF m 170 #[iv p0, iv p1, iv p2, iv p3, iv p4, iv (3:Int32), iv w0_1, iv w0_2, iv w0_3, iv w0_4, rv b938, iv (f4 (0:Int32) (own_v1075 w0_2 w0_1)), iv (f5 (own_v1069 w0_2 w0_1)), iv (f6 (0:Int32) (own_v1077 w0_2 w0_1)), iv (f7 w0_4 (own_v1071 w0_2 w0_1)), iv (own_v1094 w0_4 w0_2 w0_1), iv (own_v1098 w0_3 w0_2 w0_1), iv w0_5] [(.int (0:Int32))])) (fun t k => ?_) ?_
          · show Steps p.tables e below (T1095.setTop (mkF m 159 #[iv p0, iv p1, iv p2, iv p3, iv p4, iv (3:Int32), iv w0_1, iv w0_2, iv w0_3, iv w0_4, rv b938, iv (f4 (0:Int32) (own_v1075 w0_2 w0_1)), iv (f5 (own_v1069 w0_2 w0_1)), iv (f6 (0:Int32) (own_v1077 w0_2 w0_1)), iv (f7 w0_4 (own_v1071 w0_2 w0_1)), iv (own_v1094 w0_4 w0_2 w0_1), iv (own_v1098 w0_3 w0_2 w0_1), iv w0_5] [(.int (f7 w0_4 (own_v1071 w0_2 w0_1)))])) _
            refine XS.ifYes X1095.here hx rfl (pc0 := 159) (pc' := 169) rfl (hb hby at_159) rfl (XT.i0_lt_t hs159_5) (by decide) (by decide) ?_
            show Steps p.tables e below (T1095.setTop (mkF m 169 #[iv p0, iv p1, iv p2, iv p3, iv p4, iv (3:Int32), iv w0_1, iv w0_2, iv w0_3, iv w0_4, rv b938, iv (f4 (0:Int32) (own_v1075 w0_2 w0_1)), iv (f5 (own_v1069 w0_2 w0_1)), iv (f6 (0:Int32) (own_v1077 w0_2 w0_1)), iv (f7 w0_4 (own_v1071 w0_2 w0_1)), iv (own_v1094 w0_4 w0_2 w0_1), iv (own_v1098 w0_3 w0_2 w0_1), iv w0_5] [])) _
            refine XS.iconst X1095.here hx rfl (hb hby at_169) ?_
            exact k
          exact own_end X1095 (BodyLoose.notSynchronized Bd) (fun h => by rw [Bd.returns] at h; cases h) (v := some (.int (0:Int32))) (fun fs hr => retN X1095 hx (t := .boolean) Bd.returns (by simp) (hb hby at_170) hr) (by show Q0n3 Z p0 p1 p2 p3 p4 h0 n0 _ T1095.heap _; rw [eh1095]; exact ⟨(by subst hw0_5; exact absurd ⟨hs137_2, hs145_3, hs152_4, hs159_5⟩ (own_fin1099 w0_1 (own_mem3 _ _ hw0_1) w0_2 (own_mem3 _ _ hw0_2) w0_4 (own_mem3 _ _ hw0_4))), N1095⟩) (by decide) (by decide)
        · refine own_pre (A := T1095.setTop (mkF m 166 #[iv p0, iv p1, iv p2, iv p3, iv p4, iv (3:Int32), iv w0_1, iv w0_2, iv w0_3, iv w0_4, rv b938, iv (f4 (0:Int32) (own_v1075 w0_2 w0_1)), iv (f5 (own_v1069 w0_2 w0_1)), iv (f6 (0:Int32) (own_v1077 w0_2 w0_1)), iv (f7 w0_4 (own_v1071 w0_2 w0_1)), iv (own_v1094 w0_4 w0_2 w0_1), iv (own_v1098 w0_3 w0_2 w0_1), iv w0_5] [(.int (3:Int32)), (.int (f7 w0_4 (own_v1071 w0_2 w0_1)))])) (fun t k => ?_) ?_
          · show Steps p.tables e below (T1095.setTop (mkF m 159 #[iv p0, iv p1, iv p2, iv p3, iv p4, iv (3:Int32), iv w0_1, iv w0_2, iv w0_3, iv w0_4, rv b938, iv (f4 (0:Int32) (own_v1075 w0_2 w0_1)), iv (f5 (own_v1069 w0_2 w0_1)), iv (f6 (0:Int32) (own_v1077 w0_2 w0_1)), iv (f7 w0_4 (own_v1071 w0_2 w0_1)), iv (own_v1094 w0_4 w0_2 w0_1), iv (own_v1098 w0_3 w0_2 w0_1), iv w0_5] [(.int (f7 w0_4 (own_v1071 w0_2 w0_1)))])) _
            refine XS.ifNo X1095.here hx rfl (hb hby at_159) rfl (XT.i0_lt_f hs159_5) ?_
            show Steps p.tables e below (T1095.setTop (mkF m 162 #[iv p0, iv p1, iv p2, iv p3, iv p4, iv (3:Int32), iv w0_1, iv w0_2, iv w0_3, iv w0_4, rv b938, iv (f4 (0:Int32) (own_v1075 w0_2 w0_1)), iv (f5 (own_v1069 w0_2 w0_1)), iv (f6 (0:Int32) (own_v1077 w0_2 w0_1)), iv (f7 w0_4 (own_v1071 w0_2 w0_1)), iv (own_v1094 w0_4 w0_2 w0_1), iv (own_v1098 w0_3 w0_2 w0_1), iv w0_5] [])) _
            refine XS.iload X1095.here hx rfl (hb hby at_162) rfl ?_
            show Steps p.tables e below (T1095.setTop (mkF m 164 #[iv p0, iv p1, iv p2, iv p3, iv p4, iv (3:Int32), iv w0_1, iv w0_2, iv w0_3, iv w0_4, rv b938, iv (f4 (0:Int32) (own_v1075 w0_2 w0_1)), iv (f5 (own_v1069 w0_2 w0_1)), iv (f6 (0:Int32) (own_v1077 w0_2 w0_1)), iv (f7 w0_4 (own_v1071 w0_2 w0_1)), iv (own_v1094 w0_4 w0_2 w0_1), iv (own_v1098 w0_3 w0_2 w0_1), iv w0_5] [(.int (f7 w0_4 (own_v1071 w0_2 w0_1)))])) _
            refine XS.iload X1095.here hx rfl (hb hby at_164) rfl ?_
            exact k
          by_cases hs166_6 : (f7 w0_4 (own_v1071 w0_2 w0_1)) < (3:Int32)
          · refine own_pre (A := T1095.setTop (mkF m 171 #[iv p0, iv p1, iv p2, iv p3, iv p4, iv (3:Int32), iv w0_1, iv w0_2, iv w0_3, iv w0_4, rv b938, iv (f4 (0:Int32) (own_v1075 w0_2 w0_1)), iv (f5 (own_v1069 w0_2 w0_1)), iv (f6 (0:Int32) (own_v1077 w0_2 w0_1)), iv (f7 w0_4 (own_v1071 w0_2 w0_1)), iv (own_v1094 w0_4 w0_2 w0_1), iv (own_v1098 w0_3 w0_2 w0_1), iv w0_5] [])) (fun t k => ?_) ?_
            · show Steps p.tables e below (T1095.setTop (mkF m 166 #[iv p0, iv p1, iv p2, iv p3, iv p4, iv (3:Int32), iv w0_1, iv w0_2, iv w0_3, iv w0_4, rv b938, iv (f4 (0:Int32) (own_v1075 w0_2 w0_1)), iv (f5 (own_v1069 w0_2 w0_1)), iv (f6 (0:Int32) (own_v1077 w0_2 w0_1)), iv (f7 w0_4 (own_v1071 w0_2 w0_1)), iv (own_v1094 w0_4 w0_2 w0_1), iv (own_v1098 w0_3 w0_2 w0_1), iv w0_5] [(.int (3:Int32)), (.int (f7 w0_4 (own_v1071 w0_2 w0_1)))])) _
              refine XS.icmpYes X1095.here hx rfl (pc0 := 166) (pc' := 171) rfl (hb hby at_166) rfl (XT.ii_lt_t hs166_6) (by decide) (by decide) ?_
              exact k
            have hJ185_7 : own_Goes p e below s (Q0n3 Z p0 p1 p2 p3 p4 h0 n0) 8 64 (T1095.setTop (mkF m 185 #[iv p0, iv p1, iv p2, iv p3, iv p4, iv (3:Int32), iv w0_1, iv w0_2, iv w0_3, iv w0_4, rv b938, iv (f4 (0:Int32) (own_v1075 w0_2 w0_1)), iv (f5 (own_v1069 w0_2 w0_1)), iv (f6 (0:Int32) (own_v1077 w0_2 w0_1)), iv (f7 w0_4 (own_v1071 w0_2 w0_1)), iv (own_v1094 w0_4 w0_2 w0_1), iv (own_v1098 w0_3 w0_2 w0_1), iv w0_5] [])) := by
              have hJ207_8 : own_Goes p e below s (Q0n3 Z p0 p1 p2 p3 p4 h0 n0) 8 64 (T1095.setTop (mkF m 207 #[iv p0, iv p1, iv p2, iv p3, iv p4, iv (3:Int32), iv w0_1, iv w0_2, iv w0_3, iv w0_4, rv b938, iv (f4 (0:Int32) (own_v1075 w0_2 w0_1)), iv (f5 (own_v1069 w0_2 w0_1)), iv (f6 (0:Int32) (own_v1077 w0_2 w0_1)), iv (f7 w0_4 (own_v1071 w0_2 w0_1)), iv (own_v1094 w0_4 w0_2 w0_1), iv (own_v1098 w0_3 w0_2 w0_1), iv w0_5] [])) := by
                have hJ230_9 : own_Goes p e below s (Q0n3 Z p0 p1 p2 p3 p4 h0 n0) 8 64 (T1095.setTop (mkF m 230 #[iv p0, iv p1, iv p2, iv p3, iv p4, iv (3:Int32), iv w0_1, iv w0_2, iv w0_3, iv w0_4, rv b938, iv (f4 (0:Int32) (own_v1075 w0_2 w0_1)), iv (f5 (own_v1069 w0_2 w0_1)), iv (f6 (0:Int32) (own_v1077 w0_2 w0_1)), iv (f7 w0_4 (own_v1071 w0_2 w0_1)), iv (own_v1094 w0_4 w0_2 w0_1), iv (own_v1098 w0_3 w0_2 w0_1), iv w0_5] [])) := by
                  refine own_pre (A := T1095.setTop (mkF m 236 #[iv p0, iv p1, iv p2, iv p3, iv p4, iv (3:Int32), iv w0_1, iv w0_2, iv w0_3, iv w0_4, rv b938, iv (f4 (0:Int32) (own_v1075 w0_2 w0_1)), iv (f5 (own_v1069 w0_2 w0_1)), iv (f6 (0:Int32) (own_v1077 w0_2 w0_1)), iv (f7 w0_4 (own_v1071 w0_2 w0_1)), iv (own_v1094 w0_4 w0_2 w0_1), iv (own_v1098 w0_3 w0_2 w0_1), iv w0_5] [(.int w0_5), (.int w0_4), (.int (own_v1094 w0_4 w0_2 w0_1))])) (fun t k => ?_) ?_
                  · show Steps p.tables e below (T1095.setTop (mkF m 230 #[iv p0, iv p1, iv p2, iv p3, iv p4, iv (3:Int32), iv w0_1, iv w0_2, iv w0_3, iv w0_4, rv b938, iv (f4 (0:Int32) (own_v1075 w0_2 w0_1)), iv (f5 (own_v1069 w0_2 w0_1)), iv (f6 (0:Int32) (own_v1077 w0_2 w0_1)), iv (f7 w0_4 (own_v1071 w0_2 w0_1)), iv (own_v1094 w0_4 w0_2 w0_1), iv (own_v1098 w0_3 w0_2 w0_1), iv w0_5] [])) _
                    refine XS.iload X1095.here hx rfl (hb hby at_230) rfl ?_
                    show Steps p.tables e below (T1095.setTop (mkF m 232 #[iv p0, iv p1, iv p2, iv p3, iv p4, iv (3:Int32), iv w0_1, iv w0_2, iv w0_3, iv w0_4, rv b938, iv (f4 (0:Int32) (own_v1075 w0_2 w0_1)), iv (f5 (own_v1069 w0_2 w0_1)), iv (f6 (0:Int32) (own_v1077 w0_2 w0_1)), iv (f7 w0_4 (own_v1071 w0_2 w0_1)), iv (own_v1094 w0_4 w0_2 w0_1), iv (own_v1098 w0_3 w0_2 w0_1), iv w0_5] [(.int (own_v1094 w0_4 w0_2 w0_1))])) _
                    refine XS.iload X1095.here hx rfl (hb hby at_232) rfl ?_
                    show Steps p.tables e below (T1095.setTop (mkF m 234 #[iv p0, iv p1, iv p2, iv p3, iv p4, iv (3:Int32), iv w0_1, iv w0_2, iv w0_3, iv w0_4, rv b938, iv (f4 (0:Int32) (own_v1075 w0_2 w0_1)), iv (f5 (own_v1069 w0_2 w0_1)), iv (f6 (0:Int32) (own_v1077 w0_2 w0_1)), iv (f7 w0_4 (own_v1071 w0_2 w0_1)), iv (own_v1094 w0_4 w0_2 w0_1), iv (own_v1098 w0_3 w0_2 w0_1), iv w0_5] [(.int w0_4), (.int (own_v1094 w0_4 w0_2 w0_1))])) _
                    refine XS.iload X1095.here hx rfl (hb hby at_234) rfl ?_
                    exact k
                  obtain ⟨w0_6, hw0_6⟩ : ∃ z : Int32, z = (if w0_4 < w0_5 then (1:Int32) else (0:Int32)) := ⟨_, rfl⟩
                  refine own_pre (A := T1095.setTop (mkF m 244 #[iv p0, iv p1, iv p2, iv p3, iv p4, iv (3:Int32), iv w0_1, iv w0_2, iv w0_3, iv w0_4, rv b938, iv (f4 (0:Int32) (own_v1075 w0_2 w0_1)), iv (f5 (own_v1069 w0_2 w0_1)), iv (f6 (0:Int32) (own_v1077 w0_2 w0_1)), iv (f7 w0_4 (own_v1071 w0_2 w0_1)), iv (own_v1094 w0_4 w0_2 w0_1), iv (own_v1098 w0_3 w0_2 w0_1), iv w0_5] [(.int w0_6), (.int (own_v1094 w0_4 w0_2 w0_1))])) (fun t k => ?_) ?_
                  · show Steps p.tables e below (T1095.setTop (mkF m 236 #[iv p0, iv p1, iv p2, iv p3, iv p4, iv (3:Int32), iv w0_1, iv w0_2, iv w0_3, iv w0_4, rv b938, iv (f4 (0:Int32) (own_v1075 w0_2 w0_1)), iv (f5 (own_v1069 w0_2 w0_1)), iv (f6 (0:Int32) (own_v1077 w0_2 w0_1)), iv (f7 w0_4 (own_v1071 w0_2 w0_1)), iv (own_v1094 w0_4 w0_2 w0_1), iv (own_v1098 w0_3 w0_2 w0_1), iv w0_5] [(.int w0_5), (.int w0_4), (.int (own_v1094 w0_4 w0_2 w0_1))])) _
                    by_cases hm236_10 : w0_4 < w0_5
                    · refine XS.icmpNo X1095.here hx rfl (hb hby at_236) rfl (XT.ii_ge_f hm236_10) ?_
                      show Steps p.tables e below (T1095.setTop (mkF m 239 #[iv p0, iv p1, iv p2, iv p3, iv p4, iv (3:Int32), iv w0_1, iv w0_2, iv w0_3, iv w0_4, rv b938, iv (f4 (0:Int32) (own_v1075 w0_2 w0_1)), iv (f5 (own_v1069 w0_2 w0_1)), iv (f6 (0:Int32) (own_v1077 w0_2 w0_1)), iv (f7 w0_4 (own_v1071 w0_2 w0_1)), iv (own_v1094 w0_4 w0_2 w0_1), iv (own_v1098 w0_3 w0_2 w0_1), iv w0_5] [(.int (own_v1094 w0_4 w0_2 w0_1))])) _
                      refine XS.iconst X1095.here hx rfl (hb hby at_239) ?_
                      show Steps p.tables e below (T1095.setTop (mkF m 240 #[iv p0, iv p1, iv p2, iv p3, iv p4, iv (3:Int32), iv w0_1, iv w0_2, iv w0_3, iv w0_4, rv b938, iv (f4 (0:Int32) (own_v1075 w0_2 w0_1)), iv (f5 (own_v1069 w0_2 w0_1)), iv (f6 (0:Int32) (own_v1077 w0_2 w0_1)), iv (f7 w0_4 (own_v1071 w0_2 w0_1)), iv (own_v1094 w0_4 w0_2 w0_1), iv (own_v1098 w0_3 w0_2 w0_1), iv w0_5] [(.int (1:Int32)), (.int (own_v1094 w0_4 w0_2 w0_1))])) _
                      refine XS.goto X1095.here hx rfl (pc0 := 240) (pc' := 244) rfl (hb hby at_240) (by decide) (by decide) ?_
                      rw [hw0_6.trans (if_pos hm236_10)] at k
                      exact k
                    · refine XS.icmpYes X1095.here hx rfl (pc0 := 236) (pc' := 243) rfl (hb hby at_236) rfl (XT.ii_ge_t hm236_10) (by decide) (by decide) ?_
                      show Steps p.tables e below (T1095.setTop (mkF m 243 #[iv p0, iv p1, iv p2, iv p3, iv p4, iv (3:Int32), iv w0_1, iv w0_2, iv w0_3, iv w0_4, rv b938, iv (f4 (0:Int32) (own_v1075 w0_2 w0_1)), iv (f5 (own_v1069 w0_2 w0_1)), iv (f6 (0:Int32) (own_v1077 w0_2 w0_1)), iv (f7 w0_4 (own_v1071 w0_2 w0_1)), iv (own_v1094 w0_4 w0_2 w0_1), iv (own_v1098 w0_3 w0_2 w0_1), iv w0_5] [(.int (own_v1094 w0_4 w0_2 w0_1))])) _
                      refine XS.iconst X1095.here hx rfl (hb hby at_243) ?_
                      rw [hw0_6.trans (if_neg hm236_10)] at k
                      exact k
                  by_cases hs244_11 : (own_v1094 w0_4 w0_2 w0_1) = w0_6
                  · refine own_pre (A := T1095.setTop (mkF m 255 #[iv p0, iv p1, iv p2, iv p3, iv p4, iv (3:Int32), iv w0_1, iv w0_2, iv w0_3, iv w0_4, rv b938, iv (f4 (0:Int32) (own_v1075 w0_2 w0_1)), iv (f5 (own_v1069 w0_2 w0_1)), iv (f6 (0:Int32) (own_v1077 w0_2 w0_1)), iv (f7 w0_4 (own_v1071 w0_2 w0_1)), iv (own_v1094 w0_4 w0_2 w0_1), iv (own_v1098 w0_3 w0_2 w0_1), iv w0_5] [(.int w0_1), (.int w0_3), (.int (own_v1098 w0_3 w0_2 w0_1))])) (fun t k => ?_) ?_
                    · show Steps p.tables e below (T1095.setTop (mkF m 244 #[iv p0, iv p1, iv p2, iv p3, iv p4, iv (3:Int32), iv w0_1, iv w0_2, iv w0_3, iv w0_4, rv b938, iv (f4 (0:Int32) (own_v1075 w0_2 w0_1)), iv (f5 (own_v1069 w0_2 w0_1)), iv (f6 (0:Int32) (own_v1077 w0_2 w0_1)), iv (f7 w0_4 (own_v1071 w0_2 w0_1)), iv (own_v1094 w0_4 w0_2 w0_1), iv (own_v1098 w0_3 w0_2 w0_1), iv w0_5] [(.int w0_6), (.int (own_v1094 w0_4 w0_2 w0_1))])) _
                      refine XS.icmpYes X1095.here hx rfl (pc0 := 244) (pc' := 249) rfl (hb hby at_244) rfl (XT.ii_eq_t hs244_11) (by decide) (by decide) ?_
                      show Steps p.tables e below (T1095.setTop (mkF m 249 #[iv p0, iv p1, iv p2, iv p3, iv p4, iv (3:Int32), iv w0_1, iv w0_2, iv w0_3, iv w0_4, rv b938, iv (f4 (0:Int32) (own_v1075 w0_2 w0_1)), iv (f5 (own_v1069 w0_2 w0_1)), iv (f6 (0:Int32) (own_v1077 w0_2 w0_1)), iv (f7 w0_4 (own_v1071 w0_2 w0_1)), iv (own_v1094 w0_4 w0_2 w0_1), iv (own_v1098 w0_3 w0_2 w0_1), iv w0_5] [])) _
                      refine XS.iload X1095.here hx rfl (hb hby at_249) rfl ?_
                      show Steps p.tables e below (T1095.setTop (mkF m 251 #[iv p0, iv p1, iv p2, iv p3, iv p4, iv (3:Int32), iv w0_1, iv w0_2, iv w0_3, iv w0_4, rv b938, iv (f4 (0:Int32) (own_v1075 w0_2 w0_1)), iv (f5 (own_v1069 w0_2 w0_1)), iv (f6 (0:Int32) (own_v1077 w0_2 w0_1)), iv (f7 w0_4 (own_v1071 w0_2 w0_1)), iv (own_v1094 w0_4 w0_2 w0_1), iv (own_v1098 w0_3 w0_2 w0_1), iv w0_5] [(.int (own_v1098 w0_3 w0_2 w0_1))])) _
                      refine XS.iload X1095.here hx rfl (hb hby at_251) rfl ?_
                      show Steps p.tables e below (T1095.setTop (mkF m 253 #[iv p0, iv p1, iv p2, iv p3, iv p4, iv (3:Int32), iv w0_1, iv w0_2, iv w0_3, iv w0_4, rv b938, iv (f4 (0:Int32) (own_v1075 w0_2 w0_1)), iv (f5 (own_v1069 w0_2 w0_1)), iv (f6 (0:Int32) (own_v1077 w0_2 w0_1)), iv (f7 w0_4 (own_v1071 w0_2 w0_1)), iv (own_v1094 w0_4 w0_2 w0_1), iv (own_v1098 w0_3 w0_2 w0_1), iv w0_5] [(.int w0_3), (.int (own_v1098 w0_3 w0_2 w0_1))])) _
                      refine XS.iload X1095.here hx rfl (hb hby at_253) rfl ?_
                      exact k
                    obtain ⟨w0_7, hw0_7⟩ : ∃ z : Int32, z = (if w0_3 = w0_1 then (1:Int32) else (if w0_3 = w0_2 then (1:Int32) else (0:Int32))) := ⟨_, rfl⟩
                    refine own_pre (A := T1095.setTop (mkF m 270 #[iv p0, iv p1, iv p2, iv p3, iv p4, iv (3:Int32), iv w0_1, iv w0_2, iv w0_3, iv w0_4, rv b938, iv (f4 (0:Int32) (own_v1075 w0_2 w0_1)), iv (f5 (own_v1069 w0_2 w0_1)), iv (f6 (0:Int32) (own_v1077 w0_2 w0_1)), iv (f7 w0_4 (own_v1071 w0_2 w0_1)), iv (own_v1094 w0_4 w0_2 w0_1), iv (own_v1098 w0_3 w0_2 w0_1), iv w0_5] [(.int w0_7), (.int (own_v1098 w0_3 w0_2 w0_1))])) (fun t k => ?_) ?_
                    · show Steps p.tables e below (T1095.setTop (mkF m 255 #[iv p0, iv p1, iv p2, iv p3, iv p4, iv (3:Int32), iv w0_1, iv w0_2, iv w0_3, iv w0_4, rv b938, iv (f4 (0:Int32) (own_v1075 w0_2 w0_1)), iv (f5 (own_v1069 w0_2 w0_1)), iv (f6 (0:Int32) (own_v1077 w0_2 w0_1)), iv (f7 w0_4 (own_v1071 w0_2 w0_1)), iv (own_v1094 w0_4 w0_2 w0_1), iv (own_v1098 w0_3 w0_2 w0_1), iv w0_5] [(.int w0_1), (.int w0_3), (.int (own_v1098 w0_3 w0_2 w0_1))])) _
                      by_cases hm255_12 : w0_3 = w0_1
                      · refine XS.icmpYes X1095.here hx rfl (pc0 := 255) (pc' := 265) rfl (hb hby at_255) rfl (XT.ii_eq_t hm255_12) (by decide) (by decide) ?_
                        show Steps p.tables e below (T1095.setTop (mkF m 265 #[iv p0, iv p1, iv p2, iv p3, iv p4, iv (3:Int32), iv w0_1, iv w0_2, iv w0_3, iv w0_4, rv b938, iv (f4 (0:Int32) (own_v1075 w0_2 w0_1)), iv (f5 (own_v1069 w0_2 w0_1)), iv (f6 (0:Int32) (own_v1077 w0_2 w0_1)), iv (f7 w0_4 (own_v1071 w0_2 w0_1)), iv (own_v1094 w0_4 w0_2 w0_1), iv (own_v1098 w0_3 w0_2 w0_1), iv w0_5] [(.int (own_v1098 w0_3 w0_2 w0_1))])) _
                        refine XS.iconst X1095.here hx rfl (hb hby at_265) ?_
                        show Steps p.tables e below (T1095.setTop (mkF m 266 #[iv p0, iv p1, iv p2, iv p3, iv p4, iv (3:Int32), iv w0_1, iv w0_2, iv w0_3, iv w0_4, rv b938, iv (f4 (0:Int32) (own_v1075 w0_2 w0_1)), iv (f5 (own_v1069 w0_2 w0_1)), iv (f6 (0:Int32) (own_v1077 w0_2 w0_1)), iv (f7 w0_4 (own_v1071 w0_2 w0_1)), iv (own_v1094 w0_4 w0_2 w0_1), iv (own_v1098 w0_3 w0_2 w0_1), iv w0_5] [(.int (1:Int32)), (.int (own_v1098 w0_3 w0_2 w0_1))])) _
                        refine XS.goto X1095.here hx rfl (pc0 := 266) (pc' := 270) rfl (hb hby at_266) (by decide) (by decide) ?_
                        rw [hw0_7.trans (if_pos hm255_12)] at k
                        exact k
                      · refine XS.icmpNo X1095.here hx rfl (hb hby at_255) rfl (XT.ii_eq_f hm255_12) ?_
                        show Steps p.tables e below (T1095.setTop (mkF m 258 #[iv p0, iv p1, iv p2, iv p3, iv p4, iv (3:Int32), iv w0_1, iv w0_2, iv w0_3, iv w0_4, rv b938, iv (f4 (0:Int32) (own_v1075 w0_2 w0_1)), iv (f5 (own_v1069 w0_2 w0_1)), iv (f6 (0:Int32) (own_v1077 w0_2 w0_1)), iv (f7 w0_4 (own_v1071 w0_2 w0_1)), iv (own_v1094 w0_4 w0_2 w0_1), iv (own_v1098 w0_3 w0_2 w0_1), iv w0_5] [(.int (own_v1098 w0_3 w0_2 w0_1))])) _
                        refine XS.iload X1095.here hx rfl (hb hby at_258) rfl ?_
                        show Steps p.tables e below (T1095.setTop (mkF m 260 #[iv p0, iv p1, iv p2, iv p3, iv p4, iv (3:Int32), iv w0_1, iv w0_2, iv w0_3, iv w0_4, rv b938, iv (f4 (0:Int32) (own_v1075 w0_2 w0_1)), iv (f5 (own_v1069 w0_2 w0_1)), iv (f6 (0:Int32) (own_v1077 w0_2 w0_1)), iv (f7 w0_4 (own_v1071 w0_2 w0_1)), iv (own_v1094 w0_4 w0_2 w0_1), iv (own_v1098 w0_3 w0_2 w0_1), iv w0_5] [(.int w0_3), (.int (own_v1098 w0_3 w0_2 w0_1))])) _
                        refine XS.iload X1095.here hx rfl (hb hby at_260) rfl ?_
                        show Steps p.tables e below (T1095.setTop (mkF m 262 #[iv p0, iv p1, iv p2, iv p3, iv p4, iv (3:Int32), iv w0_1, iv w0_2, iv w0_3, iv w0_4, rv b938, iv (f4 (0:Int32) (own_v1075 w0_2 w0_1)), iv (f5 (own_v1069 w0_2 w0_1)), iv (f6 (0:Int32) (own_v1077 w0_2 w0_1)), iv (f7 w0_4 (own_v1071 w0_2 w0_1)), iv (own_v1094 w0_4 w0_2 w0_1), iv (own_v1098 w0_3 w0_2 w0_1), iv w0_5] [(.int w0_2), (.int w0_3), (.int (own_v1098 w0_3 w0_2 w0_1))])) _
                        by_cases hm262_13 : w0_3 = w0_2
                        · refine XS.icmpNo X1095.here hx rfl (hb hby at_262) rfl (XT.ii_ne_f hm262_13) ?_
                          show Steps p.tables e below (T1095.setTop (mkF m 265 #[iv p0, iv p1, iv p2, iv p3, iv p4, iv (3:Int32), iv w0_1, iv w0_2, iv w0_3, iv w0_4, rv b938, iv (f4 (0:Int32) (own_v1075 w0_2 w0_1)), iv (f5 (own_v1069 w0_2 w0_1)), iv (f6 (0:Int32) (own_v1077 w0_2 w0_1)), iv (f7 w0_4 (own_v1071 w0_2 w0_1)), iv (own_v1094 w0_4 w0_2 w0_1), iv (own_v1098 w0_3 w0_2 w0_1), iv w0_5] [(.int (own_v1098 w0_3 w0_2 w0_1))])) _
                          refine XS.iconst X1095.here hx rfl (hb hby at_265) ?_
                          show Steps p.tables e below (T1095.setTop (mkF m 266 #[iv p0, iv p1, iv p2, iv p3, iv p4, iv (3:Int32), iv w0_1, iv w0_2, iv w0_3, iv w0_4, rv b938, iv (f4 (0:Int32) (own_v1075 w0_2 w0_1)), iv (f5 (own_v1069 w0_2 w0_1)), iv (f6 (0:Int32) (own_v1077 w0_2 w0_1)), iv (f7 w0_4 (own_v1071 w0_2 w0_1)), iv (own_v1094 w0_4 w0_2 w0_1), iv (own_v1098 w0_3 w0_2 w0_1), iv w0_5] [(.int (1:Int32)), (.int (own_v1098 w0_3 w0_2 w0_1))])) _
                          refine XS.goto X1095.here hx rfl (pc0 := 266) (pc' := 270) rfl (hb hby at_266) (by decide) (by decide) ?_
                          rw [hw0_7.trans ((if_neg hm255_12).trans (if_pos hm262_13))] at k
                          exact k
                        · refine XS.icmpYes X1095.here hx rfl (pc0 := 262) (pc' := 269) rfl (hb hby at_262) rfl (XT.ii_ne_t hm262_13) (by decide) (by decide) ?_
                          show Steps p.tables e below (T1095.setTop (mkF m 269 #[iv p0, iv p1, iv p2, iv p3, iv p4, iv (3:Int32), iv w0_1, iv w0_2, iv w0_3, iv w0_4, rv b938, iv (f4 (0:Int32) (own_v1075 w0_2 w0_1)), iv (f5 (own_v1069 w0_2 w0_1)), iv (f6 (0:Int32) (own_v1077 w0_2 w0_1)), iv (f7 w0_4 (own_v1071 w0_2 w0_1)), iv (own_v1094 w0_4 w0_2 w0_1), iv (own_v1098 w0_3 w0_2 w0_1), iv w0_5] [(.int (own_v1098 w0_3 w0_2 w0_1))])) _
                          refine XS.iconst X1095.here hx rfl (hb hby at_269) ?_
                          rw [hw0_7.trans ((if_neg hm255_12).trans (if_neg hm262_13))] at k
                          exact k
                    by_cases hs270_14 : (own_v1098 w0_3 w0_2 w0_1) = w0_7
                    · refine own_pre (A := T1095.setTop (mkF m 276 #[iv p0, iv p1, iv p2, iv p3, iv p4, iv (3:Int32), iv w0_1, iv w0_2, iv w0_3, iv w0_4, rv b938, iv (f4 (0:Int32) (own_v1075 w0_2 w0_1)), iv (f5 (own_v1069 w0_2 w0_1)), iv (f6 (0:Int32) (own_v1077 w0_2 w0_1)), iv (f7 w0_4 (own_v1071 w0_2 w0_1)), iv (own_v1094 w0_4 w0_2 w0_1), iv (own_v1098 w0_3 w0_2 w0_1), iv w0_5] [(.int (1:Int32))])) (fun t k => ?_) ?_
                      · show Steps p.tables e below (T1095.setTop (mkF m 270 #[iv p0, iv p1, iv p2, iv p3, iv p4, iv (3:Int32), iv w0_1, iv w0_2, iv w0_3, iv w0_4, rv b938, iv (f4 (0:Int32) (own_v1075 w0_2 w0_1)), iv (f5 (own_v1069 w0_2 w0_1)), iv (f6 (0:Int32) (own_v1077 w0_2 w0_1)), iv (f7 w0_4 (own_v1071 w0_2 w0_1)), iv (own_v1094 w0_4 w0_2 w0_1), iv (own_v1098 w0_3 w0_2 w0_1), iv w0_5] [(.int w0_7), (.int (own_v1098 w0_3 w0_2 w0_1))])) _
                        refine XS.icmpYes X1095.here hx rfl (pc0 := 270) (pc' := 275) rfl (hb hby at_270) rfl (XT.ii_eq_t hs270_14) (by decide) (by decide) ?_
                        show Steps p.tables e below (T1095.setTop (mkF m 275 #[iv p0, iv p1, iv p2, iv p3, iv p4, iv (3:Int32), iv w0_1, iv w0_2, iv w0_3, iv w0_4, rv b938, iv (f4 (0:Int32) (own_v1075 w0_2 w0_1)), iv (f5 (own_v1069 w0_2 w0_1)), iv (f6 (0:Int32) (own_v1077 w0_2 w0_1)), iv (f7 w0_4 (own_v1071 w0_2 w0_1)), iv (own_v1094 w0_4 w0_2 w0_1), iv (own_v1098 w0_3 w0_2 w0_1), iv w0_5] [])) _
                        refine XS.iconst X1095.here hx rfl (hb hby at_275) ?_
                        exact k
                      exact own_end X1095 (BodyLoose.notSynchronized Bd) (fun h => by rw [Bd.returns] at h; cases h) (v := some (.int (1:Int32))) (fun fs hr => retN X1095 hx (t := .boolean) Bd.returns (by simp) (hb hby at_276) hr) (by show Q0n3 Z p0 p1 p2 p3 p4 h0 n0 _ T1095.heap _; rw [eh1095]; exact ⟨rfl, N1095⟩) (by decide) (by decide)
                    · refine own_pre (A := T1095.setTop (mkF m 274 #[iv p0, iv p1, iv p2, iv p3, iv p4, iv (3:Int32), iv w0_1, iv w0_2, iv w0_3, iv w0_4, rv b938, iv (f4 (0:Int32) (own_v1075 w0_2 w0_1)), iv (f5 (own_v1069 w0_2 w0_1)), iv (f6 (0:Int32) (own_v1077 w0_2 w0_1)), iv (f7 w0_4 (own_v1071 w0_2 w0_1)), iv (own_v1094 w0_4 w0_2 w0_1), iv (own_v1098 w0_3 w0_2 w0_1), iv w0_5] [(.int (0:Int32))])) (fun t k => ?_) ?_
                      · show Steps p.tables e below (T1095.setTop (mkF m 270 #[iv p0, iv p1, iv p2, iv p3, iv p4, iv (3:Int32), iv w0_1, iv w0_2, iv w0_3, iv w0_4, rv b938, iv (f4 (0:Int32) (own_v1075 w0_2 w0_1)), iv (f5 (own_v1069 w0_2 w0_1)), iv (f6 (0:Int32) (own_v1077 w0_2 w0_1)), iv (f7 w0_4 (own_v1071 w0_2 w0_1)), iv (own_v1094 w0_4 w0_2 w0_1), iv (own_v1098 w0_3 w0_2 w0_1), iv w0_5] [(.int w0_7), (.int (own_v1098 w0_3 w0_2 w0_1))])) _
                        refine XS.icmpNo X1095.here hx rfl (hb hby at_270) rfl (XT.ii_eq_f hs270_14) ?_
                        show Steps p.tables e below (T1095.setTop (mkF m 273 #[iv p0, iv p1, iv p2, iv p3, iv p4, iv (3:Int32), iv w0_1, iv w0_2, iv w0_3, iv w0_4, rv b938, iv (f4 (0:Int32) (own_v1075 w0_2 w0_1)), iv (f5 (own_v1069 w0_2 w0_1)), iv (f6 (0:Int32) (own_v1077 w0_2 w0_1)), iv (f7 w0_4 (own_v1071 w0_2 w0_1)), iv (own_v1094 w0_4 w0_2 w0_1), iv (own_v1098 w0_3 w0_2 w0_1), iv w0_5] [])) _
                        refine XS.iconst X1095.here hx rfl (hb hby at_273) ?_
                        exact k
                      exact own_end X1095 (BodyLoose.notSynchronized Bd) (fun h => by rw [Bd.returns] at h; cases h) (v := some (.int (0:Int32))) (fun fs hr => retN X1095 hx (t := .boolean) Bd.returns (by simp) (hb hby at_274) hr) (by show Q0n3 Z p0 p1 p2 p3 p4 h0 n0 _ T1095.heap _; rw [eh1095]; exact ⟨(by subst hw0_5 hw0_6 hw0_7; exact absurd ⟨hs137_2, hs145_3, hs152_4, hs159_5, hs166_6, hs244_11, hs270_14⟩ (own_fin1100 w0_1 (own_mem3 _ _ hw0_1) w0_2 (own_mem3 _ _ hw0_2) w0_3 (own_mem3 _ _ hw0_3) w0_4 (own_mem3 _ _ hw0_4))), N1095⟩) (by decide) (by decide)
                  · refine own_pre (A := T1095.setTop (mkF m 248 #[iv p0, iv p1, iv p2, iv p3, iv p4, iv (3:Int32), iv w0_1, iv w0_2, iv w0_3, iv w0_4, rv b938, iv (f4 (0:Int32) (own_v1075 w0_2 w0_1)), iv (f5 (own_v1069 w0_2 w0_1)), iv (f6 (0:Int32) (own_v1077 w0_2 w0_1)), iv (f7 w0_4 (own_v1071 w0_2 w0_1)), iv (own_v1094 w0_4 w0_2 w0_1), iv (own_v1098 w0_3 w0_2 w0_1), iv w0_5] [(.int (0:Int32))])) (fun t k => ?_) ?_
                    · show Steps p.tables e below (T1095.setTop (mkF m 244 #[iv p0, iv p1, iv p2, iv p3, iv p4, iv (3:Int32), iv w0_1, iv w0_2, iv w0_3, iv w0_4, rv b938, iv (f4 (0:Int32) (own_v1075 w0_2 w0_1)), iv (f5 (own_v1069 w0_2 w0_1)), iv (f6 (0:Int32) (own_v1077 w0_2 w0_1)), iv (f7 w0_4 (own_v1071 w0_2 w0_1)), iv (own_v1094 w0_4 w0_2 w0_1), iv (own_v1098 w0_3 w0_2 w0_1), iv w0_5] [(.int w0_6), (.int (own_v1094 w0_4 w0_2 w0_1))])) _
                      refine XS.icmpNo X1095.here hx rfl (hb hby at_244) rfl (XT.ii_eq_f hs244_11) ?_
                      show Steps p.tables e below (T1095.setTop (mkF m 247 #[iv p0, iv p1, iv p2, iv p3, iv p4, iv (3:Int32), iv w0_1, iv w0_2, iv w0_3, iv w0_4, rv b938, iv (f4 (0:Int32) (own_v1075 w0_2 w0_1)), iv (f5 (own_v1069 w0_2 w0_1)), iv (f6 (0:Int32) (own_v1077 w0_2 w0_1)), iv (f7 w0_4 (own_v1071 w0_2 w0_1)), iv (own_v1094 w0_4 w0_2 w0_1), iv (own_v1098 w0_3 w0_2 w0_1), iv w0_5] [])) _
                      refine XS.iconst X1095.here hx rfl (hb hby at_247) ?_
                      exact k
                    exact own_end X1095 (BodyLoose.notSynchronized Bd) (fun h => by rw [Bd.returns] at h; cases h) (v := some (.int (0:Int32))) (fun fs hr => retN X1095 hx (t := .boolean) Bd.returns (by simp) (hb hby at_248) hr) (by show Q0n3 Z p0 p1 p2 p3 p4 h0 n0 _ T1095.heap _; rw [eh1095]; exact ⟨(by subst hw0_5 hw0_6; exact absurd ⟨hs137_2, hs145_3, hs152_4, hs159_5, hs166_6, hs244_11⟩ (own_fin1101 w0_1 (own_mem3 _ _ hw0_1) w0_2 (own_mem3 _ _ hw0_2) w0_4 (own_mem3 _ _ hw0_4))), N1095⟩) (by decide) (by decide)
                refine own_pre (A := T1095.setTop (mkF m 211 #[iv p0, iv p1, iv p2, iv p3, iv p4, iv (3:Int32), iv w0_1, iv w0_2, iv w0_3, iv w0_4, rv b938, iv (f4 (0:Int32) (own_v1075 w0_2 w0_1)), iv (f5 (own_v1069 w0_2 w0_1)), iv (f6 (0:Int32) (own_v1077 w0_2 w0_1)), iv (f7 w0_4 (own_v1071 w0_2 w0_1)), iv (own_v1094 w0_4 w0_2 w0_1), iv (own_v1098 w0_3 w0_2 w0_1), iv w0_5] [(.int w0_5), (.int w0_4)])) (fun t k => ?_) ?_
                · show Steps p.tables e below (T1095.setTop (mkF m 207 #[iv p0, iv p1, iv p2, iv p3, iv p4, iv (3:Int32), iv w0_1, iv w0_2, iv w0_3, iv w0_4, rv b938, iv (f4 (0:Int32) (own_v1075 w0_2 w0_1)), iv (f5 (own_v1069 w0_2 w0_1)), iv (f6 (0:Int32) (own_v1077 w0_2 w0_1)), iv (f7 w0_4 (own_v1071 w0_2 w0_1)), iv (own_v1094 w0_4 w0_2 w0_1), iv (own_v1098 w0_3 w0_2 w0_1), iv w0_5] [])) _
                  refine XS.iload X1095.here hx rfl (hb hby at_207) rfl ?_
                  show Steps p.tables e below (T1095.setTop (mkF m 209 #[iv p0, iv p1, iv p2, iv p3, iv p4, iv (3:Int32), iv w0_1, iv w0_2, iv w0_3, iv w0_4, rv b938, iv (f4 (0:Int32) (own_v1075 w0_2 w0_1)), iv (f5 (own_v1069 w0_2 w0_1)), iv (f6 (0:Int32) (own_v1077 w0_2 w0_1)), iv (f7 w0_4 (own_v1071 w0_2 w0_1)), iv (own_v1094 w0_4 w0_2 w0_1), iv (own_v1098 w0_3 w0_2 w0_1), iv w0_5] [(.int w0_4)])) _
                  refine XS.iload X1095.here hx rfl (hb hby at_209) rfl ?_
                  exact k
                by_cases hs211_15 : w0_4 < w0_5
                · refine own_pre (A := T1095.setTop (mkF m 230 #[iv p0, iv p1, iv p2, iv p3, iv p4, iv (3:Int32), iv w0_1, iv w0_2, iv w0_3, iv w0_4, rv b938, iv (f4 (0:Int32) (own_v1075 w0_2 w0_1)), iv (f5 (own_v1069 w0_2 w0_1)), iv (f6 (0:Int32) (own_v1077 w0_2 w0_1)), iv (f7 w0_4 (own_v1071 w0_2 w0_1)), iv (own_v1094 w0_4 w0_2 w0_1), iv (own_v1098 w0_3 w0_2 w0_1), iv w0_5] [])) (fun t k => ?_) ?_
                  · show Steps p.tables e below (T1095.setTop (mkF m 211 #[iv p0, iv p1, iv p2, iv p3, iv p4, iv (3:Int32), iv w0_1, iv w0_2, iv w0_3, iv w0_4, rv b938, iv (f4 (0:Int32) (own_v1075 w0_2 w0_1)), iv (f5 (own_v1069 w0_2 w0_1)), iv (f6 (0:Int32) (own_v1077 w0_2 w0_1)), iv (f7 w0_4 (own_v1071 w0_2 w0_1)), iv (own_v1094 w0_4 w0_2 w0_1), iv (own_v1098 w0_3 w0_2 w0_1), iv w0_5] [(.int w0_5), (.int w0_4)])) _
                    refine XS.icmpYes X1095.here hx rfl (pc0 := 211) (pc' := 230) rfl (hb hby at_211) rfl (XT.ii_lt_t hs211_15) (by decide) (by decide) ?_
                    exact k
                  exact hJ230_9
                · refine own_pre (A := T1095.setTop (mkF m 218 #[iv p0, iv p1, iv p2, iv p3, iv p4, iv (3:Int32), iv w0_1, iv w0_2, iv w0_3, iv w0_4, rv b938, iv (f4 (0:Int32) (own_v1075 w0_2 w0_1)), iv (f5 (own_v1069 w0_2 w0_1)), iv (f6 (0:Int32) (own_v1077 w0_2 w0_1)), iv (f7 w0_4 (own_v1071 w0_2 w0_1)), iv (own_v1094 w0_4 w0_2 w0_1), iv (own_v1098 w0_3 w0_2 w0_1), iv w0_5] [(.int w0_1), (.int (f7 w0_4 (own_v1071 w0_2 w0_1)))])) (fun t k => ?_) ?_
                  · show Steps p.tables e below (T1095.setTop (mkF m 211 #[iv p0, iv p1, iv p2, iv p3, iv p4, iv (3:Int32), iv w0_1, iv w0_2, iv w0_3, iv w0_4, rv b938, iv (f4 (0:Int32) (own_v1075 w0_2 w0_1)), iv (f5 (own_v1069 w0_2 w0_1)), iv (f6 (0:Int32) (own_v1077 w0_2 w0_1)), iv (f7 w0_4 (own_v1071 w0_2 w0_1)), iv (own_v1094 w0_4 w0_2 w0_1), iv (own_v1098 w0_3 w0_2 w0_1), iv w0_5] [(.int w0_5), (.int w0_4)])) _
                    refine XS.icmpNo X1095.here hx rfl (hb hby at_211) rfl (XT.ii_lt_f hs211_15) ?_
                    show Steps p.tables e below (T1095.setTop (mkF m 214 #[iv p0, iv p1, iv p2, iv p3, iv p4, iv (3:Int32), iv w0_1, iv w0_2, iv w0_3, iv w0_4, rv b938, iv (f4 (0:Int32) (own_v1075 w0_2 w0_1)), iv (f5 (own_v1069 w0_2 w0_1)), iv (f6 (0:Int32) (own_v1077 w0_2 w0_1)), iv (f7 w0_4 (own_v1071 w0_2 w0_1)), iv (own_v1094 w0_4 w0_2 w0_1), iv (own_v1098 w0_3 w0_2 w0_1), iv w0_5] [])) _
                    refine XS.iload X1095.here hx rfl (hb hby at_214) rfl ?_
                    show Steps p.tables e below (T1095.setTop (mkF m 216 #[iv p0, iv p1, iv p2, iv p3, iv p4, iv (3:Int32), iv w0_1, iv w0_2, iv w0_3, iv w0_4, rv b938, iv (f4 (0:Int32) (own_v1075 w0_2 w0_1)), iv (f5 (own_v1069 w0_2 w0_1)), iv (f6 (0:Int32) (own_v1077 w0_2 w0_1)), iv (f7 w0_4 (own_v1071 w0_2 w0_1)), iv (own_v1094 w0_4 w0_2 w0_1), iv (own_v1098 w0_3 w0_2 w0_1), iv w0_5] [(.int (f7 w0_4 (own_v1071 w0_2 w0_1)))])) _
                    refine XS.iload X1095.here hx rfl (hb hby at_216) rfl ?_
                    exact k
                  by_cases hs218_16 : (f7 w0_4 (own_v1071 w0_2 w0_1)) = w0_1
                  · refine own_pre (A := T1095.setTop (mkF m 229 #[iv p0, iv p1, iv p2, iv p3, iv p4, iv (3:Int32), iv w0_1, iv w0_2, iv w0_3, iv w0_4, rv b938, iv (f4 (0:Int32) (own_v1075 w0_2 w0_1)), iv (f5 (own_v1069 w0_2 w0_1)), iv (f6 (0:Int32) (own_v1077 w0_2 w0_1)), iv (f7 w0_4 (own_v1071 w0_2 w0_1)), iv (own_v1094 w0_4 w0_2 w0_1), iv (own_v1098 w0_3 w0_2 w0_1), iv w0_5] [(.int (0:Int32))])) (fun t k => ?_) ?_
                    · show Steps p.tables e below (T1095.setTop (mkF m 218 #[iv p0, iv p1, iv p2, iv p3, iv p4, iv (3:Int32), iv w0_1, iv w0_2, iv w0_3, iv w0_4, rv b938, iv (f4 (0:Int32) (own_v1075 w0_2 w0_1)), iv (f5 (own_v1069 w0_2 w0_1)), iv (f6 (0:Int32) (own_v1077 w0_2 w0_1)), iv (f7 w0_4 (own_v1071 w0_2 w0_1)), iv (own_v1094 w0_4 w0_2 w0_1), iv (own_v1098 w0_3 w0_2 w0_1), iv w0_5] [(.int w0_1), (.int (f7 w0_4 (own_v1071 w0_2 w0_1)))])) _
                      refine XS.icmpYes X1095.here hx rfl (pc0 := 218) (pc' := 228) rfl (hb hby at_218) rfl (XT.ii_eq_t hs218_16) (by decide) (by decide) ?_
                      show Steps p.tables e below (T1095.setTop (mkF m 228 #[iv p0, iv p1, iv p2, iv p3, iv p4, iv (3:Int32), iv w0_1, iv w0_2, iv w0_3, iv w0_4, rv b938, iv (f4 (0:Int32) (own_v1075 w0_2 w0_1)), iv (f5 (own_v1069 w0_2 w0_1)), iv (f6 (0:Int32) (own_v1077 w0_2 w0_1)), iv (f7 w0_4 (own_v1071 w0_2 w0_1)), iv (own_v1094 w0_4 w0_2 w0_1), iv (own_v1098 w0_3 w0_2 w0_1), iv w0_5] [])) _
                      refine XS.iconst X1095.here hx rfl (hb hby at_228) ?_
                      exact k
                    exact own_end X1095 (BodyLoose.notSynchronized Bd) (fun h => by rw [Bd.returns] at h; cases h) (v := some (.int (0:Int32))) (fun fs hr => retN X1095 hx (t := .boolean) Bd.returns (by simp) (hb hby at_229) hr) (by show Q0n3 Z p0 p1 p2 p3 p4 h0 n0 _ T1095.heap _; rw [eh1095]; exact ⟨(by subst hw0_5; exact absurd ⟨hs137_2, hs145_3, hs152_4, hs159_5, hs166_6, hs211_15, hs218_16⟩ (own_fin1102 w0_1 (own_mem3 _ _ hw0_1) w0_2 (own_mem3 _ _ hw0_2) w0_4 (own_mem3 _ _ hw0_4))), N1095⟩) (by decide) (by decide)
                  · refine own_pre (A := T1095.setTop (mkF m 225 #[iv p0, iv p1, iv p2, iv p3, iv p4, iv (3:Int32), iv w0_1, iv w0_2, iv w0_3, iv w0_4, rv b938, iv (f4 (0:Int32) (own_v1075 w0_2 w0_1)), iv (f5 (own_v1069 w0_2 w0_1)), iv (f6 (0:Int32) (own_v1077 w0_2 w0_1)), iv (f7 w0_4 (own_v1071 w0_2 w0_1)), iv (own_v1094 w0_4 w0_2 w0_1), iv (own_v1098 w0_3 w0_2 w0_1), iv w0_5] [(.int w0_2), (.int (f7 w0_4 (own_v1071 w0_2 w0_1)))])) (fun t k => ?_) ?_
                    · show Steps p.tables e below (T1095.setTop (mkF m 218 #[iv p0, iv p1, iv p2, iv p3, iv p4, iv (3:Int32), iv w0_1, iv w0_2, iv w0_3, iv w0_4, rv b938, iv (f4 (0:Int32) (own_v1075 w0_2 w0_1)), iv (f5 (own_v1069 w0_2 w0_1)), iv (f6 (0:Int32) (own_v1077 w0_2 w0_1)), iv (f7 w0_4 (own_v1071 w0_2 w0_1)), iv (own_v1094 w0_4 w0_2 w0_1), iv (own_v1098 w0_3 w0_2 w0_1), iv w0_5] [(.int w0_1), (.int (f7 w0_4 (own_v1071 w0_2 w0_1)))])) _
                      refine XS.icmpNo X1095.here hx rfl (hb hby at_218) rfl (XT.ii_eq_f hs218_16) ?_
                      show Steps p.tables e below (T1095.setTop (mkF m 221 #[iv p0, iv p1, iv p2, iv p3, iv p4, iv (3:Int32), iv w0_1, iv w0_2, iv w0_3, iv w0_4, rv b938, iv (f4 (0:Int32) (own_v1075 w0_2 w0_1)), iv (f5 (own_v1069 w0_2 w0_1)), iv (f6 (0:Int32) (own_v1077 w0_2 w0_1)), iv (f7 w0_4 (own_v1071 w0_2 w0_1)), iv (own_v1094 w0_4 w0_2 w0_1), iv (own_v1098 w0_3 w0_2 w0_1), iv w0_5] [])) _
                      refine XS.iload X1095.here hx rfl (hb hby at_221) rfl ?_
                      show Steps p.tables e below (T1095.setTop (mkF m 223 #[iv p0, iv p1, iv p2, iv p3, iv p4, iv (3:Int32), iv w0_1, iv w0_2, iv w0_3, iv w0_4, rv b938, iv (f4 (0:Int32) (own_v1075 w0_2 w0_1)), iv (f5 (own_v1069 w0_2 w0_1)), iv (f6 (0:Int32) (own_v1077 w0_2 w0_1)), iv (f7 w0_4 (own_v1071 w0_2 w0_1)), iv (own_v1094 w0_4 w0_2 w0_1), iv (own_v1098 w0_3 w0_2 w0_1), iv w0_5] [(.int (f7 w0_4 (own_v1071 w0_2 w0_1)))])) _
                      refine XS.iload X1095.here hx rfl (hb hby at_223) rfl ?_
                      exact k
                    by_cases hs225_17 : (f7 w0_4 (own_v1071 w0_2 w0_1)) = w0_2
                    · refine own_pre (A := T1095.setTop (mkF m 229 #[iv p0, iv p1, iv p2, iv p3, iv p4, iv (3:Int32), iv w0_1, iv w0_2, iv w0_3, iv w0_4, rv b938, iv (f4 (0:Int32) (own_v1075 w0_2 w0_1)), iv (f5 (own_v1069 w0_2 w0_1)), iv (f6 (0:Int32) (own_v1077 w0_2 w0_1)), iv (f7 w0_4 (own_v1071 w0_2 w0_1)), iv (own_v1094 w0_4 w0_2 w0_1), iv (own_v1098 w0_3 w0_2 w0_1), iv w0_5] [(.int (0:Int32))])) (fun t k => ?_) ?_
                      · show Steps p.tables e below (T1095.setTop (mkF m 225 #[iv p0, iv p1, iv p2, iv p3, iv p4, iv (3:Int32), iv w0_1, iv w0_2, iv w0_3, iv w0_4, rv b938, iv (f4 (0:Int32) (own_v1075 w0_2 w0_1)), iv (f5 (own_v1069 w0_2 w0_1)), iv (f6 (0:Int32) (own_v1077 w0_2 w0_1)), iv (f7 w0_4 (own_v1071 w0_2 w0_1)), iv (own_v1094 w0_4 w0_2 w0_1), iv (own_v1098 w0_3 w0_2 w0_1), iv w0_5] [(.int w0_2), (.int (f7 w0_4 (own_v1071 w0_2 w0_1)))])) _
                        refine XS.icmpNo X1095.here hx rfl (hb hby at_225) rfl (XT.ii_ne_f hs225_17) ?_
                        show Steps p.tables e below (T1095.setTop (mkF m 228 #[iv p0, iv p1, iv p2, iv p3, iv p4, iv (3:Int32), iv w0_1, iv w0_2, iv w0_3, iv w0_4, rv b938, iv (f4 (0:Int32) (own_v1075 w0_2 w0_1)), iv (f5 (own_v1069 w0_2 w0_1)), iv (f6 (0:Int32) (own_v1077 w0_2 w0_1)), iv (f7 w0_4 (own_v1071 w0_2 w0_1)), iv (own_v1094 w0_4 w0_2 w0_1), iv (own_v1098 w0_3 w0_2 w0_1), iv w0_5] [])) _
                        refine XS.iconst X1095.here hx rfl (hb hby at_228) ?_
                        exact k
                      exact own_end X1095 (BodyLoose.notSynchronized Bd) (fun h => by rw [Bd.returns] at h; cases h) (v := some (.int (0:Int32))) (fun fs hr => retN X1095 hx (t := .boolean) Bd.returns (by simp) (hb hby at_229) hr) (by show Q0n3 Z p0 p1 p2 p3 p4 h0 n0 _ T1095.heap _; rw [eh1095]; exact ⟨(by subst hw0_5; exact absurd ⟨hs137_2, hs145_3, hs152_4, hs159_5, hs166_6, hs211_15, hs218_16, hs225_17⟩ (own_fin1103 w0_1 (own_mem3 _ _ hw0_1) w0_2 (own_mem3 _ _ hw0_2) w0_4 (own_mem3 _ _ hw0_4))), N1095⟩) (by decide) (by decide)
                    · refine own_pre (A := T1095.setTop (mkF m 230 #[iv p0, iv p1, iv p2, iv p3, iv p4, iv (3:Int32), iv w0_1, iv w0_2, iv w0_3, iv w0_4, rv b938, iv (f4 (0:Int32) (own_v1075 w0_2 w0_1)), iv (f5 (own_v1069 w0_2 w0_1)), iv (f6 (0:Int32) (own_v1077 w0_2 w0_1)), iv (f7 w0_4 (own_v1071 w0_2 w0_1)), iv (own_v1094 w0_4 w0_2 w0_1), iv (own_v1098 w0_3 w0_2 w0_1), iv w0_5] [])) (fun t k => ?_) ?_
                      · show Steps p.tables e below (T1095.setTop (mkF m 225 #[iv p0, iv p1, iv p2, iv p3, iv p4, iv (3:Int32), iv w0_1, iv w0_2, iv w0_3, iv w0_4, rv b938, iv (f4 (0:Int32) (own_v1075 w0_2 w0_1)), iv (f5 (own_v1069 w0_2 w0_1)), iv (f6 (0:Int32) (own_v1077 w0_2 w0_1)), iv (f7 w0_4 (own_v1071 w0_2 w0_1)), iv (own_v1094 w0_4 w0_2 w0_1), iv (own_v1098 w0_3 w0_2 w0_1), iv w0_5] [(.int w0_2), (.int (f7 w0_4 (own_v1071 w0_2 w0_1)))])) _
                        refine XS.icmpYes X1095.here hx rfl (pc0 := 225) (pc' := 230) rfl (hb hby at_225) rfl (XT.ii_ne_t hs225_17) (by decide) (by decide) ?_
                        exact k
                      exact hJ230_9
              refine own_pre (A := T1095.setTop (mkF m 188 #[iv p0, iv p1, iv p2, iv p3, iv p4, iv (3:Int32), iv w0_1, iv w0_2, iv w0_3, iv w0_4, rv b938, iv (f4 (0:Int32) (own_v1075 w0_2 w0_1)), iv (f5 (own_v1069 w0_2 w0_1)), iv (f6 (0:Int32) (own_v1077 w0_2 w0_1)), iv (f7 w0_4 (own_v1071 w0_2 w0_1)), iv (own_v1094 w0_4 w0_2 w0_1), iv (own_v1098 w0_3 w0_2 w0_1), iv w0_5] [(.int (1:Int32)), (.int w0_4)])) (fun t k => ?_) ?_
              · show Steps p.tables e below (T1095.setTop (mkF m 185 #[iv p0, iv p1, iv p2, iv p3, iv p4, iv (3:Int32), iv w0_1, iv w0_2, iv w0_3, iv w0_4, rv b938, iv (f4 (0:Int32) (own_v1075 w0_2 w0_1)), iv (f5 (own_v1069 w0_2 w0_1)), iv (f6 (0:Int32) (own_v1077 w0_2 w0_1)), iv (f7 w0_4 (own_v1071 w0_2 w0_1)), iv (own_v1094 w0_4 w0_2 w0_1), iv (own_v1098 w0_3 w0_2 w0_1), iv w0_5] [])) _
                refine XS.iload X1095.here hx rfl (hb hby at_185) rfl ?_
                show Steps p.tables e below (T1095.setTop (mkF m 187 #[iv p0, iv p1, iv p2, iv p3, iv p4, iv (3:Int32), iv w0_1, iv w0_2, iv w0_3, iv w0_4, rv b938, iv (f4 (0:Int32) (own_v1075 w0_2 w0_1)), iv (f5 (own_v1069 w0_2 w0_1)), iv (f6 (0:Int32) (own_v1077 w0_2 w0_1)), iv (f7 w0_4 (own_v1071 w0_2 w0_1)), iv (own_v1094 w0_4 w0_2 w0_1), iv (own_v1098 w0_3 w0_2 w0_1), iv w0_5] [(.int w0_4)])) _
                refine XS.iconst X1095.here hx rfl (hb hby at_187) ?_
                exact k
              by_cases hs188_18 : w0_4 = (1:Int32)
              · refine own_pre (A := T1095.setTop (mkF m 195 #[iv p0, iv p1, iv p2, iv p3, iv p4, iv (3:Int32), iv w0_1, iv w0_2, iv w0_3, iv w0_4, rv b938, iv (f4 (0:Int32) (own_v1075 w0_2 w0_1)), iv (f5 (own_v1069 w0_2 w0_1)), iv (f6 (0:Int32) (own_v1077 w0_2 w0_1)), iv (f7 w0_4 (own_v1071 w0_2 w0_1)), iv (own_v1094 w0_4 w0_2 w0_1), iv (own_v1098 w0_3 w0_2 w0_1), iv w0_5] [(.int w0_2), (.int w0_1)])) (fun t k => ?_) ?_
                · show Steps p.tables e below (T1095.setTop (mkF m 188 #[iv p0, iv p1, iv p2, iv p3, iv p4, iv (3:Int32), iv w0_1, iv w0_2, iv w0_3, iv w0_4, rv b938, iv (f4 (0:Int32) (own_v1075 w0_2 w0_1)), iv (f5 (own_v1069 w0_2 w0_1)), iv (f6 (0:Int32) (own_v1077 w0_2 w0_1)), iv (f7 w0_4 (own_v1071 w0_2 w0_1)), iv (own_v1094 w0_4 w0_2 w0_1), iv (own_v1098 w0_3 w0_2 w0_1), iv w0_5] [(.int (1:Int32)), (.int w0_4)])) _
                  refine XS.icmpNo X1095.here hx rfl (hb hby at_188) rfl (XT.ii_ne_f hs188_18) ?_
                  show Steps p.tables e below (T1095.setTop (mkF m 191 #[iv p0, iv p1, iv p2, iv p3, iv p4, iv (3:Int32), iv w0_1, iv w0_2, iv w0_3, iv w0_4, rv b938, iv (f4 (0:Int32) (own_v1075 w0_2 w0_1)), iv (f5 (own_v1069 w0_2 w0_1)), iv (f6 (0:Int32) (own_v1077 w0_2 w0_1)), iv (f7 w0_4 (own_v1071 w0_2 w0_1)), iv (own_v1094 w0_4 w0_2 w0_1), iv (own_v1098 w0_3 w0_2 w0_1), iv w0_5] [])) _
                  refine XS.iload X1095.here hx rfl (hb hby at_191) rfl ?_
                  show Steps p.tables e below (T1095.setTop (mkF m 193 #[iv p0, iv p1, iv p2, iv p3, iv p4, iv (3:Int32), iv w0_1, iv w0_2, iv w0_3, iv w0_4, rv b938, iv (f4 (0:Int32) (own_v1075 w0_2 w0_1)), iv (f5 (own_v1069 w0_2 w0_1)), iv (f6 (0:Int32) (own_v1077 w0_2 w0_1)), iv (f7 w0_4 (own_v1071 w0_2 w0_1)), iv (own_v1094 w0_4 w0_2 w0_1), iv (own_v1098 w0_3 w0_2 w0_1), iv w0_5] [(.int w0_1)])) _
                  refine XS.iload X1095.here hx rfl (hb hby at_193) rfl ?_
                  exact k
                by_cases hs195_19 : w0_1 = w0_2
                · refine own_pre (A := T1095.setTop (mkF m 207 #[iv p0, iv p1, iv p2, iv p3, iv p4, iv (3:Int32), iv w0_1, iv w0_2, iv w0_3, iv w0_4, rv b938, iv (f4 (0:Int32) (own_v1075 w0_2 w0_1)), iv (f5 (own_v1069 w0_2 w0_1)), iv (f6 (0:Int32) (own_v1077 w0_2 w0_1)), iv (f7 w0_4 (own_v1071 w0_2 w0_1)), iv (own_v1094 w0_4 w0_2 w0_1), iv (own_v1098 w0_3 w0_2 w0_1), iv w0_5] [])) (fun t k => ?_) ?_
                  · show Steps p.tables e below (T1095.setTop (mkF m 195 #[iv p0, iv p1, iv p2, iv p3, iv p4, iv (3:Int32), iv w0_1, iv w0_2, iv w0_3, iv w0_4, rv b938, iv (f4 (0:Int32) (own_v1075 w0_2 w0_1)), iv (f5 (own_v1069 w0_2 w0_1)), iv (f6 (0:Int32) (own_v1077 w0_2 w0_1)), iv (f7 w0_4 (own_v1071 w0_2 w0_1)), iv (own_v1094 w0_4 w0_2 w0_1), iv (own_v1098 w0_3 w0_2 w0_1), iv w0_5] [(.int w0_2), (.int w0_1)])) _
                    refine XS.icmpYes X1095.here hx rfl (pc0 := 195) (pc' := 207) rfl (hb hby at_195) rfl (XT.ii_eq_t hs195_19) (by decide) (by decide) ?_
                    exact k
                  exact hJ207_8
                · refine own_pre (A := T1095.setTop (mkF m 202 #[iv p0, iv p1, iv p2, iv p3, iv p4, iv (3:Int32), iv w0_1, iv w0_2, iv w0_3, iv w0_4, rv b938, iv (f4 (0:Int32) (own_v1075 w0_2 w0_1)), iv (f5 (own_v1069 w0_2 w0_1)), iv (f6 (0:Int32) (own_v1077 w0_2 w0_1)), iv (f7 w0_4 (own_v1071 w0_2 w0_1)), iv (own_v1094 w0_4 w0_2 w0_1), iv (own_v1098 w0_3 w0_2 w0_1), iv w0_5] [(.int w0_2), (.int (f7 w0_4 (own_v1071 w0_2 w0_1)))])) (fun t k => ?_) ?_
                  · show Steps p.tables e below (T1095.setTop (mkF m 195 #[iv p0, iv p1, iv p2, iv p3, iv p4, iv (3:Int32), iv w0_1, iv w0_2, iv w0_3, iv w0_4, rv b938, iv (f4 (0:Int32) (own_v1075 w0_2 w0_1)), iv (f5 (own_v1069 w0_2 w0_1)), iv (f6 (0:Int32) (own_v1077 w0_2 w0_1)), iv (f7 w0_4 (own_v1071 w0_2 w0_1)), iv (own_v1094 w0_4 w0_2 w0_1), iv (own_v1098 w0_3 w0_2 w0_1), iv w0_5] [(.int w0_2), (.int w0_1)])) _
                    refine XS.icmpNo X1095.here hx rfl (hb hby at_195) rfl (XT.ii_eq_f hs195_19) ?_
                    show Steps p.tables e below (T1095.setTop (mkF m 198 #[iv p0, iv p1, iv p2, iv p3, iv p4, iv (3:Int32), iv w0_1, iv w0_2, iv w0_3, iv w0_4, rv b938, iv (f4 (0:Int32) (own_v1075 w0_2 w0_1)), iv (f5 (own_v1069 w0_2 w0_1)), iv (f6 (0:Int32) (own_v1077 w0_2 w0_1)), iv (f7 w0_4 (own_v1071 w0_2 w0_1)), iv (own_v1094 w0_4 w0_2 w0_1), iv (own_v1098 w0_3 w0_2 w0_1), iv w0_5] [])) _
                    refine XS.iload X1095.here hx rfl (hb hby at_198) rfl ?_
                    show Steps p.tables e below (T1095.setTop (mkF m 200 #[iv p0, iv p1, iv p2, iv p3, iv p4, iv (3:Int32), iv w0_1, iv w0_2, iv w0_3, iv w0_4, rv b938, iv (f4 (0:Int32) (own_v1075 w0_2 w0_1)), iv (f5 (own_v1069 w0_2 w0_1)), iv (f6 (0:Int32) (own_v1077 w0_2 w0_1)), iv (f7 w0_4 (own_v1071 w0_2 w0_1)), iv (own_v1094 w0_4 w0_2 w0_1), iv (own_v1098 w0_3 w0_2 w0_1), iv w0_5] [(.int (f7 w0_4 (own_v1071 w0_2 w0_1)))])) _
                    refine XS.iload X1095.here hx rfl (hb hby at_200) rfl ?_
                    exact k
                  by_cases hs202_20 : (f7 w0_4 (own_v1071 w0_2 w0_1)) = w0_2
                  · refine own_pre (A := T1095.setTop (mkF m 207 #[iv p0, iv p1, iv p2, iv p3, iv p4, iv (3:Int32), iv w0_1, iv w0_2, iv w0_3, iv w0_4, rv b938, iv (f4 (0:Int32) (own_v1075 w0_2 w0_1)), iv (f5 (own_v1069 w0_2 w0_1)), iv (f6 (0:Int32) (own_v1077 w0_2 w0_1)), iv (f7 w0_4 (own_v1071 w0_2 w0_1)), iv (own_v1094 w0_4 w0_2 w0_1), iv (own_v1098 w0_3 w0_2 w0_1), iv w0_5] [])) (fun t k => ?_) ?_
                    · show Steps p.tables e below (T1095.setTop (mkF m 202 #[iv p0, iv p1, iv p2, iv p3, iv p4, iv (3:Int32), iv w0_1, iv w0_2, iv w0_3, iv w0_4, rv b938, iv (f4 (0:Int32) (own_v1075 w0_2 w0_1)), iv (f5 (own_v1069 w0_2 w0_1)), iv (f6 (0:Int32) (own_v1077 w0_2 w0_1)), iv (f7 w0_4 (own_v1071 w0_2 w0_1)), iv (own_v1094 w0_4 w0_2 w0_1), iv (own_v1098 w0_3 w0_2 w0_1), iv w0_5] [(.int w0_2), (.int (f7 w0_4 (own_v1071 w0_2 w0_1)))])) _
                      refine XS.icmpYes X1095.here hx rfl (pc0 := 202) (pc' := 207) rfl (hb hby at_202) rfl (XT.ii_eq_t hs202_20) (by decide) (by decide) ?_
                      exact k
                    exact hJ207_8
                  · refine own_pre (A := T1095.setTop (mkF m 206 #[iv p0, iv p1, iv p2, iv p3, iv p4, iv (3:Int32), iv w0_1, iv w0_2, iv w0_3, iv w0_4, rv b938, iv (f4 (0:Int32) (own_v1075 w0_2 w0_1)), iv (f5 (own_v1069 w0_2 w0_1)), iv (f6 (0:Int32) (own_v1077 w0_2 w0_1)), iv (f7 w0_4 (own_v1071 w0_2 w0_1)), iv (own_v1094 w0_4 w0_2 w0_1), iv (own_v1098 w0_3 w0_2 w0_1), iv w0_5] [(.int (0:Int32))])) (fun t k => ?_) ?_
                    · show Steps p.tables e below (T1095.setTop (mkF m 202 #[iv p0, iv p1, iv p2, iv p3, iv p4, iv (3:Int32), iv w0_1, iv w0_2, iv w0_3, iv w0_4, rv b938, iv (f4 (0:Int32) (own_v1075 w0_2 w0_1)), iv (f5 (own_v1069 w0_2 w0_1)), iv (f6 (0:Int32) (own_v1077 w0_2 w0_1)), iv (f7 w0_4 (own_v1071 w0_2 w0_1)), iv (own_v1094 w0_4 w0_2 w0_1), iv (own_v1098 w0_3 w0_2 w0_1), iv w0_5] [(.int w0_2), (.int (f7 w0_4 (own_v1071 w0_2 w0_1)))])) _
                      refine XS.icmpNo X1095.here hx rfl (hb hby at_202) rfl (XT.ii_eq_f hs202_20) ?_
                      show Steps p.tables e below (T1095.setTop (mkF m 205 #[iv p0, iv p1, iv p2, iv p3, iv p4, iv (3:Int32), iv w0_1, iv w0_2, iv w0_3, iv w0_4, rv b938, iv (f4 (0:Int32) (own_v1075 w0_2 w0_1)), iv (f5 (own_v1069 w0_2 w0_1)), iv (f6 (0:Int32) (own_v1077 w0_2 w0_1)), iv (f7 w0_4 (own_v1071 w0_2 w0_1)), iv (own_v1094 w0_4 w0_2 w0_1), iv (own_v1098 w0_3 w0_2 w0_1), iv w0_5] [])) _
                      refine XS.iconst X1095.here hx rfl (hb hby at_205) ?_
                      exact k
                    exact own_end X1095 (BodyLoose.notSynchronized Bd) (fun h => by rw [Bd.returns] at h; cases h) (v := some (.int (0:Int32))) (fun fs hr => retN X1095 hx (t := .boolean) Bd.returns (by simp) (hb hby at_206) hr) (by show Q0n3 Z p0 p1 p2 p3 p4 h0 n0 _ T1095.heap _; rw [eh1095]; exact ⟨(by subst hw0_5; exact absurd ⟨hs137_2, hs145_3, hs152_4, hs159_5, hs166_6, hs188_18, hs195_19, hs202_20⟩ (own_fin1104 w0_1 (own_mem3 _ _ hw0_1) w0_2 (own_mem3 _ _ hw0_2) w0_4 (own_mem3 _ _ hw0_4))), N1095⟩) (by decide) (by decide)
              · refine own_pre (A := T1095.setTop (mkF m 207 #[iv p0, iv p1, iv p2, iv p3, iv p4, iv (3:Int32), iv w0_1, iv w0_2, iv w0_3, iv w0_4, rv b938, iv (f4 (0:Int32) (own_v1075 w0_2 w0_1)), iv (f5 (own_v1069 w0_2 w0_1)), iv (f6 (0:Int32) (own_v1077 w0_2 w0_1)), iv (f7 w0_4 (own_v1071 w0_2 w0_1)), iv (own_v1094 w0_4 w0_2 w0_1), iv (own_v1098 w0_3 w0_2 w0_1), iv w0_5] [])) (fun t k => ?_) ?_
                · show Steps p.tables e below (T1095.setTop (mkF m 188 #[iv p0, iv p1, iv p2, iv p3, iv p4, iv (3:Int32), iv w0_1, iv w0_2, iv w0_3, iv w0_4, rv b938, iv (f4 (0:Int32) (own_v1075 w0_2 w0_1)), iv (f5 (own_v1069 w0_2 w0_1)), iv (f6 (0:Int32) (own_v1077 w0_2 w0_1)), iv (f7 w0_4 (own_v1071 w0_2 w0_1)), iv (own_v1094 w0_4 w0_2 w0_1), iv (own_v1098 w0_3 w0_2 w0_1), iv w0_5] [(.int (1:Int32)), (.int w0_4)])) _
                  refine XS.icmpYes X1095.here hx rfl (pc0 := 188) (pc' := 207) rfl (hb hby at_188) rfl (XT.ii_ne_t hs188_18) (by decide) (by decide) ?_
                  exact k
                exact hJ207_8
            refine own_pre (A := T1095.setTop (mkF m 173 #[iv p0, iv p1, iv p2, iv p3, iv p4, iv (3:Int32), iv w0_1, iv w0_2, iv w0_3, iv w0_4, rv b938, iv (f4 (0:Int32) (own_v1075 w0_2 w0_1)), iv (f5 (own_v1069 w0_2 w0_1)), iv (f6 (0:Int32) (own_v1077 w0_2 w0_1)), iv (f7 w0_4 (own_v1071 w0_2 w0_1)), iv (own_v1094 w0_4 w0_2 w0_1), iv (own_v1098 w0_3 w0_2 w0_1), iv w0_5] [(.int w0_4)])) (fun t k => ?_) ?_
            · show Steps p.tables e below (T1095.setTop (mkF m 171 #[iv p0, iv p1, iv p2, iv p3, iv p4, iv (3:Int32), iv w0_1, iv w0_2, iv w0_3, iv w0_4, rv b938, iv (f4 (0:Int32) (own_v1075 w0_2 w0_1)), iv (f5 (own_v1069 w0_2 w0_1)), iv (f6 (0:Int32) (own_v1077 w0_2 w0_1)), iv (f7 w0_4 (own_v1071 w0_2 w0_1)), iv (own_v1094 w0_4 w0_2 w0_1), iv (own_v1098 w0_3 w0_2 w0_1), iv w0_5] [])) _
              refine XS.iload X1095.here hx rfl (hb hby at_171) rfl ?_
              exact k
            by_cases hs173_21 : w0_4 = (0:Int32)
            · refine own_pre (A := T1095.setTop (mkF m 180 #[iv p0, iv p1, iv p2, iv p3, iv p4, iv (3:Int32), iv w0_1, iv w0_2, iv w0_3, iv w0_4, rv b938, iv (f4 (0:Int32) (own_v1075 w0_2 w0_1)), iv (f5 (own_v1069 w0_2 w0_1)), iv (f6 (0:Int32) (own_v1077 w0_2 w0_1)), iv (f7 w0_4 (own_v1071 w0_2 w0_1)), iv (own_v1094 w0_4 w0_2 w0_1), iv (own_v1098 w0_3 w0_2 w0_1), iv w0_5] [(.int w0_1), (.int (f7 w0_4 (own_v1071 w0_2 w0_1)))])) (fun t k => ?_) ?_
              · show Steps p.tables e below (T1095.setTop (mkF m 173 #[iv p0, iv p1, iv p2, iv p3, iv p4, iv (3:Int32), iv w0_1, iv w0_2, iv w0_3, iv w0_4, rv b938, iv (f4 (0:Int32) (own_v1075 w0_2 w0_1)), iv (f5 (own_v1069 w0_2 w0_1)), iv (f6 (0:Int32) (own_v1077 w0_2 w0_1)), iv (f7 w0_4 (own_v1071 w0_2 w0_1)), iv (own_v1094 w0_4 w0_2 w0_1), iv (own_v1098 w0_3 w0_2 w0_1), iv w0_5] [(.int w0_4)])) _
                refine XS.ifNo X1095.here hx rfl (hb hby at_173) rfl (XT.i0_ne_f hs173_21) ?_
                show Steps p.tables e below (T1095.setTop (mkF m 176 #[iv p0, iv p1, iv p2, iv p3, iv p4, iv (3:Int32), iv w0_1, iv w0_2, iv w0_3, iv w0_4, rv b938, iv (f4 (0:Int32) (own_v1075 w0_2 w0_1)), iv (f5 (own_v1069 w0_2 w0_1)), iv (f6 (0:Int32) (own_v1077 w0_2 w0_1)), iv (f7 w0_4 (own_v1071 w0_2 w0_1)), iv (own_v1094 w0_4 w0_2 w0_1), iv (own_v1098 w0_3 w0_2 w0_1), iv w0_5] [])) _
                refine XS.iload X1095.here hx rfl (hb hby at_176) rfl ?_
                show Steps p.tables e below (T1095.setTop (mkF m 178 #[iv p0, iv p1, iv p2, iv p3, iv p4, iv (3:Int32), iv w0_1, iv w0_2, iv w0_3, iv w0_4, rv b938, iv (f4 (0:Int32) (own_v1075 w0_2 w0_1)), iv (f5 (own_v1069 w0_2 w0_1)), iv (f6 (0:Int32) (own_v1077 w0_2 w0_1)), iv (f7 w0_4 (own_v1071 w0_2 w0_1)), iv (own_v1094 w0_4 w0_2 w0_1), iv (own_v1098 w0_3 w0_2 w0_1), iv w0_5] [(.int (f7 w0_4 (own_v1071 w0_2 w0_1)))])) _
                refine XS.iload X1095.here hx rfl (hb hby at_178) rfl ?_
                exact k
              by_cases hs180_22 : (f7 w0_4 (own_v1071 w0_2 w0_1)) = w0_1
              · refine own_pre (A := T1095.setTop (mkF m 185 #[iv p0, iv p1, iv p2, iv p3, iv p4, iv (3:Int32), iv w0_1, iv w0_2, iv w0_3, iv w0_4, rv b938, iv (f4 (0:Int32) (own_v1075 w0_2 w0_1)), iv (f5 (own_v1069 w0_2 w0_1)), iv (f6 (0:Int32) (own_v1077 w0_2 w0_1)), iv (f7 w0_4 (own_v1071 w0_2 w0_1)), iv (own_v1094 w0_4 w0_2 w0_1), iv (own_v1098 w0_3 w0_2 w0_1), iv w0_5] [])) (fun t k => ?_) ?_
                · show Steps p.tables e below (T1095.setTop (mkF m 180 #[iv p0, iv p1, iv p2, iv p3, iv p4, iv (3:Int32), iv w0_1, iv w0_2, iv w0_3, iv w0_4, rv b938, iv (f4 (0:Int32) (own_v1075 w0_2 w0_1)), iv (f5 (own_v1069 w0_2 w0_1)), iv (f6 (0:Int32) (own_v1077 w0_2 w0_1)), iv (f7 w0_4 (own_v1071 w0_2 w0_1)), iv (own_v1094 w0_4 w0_2 w0_1), iv (own_v1098 w0_3 w0_2 w0_1), iv w0_5] [(.int w0_1), (.int (f7 w0_4 (own_v1071 w0_2 w0_1)))])) _
                  refine XS.icmpYes X1095.here hx rfl (pc0 := 180) (pc' := 185) rfl (hb hby at_180) rfl (XT.ii_eq_t hs180_22) (by decide) (by decide) ?_
                  exact k
                exact hJ185_7
              · refine own_pre (A := T1095.setTop (mkF m 184 #[iv p0, iv p1, iv p2, iv p3, iv p4, iv (3:Int32), iv w0_1, iv w0_2, iv w0_3, iv w0_4, rv b938, iv (f4 (0:Int32) (own_v1075 w0_2 w0_1)), iv (f5 (own_v1069 w0_2 w0_1)), iv (f6 (0:Int32) (own_v1077 w0_2 w0_1)), iv (f7 w0_4 (own_v1071 w0_2 w0_1)), iv (own_v1094 w0_4 w0_2 w0_1), iv (own_v1098 w0_3 w0_2 w0_1), iv w0_5] [(.int (0:Int32))])) (fun t k => ?_) ?_
                · show Steps p.tables e below (T1095.setTop (mkF m 180 #[iv p0, iv p1, iv p2, iv p3, iv p4, iv (3:Int32), iv w0_1, iv w0_2, iv w0_3, iv w0_4, rv b938, iv (f4 (0:Int32) (own_v1075 w0_2 w0_1)), iv (f5 (own_v1069 w0_2 w0_1)), iv (f6 (0:Int32) (own_v1077 w0_2 w0_1)), iv (f7 w0_4 (own_v1071 w0_2 w0_1)), iv (own_v1094 w0_4 w0_2 w0_1), iv (own_v1098 w0_3 w0_2 w0_1), iv w0_5] [(.int w0_1), (.int (f7 w0_4 (own_v1071 w0_2 w0_1)))])) _
                  refine XS.icmpNo X1095.here hx rfl (hb hby at_180) rfl (XT.ii_eq_f hs180_22) ?_
                  show Steps p.tables e below (T1095.setTop (mkF m 183 #[iv p0, iv p1, iv p2, iv p3, iv p4, iv (3:Int32), iv w0_1, iv w0_2, iv w0_3, iv w0_4, rv b938, iv (f4 (0:Int32) (own_v1075 w0_2 w0_1)), iv (f5 (own_v1069 w0_2 w0_1)), iv (f6 (0:Int32) (own_v1077 w0_2 w0_1)), iv (f7 w0_4 (own_v1071 w0_2 w0_1)), iv (own_v1094 w0_4 w0_2 w0_1), iv (own_v1098 w0_3 w0_2 w0_1), iv w0_5] [])) _
                  refine XS.iconst X1095.here hx rfl (hb hby at_183) ?_
                  exact k
                exact own_end X1095 (BodyLoose.notSynchronized Bd) (fun h => by rw [Bd.returns] at h; cases h) (v := some (.int (0:Int32))) (fun fs hr => retN X1095 hx (t := .boolean) Bd.returns (by simp) (hb hby at_184) hr) (by show Q0n3 Z p0 p1 p2 p3 p4 h0 n0 _ T1095.heap _; rw [eh1095]; exact ⟨(by subst hw0_5; exact absurd ⟨hs137_2, hs145_3, hs152_4, hs159_5, hs166_6, hs173_21, hs180_22⟩ (own_fin1105 w0_1 (own_mem3 _ _ hw0_1) w0_2 (own_mem3 _ _ hw0_2) w0_4 (own_mem3 _ _ hw0_4))), N1095⟩) (by decide) (by decide)
            · refine own_pre (A := T1095.setTop (mkF m 185 #[iv p0, iv p1, iv p2, iv p3, iv p4, iv (3:Int32), iv w0_1, iv w0_2, iv w0_3, iv w0_4, rv b938, iv (f4 (0:Int32) (own_v1075 w0_2 w0_1)), iv (f5 (own_v1069 w0_2 w0_1)), iv (f6 (0:Int32) (own_v1077 w0_2 w0_1)), iv (f7 w0_4 (own_v1071 w0_2 w0_1)), iv (own_v1094 w0_4 w0_2 w0_1), iv (own_v1098 w0_3 w0_2 w0_1), iv w0_5] [])) (fun t k => ?_) ?_
              · show Steps p.tables e below (T1095.setTop (mkF m 173 #[iv p0, iv p1, iv p2, iv p3, iv p4, iv (3:Int32), iv w0_1, iv w0_2, iv w0_3, iv w0_4, rv b938, iv (f4 (0:Int32) (own_v1075 w0_2 w0_1)), iv (f5 (own_v1069 w0_2 w0_1)), iv (f6 (0:Int32) (own_v1077 w0_2 w0_1)), iv (f7 w0_4 (own_v1071 w0_2 w0_1)), iv (own_v1094 w0_4 w0_2 w0_1), iv (own_v1098 w0_3 w0_2 w0_1), iv w0_5] [(.int w0_4)])) _
                refine XS.ifYes X1095.here hx rfl (pc0 := 173) (pc' := 185) rfl (hb hby at_173) rfl (XT.i0_ne_t hs173_21) (by decide) (by decide) ?_
                exact k
              exact hJ185_7
          · refine own_pre (A := T1095.setTop (mkF m 170 #[iv p0, iv p1, iv p2, iv p3, iv p4, iv (3:Int32), iv w0_1, iv w0_2, iv w0_3, iv w0_4, rv b938, iv (f4 (0:Int32) (own_v1075 w0_2 w0_1)), iv (f5 (own_v1069 w0_2 w0_1)), iv (f6 (0:Int32) (own_v1077 w0_2 w0_1)), iv (f7 w0_4 (own_v1071 w0_2 w0_1)), iv (own_v1094 w0_4 w0_2 w0_1), iv (own_v1098 w0_3 w0_2 w0_1), iv w0_5] [(.int (0:Int32))])) (fun t k => ?_) ?_
            · show Steps p.tables e below (T1095.setTop (mkF m 166 #[iv p0, iv p1, iv p2, iv p3, iv p4, iv (3:Int32), iv w0_1, iv w0_2, iv w0_3, iv w0_4, rv b938, iv (f4 (0:Int32) (own_v1075 w0_2 w0_1)), iv (f5 (own_v1069 w0_2 w0_1)), iv (f6 (0:Int32) (own_v1077 w0_2 w0_1)), iv (f7 w0_4 (own_v1071 w0_2 w0_1)), iv (own_v1094 w0_4 w0_2 w0_1), iv (own_v1098 w0_3 w0_2 w0_1), iv w0_5] [(.int (3:Int32)), (.int (f7 w0_4 (own_v1071 w0_2 w0_1)))])) _
              refine XS.icmpNo X1095.here hx rfl (hb hby at_166) rfl (XT.ii_lt_f hs166_6) ?_
              show Steps p.tables e below (T1095.setTop (mkF m 169 #[iv p0, iv p1, iv p2, iv p3, iv p4, iv (3:Int32), iv w0_1, iv w0_2, iv w0_3, iv w0_4, rv b938, iv (f4 (0:Int32) (own_v1075 w0_2 w0_1)), iv (f5 (own_v1069 w0_2 w0_1)), iv (f6 (0:Int32) (own_v1077 w0_2 w0_1)), iv (f7 w0_4 (own_v1071 w0_2 w0_1)), iv (own_v1094 w0_4 w0_2 w0_1), iv (own_v1098 w0_3 w0_2 w0_1), iv w0_5] [])) _
              refine XS.iconst X1095.here hx rfl (hb hby at_169) ?_
              exact k
            exact own_end X1095 (BodyLoose.notSynchronized Bd) (fun h => by rw [Bd.returns] at h; cases h) (v := some (.int (0:Int32))) (fun fs hr => retN X1095 hx (t := .boolean) Bd.returns (by simp) (hb hby at_170) hr) (by show Q0n3 Z p0 p1 p2 p3 p4 h0 n0 _ T1095.heap _; rw [eh1095]; exact ⟨(by subst hw0_5; exact absurd ⟨hs137_2, hs145_3, hs152_4, hs159_5, hs166_6⟩ (own_fin1106 w0_1 (own_mem3 _ _ hw0_1) w0_2 (own_mem3 _ _ hw0_2) w0_4 (own_mem3 _ _ hw0_4))), N1095⟩) (by decide) (by decide)
      · refine own_pre (A := T1095.setTop (mkF m 156 #[iv p0, iv p1, iv p2, iv p3, iv p4, iv (3:Int32), iv w0_1, iv w0_2, iv w0_3, iv w0_4, rv b938, iv (f4 (0:Int32) (own_v1075 w0_2 w0_1)), iv (f5 (own_v1069 w0_2 w0_1)), iv (f6 (0:Int32) (own_v1077 w0_2 w0_1)), iv (f7 w0_4 (own_v1071 w0_2 w0_1)), iv (own_v1094 w0_4 w0_2 w0_1), iv (own_v1098 w0_3 w0_2 w0_1), iv w0_5] [(.int (0:Int32))])) (fun t k => ?_) ?_
        · show Steps p.tables e below (T1095.setTop (mkF m 152 #[iv p0, iv p1, iv p2, iv p3, iv p4, iv (3:Int32), iv w0_1, iv w0_2, iv w0_3, iv w0_4, rv b938, iv (f4 (0:Int32) (own_v1075 w0_2 w0_1)), iv (f5 (own_v1069 w0_2 w0_1)), iv (f6 (0:Int32) (own_v1077 w0_2 w0_1)), iv (f7 w0_4 (own_v1071 w0_2 w0_1)), iv (own_v1094 w0_4 w0_2 w0_1), iv (own_v1098 w0_3 w0_2 w0_1), iv w0_5] [(.int (f6 (0:Int32) (own_v1077 w0_2 w0_1)))])) _
          refine XS.ifNo X1095.here hx rfl (hb hby at_152) rfl (XT.i0_eq_f hs152_4) ?_
          show Steps p.tables e below (T1095.setTop (mkF m 155 #[iv p0, iv p1, iv p2, iv p3, iv p4, iv (3:Int32), iv w0_1, iv w0_2, iv w0_3, iv w0_4, rv b938, iv (f4 (0:Int32) (own_v1075 w0_2 w0_1)), iv (f5 (own_v1069 w0_2 w0_1)), iv (f6 (0:Int32) (own_v1077 w0_2 w0_1)), iv (f7 w0_4 (own_v1071 w0_2 w0_1)), iv (own_v1094 w0_4 w0_2 w0_1), iv (own_v1098 w0_3 w0_2 w0_1), iv w0_5] [])) _
          refine XS.iconst X1095.here hx rfl (hb hby at_155) ?_
          exact k
        exact own_end X1095 (BodyLoose.notSynchronized Bd) (fun h => by rw [Bd.returns] at h; cases h) (v := some (.int (0:Int32))) (fun fs hr => retN X1095 hx (t := .boolean) Bd.returns (by simp) (hb hby at_156) hr) (by show Q0n3 Z p0 p1 p2 p3 p4 h0 n0 _ T1095.heap _; rw [eh1095]; exact ⟨(by subst hw0_5; exact absurd ⟨hs137_2, hs145_3, hs152_4⟩ (own_fin1107 w0_1 (own_mem3 _ _ hw0_1) w0_2 (own_mem3 _ _ hw0_2))), N1095⟩) (by decide) (by decide)
    · refine own_pre (A := T1095.setTop (mkF m 149 #[iv p0, iv p1, iv p2, iv p3, iv p4, iv (3:Int32), iv w0_1, iv w0_2, iv w0_3, iv w0_4, rv b938, iv (f4 (0:Int32) (own_v1075 w0_2 w0_1)), iv (f5 (own_v1069 w0_2 w0_1)), iv (f6 (0:Int32) (own_v1077 w0_2 w0_1)), iv (f7 w0_4 (own_v1071 w0_2 w0_1)), iv (own_v1094 w0_4 w0_2 w0_1), iv (own_v1098 w0_3 w0_2 w0_1), iv w0_5] [(.int (0:Int32))])) (fun t k => ?_) ?_
      · show Steps p.tables e below (T1095.setTop (mkF m 145 #[iv p0, iv p1, iv p2, iv p3, iv p4, iv (3:Int32), iv w0_1, iv w0_2, iv w0_3, iv w0_4, rv b938, iv (f4 (0:Int32) (own_v1075 w0_2 w0_1)), iv (f5 (own_v1069 w0_2 w0_1)), iv (f6 (0:Int32) (own_v1077 w0_2 w0_1)), iv (f7 w0_4 (own_v1071 w0_2 w0_1)), iv (own_v1094 w0_4 w0_2 w0_1), iv (own_v1098 w0_3 w0_2 w0_1), iv w0_5] [(.int (1:Int32)), (.int (f5 (own_v1069 w0_2 w0_1)))])) _
        refine XS.icmpNo X1095.here hx rfl (hb hby at_145) rfl (XT.ii_eq_f hs145_3) ?_
        show Steps p.tables e below (T1095.setTop (mkF m 148 #[iv p0, iv p1, iv p2, iv p3, iv p4, iv (3:Int32), iv w0_1, iv w0_2, iv w0_3, iv w0_4, rv b938, iv (f4 (0:Int32) (own_v1075 w0_2 w0_1)), iv (f5 (own_v1069 w0_2 w0_1)), iv (f6 (0:Int32) (own_v1077 w0_2 w0_1)), iv (f7 w0_4 (own_v1071 w0_2 w0_1)), iv (own_v1094 w0_4 w0_2 w0_1), iv (own_v1098 w0_3 w0_2 w0_1), iv w0_5] [])) _
        refine XS.iconst X1095.here hx rfl (hb hby at_148) ?_
        exact k
      exact own_end X1095 (BodyLoose.notSynchronized Bd) (fun h => by rw [Bd.returns] at h; cases h) (v := some (.int (0:Int32))) (fun fs hr => retN X1095 hx (t := .boolean) Bd.returns (by simp) (hb hby at_149) hr) (by show Q0n3 Z p0 p1 p2 p3 p4 h0 n0 _ T1095.heap _; rw [eh1095]; exact ⟨(by subst hw0_5; exact absurd ⟨hs137_2, hs145_3⟩ (own_fin1108 w0_1 (own_mem3 _ _ hw0_1) w0_2 (own_mem3 _ _ hw0_2))), N1095⟩) (by decide) (by decide)
  · refine own_pre (A := T1095.setTop (mkF m 141 #[iv p0, iv p1, iv p2, iv p3, iv p4, iv (3:Int32), iv w0_1, iv w0_2, iv w0_3, iv w0_4, rv b938, iv (f4 (0:Int32) (own_v1075 w0_2 w0_1)), iv (f5 (own_v1069 w0_2 w0_1)), iv (f6 (0:Int32) (own_v1077 w0_2 w0_1)), iv (f7 w0_4 (own_v1071 w0_2 w0_1)), iv (own_v1094 w0_4 w0_2 w0_1), iv (own_v1098 w0_3 w0_2 w0_1), iv w0_5] [(.int (0:Int32))])) (fun t k => ?_) ?_
    · show Steps p.tables e below (T1095.setTop (mkF m 137 #[iv p0, iv p1, iv p2, iv p3, iv p4, iv (3:Int32), iv w0_1, iv w0_2, iv w0_3, iv w0_4, rv b938, iv (f4 (0:Int32) (own_v1075 w0_2 w0_1)), iv (f5 (own_v1069 w0_2 w0_1)), iv (f6 (0:Int32) (own_v1077 w0_2 w0_1)), iv (f7 w0_4 (own_v1071 w0_2 w0_1)), iv (own_v1094 w0_4 w0_2 w0_1), iv (own_v1098 w0_3 w0_2 w0_1), iv w0_5] [(.int w0_5), (.int (f4 (0:Int32) (own_v1075 w0_2 w0_1)))])) _
      refine XS.icmpNo X1095.here hx rfl (hb hby at_137) rfl (XT.ii_eq_f hs137_2) ?_
      show Steps p.tables e below (T1095.setTop (mkF m 140 #[iv p0, iv p1, iv p2, iv p3, iv p4, iv (3:Int32), iv w0_1, iv w0_2, iv w0_3, iv w0_4, rv b938, iv (f4 (0:Int32) (own_v1075 w0_2 w0_1)), iv (f5 (own_v1069 w0_2 w0_1)), iv (f6 (0:Int32) (own_v1077 w0_2 w0_1)), iv (f7 w0_4 (own_v1071 w0_2 w0_1)), iv (own_v1094 w0_4 w0_2 w0_1), iv (own_v1098 w0_3 w0_2 w0_1), iv w0_5] [])) _
      refine XS.iconst X1095.here hx rfl (hb hby at_140) ?_
      exact k
    exact own_end X1095 (BodyLoose.notSynchronized Bd) (fun h => by rw [Bd.returns] at h; cases h) (v := some (.int (0:Int32))) (fun fs hr => retN X1095 hx (t := .boolean) Bd.returns (by simp) (hb hby at_141) hr) (by show Q0n3 Z p0 p1 p2 p3 p4 h0 n0 _ T1095.heap _; rw [eh1095]; exact ⟨(by subst hw0_5; exact absurd hs137_2 (own_fin1109 w0_1 (own_mem3 _ _ hw0_1) w0_2 (own_mem3 _ _ hw0_2))), N1095⟩) (by decide) (by decide)
theorem own_mem4 (p w : Int32) (hw : w = ((p &&& (2147483647:Int32)) % (4:Int32))) : w ∈ ([(0:Int32), (1:Int32), (2:Int32), (3:Int32)] : List Int32) := by
  have e1 : (p &&& (2147483647:Int32)).toInt = p.toInt % 2 ^ 31 := Jvm.Kit.i32_mask p _ (k := 31) (by decide) (by decide)
  have l : (4:Int32).toInt = 4 := by decide
  have e : w.toInt = (p.toInt % 2 ^ 31) % 4 := by rw [hw, Int32.toInt_mod, e1, l, Int.tmod_eq_emod_of_nonneg (by omega)]
  have l0 : (0:Int32).toInt = 0 := by decide
  have l1 : (1:Int32).toInt = 1 := by decide
  have l2 : (2:Int32).toInt = 2 := by decide
  have l3 : (3:Int32).toInt = 3 := by decide
  simp only [List.mem_cons, List.not_mem_nil, or_false, ← Int32.toInt_inj, e, l0, l1, l2, l3]; omega
theorem own_fin1181 : ∀ w0_1 ∈ [(0:Int32), (1:Int32), (2:Int32), (3:Int32)], ((own_In w0_1 [(0:Int32), (0:Int32), (0:Int32), (0:Int32)].length)) := by decide +kernel
theorem own_fin1183 : ∀ w0_1 ∈ [(0:Int32), (1:Int32), (2:Int32), (3:Int32)], ((own_In (own_at [(0:Int32), (0:Int32), (0:Int32), (0:Int32)] w0_1) [(0:Int32), (0:Int32), (0:Int32), (0:Int32)].length)) := by decide +kernel
theorem own_fin1185 : ∀ w0_1 ∈ [(0:Int32), (1:Int32), (2:Int32), (3:Int32)], ((own_In w0_1 [(0:Int32), (1:Int32), (2:Int32), (3:Int32)].length)) := by decide +kernel
theorem own_fin1187 : ∀ w0_1 ∈ [(0:Int32), (1:Int32), (2:Int32), (3:Int32)], ((¬ ((own_at [(0:Int32), (1:Int32), (2:Int32), (3:Int32)] w0_1) < (own_at [(0:Int32), (0:Int32), (0:Int32), (0:Int32)] (own_at [(0:Int32), (0:Int32), (0:Int32), (0:Int32)] w0_1))) → own_In (own_at [(0:Int32), (0:Int32), (0:Int32), (0:Int32)] w0_1) [(0:Int32), (0:Int32), (0:Int32), (0:Int32)].length)) := by decide +kernel
theorem own_fin1189 : ∀ w0_1 ∈ [(0:Int32), (1:Int32), (2:Int32), (3:Int32)], ((¬ ((own_at [(0:Int32), (1:Int32), (2:Int32), (3:Int32)] w0_1) < (own_at [(0:Int32), (0:Int32), (0:Int32), (0:Int32)] (own_at [(0:Int32), (0:Int32), (0:Int32), (0:Int32)] w0_1))) → own_In (own_at [(0:Int32), (0:Int32), (0:Int32), (0:Int32)] (own_at [(0:Int32), (0:Int32), (0:Int32), (0:Int32)] w0_1)) [(0:Int32), (1:Int32), (2:Int32), (3:Int32)].length)) := by decide +kernel
theorem own_fin1191 : ∀ w0_1 ∈ [(0:Int32), (1:Int32), (2:Int32), (3:Int32)], ((¬ ((own_at [(0:Int32), (1:Int32), (2:Int32), (3:Int32)] w0_1) < (own_at [(0:Int32), (0:Int32), (0:Int32), (0:Int32)] (own_at [(0:Int32), (0:Int32), (0:Int32), (0:Int32)] w0_1))) → own_In (own_at [(0:Int32), (1:Int32), (2:Int32), (3:Int32)] w0_1) [(0:Int32), (1:Int32), (2:Int32), (3:Int32)].length)) := by decide +kernel
theorem own_fin1193 : ∀ w0_1 ∈ [(0:Int32), (1:Int32), (2:Int32), (3:Int32)], ((¬ ((own_at [(0:Int32), (1:Int32), (2:Int32), (3:Int32)] w0_1) < (own_at [(0:Int32), (0:Int32), (0:Int32), (0:Int32)] (own_at [(0:Int32), (0:Int32), (0:Int32), (0:Int32)] w0_1))) → own_In (own_at [(0:Int32), (1:Int32), (2:Int32), (3:Int32)] (own_at [(0:Int32), (0:Int32), (0:Int32), (0:Int32)] (own_at [(0:Int32), (0:Int32), (0:Int32), (0:Int32)] w0_1))) [(0:Int32), (1:Int32), (2:Int32), (3:Int32)].length)) := by decide +kernel
theorem own_fin1195 : ∀ w0_1 ∈ [(0:Int32), (1:Int32), (2:Int32), (3:Int32)], ((¬ ((own_at [(0:Int32), (1:Int32), (2:Int32), (3:Int32)] w0_1) < (own_at [(0:Int32), (0:Int32), (0:Int32), (0:Int32)] (own_at [(0:Int32), (0:Int32), (0:Int32), (0:Int32)] w0_1))) → (own_at [(0:Int32), (0:Int32), (0:Int32), (0:Int32)] (own_at [(0:Int32), (0:Int32), (0:Int32), (0:Int32)] w0_1)) = (own_at [(0:Int32), (0:Int32), (0:Int32), (0:Int32)] (own_at [(0:Int32), (0:Int32), (0:Int32), (0:Int32)] w0_1)) → own_In (0:Int32) [(0:Int32), (0:Int32), (0:Int32), (0:Int32)].length)) := by decide +kernel
def own_v1211 (w0_1 : Int32) : Int32 := (g3_tc w0_1 [(0:Int32), (1:Int32), (2:Int32), (3:Int32)] [(0:Int32), (1:Int32), (2:Int32), (3:Int32)] [(0:Int32), (0:Int32), (0:Int32), (0:Int32)] [(0:Int32), (0:Int32), (0:Int32), (0:Int32)] [(0:Int32), (0:Int32), (0:Int32), (0:Int32)] [(0:Int32), (0:Int32), (0:Int32), (0:Int32)] (1:Int32) (0:Int32))
def own_v1213 (w0_1 : Int32) : List Int32 := (g3_el w0_1 [(0:Int32), (1:Int32), (2:Int32), (3:Int32)] [(0:Int32), (1:Int32), (2:Int32), (3:Int32)] [(0:Int32), (0:Int32), (0:Int32), (0:Int32)] [(0:Int32), (0:Int32), (0:Int32), (0:Int32)] [(0:Int32), (0:Int32), (0:Int32), (0:Int32)] [(0:Int32), (0:Int32), (0:Int32), (0:Int32)] (1:Int32) (0:Int32))
def own_v1215 (w0_1 : Int32) : List Int32 := (g3_po w0_1 [(0:Int32), (1:Int32), (2:Int32), (3:Int32)] [(0:Int32), (1:Int32), (2:Int32), (3:Int32)] [(0:Int32), (0:Int32), (0:Int32), (0:Int32)] [(0:Int32), (0:Int32), (0:Int32), (0:Int32)] [(0:Int32), (0:Int32), (0:Int32), (0:Int32)] [(0:Int32), (0:Int32), (0:Int32), (0:Int32)] (1:Int32) (0:Int32))
def own_v1217 (w0_1 : Int32) : List Int32 := (g3_bm w0_1 [(0:Int32), (1:Int32), (2:Int32), (3:Int32)] [(0:Int32), (1:Int32), (2:Int32), (3:Int32)] [(0:Int32), (0:Int32), (0:Int32), (0:Int32)] [(0:Int32), (0:Int32), (0:Int32), (0:Int32)] [(0:Int32), (0:Int32), (0:Int32), (0:Int32)] [(0:Int32), (0:Int32), (0:Int32), (0:Int32)] (1:Int32) (0:Int32))
def own_v1219 (w0_1 : Int32) : List Int32 := (g3_tb w0_1 [(0:Int32), (1:Int32), (2:Int32), (3:Int32)] [(0:Int32), (1:Int32), (2:Int32), (3:Int32)] [(0:Int32), (0:Int32), (0:Int32), (0:Int32)] [(0:Int32), (0:Int32), (0:Int32), (0:Int32)] [(0:Int32), (0:Int32), (0:Int32), (0:Int32)] [(0:Int32), (0:Int32), (0:Int32), (0:Int32)] (1:Int32) (0:Int32))
theorem own_fin1225 : ∀ w0_2 ∈ [(0:Int32), (1:Int32), (2:Int32), (3:Int32)], ((own_In w0_2 [(0:Int32), (0:Int32), (0:Int32), (0:Int32)].length)) := by decide +kernel
theorem own_fin1227 : ∀ w0_1 ∈ [(0:Int32), (1:Int32), (2:Int32), (3:Int32)], ∀ w0_2 ∈ [(0:Int32), (1:Int32), (2:Int32), (3:Int32)], ((own_In (own_at [(0:Int32), (0:Int32), (0:Int32), (0:Int32)] w0_2) (own_v1217 w0_1).length)) := by decide +kernel
theorem own_fin1229 : ∀ w0_1 ∈ [(0:Int32), (1:Int32), (2:Int32), (3:Int32)], ∀ w0_2 ∈ [(0:Int32), (1:Int32), (2:Int32), (3:Int32)], ((own_In w0_2 (own_v1215 w0_1).length)) := by decide +kernel
theorem own_fin1231 : ∀ w0_1 ∈ [(0:Int32), (1:Int32), (2:Int32), (3:Int32)], ∀ w0_2 ∈ [(0:Int32), (1:Int32), (2:Int32), (3:Int32)], ((¬ ((own_at (own_v1215 w0_1) w0_2) < (own_at (own_v1217 w0_1) (own_at [(0:Int32), (0:Int32), (0:Int32), (0:Int32)] w0_2))) → own_In (own_at [(0:Int32), (0:Int32), (0:Int32), (0:Int32)] w0_2) [(0:Int32), (0:Int32), (0:Int32), (0:Int32)].length)) := by decide +kernel
theorem own_fin1233 : ∀ w0_1 ∈ [(0:Int32), (1:Int32), (2:Int32), (3:Int32)], ∀ w0_2 ∈ [(0:Int32), (1:Int32), (2:Int32), (3:Int32)], ((¬ ((own_at (own_v1215 w0_1) w0_2) < (own_at (own_v1217 w0_1) (own_at [(0:Int32), (0:Int32), (0:Int32), (0:Int32)] w0_2))) → own_In (own_at (own_v1217 w0_1) (own_at [(0:Int32), (0:Int32), (0:Int32), (0:Int32)] w0_2)) (own_v1213 w0_1).length)) := by decide +kernel
theorem own_fin1235 : ∀ w0_1 ∈ [(0:Int32), (1:Int32), (2:Int32), (3:Int32)], ∀ w0_2 ∈ [(0:Int32), (1:Int32), (2:Int32), (3:Int32)], ((¬ ((own_at (own_v1215 w0_1) w0_2) < (own_at (own_v1217 w0_1) (own_at [(0:Int32), (0:Int32), (0:Int32), (0:Int32)] w0_2))) → own_In (own_at (own_v1215 w0_1) w0_2) (own_v1213 w0_1).length)) := by decide +kernel
theorem own_fin1237 : ∀ w0_1 ∈ [(0:Int32), (1:Int32), (2:Int32), (3:Int32)], ∀ w0_2 ∈ [(0:Int32), (1:Int32), (2:Int32), (3:Int32)], ((¬ ((own_at (own_v1215 w0_1) w0_2) < (own_at (own_v1217 w0_1) (own_at [(0:Int32), (0:Int32), (0:Int32), (0:Int32)] w0_2))) → own_In (own_at (own_v1213 w0_1) (own_at (own_v1217 w0_1) (own_at [(0:Int32), (0:Int32), (0:Int32), (0:Int32)] w0_2))) (own_v1215 w0_1).length)) := by decide +kernel
theorem own_fin1239 : ∀ w0_1 ∈ [(0:Int32), (1:Int32), (2:Int32), (3:Int32)], ∀ w0_2 ∈ [(0:Int32), (1:Int32), (2:Int32), (3:Int32)], ((¬ ((own_at (own_v1215 w0_1) w0_2) < (own_at (own_v1217 w0_1) (own_at [(0:Int32), (0:Int32), (0:Int32), (0:Int32)] w0_2))) → (own_at (own_v1217 w0_1) (own_at [(0:Int32), (0:Int32), (0:Int32), (0:Int32)] w0_2)) = (own_at [(0:Int32), (0:Int32), (0:Int32), (0:Int32)] (own_at [(0:Int32), (0:Int32), (0:Int32), (0:Int32)] w0_2)) → own_In (own_v1211 w0_1) (own_v1219 w0_1).length)) := by decide +kernel
def own_v1255 (w0_2 : Int32) (w0_1 : Int32) : Int32 := (g3_tc w0_2 (own_v1213 w0_1) (own_v1215 w0_1) [(0:Int32), (0:Int32), (0:Int32), (0:Int32)] [(0:Int32), (0:Int32), (0:Int32), (0:Int32)] (own_v1217 w0_1) (own_v1219 w0_1) (1:Int32) (own_v1211 w0_1))
def own_v1257 (w0_2 : Int32) (w0_1 : Int32) : List Int32 := (g3_el w0_2 (own_v1213 w0_1) (own_v1215 w0_1) [(0:Int32), (0:Int32), (0:Int32), (0:Int32)] [(0:Int32), (0:Int32), (0:Int32), (0:Int32)] (own_v1217 w0_1) (own_v1219 w0_1) (1:Int32) (own_v1211 w0_1))
def own_v1259 (w0_2 : Int32) (w0_1 : Int32) : List Int32 := (g3_po w0_2 (own_v1213 w0_1) (own_v1215 w0_1) [(0:Int32), (0:Int32), (0:Int32), (0:Int32)] [(0:Int32), (0:Int32), (0:Int32), (0:Int32)] (own_v1217 w0_1) (own_v1219 w0_1) (1:Int32) (own_v1211 w0_1))
def own_v1261 (w0_2 : Int32) (w0_1 : Int32) : List Int32 := (g3_bm w0_2 (own_v1213 w0_1) (own_v1215 w0_1) [(0:Int32), (0:Int32), (0:Int32), (0:Int32)] [(0:Int32), (0:Int32), (0:Int32), (0:Int32)] (own_v1217 w0_1) (own_v1219 w0_1) (1:Int32) (own_v1211 w0_1))
def own_v1263 (w0_2 : Int32) (w0_1 : Int32) : List Int32 := (g3_tb w0_2 (own_v1213 w0_1) (own_v1215 w0_1) [(0:Int32), (0:Int32), (0:Int32), (0:Int32)] [(0:Int32), (0:Int32), (0:Int32), (0:Int32)] (own_v1217 w0_1) (own_v1219 w0_1) (1:Int32) (own_v1211 w0_1))
theorem own_fin1266 : ∀ w0_1 ∈ [(0:Int32), (1:Int32), (2:Int32), (3:Int32)], ∀ w0_2 ∈ [(0:Int32), (1:Int32), (2:Int32), (3:Int32)], ((own_In (0:Int32) (own_v1261 w0_2 w0_1).length)) := by decide +kernel
theorem own_fin1271 : ∀ w0_1 ∈ [(0:Int32), (1:Int32), (2:Int32), (3:Int32)], ∀ w0_2 ∈ [(0:Int32), (1:Int32), (2:Int32), (3:Int32)], ((own_In (0:Int32) (own_v1263 w0_2 w0_1).length)) := by decide +kernel
theorem own_fin1274 : ∀ w0_1 ∈ [(0:Int32), (1:Int32), (2:Int32), (3:Int32)], ∀ w0_2 ∈ [(0:Int32), (1:Int32), (2:Int32), (3:Int32)], ∀ w0_4 ∈ [(0:Int32), (1:Int32), (2:Int32), (3:Int32)], ((own_In w0_4 (own_v1257 w0_2 w0_1).length)) := by decide +kernel
theorem own_fin1278 : ∀ w0_1 ∈ [(0:Int32), (1:Int32), (2:Int32), (3:Int32)], ∀ w0_2 ∈ [(0:Int32), (1:Int32), (2:Int32), (3:Int32)], ∀ w0_4 ∈ [(0:Int32), (1:Int32), (2:Int32), (3:Int32)], (((own_In (f7 w0_4 (own_v1257 w0_2 w0_1)) (own_v1259 w0_2 w0_1).length) ∧ (own_In (f7 w0_4 (own_v1257 w0_2 w0_1)) [(0:Int32), (0:Int32), (0:Int32), (0:Int32)].length) ∧ (own_In (own_at [(0:Int32), (0:Int32), (0:Int32), (0:Int32)] (f7 w0_4 (own_v1257 w0_2 w0_1))) (own_v1261 w0_2 w0_1).length))) := by decide +kernel
def own_v1280 (w0_4 : Int32) (w0_2 : Int32) (w0_1 : Int32) : Int32 := (f8 (f7 w0_4 (own_v1257 w0_2 w0_1)) (own_v1259 w0_2 w0_1) [(0:Int32), (0:Int32), (0:Int32), (0:Int32)] (own_v1261 w0_2 w0_1))
theorem own_fin1282 : ∀ w0_1 ∈ [(0:Int32), (1:Int32), (2:Int32), (3:Int32)], ∀ w0_2 ∈ [(0:Int32), (1:Int32), (2:Int32), (3:Int32)], ∀ w0_3 ∈ [(0:Int32), (1:Int32), (2:Int32), (3:Int32)], (((own_In w0_3 (own_v1259 w0_2 w0_1).length) ∧ (own_In w0_3 [(0:Int32), (0:Int32), (0:Int32), (0:Int32)].length) ∧ (own_In (own_at [(0:Int32), (0:Int32), (0:Int32), (0:Int32)] w0_3) (own_v1261 w0_2 w0_1).length))) := by decide +kernel
def own_v1284 (w0_3 : Int32) (w0_2 : Int32) (w0_1 : Int32) : Int32 := (f8 w0_3 (own_v1259 w0_2 w0_1) [(0:Int32), (0:Int32), (0:Int32), (0:Int32)] (own_v1261 w0_2 w0_1))
theorem own_fin1285 : ∀ w0_1 ∈ [(0:Int32), (1:Int32), (2:Int32), (3:Int32)], ∀ w0_2 ∈ [(0:Int32), (1:Int32), (2:Int32), (3:Int32)], ∀ w0_4 ∈ [(0:Int32), (1:Int32), (2:Int32), (3:Int32)], (¬ (((f4 (0:Int32) (own_v1261 w0_2 w0_1)) = (own_v766 w0_1 w0_2)) ∧ ((f5 (own_v1255 w0_2 w0_1)) = (1:Int32)) ∧ ((f6 (0:Int32) (own_v1263 w0_2 w0_1)) = (0:Int32)) ∧ ((f7 w0_4 (own_v1257 w0_2 w0_1)) < (0:Int32)))) := by decide +kernel
theorem own_fin1286 : ∀ w0_1 ∈ [(0:Int32), (1:Int32), (2:Int32), (3:Int32)], ∀ w0_2 ∈ [(0:Int32), (1:Int32), (2:Int32), (3:Int32)], ∀ w0_3 ∈ [(0:Int32), (1:Int32), (2:Int32), (3:Int32)], ∀ w0_4 ∈ [(0:Int32), (1:Int32), (2:Int32), (3:Int32)], (¬ (((f4 (0:Int32) (own_v1261 w0_2 w0_1)) = (own_v766 w0_1 w0_2)) ∧ ((f5 (own_v1255 w0_2 w0_1)) = (1:Int32)) ∧ ((f6 (0:Int32) (own_v1263 w0_2 w0_1)) = (0:Int32)) ∧ (¬ ((f7 w0_4 (own_v1257 w0_2 w0_1)) < (0:Int32))) ∧ ((f7 w0_4 (own_v1257 w0_2 w0_1)) < (4:Int32)) ∧ ((own_v1280 w0_4 w0_2 w0_1) = (own_v768 w0_4 w0_1 w0_2)) ∧ (¬ ((own_v1284 w0_3 w0_2 w0_1) = (own_v769 w0_3 w0_1 w0_2))))) := by decide +kernel
theorem own_fin1287 : ∀ w0_1 ∈ [(0:Int32), (1:Int32), (2:Int32), (3:Int32)], ∀ w0_2 ∈ [(0:Int32), (1:Int32), (2:Int32), (3:Int32)], ∀ w0_4 ∈ [(0:Int32), (1:Int32), (2:Int32), (3:Int32)], (¬ (((f4 (0:Int32) (own_v1261 w0_2 w0_1)) = (own_v766 w0_1 w0_2)) ∧ ((f5 (own_v1255 w0_2 w0_1)) = (1:Int32)) ∧ ((f6 (0:Int32) (own_v1263 w0_2 w0_1)) = (0:Int32)) ∧ (¬ ((f7 w0_4 (own_v1257 w0_2 w0_1)) < (0:Int32))) ∧ ((f7 w0_4 (own_v1257 w0_2 w0_1)) < (4:Int32)) ∧ (¬ ((own_v1280 w0_4 w0_2 w0_1) = (own_v768 w0_4 w0_1 w0_2))))) := by decide +kernel
theorem own_fin1288 : ∀ w0_1 ∈ [(0:Int32), (1:Int32), (2:Int32), (3:Int32)], ∀ w0_2 ∈ [(0:Int32), (1:Int32), (2:Int32), (3:Int32)], ∀ w0_4 ∈ [(0:Int32), (1:Int32), (2:Int32), (3:Int32)], (¬ (((f4 (0:Int32) (own_v1261 w0_2 w0_1)) = (own_v766 w0_1 w0_2)) ∧ ((f5 (own_v1255 w0_2 w0_1)) = (1:Int32)) ∧ ((f6 (0:Int32) (own_v1263 w0_2 w0_1)) = (0:Int32)) ∧ (¬ ((f7 w0_4 (own_v1257 w0_2 w0_1)) < (0:Int32))) ∧ ((f7 w0_4 (own_v1257 w0_2 w0_1)) < (4:Int32)) ∧ (¬ (w0_4 < (own_v766 w0_1 w0_2))) ∧ ((f7 w0_4 (own_v1257 w0_2 w0_1)) = w0_1))) := by decide +kernel
theorem own_fin1289 : ∀ w0_1 ∈ [(0:Int32), (1:Int32), (2:Int32), (3:Int32)], ∀ w0_2 ∈ [(0:Int32), (1:Int32), (2:Int32), (3:Int32)], ∀ w0_4 ∈ [(0:Int32), (1:Int32), (2:Int32), (3:Int32)], (¬ (((f4 (0:Int32) (own_v1261 w0_2 w0_1)) = (own_v766 w0_1 w0_2)) ∧ ((f5 (own_v1255 w0_2 w0_1)) = (1:Int32)) ∧ ((f6 (0:Int32) (own_v1263 w0_2 w0_1)) = (0:Int32)) ∧ (¬ ((f7 w0_4 (own_v1257 w0_2 w0_1)) < (0:Int32))) ∧ ((f7 w0_4 (own_v1257 w0_2 w0_1)) < (4:Int32)) ∧ (¬ (w0_4 < (own_v766 w0_1 w0_2))) ∧ (¬ ((f7 w0_4 (own_v1257 w0_2 w0_1)) = w0_1)) ∧ ((f7 w0_4 (own_v1257 w0_2 w0_1)) = w0_2))) := by decide +kernel
theorem own_fin1290 : ∀ w0_1 ∈ [(0:Int32), (1:Int32), (2:Int32), (3:Int32)], ∀ w0_2 ∈ [(0:Int32), (1:Int32), (2:Int32), (3:Int32)], ∀ w0_4 ∈ [(0:Int32), (1:Int32), (2:Int32), (3:Int32)], (¬ (((f4 (0:Int32) (own_v1261 w0_2 w0_1)) = (own_v766 w0_1 w0_2)) ∧ ((f5 (own_v1255 w0_2 w0_1)) = (1:Int32)) ∧ ((f6 (0:Int32) (own_v1263 w0_2 w0_1)) = (0:Int32)) ∧ (¬ ((f7 w0_4 (own_v1257 w0_2 w0_1)) < (0:Int32))) ∧ ((f7 w0_4 (own_v1257 w0_2 w0_1)) < (4:Int32)) ∧ (w0_4 = (1:Int32)) ∧ (¬ (w0_1 = w0_2)) ∧ (¬ ((f7 w0_4 (own_v1257 w0_2 w0_1)) = w0_2)))) := by decide +kernel
theorem own_fin1291 : ∀ w0_1 ∈ [(0:Int32), (1:Int32), (2:Int32), (3:Int32)], ∀ w0_2 ∈ [(0:Int32), (1:Int32), (2:Int32), (3:Int32)], ∀ w0_4 ∈ [(0:Int32), (1:Int32), (2:Int32), (3:Int32)], (¬ (((f4 (0:Int32) (own_v1261 w0_2 w0_1)) = (own_v766 w0_1 w0_2)) ∧ ((f5 (own_v1255 w0_2 w0_1)) = (1:Int32)) ∧ ((f6 (0:Int32) (own_v1263 w0_2 w0_1)) = (0:Int32)) ∧ (¬ ((f7 w0_4 (own_v1257 w0_2 w0_1)) < (0:Int32))) ∧ ((f7 w0_4 (own_v1257 w0_2 w0_1)) < (4:Int32)) ∧ (w0_4 = (0:Int32)) ∧ (¬ ((f7 w0_4 (own_v1257 w0_2 w0_1)) = w0_1)))) := by decide +kernel
theorem own_fin1292 : ∀ w0_1 ∈ [(0:Int32), (1:Int32), (2:Int32), (3:Int32)], ∀ w0_2 ∈ [(0:Int32), (1:Int32), (2:Int32), (3:Int32)], ∀ w0_4 ∈ [(0:Int32), (1:Int32), (2:Int32), (3:Int32)], (¬ (((f4 (0:Int32) (own_v1261 w0_2 w0_1)) = (own_v766 w0_1 w0_2)) ∧ ((f5 (own_v1255 w0_2 w0_1)) = (1:Int32)) ∧ ((f6 (0:Int32) (own_v1263 w0_2 w0_1)) = (0:Int32)) ∧ (¬ ((f7 w0_4 (own_v1257 w0_2 w0_1)) < (0:Int32))) ∧ (¬ ((f7 w0_4 (own_v1257 w0_2 w0_1)) < (4:Int32))))) := by decide +kernel
theorem own_fin1293 : ∀ w0_1 ∈ [(0:Int32), (1:Int32), (2:Int32), (3:Int32)], ∀ w0_2 ∈ [(0:Int32), (1:Int32), (2:Int32), (3:Int32)], (¬ (((f4 (0:Int32) (own_v1261 w0_2 w0_1)) = (own_v766 w0_1 w0_2)) ∧ ((f5 (own_v1255 w0_2 w0_1)) = (1:Int32)) ∧ (¬ ((f6 (0:Int32) (own_v1263 w0_2 w0_1)) = (0:Int32))))) := by decide +kernel
theorem own_fin1294 : ∀ w0_1 ∈ [(0:Int32), (1:Int32), (2:Int32), (3:Int32)], ∀ w0_2 ∈ [(0:Int32), (1:Int32), (2:Int32), (3:Int32)], (¬ (((f4 (0:Int32) (own_v1261 w0_2 w0_1)) = (own_v766 w0_1 w0_2)) ∧ (¬ ((f5 (own_v1255 w0_2 w0_1)) = (1:Int32))))) := by decide +kernel
theorem own_fin1295 : ∀ w0_1 ∈ [(0:Int32), (1:Int32), (2:Int32), (3:Int32)], ∀ w0_2 ∈ [(0:Int32), (1:Int32), (2:Int32), (3:Int32)], (¬ ((¬ ((f4 (0:Int32) (own_v1261 w0_2 w0_1)) = (own_v766 w0_1 w0_2))))) := by decide +kernel
theorem ef0n4 (m : MethodId) (p0 : Int32) (p1 : Int32) (p2 : Int32) (p3 : Int32) (p4 : Int32) : entryFrame m #[(.int p0), (.int p1), (.int p2), (.int p3), (.int p4)] maxLocals = mkF m 0 #[iv p0, iv p1, iv p2, iv p3, iv p4, .unset, .unset, .unset, .unset, .unset, .unset, .unset, .unset, .unset, .unset, .unset, .unset, .unset] [] := by first | (simp [entryFrame, mkF, argsToLocals, Value.category, maxLocals]; done) | rfl
def Q0n4 (Z : State) (p0 : Int32) (p1 : Int32) (p2 : Int32) (p3 : Int32) (p4 : Int32)  (h0 : Heap) (n0 : Nat) (v : Option Value) (h : Heap) (L : List Loc) : Prop := v = some (.int (1:Int32)) ∧ Fr n0 L
set_option maxRecDepth 65536 in
set_option maxHeartbeats 40000000 in
theorem rm0n4 (l : Launch) (Z : State) (aZ : Array Value) (hw : ∀ d ∈ tables_1, d.before aZ Z = true) (ws : List Jvm.Cond) (p0 : Int32) (p1 : Int32) (p2 : Int32) (p3 : Int32) (p4 : Int32)  (h0 : Heap) (n0 : Nat) (Z0 : n0 ≤ h0.size) (hlen : ((1:Int32) + (p0 &&& (3:Int32))) = (4:Int32)) :
    MetFree l x (head1 (Jvm.Cond.code x code maxLocals ret :: ws) room_1) (fun a U => a = #[(.int p0), (.int p1), (.int p2), (.int p3), (.int p4)] ∧ Z.Warmed39 U.vm ∧ U.heap = h0) (fun _ _ _ _ _ => True) (fun _ U o U' => ∃ v L, o = .returned v ∧ Q0n4 Z p0 p1 p2 p3 p4 h0 n0 v U'.heap L ∧ FrameEnd U o U' L 8 64) := by
  refine MetFree.of_bodySF (plainFor_of_name own_pn1) hisR ?_
  intro p e s m args below meth c s₁ Bd hml0 hP hK
  obtain ⟨rfl, hZ, hh⟩ := hP
  have hx := Bd.exec
  have hby := Bd.bytes
  have hml : c.maxLocals = 18 := hml0
  have hown : s.vm.findClass "com/example/spare_calculus/sparecalculus/bisim/PartitionMarkPinLaw" = some m.cls := findClass_of_methodNamed Bd.named
  have hnm := (name_of_methodNamed Bd.named Bd.method).1
  have X0 : Stand p l e room_1 s m #[(.int p0), (.int p1), (.int p2), (.int p3), (.int p4)] below meth c s₁ [] 0 0 := Stand.of_body Bd
  have e0 : s₁.heap = h0 := by rw [← hh, Bd.state]; rfl
  have N0 := Fr.nil n0
  show own_Goes p e below s (Q0n4 Z p0 p1 p2 p3 p4 h0 n0) 8 64 _
  refine own_pre (fun t k => castTop (ef0n4 m p0 p1 p2 p3 p4) k) ?_
  obtain ⟨w0_1, hw0_1⟩ : ∃ z : Int32, z = ((p1 &&& (2147483647:Int32)) % (4:Int32)) := ⟨_, rfl⟩
  obtain ⟨w0_2, hw0_2⟩ : ∃ z : Int32, z = ((p2 &&& (2147483647:Int32)) % (4:Int32)) := ⟨_, rfl⟩
  obtain ⟨w0_3, hw0_3⟩ : ∃ z : Int32, z = ((p3 &&& (2147483647:Int32)) % (4:Int32)) := ⟨_, rfl⟩
  obtain ⟨w0_4, hw0_4⟩ : ∃ z : Int32, z = ((p4 &&& (2147483647:Int32)) % (4:Int32)) := ⟨_, rfl⟩
  refine own_pre (A := s₁.setTop (mkF m 44 #[iv p0, iv p1, iv p2, iv p3, iv p4, iv (4:Int32), iv w0_1, iv w0_2, iv w0_3, iv w0_4, .unset, .unset, .unset, .unset, .unset, .unset, .unset, .unset] [])) (fun t k => ?_) ?_
  · show Steps p.tables e below (s₁.setTop (mkF m 0 #[iv p0, iv p1, iv p2, iv p3, iv p4, .unset, .unset, .unset, .unset, .unset, .unset, .unset, .unset, .unset, .unset, .unset, .unset, .unset] [])) _
    refine XS.iconst X0.here hx rfl (hb hby at_0) ?_
    show Steps p.tables e below (s₁.setTop (mkF m 1 #[iv p0, iv p1, iv p2, iv p3, iv p4, .unset, .unset, .unset, .unset, .unset, .unset, .unset, .unset, .unset, .unset, .unset, .unset, .unset] [(.int (1:Int32))])) _
    refine XS.iloadN X0.here hx rfl (hb hby at_1) rfl ?_
    show Steps p.tables e below (s₁.setTop (mkF m 2 #[iv p0, iv p1, iv p2, iv p3, iv p4, .unset, .unset, .unset, .unset, .unset, .unset, .unset, .unset, .unset, .unset, .unset, .unset, .unset] [(.int p0), (.int (1:Int32))])) _
    refine XS.iconst X0.here hx rfl (hb hby at_2) ?_
    show Steps p.tables e below (s₁.setTop (mkF m 3 #[iv p0, iv p1, iv p2, iv p3, iv p4, .unset, .unset, .unset, .unset, .unset, .unset, .unset, .unset, .unset, .unset, .unset, .unset, .unset] [(.int (3:Int32)), (.int p0), (.int (1:Int32))])) _
    refine XS.iand X0.here hx rfl (hb hby at_3) rfl ?_
    show Steps p.tables e below (s₁.setTop (mkF m 4 #[iv p0, iv p1, iv p2, iv p3, iv p4, .unset, .unset, .unset, .unset, .unset, .unset, .unset, .unset, .unset, .unset, .unset, .unset, .unset] [(.int (p0 &&& (3:Int32))), (.int (1:Int32))])) _
    refine XS.iadd X0.here hx rfl (hb hby at_4) rfl ?_
    show Steps p.tables e below (s₁.setTop (mkF m 5 #[iv p0, iv p1, iv p2, iv p3, iv p4, .unset, .unset, .unset, .unset, .unset, .unset, .unset, .unset, .unset, .unset, .unset, .unset, .unset] [(.int ((1:Int32) + (p0 &&& (3:Int32))))])) _
    refine XS.istore X0.here hx rfl (hb hby at_5) rfl (l' := #[iv p0, iv p1, iv p2, iv p3, iv p4, iv (4:Int32), .unset, .unset, .unset, .unset, .unset, .unset, .unset, .unset, .unset, .unset, .unset, .unset]) (by show storeLocals _ _ (Value.int ((1:Int32) + (p0 &&& (3:Int32)))) = _; rw [hlen]; rfl) ?_
    show Steps p.tables e below (s₁.setTop (mkF m 7 #[iv p0, iv p1, iv p2, iv p3, iv p4, iv (4:Int32), .unset, .unset, .unset, .unset, .unset, .unset, .unset, .unset, .unset, .unset, .unset, .unset] [])) _
    refine XS.iloadN X0.here hx rfl (hb hby at_7) rfl ?_
    show Steps p.tables e below (s₁.setTop (mkF m 8 #[iv p0, iv p1, iv p2, iv p3, iv p4, iv (4:Int32), .unset, .unset, .unset, .unset, .unset, .unset, .unset, .unset, .unset, .unset, .unset, .unset] [(.int p1)])) _
    refine Jvm.Stand.ldcI X0 hx hown (mvT hZ (own_h hw 0 rfl)) rfl (hb hby at_8) ?_
    show Steps p.tables e below (s₁.setTop (mkF m 10 #[iv p0, iv p1, iv p2, iv p3, iv p4, iv (4:Int32), .unset, .unset, .unset, .unset, .unset, .unset, .unset, .unset, .unset, .unset, .unset, .unset] [(.int (2147483647:Int32)), (.int p1)])) _
    refine XS.iand X0.here hx rfl (hb hby at_10) rfl ?_
    show Steps p.tables e below (s₁.setTop (mkF m 11 #[iv p0, iv p1, iv p2, iv p3, iv p4, iv (4:Int32), .unset, .unset, .unset, .unset, .unset, .unset, .unset, .unset, .unset, .unset, .unset, .unset] [(.int (p1 &&& (2147483647:Int32)))])) _
    refine XS.iload X0.here hx rfl (hb hby at_11) rfl ?_
    show Steps p.tables e below (s₁.setTop (mkF m 13 #[iv p0, iv p1, iv p2, iv p3, iv p4, iv (4:Int32), .unset, .unset, .unset, .unset, .unset, .unset, .unset, .unset, .unset, .unset, .unset, .unset] [(.int (4:Int32)), (.int (p1 &&& (2147483647:Int32)))])) _
    refine iremM X0 hx rfl (hb hby at_13) rfl (by decide) ?_
    show Steps p.tables e below (s₁.setTop (mkF m 14 #[iv p0, iv p1, iv p2, iv p3, iv p4, iv (4:Int32), .unset, .unset, .unset, .unset, .unset, .unset, .unset, .unset, .unset, .unset, .unset, .unset] [(.int ((p1 &&& (2147483647:Int32)) % (4:Int32)))])) _
    refine XS.istore X0.here hx rfl (hb hby at_14) rfl (l' := #[iv p0, iv p1, iv p2, iv p3, iv p4, iv (4:Int32), iv w0_1, .unset, .unset, .unset, .unset, .unset, .unset, .unset, .unset, .unset, .unset, .unset]) (by rw [hw0_1]; rfl) ?_
    show Steps p.tables e below (s₁.setTop (mkF m 16 #[iv p0, iv p1, iv p2, iv p3, iv p4, iv (4:Int32), iv w0_1, .unset, .unset, .unset, .unset, .unset, .unset, .unset, .unset, .unset, .unset, .unset] [])) _
    refine XS.iloadN X0.here hx rfl (hb hby at_16) rfl ?_
    show Steps p.tables e below (s₁.setTop (mkF m 17 #[iv p0, iv p1, iv p2, iv p3, iv p4, iv (4:Int32), iv w0_1, .unset, .unset, .unset, .unset, .unset, .unset, .unset, .unset, .unset, .unset, .unset] [(.int p2)])) _
    refine Jvm.Stand.ldcI X0 hx hown (mvT hZ (own_h hw 0 rfl)) rfl (hb hby at_17) ?_
    show Steps p.tables e below (s₁.setTop (mkF m 19 #[iv p0, iv p1, iv p2, iv p3, iv p4, iv (4:Int32), iv w0_1, .unset, .unset, .unset, .unset, .unset, .unset, .unset, .unset, .unset, .unset, .unset] [(.int (2147483647:Int32)), (.int p2)])) _
    refine XS.iand X0.here hx rfl (hb hby at_19) rfl ?_
    show Steps p.tables e below (s₁.setTop (mkF m 20 #[iv p0, iv p1, iv p2, iv p3, iv p4, iv (4:Int32), iv w0_1, .unset, .unset, .unset, .unset, .unset, .unset, .unset, .unset, .unset, .unset, .unset] [(.int (p2 &&& (2147483647:Int32)))])) _
    refine XS.iload X0.here hx rfl (hb hby at_20) rfl ?_
    show Steps p.tables e below (s₁.setTop (mkF m 22 #[iv p0, iv p1, iv p2, iv p3, iv p4, iv (4:Int32), iv w0_1, .unset, .unset, .unset, .unset, .unset, .unset, .unset, .unset, .unset, .unset, .unset] [(.int (4:Int32)), (.int (p2 &&& (2147483647:Int32)))])) _
    refine iremM X0 hx rfl (hb hby at_22) rfl (by decide) ?_
    show Steps p.tables e below (s₁.setTop (mkF m 23 #[iv p0, iv p1, iv p2, iv p3, iv p4, iv (4:Int32), iv w0_1, .unset, .unset, .unset, .unset, .unset, .unset, .unset, .unset, .unset, .unset, .unset] [(.int ((p2 &&& (2147483647:Int32)) % (4:Int32)))])) _
    refine XS.istore X0.here hx rfl (hb hby at_23) rfl (l' := #[iv p0, iv p1, iv p2, iv p3, iv p4, iv (4:Int32), iv w0_1, iv w0_2, .unset, .unset, .unset, .unset, .unset, .unset, .unset, .unset, .unset, .unset]) (by rw [hw0_2]; rfl) ?_
    show Steps p.tables e below (s₁.setTop (mkF m 25 #[iv p0, iv p1, iv p2, iv p3, iv p4, iv (4:Int32), iv w0_1, iv w0_2, .unset, .unset, .unset, .unset, .unset, .unset, .unset, .unset, .unset, .unset] [])) _
    refine XS.iloadN X0.here hx rfl (hb hby at_25) rfl ?_
    show Steps p.tables e below (s₁.setTop (mkF m 26 #[iv p0, iv p1, iv p2, iv p3, iv p4, iv (4:Int32), iv w0_1, iv w0_2, .unset, .unset, .unset, .unset, .unset, .unset, .unset, .unset, .unset, .unset] [(.int p3)])) _
    refine Jvm.Stand.ldcI X0 hx hown (mvT hZ (own_h hw 0 rfl)) rfl (hb hby at_26) ?_
    show Steps p.tables e below (s₁.setTop (mkF m 28 #[iv p0, iv p1, iv p2, iv p3, iv p4, iv (4:Int32), iv w0_1, iv w0_2, .unset, .unset, .unset, .unset, .unset, .unset, .unset, .unset, .unset, .unset] [(.int (2147483647:Int32)), (.int p3)])) _
    refine XS.iand X0.here hx rfl (hb hby at_28) rfl ?_
    show Steps p.tables e below (s₁.setTop (mkF m 29 #[iv p0, iv p1, iv p2, iv p3, iv p4, iv (4:Int32), iv w0_1, iv w0_2, .unset, .unset, .unset, .unset, .unset, .unset, .unset, .unset, .unset, .unset] [(.int (p3 &&& (2147483647:Int32)))])) _
    refine XS.iload X0.here hx rfl (hb hby at_29) rfl ?_
    show Steps p.tables e below (s₁.setTop (mkF m 31 #[iv p0, iv p1, iv p2, iv p3, iv p4, iv (4:Int32), iv w0_1, iv w0_2, .unset, .unset, .unset, .unset, .unset, .unset, .unset, .unset, .unset, .unset] [(.int (4:Int32)), (.int (p3 &&& (2147483647:Int32)))])) _
    refine iremM X0 hx rfl (hb hby at_31) rfl (by decide) ?_
    show Steps p.tables e below (s₁.setTop (mkF m 32 #[iv p0, iv p1, iv p2, iv p3, iv p4, iv (4:Int32), iv w0_1, iv w0_2, .unset, .unset, .unset, .unset, .unset, .unset, .unset, .unset, .unset, .unset] [(.int ((p3 &&& (2147483647:Int32)) % (4:Int32)))])) _
    refine XS.istore X0.here hx rfl (hb hby at_32) rfl (l' := #[iv p0, iv p1, iv p2, iv p3, iv p4, iv (4:Int32), iv w0_1, iv w0_2, iv w0_3, .unset, .unset, .unset, .unset, .unset, .unset, .unset, .unset, .unset]) (by rw [hw0_3]; rfl) ?_
    show Steps p.tables e below (s₁.setTop (mkF m 34 #[iv p0, iv p1, iv p2, iv p3, iv p4, iv (4:Int32), iv w0_1, iv w0_2, iv w0_3, .unset, .unset, .unset, .unset, .unset, .unset, .unset, .unset, .unset] [])) _
    refine XS.iload X0.here hx rfl (hb hby at_34) rfl ?_
    show Steps p.tables e below (s₁.setTop (mkF m 36 #[iv p0, iv p1, iv p2, iv p3, iv p4, iv (4:Int32), iv w0_1, iv w0_2, iv w0_3, .unset, .unset, .unset, .unset, .unset, .unset, .unset, .unset, .unset] [(.int p4)])) _
    refine Jvm.Stand.ldcI X0 hx hown (mvT hZ (own_h hw 0 rfl)) rfl (hb hby at_36) ?_
    show Steps p.tables e below (s₁.setTop (mkF m 38 #[iv p0, iv p1, iv p2, iv p3, iv p4, iv (4:Int32), iv w0_1, iv w0_2, iv w0_3, .unset, .unset, .unset, .unset, .unset, .unset, .unset, .unset, .unset] [(.int (2147483647:Int32)), (.int p4)])) _
    refine XS.iand X0.here hx rfl (hb hby at_38) rfl ?_
    show Steps p.tables e below (s₁.setTop (mkF m 39 #[iv p0, iv p1, iv p2, iv p3, iv p4, iv (4:Int32), iv w0_1, iv w0_2, iv w0_3, .unset, .unset, .unset, .unset, .unset, .unset, .unset, .unset, .unset] [(.int (p4 &&& (2147483647:Int32)))])) _
    refine XS.iload X0.here hx rfl (hb hby at_39) rfl ?_
    show Steps p.tables e below (s₁.setTop (mkF m 41 #[iv p0, iv p1, iv p2, iv p3, iv p4, iv (4:Int32), iv w0_1, iv w0_2, iv w0_3, .unset, .unset, .unset, .unset, .unset, .unset, .unset, .unset, .unset] [(.int (4:Int32)), (.int (p4 &&& (2147483647:Int32)))])) _
    refine iremM X0 hx rfl (hb hby at_41) rfl (by decide) ?_
    show Steps p.tables e below (s₁.setTop (mkF m 42 #[iv p0, iv p1, iv p2, iv p3, iv p4, iv (4:Int32), iv w0_1, iv w0_2, iv w0_3, .unset, .unset, .unset, .unset, .unset, .unset, .unset, .unset, .unset] [(.int ((p4 &&& (2147483647:Int32)) % (4:Int32)))])) _
    refine XS.istore X0.here hx rfl (hb hby at_42) rfl (l' := #[iv p0, iv p1, iv p2, iv p3, iv p4, iv (4:Int32), iv w0_1, iv w0_2, iv w0_3, iv w0_4, .unset, .unset, .unset, .unset, .unset, .unset, .unset, .unset]) (by rw [hw0_4]; rfl) ?_
    exact k
  obtain ⟨T1110, h1110, X1110, e1110, E1110, A1110, D1110, -, st1110⟩ := newO X0 hx hZ hown (own_h hw 1 rfl) (own_h hw 2 rfl) (own_h hw 3 rfl) e0 (g := (mkF m 44 #[iv p0, iv p1, iv p2, iv p3, iv p4, iv (4:Int32), iv w0_1, iv w0_2, iv w0_3, iv w0_4, .unset, .unset, .unset, .unset, .unset, .unset, .unset, .unset] [])) rfl (hb hby at_44) (by decide) (by decide)
  obtain ⟨b1110, g1110⟩ : ∃ z, z = h0.size := ⟨_, rfl⟩
  rw [← g1110] at A1110 D1110 st1110
  have ge_b1110 : n0 ≤ b1110 := Nat.le_trans Z0 (Nat.le_of_eq g1110.symm)
  have Z1111 : n0 ≤ h1110.size := Nat.le_trans Z0 E1110.1
  have F1110_elements : Fld Z h1110 b1110 "com/example/spare_calculus/sparecalculus/bisim/Partition" "elements" "[I" .null := D1110 (Or.inr (own_h hw 12 rfl)) (ty := (.array .int)) (by decide)
  have F1110_positions : Fld Z h1110 b1110 "com/example/spare_calculus/sparecalculus/bisim/Partition" "positions" "[I" .null := D1110 (Or.inr (own_h hw 14 rfl)) (ty := (.array .int)) (by decide)
  have F1110_blockOf : Fld Z h1110 b1110 "com/example/spare_calculus/sparecalculus/bisim/Partition" "blockOf" "[I" .null := D1110 (Or.inr (own_h hw 16 rfl)) (ty := (.array .int)) (by decide)
  have F1110_blockStart : Fld Z h1110 b1110 "com/example/spare_calculus/sparecalculus/bisim/Partition" "blockStart" "[I" .null := D1110 (Or.inr (own_h hw 18 rfl)) (ty := (.array .int)) (by decide)
  have F1110_blockEnd : Fld Z h1110 b1110 "com/example/spare_calculus/sparecalculus/bisim/Partition" "blockEnd" "[I" .null := D1110 (Or.inr (own_h hw 20 rfl)) (ty := (.array .int)) (by decide)
  have F1110_blockMarkedEnd : Fld Z h1110 b1110 "com/example/spare_calculus/sparecalculus/bisim/Partition" "blockMarkedEnd" "[I" .null := D1110 (Or.inr (own_h hw 22 rfl)) (ty := (.array .int)) (by decide)
  have F1110_touchedBlocks : Fld Z h1110 b1110 "com/example/spare_calculus/sparecalculus/bisim/Partition" "touchedBlocks" "[I" .null := D1110 (Or.inr (own_h hw 24 rfl)) (ty := (.array .int)) (by decide)
  have F1110_blockCount : Fld Z h1110 b1110 "com/example/spare_calculus/sparecalculus/bisim/Partition" "blockCount" "I" (.int (0:Int32)) := D1110 (Or.inl (own_h hw 26 rfl)) (ty := .int) (by decide)
  have F1110_touchedBlockCount : Fld Z h1110 b1110 "com/example/spare_calculus/sparecalculus/bisim/Partition" "touchedBlockCount" "I" (.int (0:Int32)) := D1110 (Or.inl (own_h hw 33 rfl)) (ty := .int) (by decide)
  refine own_pre st1110 ?_
  refine own_pre (A := T1110.setTop (mkF m 50 #[iv p0, iv p1, iv p2, iv p3, iv p4, iv (4:Int32), iv w0_1, iv w0_2, iv w0_3, iv w0_4, .unset, .unset, .unset, .unset, .unset, .unset, .unset, .unset] [(.int (4:Int32)), (.ref b1110), (.ref b1110)])) (fun t k => ?_) ?_
  · show Steps p.tables e below (T1110.setTop (mkF m 47 #[iv p0, iv p1, iv p2, iv p3, iv p4, iv (4:Int32), iv w0_1, iv w0_2, iv w0_3, iv w0_4, .unset, .unset, .unset, .unset, .unset, .unset, .unset, .unset] [(.ref b1110)])) _
    refine XS.dup X1110.here hx rfl (hb hby at_47) rfl rfl ?_
    show Steps p.tables e below (T1110.setTop (mkF m 48 #[iv p0, iv p1, iv p2, iv p3, iv p4, iv (4:Int32), iv w0_1, iv w0_2, iv w0_3, iv w0_4, .unset, .unset, .unset, .unset, .unset, .unset, .unset, .unset] [(.ref b1110), (.ref b1110)])) _
    refine XS.iload X1110.here hx rfl (hb hby at_48) rfl ?_
    exact k
  obtain ⟨_, _, ⟨T1112, L1112, k1112, n1112⟩, -, X1112, ⟨Lc1112, hQ1112, l1112, y1112, z1112⟩, st1112⟩ := X1110.specialBack hx (y := (⟨"com/example/spare_calculus/sparecalculus/bisim/Partition", "<init>", "(I)V"⟩ : MethodName)) rfl hown (mvT hZ (own_h hw 4 rfl)) (mvT hZ (own_h hw 5 rfl)) (mvT hZ (own_h hw 6 rfl)) (by decide) (backOf (W := 1) (rm1n4 l Z aZ hw [] b1110 h1110 n0 Z1111 A1110 F1110_elements F1110_positions F1110_blockOf F1110_blockStart F1110_blockEnd F1110_blockMarkedEnd F1110_touchedBlocks F1110_blockCount F1110_touchedBlockCount ge_b1110) hZ (own_h hw 6 rfl) (own_h hw 3 rfl) (by decide) (by decide)) (g := (mkF m 50 #[iv p0, iv p1, iv p2, iv p3, iv p4, iv (4:Int32), iv w0_1, iv w0_2, iv w0_3, iv w0_4, .unset, .unset, .unset, .unset, .unset, .unset, .unset, .unset] [(.int (4:Int32)), (.ref b1110), (.ref b1110)])) rfl (by rw [hml]; rfl) (Steps.refl _) (a := b1110) (argsL := [(.int (4:Int32))]) (rest := [(.ref b1110)]) (lenOf own_pd0 rfl) rfl (by show 2 * 0 + _ ≤ _; exact Nat.le_of_eq rfl) (hb hby at_50) (fun _ _ => ⟨rfl, e1110, (by decide : 1 + 7 ≤ _), (by decide : 9 + 28 ≤ _)⟩)
  dsimp only [Pt.U, Pt.locs, Pt.cells, Pt.slots] at X1112 l1112 y1112 z1112 st1112 hQ1112
  subst l1112 y1112 z1112
  obtain ⟨rfl, N1112q, K1112, e1_1113, e2_1114, e3_1115, e4_1116, e5_1117, e6_1118, e7_1119, sz1120, sz1121, sz1122, sz1123, sz1124, sz1125, sz1126, ne1127, ne1128, ne1129, ne1130, ne1131, ne1132, ne1133, ne1134, ne1135, ne1136, ne1137, ne1138, ne1139, ne1140, ne1141, ne1142, ne1143, ne1144, ne1145, ne1146, ne1147, G1148, G1149, G1150, G1151, G1152, G1153, G1154, G1155, G1156, G1157, G1158, G1159, G1160, G1161, G1162, G1163⟩ := hQ1112
  have N1112 := Fr.app N0 N1112q
  have Z1164 : n0 ≤ T1112.heap.size := Nat.le_trans Z1111 K1112.1
  have ne1165 : b1110 ≠ e1_1113 := Nat.ne_of_lt (Nat.lt_of_lt_of_le A1110.lt sz1120)
  have ge1166 : n0 ≤ e1_1113 := Nat.le_trans Z1111 sz1120
  have ne1167 : b1110 ≠ e2_1114 := Nat.ne_of_lt (Nat.lt_of_lt_of_le A1110.lt sz1121)
  have ge1168 : n0 ≤ e2_1114 := Nat.le_trans Z1111 sz1121
  have ne1169 : b1110 ≠ e3_1115 := Nat.ne_of_lt (Nat.lt_of_lt_of_le A1110.lt sz1122)
  have ge1170 : n0 ≤ e3_1115 := Nat.le_trans Z1111 sz1122
  have ne1171 : b1110 ≠ e4_1116 := Nat.ne_of_lt (Nat.lt_of_lt_of_le A1110.lt sz1123)
  have ge1172 : n0 ≤ e4_1116 := Nat.le_trans Z1111 sz1123
  have ne1173 : b1110 ≠ e5_1117 := Nat.ne_of_lt (Nat.lt_of_lt_of_le A1110.lt sz1124)
  have ge1174 : n0 ≤ e5_1117 := Nat.le_trans Z1111 sz1124
  have ne1175 : b1110 ≠ e6_1118 := Nat.ne_of_lt (Nat.lt_of_lt_of_le A1110.lt sz1125)
  have ge1176 : n0 ≤ e6_1118 := Nat.le_trans Z1111 sz1125
  have ne1177 : b1110 ≠ e7_1119 := Nat.ne_of_lt (Nat.lt_of_lt_of_le A1110.lt sz1126)
  have ge1178 : n0 ≤ e7_1119 := Nat.le_trans Z1111 sz1126
  refine own_pre (fun _ k => st1112.trans k) ?_
  refine own_pre (A := T1112.setTop (mkF m 59 #[iv p0, iv p1, iv p2, iv p3, iv p4, iv (4:Int32), iv w0_1, iv w0_2, iv w0_3, iv w0_4, rv b1110, .unset, .unset, .unset, .unset, .unset, .unset, .unset] [(.int w0_1), (.ref b1110)])) (fun t k => ?_) ?_
  · show Steps p.tables e below (T1112.setTop (mkF m 53 #[iv p0, iv p1, iv p2, iv p3, iv p4, iv (4:Int32), iv w0_1, iv w0_2, iv w0_3, iv w0_4, .unset, .unset, .unset, .unset, .unset, .unset, .unset, .unset] [(.ref b1110)])) _
    refine XS.astore X1112.here hx rfl (hb hby at_53) rfl rfl (l' := #[iv p0, iv p1, iv p2, iv p3, iv p4, iv (4:Int32), iv w0_1, iv w0_2, iv w0_3, iv w0_4, rv b1110, .unset, .unset, .unset, .unset, .unset, .unset, .unset]) rfl ?_
    show Steps p.tables e below (T1112.setTop (mkF m 55 #[iv p0, iv p1, iv p2, iv p3, iv p4, iv (4:Int32), iv w0_1, iv w0_2, iv w0_3, iv w0_4, rv b1110, .unset, .unset, .unset, .unset, .unset, .unset, .unset] [])) _
    refine XS.aload X1112.here hx rfl (hb hby at_55) rfl rfl ?_
    show Steps p.tables e below (T1112.setTop (mkF m 57 #[iv p0, iv p1, iv p2, iv p3, iv p4, iv (4:Int32), iv w0_1, iv w0_2, iv w0_3, iv w0_4, rv b1110, .unset, .unset, .unset, .unset, .unset, .unset, .unset] [(.ref b1110)])) _
    refine XS.iload X1112.here hx rfl (hb hby at_57) rfl ?_
    exact k
  have F1180 := (A1110.keep K1112)
  have hf1182 : own_In w0_1 [(0:Int32), (0:Int32), (0:Int32), (0:Int32)].length := by exact own_fin1181 w0_1 (own_mem4 _ _ hw0_1)
  have hf1184 : own_In (own_at [(0:Int32), (0:Int32), (0:Int32), (0:Int32)] w0_1) [(0:Int32), (0:Int32), (0:Int32), (0:Int32)].length := by exact own_fin1183 w0_1 (own_mem4 _ _ hw0_1)
  have hf1186 : own_In w0_1 [(0:Int32), (1:Int32), (2:Int32), (3:Int32)].length := by exact own_fin1185 w0_1 (own_mem4 _ _ hw0_1)
  have hf1188 : ¬ ((own_at [(0:Int32), (1:Int32), (2:Int32), (3:Int32)] w0_1) < (own_at [(0:Int32), (0:Int32), (0:Int32), (0:Int32)] (own_at [(0:Int32), (0:Int32), (0:Int32), (0:Int32)] w0_1))) → own_In (own_at [(0:Int32), (0:Int32), (0:Int32), (0:Int32)] w0_1) [(0:Int32), (0:Int32), (0:Int32), (0:Int32)].length := by exact own_fin1187 w0_1 (own_mem4 _ _ hw0_1)
  have hf1190 : ¬ ((own_at [(0:Int32), (1:Int32), (2:Int32), (3:Int32)] w0_1) < (own_at [(0:Int32), (0:Int32), (0:Int32), (0:Int32)] (own_at [(0:Int32), (0:Int32), (0:Int32), (0:Int32)] w0_1))) → own_In (own_at [(0:Int32), (0:Int32), (0:Int32), (0:Int32)] (own_at [(0:Int32), (0:Int32), (0:Int32), (0:Int32)] w0_1)) [(0:Int32), (1:Int32), (2:Int32), (3:Int32)].length := by exact own_fin1189 w0_1 (own_mem4 _ _ hw0_1)
  have hf1192 : ¬ ((own_at [(0:Int32), (1:Int32), (2:Int32), (3:Int32)] w0_1) < (own_at [(0:Int32), (0:Int32), (0:Int32), (0:Int32)] (own_at [(0:Int32), (0:Int32), (0:Int32), (0:Int32)] w0_1))) → own_In (own_at [(0:Int32), (1:Int32), (2:Int32), (3:Int32)] w0_1) [(0:Int32), (1:Int32), (2:Int32), (3:Int32)].length := by exact own_fin1191 w0_1 (own_mem4 _ _ hw0_1)
  have hf1194 : ¬ ((own_at [(0:Int32), (1:Int32), (2:Int32), (3:Int32)] w0_1) < (own_at [(0:Int32), (0:Int32), (0:Int32), (0:Int32)] (own_at [(0:Int32), (0:Int32), (0:Int32), (0:Int32)] w0_1))) → own_In (own_at [(0:Int32), (1:Int32), (2:Int32), (3:Int32)] (own_at [(0:Int32), (0:Int32), (0:Int32), (0:Int32)] (own_at [(0:Int32), (0:Int32), (0:Int32), (0:Int32)] w0_1))) [(0:Int32), (1:Int32), (2:Int32), (3:Int32)].length := by exact own_fin1193 w0_1 (own_mem4 _ _ hw0_1)
  have hf1196 : ¬ ((own_at [(0:Int32), (1:Int32), (2:Int32), (3:Int32)] w0_1) < (own_at [(0:Int32), (0:Int32), (0:Int32), (0:Int32)] (own_at [(0:Int32), (0:Int32), (0:Int32), (0:Int32)] w0_1))) → (own_at [(0:Int32), (0:Int32), (0:Int32), (0:Int32)] (own_at [(0:Int32), (0:Int32), (0:Int32), (0:Int32)] w0_1)) = (own_at [(0:Int32), (0:Int32), (0:Int32), (0:Int32)] (own_at [(0:Int32), (0:Int32), (0:Int32), (0:Int32)] w0_1)) → own_In (0:Int32) [(0:Int32), (0:Int32), (0:Int32), (0:Int32)].length := by exact own_fin1195 w0_1 (own_mem4 _ _ hw0_1)
  obtain ⟨cq1179, kq1179, q1179a, q1179b, q1179c⟩ := isOf hZ rfl F1180
  obtain ⟨_, _, ⟨T1179, L1179, k1179, n1179⟩, -, X1179, ⟨Lc1179, hQ1179, l1179, y1179, z1179⟩, st1179⟩ := X1112.virtualBack hx (y := (⟨"com/example/spare_calculus/sparecalculus/bisim/Partition", "mark", "(I)V"⟩ : MethodName)) (z := (⟨"com/example/spare_calculus/sparecalculus/bisim/Partition", "mark", "(I)V"⟩ : MethodName)) hown (mvT hZ (own_h hw 27 rfl)) (mvT hZ (own_h hw 28 rfl)) (notFace_of_selects (args := #[]) (mvT hZ (own_h hw 30 rfl))) (mvT hZ (own_h hw 30 rfl)) (mvT hZ (own_h hw 29 rfl)) (by decide) (backOf (W := 0) (rm3 l Z aZ hw [] b1110 w0_1 e1_1113 e2_1114 e3_1115 e4_1116 e5_1117 e6_1118 e7_1119 [(0:Int32), (1:Int32), (2:Int32), (3:Int32)] [(0:Int32), (1:Int32), (2:Int32), (3:Int32)] [(0:Int32), (0:Int32), (0:Int32), (0:Int32)] [(0:Int32), (0:Int32), (0:Int32), (0:Int32)] [(0:Int32), (0:Int32), (0:Int32), (0:Int32)] [(0:Int32), (0:Int32), (0:Int32), (0:Int32)] (1:Int32) (0:Int32) T1112.heap n0 Z1164 F1180 G1148 G1149 G1150 G1151 G1152 G1153 G1154 G1155 G1156 G1157 G1158 G1159 G1160 G1162 G1163 ne1165 ne1167 ne1169 ne1171 ne1175 ne1177 ne1127 ne1128 ne1129 ne1131 ne1132 ne1133 ne1134 ne1136 ne1137 ne1138 ne1140 ne1141 ne1143 ne1144 ne1147 ge_b1110 ge1166 ge1168 ge1176 ge1178 hf1182 hf1184 hf1186 hf1188 hf1190 hf1192 hf1194 hf1196) hZ (own_h hw 31 rfl) (own_h hw 3 rfl) (by decide) (by decide)) q1179a q1179c (g := (mkF m 59 #[iv p0, iv p1, iv p2, iv p3, iv p4, iv (4:Int32), iv w0_1, iv w0_2, iv w0_3, iv w0_4, rv b1110, .unset, .unset, .unset, .unset, .unset, .unset, .unset] [(.int w0_1), (.ref b1110)])) rfl (by rw [hml]; rfl) (Steps.refl _) (argsL := [(.int w0_1)]) (rest := []) (lenOf own_pd0 rfl) rfl (by show 2 * 0 + _ ≤ _; exact Nat.le_of_eq rfl) (hb hby at_59) (fun _ _ => ⟨rfl, rfl, (by decide : 8 + 0 ≤ _), (by decide : 37 + 0 ≤ _)⟩)
  dsimp only [Pt.U, Pt.locs, Pt.cells, Pt.slots] at X1179 l1179 y1179 z1179 st1179 hQ1179
  subst l1179 y1179 z1179
  obtain ⟨rfl, N1179q, K1179, G1197, G1198, G1199, G1200, G1201, G1202, G1203, G1204, G1205, G1206, G1207, G1208, G1209⟩ := hQ1179
  have N1179 := Fr.app N1112 N1179q
  have Z1210 : n0 ≤ T1179.heap.size := Nat.le_trans Z1164 K1179.1
  have G1212 : Fld Z T1179.heap b1110 "com/example/spare_calculus/sparecalculus/bisim/Partition" "touchedBlockCount" "I" (.int (own_v1211 w0_1)) := G1205
  have G1214 : own_Ints Z T1179.heap e1_1113 (own_v1213 w0_1) := G1206
  have G1216 : own_Ints Z T1179.heap e2_1114 (own_v1215 w0_1) := G1207
  have G1218 : own_Ints Z T1179.heap e6_1118 (own_v1217 w0_1) := G1208
  have G1220 : own_Ints Z T1179.heap e7_1119 (own_v1219 w0_1) := G1209
  refine own_pre (fun _ k => st1179.trans k) ?_
  refine own_pre (A := T1179.setTop (mkF m 66 #[iv p0, iv p1, iv p2, iv p3, iv p4, iv (4:Int32), iv w0_1, iv w0_2, iv w0_3, iv w0_4, rv b1110, .unset, .unset, .unset, .unset, .unset, .unset, .unset] [(.int w0_2), (.ref b1110)])) (fun t k => ?_) ?_
  · show Steps p.tables e below (T1179.setTop (mkF m 62 #[iv p0, iv p1, iv p2, iv p3, iv p4, iv (4:Int32), iv w0_1, iv w0_2, iv w0_3, iv w0_4, rv b1110, .unset, .unset, .unset, .unset, .unset, .unset, .unset] [])) _
    refine XS.aload X1179.here hx rfl (hb hby at_62) rfl rfl ?_
    show Steps p.tables e below (T1179.setTop (mkF m 64 #[iv p0, iv p1, iv p2, iv p3, iv p4, iv (4:Int32), iv w0_1, iv w0_2, iv w0_3, iv w0_4, rv b1110, .unset, .unset, .unset, .unset, .unset, .unset, .unset] [(.ref b1110)])) _
    refine XS.iload X1179.here hx rfl (hb hby at_64) rfl ?_
    exact k
  have F1222 := (F1180.keep K1179)
  have F1223 := (G1159.keep K1179 (ninS (Ne.symm ne1169) (ninS (Ne.symm ne1128) (ninS (Ne.symm ne1133) (ninS ne1140 (ninS ne1141 nin0))))))
  have F1224 := (G1160.keep K1179 (ninS (Ne.symm ne1171) (ninS (Ne.symm ne1129) (ninS (Ne.symm ne1134) (ninS ne1143 (ninS ne1144 nin0))))))
  have hf1226 : own_In w0_2 [(0:Int32), (0:Int32), (0:Int32), (0:Int32)].length := by exact own_fin1225 w0_2 (own_mem4 _ _ hw0_2)
  have hf1228 : own_In (own_at [(0:Int32), (0:Int32), (0:Int32), (0:Int32)] w0_2) (own_v1217 w0_1).length := by exact own_fin1227 w0_1 (own_mem4 _ _ hw0_1) w0_2 (own_mem4 _ _ hw0_2)
  have hf1230 : own_In w0_2 (own_v1215 w0_1).length := by exact own_fin1229 w0_1 (own_mem4 _ _ hw0_1) w0_2 (own_mem4 _ _ hw0_2)
  have hf1232 : ¬ ((own_at (own_v1215 w0_1) w0_2) < (own_at (own_v1217 w0_1) (own_at [(0:Int32), (0:Int32), (0:Int32), (0:Int32)] w0_2))) → own_In (own_at [(0:Int32), (0:Int32), (0:Int32), (0:Int32)] w0_2) [(0:Int32), (0:Int32), (0:Int32), (0:Int32)].length := by exact own_fin1231 w0_1 (own_mem4 _ _ hw0_1) w0_2 (own_mem4 _ _ hw0_2)
  have hf1234 : ¬ ((own_at (own_v1215 w0_1) w0_2) < (own_at (own_v1217 w0_1) (own_at [(0:Int32), (0:Int32), (0:Int32), (0:Int32)] w0_2))) → own_In (own_at (own_v1217 w0_1) (own_at [(0:Int32), (0:Int32), (0:Int32), (0:Int32)] w0_2)) (own_v1213 w0_1).length := by exact own_fin1233 w0_1 (own_mem4 _ _ hw0_1) w0_2 (own_mem4 _ _ hw0_2)
  have hf1236 : ¬ ((own_at (own_v1215 w0_1) w0_2) < (own_at (own_v1217 w0_1) (own_at [(0:Int32), (0:Int32), (0:Int32), (0:Int32)] w0_2))) → own_In (own_at (own_v1215 w0_1) w0_2) (own_v1213 w0_1).length := by exact own_fin1235 w0_1 (own_mem4 _ _ hw0_1) w0_2 (own_mem4 _ _ hw0_2)
  have hf1238 : ¬ ((own_at (own_v1215 w0_1) w0_2) < (own_at (own_v1217 w0_1) (own_at [(0:Int32), (0:Int32), (0:Int32), (0:Int32)] w0_2))) → own_In (own_at (own_v1213 w0_1) (own_at (own_v1217 w0_1) (own_at [(0:Int32), (0:Int32), (0:Int32), (0:Int32)] w0_2))) (own_v1215 w0_1).length := by exact own_fin1237 w0_1 (own_mem4 _ _ hw0_1) w0_2 (own_mem4 _ _ hw0_2)
  have hf1240 : ¬ ((own_at (own_v1215 w0_1) w0_2) < (own_at (own_v1217 w0_1) (own_at [(0:Int32), (0:Int32), (0:Int32), (0:Int32)] w0_2))) → (own_at (own_v1217 w0_1) (own_at [(0:Int32), (0:Int32), (0:Int32), (0:Int32)] w0_2)) = (own_at [(0:Int32), (0:Int32), (0:Int32), (0:Int32)] (own_at [(0:Int32), (0:Int32), (0:Int32), (0:Int32)] w0_2)) → own_In (own_v1211 w0_1) (own_v1219 w0_1).length := by exact own_fin1239 w0_1 (own_mem4 _ _ hw0_1) w0_2 (own_mem4 _ _ hw0_2)
  obtain ⟨cq1221, kq1221, q1221a, q1221b, q1221c⟩ := isOf hZ rfl F1222
  obtain ⟨_, _, ⟨T1221, L1221, k1221, n1221⟩, -, X1221, ⟨Lc1221, hQ1221, l1221, y1221, z1221⟩, st1221⟩ := X1179.virtualBack hx (y := (⟨"com/example/spare_calculus/sparecalculus/bisim/Partition", "mark", "(I)V"⟩ : MethodName)) (z := (⟨"com/example/spare_calculus/sparecalculus/bisim/Partition", "mark", "(I)V"⟩ : MethodName)) hown (mvT hZ (own_h hw 27 rfl)) (mvT hZ (own_h hw 28 rfl)) (notFace_of_selects (args := #[]) (mvT hZ (own_h hw 30 rfl))) (mvT hZ (own_h hw 30 rfl)) (mvT hZ (own_h hw 29 rfl)) (by decide) (backOf (W := 0) (rm3 l Z aZ hw [] b1110 w0_2 e1_1113 e2_1114 e3_1115 e4_1116 e5_1117 e6_1118 e7_1119 (own_v1213 w0_1) (own_v1215 w0_1) [(0:Int32), (0:Int32), (0:Int32), (0:Int32)] [(0:Int32), (0:Int32), (0:Int32), (0:Int32)] (own_v1217 w0_1) (own_v1219 w0_1) (1:Int32) (own_v1211 w0_1) T1179.heap n0 Z1210 F1222 G1197 G1198 G1199 G1200 G1201 G1202 G1203 G1204 G1212 G1214 G1216 F1223 F1224 G1218 G1220 ne1165 ne1167 ne1169 ne1171 ne1175 ne1177 ne1127 ne1128 ne1129 ne1131 ne1132 ne1133 ne1134 ne1136 ne1137 ne1138 ne1140 ne1141 ne1143 ne1144 ne1147 ge_b1110 ge1166 ge1168 ge1176 ge1178 hf1226 hf1228 hf1230 hf1232 hf1234 hf1236 hf1238 hf1240) hZ (own_h hw 31 rfl) (own_h hw 3 rfl) (by decide) (by decide)) q1221a q1221c (g := (mkF m 66 #[iv p0, iv p1, iv p2, iv p3, iv p4, iv (4:Int32), iv w0_1, iv w0_2, iv w0_3, iv w0_4, rv b1110, .unset, .unset, .unset, .unset, .unset, .unset, .unset] [(.int w0_2), (.ref b1110)])) rfl (by rw [hml]; rfl) (Steps.refl _) (argsL := [(.int w0_2)]) (rest := []) (lenOf own_pd0 rfl) rfl (by show 2 * 0 + _ ≤ _; exact Nat.le_of_eq rfl) (hb hby at_66) (fun _ _ => ⟨rfl, rfl, (by decide : 8 + 0 ≤ _), (by decide : 37 + 0 ≤ _)⟩)
  dsimp only [Pt.U, Pt.locs, Pt.cells, Pt.slots] at X1221 l1221 y1221 z1221 st1221 hQ1221
  subst l1221 y1221 z1221
  obtain ⟨rfl, N1221q, K1221, G1241, G1242, G1243, G1244, G1245, G1246, G1247, G1248, G1249, G1250, G1251, G1252, G1253⟩ := hQ1221
  have N1221 := Fr.app N1179 N1221q
  have Z1254 : n0 ≤ T1221.heap.size := Nat.le_trans Z1210 K1221.1
  have G1256 : Fld Z T1221.heap b1110 "com/example/spare_calculus/sparecalculus/bisim/Partition" "touchedBlockCount" "I" (.int (own_v1255 w0_2 w0_1)) := G1249
  have G1258 : own_Ints Z T1221.heap e1_1113 (own_v1257 w0_2 w0_1) := G1250
  have G1260 : own_Ints Z T1221.heap e2_1114 (own_v1259 w0_2 w0_1) := G1251
  have G1262 : own_Ints Z T1221.heap e6_1118 (own_v1261 w0_2 w0_1) := G1252
  have G1264 : own_Ints Z T1221.heap e7_1119 (own_v1263 w0_2 w0_1) := G1253
  refine own_pre (fun _ k => st1221.trans k) ?_
  refine own_pre (A := T1221.setTop (mkF m 72 #[iv p0, iv p1, iv p2, iv p3, iv p4, iv (4:Int32), iv w0_1, iv w0_2, iv w0_3, iv w0_4, rv b1110, .unset, .unset, .unset, .unset, .unset, .unset, .unset] [(.int (0:Int32)), (.ref b1110)])) (fun t k => ?_) ?_
  · show Steps p.tables e below (T1221.setTop (mkF m 69 #[iv p0, iv p1, iv p2, iv p3, iv p4, iv (4:Int32), iv w0_1, iv w0_2, iv w0_3, iv w0_4, rv b1110, .unset, .unset, .unset, .unset, .unset, .unset, .unset] [])) _
    refine XS.aload X1221.here hx rfl (hb hby at_69) rfl rfl ?_
    show Steps p.tables e below (T1221.setTop (mkF m 71 #[iv p0, iv p1, iv p2, iv p3, iv p4, iv (4:Int32), iv w0_1, iv w0_2, iv w0_3, iv w0_4, rv b1110, .unset, .unset, .unset, .unset, .unset, .unset, .unset] [(.ref b1110)])) _
    refine XS.iconst X1221.here hx rfl (hb hby at_71) ?_
    exact k
  have hf1267 : own_In (0:Int32) (own_v1261 w0_2 w0_1).length := by exact own_fin1266 w0_1 (own_mem4 _ _ hw0_1) w0_2 (own_mem4 _ _ hw0_2)
  have F1268 := (F1222.keep K1221)
  obtain ⟨cq1265, kq1265, q1265a, q1265b, q1265c⟩ := isOf hZ rfl F1268
  obtain ⟨_, _, ⟨T1265, L1265, k1265, n1265⟩, -, X1265, ⟨Lc1265, hQ1265, l1265, y1265, z1265⟩, st1265⟩ := X1221.virtualBack hx (y := (⟨"com/example/spare_calculus/sparecalculus/bisim/Partition", "markedEnd", "(I)I"⟩ : MethodName)) (z := (⟨"com/example/spare_calculus/sparecalculus/bisim/Partition", "markedEnd", "(I)I"⟩ : MethodName)) hown (mvT hZ (own_h hw 34 rfl)) (mvT hZ (own_h hw 35 rfl)) (notFace_of_selects (args := #[]) (mvT hZ (own_h hw 37 rfl))) (mvT hZ (own_h hw 37 rfl)) (mvT hZ (own_h hw 36 rfl)) (by decide) (backOf (W := 0) (rm4 l Z aZ hw [] b1110 (0:Int32) e6_1118 (own_v1261 w0_2 w0_1) T1221.heap n0 Z1254 G1246 G1262 hf1267) hZ (own_h hw 38 rfl) (own_h hw 3 rfl) (by decide) (by decide)) q1265a q1265c (g := (mkF m 72 #[iv p0, iv p1, iv p2, iv p3, iv p4, iv (4:Int32), iv w0_1, iv w0_2, iv w0_3, iv w0_4, rv b1110, .unset, .unset, .unset, .unset, .unset, .unset, .unset] [(.int (0:Int32)), (.ref b1110)])) rfl (by rw [hml]; rfl) (Steps.refl _) (argsL := [(.int (0:Int32))]) (rest := []) (lenOf own_pd1 rfl) rfl (by show 2 * 0 + _ ≤ _; exact Nat.le_of_eq rfl) (hb hby at_72) (fun _ _ => ⟨rfl, rfl, (by decide : 8 + 0 ≤ _), (by decide : 37 + 0 ≤ _)⟩)
  dsimp only [Pt.U, Pt.locs, Pt.cells, Pt.slots] at X1265 l1265 y1265 z1265 st1265 hQ1265
  subst l1265 y1265 z1265
  obtain ⟨rfl, N1265q, eh1265⟩ := hQ1265
  have N1265 := Fr.app N1221 N1265q
  refine own_pre (fun _ k => st1265.trans k) ?_
  refine own_pre (A := T1265.setTop (mkF m 79 #[iv p0, iv p1, iv p2, iv p3, iv p4, iv (4:Int32), iv w0_1, iv w0_2, iv w0_3, iv w0_4, rv b1110, iv (f4 (0:Int32) (own_v1261 w0_2 w0_1)), .unset, .unset, .unset, .unset, .unset, .unset] [(.ref b1110)])) (fun t k => ?_) ?_
  · show Steps p.tables e below (T1265.setTop (mkF m 75 #[iv p0, iv p1, iv p2, iv p3, iv p4, iv (4:Int32), iv w0_1, iv w0_2, iv w0_3, iv w0_4, rv b1110, .unset, .unset, .unset, .unset, .unset, .unset, .unset] [(.int (f4 (0:Int32) (own_v1261 w0_2 w0_1)))])) _
    refine XS.istore X1265.here hx rfl (hb hby at_75) rfl (l' := #[iv p0, iv p1, iv p2, iv p3, iv p4, iv (4:Int32), iv w0_1, iv w0_2, iv w0_3, iv w0_4, rv b1110, iv (f4 (0:Int32) (own_v1261 w0_2 w0_1)), .unset, .unset, .unset, .unset, .unset, .unset]) rfl ?_
    show Steps p.tables e below (T1265.setTop (mkF m 77 #[iv p0, iv p1, iv p2, iv p3, iv p4, iv (4:Int32), iv w0_1, iv w0_2, iv w0_3, iv w0_4, rv b1110, iv (f4 (0:Int32) (own_v1261 w0_2 w0_1)), .unset, .unset, .unset, .unset, .unset, .unset] [])) _
    refine XS.aload X1265.here hx rfl (hb hby at_77) rfl rfl ?_
    exact k
  obtain ⟨cq1269, kq1269, q1269a, q1269b, q1269c⟩ := isOf hZ eh1265 F1268
  obtain ⟨_, _, ⟨T1269, L1269, k1269, n1269⟩, -, X1269, ⟨Lc1269, hQ1269, l1269, y1269, z1269⟩, st1269⟩ := X1265.virtualBack hx (y := (⟨"com/example/spare_calculus/sparecalculus/bisim/Partition", "touchedCount", "()I"⟩ : MethodName)) (z := (⟨"com/example/spare_calculus/sparecalculus/bisim/Partition", "touchedCount", "()I"⟩ : MethodName)) hown (mvT hZ (own_h hw 39 rfl)) (mvT hZ (own_h hw 40 rfl)) (notFace_of_selects (args := #[]) (mvT hZ (own_h hw 42 rfl))) (mvT hZ (own_h hw 42 rfl)) (mvT hZ (own_h hw 41 rfl)) (by decide) (backOf (W := 0) (rm5 l Z aZ hw [] b1110 (own_v1255 w0_2 w0_1) T1221.heap n0 Z1254 G1256) hZ (own_h hw 43 rfl) (own_h hw 3 rfl) (by decide) (by decide)) q1269a q1269c (g := (mkF m 79 #[iv p0, iv p1, iv p2, iv p3, iv p4, iv (4:Int32), iv w0_1, iv w0_2, iv w0_3, iv w0_4, rv b1110, iv (f4 (0:Int32) (own_v1261 w0_2 w0_1)), .unset, .unset, .unset, .unset, .unset, .unset] [(.ref b1110)])) rfl (by rw [hml]; rfl) (Steps.refl _) (argsL := []) (rest := []) (lenOf own_pd2 rfl) rfl (by show 2 * 0 + _ ≤ _; exact Nat.le_of_eq rfl) (hb hby at_79) (fun _ _ => ⟨rfl, eh1265, (by decide : 8 + 0 ≤ _), (by decide : 37 + 0 ≤ _)⟩)
  dsimp only [Pt.U, Pt.locs, Pt.cells, Pt.slots] at X1269 l1269 y1269 z1269 st1269 hQ1269
  subst l1269 y1269 z1269
  obtain ⟨rfl, N1269q, eh1269⟩ := hQ1269
  have N1269 := Fr.app N1265 N1269q
  refine own_pre (fun _ k => st1269.trans k) ?_
  refine own_pre (A := T1269.setTop (mkF m 87 #[iv p0, iv p1, iv p2, iv p3, iv p4, iv (4:Int32), iv w0_1, iv w0_2, iv w0_3, iv w0_4, rv b1110, iv (f4 (0:Int32) (own_v1261 w0_2 w0_1)), iv (f5 (own_v1255 w0_2 w0_1)), .unset, .unset, .unset, .unset, .unset] [(.int (0:Int32)), (.ref b1110)])) (fun t k => ?_) ?_
  · show Steps p.tables e below (T1269.setTop (mkF m 82 #[iv p0, iv p1, iv p2, iv p3, iv p4, iv (4:Int32), iv w0_1, iv w0_2, iv w0_3, iv w0_4, rv b1110, iv (f4 (0:Int32) (own_v1261 w0_2 w0_1)), .unset, .unset, .unset, .unset, .unset, .unset] [(.int (f5 (own_v1255 w0_2 w0_1)))])) _
    refine XS.istore X1269.here hx rfl (hb hby at_82) rfl (l' := #[iv p0, iv p1, iv p2, iv p3, iv p4, iv (4:Int32), iv w0_1, iv w0_2, iv w0_3, iv w0_4, rv b1110, iv (f4 (0:Int32) (own_v1261 w0_2 w0_1)), iv (f5 (own_v1255 w0_2 w0_1)), .unset, .unset, .unset, .unset, .unset]) rfl ?_
    show Steps p.tables e below (T1269.setTop (mkF m 84 #[iv p0, iv p1, iv p2, iv p3, iv p4, iv (4:Int32), iv w0_1, iv w0_2, iv w0_3, iv w0_4, rv b1110, iv (f4 (0:Int32) (own_v1261 w0_2 w0_1)), iv (f5 (own_v1255 w0_2 w0_1)), .unset, .unset, .unset, .unset, .unset] [])) _
    refine XS.aload X1269.here hx rfl (hb hby at_84) rfl rfl ?_
    show Steps p.tables e below (T1269.setTop (mkF m 86 #[iv p0, iv p1, iv p2, iv p3, iv p4, iv (4:Int32), iv w0_1, iv w0_2, iv w0_3, iv w0_4, rv b1110, iv (f4 (0:Int32) (own_v1261 w0_2 w0_1)), iv (f5 (own_v1255 w0_2 w0_1)), .unset, .unset, .unset, .unset, .unset] [(.ref b1110)])) _
    refine XS.iconst X1269.here hx rfl (hb hby at_86) ?_
    exact k
  have hf1272 : own_In (0:Int32) (own_v1263 w0_2 w0_1).length := by exact own_fin1271 w0_1 (own_mem4 _ _ hw0_1) w0_2 (own_mem4 _ _ hw0_2)
  obtain ⟨cq1270, kq1270, q1270a, q1270b, q1270c⟩ := isOf hZ eh1269 F1268
  obtain ⟨_, _, ⟨T1270, L1270, k1270, n1270⟩, -, X1270, ⟨Lc1270, hQ1270, l1270, y1270, z1270⟩, st1270⟩ := X1269.virtualBack hx (y := (⟨"com/example/spare_calculus/sparecalculus/bisim/Partition", "touched", "(I)I"⟩ : MethodName)) (z := (⟨"com/example/spare_calculus/sparecalculus/bisim/Partition", "touched", "(I)I"⟩ : MethodName)) hown (mvT hZ (own_h hw 44 rfl)) (mvT hZ (own_h hw 45 rfl)) (notFace_of_selects (args := #[]) (mvT hZ (own_h hw 47 rfl))) (mvT hZ (own_h hw 47 rfl)) (mvT hZ (own_h hw 46 rfl)) (by decide) (backOf (W := 0) (rm6 l Z aZ hw [] b1110 (0:Int32) e7_1119 (own_v1263 w0_2 w0_1) T1221.heap n0 Z1254 G1247 G1264 hf1272) hZ (own_h hw 48 rfl) (own_h hw 3 rfl) (by decide) (by decide)) q1270a q1270c (g := (mkF m 87 #[iv p0, iv p1, iv p2, iv p3, iv p4, iv (4:Int32), iv w0_1, iv w0_2, iv w0_3, iv w0_4, rv b1110, iv (f4 (0:Int32) (own_v1261 w0_2 w0_1)), iv (f5 (own_v1255 w0_2 w0_1)), .unset, .unset, .unset, .unset, .unset] [(.int (0:Int32)), (.ref b1110)])) rfl (by rw [hml]; rfl) (Steps.refl _) (argsL := [(.int (0:Int32))]) (rest := []) (lenOf own_pd1 rfl) rfl (by show 2 * 0 + _ ≤ _; exact Nat.le_of_eq rfl) (hb hby at_87) (fun _ _ => ⟨rfl, eh1269, (by decide : 8 + 0 ≤ _), (by decide : 37 + 0 ≤ _)⟩)
  dsimp only [Pt.U, Pt.locs, Pt.cells, Pt.slots] at X1270 l1270 y1270 z1270 st1270 hQ1270
  subst l1270 y1270 z1270
  obtain ⟨rfl, N1270q, eh1270⟩ := hQ1270
  have N1270 := Fr.app N1269 N1270q
  refine own_pre (fun _ k => st1270.trans k) ?_
  refine own_pre (A := T1270.setTop (mkF m 96 #[iv p0, iv p1, iv p2, iv p3, iv p4, iv (4:Int32), iv w0_1, iv w0_2, iv w0_3, iv w0_4, rv b1110, iv (f4 (0:Int32) (own_v1261 w0_2 w0_1)), iv (f5 (own_v1255 w0_2 w0_1)), iv (f6 (0:Int32) (own_v1263 w0_2 w0_1)), .unset, .unset, .unset, .unset] [(.int w0_4), (.ref b1110)])) (fun t k => ?_) ?_
  · show Steps p.tables e below (T1270.setTop (mkF m 90 #[iv p0, iv p1, iv p2, iv p3, iv p4, iv (4:Int32), iv w0_1, iv w0_2, iv w0_3, iv w0_4, rv b1110, iv (f4 (0:Int32) (own_v1261 w0_2 w0_1)), iv (f5 (own_v1255 w0_2 w0_1)), .unset, .unset, .unset, .unset, .unset] [(.int (f6 (0:Int32) (own_v1263 w0_2 w0_1)))])) _
    refine XS.istore X1270.here hx rfl (hb hby at_90) rfl (l' := #[iv p0, iv p1, iv p2, iv p3, iv p4, iv (4:Int32), iv w0_1, iv w0_2, iv w0_3, iv w0_4, rv b1110, iv (f4 (0:Int32) (own_v1261 w0_2 w0_1)), iv (f5 (own_v1255 w0_2 w0_1)), iv (f6 (0:Int32) (own_v1263 w0_2 w0_1)), .unset, .unset, .unset, .unset]) rfl ?_
    show Steps p.tables e below (T1270.setTop (mkF m 92 #[iv p0, iv p1, iv p2, iv p3, iv p4, iv (4:Int32), iv w0_1, iv w0_2, iv w0_3, iv w0_4, rv b1110, iv (f4 (0:Int32) (own_v1261 w0_2 w0_1)), iv (f5 (own_v1255 w0_2 w0_1)), iv (f6 (0:Int32) (own_v1263 w0_2 w0_1)), .unset, .unset, .unset, .unset] [])) _
    refine XS.aload X1270.here hx rfl (hb hby at_92) rfl rfl ?_
    show Steps p.tables e below (T1270.setTop (mkF m 94 #[iv p0, iv p1, iv p2, iv p3, iv p4, iv (4:Int32), iv w0_1, iv w0_2, iv w0_3, iv w0_4, rv b1110, iv (f4 (0:Int32) (own_v1261 w0_2 w0_1)), iv (f5 (own_v1255 w0_2 w0_1)), iv (f6 (0:Int32) (own_v1263 w0_2 w0_1)), .unset, .unset, .unset, .unset] [(.ref b1110)])) _
    refine XS.iload X1270.here hx rfl (hb hby at_94) rfl ?_
    exact k
  have hf1275 : own_In w0_4 (own_v1257 w0_2 w0_1).length := by exact own_fin1274 w0_1 (own_mem4 _ _ hw0_1) w0_2 (own_mem4 _ _ hw0_2) w0_4 (own_mem4 _ _ hw0_4)
  obtain ⟨cq1273, kq1273, q1273a, q1273b, q1273c⟩ := isOf hZ eh1270 F1268
  obtain ⟨_, _, ⟨T1273, L1273, k1273, n1273⟩, -, X1273, ⟨Lc1273, hQ1273, l1273, y1273, z1273⟩, st1273⟩ := X1270.virtualBack hx (y := (⟨"com/example/spare_calculus/sparecalculus/bisim/Partition", "state", "(I)I"⟩ : MethodName)) (z := (⟨"com/example/spare_calculus/sparecalculus/bisim/Partition", "state", "(I)I"⟩ : MethodName)) hown (mvT hZ (own_h hw 49 rfl)) (mvT hZ (own_h hw 50 rfl)) (notFace_of_selects (args := #[]) (mvT hZ (own_h hw 52 rfl))) (mvT hZ (own_h hw 52 rfl)) (mvT hZ (own_h hw 51 rfl)) (by decide) (backOf (W := 0) (rm7 l Z aZ hw [] b1110 w0_4 e1_1113 (own_v1257 w0_2 w0_1) T1221.heap n0 Z1254 G1241 G1258 hf1275) hZ (own_h hw 53 rfl) (own_h hw 3 rfl) (by decide) (by decide)) q1273a q1273c (g := (mkF m 96 #[iv p0, iv p1, iv p2, iv p3, iv p4, iv (4:Int32), iv w0_1, iv w0_2, iv w0_3, iv w0_4, rv b1110, iv (f4 (0:Int32) (own_v1261 w0_2 w0_1)), iv (f5 (own_v1255 w0_2 w0_1)), iv (f6 (0:Int32) (own_v1263 w0_2 w0_1)), .unset, .unset, .unset, .unset] [(.int w0_4), (.ref b1110)])) rfl (by rw [hml]; rfl) (Steps.refl _) (argsL := [(.int w0_4)]) (rest := []) (lenOf own_pd1 rfl) rfl (by show 2 * 0 + _ ≤ _; exact Nat.le_of_eq rfl) (hb hby at_96) (fun _ _ => ⟨rfl, eh1270, (by decide : 8 + 0 ≤ _), (by decide : 37 + 0 ≤ _)⟩)
  dsimp only [Pt.U, Pt.locs, Pt.cells, Pt.slots] at X1273 l1273 y1273 z1273 st1273 hQ1273
  subst l1273 y1273 z1273
  obtain ⟨rfl, N1273q, eh1273⟩ := hQ1273
  have N1273 := Fr.app N1270 N1273q
  refine own_pre (fun _ k => st1273.trans k) ?_
  refine own_pre (A := T1273.setTop (mkF m 105 #[iv p0, iv p1, iv p2, iv p3, iv p4, iv (4:Int32), iv w0_1, iv w0_2, iv w0_3, iv w0_4, rv b1110, iv (f4 (0:Int32) (own_v1261 w0_2 w0_1)), iv (f5 (own_v1255 w0_2 w0_1)), iv (f6 (0:Int32) (own_v1263 w0_2 w0_1)), iv (f7 w0_4 (own_v1257 w0_2 w0_1)), .unset, .unset, .unset] [(.int (f7 w0_4 (own_v1257 w0_2 w0_1))), (.ref b1110)])) (fun t k => ?_) ?_
  · show Steps p.tables e below (T1273.setTop (mkF m 99 #[iv p0, iv p1, iv p2, iv p3, iv p4, iv (4:Int32), iv w0_1, iv w0_2, iv w0_3, iv w0_4, rv b1110, iv (f4 (0:Int32) (own_v1261 w0_2 w0_1)), iv (f5 (own_v1255 w0_2 w0_1)), iv (f6 (0:Int32) (own_v1263 w0_2 w0_1)), .unset, .unset, .unset, .unset] [(.int (f7 w0_4 (own_v1257 w0_2 w0_1)))])) _
    refine XS.istore X1273.here hx rfl (hb hby at_99) rfl (l' := #[iv p0, iv p1, iv p2, iv p3, iv p4, iv (4:Int32), iv w0_1, iv w0_2, iv w0_3, iv w0_4, rv b1110, iv (f4 (0:Int32) (own_v1261 w0_2 w0_1)), iv (f5 (own_v1255 w0_2 w0_1)), iv (f6 (0:Int32) (own_v1263 w0_2 w0_1)), iv (f7 w0_4 (own_v1257 w0_2 w0_1)), .unset, .unset, .unset]) rfl ?_
    show Steps p.tables e below (T1273.setTop (mkF m 101 #[iv p0, iv p1, iv p2, iv p3, iv p4, iv (4:Int32), iv w0_1, iv w0_2, iv w0_3, iv w0_4, rv b1110, iv (f4 (0:Int32) (own_v1261 w0_2 w0_1)), iv (f5 (own_v1255 w0_2 w0_1)), iv (f6 (0:Int32) (own_v1263 w0_2 w0_1)), iv (f7 w0_4 (own_v1257 w0_2 w0_1)), .unset, .unset, .unset] [])) _
    refine XS.aload X1273.here hx rfl (hb hby at_101) rfl rfl ?_
    show Steps p.tables e below (T1273.setTop (mkF m 103 #[iv p0, iv p1, iv p2, iv p3, iv p4, iv (4:Int32), iv w0_1, iv w0_2, iv w0_3, iv w0_4, rv b1110, iv (f4 (0:Int32) (own_v1261 w0_2 w0_1)), iv (f5 (own_v1255 w0_2 w0_1)), iv (f6 (0:Int32) (own_v1263 w0_2 w0_1)), iv (f7 w0_4 (own_v1257 w0_2 w0_1)), .unset, .unset, .unset] [(.ref b1110)])) _
    refine XS.iload X1273.here hx rfl (hb hby at_103) rfl ?_
    exact k
  have F1277 := (F1223.keep K1221 (ninS (Ne.symm ne1169) (ninS (Ne.symm ne1128) (ninS (Ne.symm ne1133) (ninS ne1140 (ninS ne1141 nin0))))))
  have hf1279 : (own_In (f7 w0_4 (own_v1257 w0_2 w0_1)) (own_v1259 w0_2 w0_1).length) ∧ (own_In (f7 w0_4 (own_v1257 w0_2 w0_1)) [(0:Int32), (0:Int32), (0:Int32), (0:Int32)].length) ∧ (own_In (own_at [(0:Int32), (0:Int32), (0:Int32), (0:Int32)] (f7 w0_4 (own_v1257 w0_2 w0_1))) (own_v1261 w0_2 w0_1).length) := by exact own_fin1278 w0_1 (own_mem4 _ _ hw0_1) w0_2 (own_mem4 _ _ hw0_2) w0_4 (own_mem4 _ _ hw0_4)
  obtain ⟨cq1276, kq1276, q1276a, q1276b, q1276c⟩ := isOf hZ eh1273 F1268
  obtain ⟨_, _, ⟨T1276, L1276, k1276, n1276⟩, -, X1276, ⟨Lc1276, hQ1276, l1276, y1276, z1276⟩, st1276⟩ := X1273.virtualBack hx (y := (⟨"com/example/spare_calculus/sparecalculus/bisim/Partition", "marked", "(I)Z"⟩ : MethodName)) (z := (⟨"com/example/spare_calculus/sparecalculus/bisim/Partition", "marked", "(I)Z"⟩ : MethodName)) hown (mvT hZ (own_h hw 54 rfl)) (mvT hZ (own_h hw 55 rfl)) (notFace_of_selects (args := #[]) (mvT hZ (own_h hw 57 rfl))) (mvT hZ (own_h hw 57 rfl)) (mvT hZ (own_h hw 56 rfl)) (by decide) (backOf (W := 0) (rm8 l Z aZ hw [] b1110 (f7 w0_4 (own_v1257 w0_2 w0_1)) e2_1114 e3_1115 e6_1118 (own_v1259 w0_2 w0_1) [(0:Int32), (0:Int32), (0:Int32), (0:Int32)] (own_v1261 w0_2 w0_1) T1221.heap n0 Z1254 G1242 G1243 G1246 G1260 F1277 G1262 hf1279.1 hf1279.2.1 hf1279.2.2) hZ (own_h hw 58 rfl) (own_h hw 3 rfl) (by decide) (by decide)) q1276a q1276c (g := (mkF m 105 #[iv p0, iv p1, iv p2, iv p3, iv p4, iv (4:Int32), iv w0_1, iv w0_2, iv w0_3, iv w0_4, rv b1110, iv (f4 (0:Int32) (own_v1261 w0_2 w0_1)), iv (f5 (own_v1255 w0_2 w0_1)), iv (f6 (0:Int32) (own_v1263 w0_2 w0_1)), iv (f7 w0_4 (own_v1257 w0_2 w0_1)), .unset, .unset, .unset] [(.int (f7 w0_4 (own_v1257 w0_2 w0_1))), (.ref b1110)])) rfl (by rw [hml]; rfl) (Steps.refl _) (argsL := [(.int (f7 w0_4 (own_v1257 w0_2 w0_1)))]) (rest := []) (lenOf own_pd3 rfl) rfl (by show 2 * 0 + _ ≤ _; exact Nat.le_of_eq rfl) (hb hby at_105) (fun _ _ => ⟨rfl, eh1273, (by decide : 8 + 0 ≤ _), (by decide : 37 + 0 ≤ _)⟩)
  dsimp only [Pt.U, Pt.locs, Pt.cells, Pt.slots] at X1276 l1276 y1276 z1276 st1276 hQ1276
  subst l1276 y1276 z1276
  obtain ⟨rfl, N1276q, eh1276⟩ := hQ1276
  have N1276 := Fr.app N1273 N1276q
  refine own_pre (fun _ k => st1276.trans k) ?_
  refine own_pre (A := T1276.setTop (mkF m 114 #[iv p0, iv p1, iv p2, iv p3, iv p4, iv (4:Int32), iv w0_1, iv w0_2, iv w0_3, iv w0_4, rv b1110, iv (f4 (0:Int32) (own_v1261 w0_2 w0_1)), iv (f5 (own_v1255 w0_2 w0_1)), iv (f6 (0:Int32) (own_v1263 w0_2 w0_1)), iv (f7 w0_4 (own_v1257 w0_2 w0_1)), iv (own_v1280 w0_4 w0_2 w0_1), .unset, .unset] [(.int w0_3), (.ref b1110)])) (fun t k => ?_) ?_
  · show Steps p.tables e below (T1276.setTop (mkF m 108 #[iv p0, iv p1, iv p2, iv p3, iv p4, iv (4:Int32), iv w0_1, iv w0_2, iv w0_3, iv w0_4, rv b1110, iv (f4 (0:Int32) (own_v1261 w0_2 w0_1)), iv (f5 (own_v1255 w0_2 w0_1)), iv (f6 (0:Int32) (own_v1263 w0_2 w0_1)), iv (f7 w0_4 (own_v1257 w0_2 w0_1)), .unset, .unset, .unset] [(.int (own_v1280 w0_4 w0_2 w0_1))])) _
    refine XS.istore X1276.here hx rfl (hb hby at_108) rfl (l' := #[iv p0, iv p1, iv p2, iv p3, iv p4, iv (4:Int32), iv w0_1, iv w0_2, iv w0_3, iv w0_4, rv b1110, iv (f4 (0:Int32) (own_v1261 w0_2 w0_1)), iv (f5 (own_v1255 w0_2 w0_1)), iv (f6 (0:Int32) (own_v1263 w0_2 w0_1)), iv (f7 w0_4 (own_v1257 w0_2 w0_1)), iv (own_v1280 w0_4 w0_2 w0_1), .unset, .unset]) rfl ?_
    show Steps p.tables e below (T1276.setTop (mkF m 110 #[iv p0, iv p1, iv p2, iv p3, iv p4, iv (4:Int32), iv w0_1, iv w0_2, iv w0_3, iv w0_4, rv b1110, iv (f4 (0:Int32) (own_v1261 w0_2 w0_1)), iv (f5 (own_v1255 w0_2 w0_1)), iv (f6 (0:Int32) (own_v1263 w0_2 w0_1)), iv (f7 w0_4 (own_v1257 w0_2 w0_1)), iv (own_v1280 w0_4 w0_2 w0_1), .unset, .unset] [])) _
    refine XS.aload X1276.here hx rfl (hb hby at_110) rfl rfl ?_
    show Steps p.tables e below (T1276.setTop (mkF m 112 #[iv p0, iv p1, iv p2, iv p3, iv p4, iv (4:Int32), iv w0_1, iv w0_2, iv w0_3, iv w0_4, rv b1110, iv (f4 (0:Int32) (own_v1261 w0_2 w0_1)), iv (f5 (own_v1255 w0_2 w0_1)), iv (f6 (0:Int32) (own_v1263 w0_2 w0_1)), iv (f7 w0_4 (own_v1257 w0_2 w0_1)), iv (own_v1280 w0_4 w0_2 w0_1), .unset, .unset] [(.ref b1110)])) _
    refine XS.iload X1276.here hx rfl (hb hby at_112) rfl ?_
    exact k
  have hf1283 : (own_In w0_3 (own_v1259 w0_2 w0_1).length) ∧ (own_In w0_3 [(0:Int32), (0:Int32), (0:Int32), (0:Int32)].length) ∧ (own_In (own_at [(0:Int32), (0:Int32), (0:Int32), (0:Int32)] w0_3) (own_v1261 w0_2 w0_1).length) := by exact own_fin1282 w0_1 (own_mem4 _ _ hw0_1) w0_2 (own_mem4 _ _ hw0_2) w0_3 (own_mem4 _ _ hw0_3)
  obtain ⟨cq1281, kq1281, q1281a, q1281b, q1281c⟩ := isOf hZ eh1276 F1268
  obtain ⟨_, _, ⟨T1281, L1281, k1281, n1281⟩, -, X1281, ⟨Lc1281, hQ1281, l1281, y1281, z1281⟩, st1281⟩ := X1276.virtualBack hx (y := (⟨"com/example/spare_calculus/sparecalculus/bisim/Partition", "marked", "(I)Z"⟩ : MethodName)) (z := (⟨"com/example/spare_calculus/sparecalculus/bisim/Partition", "marked", "(I)Z"⟩ : MethodName)) hown (mvT hZ (own_h hw 54 rfl)) (mvT hZ (own_h hw 55 rfl)) (notFace_of_selects (args := #[]) (mvT hZ (own_h hw 57 rfl))) (mvT hZ (own_h hw 57 rfl)) (mvT hZ (own_h hw 56 rfl)) (by decide) (backOf (W := 0) (rm8 l Z aZ hw [] b1110 w0_3 e2_1114 e3_1115 e6_1118 (own_v1259 w0_2 w0_1) [(0:Int32), (0:Int32), (0:Int32), (0:Int32)] (own_v1261 w0_2 w0_1) T1221.heap n0 Z1254 G1242 G1243 G1246 G1260 F1277 G1262 hf1283.1 hf1283.2.1 hf1283.2.2) hZ (own_h hw 58 rfl) (own_h hw 3 rfl) (by decide) (by decide)) q1281a q1281c (g := (mkF m 114 #[iv p0, iv p1, iv p2, iv p3, iv p4, iv (4:Int32), iv w0_1, iv w0_2, iv w0_3, iv w0_4, rv b1110, iv (f4 (0:Int32) (own_v1261 w0_2 w0_1)), iv (f5 (own_v1255 w0_2 w0_1)), iv (f6 (0:Int32) (own_v1263 w0_2 w0_1)), iv (f7 w0_4 (own_v1257 w0_2 w0_1)), iv (own_v1280 w0_4 w0_2 w0_1), .unset, .unset] [(.int w0_3), (.ref b1110)])) rfl (by rw [hml]; rfl) (Steps.refl _) (argsL := [(.int w0_3)]) (rest := []) (lenOf own_pd3 rfl) rfl (by show 2 * 0 + _ ≤ _; exact Nat.le_of_eq rfl) (hb hby at_114) (fun _ _ => ⟨rfl, eh1276, (by decide : 8 + 0 ≤ _), (by decide : 37 + 0 ≤ _)⟩)
  dsimp only [Pt.U, Pt.locs, Pt.cells, Pt.slots] at X1281 l1281 y1281 z1281 st1281 hQ1281
  subst l1281 y1281 z1281
  obtain ⟨rfl, N1281q, eh1281⟩ := hQ1281
  have N1281 := Fr.app N1276 N1281q
  refine own_pre (fun _ k => st1281.trans k) ?_
  refine own_pre (A := T1281.setTop (mkF m 123 #[iv p0, iv p1, iv p2, iv p3, iv p4, iv (4:Int32), iv w0_1, iv w0_2, iv w0_3, iv w0_4, rv b1110, iv (f4 (0:Int32) (own_v1261 w0_2 w0_1)), iv (f5 (own_v1255 w0_2 w0_1)), iv (f6 (0:Int32) (own_v1263 w0_2 w0_1)), iv (f7 w0_4 (own_v1257 w0_2 w0_1)), iv (own_v1280 w0_4 w0_2 w0_1), iv (own_v1284 w0_3 w0_2 w0_1), .unset] [(.int w0_2), (.int w0_1)])) (fun t k => ?_) ?_
  · show Steps p.tables e below (T1281.setTop (mkF m 117 #[iv p0, iv p1, iv p2, iv p3, iv p4, iv (4:Int32), iv w0_1, iv w0_2, iv w0_3, iv w0_4, rv b1110, iv (f4 (0:Int32) (own_v1261 w0_2 w0_1)), iv (f5 (own_v1255 w0_2 w0_1)), iv (f6 (0:Int32) (own_v1263 w0_2 w0_1)), iv (f7 w0_4 (own_v1257 w0_2 w0_1)), iv (own_v1280 w0_4 w0_2 w0_1), .unset, .unset] [(.int (own_v1284 w0_3 w0_2 w0_1))])) _
    refine XS.istore X1281.here hx rfl (hb hby at_117) rfl (l' := #[iv p0, iv p1, iv p2, iv p3, iv p4, iv (4:Int32), iv w0_1, iv w0_2, iv w0_3, iv w0_4, rv b1110, iv (f4 (0:Int32) (own_v1261 w0_2 w0_1)), iv (f5 (own_v1255 w0_2 w0_1)), iv (f6 (0:Int32) (own_v1263 w0_2 w0_1)), iv (f7 w0_4 (own_v1257 w0_2 w0_1)), iv (own_v1280 w0_4 w0_2 w0_1), iv (own_v1284 w0_3 w0_2 w0_1), .unset]) rfl ?_
    show Steps p.tables e below (T1281.setTop (mkF m 119 #[iv p0, iv p1, iv p2, iv p3, iv p4, iv (4:Int32), iv w0_1, iv w0_2, iv w0_3, iv w0_4, rv b1110, iv (f4 (0:Int32) (own_v1261 w0_2 w0_1)), iv (f5 (own_v1255 w0_2 w0_1)), iv (f6 (0:Int32) (own_v1263 w0_2 w0_1)), iv (f7 w0_4 (own_v1257 w0_2 w0_1)), iv (own_v1280 w0_4 w0_2 w0_1), iv (own_v1284 w0_3 w0_2 w0_1), .unset] [])) _
    refine XS.iload X1281.here hx rfl (hb hby at_119) rfl ?_
    show Steps p.tables e below (T1281.setTop (mkF m 121 #[iv p0, iv p1, iv p2, iv p3, iv p4, iv (4:Int32), iv w0_1, iv w0_2, iv w0_3, iv w0_4, rv b1110, iv (f4 (0:Int32) (own_v1261 w0_2 w0_1)), iv (f5 (own_v1255 w0_2 w0_1)), iv (f6 (0:Int32) (own_v1263 w0_2 w0_1)), iv (f7 w0_4 (own_v1257 w0_2 w0_1)), iv (own_v1280 w0_4 w0_2 w0_1), iv (own_v1284 w0_3 w0_2 w0_1), .unset] [(.int w0_1)])) _
    refine XS.iload X1281.here hx rfl (hb hby at_121) rfl ?_
    exact k
  obtain ⟨w0_5, hw0_5⟩ : ∃ z : Int32, z = (if w0_1 = w0_2 then (1:Int32) else (2:Int32)) := ⟨_, rfl⟩
  refine own_pre (A := T1281.setTop (mkF m 131 #[iv p0, iv p1, iv p2, iv p3, iv p4, iv (4:Int32), iv w0_1, iv w0_2, iv w0_3, iv w0_4, rv b1110, iv (f4 (0:Int32) (own_v1261 w0_2 w0_1)), iv (f5 (own_v1255 w0_2 w0_1)), iv (f6 (0:Int32) (own_v1263 w0_2 w0_1)), iv (f7 w0_4 (own_v1257 w0_2 w0_1)), iv (own_v1280 w0_4 w0_2 w0_1), iv (own_v1284 w0_3 w0_2 w0_1), .unset] [(.int w0_5)])) (fun t k => ?_) ?_
  · show Steps p.tables e below (T1281.setTop (mkF m 123 #[iv p0, iv p1, iv p2, iv p3, iv p4, iv (4:Int32), iv w0_1, iv w0_2, iv w0_3, iv w0_4, rv b1110, iv (f4 (0:Int32) (own_v1261 w0_2 w0_1)), iv (f5 (own_v1255 w0_2 w0_1)), iv (f6 (0:Int32) (own_v1263 w0_2 w0_1)), iv (f7 w0_4 (own_v1257 w0_2 w0_1)), iv (own_v1280 w0_4 w0_2 w0_1), iv (own_v1284 w0_3 w0_2 w0_1), .unset] [(.int w0_2), (.int w0_1)])) _
    by_cases hm123_1 : w0_1 = w0_2
    · refine XS.icmpNo X1281.here hx rfl (hb hby at_123) rfl (XT.ii_ne_f hm123_1) ?_
      show Steps p.tables e below (T1281.setTop (mkF m 126 #[iv p0, iv p1, iv p2, iv p3, iv p4, iv (4:Int32), iv w0_1, iv w0_2, iv w0_3, iv w0_4, rv b1110, iv (f4 (0:Int32) (own_v1261 w0_2 w0_1)), iv (f5 (own_v1255 w0_2 w0_1)), iv (f6 (0:Int32) (own_v1263 w0_2 w0_1)), iv (f7 w0_4 (own_v1257 w0_2 w0_1)), iv (own_v1280 w0_4 w0_2 w0_1), iv (own_v1284 w0_3 w0_2 w0_1), .unset] [])) _
      refine XS.iconst X1281.here hx rfl (hb hby at_126) ?_
      show Steps p.tables e below (T1281.setTop (mkF m 127 #[iv p0, iv p1, iv p2, iv p3, iv p4, iv (4:Int32), iv w0_1, iv w0_2, iv w0_3, iv w0_4, rv b1110, iv (f4 (0:Int32) (own_v1261 w0_2 w0_1)), iv (f5 (own_v1255 w0_2 w0_1)), iv (f6 (0:Int32) (own_v1263 w0_2 w0_1)), iv (f7 w0_4 (own_v1257 w0_2 w0_1)), iv (own_v1280 w0_4 w0_2 w0_1), iv (own_v1284 w0_3 w0_2 w0_1), .unset] [(.int (1:Int32))])) _
      refine XS.goto X1281.here hx rfl (pc0 := 127) (pc' := 131) rfl (hb hby at_127) (by decide) (by decide) ?_
      rw [hw0_5.trans (if_pos hm123_1)] at k
      exact k
    · refine XS.icmpYes X1281.here hx rfl (pc0 := 123) (pc' := 130) rfl (hb hby at_123) rfl (XT.ii_ne_t hm123_1) (by decide) (by decide) ?_
      show Steps p.tables e below (T1281.setTop (mkF m 130 #[iv p0, iv p1, iv p2, iv p3, iv p4, iv (4:Int32), iv w0_1, iv w0_2, iv w0_3, iv w0_4, rv b1110, iv (f4 (0:Int32) (own_v1261 w0_2 w0_1)), iv (f5 (own_v1255 w0_2 w0_1)), iv (f6 (0:Int32) (own_v1263 w0_2 w0_1)), iv (f7 w0_4 (own_v1257 w0_2 w0_1)), iv (own_v1280 w0_4 w0_2 w0_1), iv (own_v1284 w0_3 w0_2 w0_1), .unset] [])) _
      refine XS.iconst X1281.here hx rfl (hb hby at_130) ?_
      rw [hw0_5.trans (if_neg hm123_1)] at k
      exact k
  refine own_pre (A := T1281.setTop (mkF m 137 #[iv p0, iv p1, iv p2, iv p3, iv p4, iv (4:Int32), iv w0_1, iv w0_2, iv w0_3, iv w0_4, rv b1110, iv (f4 (0:Int32) (own_v1261 w0_2 w0_1)), iv (f5 (own_v1255 w0_2 w0_1)), iv (f6 (0:Int32) (own_v1263 w0_2 w0_1)), iv (f7 w0_4 (own_v1257 w0_2 w0_1)), iv (own_v1280 w0_4 w0_2 w0_1), iv (own_v1284 w0_3 w0_2 w0_1), iv w0_5] [(.int w0_5), (.int (f4 (0:Int32) (own_v1261 w0_2 w0_1)))])) (fun t k => ?_) ?_
  · show Steps p.tables e below (T1281.setTop (mkF m 131 #[iv p0, iv p1, iv p2, iv p3, iv p4, iv (4:Int32), iv w0_1, iv w0_2, iv w0_3, iv w0_4, rv b1110, iv (f4 (0:Int32) (own_v1261 w0_2 w0_1)), iv (f5 (own_v1255 w0_2 w0_1)), iv (f6 (0:Int32) (own_v1263 w0_2 w0_1)), iv (f7 w0_4 (own_v1257 w0_2 w0_1)), iv (own_v1280 w0_4 w0_2 w0_1), iv (own_v1284 w0_3 w0_2 w0_1), .unset] [(.int w0_5)])) _
    refine XS.istore X1281.here hx rfl (hb hby at_131) rfl (l' := #[iv p0, iv p1, iv p2, iv p3, iv p4, iv (4:Int32), iv w0_1, iv w0_2, iv w0_3, iv w0_4, rv b1110, iv (f4 (0:Int32) (own_v1261 w0_2 w0_1)), iv (f5 (own_v1255 w0_2 w0_1)), iv (f6 (0:Int32) (own_v1263 w0_2 w0_1)), iv (f7 w0_4 (own_v1257 w0_2 w0_1)), iv (own_v1280 w0_4 w0_2 w0_1), iv (own_v1284 w0_3 w0_2 w0_1), iv w0_5]) rfl ?_
    show Steps p.tables e below (T1281.setTop (mkF m 133 #[iv p0, iv p1, iv p2, iv p3, iv p4, iv (4:Int32), iv w0_1, iv w0_2, iv w0_3, iv w0_4, rv b1110, iv (f4 (0:Int32) (own_v1261 w0_2 w0_1)), iv (f5 (own_v1255 w0_2 w0_1)), iv (f6 (0:Int32) (own_v1263 w0_2 w0_1)), iv (f7 w0_4 (own_v1257 w0_2 w0_1)), iv (own_v1280 w0_4 w0_2 w0_1), iv (own_v1284 w0_3 w0_2 w0_1), iv w0_5] [])) _
    refine XS.iload X1281.here hx rfl (hb hby at_133) rfl ?_
    show Steps p.tables e below (T1281.setTop (mkF m 135 #[iv p0, iv p1, iv p2, iv p3, iv p4, iv (4:Int32), iv w0_1, iv w0_2, iv w0_3, iv w0_4, rv b1110, iv (f4 (0:Int32) (own_v1261 w0_2 w0_1)), iv (f5 (own_v1255 w0_2 w0_1)), iv (f6 (0:Int32) (own_v1263 w0_2 w0_1)), iv (f7 w0_4 (own_v1257 w0_2 w0_1)), iv (own_v1280 w0_4 w0_2 w0_1), iv (own_v1284 w0_3 w0_2 w0_1), iv w0_5] [(.int (f4 (0:Int32) (own_v1261 w0_2 w0_1)))])) _
    refine XS.iload X1281.here hx rfl (hb hby at_135) rfl ?_
    exact k
  by_cases hs137_2 : (f4 (0:Int32) (own_v1261 w0_2 w0_1)) = w0_5
  · refine own_pre (A := T1281.setTop (mkF m 145 #[iv p0, iv p1, iv p2, iv p3, iv p4, iv (4:Int32), iv w0_1, iv w0_2, iv w0_3, iv w0_4, rv b1110, iv (f4 (0:Int32) (own_v1261 w0_2 w0_1)), iv (f5 (own_v1255 w0_2 w0_1)), iv (f6 (0:Int32) (own_v1263 w0_2 w0_1)), iv (f7 w0_4 (own_v1257 w0_2 w0_1)), iv (own_v1280 w0_4 w0_2 w0_1), iv (own_v1284 w0_3 w0_2 w0_1), iv w0_5] [(.int (1:Int32)), (.int (f5 (own_v1255 w0_2 w0_1)))])) (fun t k => ?_) ?_
    · show Steps p.tables e below (T1281.setTop (mkF m 137 #[iv p0, iv p1, iv p2, iv p3, iv p4, iv (4:Int32), iv w0_1, iv w0_2, iv w0_3, iv w0_4, rv b1110, iv (f4 (0:Int32) (own_v1261 w0_2 w0_1)), iv (f5 (own_v1255 w0_2 w0_1)), iv (f6 (0:Int32) (own_v1263 w0_2 w0_1)), iv (f7 w0_4 (own_v1257 w0_2 w0_1)), iv (own_v1280 w0_4 w0_2 w0_1), iv (own_v1284 w0_3 w0_2 w0_1), iv w0_5] [(.int w0_5), (.int (f4 (0:Int32) (own_v1261 w0_2 w0_1)))])) _
      refine XS.icmpYes X1281.here hx rfl (pc0 := 137) (pc' := 142) rfl (hb hby at_137) rfl (XT.ii_eq_t hs137_2) (by decide) (by decide) ?_
      show Steps p.tables e below (T1281.setTop (mkF m 142 #[iv p0, iv p1, iv p2, iv p3, iv p4, iv (4:Int32), iv w0_1, iv w0_2, iv w0_3, iv w0_4, rv b1110, iv (f4 (0:Int32) (own_v1261 w0_2 w0_1)), iv (f5 (own_v1255 w0_2 w0_1)), iv (f6 (0:Int32) (own_v1263 w0_2 w0_1)), iv (f7 w0_4 (own_v1257 w0_2 w0_1)), iv (own_v1280 w0_4 w0_2 w0_1), iv (own_v1284 w0_3 w0_2 w0_1), iv w0_5] [])) _
      refine XS.iload X1281.here hx rfl (hb hby at_142) rfl ?_
      show Steps p.tables e below (T1281.setTop (mkF m 144 #[iv p0, iv p1, iv p2, iv p3, iv p4, iv (4:Int32), iv w0_1, iv w0_2, iv w0_3, iv w0_4, rv b1110, iv (f4 (0:Int32) (own_v1261 w0_2 w0_1)), iv (f5 (own_v1255 w0_2 w0_1)), iv (f6 (0:Int32) (own_v1263 w0_2 w0_1)), iv (f7 w0_4 (own_v1257 w0_2 w0_1)), iv (own_v1280 w0_4 w0_2 w0_1), iv (own_v1284 w0_3 w0_2 w0_1), iv w0_5] [(.int (f5 (own_v1255 w0_2 w0_1)))])) _
      refine XS.iconst X1281.here hx rfl (hb hby at_144) ?_
      exact k
    by_cases hs145_3 : (f5 (own_v1255 w0_2 w0_1)) = (1:Int32)
    · refine own_pre (A := T1281.setTop (mkF m 152 #[iv p0, iv p1, iv p2, iv p3, iv p4, iv (4:Int32), iv w0_1, iv w0_2, iv w0_3, iv w0_4, rv b1110, iv (f4 (0:Int32) (own_v1261 w0_2 w0_1)), iv (f5 (own_v1255 w0_2 w0_1)), iv (f6 (0:Int32) (own_v1263 w0_2 w0_1)), iv (f7 w0_4 (own_v1257 w0_2 w0_1)), iv (own_v1280 w0_4 w0_2 w0_1), iv (own_v1284 w0_3 w0_2 w0_1), iv w0_5] [(.int (f6 (0:Int32) (own_v1263 w0_2 w0_1)))])) (fun t k => ?_) ?_
      · show Steps p.tables e below (T1281.setTop (mkF m 145 #[iv p0, iv p1, iv p2, iv p3, iv p4, iv (4:Int32), iv w0_1, iv w0_2, iv w0_3, iv w0_4, rv b1110, iv (f4 (0:Int32) (own_v1261 w0_2 w0_1)), iv (f5 (own_v1255 w0_2 w0_1)), iv (f6 (0:Int32) (own_v1263 w0_2 w0_1)), iv (f7 w0_4 (own_v1257 w0_2 w0_1)), iv (own_v1280 w0_4 w0_2 w0_1), iv (own_v1284 w0_3 w0_2 w0_1), iv w0_5] [(.int (1:Int32)), (.int (f5 (own_v1255 w0_2 w0_1)))])) _
        refine XS.icmpYes X1281.here hx rfl (pc0 := 145) (pc' := 150) rfl (hb hby at_145) rfl (XT.ii_eq_t hs145_3) (by decide) (by decide) ?_
        show Steps p.tables e below (T1281.setTop (mkF m 150 #[iv p0, iv p1, iv p2, iv p3, iv p4, iv (4:Int32), iv w0_1, iv w0_2, iv w0_3, iv w0_4, rv b1110, iv (f4 (0:Int32) (own_v1261 w0_2 w0_1)), iv (f5 (own_v1255 w0_2 w0_1)), iv (f6 (0:Int32) (own_v1263 w0_2 w0_1)), iv (f7 w0_4 (own_v1257 w0_2 w0_1)), iv (own_v1280 w0_4 w0_2 w0_1), iv (own_v1284 w0_3 w0_2 w0_1), iv w0_5] [])) _
        refine XS.iload X1281.here hx rfl (hb hby at_150) rfl ?_
        exact k
      by_cases hs152_4 : (f6 (0:Int32) (own_v1263 w0_2 w0_1)) = (0:Int32)
      · refine own_pre (A := T1281.setTop (mkF m 159 #[iv p0, iv p1, iv p2, iv p3, iv p4, iv (4:Int32), iv w0_1, iv w0_2, iv w0_3, iv w0_4, rv b1110, iv (f4 (0:Int32) (own_v1261 w0_2 w0_1)), iv (f5 (own_v1255 w0_2 w0_1)), iv (f6 (0:Int32) (own_v1263 w0_2 w0_1)), iv (f7 w0_4 (own_v1257 w0_2 w0_1)), iv (own_v1280 w0_4 w0_2 w0_1), iv (own_v1284 w0_3 w0_2 w0_1), iv w0_5] [(.int (f7 w0_4 (own_v1257 w0_2 w0_1)))])) (fun t k => ?_) ?_
        · show Steps p.tables e below (T1281.setTop (mkF m 152 #[iv p0, iv p1, iv p2, iv p3, iv p4, iv (4:Int32), iv w0_1, iv w0_2, iv w0_3, iv w0_4, rv b1110, iv (f4 (0:Int32) (own_v1261 w0_2 w0_1)), iv (f5 (own_v1255 w0_2 w0_1)), iv (f6 (0:Int32) (own_v1263 w0_2 w0_1)), iv (f7 w0_4 (own_v1257 w0_2 w0_1)), iv (own_v1280 w0_4 w0_2 w0_1), iv (own_v1284 w0_3 w0_2 w0_1), iv w0_5] [(.int (f6 (0:Int32) (own_v1263 w0_2 w0_1)))])) _
          refine XS.ifYes X1281.here hx rfl (pc0 := 152) (pc' := 157) rfl (hb hby at_152) rfl (XT.i0_eq_t hs152_4) (by decide) (by decide) ?_
          show Steps p.tables e below (T1281.setTop (mkF m 157 #[iv p0, iv p1, iv p2, iv p3, iv p4, iv (4:Int32), iv w0_1, iv w0_2, iv w0_3, iv w0_4, rv b1110, iv (f4 (0:Int32) (own_v1261 w0_2 w0_1)), iv (f5 (own_v1255 w0_2 w0_1)), iv (f6 (0:Int32) (own_v1263 w0_2 w0_1)), iv (f7 w0_4 (own_v1257 w0_2 w0_1)), iv (own_v1280 w0_4 w0_2 w0_1), iv (own_v1284 w0_3 w0_2 w0_1), iv w0_5] [])) _
          refine XS.iload X1281.here hx rfl (hb hby at_157) rfl ?_
          exact k
        by_cases hs159_5 : (f7 w0_4 (own_v1257 w0_2 w0_1)) < (0:Int32)
        · refine own_pre (A := T1281.setTop (mkF m 170 #[iv p0, iv p1, iv p2, iv p3, iv p4, iv (4:Int32), iv w0_1, iv w0_2, iv w0_3, iv w0_4, rv b1110, iv (f4 (0:Int32) (own_v1261 w0_2 w0_1)), iv (f5 (own_v1255 w0_2 w0_1)), iv (f6 (0:Int32) (own_v1263 w0_2 w0_1)), iv (f7 w0_4 (own_v1257 w0_2 w0_1)), iv (own_v1280 w0_4 w0_2 w0_1), iv (own_v1284 w0_3 w0_2 w0_1), iv w0_5] [(.int (0:Int32))])) (fun t k => ?_) ?_
          · show Steps p.tables e below (T1281.setTop (mkF m 159 #[iv p0, iv p1, iv p2, iv p3, iv p4, iv (4:Int32), iv w0_1, iv w0_2, iv w0_3, iv w0_4, rv b1110, iv (f4 (0:Int32) (own_v1261 w0_2 w0_1)), iv (f5 (own_v1255 w0_2 w0_1)), iv (f6 (0:Int32) (own_v1263 w0_2 w0_1)), iv (f7 w0_4 (own_v1257 w0_2 w0_1)), iv (own_v1280 w0_4 w0_2 w0_1), iv (own_v1284 w0_3 w0_2 w0_1), iv w0_5] [(.int (f7 w0_4 (own_v1257 w0_2 w0_1)))])) _
            refine XS.ifYes X1281.here hx rfl (pc0 := 159) (pc' := 169) rfl (hb hby at_159) rfl (XT.i0_lt_t hs159_5) (by decide) (by decide) ?_
            show Steps p.tables e below (T1281.setTop (mkF m 169 #[iv p0, iv p1, iv p2, iv p3, iv p4, iv (4:Int32), iv w0_1, iv w0_2, iv w0_3, iv w0_4, rv b1110, iv (f4 (0:Int32) (own_v1261 w0_2 w0_1)), iv (f5 (own_v1255 w0_2 w0_1)), iv (f6 (0:Int32) (own_v1263 w0_2 w0_1)), iv (f7 w0_4 (own_v1257 w0_2 w0_1)), iv (own_v1280 w0_4 w0_2 w0_1), iv (own_v1284 w0_3 w0_2 w0_1), iv w0_5] [])) _
            refine XS.iconst X1281.here hx rfl (hb hby at_169) ?_
            exact k
          exact own_end X1281 (BodyLoose.notSynchronized Bd) (fun h => by rw [Bd.returns] at h; cases h) (v := some (.int (0:Int32))) (fun fs hr => retN X1281 hx (t := .boolean) Bd.returns (by simp) (hb hby at_170) hr) (by show Q0n4 Z p0 p1 p2 p3 p4 h0 n0 _ T1281.heap _; rw [eh1281]; exact ⟨(by subst hw0_5; exact absurd ⟨hs137_2, hs145_3, hs152_4, hs159_5⟩ (own_fin1285 w0_1 (own_mem4 _ _ hw0_1) w0_2 (own_mem4 _ _ hw0_2) w0_4 (own_mem4 _ _ hw0_4))), N1281⟩) (by decide) (by decide)
        · refine own_pre (A := T1281.setTop (mkF m 166 #[iv p0, iv p1, iv p2, iv p3, iv p4, iv (4:Int32), iv w0_1, iv w0_2, iv w0_3, iv w0_4, rv b1110, iv (f4 (0:Int32) (own_v1261 w0_2 w0_1)), iv (f5 (own_v1255 w0_2 w0_1)), iv (f6 (0:Int32) (own_v1263 w0_2 w0_1)), iv (f7 w0_4 (own_v1257 w0_2 w0_1)), iv (own_v1280 w0_4 w0_2 w0_1), iv (own_v1284 w0_3 w0_2 w0_1), iv w0_5] [(.int (4:Int32)), (.int (f7 w0_4 (own_v1257 w0_2 w0_1)))])) (fun t k => ?_) ?_
          · show Steps p.tables e below (T1281.setTop (mkF m 159 #[iv p0, iv p1, iv p2, iv p3, iv p4, iv (4:Int32), iv w0_1, iv w0_2, iv w0_3, iv w0_4, rv b1110, iv (f4 (0:Int32) (own_v1261 w0_2 w0_1)), iv (f5 (own_v1255 w0_2 w0_1)), iv (f6 (0:Int32) (own_v1263 w0_2 w0_1)), iv (f7 w0_4 (own_v1257 w0_2 w0_1)), iv (own_v1280 w0_4 w0_2 w0_1), iv (own_v1284 w0_3 w0_2 w0_1), iv w0_5] [(.int (f7 w0_4 (own_v1257 w0_2 w0_1)))])) _
            refine XS.ifNo X1281.here hx rfl (hb hby at_159) rfl (XT.i0_lt_f hs159_5) ?_
            show Steps p.tables e below (T1281.setTop (mkF m 162 #[iv p0, iv p1, iv p2, iv p3, iv p4, iv (4:Int32), iv w0_1, iv w0_2, iv w0_3, iv w0_4, rv b1110, iv (f4 (0:Int32) (own_v1261 w0_2 w0_1)), iv (f5 (own_v1255 w0_2 w0_1)), iv (f6 (0:Int32) (own_v1263 w0_2 w0_1)), iv (f7 w0_4 (own_v1257 w0_2 w0_1)), iv (own_v1280 w0_4 w0_2 w0_1), iv (own_v1284 w0_3 w0_2 w0_1), iv w0_5] [])) _
            refine XS.iload X1281.here hx rfl (hb hby at_162) rfl ?_
            show Steps p.tables e below (T1281.setTop (mkF m 164 #[iv p0, iv p1, iv p2, iv p3, iv p4, iv (4:Int32), iv w0_1, iv w0_2, iv w0_3, iv w0_4, rv b1110, iv (f4 (0:Int32) (own_v1261 w0_2 w0_1)), iv (f5 (own_v1255 w0_2 w0_1)), iv (f6 (0:Int32) (own_v1263 w0_2 w0_1)), iv (f7 w0_4 (own_v1257 w0_2 w0_1)), iv (own_v1280 w0_4 w0_2 w0_1), iv (own_v1284 w0_3 w0_2 w0_1), iv w0_5] [(.int (f7 w0_4 (own_v1257 w0_2 w0_1)))])) _
            refine XS.iload X1281.here hx rfl (hb hby at_164) rfl ?_
            exact k
          by_cases hs166_6 : (f7 w0_4 (own_v1257 w0_2 w0_1)) < (4:Int32)
          · refine own_pre (A := T1281.setTop (mkF m 171 #[iv p0, iv p1, iv p2, iv p3, iv p4, iv (4:Int32), iv w0_1, iv w0_2, iv w0_3, iv w0_4, rv b1110, iv (f4 (0:Int32) (own_v1261 w0_2 w0_1)), iv (f5 (own_v1255 w0_2 w0_1)), iv (f6 (0:Int32) (own_v1263 w0_2 w0_1)), iv (f7 w0_4 (own_v1257 w0_2 w0_1)), iv (own_v1280 w0_4 w0_2 w0_1), iv (own_v1284 w0_3 w0_2 w0_1), iv w0_5] [])) (fun t k => ?_) ?_
            · show Steps p.tables e below (T1281.setTop (mkF m 166 #[iv p0, iv p1, iv p2, iv p3, iv p4, iv (4:Int32), iv w0_1, iv w0_2, iv w0_3, iv w0_4, rv b1110, iv (f4 (0:Int32) (own_v1261 w0_2 w0_1)), iv (f5 (own_v1255 w0_2 w0_1)), iv (f6 (0:Int32) (own_v1263 w0_2 w0_1)), iv (f7 w0_4 (own_v1257 w0_2 w0_1)), iv (own_v1280 w0_4 w0_2 w0_1), iv (own_v1284 w0_3 w0_2 w0_1), iv w0_5] [(.int (4:Int32)), (.int (f7 w0_4 (own_v1257 w0_2 w0_1)))])) _
              refine XS.icmpYes X1281.here hx rfl (pc0 := 166) (pc' := 171) rfl (hb hby at_166) rfl (XT.ii_lt_t hs166_6) (by decide) (by decide) ?_
              exact k
            have hJ185_7 : own_Goes p e below s (Q0n4 Z p0 p1 p2 p3 p4 h0 n0) 8 64 (T1281.setTop (mkF m 185 #[iv p0, iv p1, iv p2, iv p3, iv p4, iv (4:Int32), iv w0_1, iv w0_2, iv w0_3, iv w0_4, rv b1110, iv (f4 (0:Int32) (own_v1261 w0_2 w0_1)), iv (f5 (own_v1255 w0_2 w0_1)), iv (f6 (0:Int32) (own_v1263 w0_2 w0_1)), iv (f7 w0_4 (own_v1257 w0_2 w0_1)), iv (own_v1280 w0_4 w0_2 w0_1), iv (own_v1284 w0_3 w0_2 w0_1), iv w0_5] [])) := by
              have hJ207_8 : own_Goes p e below s (Q0n4 Z p0 p1 p2 p3 p4 h0 n0) 8 64 (T1281.setTop (mkF m 207 #[iv p0, iv p1, iv p2, iv p3, iv p4, iv (4:Int32), iv w0_1, iv w0_2, iv w0_3, iv w0_4, rv b1110, iv (f4 (0:Int32) (own_v1261 w0_2 w0_1)), iv (f5 (own_v1255 w0_2 w0_1)), iv (f6 (0:Int32) (own_v1263 w0_2 w0_1)), iv (f7 w0_4 (own_v1257 w0_2 w0_1)), iv (own_v1280 w0_4 w0_2 w0_1), iv (own_v1284 w0_3 w0_2 w0_1), iv w0_5] [])) := by
                have hJ230_9 : own_Goes p e below s (Q0n4 Z p0 p1 p2 p3 p4 h0 n0) 8 64 (T1281.setTop (mkF m 230 #[iv p0, iv p1, iv p2, iv p3, iv p4, iv (4:Int32), iv w0_1, iv w0_2, iv w0_3, iv w0_4, rv b1110, iv (f4 (0:Int32) (own_v1261 w0_2 w0_1)), iv (f5 (own_v1255 w0_2 w0_1)), iv (f6 (0:Int32) (own_v1263 w0_2 w0_1)), iv (f7 w0_4 (own_v1257 w0_2 w0_1)), iv (own_v1280 w0_4 w0_2 w0_1), iv (own_v1284 w0_3 w0_2 w0_1), iv w0_5] [])) := by
                  refine own_pre (A := T1281.setTop (mkF m 236 #[iv p0, iv p1, iv p2, iv p3, iv p4, iv (4:Int32), iv w0_1, iv w0_2, iv w0_3, iv w0_4, rv b1110, iv (f4 (0:Int32) (own_v1261 w0_2 w0_1)), iv (f5 (own_v1255 w0_2 w0_1)), iv (f6 (0:Int32) (own_v1263 w0_2 w0_1)), iv (f7 w0_4 (own_v1257 w0_2 w0_1)), iv (own_v1280 w0_4 w0_2 w0_1), iv (own_v1284 w0_3 w0_2 w0_1), iv w0_5] [(.int w0_5), (.int w0_4), (.int (own_v1280 w0_4 w0_2 w0_1))])) (fun t k => ?_) ?_
                  · show Steps p.tables e below (T1281.setTop (mkF m 230 #[iv p0, iv p1, iv p2, iv p3, iv p4, iv (4:Int32), iv w0_1, iv w0_2, iv w0_3, iv w0_4, rv b1110, iv (f4 (0:Int32) (own_v1261 w0_2 w0_1)), iv (f5 (own_v1255 w0_2 w0_1)), iv (f6 (0:Int32) (own_v1263 w0_2 w0_1)), iv (f7 w0_4 (own_v1257 w0_2 w0_1)), iv (own_v1280 w0_4 w0_2 w0_1), iv (own_v1284 w0_3 w0_2 w0_1), iv w0_5] [])) _
                    refine XS.iload X1281.here hx rfl (hb hby at_230) rfl ?_
                    show Steps p.tables e below (T1281.setTop (mkF m 232 #[iv p0, iv p1, iv p2, iv p3, iv p4, iv (4:Int32), iv w0_1, iv w0_2, iv w0_3, iv w0_4, rv b1110, iv (f4 (0:Int32) (own_v1261 w0_2 w0_1)), iv (f5 (own_v1255 w0_2 w0_1)), iv (f6 (0:Int32) (own_v1263 w0_2 w0_1)), iv (f7 w0_4 (own_v1257 w0_2 w0_1)), iv (own_v1280 w0_4 w0_2 w0_1), iv (own_v1284 w0_3 w0_2 w0_1), iv w0_5] [(.int (own_v1280 w0_4 w0_2 w0_1))])) _
                    refine XS.iload X1281.here hx rfl (hb hby at_232) rfl ?_
                    show Steps p.tables e below (T1281.setTop (mkF m 234 #[iv p0, iv p1, iv p2, iv p3, iv p4, iv (4:Int32), iv w0_1, iv w0_2, iv w0_3, iv w0_4, rv b1110, iv (f4 (0:Int32) (own_v1261 w0_2 w0_1)), iv (f5 (own_v1255 w0_2 w0_1)), iv (f6 (0:Int32) (own_v1263 w0_2 w0_1)), iv (f7 w0_4 (own_v1257 w0_2 w0_1)), iv (own_v1280 w0_4 w0_2 w0_1), iv (own_v1284 w0_3 w0_2 w0_1), iv w0_5] [(.int w0_4), (.int (own_v1280 w0_4 w0_2 w0_1))])) _
                    refine XS.iload X1281.here hx rfl (hb hby at_234) rfl ?_
                    exact k
                  obtain ⟨w0_6, hw0_6⟩ : ∃ z : Int32, z = (if w0_4 < w0_5 then (1:Int32) else (0:Int32)) := ⟨_, rfl⟩
                  refine own_pre (A := T1281.setTop (mkF m 244 #[iv p0, iv p1, iv p2, iv p3, iv p4, iv (4:Int32), iv w0_1, iv w0_2, iv w0_3, iv w0_4, rv b1110, iv (f4 (0:Int32) (own_v1261 w0_2 w0_1)), iv (f5 (own_v1255 w0_2 w0_1)), iv (f6 (0:Int32) (own_v1263 w0_2 w0_1)), iv (f7 w0_4 (own_v1257 w0_2 w0_1)), iv (own_v1280 w0_4 w0_2 w0_1), iv (own_v1284 w0_3 w0_2 w0_1), iv w0_5] [(.int w0_6), (.int (own_v1280 w0_4 w0_2 w0_1))])) (fun t k => ?_) ?_
                  · show Steps p.tables e below (T1281.setTop (mkF m 236 #[iv p0, iv p1, iv p2, iv p3, iv p4, iv (4:Int32), iv w0_1, iv w0_2, iv w0_3, iv w0_4, rv b1110, iv (f4 (0:Int32) (own_v1261 w0_2 w0_1)), iv (f5 (own_v1255 w0_2 w0_1)), iv (f6 (0:Int32) (own_v1263 w0_2 w0_1)), iv (f7 w0_4 (own_v1257 w0_2 w0_1)), iv (own_v1280 w0_4 w0_2 w0_1), iv (own_v1284 w0_3 w0_2 w0_1), iv w0_5] [(.int w0_5), (.int w0_4), (.int (own_v1280 w0_4 w0_2 w0_1))])) _
                    by_cases hm236_10 : w0_4 < w0_5
                    · refine XS.icmpNo X1281.here hx rfl (hb hby at_236) rfl (XT.ii_ge_f hm236_10) ?_
                      show Steps p.tables e below (T1281.setTop (mkF m 239 #[iv p0, iv p1, iv p2, iv p3, iv p4, iv (4:Int32), iv w0_1, iv w0_2, iv w0_3, iv w0_4, rv b1110, iv (f4 (0:Int32) (own_v1261 w0_2 w0_1)), iv (f5 (own_v1255 w0_2 w0_1)), iv (f6 (0:Int32) (own_v1263 w0_2 w0_1)), iv (f7 w0_4 (own_v1257 w0_2 w0_1)), iv (own_v1280 w0_4 w0_2 w0_1), iv (own_v1284 w0_3 w0_2 w0_1), iv w0_5] [(.int (own_v1280 w0_4 w0_2 w0_1))])) _
                      refine XS.iconst X1281.here hx rfl (hb hby at_239) ?_
                      show Steps p.tables e below (T1281.setTop (mkF m 240 #[iv p0, iv p1, iv p2, iv p3, iv p4, iv (4:Int32), iv w0_1, iv w0_2, iv w0_3, iv w0_4, rv b1110, iv (f4 (0:Int32) (own_v1261 w0_2 w0_1)), iv (f5 (own_v1255 w0_2 w0_1)), iv (f6 (0:Int32) (own_v1263 w0_2 w0_1)), iv (f7 w0_4 (own_v1257 w0_2 w0_1)), iv (own_v1280 w0_4 w0_2 w0_1), iv (own_v1284 w0_3 w0_2 w0_1), iv w0_5] [(.int (1:Int32)), (.int (own_v1280 w0_4 w0_2 w0_1))])) _
                      refine XS.goto X1281.here hx rfl (pc0 := 240) (pc' := 244) rfl (hb hby at_240) (by decide) (by decide) ?_
                      rw [hw0_6.trans (if_pos hm236_10)] at k
                      exact k
                    · refine XS.icmpYes X1281.here hx rfl (pc0 := 236) (pc' := 243) rfl (hb hby at_236) rfl (XT.ii_ge_t hm236_10) (by decide) (by decide) ?_
                      show Steps p.tables e below (T1281.setTop (mkF m 243 #[iv p0, iv p1, iv p2, iv p3, iv p4, iv (4:Int32), iv w0_1, iv w0_2, iv w0_3, iv w0_4, rv b1110, iv (f4 (0:Int32) (own_v1261 w0_2 w0_1)), iv (f5 (own_v1255 w0_2 w0_1)), iv (f6 (0:Int32) (own_v1263 w0_2 w0_1)), iv (f7 w0_4 (own_v1257 w0_2 w0_1)), iv (own_v1280 w0_4 w0_2 w0_1), iv (own_v1284 w0_3 w0_2 w0_1), iv w0_5] [(.int (own_v1280 w0_4 w0_2 w0_1))])) _
                      refine XS.iconst X1281.here hx rfl (hb hby at_243) ?_
                      rw [hw0_6.trans (if_neg hm236_10)] at k
                      exact k
                  by_cases hs244_11 : (own_v1280 w0_4 w0_2 w0_1) = w0_6
                  · refine own_pre (A := T1281.setTop (mkF m 255 #[iv p0, iv p1, iv p2, iv p3, iv p4, iv (4:Int32), iv w0_1, iv w0_2, iv w0_3, iv w0_4, rv b1110, iv (f4 (0:Int32) (own_v1261 w0_2 w0_1)), iv (f5 (own_v1255 w0_2 w0_1)), iv (f6 (0:Int32) (own_v1263 w0_2 w0_1)), iv (f7 w0_4 (own_v1257 w0_2 w0_1)), iv (own_v1280 w0_4 w0_2 w0_1), iv (own_v1284 w0_3 w0_2 w0_1), iv w0_5] [(.int w0_1), (.int w0_3), (.int (own_v1284 w0_3 w0_2 w0_1))])) (fun t k => ?_) ?_
                    · show Steps p.tables e below (T1281.setTop (mkF m 244 #[iv p0, iv p1, iv p2, iv p3, iv p4, iv (4:Int32), iv w0_1, iv w0_2, iv w0_3, iv w0_4, rv b1110, iv (f4 (0:Int32) (own_v1261 w0_2 w0_1)), iv (f5 (own_v1255 w0_2 w0_1)), iv (f6 (0:Int32) (own_v1263 w0_2 w0_1)), iv (f7 w0_4 (own_v1257 w0_2 w0_1)), iv (own_v1280 w0_4 w0_2 w0_1), iv (own_v1284 w0_3 w0_2 w0_1), iv w0_5] [(.int w0_6), (.int (own_v1280 w0_4 w0_2 w0_1))])) _
                      refine XS.icmpYes X1281.here hx rfl (pc0 := 244) (pc' := 249) rfl (hb hby at_244) rfl (XT.ii_eq_t hs244_11) (by decide) (by decide) ?_
                      show Steps p.tables e below (T1281.setTop (mkF m 249 #[iv p0, iv p1, iv p2, iv p3, iv p4, iv (4:Int32), iv w0_1, iv w0_2, iv w0_3, iv w0_4, rv b1110, iv (f4 (0:Int32) (own_v1261 w0_2 w0_1)), iv (f5 (own_v1255 w0_2 w0_1)), iv (f6 (0:Int32) (own_v1263 w0_2 w0_1)), iv (f7 w0_4 (own_v1257 w0_2 w0_1)), iv (own_v1280 w0_4 w0_2 w0_1), iv (own_v1284 w0_3 w0_2 w0_1), iv w0_5] [])) _
                      refine XS.iload X1281.here hx rfl (hb hby at_249) rfl ?_
                      show Steps p.tables e below (T1281.setTop (mkF m 251 #[iv p0, iv p1, iv p2, iv p3, iv p4, iv (4:Int32), iv w0_1, iv w0_2, iv w0_3, iv w0_4, rv b1110, iv (f4 (0:Int32) (own_v1261 w0_2 w0_1)), iv (f5 (own_v1255 w0_2 w0_1)), iv (f6 (0:Int32) (own_v1263 w0_2 w0_1)), iv (f7 w0_4 (own_v1257 w0_2 w0_1)), iv (own_v1280 w0_4 w0_2 w0_1), iv (own_v1284 w0_3 w0_2 w0_1), iv w0_5] [(.int (own_v1284 w0_3 w0_2 w0_1))])) _
                      refine XS.iload X1281.here hx rfl (hb hby at_251) rfl ?_
                      show Steps p.tables e below (T1281.setTop (mkF m 253 #[iv p0, iv p1, iv p2, iv p3, iv p4, iv (4:Int32), iv w0_1, iv w0_2, iv w0_3, iv w0_4, rv b1110, iv (f4 (0:Int32) (own_v1261 w0_2 w0_1)), iv (f5 (own_v1255 w0_2 w0_1)), iv (f6 (0:Int32) (own_v1263 w0_2 w0_1)), iv (f7 w0_4 (own_v1257 w0_2 w0_1)), iv (own_v1280 w0_4 w0_2 w0_1), iv (own_v1284 w0_3 w0_2 w0_1), iv w0_5] [(.int w0_3), (.int (own_v1284 w0_3 w0_2 w0_1))])) _
                      refine XS.iload X1281.here hx rfl (hb hby at_253) rfl ?_
                      exact k
                    obtain ⟨w0_7, hw0_7⟩ : ∃ z : Int32, z = (if w0_3 = w0_1 then (1:Int32) else (if w0_3 = w0_2 then (1:Int32) else (0:Int32))) := ⟨_, rfl⟩
                    refine own_pre (A := T1281.setTop (mkF m 270 #[iv p0, iv p1, iv p2, iv p3, iv p4, iv (4:Int32), iv w0_1, iv w0_2, iv w0_3, iv w0_4, rv b1110, iv (f4 (0:Int32) (own_v1261 w0_2 w0_1)), iv (f5 (own_v1255 w0_2 w0_1)), iv (f6 (0:Int32) (own_v1263 w0_2 w0_1)), iv (f7 w0_4 (own_v1257 w0_2 w0_1)), iv (own_v1280 w0_4 w0_2 w0_1), iv (own_v1284 w0_3 w0_2 w0_1), iv w0_5] [(.int w0_7), (.int (own_v1284 w0_3 w0_2 w0_1))])) (fun t k => ?_) ?_
                    · show Steps p.tables e below (T1281.setTop (mkF m 255 #[iv p0, iv p1, iv p2, iv p3, iv p4, iv (4:Int32), iv w0_1, iv w0_2, iv w0_3, iv w0_4, rv b1110, iv (f4 (0:Int32) (own_v1261 w0_2 w0_1)), iv (f5 (own_v1255 w0_2 w0_1)), iv (f6 (0:Int32) (own_v1263 w0_2 w0_1)), iv (f7 w0_4 (own_v1257 w0_2 w0_1)), iv (own_v1280 w0_4 w0_2 w0_1), iv (own_v1284 w0_3 w0_2 w0_1), iv w0_5] [(.int w0_1), (.int w0_3), (.int (own_v1284 w0_3 w0_2 w0_1))])) _
                      by_cases hm255_12 : w0_3 = w0_1
                      · refine XS.icmpYes X1281.here hx rfl (pc0 := 255) (pc' := 265) rfl (hb hby at_255) rfl (XT.ii_eq_t hm255_12) (by decide) (by decide) ?_
                        show Steps p.tables e below (T1281.setTop (mkF m 265 #[iv p0, iv p1, iv p2, iv p3, iv p4, iv (4:Int32), iv w0_1, iv w0_2, iv w0_3, iv w0_4, rv b1110, iv (f4 (0:Int32) (own_v1261 w0_2 w0_1)), iv (f5 (own_v1255 w0_2 w0_1)), iv (f6 (0:Int32) (own_v1263 w0_2 w0_1)), iv (f7 w0_4 (own_v1257 w0_2 w0_1)), iv (own_v1280 w0_4 w0_2 w0_1), iv (own_v1284 w0_3 w0_2 w0_1), iv w0_5] [(.int (own_v1284 w0_3 w0_2 w0_1))])) _
                        refine XS.iconst X1281.here hx rfl (hb hby at_265) ?_
                        show Steps p.tables e below (T1281.setTop (mkF m 266 #[iv p0, iv p1, iv p2, iv p3, iv p4, iv (4:Int32), iv w0_1, iv w0_2, iv w0_3, iv w0_4, rv b1110, iv (f4 (0:Int32) (own_v1261 w0_2 w0_1)), iv (f5 (own_v1255 w0_2 w0_1)), iv (f6 (0:Int32) (own_v1263 w0_2 w0_1)), iv (f7 w0_4 (own_v1257 w0_2 w0_1)), iv (own_v1280 w0_4 w0_2 w0_1), iv (own_v1284 w0_3 w0_2 w0_1), iv w0_5] [(.int (1:Int32)), (.int (own_v1284 w0_3 w0_2 w0_1))])) _
                        refine XS.goto X1281.here hx rfl (pc0 := 266) (pc' := 270) rfl (hb hby at_266) (by decide) (by decide) ?_
                        rw [hw0_7.trans (if_pos hm255_12)] at k
                        exact k
                      · refine XS.icmpNo X1281.here hx rfl (hb hby at_255) rfl (XT.ii_eq_f hm255_12) ?_
                        show Steps p.tables e below (T1281.setTop (mkF m 258 #[iv p0, iv p1, iv p2, iv p3, iv p4, iv (4:Int32), iv w0_1, iv w0_2, iv w0_3, iv w0_4, rv b1110, iv (f4 (0:Int32) (own_v1261 w0_2 w0_1)), iv (f5 (own_v1255 w0_2 w0_1)), iv (f6 (0:Int32) (own_v1263 w0_2 w0_1)), iv (f7 w0_4 (own_v1257 w0_2 w0_1)), iv (own_v1280 w0_4 w0_2 w0_1), iv (own_v1284 w0_3 w0_2 w0_1), iv w0_5] [(.int (own_v1284 w0_3 w0_2 w0_1))])) _
                        refine XS.iload X1281.here hx rfl (hb hby at_258) rfl ?_
                        show Steps p.tables e below (T1281.setTop (mkF m 260 #[iv p0, iv p1, iv p2, iv p3, iv p4, iv (4:Int32), iv w0_1, iv w0_2, iv w0_3, iv w0_4, rv b1110, iv (f4 (0:Int32) (own_v1261 w0_2 w0_1)), iv (f5 (own_v1255 w0_2 w0_1)), iv (f6 (0:Int32) (own_v1263 w0_2 w0_1)), iv (f7 w0_4 (own_v1257 w0_2 w0_1)), iv (own_v1280 w0_4 w0_2 w0_1), iv (own_v1284 w0_3 w0_2 w0_1), iv w0_5] [(.int w0_3), (.int (own_v1284 w0_3 w0_2 w0_1))])) _
                        refine XS.iload X1281.here hx rfl (hb hby at_260) rfl ?_
                        show Steps p.tables e below (T1281.setTop (mkF m 262 #[iv p0, iv p1, iv p2, iv p3, iv p4, iv (4:Int32), iv w0_1, iv w0_2, iv w0_3, iv w0_4, rv b1110, iv (f4 (0:Int32) (own_v1261 w0_2 w0_1)), iv (f5 (own_v1255 w0_2 w0_1)), iv (f6 (0:Int32) (own_v1263 w0_2 w0_1)), iv (f7 w0_4 (own_v1257 w0_2 w0_1)), iv (own_v1280 w0_4 w0_2 w0_1), iv (own_v1284 w0_3 w0_2 w0_1), iv w0_5] [(.int w0_2), (.int w0_3), (.int (own_v1284 w0_3 w0_2 w0_1))])) _
                        by_cases hm262_13 : w0_3 = w0_2
                        · refine XS.icmpNo X1281.here hx rfl (hb hby at_262) rfl (XT.ii_ne_f hm262_13) ?_
                          show Steps p.tables e below (T1281.setTop (mkF m 265 #[iv p0, iv p1, iv p2, iv p3, iv p4, iv (4:Int32), iv w0_1, iv w0_2, iv w0_3, iv w0_4, rv b1110, iv (f4 (0:Int32) (own_v1261 w0_2 w0_1)), iv (f5 (own_v1255 w0_2 w0_1)), iv (f6 (0:Int32) (own_v1263 w0_2 w0_1)), iv (f7 w0_4 (own_v1257 w0_2 w0_1)), iv (own_v1280 w0_4 w0_2 w0_1), iv (own_v1284 w0_3 w0_2 w0_1), iv w0_5] [(.int (own_v1284 w0_3 w0_2 w0_1))])) _
                          refine XS.iconst X1281.here hx rfl (hb hby at_265) ?_
                          show Steps p.tables e below (T1281.setTop (mkF m 266 #[iv p0, iv p1, iv p2, iv p3, iv p4, iv (4:Int32), iv w0_1, iv w0_2, iv w0_3, iv w0_4, rv b1110, iv (f4 (0:Int32) (own_v1261 w0_2 w0_1)), iv (f5 (own_v1255 w0_2 w0_1)), iv (f6 (0:Int32) (own_v1263 w0_2 w0_1)), iv (f7 w0_4 (own_v1257 w0_2 w0_1)), iv (own_v1280 w0_4 w0_2 w0_1), iv (own_v1284 w0_3 w0_2 w0_1), iv w0_5] [(.int (1:Int32)), (.int (own_v1284 w0_3 w0_2 w0_1))])) _
                          refine XS.goto X1281.here hx rfl (pc0 := 266) (pc' := 270) rfl (hb hby at_266) (by decide) (by decide) ?_
                          rw [hw0_7.trans ((if_neg hm255_12).trans (if_pos hm262_13))] at k
                          exact k
                        · refine XS.icmpYes X1281.here hx rfl (pc0 := 262) (pc' := 269) rfl (hb hby at_262) rfl (XT.ii_ne_t hm262_13) (by decide) (by decide) ?_
                          show Steps p.tables e below (T1281.setTop (mkF m 269 #[iv p0, iv p1, iv p2, iv p3, iv p4, iv (4:Int32), iv w0_1, iv w0_2, iv w0_3, iv w0_4, rv b1110, iv (f4 (0:Int32) (own_v1261 w0_2 w0_1)), iv (f5 (own_v1255 w0_2 w0_1)), iv (f6 (0:Int32) (own_v1263 w0_2 w0_1)), iv (f7 w0_4 (own_v1257 w0_2 w0_1)), iv (own_v1280 w0_4 w0_2 w0_1), iv (own_v1284 w0_3 w0_2 w0_1), iv w0_5] [(.int (own_v1284 w0_3 w0_2 w0_1))])) _
                          refine XS.iconst X1281.here hx rfl (hb hby at_269) ?_
                          rw [hw0_7.trans ((if_neg hm255_12).trans (if_neg hm262_13))] at k
                          exact k
                    by_cases hs270_14 : (own_v1284 w0_3 w0_2 w0_1) = w0_7
                    · refine own_pre (A := T1281.setTop (mkF m 276 #[iv p0, iv p1, iv p2, iv p3, iv p4, iv (4:Int32), iv w0_1, iv w0_2, iv w0_3, iv w0_4, rv b1110, iv (f4 (0:Int32) (own_v1261 w0_2 w0_1)), iv (f5 (own_v1255 w0_2 w0_1)), iv (f6 (0:Int32) (own_v1263 w0_2 w0_1)), iv (f7 w0_4 (own_v1257 w0_2 w0_1)), iv (own_v1280 w0_4 w0_2 w0_1), iv (own_v1284 w0_3 w0_2 w0_1), iv w0_5] [(.int (1:Int32))])) (fun t k => ?_) ?_
                      · show Steps p.tables e below (T1281.setTop (mkF m 270 #[iv p0, iv p1, iv p2, iv p3, iv p4, iv (4:Int32), iv w0_1, iv w0_2, iv w0_3, iv w0_4, rv b1110, iv (f4 (0:Int32) (own_v1261 w0_2 w0_1)), iv (f5 (own_v1255 w0_2 w0_1)), iv (f6 (0:Int32) (own_v1263 w0_2 w0_1)), iv (f7 w0_4 (own_v1257 w0_2 w0_1)), iv (own_v1280 w0_4 w0_2 w0_1), iv (own_v1284 w0_3 w0_2 w0_1), iv w0_5] [(.int w0_7), (.int (own_v1284 w0_3 w0_2 w0_1))])) _
                        refine XS.icmpYes X1281.here hx rfl (pc0 := 270) (pc' := 275) rfl (hb hby at_270) rfl (XT.ii_eq_t hs270_14) (by decide) (by decide) ?_
                        show Steps p.tables e below (T1281.setTop (mkF m 275 #[iv p0, iv p1, iv p2, iv p3, iv p4, iv (4:Int32), iv w0_1, iv w0_2, iv w0_3, iv w0_4, rv b1110, iv (f4 (0:Int32) (own_v1261 w0_2 w0_1)), iv (f5 (own_v1255 w0_2 w0_1)), iv (f6 (0:Int32) (own_v1263 w0_2 w0_1)), iv (f7 w0_4 (own_v1257 w0_2 w0_1)), iv (own_v1280 w0_4 w0_2 w0_1), iv (own_v1284 w0_3 w0_2 w0_1), iv w0_5] [])) _
                        refine XS.iconst X1281.here hx rfl (hb hby at_275) ?_
                        exact k
                      exact own_end X1281 (BodyLoose.notSynchronized Bd) (fun h => by rw [Bd.returns] at h; cases h) (v := some (.int (1:Int32))) (fun fs hr => retN X1281 hx (t := .boolean) Bd.returns (by simp) (hb hby at_276) hr) (by show Q0n4 Z p0 p1 p2 p3 p4 h0 n0 _ T1281.heap _; rw [eh1281]; exact ⟨rfl, N1281⟩) (by decide) (by decide)
                    · refine own_pre (A := T1281.setTop (mkF m 274 #[iv p0, iv p1, iv p2, iv p3, iv p4, iv (4:Int32), iv w0_1, iv w0_2, iv w0_3, iv w0_4, rv b1110, iv (f4 (0:Int32) (own_v1261 w0_2 w0_1)), iv (f5 (own_v1255 w0_2 w0_1)), iv (f6 (0:Int32) (own_v1263 w0_2 w0_1)), iv (f7 w0_4 (own_v1257 w0_2 w0_1)), iv (own_v1280 w0_4 w0_2 w0_1), iv (own_v1284 w0_3 w0_2 w0_1), iv w0_5] [(.int (0:Int32))])) (fun t k => ?_) ?_
                      · show Steps p.tables e below (T1281.setTop (mkF m 270 #[iv p0, iv p1, iv p2, iv p3, iv p4, iv (4:Int32), iv w0_1, iv w0_2, iv w0_3, iv w0_4, rv b1110, iv (f4 (0:Int32) (own_v1261 w0_2 w0_1)), iv (f5 (own_v1255 w0_2 w0_1)), iv (f6 (0:Int32) (own_v1263 w0_2 w0_1)), iv (f7 w0_4 (own_v1257 w0_2 w0_1)), iv (own_v1280 w0_4 w0_2 w0_1), iv (own_v1284 w0_3 w0_2 w0_1), iv w0_5] [(.int w0_7), (.int (own_v1284 w0_3 w0_2 w0_1))])) _
                        refine XS.icmpNo X1281.here hx rfl (hb hby at_270) rfl (XT.ii_eq_f hs270_14) ?_
                        show Steps p.tables e below (T1281.setTop (mkF m 273 #[iv p0, iv p1, iv p2, iv p3, iv p4, iv (4:Int32), iv w0_1, iv w0_2, iv w0_3, iv w0_4, rv b1110, iv (f4 (0:Int32) (own_v1261 w0_2 w0_1)), iv (f5 (own_v1255 w0_2 w0_1)), iv (f6 (0:Int32) (own_v1263 w0_2 w0_1)), iv (f7 w0_4 (own_v1257 w0_2 w0_1)), iv (own_v1280 w0_4 w0_2 w0_1), iv (own_v1284 w0_3 w0_2 w0_1), iv w0_5] [])) _
                        refine XS.iconst X1281.here hx rfl (hb hby at_273) ?_
                        exact k
                      exact own_end X1281 (BodyLoose.notSynchronized Bd) (fun h => by rw [Bd.returns] at h; cases h) (v := some (.int (0:Int32))) (fun fs hr => retN X1281 hx (t := .boolean) Bd.returns (by simp) (hb hby at_274) hr) (by show Q0n4 Z p0 p1 p2 p3 p4 h0 n0 _ T1281.heap _; rw [eh1281]; exact ⟨(by subst hw0_5 hw0_6 hw0_7; exact absurd ⟨hs137_2, hs145_3, hs152_4, hs159_5, hs166_6, hs244_11, hs270_14⟩ (own_fin1286 w0_1 (own_mem4 _ _ hw0_1) w0_2 (own_mem4 _ _ hw0_2) w0_3 (own_mem4 _ _ hw0_3) w0_4 (own_mem4 _ _ hw0_4))), N1281⟩) (by decide) (by decide)
                  · refine own_pre (A := T1281.setTop (mkF m 248 #[iv p0, iv p1, iv p2, iv p3, iv p4, iv (4:Int32), iv w0_1, iv w0_2, iv w0_3, iv w0_4, rv b1110, iv (f4 (0:Int32) (own_v1261 w0_2 w0_1)), iv (f5 (own_v1255 w0_2 w0_1)), iv (f6 (0:Int32) (own_v1263 w0_2 w0_1)), iv (f7 w0_4 (own_v1257 w0_2 w0_1)), iv (own_v1280 w0_4 w0_2 w0_1), iv (own_v1284 w0_3 w0_2 w0_1), iv w0_5] [(.int (0:Int32))])) (fun t k => ?_) ?_
                    · show Steps p.tables e below (T1281.setTop (mkF m 244 #[iv p0, iv p1, iv p2, iv p3, iv p4, iv (4:Int32), iv w0_1, iv w0_2, iv w0_3, iv w0_4, rv b1110, iv (f4 (0:Int32) (own_v1261 w0_2 w0_1)), iv (f5 (own_v1255 w0_2 w0_1)), iv (f6 (0:Int32) (own_v1263 w0_2 w0_1)), iv (f7 w0_4 (own_v1257 w0_2 w0_1)), iv (own_v1280 w0_4 w0_2 w0_1), iv (own_v1284 w0_3 w0_2 w0_1), iv w0_5] [(.int w0_6), (.int (own_v1280 w0_4 w0_2 w0_1))])) _
                      refine XS.icmpNo X1281.here hx rfl (hb hby at_244) rfl (XT.ii_eq_f hs244_11) ?_
                      show Steps p.tables e below (T1281.setTop (mkF m 247 #[iv p0, iv p1, iv p2, iv p3, iv p4, iv (4:Int32), iv w0_1, iv w0_2, iv w0_3, iv w0_4, rv b1110, iv (f4 (0:Int32) (own_v1261 w0_2 w0_1)), iv (f5 (own_v1255 w0_2 w0_1)), iv (f6 (0:Int32) (own_v1263 w0_2 w0_1)), iv (f7 w0_4 (own_v1257 w0_2 w0_1)), iv (own_v1280 w0_4 w0_2 w0_1), iv (own_v1284 w0_3 w0_2 w0_1), iv w0_5] [])) _
                      refine XS.iconst X1281.here hx rfl (hb hby at_247) ?_
                      exact k
                    exact own_end X1281 (BodyLoose.notSynchronized Bd) (fun h => by rw [Bd.returns] at h; cases h) (v := some (.int (0:Int32))) (fun fs hr => retN X1281 hx (t := .boolean) Bd.returns (by simp) (hb hby at_248) hr) (by show Q0n4 Z p0 p1 p2 p3 p4 h0 n0 _ T1281.heap _; rw [eh1281]; exact ⟨(by subst hw0_5 hw0_6; exact absurd ⟨hs137_2, hs145_3, hs152_4, hs159_5, hs166_6, hs244_11⟩ (own_fin1287 w0_1 (own_mem4 _ _ hw0_1) w0_2 (own_mem4 _ _ hw0_2) w0_4 (own_mem4 _ _ hw0_4))), N1281⟩) (by decide) (by decide)
                refine own_pre (A := T1281.setTop (mkF m 211 #[iv p0, iv p1, iv p2, iv p3, iv p4, iv (4:Int32), iv w0_1, iv w0_2, iv w0_3, iv w0_4, rv b1110, iv (f4 (0:Int32) (own_v1261 w0_2 w0_1)), iv (f5 (own_v1255 w0_2 w0_1)), iv (f6 (0:Int32) (own_v1263 w0_2 w0_1)), iv (f7 w0_4 (own_v1257 w0_2 w0_1)), iv (own_v1280 w0_4 w0_2 w0_1), iv (own_v1284 w0_3 w0_2 w0_1), iv w0_5] [(.int w0_5), (.int w0_4)])) (fun t k => ?_) ?_
                · show Steps p.tables e below (T1281.setTop (mkF m 207 #[iv p0, iv p1, iv p2, iv p3, iv p4, iv (4:Int32), iv w0_1, iv w0_2, iv w0_3, iv w0_4, rv b1110, iv (f4 (0:Int32) (own_v1261 w0_2 w0_1)), iv (f5 (own_v1255 w0_2 w0_1)), iv (f6 (0:Int32) (own_v1263 w0_2 w0_1)), iv (f7 w0_4 (own_v1257 w0_2 w0_1)), iv (own_v1280 w0_4 w0_2 w0_1), iv (own_v1284 w0_3 w0_2 w0_1), iv w0_5] [])) _
                  refine XS.iload X1281.here hx rfl (hb hby at_207) rfl ?_
                  show Steps p.tables e below (T1281.setTop (mkF m 209 #[iv p0, iv p1, iv p2, iv p3, iv p4, iv (4:Int32), iv w0_1, iv w0_2, iv w0_3, iv w0_4, rv b1110, iv (f4 (0:Int32) (own_v1261 w0_2 w0_1)), iv (f5 (own_v1255 w0_2 w0_1)), iv (f6 (0:Int32) (own_v1263 w0_2 w0_1)), iv (f7 w0_4 (own_v1257 w0_2 w0_1)), iv (own_v1280 w0_4 w0_2 w0_1), iv (own_v1284 w0_3 w0_2 w0_1), iv w0_5] [(.int w0_4)])) _
                  refine XS.iload X1281.here hx rfl (hb hby at_209) rfl ?_
                  exact k
                by_cases hs211_15 : w0_4 < w0_5
                · refine own_pre (A := T1281.setTop (mkF m 230 #[iv p0, iv p1, iv p2, iv p3, iv p4, iv (4:Int32), iv w0_1, iv w0_2, iv w0_3, iv w0_4, rv b1110, iv (f4 (0:Int32) (own_v1261 w0_2 w0_1)), iv (f5 (own_v1255 w0_2 w0_1)), iv (f6 (0:Int32) (own_v1263 w0_2 w0_1)), iv (f7 w0_4 (own_v1257 w0_2 w0_1)), iv (own_v1280 w0_4 w0_2 w0_1), iv (own_v1284 w0_3 w0_2 w0_1), iv w0_5] [])) (fun t k => ?_) ?_
                  · show Steps p.tables e below (T1281.setTop (mkF m 211 #[iv p0, iv p1, iv p2, iv p3, iv p4, iv (4:Int32), iv w0_1, iv w0_2, iv w0_3, iv w0_4, rv b1110, iv (f4 (0:Int32) (own_v1261 w0_2 w0_1)), iv (f5 (own_v1255 w0_2 w0_1)), iv (f6 (0:Int32) (own_v1263 w0_2 w0_1)), iv (f7 w0_4 (own_v1257 w0_2 w0_1)), iv (own_v1280 w0_4 w0_2 w0_1), iv (own_v1284 w0_3 w0_2 w0_1), iv w0_5] [(.int w0_5), (.int w0_4)])) _
                    refine XS.icmpYes X1281.here hx rfl (pc0 := 211) (pc' := 230) rfl (hb hby at_211) rfl (XT.ii_lt_t hs211_15) (by decide) (by decide) ?_
                    exact k
                  exact hJ230_9
                · refine own_pre (A := T1281.setTop (mkF m 218 #[iv p0, iv p1, iv p2, iv p3, iv p4, iv (4:Int32), iv w0_1, iv w0_2, iv w0_3, iv w0_4, rv b1110, iv (f4 (0:Int32) (own_v1261 w0_2 w0_1)), iv (f5 (own_v1255 w0_2 w0_1)), iv (f6 (0:Int32) (own_v1263 w0_2 w0_1)), iv (f7 w0_4 (own_v1257 w0_2 w0_1)), iv (own_v1280 w0_4 w0_2 w0_1), iv (own_v1284 w0_3 w0_2 w0_1), iv w0_5] [(.int w0_1), (.int (f7 w0_4 (own_v1257 w0_2 w0_1)))])) (fun t k => ?_) ?_
                  · show Steps p.tables e below (T1281.setTop (mkF m 211 #[iv p0, iv p1, iv p2, iv p3, iv p4, iv (4:Int32), iv w0_1, iv w0_2, iv w0_3, iv w0_4, rv b1110, iv (f4 (0:Int32) (own_v1261 w0_2 w0_1)), iv (f5 (own_v1255 w0_2 w0_1)), iv (f6 (0:Int32) (own_v1263 w0_2 w0_1)), iv (f7 w0_4 (own_v1257 w0_2 w0_1)), iv (own_v1280 w0_4 w0_2 w0_1), iv (own_v1284 w0_3 w0_2 w0_1), iv w0_5] [(.int w0_5), (.int w0_4)])) _
                    refine XS.icmpNo X1281.here hx rfl (hb hby at_211) rfl (XT.ii_lt_f hs211_15) ?_
                    show Steps p.tables e below (T1281.setTop (mkF m 214 #[iv p0, iv p1, iv p2, iv p3, iv p4, iv (4:Int32), iv w0_1, iv w0_2, iv w0_3, iv w0_4, rv b1110, iv (f4 (0:Int32) (own_v1261 w0_2 w0_1)), iv (f5 (own_v1255 w0_2 w0_1)), iv (f6 (0:Int32) (own_v1263 w0_2 w0_1)), iv (f7 w0_4 (own_v1257 w0_2 w0_1)), iv (own_v1280 w0_4 w0_2 w0_1), iv (own_v1284 w0_3 w0_2 w0_1), iv w0_5] [])) _
                    refine XS.iload X1281.here hx rfl (hb hby at_214) rfl ?_
                    show Steps p.tables e below (T1281.setTop (mkF m 216 #[iv p0, iv p1, iv p2, iv p3, iv p4, iv (4:Int32), iv w0_1, iv w0_2, iv w0_3, iv w0_4, rv b1110, iv (f4 (0:Int32) (own_v1261 w0_2 w0_1)), iv (f5 (own_v1255 w0_2 w0_1)), iv (f6 (0:Int32) (own_v1263 w0_2 w0_1)), iv (f7 w0_4 (own_v1257 w0_2 w0_1)), iv (own_v1280 w0_4 w0_2 w0_1), iv (own_v1284 w0_3 w0_2 w0_1), iv w0_5] [(.int (f7 w0_4 (own_v1257 w0_2 w0_1)))])) _
                    refine XS.iload X1281.here hx rfl (hb hby at_216) rfl ?_
                    exact k
                  by_cases hs218_16 : (f7 w0_4 (own_v1257 w0_2 w0_1)) = w0_1
                  · refine own_pre (A := T1281.setTop (mkF m 229 #[iv p0, iv p1, iv p2, iv p3, iv p4, iv (4:Int32), iv w0_1, iv w0_2, iv w0_3, iv w0_4, rv b1110, iv (f4 (0:Int32) (own_v1261 w0_2 w0_1)), iv (f5 (own_v1255 w0_2 w0_1)), iv (f6 (0:Int32) (own_v1263 w0_2 w0_1)), iv (f7 w0_4 (own_v1257 w0_2 w0_1)), iv (own_v1280 w0_4 w0_2 w0_1), iv (own_v1284 w0_3 w0_2 w0_1), iv w0_5] [(.int (0:Int32))])) (fun t k => ?_) ?_
                    · show Steps p.tables e below (T1281.setTop (mkF m 218 #[iv p0, iv p1, iv p2, iv p3, iv p4, iv (4:Int32), iv w0_1, iv w0_2, iv w0_3, iv w0_4, rv b1110, iv (f4 (0:Int32) (own_v1261 w0_2 w0_1)), iv (f5 (own_v1255 w0_2 w0_1)), iv (f6 (0:Int32) (own_v1263 w0_2 w0_1)), iv (f7 w0_4 (own_v1257 w0_2 w0_1)), iv (own_v1280 w0_4 w0_2 w0_1), iv (own_v1284 w0_3 w0_2 w0_1), iv w0_5] [(.int w0_1), (.int (f7 w0_4 (own_v1257 w0_2 w0_1)))])) _
                      refine XS.icmpYes X1281.here hx rfl (pc0 := 218) (pc' := 228) rfl (hb hby at_218) rfl (XT.ii_eq_t hs218_16) (by decide) (by decide) ?_
                      show Steps p.tables e below (T1281.setTop (mkF m 228 #[iv p0, iv p1, iv p2, iv p3, iv p4, iv (4:Int32), iv w0_1, iv w0_2, iv w0_3, iv w0_4, rv b1110, iv (f4 (0:Int32) (own_v1261 w0_2 w0_1)), iv (f5 (own_v1255 w0_2 w0_1)), iv (f6 (0:Int32) (own_v1263 w0_2 w0_1)), iv (f7 w0_4 (own_v1257 w0_2 w0_1)), iv (own_v1280 w0_4 w0_2 w0_1), iv (own_v1284 w0_3 w0_2 w0_1), iv w0_5] [])) _
                      refine XS.iconst X1281.here hx rfl (hb hby at_228) ?_
                      exact k
                    exact own_end X1281 (BodyLoose.notSynchronized Bd) (fun h => by rw [Bd.returns] at h; cases h) (v := some (.int (0:Int32))) (fun fs hr => retN X1281 hx (t := .boolean) Bd.returns (by simp) (hb hby at_229) hr) (by show Q0n4 Z p0 p1 p2 p3 p4 h0 n0 _ T1281.heap _; rw [eh1281]; exact ⟨(by subst hw0_5; exact absurd ⟨hs137_2, hs145_3, hs152_4, hs159_5, hs166_6, hs211_15, hs218_16⟩ (own_fin1288 w0_1 (own_mem4 _ _ hw0_1) w0_2 (own_mem4 _ _ hw0_2) w0_4 (own_mem4 _ _ hw0_4))), N1281⟩) (by decide) (by decide)
                  · refine own_pre (A := T1281.setTop (mkF m 225 #[iv p0, iv p1, iv p2, iv p3, iv p4, iv (4:Int32), iv w0_1, iv w0_2, iv w0_3, iv w0_4, rv b1110, iv (f4 (0:Int32) (own_v1261 w0_2 w0_1)), iv (f5 (own_v1255 w0_2 w0_1)), iv (f6 (0:Int32) (own_v1263 w0_2 w0_1)), iv (f7 w0_4 (own_v1257 w0_2 w0_1)), iv (own_v1280 w0_4 w0_2 w0_1), iv (own_v1284 w0_3 w0_2 w0_1), iv w0_5] [(.int w0_2), (.int (f7 w0_4 (own_v1257 w0_2 w0_1)))])) (fun t k => ?_) ?_
                    · show Steps p.tables e below (T1281.setTop (mkF m 218 #[iv p0, iv p1, iv p2, iv p3, iv p4, iv (4:Int32), iv w0_1, iv w0_2, iv w0_3, iv w0_4, rv b1110, iv (f4 (0:Int32) (own_v1261 w0_2 w0_1)), iv (f5 (own_v1255 w0_2 w0_1)), iv (f6 (0:Int32) (own_v1263 w0_2 w0_1)), iv (f7 w0_4 (own_v1257 w0_2 w0_1)), iv (own_v1280 w0_4 w0_2 w0_1), iv (own_v1284 w0_3 w0_2 w0_1), iv w0_5] [(.int w0_1), (.int (f7 w0_4 (own_v1257 w0_2 w0_1)))])) _
                      refine XS.icmpNo X1281.here hx rfl (hb hby at_218) rfl (XT.ii_eq_f hs218_16) ?_
                      show Steps p.tables e below (T1281.setTop (mkF m 221 #[iv p0, iv p1, iv p2, iv p3, iv p4, iv (4:Int32), iv w0_1, iv w0_2, iv w0_3, iv w0_4, rv b1110, iv (f4 (0:Int32) (own_v1261 w0_2 w0_1)), iv (f5 (own_v1255 w0_2 w0_1)), iv (f6 (0:Int32) (own_v1263 w0_2 w0_1)), iv (f7 w0_4 (own_v1257 w0_2 w0_1)), iv (own_v1280 w0_4 w0_2 w0_1), iv (own_v1284 w0_3 w0_2 w0_1), iv w0_5] [])) _
                      refine XS.iload X1281.here hx rfl (hb hby at_221) rfl ?_
                      show Steps p.tables e below (T1281.setTop (mkF m 223 #[iv p0, iv p1, iv p2, iv p3, iv p4, iv (4:Int32), iv w0_1, iv w0_2, iv w0_3, iv w0_4, rv b1110, iv (f4 (0:Int32) (own_v1261 w0_2 w0_1)), iv (f5 (own_v1255 w0_2 w0_1)), iv (f6 (0:Int32) (own_v1263 w0_2 w0_1)), iv (f7 w0_4 (own_v1257 w0_2 w0_1)), iv (own_v1280 w0_4 w0_2 w0_1), iv (own_v1284 w0_3 w0_2 w0_1), iv w0_5] [(.int (f7 w0_4 (own_v1257 w0_2 w0_1)))])) _
                      refine XS.iload X1281.here hx rfl (hb hby at_223) rfl ?_
                      exact k
                    by_cases hs225_17 : (f7 w0_4 (own_v1257 w0_2 w0_1)) = w0_2
                    · refine own_pre (A := T1281.setTop (mkF m 229 #[iv p0, iv p1, iv p2, iv p3, iv p4, iv (4:Int32), iv w0_1, iv w0_2, iv w0_3, iv w0_4, rv b1110, iv (f4 (0:Int32) (own_v1261 w0_2 w0_1)), iv (f5 (own_v1255 w0_2 w0_1)), iv (f6 (0:Int32) (own_v1263 w0_2 w0_1)), iv (f7 w0_4 (own_v1257 w0_2 w0_1)), iv (own_v1280 w0_4 w0_2 w0_1), iv (own_v1284 w0_3 w0_2 w0_1), iv w0_5] [(.int (0:Int32))])) (fun t k => ?_) ?_
                      · show Steps p.tables e below (T1281.setTop (mkF m 225 #[iv p0, iv p1, iv p2, iv p3, iv p4, iv (4:Int32), iv w0_1, iv w0_2, iv w0_3, iv w0_4, rv b1110, iv (f4 (0:Int32) (own_v1261 w0_2 w0_1)), iv (f5 (own_v1255 w0_2 w0_1)), iv (f6 (0:Int32) (own_v1263 w0_2 w0_1)), iv (f7 w0_4 (own_v1257 w0_2 w0_1)), iv (own_v1280 w0_4 w0_2 w0_1), iv (own_v1284 w0_3 w0_2 w0_1), iv w0_5] [(.int w0_2), (.int (f7 w0_4 (own_v1257 w0_2 w0_1)))])) _
                        refine XS.icmpNo X1281.here hx rfl (hb hby at_225) rfl (XT.ii_ne_f hs225_17) ?_
                        show Steps p.tables e below (T1281.setTop (mkF m 228 #[iv p0, iv p1, iv p2, iv p3, iv p4, iv (4:Int32), iv w0_1, iv w0_2, iv w0_3, iv w0_4, rv b1110, iv (f4 (0:Int32) (own_v1261 w0_2 w0_1)), iv (f5 (own_v1255 w0_2 w0_1)), iv (f6 (0:Int32) (own_v1263 w0_2 w0_1)), iv (f7 w0_4 (own_v1257 w0_2 w0_1)), iv (own_v1280 w0_4 w0_2 w0_1), iv (own_v1284 w0_3 w0_2 w0_1), iv w0_5] [])) _
                        refine XS.iconst X1281.here hx rfl (hb hby at_228) ?_
                        exact k
                      exact own_end X1281 (BodyLoose.notSynchronized Bd) (fun h => by rw [Bd.returns] at h; cases h) (v := some (.int (0:Int32))) (fun fs hr => retN X1281 hx (t := .boolean) Bd.returns (by simp) (hb hby at_229) hr) (by show Q0n4 Z p0 p1 p2 p3 p4 h0 n0 _ T1281.heap _; rw [eh1281]; exact ⟨(by subst hw0_5; exact absurd ⟨hs137_2, hs145_3, hs152_4, hs159_5, hs166_6, hs211_15, hs218_16, hs225_17⟩ (own_fin1289 w0_1 (own_mem4 _ _ hw0_1) w0_2 (own_mem4 _ _ hw0_2) w0_4 (own_mem4 _ _ hw0_4))), N1281⟩) (by decide) (by decide)
                    · refine own_pre (A := T1281.setTop (mkF m 230 #[iv p0, iv p1, iv p2, iv p3, iv p4, iv (4:Int32), iv w0_1, iv w0_2, iv w0_3, iv w0_4, rv b1110, iv (f4 (0:Int32) (own_v1261 w0_2 w0_1)), iv (f5 (own_v1255 w0_2 w0_1)), iv (f6 (0:Int32) (own_v1263 w0_2 w0_1)), iv (f7 w0_4 (own_v1257 w0_2 w0_1)), iv (own_v1280 w0_4 w0_2 w0_1), iv (own_v1284 w0_3 w0_2 w0_1), iv w0_5] [])) (fun t k => ?_) ?_
                      · show Steps p.tables e below (T1281.setTop (mkF m 225 #[iv p0, iv p1, iv p2, iv p3, iv p4, iv (4:Int32), iv w0_1, iv w0_2, iv w0_3, iv w0_4, rv b1110, iv (f4 (0:Int32) (own_v1261 w0_2 w0_1)), iv (f5 (own_v1255 w0_2 w0_1)), iv (f6 (0:Int32) (own_v1263 w0_2 w0_1)), iv (f7 w0_4 (own_v1257 w0_2 w0_1)), iv (own_v1280 w0_4 w0_2 w0_1), iv (own_v1284 w0_3 w0_2 w0_1), iv w0_5] [(.int w0_2), (.int (f7 w0_4 (own_v1257 w0_2 w0_1)))])) _
                        refine XS.icmpYes X1281.here hx rfl (pc0 := 225) (pc' := 230) rfl (hb hby at_225) rfl (XT.ii_ne_t hs225_17) (by decide) (by decide) ?_
                        exact k
                      exact hJ230_9
              refine own_pre (A := T1281.setTop (mkF m 188 #[iv p0, iv p1, iv p2, iv p3, iv p4, iv (4:Int32), iv w0_1, iv w0_2, iv w0_3, iv w0_4, rv b1110, iv (f4 (0:Int32) (own_v1261 w0_2 w0_1)), iv (f5 (own_v1255 w0_2 w0_1)), iv (f6 (0:Int32) (own_v1263 w0_2 w0_1)), iv (f7 w0_4 (own_v1257 w0_2 w0_1)), iv (own_v1280 w0_4 w0_2 w0_1), iv (own_v1284 w0_3 w0_2 w0_1), iv w0_5] [(.int (1:Int32)), (.int w0_4)])) (fun t k => ?_) ?_
              · show Steps p.tables e below (T1281.setTop (mkF m 185 #[iv p0, iv p1, iv p2, iv p3, iv p4, iv (4:Int32), iv w0_1, iv w0_2, iv w0_3, iv w0_4, rv b1110, iv (f4 (0:Int32) (own_v1261 w0_2 w0_1)), iv (f5 (own_v1255 w0_2 w0_1)), iv (f6 (0:Int32) (own_v1263 w0_2 w0_1)), iv (f7 w0_4 (own_v1257 w0_2 w0_1)), iv (own_v1280 w0_4 w0_2 w0_1), iv (own_v1284 w0_3 w0_2 w0_1), iv w0_5] [])) _
                refine XS.iload X1281.here hx rfl (hb hby at_185) rfl ?_
                show Steps p.tables e below (T1281.setTop (mkF m 187 #[iv p0, iv p1, iv p2, iv p3, iv p4, iv (4:Int32), iv w0_1, iv w0_2, iv w0_3, iv w0_4, rv b1110, iv (f4 (0:Int32) (own_v1261 w0_2 w0_1)), iv (f5 (own_v1255 w0_2 w0_1)), iv (f6 (0:Int32) (own_v1263 w0_2 w0_1)), iv (f7 w0_4 (own_v1257 w0_2 w0_1)), iv (own_v1280 w0_4 w0_2 w0_1), iv (own_v1284 w0_3 w0_2 w0_1), iv w0_5] [(.int w0_4)])) _
                refine XS.iconst X1281.here hx rfl (hb hby at_187) ?_
                exact k
              by_cases hs188_18 : w0_4 = (1:Int32)
              · refine own_pre (A := T1281.setTop (mkF m 195 #[iv p0, iv p1, iv p2, iv p3, iv p4, iv (4:Int32), iv w0_1, iv w0_2, iv w0_3, iv w0_4, rv b1110, iv (f4 (0:Int32) (own_v1261 w0_2 w0_1)), iv (f5 (own_v1255 w0_2 w0_1)), iv (f6 (0:Int32) (own_v1263 w0_2 w0_1)), iv (f7 w0_4 (own_v1257 w0_2 w0_1)), iv (own_v1280 w0_4 w0_2 w0_1), iv (own_v1284 w0_3 w0_2 w0_1), iv w0_5] [(.int w0_2), (.int w0_1)])) (fun t k => ?_) ?_
                · show Steps p.tables e below (T1281.setTop (mkF m 188 #[iv p0, iv p1, iv p2, iv p3, iv p4, iv (4:Int32), iv w0_1, iv w0_2, iv w0_3, iv w0_4, rv b1110, iv (f4 (0:Int32) (own_v1261 w0_2 w0_1)), iv (f5 (own_v1255 w0_2 w0_1)), iv (f6 (0:Int32) (own_v1263 w0_2 w0_1)), iv (f7 w0_4 (own_v1257 w0_2 w0_1)), iv (own_v1280 w0_4 w0_2 w0_1), iv (own_v1284 w0_3 w0_2 w0_1), iv w0_5] [(.int (1:Int32)), (.int w0_4)])) _
                  refine XS.icmpNo X1281.here hx rfl (hb hby at_188) rfl (XT.ii_ne_f hs188_18) ?_
                  show Steps p.tables e below (T1281.setTop (mkF m 191 #[iv p0, iv p1, iv p2, iv p3, iv p4, iv (4:Int32), iv w0_1, iv w0_2, iv w0_3, iv w0_4, rv b1110, iv (f4 (0:Int32) (own_v1261 w0_2 w0_1)), iv (f5 (own_v1255 w0_2 w0_1)), iv (f6 (0:Int32) (own_v1263 w0_2 w0_1)), iv (f7 w0_4 (own_v1257 w0_2 w0_1)), iv (own_v1280 w0_4 w0_2 w0_1), iv (own_v1284 w0_3 w0_2 w0_1), iv w0_5] [])) _
                  refine XS.iload X1281.here hx rfl (hb hby at_191) rfl ?_
                  show Steps p.tables e below (T1281.setTop (mkF m 193 #[iv p0, iv p1, iv p2, iv p3, iv p4, iv (4:Int32), iv w0_1, iv w0_2, iv w0_3, iv w0_4, rv b1110, iv (f4 (0:Int32) (own_v1261 w0_2 w0_1)), iv (f5 (own_v1255 w0_2 w0_1)), iv (f6 (0:Int32) (own_v1263 w0_2 w0_1)), iv (f7 w0_4 (own_v1257 w0_2 w0_1)), iv (own_v1280 w0_4 w0_2 w0_1), iv (own_v1284 w0_3 w0_2 w0_1), iv w0_5] [(.int w0_1)])) _
                  refine XS.iload X1281.here hx rfl (hb hby at_193) rfl ?_
                  exact k
                by_cases hs195_19 : w0_1 = w0_2
                · refine own_pre (A := T1281.setTop (mkF m 207 #[iv p0, iv p1, iv p2, iv p3, iv p4, iv (4:Int32), iv w0_1, iv w0_2, iv w0_3, iv w0_4, rv b1110, iv (f4 (0:Int32) (own_v1261 w0_2 w0_1)), iv (f5 (own_v1255 w0_2 w0_1)), iv (f6 (0:Int32) (own_v1263 w0_2 w0_1)), iv (f7 w0_4 (own_v1257 w0_2 w0_1)), iv (own_v1280 w0_4 w0_2 w0_1), iv (own_v1284 w0_3 w0_2 w0_1), iv w0_5] [])) (fun t k => ?_) ?_
                  · show Steps p.tables e below (T1281.setTop (mkF m 195 #[iv p0, iv p1, iv p2, iv p3, iv p4, iv (4:Int32), iv w0_1, iv w0_2, iv w0_3, iv w0_4, rv b1110, iv (f4 (0:Int32) (own_v1261 w0_2 w0_1)), iv (f5 (own_v1255 w0_2 w0_1)), iv (f6 (0:Int32) (own_v1263 w0_2 w0_1)), iv (f7 w0_4 (own_v1257 w0_2 w0_1)), iv (own_v1280 w0_4 w0_2 w0_1), iv (own_v1284 w0_3 w0_2 w0_1), iv w0_5] [(.int w0_2), (.int w0_1)])) _
                    refine XS.icmpYes X1281.here hx rfl (pc0 := 195) (pc' := 207) rfl (hb hby at_195) rfl (XT.ii_eq_t hs195_19) (by decide) (by decide) ?_
                    exact k
                  exact hJ207_8
                · refine own_pre (A := T1281.setTop (mkF m 202 #[iv p0, iv p1, iv p2, iv p3, iv p4, iv (4:Int32), iv w0_1, iv w0_2, iv w0_3, iv w0_4, rv b1110, iv (f4 (0:Int32) (own_v1261 w0_2 w0_1)), iv (f5 (own_v1255 w0_2 w0_1)), iv (f6 (0:Int32) (own_v1263 w0_2 w0_1)), iv (f7 w0_4 (own_v1257 w0_2 w0_1)), iv (own_v1280 w0_4 w0_2 w0_1), iv (own_v1284 w0_3 w0_2 w0_1), iv w0_5] [(.int w0_2), (.int (f7 w0_4 (own_v1257 w0_2 w0_1)))])) (fun t k => ?_) ?_
                  · show Steps p.tables e below (T1281.setTop (mkF m 195 #[iv p0, iv p1, iv p2, iv p3, iv p4, iv (4:Int32), iv w0_1, iv w0_2, iv w0_3, iv w0_4, rv b1110, iv (f4 (0:Int32) (own_v1261 w0_2 w0_1)), iv (f5 (own_v1255 w0_2 w0_1)), iv (f6 (0:Int32) (own_v1263 w0_2 w0_1)), iv (f7 w0_4 (own_v1257 w0_2 w0_1)), iv (own_v1280 w0_4 w0_2 w0_1), iv (own_v1284 w0_3 w0_2 w0_1), iv w0_5] [(.int w0_2), (.int w0_1)])) _
                    refine XS.icmpNo X1281.here hx rfl (hb hby at_195) rfl (XT.ii_eq_f hs195_19) ?_
                    show Steps p.tables e below (T1281.setTop (mkF m 198 #[iv p0, iv p1, iv p2, iv p3, iv p4, iv (4:Int32), iv w0_1, iv w0_2, iv w0_3, iv w0_4, rv b1110, iv (f4 (0:Int32) (own_v1261 w0_2 w0_1)), iv (f5 (own_v1255 w0_2 w0_1)), iv (f6 (0:Int32) (own_v1263 w0_2 w0_1)), iv (f7 w0_4 (own_v1257 w0_2 w0_1)), iv (own_v1280 w0_4 w0_2 w0_1), iv (own_v1284 w0_3 w0_2 w0_1), iv w0_5] [])) _
                    refine XS.iload X1281.here hx rfl (hb hby at_198) rfl ?_
                    show Steps p.tables e below (T1281.setTop (mkF m 200 #[iv p0, iv p1, iv p2, iv p3, iv p4, iv (4:Int32), iv w0_1, iv w0_2, iv w0_3, iv w0_4, rv b1110, iv (f4 (0:Int32) (own_v1261 w0_2 w0_1)), iv (f5 (own_v1255 w0_2 w0_1)), iv (f6 (0:Int32) (own_v1263 w0_2 w0_1)), iv (f7 w0_4 (own_v1257 w0_2 w0_1)), iv (own_v1280 w0_4 w0_2 w0_1), iv (own_v1284 w0_3 w0_2 w0_1), iv w0_5] [(.int (f7 w0_4 (own_v1257 w0_2 w0_1)))])) _
                    refine XS.iload X1281.here hx rfl (hb hby at_200) rfl ?_
                    exact k
                  by_cases hs202_20 : (f7 w0_4 (own_v1257 w0_2 w0_1)) = w0_2
                  · refine own_pre (A := T1281.setTop (mkF m 207 #[iv p0, iv p1, iv p2, iv p3, iv p4, iv (4:Int32), iv w0_1, iv w0_2, iv w0_3, iv w0_4, rv b1110, iv (f4 (0:Int32) (own_v1261 w0_2 w0_1)), iv (f5 (own_v1255 w0_2 w0_1)), iv (f6 (0:Int32) (own_v1263 w0_2 w0_1)), iv (f7 w0_4 (own_v1257 w0_2 w0_1)), iv (own_v1280 w0_4 w0_2 w0_1), iv (own_v1284 w0_3 w0_2 w0_1), iv w0_5] [])) (fun t k => ?_) ?_
                    · show Steps p.tables e below (T1281.setTop (mkF m 202 #[iv p0, iv p1, iv p2, iv p3, iv p4, iv (4:Int32), iv w0_1, iv w0_2, iv w0_3, iv w0_4, rv b1110, iv (f4 (0:Int32) (own_v1261 w0_2 w0_1)), iv (f5 (own_v1255 w0_2 w0_1)), iv (f6 (0:Int32) (own_v1263 w0_2 w0_1)), iv (f7 w0_4 (own_v1257 w0_2 w0_1)), iv (own_v1280 w0_4 w0_2 w0_1), iv (own_v1284 w0_3 w0_2 w0_1), iv w0_5] [(.int w0_2), (.int (f7 w0_4 (own_v1257 w0_2 w0_1)))])) _
                      refine XS.icmpYes X1281.here hx rfl (pc0 := 202) (pc' := 207) rfl (hb hby at_202) rfl (XT.ii_eq_t hs202_20) (by decide) (by decide) ?_
                      exact k
                    exact hJ207_8
                  · refine own_pre (A := T1281.setTop (mkF m 206 #[iv p0, iv p1, iv p2, iv p3, iv p4, iv (4:Int32), iv w0_1, iv w0_2, iv w0_3, iv w0_4, rv b1110, iv (f4 (0:Int32) (own_v1261 w0_2 w0_1)), iv (f5 (own_v1255 w0_2 w0_1)), iv (f6 (0:Int32) (own_v1263 w0_2 w0_1)), iv (f7 w0_4 (own_v1257 w0_2 w0_1)), iv (own_v1280 w0_4 w0_2 w0_1), iv (own_v1284 w0_3 w0_2 w0_1), iv w0_5] [(.int (0:Int32))])) (fun t k => ?_) ?_
                    · show Steps p.tables e below (T1281.setTop (mkF m 202 #[iv p0, iv p1, iv p2, iv p3, iv p4, iv (4:Int32), iv w0_1, iv w0_2, iv w0_3, iv w0_4, rv b1110, iv (f4 (0:Int32) (own_v1261 w0_2 w0_1)), iv (f5 (own_v1255 w0_2 w0_1)), iv (f6 (0:Int32) (own_v1263 w0_2 w0_1)), iv (f7 w0_4 (own_v1257 w0_2 w0_1)), iv (own_v1280 w0_4 w0_2 w0_1), iv (own_v1284 w0_3 w0_2 w0_1), iv w0_5] [(.int w0_2), (.int (f7 w0_4 (own_v1257 w0_2 w0_1)))])) _
                      refine XS.icmpNo X1281.here hx rfl (hb hby at_202) rfl (XT.ii_eq_f hs202_20) ?_
                      show Steps p.tables e below (T1281.setTop (mkF m 205 #[iv p0, iv p1, iv p2, iv p3, iv p4, iv (4:Int32), iv w0_1, iv w0_2, iv w0_3, iv w0_4, rv b1110, iv (f4 (0:Int32) (own_v1261 w0_2 w0_1)), iv (f5 (own_v1255 w0_2 w0_1)), iv (f6 (0:Int32) (own_v1263 w0_2 w0_1)), iv (f7 w0_4 (own_v1257 w0_2 w0_1)), iv (own_v1280 w0_4 w0_2 w0_1), iv (own_v1284 w0_3 w0_2 w0_1), iv w0_5] [])) _
                      refine XS.iconst X1281.here hx rfl (hb hby at_205) ?_
                      exact k
                    exact own_end X1281 (BodyLoose.notSynchronized Bd) (fun h => by rw [Bd.returns] at h; cases h) (v := some (.int (0:Int32))) (fun fs hr => retN X1281 hx (t := .boolean) Bd.returns (by simp) (hb hby at_206) hr) (by show Q0n4 Z p0 p1 p2 p3 p4 h0 n0 _ T1281.heap _; rw [eh1281]; exact ⟨(by subst hw0_5; exact absurd ⟨hs137_2, hs145_3, hs152_4, hs159_5, hs166_6, hs188_18, hs195_19, hs202_20⟩ (own_fin1290 w0_1 (own_mem4 _ _ hw0_1) w0_2 (own_mem4 _ _ hw0_2) w0_4 (own_mem4 _ _ hw0_4))), N1281⟩) (by decide) (by decide)
              · refine own_pre (A := T1281.setTop (mkF m 207 #[iv p0, iv p1, iv p2, iv p3, iv p4, iv (4:Int32), iv w0_1, iv w0_2, iv w0_3, iv w0_4, rv b1110, iv (f4 (0:Int32) (own_v1261 w0_2 w0_1)), iv (f5 (own_v1255 w0_2 w0_1)), iv (f6 (0:Int32) (own_v1263 w0_2 w0_1)), iv (f7 w0_4 (own_v1257 w0_2 w0_1)), iv (own_v1280 w0_4 w0_2 w0_1), iv (own_v1284 w0_3 w0_2 w0_1), iv w0_5] [])) (fun t k => ?_) ?_
                · show Steps p.tables e below (T1281.setTop (mkF m 188 #[iv p0, iv p1, iv p2, iv p3, iv p4, iv (4:Int32), iv w0_1, iv w0_2, iv w0_3, iv w0_4, rv b1110, iv (f4 (0:Int32) (own_v1261 w0_2 w0_1)), iv (f5 (own_v1255 w0_2 w0_1)), iv (f6 (0:Int32) (own_v1263 w0_2 w0_1)), iv (f7 w0_4 (own_v1257 w0_2 w0_1)), iv (own_v1280 w0_4 w0_2 w0_1), iv (own_v1284 w0_3 w0_2 w0_1), iv w0_5] [(.int (1:Int32)), (.int w0_4)])) _
                  refine XS.icmpYes X1281.here hx rfl (pc0 := 188) (pc' := 207) rfl (hb hby at_188) rfl (XT.ii_ne_t hs188_18) (by decide) (by decide) ?_
                  exact k
                exact hJ207_8
            refine own_pre (A := T1281.setTop (mkF m 173 #[iv p0, iv p1, iv p2, iv p3, iv p4, iv (4:Int32), iv w0_1, iv w0_2, iv w0_3, iv w0_4, rv b1110, iv (f4 (0:Int32) (own_v1261 w0_2 w0_1)), iv (f5 (own_v1255 w0_2 w0_1)), iv (f6 (0:Int32) (own_v1263 w0_2 w0_1)), iv (f7 w0_4 (own_v1257 w0_2 w0_1)), iv (own_v1280 w0_4 w0_2 w0_1), iv (own_v1284 w0_3 w0_2 w0_1), iv w0_5] [(.int w0_4)])) (fun t k => ?_) ?_
            · show Steps p.tables e below (T1281.setTop (mkF m 171 #[iv p0, iv p1, iv p2, iv p3, iv p4, iv (4:Int32), iv w0_1, iv w0_2, iv w0_3, iv w0_4, rv b1110, iv (f4 (0:Int32) (own_v1261 w0_2 w0_1)), iv (f5 (own_v1255 w0_2 w0_1)), iv (f6 (0:Int32) (own_v1263 w0_2 w0_1)), iv (f7 w0_4 (own_v1257 w0_2 w0_1)), iv (own_v1280 w0_4 w0_2 w0_1), iv (own_v1284 w0_3 w0_2 w0_1), iv w0_5] [])) _
              refine XS.iload X1281.here hx rfl (hb hby at_171) rfl ?_
              exact k
            by_cases hs173_21 : w0_4 = (0:Int32)
            · refine own_pre (A := T1281.setTop (mkF m 180 #[iv p0, iv p1, iv p2, iv p3, iv p4, iv (4:Int32), iv w0_1, iv w0_2, iv w0_3, iv w0_4, rv b1110, iv (f4 (0:Int32) (own_v1261 w0_2 w0_1)), iv (f5 (own_v1255 w0_2 w0_1)), iv (f6 (0:Int32) (own_v1263 w0_2 w0_1)), iv (f7 w0_4 (own_v1257 w0_2 w0_1)), iv (own_v1280 w0_4 w0_2 w0_1), iv (own_v1284 w0_3 w0_2 w0_1), iv w0_5] [(.int w0_1), (.int (f7 w0_4 (own_v1257 w0_2 w0_1)))])) (fun t k => ?_) ?_
              · show Steps p.tables e below (T1281.setTop (mkF m 173 #[iv p0, iv p1, iv p2, iv p3, iv p4, iv (4:Int32), iv w0_1, iv w0_2, iv w0_3, iv w0_4, rv b1110, iv (f4 (0:Int32) (own_v1261 w0_2 w0_1)), iv (f5 (own_v1255 w0_2 w0_1)), iv (f6 (0:Int32) (own_v1263 w0_2 w0_1)), iv (f7 w0_4 (own_v1257 w0_2 w0_1)), iv (own_v1280 w0_4 w0_2 w0_1), iv (own_v1284 w0_3 w0_2 w0_1), iv w0_5] [(.int w0_4)])) _
                refine XS.ifNo X1281.here hx rfl (hb hby at_173) rfl (XT.i0_ne_f hs173_21) ?_
                show Steps p.tables e below (T1281.setTop (mkF m 176 #[iv p0, iv p1, iv p2, iv p3, iv p4, iv (4:Int32), iv w0_1, iv w0_2, iv w0_3, iv w0_4, rv b1110, iv (f4 (0:Int32) (own_v1261 w0_2 w0_1)), iv (f5 (own_v1255 w0_2 w0_1)), iv (f6 (0:Int32) (own_v1263 w0_2 w0_1)), iv (f7 w0_4 (own_v1257 w0_2 w0_1)), iv (own_v1280 w0_4 w0_2 w0_1), iv (own_v1284 w0_3 w0_2 w0_1), iv w0_5] [])) _
                refine XS.iload X1281.here hx rfl (hb hby at_176) rfl ?_
                show Steps p.tables e below (T1281.setTop (mkF m 178 #[iv p0, iv p1, iv p2, iv p3, iv p4, iv (4:Int32), iv w0_1, iv w0_2, iv w0_3, iv w0_4, rv b1110, iv (f4 (0:Int32) (own_v1261 w0_2 w0_1)), iv (f5 (own_v1255 w0_2 w0_1)), iv (f6 (0:Int32) (own_v1263 w0_2 w0_1)), iv (f7 w0_4 (own_v1257 w0_2 w0_1)), iv (own_v1280 w0_4 w0_2 w0_1), iv (own_v1284 w0_3 w0_2 w0_1), iv w0_5] [(.int (f7 w0_4 (own_v1257 w0_2 w0_1)))])) _
                refine XS.iload X1281.here hx rfl (hb hby at_178) rfl ?_
                exact k
              by_cases hs180_22 : (f7 w0_4 (own_v1257 w0_2 w0_1)) = w0_1
              · refine own_pre (A := T1281.setTop (mkF m 185 #[iv p0, iv p1, iv p2, iv p3, iv p4, iv (4:Int32), iv w0_1, iv w0_2, iv w0_3, iv w0_4, rv b1110, iv (f4 (0:Int32) (own_v1261 w0_2 w0_1)), iv (f5 (own_v1255 w0_2 w0_1)), iv (f6 (0:Int32) (own_v1263 w0_2 w0_1)), iv (f7 w0_4 (own_v1257 w0_2 w0_1)), iv (own_v1280 w0_4 w0_2 w0_1), iv (own_v1284 w0_3 w0_2 w0_1), iv w0_5] [])) (fun t k => ?_) ?_
                · show Steps p.tables e below (T1281.setTop (mkF m 180 #[iv p0, iv p1, iv p2, iv p3, iv p4, iv (4:Int32), iv w0_1, iv w0_2, iv w0_3, iv w0_4, rv b1110, iv (f4 (0:Int32) (own_v1261 w0_2 w0_1)), iv (f5 (own_v1255 w0_2 w0_1)), iv (f6 (0:Int32) (own_v1263 w0_2 w0_1)), iv (f7 w0_4 (own_v1257 w0_2 w0_1)), iv (own_v1280 w0_4 w0_2 w0_1), iv (own_v1284 w0_3 w0_2 w0_1), iv w0_5] [(.int w0_1), (.int (f7 w0_4 (own_v1257 w0_2 w0_1)))])) _
                  refine XS.icmpYes X1281.here hx rfl (pc0 := 180) (pc' := 185) rfl (hb hby at_180) rfl (XT.ii_eq_t hs180_22) (by decide) (by decide) ?_
                  exact k
                exact hJ185_7
              · refine own_pre (A := T1281.setTop (mkF m 184 #[iv p0, iv p1, iv p2, iv p3, iv p4, iv (4:Int32), iv w0_1, iv w0_2, iv w0_3, iv w0_4, rv b1110, iv (f4 (0:Int32) (own_v1261 w0_2 w0_1)), iv (f5 (own_v1255 w0_2 w0_1)), iv (f6 (0:Int32) (own_v1263 w0_2 w0_1)), iv (f7 w0_4 (own_v1257 w0_2 w0_1)), iv (own_v1280 w0_4 w0_2 w0_1), iv (own_v1284 w0_3 w0_2 w0_1), iv w0_5] [(.int (0:Int32))])) (fun t k => ?_) ?_
                · show Steps p.tables e below (T1281.setTop (mkF m 180 #[iv p0, iv p1, iv p2, iv p3, iv p4, iv (4:Int32), iv w0_1, iv w0_2, iv w0_3, iv w0_4, rv b1110, iv (f4 (0:Int32) (own_v1261 w0_2 w0_1)), iv (f5 (own_v1255 w0_2 w0_1)), iv (f6 (0:Int32) (own_v1263 w0_2 w0_1)), iv (f7 w0_4 (own_v1257 w0_2 w0_1)), iv (own_v1280 w0_4 w0_2 w0_1), iv (own_v1284 w0_3 w0_2 w0_1), iv w0_5] [(.int w0_1), (.int (f7 w0_4 (own_v1257 w0_2 w0_1)))])) _
                  refine XS.icmpNo X1281.here hx rfl (hb hby at_180) rfl (XT.ii_eq_f hs180_22) ?_
                  show Steps p.tables e below (T1281.setTop (mkF m 183 #[iv p0, iv p1, iv p2, iv p3, iv p4, iv (4:Int32), iv w0_1, iv w0_2, iv w0_3, iv w0_4, rv b1110, iv (f4 (0:Int32) (own_v1261 w0_2 w0_1)), iv (f5 (own_v1255 w0_2 w0_1)), iv (f6 (0:Int32) (own_v1263 w0_2 w0_1)), iv (f7 w0_4 (own_v1257 w0_2 w0_1)), iv (own_v1280 w0_4 w0_2 w0_1), iv (own_v1284 w0_3 w0_2 w0_1), iv w0_5] [])) _
                  refine XS.iconst X1281.here hx rfl (hb hby at_183) ?_
                  exact k
                exact own_end X1281 (BodyLoose.notSynchronized Bd) (fun h => by rw [Bd.returns] at h; cases h) (v := some (.int (0:Int32))) (fun fs hr => retN X1281 hx (t := .boolean) Bd.returns (by simp) (hb hby at_184) hr) (by show Q0n4 Z p0 p1 p2 p3 p4 h0 n0 _ T1281.heap _; rw [eh1281]; exact ⟨(by subst hw0_5; exact absurd ⟨hs137_2, hs145_3, hs152_4, hs159_5, hs166_6, hs173_21, hs180_22⟩ (own_fin1291 w0_1 (own_mem4 _ _ hw0_1) w0_2 (own_mem4 _ _ hw0_2) w0_4 (own_mem4 _ _ hw0_4))), N1281⟩) (by decide) (by decide)
            · refine own_pre (A := T1281.setTop (mkF m 185 #[iv p0, iv p1, iv p2, iv p3, iv p4, iv (4:Int32), iv w0_1, iv w0_2, iv w0_3, iv w0_4, rv b1110, iv (f4 (0:Int32) (own_v1261 w0_2 w0_1)), iv (f5 (own_v1255 w0_2 w0_1)), iv (f6 (0:Int32) (own_v1263 w0_2 w0_1)), iv (f7 w0_4 (own_v1257 w0_2 w0_1)), iv (own_v1280 w0_4 w0_2 w0_1), iv (own_v1284 w0_3 w0_2 w0_1), iv w0_5] [])) (fun t k => ?_) ?_
              · show Steps p.tables e below (T1281.setTop (mkF m 173 #[iv p0, iv p1, iv p2, iv p3, iv p4, iv (4:Int32), iv w0_1, iv w0_2, iv w0_3, iv w0_4, rv b1110, iv (f4 (0:Int32) (own_v1261 w0_2 w0_1)), iv (f5 (own_v1255 w0_2 w0_1)), iv (f6 (0:Int32) (own_v1263 w0_2 w0_1)), iv (f7 w0_4 (own_v1257 w0_2 w0_1)), iv (own_v1280 w0_4 w0_2 w0_1), iv (own_v1284 w0_3 w0_2 w0_1), iv w0_5] [(.int w0_4)])) _
                refine XS.ifYes X1281.here hx rfl (pc0 := 173) (pc' := 185) rfl (hb hby at_173) rfl (XT.i0_ne_t hs173_21) (by decide) (by decide) ?_
                exact k
              exact hJ185_7
          · refine own_pre (A := T1281.setTop (mkF m 170 #[iv p0, iv p1, iv p2, iv p3, iv p4, iv (4:Int32), iv w0_1, iv w0_2, iv w0_3, iv w0_4, rv b1110, iv (f4 (0:Int32) (own_v1261 w0_2 w0_1)), iv (f5 (own_v1255 w0_2 w0_1)), iv (f6 (0:Int32) (own_v1263 w0_2 w0_1)), iv (f7 w0_4 (own_v1257 w0_2 w0_1)), iv (own_v1280 w0_4 w0_2 w0_1), iv (own_v1284 w0_3 w0_2 w0_1), iv w0_5] [(.int (0:Int32))])) (fun t k => ?_) ?_
            · show Steps p.tables e below (T1281.setTop (mkF m 166 #[iv p0, iv p1, iv p2, iv p3, iv p4, iv (4:Int32), iv w0_1, iv w0_2, iv w0_3, iv w0_4, rv b1110, iv (f4 (0:Int32) (own_v1261 w0_2 w0_1)), iv (f5 (own_v1255 w0_2 w0_1)), iv (f6 (0:Int32) (own_v1263 w0_2 w0_1)), iv (f7 w0_4 (own_v1257 w0_2 w0_1)), iv (own_v1280 w0_4 w0_2 w0_1), iv (own_v1284 w0_3 w0_2 w0_1), iv w0_5] [(.int (4:Int32)), (.int (f7 w0_4 (own_v1257 w0_2 w0_1)))])) _
              refine XS.icmpNo X1281.here hx rfl (hb hby at_166) rfl (XT.ii_lt_f hs166_6) ?_
              show Steps p.tables e below (T1281.setTop (mkF m 169 #[iv p0, iv p1, iv p2, iv p3, iv p4, iv (4:Int32), iv w0_1, iv w0_2, iv w0_3, iv w0_4, rv b1110, iv (f4 (0:Int32) (own_v1261 w0_2 w0_1)), iv (f5 (own_v1255 w0_2 w0_1)), iv (f6 (0:Int32) (own_v1263 w0_2 w0_1)), iv (f7 w0_4 (own_v1257 w0_2 w0_1)), iv (own_v1280 w0_4 w0_2 w0_1), iv (own_v1284 w0_3 w0_2 w0_1), iv w0_5] [])) _
              refine XS.iconst X1281.here hx rfl (hb hby at_169) ?_
              exact k
            exact own_end X1281 (BodyLoose.notSynchronized Bd) (fun h => by rw [Bd.returns] at h; cases h) (v := some (.int (0:Int32))) (fun fs hr => retN X1281 hx (t := .boolean) Bd.returns (by simp) (hb hby at_170) hr) (by show Q0n4 Z p0 p1 p2 p3 p4 h0 n0 _ T1281.heap _; rw [eh1281]; exact ⟨(by subst hw0_5; exact absurd ⟨hs137_2, hs145_3, hs152_4, hs159_5, hs166_6⟩ (own_fin1292 w0_1 (own_mem4 _ _ hw0_1) w0_2 (own_mem4 _ _ hw0_2) w0_4 (own_mem4 _ _ hw0_4))), N1281⟩) (by decide) (by decide)
      · refine own_pre (A := T1281.setTop (mkF m 156 #[iv p0, iv p1, iv p2, iv p3, iv p4, iv (4:Int32), iv w0_1, iv w0_2, iv w0_3, iv w0_4, rv b1110, iv (f4 (0:Int32) (own_v1261 w0_2 w0_1)), iv (f5 (own_v1255 w0_2 w0_1)), iv (f6 (0:Int32) (own_v1263 w0_2 w0_1)), iv (f7 w0_4 (own_v1257 w0_2 w0_1)), iv (own_v1280 w0_4 w0_2 w0_1), iv (own_v1284 w0_3 w0_2 w0_1), iv w0_5] [(.int (0:Int32))])) (fun t k => ?_) ?_
        · show Steps p.tables e below (T1281.setTop (mkF m 152 #[iv p0, iv p1, iv p2, iv p3, iv p4, iv (4:Int32), iv w0_1, iv w0_2, iv w0_3, iv w0_4, rv b1110, iv (f4 (0:Int32) (own_v1261 w0_2 w0_1)), iv (f5 (own_v1255 w0_2 w0_1)), iv (f6 (0:Int32) (own_v1263 w0_2 w0_1)), iv (f7 w0_4 (own_v1257 w0_2 w0_1)), iv (own_v1280 w0_4 w0_2 w0_1), iv (own_v1284 w0_3 w0_2 w0_1), iv w0_5] [(.int (f6 (0:Int32) (own_v1263 w0_2 w0_1)))])) _
          refine XS.ifNo X1281.here hx rfl (hb hby at_152) rfl (XT.i0_eq_f hs152_4) ?_
          show Steps p.tables e below (T1281.setTop (mkF m 155 #[iv p0, iv p1, iv p2, iv p3, iv p4, iv (4:Int32), iv w0_1, iv w0_2, iv w0_3, iv w0_4, rv b1110, iv (f4 (0:Int32) (own_v1261 w0_2 w0_1)), iv (f5 (own_v1255 w0_2 w0_1)), iv (f6 (0:Int32) (own_v1263 w0_2 w0_1)), iv (f7 w0_4 (own_v1257 w0_2 w0_1)), iv (own_v1280 w0_4 w0_2 w0_1), iv (own_v1284 w0_3 w0_2 w0_1), iv w0_5] [])) _
          refine XS.iconst X1281.here hx rfl (hb hby at_155) ?_
          exact k
        exact own_end X1281 (BodyLoose.notSynchronized Bd) (fun h => by rw [Bd.returns] at h; cases h) (v := some (.int (0:Int32))) (fun fs hr => retN X1281 hx (t := .boolean) Bd.returns (by simp) (hb hby at_156) hr) (by show Q0n4 Z p0 p1 p2 p3 p4 h0 n0 _ T1281.heap _; rw [eh1281]; exact ⟨(by subst hw0_5; exact absurd ⟨hs137_2, hs145_3, hs152_4⟩ (own_fin1293 w0_1 (own_mem4 _ _ hw0_1) w0_2 (own_mem4 _ _ hw0_2))), N1281⟩) (by decide) (by decide)
    · refine own_pre (A := T1281.setTop (mkF m 149 #[iv p0, iv p1, iv p2, iv p3, iv p4, iv (4:Int32), iv w0_1, iv w0_2, iv w0_3, iv w0_4, rv b1110, iv (f4 (0:Int32) (own_v1261 w0_2 w0_1)), iv (f5 (own_v1255 w0_2 w0_1)), iv (f6 (0:Int32) (own_v1263 w0_2 w0_1)), iv (f7 w0_4 (own_v1257 w0_2 w0_1)), iv (own_v1280 w0_4 w0_2 w0_1), iv (own_v1284 w0_3 w0_2 w0_1), iv w0_5] [(.int (0:Int32))])) (fun t k => ?_) ?_
      · show Steps p.tables e below (T1281.setTop (mkF m 145 #[iv p0, iv p1, iv p2, iv p3, iv p4, iv (4:Int32), iv w0_1, iv w0_2, iv w0_3, iv w0_4, rv b1110, iv (f4 (0:Int32) (own_v1261 w0_2 w0_1)), iv (f5 (own_v1255 w0_2 w0_1)), iv (f6 (0:Int32) (own_v1263 w0_2 w0_1)), iv (f7 w0_4 (own_v1257 w0_2 w0_1)), iv (own_v1280 w0_4 w0_2 w0_1), iv (own_v1284 w0_3 w0_2 w0_1), iv w0_5] [(.int (1:Int32)), (.int (f5 (own_v1255 w0_2 w0_1)))])) _
        refine XS.icmpNo X1281.here hx rfl (hb hby at_145) rfl (XT.ii_eq_f hs145_3) ?_
        show Steps p.tables e below (T1281.setTop (mkF m 148 #[iv p0, iv p1, iv p2, iv p3, iv p4, iv (4:Int32), iv w0_1, iv w0_2, iv w0_3, iv w0_4, rv b1110, iv (f4 (0:Int32) (own_v1261 w0_2 w0_1)), iv (f5 (own_v1255 w0_2 w0_1)), iv (f6 (0:Int32) (own_v1263 w0_2 w0_1)), iv (f7 w0_4 (own_v1257 w0_2 w0_1)), iv (own_v1280 w0_4 w0_2 w0_1), iv (own_v1284 w0_3 w0_2 w0_1), iv w0_5] [])) _
        refine XS.iconst X1281.here hx rfl (hb hby at_148) ?_
        exact k
      exact own_end X1281 (BodyLoose.notSynchronized Bd) (fun h => by rw [Bd.returns] at h; cases h) (v := some (.int (0:Int32))) (fun fs hr => retN X1281 hx (t := .boolean) Bd.returns (by simp) (hb hby at_149) hr) (by show Q0n4 Z p0 p1 p2 p3 p4 h0 n0 _ T1281.heap _; rw [eh1281]; exact ⟨(by subst hw0_5; exact absurd ⟨hs137_2, hs145_3⟩ (own_fin1294 w0_1 (own_mem4 _ _ hw0_1) w0_2 (own_mem4 _ _ hw0_2))), N1281⟩) (by decide) (by decide)
  · refine own_pre (A := T1281.setTop (mkF m 141 #[iv p0, iv p1, iv p2, iv p3, iv p4, iv (4:Int32), iv w0_1, iv w0_2, iv w0_3, iv w0_4, rv b1110, iv (f4 (0:Int32) (own_v1261 w0_2 w0_1)), iv (f5 (own_v1255 w0_2 w0_1)), iv (f6 (0:Int32) (own_v1263 w0_2 w0_1)), iv (f7 w0_4 (own_v1257 w0_2 w0_1)), iv (own_v1280 w0_4 w0_2 w0_1), iv (own_v1284 w0_3 w0_2 w0_1), iv w0_5] [(.int (0:Int32))])) (fun t k => ?_) ?_
    · show Steps p.tables e below (T1281.setTop (mkF m 137 #[iv p0, iv p1, iv p2, iv p3, iv p4, iv (4:Int32), iv w0_1, iv w0_2, iv w0_3, iv w0_4, rv b1110, iv (f4 (0:Int32) (own_v1261 w0_2 w0_1)), iv (f5 (own_v1255 w0_2 w0_1)), iv (f6 (0:Int32) (own_v1263 w0_2 w0_1)), iv (f7 w0_4 (own_v1257 w0_2 w0_1)), iv (own_v1280 w0_4 w0_2 w0_1), iv (own_v1284 w0_3 w0_2 w0_1), iv w0_5] [(.int w0_5), (.int (f4 (0:Int32) (own_v1261 w0_2 w0_1)))])) _
      refine XS.icmpNo X1281.here hx rfl (hb hby at_137) rfl (XT.ii_eq_f hs137_2) ?_
      show Steps p.tables e below (T1281.setTop (mkF m 140 #[iv p0, iv p1, iv p2, iv p3, iv p4, iv (4:Int32), iv w0_1, iv w0_2, iv w0_3, iv w0_4, rv b1110, iv (f4 (0:Int32) (own_v1261 w0_2 w0_1)), iv (f5 (own_v1255 w0_2 w0_1)), iv (f6 (0:Int32) (own_v1263 w0_2 w0_1)), iv (f7 w0_4 (own_v1257 w0_2 w0_1)), iv (own_v1280 w0_4 w0_2 w0_1), iv (own_v1284 w0_3 w0_2 w0_1), iv w0_5] [])) _
      refine XS.iconst X1281.here hx rfl (hb hby at_140) ?_
      exact k
    exact own_end X1281 (BodyLoose.notSynchronized Bd) (fun h => by rw [Bd.returns] at h; cases h) (v := some (.int (0:Int32))) (fun fs hr => retN X1281 hx (t := .boolean) Bd.returns (by simp) (hb hby at_141) hr) (by show Q0n4 Z p0 p1 p2 p3 p4 h0 n0 _ T1281.heap _; rw [eh1281]; exact ⟨(by subst hw0_5; exact absurd hs137_2 (own_fin1295 w0_1 (own_mem4 _ _ hw0_1) w0_2 (own_mem4 _ _ hw0_2))), N1281⟩) (by decide) (by decide)
theorem own_len4 (p0 : Int32) : ((1:Int32) + (p0 &&& (3:Int32))) = (1:Int32) ∨ ((1:Int32) + (p0 &&& (3:Int32))) = (2:Int32) ∨ ((1:Int32) + (p0 &&& (3:Int32))) = (3:Int32) ∨ ((1:Int32) + (p0 &&& (3:Int32))) = (4:Int32) := by
  have e : (p0 &&& (3:Int32)).toInt = p0.toInt % 2 ^ 2 := Jvm.Kit.i32_mask p0 _ (k := 2) (by decide) (by decide)
  have l1 : (1:Int32).toInt = 1 := by decide
  have l2 : (2:Int32).toInt = 2 := by decide
  have l3 : (3:Int32).toInt = 3 := by decide
  have l4 : (4:Int32).toInt = 4 := by decide
  have e2 : ((1:Int32) + (p0 &&& (3:Int32))).toInt = 1 + p0.toInt % 2 ^ 2 := by rw [Jvm.Kit.i32_add (by rw [e, l1]; omega) (by rw [e, l1]; omega), e, l1]
  simp only [← Int32.toInt_inj, e2, l1, l2, l3, l4]; omega
set_option maxRecDepth 65536 in
set_option maxHeartbeats 40000000 in
theorem comes_1 {Post : Tables → Env → Array Value → State → Outcome → State → Prop} (hpost : ∀ tb e args s v u, (limb_1_1.after args s (.returned v) u = true ∧ limb_1_2.after args s (.returned v) u = true ∧ True) → FrameEnd s (.returned v) u (Jvm.fieldLocs frame_1_writes args s ++ Jvm.arrayLocs frame_1_arrays args s ++ Jvm.staticLocs frame_1_statics s) 24 192 → Post tb e args s (.returned v) u) :
    ArmFor flags0 classFile x code maxLocals ret World_1 tables_1 room_1 Calls_1 rest_1 Pre_1 Post := by
  intro l hfl _ _ p e ha hc hk s m args below hf hA hF happ hP
  obtain ⟨hcalls, hrest, hpre⟩ := hP
  obtain ⟨-, -, -, hnamed, -, -, -, hat⟩ := (Spec.applies_iff hf).mp happ
  obtain ⟨hg, hn⟩ := and_e (Cond.before_iff.mp (show (Jvm.Cond.and given_1 narrow_1).before args s = true from hpre))
  obtain ⟨g2, g3⟩ := and_e hg
  obtain ⟨g4, g5⟩ := and_e g3
  obtain ⟨g6, g7⟩ := and_e g5
  obtain ⟨g8, g9⟩ := and_e g7
  obtain ⟨g10, g11⟩ := and_e g9
  obtain ⟨w0, w1, w2, w3, w4, rfl⟩ : ∃ w0 w1 w2 w3 w4 : Value, args = #[w0, w1, w2, w3, w4] := by
    have hs : args.size = 5 := by simpa [Cond.value, given_1] using g2
    obtain ⟨L⟩ := args
    match L, hs with
    | [w0, w1, w2, w3, w4], _ => exact ⟨w0, w1, w2, w3, w4, rfl⟩
  have hw := fun d (hd : d ∈ tables_1) => atoms_spec (ws := Jvm.Cond.code x code maxLocals ret :: tables_1) hat d (List.mem_cons_of_mem _ hd)
  obtain ⟨i0, ei0⟩ := is_v g4
  obtain rfl : w0 = (.int i0) := Option.some.inj ei0
  obtain ⟨i1, ei1⟩ := is_v g6
  obtain rfl : w1 = (.int i1) := Option.some.inj ei1
  obtain ⟨i2, ei2⟩ := is_v g8
  obtain rfl : w2 = (.int i2) := Option.some.inj ei2
  obtain ⟨i3, ei3⟩ := is_v g10
  obtain rfl : w3 = (.int i3) := Option.some.inj ei3
  obtain ⟨i4, ei4⟩ := is_v g11
  obtain rfl : w4 = (.int i4) := Option.some.inj ei4
  rcases own_len4 i0 with hl | hl | hl | hl
  · obtain ⟨n, o, h1, h2, h3, _, L, rfl, ⟨hv, N⟩, hq⟩ := rm0n1 l s _ hw tables_1 i0 i1 i2 i3 i4 s.heap s.heap.size (Nat.le_refl _) hl p e ha hc hk s m _ below hf ((Spec.applies_iff_loose hf).mp happ).1 ⟨rfl, State.Warmed39.refl s, rfl⟩ trivial
    subst hv
    refine ⟨n, _, h1, h2, h3, hpost _ _ _ _ _ _ ⟨Cond.after_iff.mpr rfl, Cond.after_iff.mpr (eq_i res_at (Term.int_eval (1)) rfl), trivial⟩ ⟨hq.1, hq.2.1, (hq.2.2.sift fun y hy => Or.inr (N y hy)).mono (by decide) (by decide)⟩⟩
  · obtain ⟨n, o, h1, h2, h3, _, L, rfl, ⟨hv, N⟩, hq⟩ := rm0n2 l s _ hw tables_1 i0 i1 i2 i3 i4 s.heap s.heap.size (Nat.le_refl _) hl p e ha hc hk s m _ below hf ((Spec.applies_iff_loose hf).mp happ).1 ⟨rfl, State.Warmed39.refl s, rfl⟩ trivial
    subst hv
    refine ⟨n, _, h1, h2, h3, hpost _ _ _ _ _ _ ⟨Cond.after_iff.mpr rfl, Cond.after_iff.mpr (eq_i res_at (Term.int_eval (1)) rfl), trivial⟩ ⟨hq.1, hq.2.1, (hq.2.2.sift fun y hy => Or.inr (N y hy)).mono (by decide) (by decide)⟩⟩
  · obtain ⟨n, o, h1, h2, h3, _, L, rfl, ⟨hv, N⟩, hq⟩ := rm0n3 l s _ hw tables_1 i0 i1 i2 i3 i4 s.heap s.heap.size (Nat.le_refl _) hl p e ha hc hk s m _ below hf ((Spec.applies_iff_loose hf).mp happ).1 ⟨rfl, State.Warmed39.refl s, rfl⟩ trivial
    subst hv
    refine ⟨n, _, h1, h2, h3, hpost _ _ _ _ _ _ ⟨Cond.after_iff.mpr rfl, Cond.after_iff.mpr (eq_i res_at (Term.int_eval (1)) rfl), trivial⟩ ⟨hq.1, hq.2.1, (hq.2.2.sift fun y hy => Or.inr (N y hy)).mono (by decide) (by decide)⟩⟩
  · obtain ⟨n, o, h1, h2, h3, _, L, rfl, ⟨hv, N⟩, hq⟩ := rm0n4 l s _ hw tables_1 i0 i1 i2 i3 i4 s.heap s.heap.size (Nat.le_refl _) hl p e ha hc hk s m _ below hf ((Spec.applies_iff_loose hf).mp happ).1 ⟨rfl, State.Warmed39.refl s, rfl⟩ trivial
    subst hv
    refine ⟨n, _, h1, h2, h3, hpost _ _ _ _ _ _ ⟨Cond.after_iff.mpr rfl, Cond.after_iff.mpr (eq_i res_at (Term.int_eval (1)) rfl), trivial⟩ ⟨hq.1, hq.2.1, (hq.2.2.sift fun y hy => Or.inr (N y hy)).mono (by decide) (by decide)⟩⟩
theorem main_1_1 : Claimed_1_1 := comes_1 fun _ _ _ _ _ _ h hF => ⟨h.1, hF⟩
theorem main_1_2 : Claimed_1_2 := comes_1 fun _ _ _ _ _ _ h hF => ⟨h.2.1, hF⟩
end Jvm.Pilot.@@N@@
namespace Jvm.Pilot.@@N@@
open Jvm Jvm.ClassFile Sem Op Lib Jvm.Free Jvm.Stand Jvm.Pilot.@@N@@.Jvm.D
/-! MADE BY PROGRAM (witnessworld.py) out of the Statement's table words and the real class files: 9 classes; the members and pool entries that the words name. The judged class is class 1, her method 1. -/
namespace start1
open Jvm.ClassFile
def u (s : String) : CpInfo := .utf8 (stringToUtf16 s)
/-- a pool by its gaps: so many unusable entries, then the entry; so many at the end -/
def gap : Nat → List CpInfo → List CpInfo
  | 0, r => r
  | n + 1, r => .unusable :: gap n r
def poolList (es : List (Nat × CpInfo)) (last : Nat) : List CpInfo := es.foldr (fun e r => gap e.1 (e.2 :: r)) (gap last [])
def pool (es : List (Nat × CpInfo)) (last : Nat) : Array CpInfo := ⟨poolList es last⟩
def fileOf (pool : Array CpInfo) (this : Nat) (attrs : Array Attribute := #[]) (ms : Array MethodInfo := #[]) (fl : Nat := 33) (sup : Nat := 0) (ifs : Array Nat := #[]) (fds : Array FieldInfo := #[]) : ClassFile where
  minorVersion := 0
  majorVersion := 65
  constantPool := pool
  accessFlags := fl
  thisClass := this
  superClass := sup
  interfaces := ifs
  fields := fds
  methods := ms
  attributes := attrs
def plain (name : String) (sup : Option ClassId) : Class where
  name := name
  kind := .ordinary
  loader := none
  accessFlags := 33
  super := sup
  interfaces := #[]
  cf := none
  fields := #[]
  methods := #[]
  instanceTypes := #[]
  staticTypes := #[]
  resolved := #[]
  callSites := []
  init := .initialized
  statics := none
  mirror := none

def pool0 : Array CpInfo := pool [(5, u "<init>"), (0, u "()V"), (1, .class_ 10), (1, u "java/lang/Object")] 113

def k0c0 : Code := { maxStack := 0, maxLocals := 1, code := object_method_1_code, exceptionTable := #[], attributes := #[] }
def k0m0 : Method := { name := "<init>", desc := "()V", sig := { parameters := [], returnType := none }, accessFlags := 1, code := some k0c0 }
/-- java/lang/Object -/
def k0 : Class := { plain "java/lang/Object" none with
  accessFlags := 33
  interfaces := #[]
  cf := some (fileOf pool0 8 #[] #[{ accessFlags := 1, nameIndex := 5, descriptorIndex := 6, attributes := #[] }] 33 0 #[] #[])
  fields := #[]
  methods := #[k0m0]
  instanceTypes := #[]
  staticTypes := #[]
  resolved := Array.replicate 124 none
  statics := none }

def pool1 : Array CpInfo := pool [(2, .class_ 4), (1, u "java/lang/Object"), (0, u "<init>"), (0, u "()V"), (0, .integer 2147483647), (0, .class_ 9), (0, u "com/example/spare_calculus/sparecalculus/bisim/Partition"), (0, .methodref 8 11), (0, .nameAndType 5 12), (0, u "(I)V"), (0, .methodref 8 14), (0, .nameAndType 15 12), (0, u "mark"), (0, .methodref 8 17), (0, .nameAndType 18 19), (0, u "markedEnd"), (0, u "(I)I"), (0, .methodref 8 21), (0, .nameAndType 22 23), (0, u "touchedCount"), (0, u "()I"), (0, .methodref 8 25), (0, .nameAndType 26 19), (0, u "touched"), (0, .methodref 8 28), (0, .nameAndType 29 19), (0, u "state"), (0, .methodref 8 31), (0, .nameAndType 32 33), (0, u "marked"), (0, u "(I)Z"), (0, .class_ 35), (0, u "com/example/spare_calculus/sparecalculus/bisim/PartitionMarkPinLaw"), (2, u "law"), (0, u "(IIIII)Z")] 3

def k1m0 : Method := { name := "<init>", desc := "()V", sig := { parameters := [], returnType := none }, accessFlags := 1, code := none }
def k1c1 : Code := { maxStack := 3, maxLocals := 18, code := code, exceptionTable := #[], attributes := #[] }
def k1m1 : Method := { name := "law", desc := "(IIIII)Z", sig := { parameters := [.int, .int, .int, .int, .int], returnType := some .boolean }, accessFlags := 9, code := some k1c1 }
/-- com/example/spare_calculus/sparecalculus/bisim/PartitionMarkPinLaw -/
def k1 : Class := { plain "com/example/spare_calculus/sparecalculus/bisim/PartitionMarkPinLaw" (some 0) with
  accessFlags := 49
  interfaces := #[]
  cf := some (fileOf pool1 34 #[] #[{ accessFlags := 1, nameIndex := 5, descriptorIndex := 6, attributes := #[] }, { accessFlags := 9, nameIndex := 38, descriptorIndex := 39, attributes := #[] }] 49 2 #[] #[])
  fields := #[]
  methods := #[k1m0, k1m1]
  instanceTypes := #[]
  staticTypes := #[]
  resolved := Array.replicate 43 none
  statics := none }

def pool2 : Array CpInfo := pool [(1, .methodref 2 3), (0, .class_ 4), (0, .nameAndType 5 6), (0, u "java/lang/Object"), (0, u "<init>"), (0, u "()V"), (0, .fieldref 8 9), (0, .class_ 10), (0, .nameAndType 11 12), (0, u "com/example/spare_calculus/sparecalculus/bisim/Partition"), (0, u "elements"), (0, u "[I"), (0, .fieldref 8 14), (0, .nameAndType 15 12), (0, u "positions"), (0, .fieldref 8 17), (0, .nameAndType 18 12), (0, u "blockOf"), (0, .fieldref 8 20), (0, .nameAndType 21 12), (0, u "blockStart"), (0, .fieldref 8 23), (0, .nameAndType 24 12), (0, u "blockEnd"), (0, .fieldref 8 26), (0, .nameAndType 27 12), (0, u "blockMarkedEnd"), (0, .fieldref 8 29), (0, .nameAndType 30 12), (0, u "touchedBlocks"), (0, .fieldref 8 32), (0, .nameAndType 33 34), (0, u "blockCount"), (0, u "I"), (0, .fieldref 8 36), (0, .nameAndType 37 34), (0, u "touchedBlockCount"), (12, u "NONE"), (2, u "(I)V"), (3, u "()I"), (0, u "(I)I"), (3, u "state"), (0, u "markedEnd"), (0, u "marked"), (0, u "(I)Z"), (0, u "mark"), (0, u "touchedCount"), (0, u "touched")] 9

def k2c0 : Code := { maxStack := 3, maxLocals := 3, code := prog_16_method_1_code, exceptionTable := #[], attributes := #[] }
def k2m0 : Method := { name := "<init>", desc := "(I)V", sig := { parameters := [.int], returnType := none }, accessFlags := 0, code := some k2c0 }
def k2c1 : Code := { maxStack := 2, maxLocals := 2, code := prog_16_method_7_code, exceptionTable := #[], attributes := #[] }
def k2m1 : Method := { name := "state", desc := "(I)I", sig := { parameters := [.int], returnType := some .int }, accessFlags := 0, code := some k2c1 }
def k2c2 : Code := { maxStack := 2, maxLocals := 2, code := prog_16_method_8_code, exceptionTable := #[], attributes := #[] }
def k2m2 : Method := { name := "markedEnd", desc := "(I)I", sig := { parameters := [.int], returnType := some .int }, accessFlags := 0, code := some k2c2 }
def k2c3 : Code := { maxStack := 4, maxLocals := 2, code := prog_16_method_9_code, exceptionTable := #[], attributes := #[] }
def k2m3 : Method := { name := "marked", desc := "(I)Z", sig := { parameters := [.int], returnType := some .boolean }, accessFlags := 0, code := some k2c3 }
def k2c4 : Code := { maxStack := 4, maxLocals := 6, code := prog_16_method_10_code, exceptionTable := #[], attributes := #[] }
def k2m4 : Method := { name := "mark", desc := "(I)V", sig := { parameters := [.int], returnType := none }, accessFlags := 0, code := some k2c4 }
def k2c5 : Code := { maxStack := 1, maxLocals := 1, code := prog_16_method_11_code, exceptionTable := #[], attributes := #[] }
def k2m5 : Method := { name := "touchedCount", desc := "()I", sig := { parameters := [], returnType := some .int }, accessFlags := 0, code := some k2c5 }
def k2c6 : Code := { maxStack := 2, maxLocals := 2, code := prog_16_method_12_code, exceptionTable := #[], attributes := #[] }
def k2m6 : Method := { name := "touched", desc := "(I)I", sig := { parameters := [.int], returnType := some .int }, accessFlags := 0, code := some k2c6 }
/-- com/example/spare_calculus/sparecalculus/bisim/Partition -/
def k2 : Class := { plain "com/example/spare_calculus/sparecalculus/bisim/Partition" (some 0) with
  accessFlags := 32
  interfaces := #[]
  cf := some (fileOf pool2 8 #[] #[{ accessFlags := 0, nameIndex := 5, descriptorIndex := 53, attributes := #[] }, { accessFlags := 0, nameIndex := 62, descriptorIndex := 58, attributes := #[] }, { accessFlags := 0, nameIndex := 63, descriptorIndex := 58, attributes := #[] }, { accessFlags := 0, nameIndex := 64, descriptorIndex := 65, attributes := #[] }, { accessFlags := 0, nameIndex := 66, descriptorIndex := 53, attributes := #[] }, { accessFlags := 0, nameIndex := 67, descriptorIndex := 57, attributes := #[] }, { accessFlags := 0, nameIndex := 68, descriptorIndex := 58, attributes := #[] }] 32 2 #[] #[{ accessFlags := 24, nameIndex := 50, descriptorIndex := 34, attributes := #[] }, { accessFlags := 18, nameIndex := 11, descriptorIndex := 12, attributes := #[] }, { accessFlags := 18, nameIndex := 15, descriptorIndex := 12, attributes := #[] }, { accessFlags := 18, nameIndex := 18, descriptorIndex := 12, attributes := #[] }, { accessFlags := 18, nameIndex := 21, descriptorIndex := 12, attributes := #[] }, { accessFlags := 18, nameIndex := 24, descriptorIndex := 12, attributes := #[] }, { accessFlags := 18, nameIndex := 27, descriptorIndex := 12, attributes := #[] }, { accessFlags := 2, nameIndex := 33, descriptorIndex := 34, attributes := #[] }, { accessFlags := 18, nameIndex := 30, descriptorIndex := 12, attributes := #[] }, { accessFlags := 2, nameIndex := 37, descriptorIndex := 34, attributes := #[] }])
  fields := #[{ name := "NONE", type := .int, accessFlags := 24, slot := 0, constantValue := 0 }, { name := "elements", type := (.array .int), accessFlags := 18, slot := 0, constantValue := 0 }, { name := "positions", type := (.array .int), accessFlags := 18, slot := 1, constantValue := 0 }, { name := "blockOf", type := (.array .int), accessFlags := 18, slot := 2, constantValue := 0 }, { name := "blockStart", type := (.array .int), accessFlags := 18, slot := 3, constantValue := 0 }, { name := "blockEnd", type := (.array .int), accessFlags := 18, slot := 4, constantValue := 0 }, { name := "blockMarkedEnd", type := (.array .int), accessFlags := 18, slot := 5, constantValue := 0 }, { name := "blockCount", type := .int, accessFlags := 2, slot := 6, constantValue := 0 }, { name := "touchedBlocks", type := (.array .int), accessFlags := 18, slot := 7, constantValue := 0 }, { name := "touchedBlockCount", type := .int, accessFlags := 2, slot := 8, constantValue := 0 }]
  methods := #[k2m0, k2m1, k2m2, k2m3, k2m4, k2m5, k2m6]
  instanceTypes := #[(.array .int), (.array .int), (.array .int), (.array .int), (.array .int), (.array .int), .int, (.array .int), .int]
  staticTypes := #[.int]
  resolved := Array.replicate 78 none
  statics := none }

def pool3 : Array CpInfo := pool [(1, u "java/lang/Cloneable"), (0, .class_ 1), (0, u "java/lang/Object"), (0, .class_ 3)] 3

/-- java/lang/Cloneable -/
def k3 : Class := { plain "java/lang/Cloneable" (some 0) with
  accessFlags := 1537
  interfaces := #[]
  cf := some (fileOf pool3 2 #[] #[] 1537 4 #[] #[])
  fields := #[]
  methods := #[]
  instanceTypes := #[]
  staticTypes := #[]
  resolved := Array.replicate 8 none
  statics := none }

def pool4 : Array CpInfo := pool [(1, u "java/io/Serializable"), (0, .class_ 1), (0, u "java/lang/Object"), (0, .class_ 3)] 3

/-- java/io/Serializable -/
def k4 : Class := { plain "java/io/Serializable" (some 0) with
  accessFlags := 1537
  interfaces := #[]
  cf := some (fileOf pool4 2 #[] #[] 1537 4 #[] #[])
  fields := #[]
  methods := #[]
  instanceTypes := #[]
  staticTypes := #[]
  resolved := Array.replicate 8 none
  statics := none }

/-- the primitive byte -/
def k5 : Class := { plain "byte" none with kind := .primitive 'B', accessFlags := 0x411 }
/-- [B -/
def k6 : Class := { plain "[B" (some 0) with kind := .array 5 .byte, interfaces := #[3, 4], accessFlags := 1041 }

/-- the primitive int -/
def k7 : Class := { plain "int" none with kind := .primitive 'I', accessFlags := 0x411 }
/-- [I -/
def k8 : Class := { plain "[I" (some 0) with kind := .array 7 .int, interfaces := #[3, 4], accessFlags := 1041 }

def heap : Heap := #[]
def classes : Array Class := #[k0, k1, k2, k3, k4, k5, k6, k7, k8]
def interned : List (Array UInt16 × Addr) := []
def slotsUsed : Nat := 0
def theMethod : MethodId := ⟨1, 1⟩
def args0 : Array Value := #[.int 5, .int 5, .int 5, .int 5, .int 5]
def aboutOver (below : List Frame) : State where
  vm := { classes := classes, interned := interned.toArray }
  heap := heap
  slotsUsed := slotsUsed
  threads := #[{ frames := .invoking theMethod args0 :: below }]
def below0 : List Frame := [.native { method := ⟨0, 0⟩, args := #[] }]
def about1 : State := aboutOver below0
def p0 : Program := .bare "" "" ""
def e0 : Env := launch0.env 0 0 0
theorem w_frames : about1.frames = Frame.invoking theMethod args0 :: below0 := rfl
set_option maxRecDepth 65536 in
theorem w_args : argsFit about1.vm theMethod args0 = true := by decide +kernel
set_option maxRecDepth 65536 in
theorem w_heap : heapFits about1 = true := by decide +kernel
set_option maxRecDepth 65536 in
theorem w_runnable : about1.curStatus? = some .runnable := by decide +kernel
set_option maxRecDepth 65536 in
theorem w_alone : about1.alone = true := by decide +kernel
set_option maxRecDepth 65536 in
theorem w_named : about1.methodNamed? x = some theMethod := by decide +kernel
set_option maxRecDepth 65536 in
theorem w_hears : about1.hears theMethod below0 = true := by decide +kernel
set_option maxRecDepth 65536 in
theorem w_ripe : about1.ripe theMethod args0 below0 = true := by decide +kernel
theorem w_running : about1.status = .running := rfl
set_option maxRecDepth 65536 in
theorem w_room : about1.hasRoom e0.platform room_1 = true :=
  launch0.hasRoom_least _ room_1 (by decide +kernel) (by decide +kernel) (by decide +kernel) (by decide +kernel) (by decide +kernel) (by decide +kernel)
theorem allAtoms_all (ts : List Jvm.Cond) (a : Array Jvm.Value) (st : Jvm.State) : (allAtoms ts).before a st = ts.all (fun c => c.before a st) := by
  induction ts with
  | nil => rfl
  | cons c t ih =>
    show (Jvm.Cond.and c (allAtoms t)).before a st = _
    rw [Jvm.Cond.before_and, ih, List.all_cons]
def words1 : List Jvm.Cond := Jvm.Cond.code x code maxLocals ret :: tables_1
/-- a 'code' word, met by the world's own term for the bytes: nothing is compared byte by byte -/
theorem code_word {y : MethodName} {bytes : ByteArray} {mx : Nat} {rt : Option FieldType} {a : Array Value} {s : State} {m : MethodId} {meth : Method} {c : Code} (h1 : s.methodNamed? y = some m) (h2 : s.vm.method? m = some meth) (h3 : meth.code = some c) (h4 : c.code = bytes)
    (h5 : (c.maxLocals == mx && c.exceptionTable.isEmpty && decide (c.maxStack ≤ mostOperands) && decide (meth.sig.returnType = rt) && !meth.locks && decide (parseMethodDescriptor y.desc = some meth.sig)) = true) : (Jvm.Cond.code y bytes mx rt).before a s = true := by
  simp only [Bool.and_eq_true, beq_iff_eq, Bool.not_eq_true', decide_eq_true_eq] at h5
  obtain ⟨⟨⟨⟨⟨g1, g2⟩, g3⟩, g4⟩, g5⟩, g6⟩ := h5
  simp [Cond.before, Cond.holds, Cond.value, h1, h2, h3, h4, g1, g2, g3, g4, g5, g6]
def isCode : Jvm.Cond → Bool
  | .code _ _ _ _ => true
  | _ => false
theorem all_split {L : List Jvm.Cond} {P : Jvm.Cond → Bool} (h1 : L.all (fun c => isCode c || P c) = true) (h2 : ∀ c ∈ L.filter isCode, P c = true) : L.all P = true := by
  refine List.all_eq_true.mpr fun c hc => ?_
  have h := List.all_eq_true.mp h1 c hc
  rcases Bool.eq_false_or_eq_true (isCode c) with hi | hi
  · exact h2 c (List.mem_filter.mpr ⟨hc, hi⟩)
  · simpa [hi] using h
set_option maxRecDepth 65536 in
theorem w_c0 : (Jvm.Cond.code x code maxLocals ret).before args0 about1 = true := code_word (m := ⟨1, 1⟩) (meth := k1m1) (c := k1c1) (by decide +kernel) rfl rfl rfl (by decide +kernel)
set_option maxRecDepth 65536 in
theorem w_c1 : (Jvm.Cond.code ({ cls := "com/example/spare_calculus/sparecalculus/bisim/Partition", name := "<init>", desc := "(I)V" } : Jvm.MethodName) prog_16_method_1_code (3 : Nat) (Option.none : Option Jvm.ClassFile.FieldType)).before args0 about1 = true := code_word (m := ⟨2, 0⟩) (meth := k2m0) (c := k2c0) (by decide +kernel) rfl rfl rfl (by decide +kernel)
set_option maxRecDepth 65536 in
theorem w_c2 : (Jvm.Cond.code ({ cls := "java/lang/Object", name := "<init>", desc := "()V" } : Jvm.MethodName) object_method_1_code (1 : Nat) (Option.none : Option Jvm.ClassFile.FieldType)).before args0 about1 = true := code_word (m := ⟨0, 0⟩) (meth := k0m0) (c := k0c0) (by decide +kernel) rfl rfl rfl (by decide +kernel)
set_option maxRecDepth 65536 in
theorem w_c3 : (Jvm.Cond.code ({ cls := "com/example/spare_calculus/sparecalculus/bisim/Partition", name := "mark", desc := "(I)V" } : Jvm.MethodName) prog_16_method_10_code (6 : Nat) (Option.none : Option Jvm.ClassFile.FieldType)).before args0 about1 = true := code_word (m := ⟨2, 4⟩) (meth := k2m4) (c := k2c4) (by decide +kernel) rfl rfl rfl (by decide +kernel)
set_option maxRecDepth 65536 in
theorem w_c4 : (Jvm.Cond.code ({ cls := "com/example/spare_calculus/sparecalculus/bisim/Partition", name := "markedEnd", desc := "(I)I" } : Jvm.MethodName) prog_16_method_8_code (2 : Nat) (Option.some Jvm.ClassFile.FieldType.int)).before args0 about1 = true := code_word (m := ⟨2, 2⟩) (meth := k2m2) (c := k2c2) (by decide +kernel) rfl rfl rfl (by decide +kernel)
set_option maxRecDepth 65536 in
theorem w_c5 : (Jvm.Cond.code ({ cls := "com/example/spare_calculus/sparecalculus/bisim/Partition", name := "touchedCount", desc := "()I" } : Jvm.MethodName) prog_16_method_11_code (1 : Nat) (Option.some Jvm.ClassFile.FieldType.int)).before args0 about1 = true := code_word (m := ⟨2, 5⟩) (meth := k2m5) (c := k2c5) (by decide +kernel) rfl rfl rfl (by decide +kernel)
set_option maxRecDepth 65536 in
theorem w_c6 : (Jvm.Cond.code ({ cls := "com/example/spare_calculus/sparecalculus/bisim/Partition", name := "touched", desc := "(I)I" } : Jvm.MethodName) prog_16_method_12_code (2 : Nat) (Option.some Jvm.ClassFile.FieldType.int)).before args0 about1 = true := code_word (m := ⟨2, 6⟩) (meth := k2m6) (c := k2c6) (by decide +kernel) rfl rfl rfl (by decide +kernel)
set_option maxRecDepth 65536 in
theorem w_c7 : (Jvm.Cond.code ({ cls := "com/example/spare_calculus/sparecalculus/bisim/Partition", name := "state", desc := "(I)I" } : Jvm.MethodName) prog_16_method_7_code (2 : Nat) (Option.some Jvm.ClassFile.FieldType.int)).before args0 about1 = true := code_word (m := ⟨2, 1⟩) (meth := k2m1) (c := k2c1) (by decide +kernel) rfl rfl rfl (by decide +kernel)
set_option maxRecDepth 65536 in
theorem w_c8 : (Jvm.Cond.code ({ cls := "com/example/spare_calculus/sparecalculus/bisim/Partition", name := "marked", desc := "(I)Z" } : Jvm.MethodName) prog_16_method_9_code (2 : Nat) (Option.some Jvm.ClassFile.FieldType.boolean)).before args0 about1 = true := code_word (m := ⟨2, 3⟩) (meth := k2m3) (c := k2c3) (by decide +kernel) rfl rfl rfl (by decide +kernel)
def codes1 : List Jvm.Cond := [Jvm.Cond.code x code maxLocals ret, Jvm.Cond.code ({ cls := "com/example/spare_calculus/sparecalculus/bisim/Partition", name := "<init>", desc := "(I)V" } : Jvm.MethodName) prog_16_method_1_code (3 : Nat) (Option.none : Option Jvm.ClassFile.FieldType), Jvm.Cond.code ({ cls := "java/lang/Object", name := "<init>", desc := "()V" } : Jvm.MethodName) object_method_1_code (1 : Nat) (Option.none : Option Jvm.ClassFile.FieldType), Jvm.Cond.code ({ cls := "com/example/spare_calculus/sparecalculus/bisim/Partition", name := "mark", desc := "(I)V" } : Jvm.MethodName) prog_16_method_10_code (6 : Nat) (Option.none : Option Jvm.ClassFile.FieldType), Jvm.Cond.code ({ cls := "com/example/spare_calculus/sparecalculus/bisim/Partition", name := "markedEnd", desc := "(I)I" } : Jvm.MethodName) prog_16_method_8_code (2 : Nat) (Option.some Jvm.ClassFile.FieldType.int), Jvm.Cond.code ({ cls := "com/example/spare_calculus/sparecalculus/bisim/Partition", name := "touchedCount", desc := "()I" } : Jvm.MethodName) prog_16_method_11_code (1 : Nat) (Option.some Jvm.ClassFile.FieldType.int), Jvm.Cond.code ({ cls := "com/example/spare_calculus/sparecalculus/bisim/Partition", name := "touched", desc := "(I)I" } : Jvm.MethodName) prog_16_method_12_code (2 : Nat) (Option.some Jvm.ClassFile.FieldType.int), Jvm.Cond.code ({ cls := "com/example/spare_calculus/sparecalculus/bisim/Partition", name := "state", desc := "(I)I" } : Jvm.MethodName) prog_16_method_7_code (2 : Nat) (Option.some Jvm.ClassFile.FieldType.int), Jvm.Cond.code ({ cls := "com/example/spare_calculus/sparecalculus/bisim/Partition", name := "marked", desc := "(I)Z" } : Jvm.MethodName) prog_16_method_9_code (2 : Nat) (Option.some Jvm.ClassFile.FieldType.boolean)]
set_option maxRecDepth 65536 in
theorem codes_eq : words1.filter isCode = codes1 := rfl
theorem w_codes : ∀ c ∈ words1.filter isCode, c.before args0 about1 = true := by
  rw [codes_eq]
  intro c hc
  simp only [codes1, List.mem_cons, List.not_mem_nil, or_false] at hc
  rcases hc with rfl | rfl | rfl | rfl | rfl | rfl | rfl | rfl | rfl
  · exact w_c0
  · exact w_c1
  · exact w_c2
  · exact w_c3
  · exact w_c4
  · exact w_c5
  · exact w_c6
  · exact w_c7
  · exact w_c8
set_option maxRecDepth 65536 in
theorem w_t1 : (words1.take 24).all (fun c => isCode c || c.before args0 about1) = true := by decide +kernel
set_option maxRecDepth 65536 in
theorem w_t2 : ((words1.drop 24).take 24).all (fun c => isCode c || c.before args0 about1) = true := by decide +kernel
set_option maxRecDepth 65536 in
theorem w_t3 : ((words1.drop 24).drop 24).all (fun c => isCode c || c.before args0 about1) = true := by decide +kernel
theorem w_tables : (allAtoms (Jvm.Cond.code x code maxLocals ret :: tables_1)).before args0 about1 = true := by
  rw [allAtoms_all]
  show words1.all (fun c => c.before args0 about1) = true
  refine all_split ?_ w_codes
  rw [← List.take_append_drop 24 words1, List.all_append, w_t1, ← List.take_append_drop 24 (words1.drop 24), List.all_append, w_t2, w_t3]
  rfl
set_option maxRecDepth 65536 in
theorem w_case : (Jvm.Cond.and given_1 narrow_1).before args0 about1 = true := by decide +kernel
theorem w_applies : (headSpec (Jvm.Cond.code x code maxLocals ret :: tables_1) room_1).applies x e0.platform about1 = true :=
  (Spec.applies_iff w_frames).mpr ⟨w_running, w_runnable, w_alone, w_named, w_hears, w_ripe, w_room, w_tables⟩
theorem atStart : AtStart classFile x code maxLocals ret World_1 tables_1 room_1 Calls_1 rest_1 Pre_1 launch0 p0 e0 about1 theMethod args0 below0 :=
  ⟨lists_1, trivial, launch0.admits_env _ _ _, launch0.least_env, fairChoices_fair.cas, fairChoices_fair.clock, w_frames, w_args, w_heap, w_applies, trivial, trivial, w_case⟩
end start1
theorem witness_1 : WitnessClaimed_1 := ⟨start1.p0, start1.e0, start1.about1, start1.theMethod, start1.args0, start1.below0, start1.atStart⟩
end Jvm.Pilot.@@N@@
